import JvmDerived
import JvmDerived.Pilot.@@N@@Statement
import JvmDerived.Pilot.@@N@@Code
set_option linter.unusedVariables false
set_option linter.unusedSimpArgs false
namespace Jvm.Pilot.@@N@@
open Jvm Jvm.ClassFile Sem Op Lib Jvm.Free Jvm.Stand Jvm.LawKit Jvm.RoadKit Bundle Jvm.Pilot.@@N@@.Jvm.D
/-- what the end of a body says -/
def own_K (s : State) (Q : Option Value → Heap → List Loc → Prop) (C S : Nat) (o : Outcome) (U : State) : Prop := ∃ v L, o = .returned v ∧ Q v U.heap L ∧ FrameEnd s o U L C S
/-- the run goes from S to a return of which K is true -/
def own_Go (p : Program) (e : Env) (below : List Frame) (K : Outcome → State → Prop) (S : State) : Prop := ∃ s₂ o, Steps p.tables e below S s₂ ∧ s₂.status = .running ∧ Ended s₂ below o ∧ K o s₂
/-- the answer of a body that leaves the heap alone -/
def own_Q (val : Value) (h0 : Heap) (n0 : Nat) (v : Option Value) (h : Heap) (L : List Loc) : Prop := v = some val ∧ Fr n0 L ∧ h = h0
section Own
variable {p : Program} {l : Launch} {e : Env} {R : Room} {s : State} {m : MethodId} {args : Array Value} {below : List Frame} {meth : Method} {c : Code} {T : State} {locs : List Loc} {cells slots : Nat} {K : Outcome → State → Prop} {Q : Option Value → Heap → List Loc → Prop} {C S : Nat}
theorem own_by {S S' : State} (h : ∀ t, Steps p.tables e below S' t → Steps p.tables e below S t) (g : own_Go p e below K S') : own_Go p e below K S := by
  obtain ⟨u, o, st, r⟩ := g
  exact ⟨u, o, h u st, r⟩
theorem own_tr {S S' : State} (h : Steps p.tables e below S S') (g : own_Go p e below K S') : own_Go p e below K S := own_by (fun _ k => h.trans k) g
theorem own_hide {n0 : Nat} (X : Stand p l e R s m args below meth c T locs cells slots) (N : Fr n0 locs) : ∃ L, Stand p l e R s m args below meth c T L cells slots ∧ Fr n0 L := ⟨_, X, N⟩
/-- return of a value that is of its kind -/
theorem own_ret (X : Stand p l e R s m args below meth c T locs cells slots) (hx : p.tables.exec = Jvm.exec) (hlk : meth.locks = false) {pc : Nat} {Ls : Array Slot} {w : Value} {t : FieldType} {i : Instr} {rest : List Value} (hret : meth.sig.returnType = some t) (hn : narrow t w = w)
    (hi : (i = .ireturn ∧ (t = .int ∨ t = .boolean ∨ t = .byte ∨ t = .char ∨ t = .short) ∧ ∃ z, w = .int z) ∨ (i = .lreturn ∧ t = .long ∧ ∃ z, w = .long z) ∨ (i = .dreturn ∧ t = .double ∧ ∃ z, w = .double z) ∨ (i = .freturn ∧ t = .float ∧ ∃ z, w = .float z) ∨ (i = .areturn ∧ t.isReference = true ∧ w.isRef = true))
    (hd : decode c.code pc = .ok (i, 1)) (hQ : Q (some w) T.heap locs) (hc : cells ≤ C) (hs : slots ≤ S) : own_Go p e below (own_K s Q C S) (T.setTop (mkF m pc Ls (w :: rest))) := by
  obtain ⟨fs, hr, hrun, hended, hW, hsame⟩ := X.leave (v := some w) (fun h => by rw [hret] at h; cases h) hlk
  exact ⟨_, _, retOut X hx hret hn hi hd hr, hrun, hended, _, _, rfl, hQ, ⟨_, rfl⟩, hW, hsame.mono hc hs⟩
/-- return of a boolean, byte, char or short, narrowed -/
theorem own_retN (X : Stand p l e R s m args below meth c T locs cells slots) (hx : p.tables.exec = Jvm.exec) (hlk : meth.locks = false) {pc : Nat} {Ls : Array Slot} {z : Int32} {t : FieldType} {rest : List Value} (hret : meth.sig.returnType = some t) (ht : t = .boolean ∨ t = .byte ∨ t = .char ∨ t = .short)
    (hd : decode c.code pc = .ok (.ireturn, 1)) (hQ : Q (some (.int (nar t z))) T.heap locs) (hc : cells ≤ C) (hs : slots ≤ S) : own_Go p e below (own_K s Q C S) (T.setTop (mkF m pc Ls (.int z :: rest))) := by
  obtain ⟨fs, hr, hrun, hended, hW, hsame⟩ := X.leave (v := some (.int (nar t z))) (fun h => by rw [hret] at h; cases h) hlk
  exact ⟨_, _, retN X hx hret ht hd hr, hrun, hended, _, _, rfl, hQ, ⟨_, rfl⟩, hW, hsame.mono hc hs⟩
/-- return of nothing -/
theorem own_retV (X : Stand p l e R s m args below meth c T locs cells slots) (hx : p.tables.exec = Jvm.exec) (hlk : meth.locks = false) {pc : Nat} {Ls : Array Slot} (hret : meth.sig.returnType = none)
    (hd : decode c.code pc = .ok (.return_, 1)) (hQ : Q none T.heap locs) (hc : cells ≤ C) (hs : slots ≤ S) : own_Go p e below (own_K s Q C S) (T.setTop (mkF m pc Ls [])) := by
  obtain ⟨fs, hr, hrun, hended, hW, hsame⟩ := X.leave (v := none) (fun _ => rfl) hlk
  exact ⟨_, _, X.returnOut hx hret hd hr, hrun, hended, _, _, rfl, hQ, ⟨_, rfl⟩, hW, hsame.mono hc hs⟩
end Own
/-- the array at a holds n ints, the i-th is f i -/
def own_IA (Z : State) (h : Heap) (a : Addr) (n : Nat) (f : Nat → Int32) : Prop := ∃ c : Cell, Arr Z h a c .int ∧ c.slots.size = n ∧ ∀ i, i < n → c.slots[i]? = some (.int (f i))
theorem own_clamp (j : Int32) : j.toNatClampNeg = j.toInt.toNat := rfl
theorem own_in {j : Int32} {k n : Nat} (hk : k = n) (h0 : 0 ≤ j.toInt) (h1 : j.toInt < n) : ¬ (j < 0 ∨ k ≤ j.toNatClampNeg) := by
  rw [own_clamp, Int32.lt_iff_toInt_lt]
  have : (0 : Int32).toInt = 0 := by decide
  omega
section OwnA
variable {p : Program} {l : Launch} {e : Env} {R : Room} {s : State} {m : MethodId} {args : Array Value} {below : List Frame} {meth : Method} {c : Code} {T : State} {locs : List Loc} {cells slots : Nat} {Z : State} {a0 : Array Value} {h h' : Heap} {a b : Addr} {n sl : Nat} {f : Nat → Int32} {v : Value} {ws : List Addr}
theorem own_IA_lt (F : own_IA Z h a n f) : a < h.size := by obtain ⟨c, A, -⟩ := F; exact A.lt
theorem own_IA_ext (F : own_IA Z h a n f) (E : Ext h h') : own_IA Z h' a n f := by obtain ⟨c, A, r⟩ := F; exact ⟨c, A.ext E, r⟩
theorem own_IA_other (F : own_IA Z h b n f) (W : Wr h h' a sl v) (q : b ≠ a) : own_IA Z h' b n f := by obtain ⟨c, A, r⟩ := F; exact ⟨c, A.other W q, r⟩
theorem own_IA_keep (F : own_IA Z h a n f) (K : Keep h h' ws) (q : a ∉ ws) : own_IA Z h' a n f := by obtain ⟨c, A, r⟩ := F; exact ⟨c, ⟨K.2.1 a c A.1 q, A.2⟩, r⟩
theorem own_IA_congr {f' : Nat → Int32} (F : own_IA Z h a n f) (q : ∀ i, i < n → f i = f' i) : own_IA Z h a n f' := by obtain ⟨c, A, S, r⟩ := F; exact ⟨c, A, S, fun i hi => by rw [r i hi, q i hi]⟩
theorem own_newIA (X : Stand p l e R s m args below meth c T locs cells slots) (hx : p.tables.exec = Jvm.exec) (hZ : Z.Warmed39 s.vm) (w : (Cond.arrayClass .int).before a0 Z = true) (eT : T.heap = h) {g : JFrame} (hg : g.method = m) (hd : decode c.code g.pc = .ok (.newarray .int, 2)) {z : Int32} {rest : List Value} (hs : g.stack = .int z :: rest)
    (n : Nat) (hn : z.toInt = n) {cap : Nat} (hcap : n ≤ cap) (hb : cap * 8 ≤ 536870912) (hc : cells + 1 ≤ R.cells) (hl : slots + cap ≤ R.slots) :
    ∃ (T' : State) (h' : Heap) (a : Addr), Stand p l e R s m args below meth c T' locs (cells + 1) (slots + cap) ∧ T'.heap = h' ∧ a = h.size ∧ Ext h h' ∧ own_IA Z h' a n (fun _ => 0) ∧
      ∀ target, Steps p.tables e below (T'.setTop { g with pc := g.pc + 2, stack := .ref a :: rest }) target → Steps p.tables e below (T.setTop g) target := by
  have hz : ¬ z < 0 := by
    rw [Int32.lt_iff_toInt_lt]
    have : (0 : Int32).toInt = 0 := by decide
    omega
  have hk : z.toNatClampNeg = n := by rw [own_clamp]; omega
  obtain ⟨T', h', cA, X', e', E', A', st⟩ := newP (aty := .int) X hx hZ w eT hg hd hs hz (cap := cap) (by omega) hb hc hl
  refine ⟨T', h', h.size, X', e', rfl, E', ⟨_, A', ?_, fun i hi => ?_⟩, st⟩
  · rw [sz_new]; exact hk
  · show (Array.replicate z.toNatClampNeg (defaultValue .int))[i]? = _
    rw [hk, Array.getElem?_replicate, if_pos hi]; rfl
theorem own_stIA (X : Stand p l e R s m args below meth c T locs cells slots) (hx : p.tables.exec = Jvm.exec) (hZ : Z.Warmed39 s.vm) (eT : T.heap = h) (F : own_IA Z h a n f) {j x : Int32} (h0 : 0 ≤ j.toInt) (h1 : j.toInt < n) {g : JFrame} (hg : g.method = m) {rest : List Value} (hs : g.stack = .int x :: .int j :: .ref a :: rest) (hd : decode c.code g.pc = .ok (.iastore, 1)) :
    ∃ T' h', Stand p l e R s m args below meth c T' (locs ++ [⟨a, j.toNatClampNeg⟩]) cells slots ∧ T'.heap = h' ∧ Wr h h' a j.toNatClampNeg (.int x) ∧ own_IA Z h' a n (fun i => if (i : Int) = j.toInt then x else f i) ∧ ∀ target, Steps p.tables e below (T'.setTop { g with pc := g.pc + 1, stack := rest }) target → Steps p.tables e below (T.setTop g) target := by
  obtain ⟨cl, A, S, V⟩ := F
  obtain ⟨T', h', X', e', W, st⟩ := stI X hx hZ eT A (own_in S h0 h1) hg hs hd
  refine ⟨T', h', X', e', W, ⟨_, A.same W, ?_, fun i hi => ?_⟩, st⟩
  · rw [sz_set]; exact S
  · show (cl.slots.setIfInBounds j.toNatClampNeg (.int x))[i]? = some (.int (if (i : Int) = j.toInt then x else f i))
    rw [Array.getElem?_setIfInBounds, own_clamp]
    by_cases q : (i : Int) = j.toInt
    · rw [if_pos (by omega), if_pos (by omega), if_pos q]
    · rw [if_neg (by omega), if_neg q, V i hi]
theorem own_ldIA {target : State} (X : Stand p l e R s m args below meth c T locs cells slots) (hx : p.tables.exec = Jvm.exec) (hZ : Z.Warmed39 s.vm) (eT : T.heap = h) (F : own_IA Z h a n f) {j : Int32} (h0 : 0 ≤ j.toInt) (h1 : j.toInt < n) {g : JFrame} (hg : g.method = m) {rest : List Value} (hs : g.stack = .int j :: .ref a :: rest) (hd : decode c.code g.pc = .ok (.iaload, 1))
    (hr : Steps p.tables e below (T.setTop { g with pc := g.pc + 1, stack := .int (f j.toInt.toNat) :: rest }) target) : Steps p.tables e below (T.setTop g) target := by
  obtain ⟨cl, A, S, V⟩ := F
  exact X.iaload hx (by rw [eT]; exact A.1) (State.isArrayOf_alike hZ.alike A.2.1) A.2.2 (own_in S h0 h1) (by rw [own_clamp]; exact V _ (by omega)) hg hs hd target hr
theorem own_stN (X : Stand p l e R s m args below meth c T locs cells slots) (hx : p.tables.exec = Jvm.exec) (hZ : Z.Warmed39 s.vm) (eT : T.heap = h) (F : own_IA Z h a n f) {j x : Int32} (k : Nat) (hj : j.toInt = k) (h1 : k < n) {g : JFrame} (hg : g.method = m) {rest : List Value} (hs : g.stack = .int x :: .int j :: .ref a :: rest) (hd : decode c.code g.pc = .ok (.iastore, 1)) :
    ∃ T' h', Stand p l e R s m args below meth c T' (locs ++ [⟨a, j.toNatClampNeg⟩]) cells slots ∧ T'.heap = h' ∧ Wr h h' a j.toNatClampNeg (.int x) ∧ own_IA Z h' a n (fun i => if i = k then x else f i) ∧ ∀ target, Steps p.tables e below (T'.setTop { g with pc := g.pc + 1, stack := rest }) target → Steps p.tables e below (T.setTop g) target := by
  obtain ⟨T', h', X', e', W, H, st⟩ := own_stIA X hx hZ eT F (j := j) (x := x) (by omega) (by omega) hg hs hd
  refine ⟨T', h', X', e', W, own_IA_congr H fun i hi => ?_, st⟩
  show (if (i : Int) = j.toInt then x else f i) = (if i = k then x else f i)
  by_cases q : i = k
  · rw [if_pos (by omega), if_pos q]
  · rw [if_neg (by omega), if_neg q]
theorem own_ldN {target : State} (X : Stand p l e R s m args below meth c T locs cells slots) (hx : p.tables.exec = Jvm.exec) (hZ : Z.Warmed39 s.vm) (eT : T.heap = h) (F : own_IA Z h a n f) {j : Int32} (k : Nat) (hj : j.toInt = k) (h1 : k < n) {g : JFrame} (hg : g.method = m) {rest : List Value} (hs : g.stack = .int j :: .ref a :: rest) (hd : decode c.code g.pc = .ok (.iaload, 1))
    (hr : Steps p.tables e below (T.setTop { g with pc := g.pc + 1, stack := .int (f k) :: rest }) target) : Steps p.tables e below (T.setTop g) target := by
  refine own_ldIA X hx hZ eT F (j := j) (by omega) (by omega) hg hs hd ?_
  rw [show j.toInt.toNat = k by omega]; exact hr
theorem own_lenIA {target : State} (X : Stand p l e R s m args below meth c T locs cells slots) (hx : p.tables.exec = Jvm.exec) (hZ : Z.Warmed39 s.vm) (eT : T.heap = h) (F : own_IA Z h a n f) {z : Int32} (hz : n.toInt32 = z) {g : JFrame} (hg : g.method = m) {rest : List Value} (hs : g.stack = .ref a :: rest) (hd : decode c.code g.pc = .ok (.arraylength, 1))
    (hr : Steps p.tables e below (T.setTop { g with pc := g.pc + 1, stack := .int z :: rest }) target) : Steps p.tables e below (T.setTop g) target := by
  obtain ⟨cl, A, S, V⟩ := F
  refine X.arraylength hx (by rw [eT]; exact A.1) (State.isArrayOf_alike hZ.alike A.2.1) hg hs hd target ?_
  rw [S, hz]; exact hr
end OwnA
theorem own_rem_eq {x m : Int32} (hx : 0 ≤ x.toInt) (hm : 0 < m.toInt) : (x - (x / m) * m).toInt = x.toInt % m.toInt := by
  have h1 := x.toInt_lt
  have h2 := m.toInt_lt
  have q0 : 0 ≤ x.toInt / m.toInt := Int.ediv_nonneg hx (by omega)
  have q1 : x.toInt / m.toInt ≤ x.toInt := Int.ediv_le_self _ hx
  have e : x.toInt % m.toInt + m.toInt * (x.toInt / m.toInt) = x.toInt := Int.emod_add_mul_ediv ..
  have r0 : 0 ≤ x.toInt % m.toInt := Int.emod_nonneg _ (by omega)
  have r1 : x.toInt % m.toInt < m.toInt := Int.emod_lt_of_pos _ hm
  have hd : (x / m).toInt = x.toInt / m.toInt := by
    rw [Int32.toInt_div, Int.tdiv_eq_ediv_of_nonneg hx]
    exact Int.bmod_eq_of_le (by omega) (by omega)
  have hmul : ((x / m) * m).toInt = m.toInt * (x.toInt / m.toInt) := by
    rw [Int32.toInt_mul, hd, Int.mul_comm]
    exact Int.bmod_eq_of_le (by omega) (by omega)
  rw [Int32.toInt_sub, hmul, show x.toInt - m.toInt * (x.toInt / m.toInt) = x.toInt % m.toInt by omega]
  exact Int.bmod_eq_of_le (by omega) (by omega)
theorem own_rem {x m : Int32} (hx : 0 ≤ x.toInt) (hm : 0 < m.toInt) : 0 ≤ (x - (x / m) * m).toInt ∧ (x - (x / m) * m).toInt < m.toInt := by
  rw [own_rem_eq hx hm]
  exact ⟨Int.emod_nonneg _ (by omega), Int.emod_lt_of_pos _ hm⟩
theorem own_toInt_nonneg {x : Int32} (h : x.toBitVec.toNat < 2 ^ 31) : x.toInt = x.toBitVec.toNat := by
  show x.toBitVec.toInt = _
  rw [BitVec.toInt_eq_toNat_cond, if_pos (by omega)]
theorem own_and {x : Int32} (k : Nat) (hk : k < 2 ^ 31) {m : Int32} (hm : m.toBitVec = BitVec.ofNat 32 k) : 0 ≤ (x &&& m).toInt ∧ (x &&& m).toInt ≤ k := by
  have h : (x &&& m).toBitVec.toNat ≤ k := by
    rw [Int32.toBitVec_and, BitVec.toNat_and, hm, BitVec.toNat_ofNat, Nat.mod_eq_of_lt (by omega)]
    exact Nat.and_le_right
  rw [own_toInt_nonneg (by omega)]
  omega
theorem own_ushr {x y : Int32} (k : Nat) (hk : (y &&& 31).toUInt32.toNat % 32 = k) : (XT.ushr x y).toBitVec.toNat = x.toBitVec.toNat / 2 ^ k := by
  show (x.toUInt32 >>> (y &&& 31).toUInt32).toNat = _
  rw [UInt32.toNat_shiftRight, hk, Nat.shiftRight_eq_div_pow]; rfl
theorem own_ushr1 (x : Int32) : 0 ≤ (XT.ushr x 1).toInt := by
  have h := own_ushr (x := x) (y := 1) 1 (by decide)
  have hx := x.toBitVec.isLt
  rw [own_toInt_nonneg (by omega)]; omega
theorem own_i {k : Nat} (h : k ≤ 1000) : (Int32.ofNat k).toInt = k := Int32.toInt_ofNat_of_lt (by omega)
theorem own_n32 {k : Nat} (h : k ≤ 1000) : k.toInt32 = Int32.ofNat k := rfl
theorem own_inj {a b : Nat} (ha : a ≤ 1000) (hb : b ≤ 1000) : Int32.ofNat a = Int32.ofNat b ↔ a = b := by
  rw [← Int32.toInt_inj, own_i ha, own_i hb]; omega
theorem own_ilt {a b : Nat} (ha : a ≤ 1000) (hb : b ≤ 1000) : Int32.ofNat a < Int32.ofNat b ↔ a < b := by
  rw [Int32.lt_iff_toInt_lt, own_i ha, own_i hb]; omega
theorem own_inc {k : Nat} (h : k ≤ 999) : Int32.ofNat k + 1 = Int32.ofNat (k + 1) := Int32.toInt_inj.mp (by
  rw [XT.add32 (by rw [own_i (by omega), show (1 : Int32).toInt = 1 from rfl]; constructor <;> omega), own_i (by omega), own_i (by omega)]; rfl)
theorem own_of {x : Int32} {k : Nat} (h : x.toInt = k) : x = Int32.ofNat k := by
  have := x.toInt_lt
  exact Int32.toInt_inj.mp (by rw [h, Int32.toInt_ofNat_of_lt (by omega)])
section OwnC
variable {p : Program} {l : Launch} {e : Env} {R : Room} {s : State} {m : MethodId} {args : Array Value} {below : List Frame} {meth : Method} {c : Code} {T : State} {locs : List Loc} {cells slots : Nat} {Z : State} {a0 : Array Value} {h h' : Heap} {a b : Addr} {n k : Nat} {f f' : Nat → Int32}
theorem own_IA_arv (F : own_IA Z h a n f) (hn : n ≤ 1000) : ∃ q : ClassId, Arv Z h a q .int (Int32.ofNat n) ((List.range n).map fun i => .int (f i)) (.int 0) := by
  obtain ⟨c, A, S, V⟩ := F
  have hz : (Int32.ofNat n).toNatClampNeg = n := by rw [own_clamp, own_i hn]; rfl
  have hg : ∀ i, i < n → (((List.range n).map fun i => (.int (f i) : Value)).getD i (.int 0)) = .int (f i) := fun i hi => by
    simp [List.getD, hi]
  refine ⟨c.cls, c, A, rfl, by rw [S, hz], ?_, fun i hi => ?_, fun i hi => ?_⟩
  · rw [Int32.lt_iff_toInt_lt, own_i hn]
    have : (0 : Int32).toInt = 0 := by decide
    omega
  · rw [hg i (by omega)]; exact V i (by omega)
  · rw [hg i (by omega)]; rfl
theorem own_arv_IA {q : ClassId} {vs : List Value} {d : Value} (F : Arv Z h a q .int (Int32.ofNat n) vs d) (hn : n ≤ 1000) (hf : ∀ i, i < n → vs.getD i d = .int (f i)) : own_IA Z h a n f := by
  obtain ⟨c, A, -, S, -, H, -⟩ := F
  have hz : (Int32.ofNat n).toNatClampNeg = n := by rw [own_clamp, own_i hn]; rfl
  rw [hz] at S
  exact ⟨c, A, S, fun i hi => by rw [H i (by omega), hf i hi]⟩
theorem own_cpIA (X : Stand p l e R s m args below meth c T locs cells slots) (hx : p.tables.exec = Jvm.exec) (hZ : Z.Warmed39 s.vm) {own : String} {index : Nat} (hown : s.vm.findClass own = some m.cls)
    (w1 : (Cond.methodLink own index Jvm.Stand.acN).before a0 Z = true) (w2 : (Cond.native Jvm.Stand.acN).before a0 Z = true) (w3 : (Cond.static Jvm.Stand.acN).before a0 Z = true) (w4 : (Cond.initialized "java/lang/System").before a0 Z = true) (eT : T.heap = h)
    (A : own_IA Z h a n f) (B : own_IA Z h b k f') (hnk : n ≤ k) (hk : k ≤ 1000) {n0 : Nat} (N : Fr n0 locs) (ge : n0 ≤ b)
    {g : JFrame} (hg : g.method = m) (hsize : g.locals.size = c.maxLocals) {rest : List Value} (hs : g.stack = .int (Int32.ofNat n) :: .int 0 :: .ref b :: .int 0 :: .ref a :: rest) (hd : decode c.code g.pc = .ok (.invokestatic index, 3))
    (hf : 1 ≤ R.frames) {W : Nat} (hW : 2 * g.monitorRoom + (rest.map fun v => v.category).sum ≤ W) (hlo : W + (nativeFrameWords "java/lang/System" "arraycopy" 5 + 11) ≤ R.locals) :
    ∃ T' h' L, Stand p l e R s m args below meth c T' L cells slots ∧ T'.heap = h' ∧ Fr n0 L ∧ Keep h h' [b] ∧ own_IA Z h' b k (fun i => if i < n then f i else f' i) ∧
      ∀ target, Steps p.tables e below (T'.setTop { g with pc := g.pc + 3, stack := rest }) target → Steps p.tables e below (T.setTop g) target := by
  obtain ⟨q, A'⟩ := own_IA_arv A (by omega)
  obtain ⟨q', B'⟩ := own_IA_arv B hk
  have hz : ∀ {j : Nat}, j ≤ 1000 → (Int32.ofNat j).toNatClampNeg = j := fun {j} hj => by rw [own_clamp, own_i hj]; rfl
  have z0 : (0 : Int32).toNatClampNeg = 0 := by decide
  have hnn : ¬ Int32.ofNat n < 0 := by
    rw [Int32.lt_iff_toInt_lt, own_i (by omega)]
    have : (0 : Int32).toInt = 0 := by decide
    omega
  obtain ⟨T', h', L, X', e', N', K', V', st⟩ := cpA X hx hZ hown w1 w2 w3 w4 eT A' B' (us := (List.range n).map fun i => .int (f i)) (Or.inl ⟨rfl, rfl⟩) (sp := 0) (dp := 0) (nn := Int32.ofNat n) (by decide) (by decide) hnn (by rw [z0, hz (by omega)]; omega) (by rw [z0, hz (by omega), hz hk]; omega)
    (by
      rw [hz (by omega), z0]
      refine List.map_congr_left fun i hi => ?_
      have := List.mem_range.mp hi
      simp [List.getD, this])
    (by rw [z0, hz (by omega)]; simp; omega) N ge hg hsize hs hd hf hW hlo
  refine ⟨T', h', L, X', e', N', K', own_arv_IA V' hk fun i hi => ?_, st⟩
  rw [z0, hz (by omega), List.take_zero, List.nil_append, Nat.zero_add]
  by_cases q : i < n
  · rw [if_pos q]
    simp [List.getD, List.getElem?_append, q]
  · rw [if_neg q]
    have e1 : n + (i - n) = i := by omega
    simp [List.getD, List.getElem?_append, q, List.getElem?_drop, e1, hi]
end OwnC

/-- the graph at g: its arrays, the first sz places of left, right, colour, and the edges by colour -/
def own_G (Z : State) (h : Heap) (n0 : Nat) (g : Addr) (sd : Int32) (lim sz cap : Nat) (L R C I O : Nat → Int32) : Prop :=
  ∃ (lf rt co ie oe : Addr) (fl fr fc : Nat → Int32), (Exa Z h g "com/example/lambdalane/lambdalane/NodeGraph" ∧ Fld Z h g "com/example/lambdalane/lambdalane/NodeGraph" "side" "I" (.int sd) ∧ Fld Z h g "com/example/lambdalane/lambdalane/NodeGraph" "left" "[I" (.ref lf) ∧ Fld Z h g "com/example/lambdalane/lambdalane/NodeGraph" "right" "[I" (.ref rt) ∧ Fld Z h g "com/example/lambdalane/lambdalane/NodeGraph" "colour" "[I" (.ref co) ∧ Fld Z h g "com/example/lambdalane/lambdalane/NodeGraph" "inEdgeOf" "[I" (.ref ie) ∧ Fld Z h g "com/example/lambdalane/lambdalane/NodeGraph" "outEdgeOf" "[I" (.ref oe) ∧ Fld Z h g "com/example/lambdalane/lambdalane/NodeGraph" "size" "I" (.int (Int32.ofNat sz))) ∧ (own_IA Z h lf cap fl ∧ own_IA Z h rt cap fr ∧ own_IA Z h co cap fc ∧ own_IA Z h ie (lim + 1) I ∧ own_IA Z h oe (lim + 1) O) ∧
    (∀ i, i < sz → fl i = L i ∧ fr i = R i ∧ fc i = C i) ∧ (g ≠ lf ∧ g ≠ rt ∧ g ≠ co ∧ g ≠ ie ∧ g ≠ oe ∧ lf ≠ rt ∧ lf ≠ co ∧ lf ≠ ie ∧ lf ≠ oe ∧ rt ≠ co ∧ rt ≠ ie ∧ rt ≠ oe ∧ co ≠ ie ∧ co ≠ oe ∧ ie ≠ oe) ∧ (n0 ≤ g ∧ n0 ≤ lf ∧ n0 ≤ rt ∧ n0 ≤ co ∧ n0 ≤ ie ∧ n0 ≤ oe ∧ n0 ≤ h.size)
theorem own_pn0 : plainName "com/example/lambdalane/lambdalane/NodeGraph" = true := by first | (simp [plainName, overriddenIn]; done) | decide +kernel
theorem own_pd1 : parseMethodDescriptor "(IIII)V" = some ⟨[.int, .int, .int, .int], none⟩ := by decide +kernel
theorem d1_0 : decode prog_42_method_1_code 0 = .ok (.aload_n 0, 1) := by decide +kernel
theorem d1_1 : decode prog_42_method_1_code 1 = .ok (.invokespecial 1, 3) := by decide +kernel
theorem d1_4 : decode prog_42_method_1_code 4 = .ok (.aload_n 0, 1) := by decide +kernel
theorem d1_5 : decode prog_42_method_1_code 5 = .ok (.iconst 1, 1) := by decide +kernel
theorem d1_6 : decode prog_42_method_1_code 6 = .ok (.putfield 7, 3) := by decide +kernel
theorem d1_9 : decode prog_42_method_1_code 9 = .ok (.aload_n 0, 1) := by decide +kernel
theorem d1_10 : decode prog_42_method_1_code 10 = .ok (.iconst 2, 1) := by decide +kernel
theorem d1_11 : decode prog_42_method_1_code 11 = .ok (.iload_n 1, 1) := by decide +kernel
theorem d1_12 : decode prog_42_method_1_code 12 = .ok (.imul, 1) := by decide +kernel
theorem d1_13 : decode prog_42_method_1_code 13 = .ok (.putfield 13, 3) := by decide +kernel
theorem d1_16 : decode prog_42_method_1_code 16 = .ok (.aload_n 0, 1) := by decide +kernel
theorem d1_17 : decode prog_42_method_1_code 17 = .ok (.iload_n 2, 1) := by decide +kernel
theorem d1_18 : decode prog_42_method_1_code 18 = .ok (.putfield 16, 3) := by decide +kernel
theorem d1_21 : decode prog_42_method_1_code 21 = .ok (.aload_n 0, 1) := by decide +kernel
theorem d1_22 : decode prog_42_method_1_code 22 = .ok (.iload_n 3, 1) := by decide +kernel
theorem d1_23 : decode prog_42_method_1_code 23 = .ok (.putfield 19, 3) := by decide +kernel
theorem d1_26 : decode prog_42_method_1_code 26 = .ok (.aload_n 0, 1) := by decide +kernel
theorem d1_27 : decode prog_42_method_1_code 27 = .ok (.iload 4, 2) := by decide +kernel
theorem d1_29 : decode prog_42_method_1_code 29 = .ok (.newarray .int, 2) := by decide +kernel
theorem d1_31 : decode prog_42_method_1_code 31 = .ok (.putfield 22, 3) := by decide +kernel
theorem d1_34 : decode prog_42_method_1_code 34 = .ok (.aload_n 0, 1) := by decide +kernel
theorem d1_35 : decode prog_42_method_1_code 35 = .ok (.iload 4, 2) := by decide +kernel
theorem d1_37 : decode prog_42_method_1_code 37 = .ok (.newarray .int, 2) := by decide +kernel
theorem d1_39 : decode prog_42_method_1_code 39 = .ok (.putfield 26, 3) := by decide +kernel
theorem d1_42 : decode prog_42_method_1_code 42 = .ok (.aload_n 0, 1) := by decide +kernel
theorem d1_43 : decode prog_42_method_1_code 43 = .ok (.iload 4, 2) := by decide +kernel
theorem d1_45 : decode prog_42_method_1_code 45 = .ok (.newarray .int, 2) := by decide +kernel
theorem d1_47 : decode prog_42_method_1_code 47 = .ok (.putfield 29, 3) := by decide +kernel
theorem d1_50 : decode prog_42_method_1_code 50 = .ok (.aload_n 0, 1) := by decide +kernel
theorem d1_51 : decode prog_42_method_1_code 51 = .ok (.iload_n 3, 1) := by decide +kernel
theorem d1_52 : decode prog_42_method_1_code 52 = .ok (.iconst 1, 1) := by decide +kernel
theorem d1_53 : decode prog_42_method_1_code 53 = .ok (.iadd, 1) := by decide +kernel
theorem d1_54 : decode prog_42_method_1_code 54 = .ok (.newarray .int, 2) := by decide +kernel
theorem d1_56 : decode prog_42_method_1_code 56 = .ok (.putfield 32, 3) := by decide +kernel
theorem d1_59 : decode prog_42_method_1_code 59 = .ok (.aload_n 0, 1) := by decide +kernel
theorem d1_60 : decode prog_42_method_1_code 60 = .ok (.iload_n 3, 1) := by decide +kernel
theorem d1_61 : decode prog_42_method_1_code 61 = .ok (.iconst 1, 1) := by decide +kernel
theorem d1_62 : decode prog_42_method_1_code 62 = .ok (.iadd, 1) := by decide +kernel
theorem d1_63 : decode prog_42_method_1_code 63 = .ok (.newarray .int, 2) := by decide +kernel
theorem d1_65 : decode prog_42_method_1_code 65 = .ok (.putfield 35, 3) := by decide +kernel
theorem d1_68 : decode prog_42_method_1_code 68 = .ok (.aload_n 0, 1) := by decide +kernel
theorem d1_69 : decode prog_42_method_1_code 69 = .ok (.iload_n 3, 1) := by decide +kernel
theorem d1_70 : decode prog_42_method_1_code 70 = .ok (.iconst 1, 1) := by decide +kernel
theorem d1_71 : decode prog_42_method_1_code 71 = .ok (.iadd, 1) := by decide +kernel
theorem d1_72 : decode prog_42_method_1_code 72 = .ok (.newarray .int, 2) := by decide +kernel
theorem d1_74 : decode prog_42_method_1_code 74 = .ok (.putfield 38, 3) := by decide +kernel
theorem d1_77 : decode prog_42_method_1_code 77 = .ok (.aload_n 0, 1) := by decide +kernel
theorem d1_78 : decode prog_42_method_1_code 78 = .ok (.getfield 32, 3) := by decide +kernel
theorem d1_81 : decode prog_42_method_1_code 81 = .ok (.iconst (-1), 1) := by decide +kernel
theorem d1_82 : decode prog_42_method_1_code 82 = .ok (.invokestatic 41, 3) := by decide +kernel
theorem d1_85 : decode prog_42_method_1_code 85 = .ok (.aload_n 0, 1) := by decide +kernel
theorem d1_86 : decode prog_42_method_1_code 86 = .ok (.getfield 35, 3) := by decide +kernel
theorem d1_89 : decode prog_42_method_1_code 89 = .ok (.iconst (-1), 1) := by decide +kernel
theorem d1_90 : decode prog_42_method_1_code 90 = .ok (.invokestatic 41, 3) := by decide +kernel
theorem d1_93 : decode prog_42_method_1_code 93 = .ok (.return_, 1) := by decide +kernel
theorem own_pn2 : plainName "java/util/Arrays" = true := by first | (simp [plainName, overriddenIn]; done) | decide +kernel
theorem own_pd3 : parseMethodDescriptor "([II)V" = some ⟨[(.array .int), .int], none⟩ := by decide +kernel
theorem d3_0 : decode jdk_65_method_103_code 0 = .ok (.iconst 0, 1) := by decide +kernel
theorem d3_1 : decode jdk_65_method_103_code 1 = .ok (.istore_n 2, 1) := by decide +kernel
theorem d3_2 : decode jdk_65_method_103_code 2 = .ok (.aload_n 0, 1) := by decide +kernel
theorem d3_3 : decode jdk_65_method_103_code 3 = .ok (.arraylength, 1) := by decide +kernel
theorem d3_4 : decode jdk_65_method_103_code 4 = .ok (.istore_n 3, 1) := by decide +kernel
theorem d3_5 : decode jdk_65_method_103_code 5 = .ok (.iload_n 2, 1) := by decide +kernel
theorem d3_6 : decode jdk_65_method_103_code 6 = .ok (.iload_n 3, 1) := by decide +kernel
theorem d3_7 : decode jdk_65_method_103_code 7 = .ok (.if_icmp .ge 13, 3) := by decide +kernel
theorem d3_10 : decode jdk_65_method_103_code 10 = .ok (.aload_n 0, 1) := by decide +kernel
theorem d3_11 : decode jdk_65_method_103_code 11 = .ok (.iload_n 2, 1) := by decide +kernel
theorem d3_12 : decode jdk_65_method_103_code 12 = .ok (.iload_n 1, 1) := by decide +kernel
theorem d3_13 : decode jdk_65_method_103_code 13 = .ok (.iastore, 1) := by decide +kernel
theorem d3_14 : decode jdk_65_method_103_code 14 = .ok (.iinc 2 1, 3) := by decide +kernel
theorem d3_17 : decode jdk_65_method_103_code 17 = .ok (.goto (-12), 3) := by decide +kernel
theorem d3_20 : decode jdk_65_method_103_code 20 = .ok (.return_, 1) := by decide +kernel
theorem own_pd4 : parseMethodDescriptor "(III)I" = some ⟨[.int, .int, .int], some .int⟩ := by decide +kernel
theorem d4_0 : decode prog_42_method_2_code 0 = .ok (.aload_n 0, 1) := by decide +kernel
theorem d4_1 : decode prog_42_method_2_code 1 = .ok (.getfield 47, 3) := by decide +kernel
theorem d4_4 : decode prog_42_method_2_code 4 = .ok (.aload_n 0, 1) := by decide +kernel
theorem d4_5 : decode prog_42_method_2_code 5 = .ok (.getfield 22, 3) := by decide +kernel
theorem d4_8 : decode prog_42_method_2_code 8 = .ok (.arraylength, 1) := by decide +kernel
theorem d4_9 : decode prog_42_method_2_code 9 = .ok (.if_icmp .ne 55, 3) := by decide +kernel
theorem d4_12 : decode prog_42_method_2_code 12 = .ok (.bipush 16, 2) := by decide +kernel
theorem d4_14 : decode prog_42_method_2_code 14 = .ok (.iconst 2, 1) := by decide +kernel
theorem d4_15 : decode prog_42_method_2_code 15 = .ok (.aload_n 0, 1) := by decide +kernel
theorem d4_16 : decode prog_42_method_2_code 16 = .ok (.getfield 47, 3) := by decide +kernel
theorem d4_19 : decode prog_42_method_2_code 19 = .ok (.imul, 1) := by decide +kernel
theorem d4_20 : decode prog_42_method_2_code 20 = .ok (.invokestatic 50, 3) := by decide +kernel
theorem d4_23 : decode prog_42_method_2_code 23 = .ok (.istore 4, 2) := by decide +kernel
theorem d4_25 : decode prog_42_method_2_code 25 = .ok (.aload_n 0, 1) := by decide +kernel
theorem d4_26 : decode prog_42_method_2_code 26 = .ok (.aload_n 0, 1) := by decide +kernel
theorem d4_27 : decode prog_42_method_2_code 27 = .ok (.getfield 22, 3) := by decide +kernel
theorem d4_30 : decode prog_42_method_2_code 30 = .ok (.iload 4, 2) := by decide +kernel
theorem d4_32 : decode prog_42_method_2_code 32 = .ok (.invokestatic 56, 3) := by decide +kernel
theorem d4_35 : decode prog_42_method_2_code 35 = .ok (.putfield 22, 3) := by decide +kernel
theorem d4_38 : decode prog_42_method_2_code 38 = .ok (.aload_n 0, 1) := by decide +kernel
theorem d4_39 : decode prog_42_method_2_code 39 = .ok (.aload_n 0, 1) := by decide +kernel
theorem d4_40 : decode prog_42_method_2_code 40 = .ok (.getfield 26, 3) := by decide +kernel
theorem d4_43 : decode prog_42_method_2_code 43 = .ok (.iload 4, 2) := by decide +kernel
theorem d4_45 : decode prog_42_method_2_code 45 = .ok (.invokestatic 56, 3) := by decide +kernel
theorem d4_48 : decode prog_42_method_2_code 48 = .ok (.putfield 26, 3) := by decide +kernel
theorem d4_51 : decode prog_42_method_2_code 51 = .ok (.aload_n 0, 1) := by decide +kernel
theorem d4_52 : decode prog_42_method_2_code 52 = .ok (.aload_n 0, 1) := by decide +kernel
theorem d4_53 : decode prog_42_method_2_code 53 = .ok (.getfield 29, 3) := by decide +kernel
theorem d4_56 : decode prog_42_method_2_code 56 = .ok (.iload 4, 2) := by decide +kernel
theorem d4_58 : decode prog_42_method_2_code 58 = .ok (.invokestatic 56, 3) := by decide +kernel
theorem d4_61 : decode prog_42_method_2_code 61 = .ok (.putfield 29, 3) := by decide +kernel
theorem d4_64 : decode prog_42_method_2_code 64 = .ok (.aload_n 0, 1) := by decide +kernel
theorem d4_65 : decode prog_42_method_2_code 65 = .ok (.getfield 22, 3) := by decide +kernel
theorem d4_68 : decode prog_42_method_2_code 68 = .ok (.aload_n 0, 1) := by decide +kernel
theorem d4_69 : decode prog_42_method_2_code 69 = .ok (.getfield 47, 3) := by decide +kernel
theorem d4_72 : decode prog_42_method_2_code 72 = .ok (.iload_n 1, 1) := by decide +kernel
theorem d4_73 : decode prog_42_method_2_code 73 = .ok (.iastore, 1) := by decide +kernel
theorem d4_74 : decode prog_42_method_2_code 74 = .ok (.aload_n 0, 1) := by decide +kernel
theorem d4_75 : decode prog_42_method_2_code 75 = .ok (.getfield 26, 3) := by decide +kernel
theorem d4_78 : decode prog_42_method_2_code 78 = .ok (.aload_n 0, 1) := by decide +kernel
theorem d4_79 : decode prog_42_method_2_code 79 = .ok (.getfield 47, 3) := by decide +kernel
theorem d4_82 : decode prog_42_method_2_code 82 = .ok (.iload_n 2, 1) := by decide +kernel
theorem d4_83 : decode prog_42_method_2_code 83 = .ok (.iastore, 1) := by decide +kernel
theorem d4_84 : decode prog_42_method_2_code 84 = .ok (.aload_n 0, 1) := by decide +kernel
theorem d4_85 : decode prog_42_method_2_code 85 = .ok (.getfield 29, 3) := by decide +kernel
theorem d4_88 : decode prog_42_method_2_code 88 = .ok (.aload_n 0, 1) := by decide +kernel
theorem d4_89 : decode prog_42_method_2_code 89 = .ok (.getfield 47, 3) := by decide +kernel
theorem d4_92 : decode prog_42_method_2_code 92 = .ok (.iload_n 3, 1) := by decide +kernel
theorem d4_93 : decode prog_42_method_2_code 93 = .ok (.iastore, 1) := by decide +kernel
theorem d4_94 : decode prog_42_method_2_code 94 = .ok (.iload_n 3, 1) := by decide +kernel
theorem d4_95 : decode prog_42_method_2_code 95 = .ok (.ifCond .eq 70, 3) := by decide +kernel
theorem d4_98 : decode prog_42_method_2_code 98 = .ok (.iload_n 1, 1) := by decide +kernel
theorem d4_99 : decode prog_42_method_2_code 99 = .ok (.ifCond .ne 10, 3) := by decide +kernel
theorem d4_102 : decode prog_42_method_2_code 102 = .ok (.aload_n 0, 1) := by decide +kernel
theorem d4_103 : decode prog_42_method_2_code 103 = .ok (.getfield 32, 3) := by decide +kernel
theorem d4_106 : decode prog_42_method_2_code 106 = .ok (.goto 7, 3) := by decide +kernel
theorem d4_109 : decode prog_42_method_2_code 109 = .ok (.aload_n 0, 1) := by decide +kernel
theorem d4_110 : decode prog_42_method_2_code 110 = .ok (.getfield 35, 3) := by decide +kernel
theorem d4_113 : decode prog_42_method_2_code 113 = .ok (.astore 4, 2) := by decide +kernel
theorem d4_115 : decode prog_42_method_2_code 115 = .ok (.iload_n 1, 1) := by decide +kernel
theorem d4_116 : decode prog_42_method_2_code 116 = .ok (.ifCond .ne 7, 3) := by decide +kernel
theorem d4_119 : decode prog_42_method_2_code 119 = .ok (.iconst 1, 1) := by decide +kernel
theorem d4_120 : decode prog_42_method_2_code 120 = .ok (.goto 4, 3) := by decide +kernel
theorem d4_123 : decode prog_42_method_2_code 123 = .ok (.iconst 0, 1) := by decide +kernel
theorem d4_124 : decode prog_42_method_2_code 124 = .ok (.iload_n 2, 1) := by decide +kernel
theorem d4_125 : decode prog_42_method_2_code 125 = .ok (.ifCond .ne 7, 3) := by decide +kernel
theorem d4_128 : decode prog_42_method_2_code 128 = .ok (.iconst 1, 1) := by decide +kernel
theorem d4_129 : decode prog_42_method_2_code 129 = .ok (.goto 4, 3) := by decide +kernel
theorem d4_132 : decode prog_42_method_2_code 132 = .ok (.iconst 0, 1) := by decide +kernel
theorem d4_133 : decode prog_42_method_2_code 133 = .ok (.if_icmp .eq 10, 3) := by decide +kernel
theorem d4_136 : decode prog_42_method_2_code 136 = .ok (.aload 4, 2) := by decide +kernel
theorem d4_138 : decode prog_42_method_2_code 138 = .ok (.iload_n 3, 1) := by decide +kernel
theorem d4_139 : decode prog_42_method_2_code 139 = .ok (.iaload, 1) := by decide +kernel
theorem d4_140 : decode prog_42_method_2_code 140 = .ok (.ifCond .lt 17, 3) := by decide +kernel
theorem d4_143 : decode prog_42_method_2_code 143 = .ok (.new 60, 3) := by decide +kernel
theorem d4_146 : decode prog_42_method_2_code 146 = .ok (.dup, 1) := by decide +kernel
theorem d4_147 : decode prog_42_method_2_code 147 = .ok (.iload_n 3, 1) := by decide +kernel
theorem d4_148 : decode prog_42_method_2_code 148 = .ok (.invokedynamic 62, 5) := by decide +kernel
theorem d4_153 : decode prog_42_method_2_code 153 = .ok (.invokespecial 66, 3) := by decide +kernel
theorem d4_156 : decode prog_42_method_2_code 156 = .ok (.athrow, 1) := by decide +kernel
theorem d4_157 : decode prog_42_method_2_code 157 = .ok (.aload 4, 2) := by decide +kernel
theorem d4_159 : decode prog_42_method_2_code 159 = .ok (.iload_n 3, 1) := by decide +kernel
theorem d4_160 : decode prog_42_method_2_code 160 = .ok (.aload_n 0, 1) := by decide +kernel
theorem d4_161 : decode prog_42_method_2_code 161 = .ok (.getfield 47, 3) := by decide +kernel
theorem d4_164 : decode prog_42_method_2_code 164 = .ok (.iastore, 1) := by decide +kernel
theorem d4_165 : decode prog_42_method_2_code 165 = .ok (.aload_n 0, 1) := by decide +kernel
theorem d4_166 : decode prog_42_method_2_code 166 = .ok (.dup, 1) := by decide +kernel
theorem d4_167 : decode prog_42_method_2_code 167 = .ok (.getfield 47, 3) := by decide +kernel
theorem d4_170 : decode prog_42_method_2_code 170 = .ok (.dup_x1, 1) := by decide +kernel
theorem d4_171 : decode prog_42_method_2_code 171 = .ok (.iconst 1, 1) := by decide +kernel
theorem d4_172 : decode prog_42_method_2_code 172 = .ok (.iadd, 1) := by decide +kernel
theorem d4_173 : decode prog_42_method_2_code 173 = .ok (.putfield 47, 3) := by decide +kernel
theorem d4_176 : decode prog_42_method_2_code 176 = .ok (.ireturn, 1) := by decide +kernel
theorem own_pf5 : plainFor (⟨"java/lang/Math", "max", "(II)I"⟩ : MethodName) = true := by decide +kernel
theorem own_pd6 : parseMethodDescriptor "(II)I" = some ⟨[.int, .int], some .int⟩ := by decide +kernel
theorem d5_0 : decode jdk_29_method_65_code 0 = .ok (.iload_n 0, 1) := by decide +kernel
theorem d5_1 : decode jdk_29_method_65_code 1 = .ok (.iload_n 1, 1) := by decide +kernel
theorem d5_2 : decode jdk_29_method_65_code 2 = .ok (.if_icmp .lt 7, 3) := by decide +kernel
theorem d5_5 : decode jdk_29_method_65_code 5 = .ok (.iload_n 0, 1) := by decide +kernel
theorem d5_6 : decode jdk_29_method_65_code 6 = .ok (.goto 4, 3) := by decide +kernel
theorem d5_9 : decode jdk_29_method_65_code 9 = .ok (.iload_n 1, 1) := by decide +kernel
theorem d5_10 : decode jdk_29_method_65_code 10 = .ok (.ireturn, 1) := by decide +kernel
theorem own_pd7 : parseMethodDescriptor "([II)[I" = some ⟨[(.array .int), .int], some (.array .int)⟩ := by decide +kernel
theorem d6_0 : decode jdk_65_method_123_code 0 = .ok (.iload_n 1, 1) := by decide +kernel
theorem d6_1 : decode jdk_65_method_123_code 1 = .ok (.aload_n 0, 1) := by decide +kernel
theorem d6_2 : decode jdk_65_method_123_code 2 = .ok (.arraylength, 1) := by decide +kernel
theorem d6_3 : decode jdk_65_method_123_code 3 = .ok (.if_icmp .ne 11, 3) := by decide +kernel
theorem d6_6 : decode jdk_65_method_123_code 6 = .ok (.aload_n 0, 1) := by decide +kernel
theorem d6_7 : decode jdk_65_method_123_code 7 = .ok (.invokevirtual 316, 3) := by decide +kernel
theorem d6_10 : decode jdk_65_method_123_code 10 = .ok (.checkcast 317, 3) := by decide +kernel
theorem d6_13 : decode jdk_65_method_123_code 13 = .ok (.areturn, 1) := by decide +kernel
theorem d6_14 : decode jdk_65_method_123_code 14 = .ok (.iload_n 1, 1) := by decide +kernel
theorem d6_15 : decode jdk_65_method_123_code 15 = .ok (.newarray .int, 2) := by decide +kernel
theorem d6_17 : decode jdk_65_method_123_code 17 = .ok (.astore_n 2, 1) := by decide +kernel
theorem d6_18 : decode jdk_65_method_123_code 18 = .ok (.aload_n 0, 1) := by decide +kernel
theorem d6_19 : decode jdk_65_method_123_code 19 = .ok (.iconst 0, 1) := by decide +kernel
theorem d6_20 : decode jdk_65_method_123_code 20 = .ok (.aload_n 2, 1) := by decide +kernel
theorem d6_21 : decode jdk_65_method_123_code 21 = .ok (.iconst 0, 1) := by decide +kernel
theorem d6_22 : decode jdk_65_method_123_code 22 = .ok (.aload_n 0, 1) := by decide +kernel
theorem d6_23 : decode jdk_65_method_123_code 23 = .ok (.arraylength, 1) := by decide +kernel
theorem d6_24 : decode jdk_65_method_123_code 24 = .ok (.iload_n 1, 1) := by decide +kernel
theorem d6_25 : decode jdk_65_method_123_code 25 = .ok (.invokestatic 304, 3) := by decide +kernel
theorem d6_28 : decode jdk_65_method_123_code 28 = .ok (.invokestatic 150, 3) := by decide +kernel
theorem d6_31 : decode jdk_65_method_123_code 31 = .ok (.aload_n 2, 1) := by decide +kernel
theorem d6_32 : decode jdk_65_method_123_code 32 = .ok (.areturn, 1) := by decide +kernel
theorem own_pf8 : plainFor (⟨"java/lang/Math", "min", "(II)I"⟩ : MethodName) = true := by decide +kernel
theorem d7_0 : decode jdk_29_method_69_code 0 = .ok (.iload_n 0, 1) := by decide +kernel
theorem d7_1 : decode jdk_29_method_69_code 1 = .ok (.iload_n 1, 1) := by decide +kernel
theorem d7_2 : decode jdk_29_method_69_code 2 = .ok (.if_icmp .gt 7, 3) := by decide +kernel
theorem d7_5 : decode jdk_29_method_69_code 5 = .ok (.iload_n 0, 1) := by decide +kernel
theorem d7_6 : decode jdk_29_method_69_code 6 = .ok (.goto 4, 3) := by decide +kernel
theorem d7_9 : decode jdk_29_method_69_code 9 = .ok (.iload_n 1, 1) := by decide +kernel
theorem d7_10 : decode jdk_29_method_69_code 10 = .ok (.ireturn, 1) := by decide +kernel
theorem d8_0 : decode prog_42_method_8_code 0 = .ok (.iload_n 2, 1) := by decide +kernel
theorem d8_1 : decode prog_42_method_8_code 1 = .ok (.aload_n 0, 1) := by decide +kernel
theorem d8_2 : decode prog_42_method_8_code 2 = .ok (.getfield 22, 3) := by decide +kernel
theorem d8_5 : decode prog_42_method_8_code 5 = .ok (.iload_n 1, 1) := by decide +kernel
theorem d8_6 : decode prog_42_method_8_code 6 = .ok (.iaload, 1) := by decide +kernel
theorem d8_7 : decode prog_42_method_8_code 7 = .ok (.if_icmp .ne 17, 3) := by decide +kernel
theorem d8_10 : decode prog_42_method_8_code 10 = .ok (.aload_n 0, 1) := by decide +kernel
theorem d8_11 : decode prog_42_method_8_code 11 = .ok (.getfield 13, 3) := by decide +kernel
theorem d8_14 : decode prog_42_method_8_code 14 = .ok (.aload_n 0, 1) := by decide +kernel
theorem d8_15 : decode prog_42_method_8_code 15 = .ok (.getfield 26, 3) := by decide +kernel
theorem d8_18 : decode prog_42_method_8_code 18 = .ok (.iload_n 1, 1) := by decide +kernel
theorem d8_19 : decode prog_42_method_8_code 19 = .ok (.iaload, 1) := by decide +kernel
theorem d8_20 : decode prog_42_method_8_code 20 = .ok (.iadd, 1) := by decide +kernel
theorem d8_21 : decode prog_42_method_8_code 21 = .ok (.goto 9, 3) := by decide +kernel
theorem d8_24 : decode prog_42_method_8_code 24 = .ok (.aload_n 0, 1) := by decide +kernel
theorem d8_25 : decode prog_42_method_8_code 25 = .ok (.getfield 22, 3) := by decide +kernel
theorem d8_28 : decode prog_42_method_8_code 28 = .ok (.iload_n 1, 1) := by decide +kernel
theorem d8_29 : decode prog_42_method_8_code 29 = .ok (.iaload, 1) := by decide +kernel
theorem d8_30 : decode prog_42_method_8_code 30 = .ok (.ireturn, 1) := by decide +kernel
def f5_9 (l0 : Int32) (l1 : Int32) : Int32 := l1
set_option maxRecDepth 65536 in
set_option maxHeartbeats 4000000 in
theorem w5_9 {p : Program} {l : Launch} {e : Env} {s : State} {m : MethodId} {args : Array Value} {below : List Frame} {meth : Method} {c : Code} {T : State} {locs : List Loc} {Z : State} {a0 : Array Value} {n0 : Nat} {h0 : Heap} (X : Stand p l e ({ frames := 0, cells := 0, slots := 0, locals := 0 } : Room) s m args below meth c T locs 0 0) (hx : p.tables.exec = Jvm.exec) (hby : c.code = jdk_29_method_65_code) (hlk : meth.locks = false) (hret : meth.sig.returnType = some .int) (hZ : Z.Warmed39 s.vm) (hown : s.vm.findClass "java/lang/Math" = some m.cls) (hw : ∀ d ∈ tables_1, d.before a0 Z = true) (hml : c.maxLocals = 2) (N : Fr n0 locs) (eT : T.heap = h0) (l0 : Int32) (l1 : Int32) :
    own_Go p e below (own_K s (own_Q (.int (f5_9 l0 l1)) h0 n0) 0 0) (T.setTop (mkF m 9 #[.val (.int l0), .val (.int l1)] [])) := by
  unfold f5_9
  refine own_by (fun _ kont => XS.iloadN X.here hx rfl (hb hby d5_9) rfl kont) ?_
  show own_Go p e below _ (T.setTop (mkF m 10 #[.val (.int l0), .val (.int l1)] [(.int l1)]))
  exact own_ret X hx hlk hret rfl (Or.inl ⟨rfl, by simp, _, rfl⟩) (hb hby d5_10) ⟨rfl, N, eT⟩ (Nat.le_refl _) (Nat.le_refl _)
def f5_0 (l0 : Int32) (l1 : Int32) : Int32 := (if l0 < l1 then (f5_9 l0 l1) else l0)
set_option maxRecDepth 65536 in
set_option maxHeartbeats 4000000 in
theorem w5_0 {p : Program} {l : Launch} {e : Env} {s : State} {m : MethodId} {args : Array Value} {below : List Frame} {meth : Method} {c : Code} {T : State} {locs : List Loc} {Z : State} {a0 : Array Value} {n0 : Nat} {h0 : Heap} (X : Stand p l e ({ frames := 0, cells := 0, slots := 0, locals := 0 } : Room) s m args below meth c T locs 0 0) (hx : p.tables.exec = Jvm.exec) (hby : c.code = jdk_29_method_65_code) (hlk : meth.locks = false) (hret : meth.sig.returnType = some .int) (hZ : Z.Warmed39 s.vm) (hown : s.vm.findClass "java/lang/Math" = some m.cls) (hw : ∀ d ∈ tables_1, d.before a0 Z = true) (hml : c.maxLocals = 2) (N : Fr n0 locs) (eT : T.heap = h0) (l0 : Int32) (l1 : Int32) :
    own_Go p e below (own_K s (own_Q (.int (f5_0 l0 l1)) h0 n0) 0 0) (T.setTop (mkF m 0 #[.val (.int l0), .val (.int l1)] [])) := by
  unfold f5_0
  refine own_by (fun _ kont => XS.iloadN X.here hx rfl (hb hby d5_0) rfl kont) ?_
  show own_Go p e below _ (T.setTop (mkF m 1 #[.val (.int l0), .val (.int l1)] [(.int l0)]))
  refine own_by (fun _ kont => XS.iloadN X.here hx rfl (hb hby d5_1) rfl kont) ?_
  show own_Go p e below _ (T.setTop (mkF m 2 #[.val (.int l0), .val (.int l1)] [(.int l1), (.int l0)]))
  by_cases c2 : l0 < l1
  · rw [if_pos c2]
    refine own_by (fun _ kont => XS.icmpYes X.here hx rfl (pc0 := 2) (pc' := 9) rfl (hb hby d5_2) rfl (XT.ii_lt_t c2) (by decide) (by decide) kont) ?_
    show own_Go p e below _ (T.setTop (mkF m 9 #[.val (.int l0), .val (.int l1)] []))
    exact w5_9 X hx hby hlk hret hZ hown hw hml N eT l0 l1
  · rw [if_neg c2]
    refine own_by (fun _ kont => XS.icmpNo X.here hx rfl (hb hby d5_2) rfl (XT.ii_lt_f c2) kont) ?_
    show own_Go p e below _ (T.setTop (mkF m 5 #[.val (.int l0), .val (.int l1)] []))
    refine own_by (fun _ kont => XS.iloadN X.here hx rfl (hb hby d5_5) rfl kont) ?_
    show own_Go p e below _ (T.setTop (mkF m 6 #[.val (.int l0), .val (.int l1)] [(.int l0)]))
    refine own_by (fun _ kont => XS.goto X.here hx rfl (pc0 := 6) (pc' := 10) rfl (hb hby d5_6) (by decide) (by decide) kont) ?_
    show own_Go p e below _ (T.setTop (mkF m 10 #[.val (.int l0), .val (.int l1)] [(.int l0)]))
    exact own_ret X hx hlk hret rfl (Or.inl ⟨rfl, by simp, _, rfl⟩) (hb hby d5_10) ⟨rfl, N, eT⟩ (Nat.le_refl _) (Nat.le_refl _)
theorem own_ef5 (m : MethodId) (l0 : Int32) (l1 : Int32) : entryFrame m #[(.int l0), (.int l1)] 2 = (mkF m 0 #[.val (.int l0), .val (.int l1)] []) := by first | (simp [entryFrame, mkF, argsToLocals, Value.category, maxLocals]; done) | rfl
set_option maxRecDepth 65536 in
set_option maxHeartbeats 4000000 in
theorem rm5 (l : Launch) (Z : State) (a0 : Array Value) (hw : ∀ d ∈ tables_1, d.before a0 Z = true) (ws : List Jvm.Cond) (l0 : Int32) (l1 : Int32) (h0 : Heap) (n0 : Nat) :
    MetFree l (⟨"java/lang/Math", "max", "(II)I"⟩ : MethodName) (head1 (Jvm.Cond.code (⟨"java/lang/Math", "max", "(II)I"⟩ : MethodName) jdk_29_method_65_code 2 (some .int) :: ws) ({ frames := 0, cells := 0, slots := 0, locals := 0 } : Room)) (fun a U => a = #[(.int l0), (.int l1)] ∧ Z.Warmed39 U.vm ∧ U.heap = h0) (fun _ _ _ _ _ => True) (fun _ U o U' => ∃ v L, o = .returned v ∧ own_Q (.int (f5_0 l0 l1)) h0 n0 v U'.heap L ∧ FrameEnd U o U' L ({ frames := 0, cells := 0, slots := 0, locals := 0 } : Room).cells ({ frames := 0, cells := 0, slots := 0, locals := 0 } : Room).slots) := by
  refine MetFree.of_bodySF own_pf5 hisR ?_
  intro p e s m args below meth c s₁ Bd hml0 hP hK
  obtain ⟨rfl, hZ, hh⟩ := hP
  have hx := Bd.exec
  have hby := Bd.bytes
  have hml : c.maxLocals = 2 := hml0
  have hown : s.vm.findClass "java/lang/Math" = some m.cls := findClass_of_methodNamed Bd.named
  have X0 : Stand p l e ({ frames := 0, cells := 0, slots := 0, locals := 0 } : Room) s m #[(.int l0), (.int l1)] below meth c s₁ [] 0 0 := Stand.of_body Bd
  have e0 : s₁.heap = h0 := by rw [← hh, Bd.state]; rfl
  have N0 := Fr.nil n0
  exact own_by (fun tt kont => castTop (own_ef5 m l0 l1) kont) (w5_0 X0 hx hby Bd.notSynchronized Bd.returns hZ hown hw hml N0 e0 l0 l1)
def f7_9 (l0 : Int32) (l1 : Int32) : Int32 := l1
set_option maxRecDepth 65536 in
set_option maxHeartbeats 4000000 in
theorem w7_9 {p : Program} {l : Launch} {e : Env} {s : State} {m : MethodId} {args : Array Value} {below : List Frame} {meth : Method} {c : Code} {T : State} {locs : List Loc} {Z : State} {a0 : Array Value} {n0 : Nat} {h0 : Heap} (X : Stand p l e ({ frames := 0, cells := 0, slots := 0, locals := 0 } : Room) s m args below meth c T locs 0 0) (hx : p.tables.exec = Jvm.exec) (hby : c.code = jdk_29_method_69_code) (hlk : meth.locks = false) (hret : meth.sig.returnType = some .int) (hZ : Z.Warmed39 s.vm) (hown : s.vm.findClass "java/lang/Math" = some m.cls) (hw : ∀ d ∈ tables_1, d.before a0 Z = true) (hml : c.maxLocals = 2) (N : Fr n0 locs) (eT : T.heap = h0) (l0 : Int32) (l1 : Int32) :
    own_Go p e below (own_K s (own_Q (.int (f7_9 l0 l1)) h0 n0) 0 0) (T.setTop (mkF m 9 #[.val (.int l0), .val (.int l1)] [])) := by
  unfold f7_9
  refine own_by (fun _ kont => XS.iloadN X.here hx rfl (hb hby d7_9) rfl kont) ?_
  show own_Go p e below _ (T.setTop (mkF m 10 #[.val (.int l0), .val (.int l1)] [(.int l1)]))
  exact own_ret X hx hlk hret rfl (Or.inl ⟨rfl, by simp, _, rfl⟩) (hb hby d7_10) ⟨rfl, N, eT⟩ (Nat.le_refl _) (Nat.le_refl _)
def f7_0 (l0 : Int32) (l1 : Int32) : Int32 := (if l1 < l0 then (f7_9 l0 l1) else l0)
set_option maxRecDepth 65536 in
set_option maxHeartbeats 4000000 in
theorem w7_0 {p : Program} {l : Launch} {e : Env} {s : State} {m : MethodId} {args : Array Value} {below : List Frame} {meth : Method} {c : Code} {T : State} {locs : List Loc} {Z : State} {a0 : Array Value} {n0 : Nat} {h0 : Heap} (X : Stand p l e ({ frames := 0, cells := 0, slots := 0, locals := 0 } : Room) s m args below meth c T locs 0 0) (hx : p.tables.exec = Jvm.exec) (hby : c.code = jdk_29_method_69_code) (hlk : meth.locks = false) (hret : meth.sig.returnType = some .int) (hZ : Z.Warmed39 s.vm) (hown : s.vm.findClass "java/lang/Math" = some m.cls) (hw : ∀ d ∈ tables_1, d.before a0 Z = true) (hml : c.maxLocals = 2) (N : Fr n0 locs) (eT : T.heap = h0) (l0 : Int32) (l1 : Int32) :
    own_Go p e below (own_K s (own_Q (.int (f7_0 l0 l1)) h0 n0) 0 0) (T.setTop (mkF m 0 #[.val (.int l0), .val (.int l1)] [])) := by
  unfold f7_0
  refine own_by (fun _ kont => XS.iloadN X.here hx rfl (hb hby d7_0) rfl kont) ?_
  show own_Go p e below _ (T.setTop (mkF m 1 #[.val (.int l0), .val (.int l1)] [(.int l0)]))
  refine own_by (fun _ kont => XS.iloadN X.here hx rfl (hb hby d7_1) rfl kont) ?_
  show own_Go p e below _ (T.setTop (mkF m 2 #[.val (.int l0), .val (.int l1)] [(.int l1), (.int l0)]))
  by_cases c2 : l1 < l0
  · rw [if_pos c2]
    refine own_by (fun _ kont => XS.icmpYes X.here hx rfl (pc0 := 2) (pc' := 9) rfl (hb hby d7_2) rfl (XT.ii_gt_t c2) (by decide) (by decide) kont) ?_
    show own_Go p e below _ (T.setTop (mkF m 9 #[.val (.int l0), .val (.int l1)] []))
    exact w7_9 X hx hby hlk hret hZ hown hw hml N eT l0 l1
  · rw [if_neg c2]
    refine own_by (fun _ kont => XS.icmpNo X.here hx rfl (hb hby d7_2) rfl (XT.ii_gt_f c2) kont) ?_
    show own_Go p e below _ (T.setTop (mkF m 5 #[.val (.int l0), .val (.int l1)] []))
    refine own_by (fun _ kont => XS.iloadN X.here hx rfl (hb hby d7_5) rfl kont) ?_
    show own_Go p e below _ (T.setTop (mkF m 6 #[.val (.int l0), .val (.int l1)] [(.int l0)]))
    refine own_by (fun _ kont => XS.goto X.here hx rfl (pc0 := 6) (pc' := 10) rfl (hb hby d7_6) (by decide) (by decide) kont) ?_
    show own_Go p e below _ (T.setTop (mkF m 10 #[.val (.int l0), .val (.int l1)] [(.int l0)]))
    exact own_ret X hx hlk hret rfl (Or.inl ⟨rfl, by simp, _, rfl⟩) (hb hby d7_10) ⟨rfl, N, eT⟩ (Nat.le_refl _) (Nat.le_refl _)
theorem own_ef7 (m : MethodId) (l0 : Int32) (l1 : Int32) : entryFrame m #[(.int l0), (.int l1)] 2 = (mkF m 0 #[.val (.int l0), .val (.int l1)] []) := by first | (simp [entryFrame, mkF, argsToLocals, Value.category, maxLocals]; done) | rfl
set_option maxRecDepth 65536 in
set_option maxHeartbeats 4000000 in
theorem rm7 (l : Launch) (Z : State) (a0 : Array Value) (hw : ∀ d ∈ tables_1, d.before a0 Z = true) (ws : List Jvm.Cond) (l0 : Int32) (l1 : Int32) (h0 : Heap) (n0 : Nat) :
    MetFree l (⟨"java/lang/Math", "min", "(II)I"⟩ : MethodName) (head1 (Jvm.Cond.code (⟨"java/lang/Math", "min", "(II)I"⟩ : MethodName) jdk_29_method_69_code 2 (some .int) :: ws) ({ frames := 0, cells := 0, slots := 0, locals := 0 } : Room)) (fun a U => a = #[(.int l0), (.int l1)] ∧ Z.Warmed39 U.vm ∧ U.heap = h0) (fun _ _ _ _ _ => True) (fun _ U o U' => ∃ v L, o = .returned v ∧ own_Q (.int (f7_0 l0 l1)) h0 n0 v U'.heap L ∧ FrameEnd U o U' L ({ frames := 0, cells := 0, slots := 0, locals := 0 } : Room).cells ({ frames := 0, cells := 0, slots := 0, locals := 0 } : Room).slots) := by
  refine MetFree.of_bodySF own_pf8 hisR ?_
  intro p e s m args below meth c s₁ Bd hml0 hP hK
  obtain ⟨rfl, hZ, hh⟩ := hP
  have hx := Bd.exec
  have hby := Bd.bytes
  have hml : c.maxLocals = 2 := hml0
  have hown : s.vm.findClass "java/lang/Math" = some m.cls := findClass_of_methodNamed Bd.named
  have X0 : Stand p l e ({ frames := 0, cells := 0, slots := 0, locals := 0 } : Room) s m #[(.int l0), (.int l1)] below meth c s₁ [] 0 0 := Stand.of_body Bd
  have e0 : s₁.heap = h0 := by rw [← hh, Bd.state]; rfl
  have N0 := Fr.nil n0
  exact own_by (fun tt kont => castTop (own_ef7 m l0 l1) kont) (w7_0 X0 hx hby Bd.notSynchronized Bd.returns hZ hown hw hml N0 e0 l0 l1)
def own_Q_rmF (Z : State) (a : Addr) (x : Int32) (n : Nat) (h0 : Heap) (n0 : Nat) : Option Value → Heap → List Loc → Prop := (fun v h L => v = none ∧ Fr n0 L ∧ Keep h0 h [a] ∧ own_IA Z h a n (fun _ => x))
set_option maxRecDepth 65536 in
set_option maxHeartbeats 40000000 in
theorem own_fill {p : Program} {l : Launch} {e : Env} {s : State} {m : MethodId} {args : Array Value} {below : List Frame} {meth : Method} {c : Code} {Z : State} {a0 : Array Value} {n0 : Nat} {h0 : Heap} (hx : p.tables.exec = Jvm.exec) (hby : c.code = jdk_65_method_103_code) (hlk : meth.locks = false) (hret : meth.sig.returnType = none) (hZ : Z.Warmed39 s.vm) (hown : s.vm.findClass "java/util/Arrays" = some m.cls) (hw : ∀ d ∈ tables_1, d.before a0 Z = true) (hml : c.maxLocals = 4) (a : Addr) (x : Int32) (n : Nat) (hn : n ≤ 100) (ga : n0 ≤ a) :
    ∀ (d i : Nat) (T : State) (locs : List Loc) (h : Heap) (f : Nat → Int32), Stand p l e ({ frames := 0, cells := 0, slots := 0, locals := 0 } : Room) s m args below meth c T locs 0 0 → T.heap = h → Fr n0 locs → Keep h0 h [a] → own_IA Z h a n f → (∀ j, j < i → f j = x) → i + d = n →
    own_Go p e below (own_K s (own_Q_rmF Z a x n h0 n0) 0 0) (T.setTop (mkF m 5 #[.val (.ref a), .val (.int x), .val (.int (Int32.ofNat i)), .val (.int (Int32.ofNat n))] [])) := by
  intro d
  induction d with
  | zero =>
    intro i T locs h f X eT N K H hf hi
    refine own_by (fun _ kont => XS.iloadN X.here hx rfl (hb hby d3_5) rfl kont) ?_
    show own_Go p e below _ (T.setTop (mkF m 6 #[.val (.ref a), .val (.int x), .val (.int (Int32.ofNat i)), .val (.int (Int32.ofNat n))] [(.int (Int32.ofNat i))]))
    refine own_by (fun _ kont => XS.iloadN X.here hx rfl (hb hby d3_6) rfl kont) ?_
    show own_Go p e below _ (T.setTop (mkF m 7 #[.val (.ref a), .val (.int x), .val (.int (Int32.ofNat i)), .val (.int (Int32.ofNat n))] [(.int (Int32.ofNat n)), (.int (Int32.ofNat i))]))
    refine own_by (fun _ kont => XS.icmpYes X.here hx rfl (pc0 := 7) (pc' := 20) rfl (hb hby d3_7) rfl (XT.ii_ge_t (fun z => absurd ((own_ilt (by omega) (by omega)).mp z) (by omega))) (by decide) (by decide) kont) ?_
    show own_Go p e below _ (T.setTop (mkF m 20 #[.val (.ref a), .val (.int x), .val (.int (Int32.ofNat i)), .val (.int (Int32.ofNat n))] []))
    refine own_retV X hx hlk hret (hb hby d3_20) ⟨rfl, N, ?_⟩ (by decide) (by decide)
    rw [eT]
    exact ⟨K, own_IA_congr H fun j hj => hf j (by omega)⟩
  | succ d ih =>
    intro i T locs h f X eT N K H hf hi
    refine own_by (fun _ kont => XS.iloadN X.here hx rfl (hb hby d3_5) rfl kont) ?_
    show own_Go p e below _ (T.setTop (mkF m 6 #[.val (.ref a), .val (.int x), .val (.int (Int32.ofNat i)), .val (.int (Int32.ofNat n))] [(.int (Int32.ofNat i))]))
    refine own_by (fun _ kont => XS.iloadN X.here hx rfl (hb hby d3_6) rfl kont) ?_
    show own_Go p e below _ (T.setTop (mkF m 7 #[.val (.ref a), .val (.int x), .val (.int (Int32.ofNat i)), .val (.int (Int32.ofNat n))] [(.int (Int32.ofNat n)), (.int (Int32.ofNat i))]))
    refine own_by (fun _ kont => XS.icmpNo X.here hx rfl (hb hby d3_7) rfl (XT.ii_ge_f ((own_ilt (by omega) (by omega)).mpr (by omega))) kont) ?_
    show own_Go p e below _ (T.setTop (mkF m 10 #[.val (.ref a), .val (.int x), .val (.int (Int32.ofNat i)), .val (.int (Int32.ofNat n))] []))
    refine own_by (fun _ kont => XS.aloadN X.here hx rfl (hb hby d3_10) rfl rfl kont) ?_
    show own_Go p e below _ (T.setTop (mkF m 11 #[.val (.ref a), .val (.int x), .val (.int (Int32.ofNat i)), .val (.int (Int32.ofNat n))] [(.ref a)]))
    refine own_by (fun _ kont => XS.iloadN X.here hx rfl (hb hby d3_11) rfl kont) ?_
    show own_Go p e below _ (T.setTop (mkF m 12 #[.val (.ref a), .val (.int x), .val (.int (Int32.ofNat i)), .val (.int (Int32.ofNat n))] [(.int (Int32.ofNat i)), (.ref a)]))
    refine own_by (fun _ kont => XS.iloadN X.here hx rfl (hb hby d3_12) rfl kont) ?_
    show own_Go p e below _ (T.setTop (mkF m 13 #[.val (.ref a), .val (.int x), .val (.int (Int32.ofNat i)), .val (.int (Int32.ofNat n))] [(.int x), (.int (Int32.ofNat i)), (.ref a)]))
    obtain ⟨T101, h101, X101, e101, W101, H101, st101⟩ := own_stN X hx hZ eT H (j := (Int32.ofNat i)) i (own_i (by omega)) (by omega) (g := (mkF m 13 #[.val (.ref a), .val (.int x), .val (.int (Int32.ofNat i)), .val (.int (Int32.ofNat n))] [(.int x), (.int (Int32.ofNat i)), (.ref a)])) rfl rfl (hb hby d3_13)
    obtain ⟨L101, X101, M101⟩ := own_hide X101 (Fr.snoc X101 N ga)
    refine own_by st101 ?_
    show own_Go p e below _ (T101.setTop (mkF m 14 #[.val (.ref a), .val (.int x), .val (.int (Int32.ofNat i)), .val (.int (Int32.ofNat n))] []))
    refine own_by (fun _ kont => XT.iincV X101.here hx rfl (1 : Int32) (hb hby d3_14) rfl rfl (l' := #[.val (.ref a), .val (.int x), .val (.int ((Int32.ofNat i) + (1 : Int32))), .val (.int (Int32.ofNat n))]) rfl kont) ?_
    show own_Go p e below _ (T101.setTop (mkF m 17 #[.val (.ref a), .val (.int x), .val (.int ((Int32.ofNat i) + (1 : Int32))), .val (.int (Int32.ofNat n))] []))
    refine own_by (fun _ kont => XS.goto X101.here hx rfl (pc0 := 17) (pc' := 5) rfl (hb hby d3_17) (by decide) (by decide) kont) ?_
    show own_Go p e below _ (T101.setTop (mkF m 5 #[.val (.ref a), .val (.int x), .val (.int ((Int32.ofNat i) + (1 : Int32))), .val (.int (Int32.ofNat n))] []))
    rw [own_inc (k := i) (by omega)]
    refine ih (i + 1) T101 _ _ _ X101 e101 M101 (K.wr W101 (Or.inl (by simp))) H101 (fun j hj => ?_) (by omega)
    by_cases q : j = i
    · rw [if_pos q]
    · rw [if_neg q]; exact hf j (by omega)
theorem own_ef_rmF (m : MethodId) (a : Addr) (x : Int32) : entryFrame m #[(.ref a), (.int x)] 4 = (mkF m 0 #[.val (.ref a), .val (.int x), .unset, .unset] []) := by first | (simp [entryFrame, mkF, argsToLocals, Value.category, maxLocals]; done) | rfl
set_option maxRecDepth 65536 in
set_option maxHeartbeats 40000000 in
theorem rmF (l : Launch) (Z : State) (a0 : Array Value) (hw : ∀ d ∈ tables_1, d.before a0 Z = true) (ws : List Jvm.Cond) (a : Addr) (x : Int32) (n : Nat) (f : Nat → Int32) (h0 : Heap) (n0 : Nat) (hn : n ≤ 100) (ga : n0 ≤ a) (H : own_IA Z h0 a n f) :
    MetFree l (⟨"java/util/Arrays", "fill", "([II)V"⟩ : MethodName) (head1 (Jvm.Cond.code (⟨"java/util/Arrays", "fill", "([II)V"⟩ : MethodName) jdk_65_method_103_code 4 none :: ws) ({ frames := 0, cells := 0, slots := 0, locals := 0 } : Room)) (fun aR UR => aR = #[(.ref a), (.int x)] ∧ Z.Warmed39 UR.vm ∧ UR.heap = h0) (fun _ _ _ _ _ => True) (fun _ UR oR UR' => ∃ vR LR, oR = .returned vR ∧ own_Q_rmF Z a x n h0 n0 vR UR'.heap LR ∧ FrameEnd UR oR UR' LR ({ frames := 0, cells := 0, slots := 0, locals := 0 } : Room).cells ({ frames := 0, cells := 0, slots := 0, locals := 0 } : Room).slots) := by
  refine MetFree.of_bodySF (plainFor_of_name own_pn2) hisR ?_
  intro p e s m args below meth c s₁ Bd hml0 hP hK
  obtain ⟨rfl, hZ, hh⟩ := hP
  have hx := Bd.exec
  have hby := Bd.bytes
  have hlk := Bd.notSynchronized
  have hret := Bd.returns
  have hml : c.maxLocals = 4 := hml0
  have hown : s.vm.findClass "java/util/Arrays" = some m.cls := findClass_of_methodNamed Bd.named
  have hnm := (name_of_methodNamed Bd.named Bd.method).1
  have X0 : Stand p l e ({ frames := 0, cells := 0, slots := 0, locals := 0 } : Room) s m #[(.ref a), (.int x)] below meth c s₁ [] 0 0 := Stand.of_body Bd
  have e0 : s₁.heap = h0 := by rw [← hh, Bd.state]; rfl
  have N0 := Fr.nil n0
  show own_Go p e below (own_K s (own_Q_rmF Z a x n h0 n0) ({ frames := 0, cells := 0, slots := 0, locals := 0 } : Room).cells ({ frames := 0, cells := 0, slots := 0, locals := 0 } : Room).slots) _
  refine own_by (fun tt kont => castTop (own_ef_rmF m a x) kont) ?_
  show own_Go p e below _ (s₁.setTop (mkF m 0 #[.val (.ref a), .val (.int x), .unset, .unset] []))
  refine own_by (fun _ kont => XT.iconstV X0.here hx rfl (0 : Int32) (hb hby d3_0) rfl kont) ?_
  show own_Go p e below _ (s₁.setTop (mkF m 1 #[.val (.ref a), .val (.int x), .unset, .unset] [(.int (0 : Int32))]))
  refine own_by (fun _ kont => XS.istoreN X0.here hx rfl (hb hby d3_1) rfl (l' := #[.val (.ref a), .val (.int x), .val (.int (0 : Int32)), .unset]) rfl kont) ?_
  show own_Go p e below _ (s₁.setTop (mkF m 2 #[.val (.ref a), .val (.int x), .val (.int (0 : Int32)), .unset] []))
  refine own_by (fun _ kont => XS.aloadN X0.here hx rfl (hb hby d3_2) rfl rfl kont) ?_
  show own_Go p e below _ (s₁.setTop (mkF m 3 #[.val (.ref a), .val (.int x), .val (.int (0 : Int32)), .unset] [(.ref a)]))
  refine own_by (fun _ kont => own_lenIA X0 hx hZ e0 H (z := (Int32.ofNat n)) rfl rfl rfl (hb hby d3_3) kont) ?_
  show own_Go p e below _ (s₁.setTop (mkF m 4 #[.val (.ref a), .val (.int x), .val (.int (0 : Int32)), .unset] [(.int (Int32.ofNat n))]))
  refine own_by (fun _ kont => XS.istoreN X0.here hx rfl (hb hby d3_4) rfl (l' := #[.val (.ref a), .val (.int x), .val (.int (0 : Int32)), .val (.int (Int32.ofNat n))]) rfl kont) ?_
  show own_Go p e below _ (s₁.setTop (mkF m 5 #[.val (.ref a), .val (.int x), .val (.int (0 : Int32)), .val (.int (Int32.ofNat n))] []))
  exact own_fill hx hby hlk hret hZ hown hw hml a x n hn ga n 0 s₁ _ h0 f X0 e0 N0 (Keep.refl _ _) H (fun j hj => absurd hj (by omega)) (by omega)
def own_Q_rmC (Z : State) (n : Nat) (f : Nat → Int32) (h0 : Heap) (n0 : Nat) : Option Value → Heap → List Loc → Prop := (fun v h L => ∃ t, v = some (.ref t) ∧ Fr n0 L ∧ Keep h0 h [] ∧ h0.size ≤ t ∧ n0 ≤ t ∧ own_IA Z h t 16 (fun i => if i < n then f i else 0))
theorem own_min (n : Nat) (h : n ≤ 3) : f7_0 (Int32.ofNat n) (16 : Int32) = Int32.ofNat n := by
  have h4 : ∀ k : Fin 4, f7_0 (Int32.ofNat k) (16 : Int32) = Int32.ofNat k := by decide +kernel
  exact h4 ⟨n, by omega⟩
theorem own_max (n : Nat) (h : n ≤ 3) : f5_0 (16 : Int32) ((2 : Int32) * Int32.ofNat n) = (16 : Int32) := by
  have h4 : ∀ k : Fin 4, f5_0 (16 : Int32) ((2 : Int32) * Int32.ofNat k) = (16 : Int32) := by decide +kernel
  exact h4 ⟨n, by omega⟩
theorem own_i16 {n : Nat} (h : n ≤ 3) : ¬ (16 : Int32) = Int32.ofNat n := fun z => absurd ((own_inj (a := 16) (by omega) (by omega)).mp z) (by omega)
theorem own_ef_rmC (m : MethodId) (a : Addr) (z : Int32) : entryFrame m #[(.ref a), (.int z)] 3 = (mkF m 0 #[.val (.ref a), .val (.int z), .unset] []) := by first | (simp [entryFrame, mkF, argsToLocals, Value.category, maxLocals]; done) | rfl
set_option maxRecDepth 65536 in
set_option maxHeartbeats 40000000 in
theorem rmC (l : Launch) (Z : State) (a0 : Array Value) (hw : ∀ d ∈ tables_1, d.before a0 Z = true) (ws : List Jvm.Cond) (a : Addr) (n : Nat) (f : Nat → Int32) (h0 : Heap) (n0 : Nat) (hn : n ≤ 3) (H : own_IA Z h0 a n f) (Z0 : n0 ≤ h0.size) :
    MetFree l (⟨"java/util/Arrays", "copyOf", "([II)[I"⟩ : MethodName) (head1 (Jvm.Cond.code (⟨"java/util/Arrays", "copyOf", "([II)[I"⟩ : MethodName) jdk_65_method_123_code 3 (some (.array .int)) :: ws) ({ frames := 1, cells := 1, slots := 16, locals := 64 } : Room)) (fun aR UR => aR = #[(.ref a), (.int (16 : Int32))] ∧ Z.Warmed39 UR.vm ∧ UR.heap = h0) (fun _ _ _ _ _ => True) (fun _ UR oR UR' => ∃ vR LR, oR = .returned vR ∧ own_Q_rmC Z n f h0 n0 vR UR'.heap LR ∧ FrameEnd UR oR UR' LR ({ frames := 1, cells := 1, slots := 16, locals := 64 } : Room).cells ({ frames := 1, cells := 1, slots := 16, locals := 64 } : Room).slots) := by
  refine MetFree.of_bodySF (plainFor_of_name own_pn2) hisR ?_
  intro p e s m args below meth c s₁ Bd hml0 hP hK
  obtain ⟨rfl, hZ, hh⟩ := hP
  have hx := Bd.exec
  have hby := Bd.bytes
  have hlk := Bd.notSynchronized
  have hret := Bd.returns
  have hml : c.maxLocals = 3 := hml0
  have hown : s.vm.findClass "java/util/Arrays" = some m.cls := findClass_of_methodNamed Bd.named
  have hnm := (name_of_methodNamed Bd.named Bd.method).1
  have X0 : Stand p l e ({ frames := 1, cells := 1, slots := 16, locals := 64 } : Room) s m #[(.ref a), (.int (16 : Int32))] below meth c s₁ [] 0 0 := Stand.of_body Bd
  have e0 : s₁.heap = h0 := by rw [← hh, Bd.state]; rfl
  have N0 := Fr.nil n0
  show own_Go p e below (own_K s (own_Q_rmC Z n f h0 n0) ({ frames := 1, cells := 1, slots := 16, locals := 64 } : Room).cells ({ frames := 1, cells := 1, slots := 16, locals := 64 } : Room).slots) _
  refine own_by (fun tt kont => castTop (own_ef_rmC m a (16 : Int32)) kont) ?_
  show own_Go p e below _ (s₁.setTop (mkF m 0 #[.val (.ref a), .val (.int (16 : Int32)), .unset] []))
  refine own_by (fun _ kont => XS.iloadN X0.here hx rfl (hb hby d6_0) rfl kont) ?_
  show own_Go p e below _ (s₁.setTop (mkF m 1 #[.val (.ref a), .val (.int (16 : Int32)), .unset] [(.int (16 : Int32))]))
  refine own_by (fun _ kont => XS.aloadN X0.here hx rfl (hb hby d6_1) rfl rfl kont) ?_
  show own_Go p e below _ (s₁.setTop (mkF m 2 #[.val (.ref a), .val (.int (16 : Int32)), .unset] [(.ref a), (.int (16 : Int32))]))
  refine own_by (fun _ kont => own_lenIA X0 hx hZ e0 H (z := (Int32.ofNat n)) rfl rfl rfl (hb hby d6_2) kont) ?_
  show own_Go p e below _ (s₁.setTop (mkF m 3 #[.val (.ref a), .val (.int (16 : Int32)), .unset] [(.int (Int32.ofNat n)), (.int (16 : Int32))]))
  refine own_by (fun _ kont => XS.icmpYes X0.here hx rfl (pc0 := 3) (pc' := 14) rfl (hb hby d6_3) rfl (XT.ii_ne_t (own_i16 hn)) (by decide) (by decide) kont) ?_
  show own_Go p e below _ (s₁.setTop (mkF m 14 #[.val (.ref a), .val (.int (16 : Int32)), .unset] []))
  refine own_by (fun _ kont => XS.iloadN X0.here hx rfl (hb hby d6_14) rfl kont) ?_
  show own_Go p e below _ (s₁.setTop (mkF m 15 #[.val (.ref a), .val (.int (16 : Int32)), .unset] [(.int (16 : Int32))]))
  obtain ⟨T102, h102, a102, X102, e102, g102, E102, H102, st102⟩ := own_newIA X0 hx hZ (hw _ (List.mem_of_getElem? (i := 18) rfl)) e0 (g := (mkF m 15 #[.val (.ref a), .val (.int (16 : Int32)), .unset] [(.int (16 : Int32))])) rfl (hb hby d6_15) rfl 16 (by decide) (cap := 16) (by decide) (by decide) (by decide) (by decide)
  have ne103 : a ≠ a102 := by rw [g102]; exact Nat.ne_of_lt (own_IA_lt H)
  have ge102 : n0 ≤ a102 := by rw [g102]; exact Z0
  have Z102 : n0 ≤ h102.size := Nat.le_trans Z0 E102.1
  refine own_by st102 ?_
  show own_Go p e below _ (T102.setTop (mkF m 17 #[.val (.ref a), .val (.int (16 : Int32)), .unset] [(.ref a102)]))
  refine own_by (fun _ kont => XS.astoreN X102.here hx rfl (hb hby d6_17) rfl rfl (l' := #[.val (.ref a), .val (.int (16 : Int32)), .val (.ref a102)]) rfl kont) ?_
  show own_Go p e below _ (T102.setTop (mkF m 18 #[.val (.ref a), .val (.int (16 : Int32)), .val (.ref a102)] []))
  refine own_by (fun _ kont => XS.aloadN X102.here hx rfl (hb hby d6_18) rfl rfl kont) ?_
  show own_Go p e below _ (T102.setTop (mkF m 19 #[.val (.ref a), .val (.int (16 : Int32)), .val (.ref a102)] [(.ref a)]))
  refine own_by (fun _ kont => XT.iconstV X102.here hx rfl (0 : Int32) (hb hby d6_19) rfl kont) ?_
  show own_Go p e below _ (T102.setTop (mkF m 20 #[.val (.ref a), .val (.int (16 : Int32)), .val (.ref a102)] [(.int (0 : Int32)), (.ref a)]))
  refine own_by (fun _ kont => XS.aloadN X102.here hx rfl (hb hby d6_20) rfl rfl kont) ?_
  show own_Go p e below _ (T102.setTop (mkF m 21 #[.val (.ref a), .val (.int (16 : Int32)), .val (.ref a102)] [(.ref a102), (.int (0 : Int32)), (.ref a)]))
  refine own_by (fun _ kont => XT.iconstV X102.here hx rfl (0 : Int32) (hb hby d6_21) rfl kont) ?_
  show own_Go p e below _ (T102.setTop (mkF m 22 #[.val (.ref a), .val (.int (16 : Int32)), .val (.ref a102)] [(.int (0 : Int32)), (.ref a102), (.int (0 : Int32)), (.ref a)]))
  refine own_by (fun _ kont => XS.aloadN X102.here hx rfl (hb hby d6_22) rfl rfl kont) ?_
  show own_Go p e below _ (T102.setTop (mkF m 23 #[.val (.ref a), .val (.int (16 : Int32)), .val (.ref a102)] [(.ref a), (.int (0 : Int32)), (.ref a102), (.int (0 : Int32)), (.ref a)]))
  have F104 : own_IA Z h102 a n f := (own_IA_ext H E102)
  refine own_by (fun _ kont => own_lenIA X102 hx hZ e102 F104 (z := (Int32.ofNat n)) rfl rfl rfl (hb hby d6_23) kont) ?_
  show own_Go p e below _ (T102.setTop (mkF m 24 #[.val (.ref a), .val (.int (16 : Int32)), .val (.ref a102)] [(.int (Int32.ofNat n)), (.int (0 : Int32)), (.ref a102), (.int (0 : Int32)), (.ref a)]))
  refine own_by (fun _ kont => XS.iloadN X102.here hx rfl (hb hby d6_24) rfl kont) ?_
  show own_Go p e below _ (T102.setTop (mkF m 25 #[.val (.ref a), .val (.int (16 : Int32)), .val (.ref a102)] [(.int (16 : Int32)), (.int (Int32.ofNat n)), (.int (0 : Int32)), (.ref a102), (.int (0 : Int32)), (.ref a)]))
  obtain ⟨_, _, ⟨T105, L105, k105, n105⟩, -, X105, ⟨Lc105, hQ105, l105, y105, z105⟩, st105⟩ := Jvm.LawKit.callS X102 hx (y := (⟨"java/lang/Math", "min", "(II)I"⟩ : MethodName)) hown (mvT hZ (hw _ (List.mem_of_getElem? (i := 49) rfl))) (mvT hZ (hw _ (List.mem_of_getElem? (i := 50) rfl))) (mvT hZ (hw _ (List.mem_of_getElem? (i := 44) rfl))) (mvT hZ (hw _ (List.mem_of_getElem? (i := 51) rfl))) (by decide) (backOf (W := 4) (rm7 l Z a0 hw [] (Int32.ofNat n) (16 : Int32) h102 n0) hZ (hw _ (List.mem_of_getElem? (i := 51) rfl)) (hw _ (List.mem_of_getElem? (i := 44) rfl)) (by decide) (by decide)) (g := (mkF m 25 #[.val (.ref a), .val (.int (16 : Int32)), .val (.ref a102)] [(.int (16 : Int32)), (.int (Int32.ofNat n)), (.int (0 : Int32)), (.ref a102), (.int (0 : Int32)), (.ref a)])) rfl (by rw [hml]; rfl) (argsL := [(.int (Int32.ofNat n)), (.int (16 : Int32))]) (rest := [(.int (0 : Int32)), (.ref a102), (.int (0 : Int32)), (.ref a)]) (lenOf own_pd6 rfl) rfl (by show 2 * 0 + _ ≤ _; exact Nat.le_of_eq rfl) (hb hby d6_25) (fun _ _ => ⟨rfl, e102, (by decide : 1 + 0 ≤ _), (by decide : 16 + 0 ≤ _)⟩)
  dsimp only [Pt.U, Pt.locs, Pt.cells, Pt.slots] at X105 l105 y105 z105 st105 hQ105
  subst l105 y105 z105
  refine own_by st105 ?_
  obtain ⟨rfl, N105, e105⟩ := hQ105
  obtain ⟨L105, X105, M105⟩ := own_hide X105 (Fr.app N0 N105)
  rw [own_min n hn]
  show own_Go p e below _ (T105.setTop (mkF m 28 #[.val (.ref a), .val (.int (16 : Int32)), .val (.ref a102)] [(.int (Int32.ofNat n)), (.int (0 : Int32)), (.ref a102), (.int (0 : Int32)), (.ref a)]))
  obtain ⟨T106, h106, L106, X106, e106, M106, K106, H106, st106⟩ := own_cpIA X105 hx hZ hown (hw _ (List.mem_of_getElem? (i := 52) rfl)) (hw _ (List.mem_of_getElem? (i := 55) rfl)) (hw _ (List.mem_of_getElem? (i := 53) rfl)) (hw _ (List.mem_of_getElem? (i := 54) rfl)) e105 F104 H102 (by omega) (by omega) M105 ge102 (g := (mkF m 28 #[.val (.ref a), .val (.int (16 : Int32)), .val (.ref a102)] [(.int (Int32.ofNat n)), (.int (0 : Int32)), (.ref a102), (.int (0 : Int32)), (.ref a)])) rfl (by rw [hml]; rfl) (rest := []) rfl (hb hby d6_28) (by decide) (W := 0) (by show 2 * 0 + _ ≤ _; exact Nat.le_of_eq rfl) (by decide)
  have Z106 : n0 ≤ h106.size := Nat.le_trans Z102 K106.1
  refine own_by st106 ?_
  show own_Go p e below _ (T106.setTop (mkF m 31 #[.val (.ref a), .val (.int (16 : Int32)), .val (.ref a102)] []))
  refine own_by (fun _ kont => XS.aloadN X106.here hx rfl (hb hby d6_31) rfl rfl kont) ?_
  show own_Go p e below _ (T106.setTop (mkF m 32 #[.val (.ref a), .val (.int (16 : Int32)), .val (.ref a102)] [(.ref a102)]))
  refine own_ret X106 hx hlk hret rfl (Or.inr (Or.inr (Or.inr (Or.inr ⟨rfl, rfl, rfl⟩)))) (hb hby d6_32) ⟨a102, rfl, M106, ?_⟩ (by decide) (by decide)
  rw [e106]
  exact ⟨((Keep.refl _ _).ext E102).trans K106 (fun y hy => by cases List.mem_singleton.mp hy; exact Or.inr (Nat.le_of_eq g102.symm)), Nat.le_of_eq g102.symm, ge102, H106⟩
def own_Q_rmI (Z : State) (g : Addr) (sl : Int32) (cap : Nat) (n0 : Nat) : Option Value → Heap → List Loc → Prop := (fun v h L => v = none ∧ Fr n0 L ∧ own_G Z h n0 g ((2 : Int32) * sl) 0 0 cap (fun _ => 0) (fun _ => 0) (fun _ => 0) (fun _ => -1) (fun _ => -1))
theorem own_ef_rmI (m : MethodId) (g : Addr) (sl : Int32) (ld : Int32) (lm : Int32) (cp : Int32) : entryFrame m #[(.ref g), (.int sl), (.int ld), (.int lm), (.int cp)] 5 = (mkF m 0 #[.val (.ref g), .val (.int sl), .val (.int ld), .val (.int lm), .val (.int cp)] []) := by first | (simp [entryFrame, mkF, argsToLocals, Value.category, maxLocals]; done) | rfl
set_option maxRecDepth 65536 in
set_option maxHeartbeats 40000000 in
theorem rmI (l : Launch) (Z : State) (a0 : Array Value) (hw : ∀ d ∈ tables_1, d.before a0 Z = true) (ws : List Jvm.Cond) (g : Addr) (sl ld cp : Int32) (cap : Nat) (h0 : Heap) (n0 : Nat) (E : Exa Z h0 g "com/example/lambdalane/lambdalane/NodeGraph") (DnextFresh : Fld Z h0 g "com/example/lambdalane/lambdalane/NodeGraph" "nextFresh" "I" (.int (0 : Int32))) (Dside : Fld Z h0 g "com/example/lambdalane/lambdalane/NodeGraph" "side" "I" (.int (0 : Int32))) (Dload : Fld Z h0 g "com/example/lambdalane/lambdalane/NodeGraph" "load" "I" (.int (0 : Int32))) (DcolourLimit : Fld Z h0 g "com/example/lambdalane/lambdalane/NodeGraph" "colourLimit" "I" (.int (0 : Int32))) (Dleft : Fld Z h0 g "com/example/lambdalane/lambdalane/NodeGraph" "left" "[I" .null) (Dright : Fld Z h0 g "com/example/lambdalane/lambdalane/NodeGraph" "right" "[I" .null) (Dcolour : Fld Z h0 g "com/example/lambdalane/lambdalane/NodeGraph" "colour" "[I" .null) (DinEdgeOf : Fld Z h0 g "com/example/lambdalane/lambdalane/NodeGraph" "inEdgeOf" "[I" .null) (DoutEdgeOf : Fld Z h0 g "com/example/lambdalane/lambdalane/NodeGraph" "outEdgeOf" "[I" .null) (DcolourMark : Fld Z h0 g "com/example/lambdalane/lambdalane/NodeGraph" "colourMark" "[I" .null) (Dsize : Fld Z h0 g "com/example/lambdalane/lambdalane/NodeGraph" "size" "I" (.int (0 : Int32))) (gg : n0 ≤ g) (Z0 : n0 ≤ h0.size) (hcp : cp.toInt = cap) (hc3 : cap ≤ 3) :
    MetFree l (⟨"com/example/lambdalane/lambdalane/NodeGraph", "<init>", "(IIII)V"⟩ : MethodName) (head1 (Jvm.Cond.code (⟨"com/example/lambdalane/lambdalane/NodeGraph", "<init>", "(IIII)V"⟩ : MethodName) prog_42_method_1_code 5 none :: ws) ({ frames := 1, cells := 6, slots := 12, locals := 24 } : Room)) (fun aR UR => aR = #[(.ref g), (.int sl), (.int ld), (.int (0 : Int32)), (.int cp)] ∧ Z.Warmed39 UR.vm ∧ UR.heap = h0) (fun _ _ _ _ _ => True) (fun _ UR oR UR' => ∃ vR LR, oR = .returned vR ∧ own_Q_rmI Z g sl cap n0 vR UR'.heap LR ∧ FrameEnd UR oR UR' LR ({ frames := 1, cells := 6, slots := 12, locals := 24 } : Room).cells ({ frames := 1, cells := 6, slots := 12, locals := 24 } : Room).slots) := by
  refine MetFree.of_bodySF (plainFor_of_name own_pn0) hisR ?_
  intro p e s m args below meth c s₁ Bd hml0 hP hK
  obtain ⟨rfl, hZ, hh⟩ := hP
  have hx := Bd.exec
  have hby := Bd.bytes
  have hlk := Bd.notSynchronized
  have hret := Bd.returns
  have hml : c.maxLocals = 5 := hml0
  have hown : s.vm.findClass "com/example/lambdalane/lambdalane/NodeGraph" = some m.cls := findClass_of_methodNamed Bd.named
  have hnm := (name_of_methodNamed Bd.named Bd.method).1
  have X0 : Stand p l e ({ frames := 1, cells := 6, slots := 12, locals := 24 } : Room) s m #[(.ref g), (.int sl), (.int ld), (.int (0 : Int32)), (.int cp)] below meth c s₁ [] 0 0 := Stand.of_body Bd
  have e0 : s₁.heap = h0 := by rw [← hh, Bd.state]; rfl
  have N0 := Fr.nil n0
  show own_Go p e below (own_K s (own_Q_rmI Z g sl cap n0) ({ frames := 1, cells := 6, slots := 12, locals := 24 } : Room).cells ({ frames := 1, cells := 6, slots := 12, locals := 24 } : Room).slots) _
  refine own_by (fun tt kont => castTop (own_ef_rmI m g sl ld (0 : Int32) cp) kont) ?_
  show own_Go p e below _ (s₁.setTop (mkF m 0 #[.val (.ref g), .val (.int sl), .val (.int ld), .val (.int (0 : Int32)), .val (.int cp)] []))
  refine own_by (fun _ kont => XS.aloadN X0.here hx rfl (hb hby d1_0) rfl rfl kont) ?_
  show own_Go p e below _ (s₁.setTop (mkF m 1 #[.val (.ref g), .val (.int sl), .val (.int ld), .val (.int (0 : Int32)), .val (.int cp)] [(.ref g)]))
  obtain ⟨T107, X107, e107, st107⟩ := initO X0 hx hZ hown (hw _ (List.mem_of_getElem? (i := 7) rfl)) (hw _ (List.mem_of_getElem? (i := 8) rfl)) (hw _ (List.mem_of_getElem? (i := 9) rfl)) e0 (g := (mkF m 1 #[.val (.ref g), .val (.int sl), .val (.int ld), .val (.int (0 : Int32)), .val (.int cp)] [(.ref g)])) rfl (by rw [hml]; rfl) rfl (hb hby d1_1) (by decide) (W := 0) (by show 2 * 0 + _ ≤ _; exact Nat.le_of_eq rfl) (by decide)
  refine own_by st107 ?_
  show own_Go p e below _ (T107.setTop (mkF m 4 #[.val (.ref g), .val (.int sl), .val (.int ld), .val (.int (0 : Int32)), .val (.int cp)] []))
  refine own_by (fun _ kont => XS.aloadN X107.here hx rfl (hb hby d1_4) rfl rfl kont) ?_
  show own_Go p e below _ (T107.setTop (mkF m 5 #[.val (.ref g), .val (.int sl), .val (.int ld), .val (.int (0 : Int32)), .val (.int cp)] [(.ref g)]))
  refine own_by (fun _ kont => XT.iconstV X107.here hx rfl (1 : Int32) (hb hby d1_5) rfl kont) ?_
  show own_Go p e below _ (T107.setTop (mkF m 6 #[.val (.ref g), .val (.int sl), .val (.int ld), .val (.int (0 : Int32)), .val (.int cp)] [(.int (1 : Int32)), (.ref g)]))
  obtain ⟨T108, h108, X108, e108, W108, st108⟩ := putF X107 hx hZ hown (host := "") (Or.inl (hw _ (List.mem_of_getElem? (i := 10) rfl))) Via.refl e107 DnextFresh E (Or.inl (hw _ (List.mem_of_getElem? (i := 11) rfl))) (hw _ (List.mem_of_getElem? (i := 2) rfl)) (ty := .int) (by decide) rfl rfl (g := (mkF m 6 #[.val (.ref g), .val (.int sl), .val (.int ld), .val (.int (0 : Int32)), .val (.int cp)] [(.int (1 : Int32)), (.ref g)])) rfl rfl (hb hby d1_6)
  obtain ⟨L108, X108, M108⟩ := own_hide X108 (Fr.snoc X108 N0 gg)
  have Z108 : n0 ≤ h108.size := (by rw [Wr.size W108]; exact Z0)
  have F108 : Fld Z h108 g "com/example/lambdalane/lambdalane/NodeGraph" "nextFresh" "I" (.int (1 : Int32)) := (DnextFresh.same W108)
  refine own_by st108 ?_
  show own_Go p e below _ (T108.setTop (mkF m 9 #[.val (.ref g), .val (.int sl), .val (.int ld), .val (.int (0 : Int32)), .val (.int cp)] []))
  refine own_by (fun _ kont => XS.aloadN X108.here hx rfl (hb hby d1_9) rfl rfl kont) ?_
  show own_Go p e below _ (T108.setTop (mkF m 10 #[.val (.ref g), .val (.int sl), .val (.int ld), .val (.int (0 : Int32)), .val (.int cp)] [(.ref g)]))
  refine own_by (fun _ kont => XT.iconstV X108.here hx rfl (2 : Int32) (hb hby d1_10) rfl kont) ?_
  show own_Go p e below _ (T108.setTop (mkF m 11 #[.val (.ref g), .val (.int sl), .val (.int ld), .val (.int (0 : Int32)), .val (.int cp)] [(.int (2 : Int32)), (.ref g)]))
  refine own_by (fun _ kont => XS.iloadN X108.here hx rfl (hb hby d1_11) rfl kont) ?_
  show own_Go p e below _ (T108.setTop (mkF m 12 #[.val (.ref g), .val (.int sl), .val (.int ld), .val (.int (0 : Int32)), .val (.int cp)] [(.int sl), (.int (2 : Int32)), (.ref g)]))
  refine own_by (fun _ kont => XS.imul X108.here hx rfl (hb hby d1_12) rfl kont) ?_
  show own_Go p e below _ (T108.setTop (mkF m 13 #[.val (.ref g), .val (.int sl), .val (.int ld), .val (.int (0 : Int32)), .val (.int cp)] [(.int ((2 : Int32) * sl)), (.ref g)]))
  have F109 : Fld Z h108 g "com/example/lambdalane/lambdalane/NodeGraph" "side" "I" (.int (0 : Int32)) := (Dside.other W108 (Or.inr (slot_ne (t := .int) (t' := .int) (Or.inr (hw _ (List.mem_of_getElem? (i := 13) rfl))) (Or.inl (hw _ (List.mem_of_getElem? (i := 11) rfl))) (by decide) (by decide) (by decide))))
  have F110 : Exa Z h108 g "com/example/lambdalane/lambdalane/NodeGraph" := (E.wr W108)
  obtain ⟨T111, h111, X111, e111, W111, st111⟩ := putF X108 hx hZ hown (host := "") (Or.inl (hw _ (List.mem_of_getElem? (i := 12) rfl))) Via.refl e108 F109 F110 (Or.inr ⟨(hw _ (List.mem_of_getElem? (i := 13) rfl)), rfl, hnm⟩) (hw _ (List.mem_of_getElem? (i := 2) rfl)) (ty := .int) (by decide) rfl rfl (g := (mkF m 13 #[.val (.ref g), .val (.int sl), .val (.int ld), .val (.int (0 : Int32)), .val (.int cp)] [(.int ((2 : Int32) * sl)), (.ref g)])) rfl rfl (hb hby d1_13)
  obtain ⟨L111, X111, M111⟩ := own_hide X111 (Fr.snoc X111 M108 gg)
  have Z111 : n0 ≤ h111.size := (by rw [Wr.size W111]; exact Z108)
  have F111 : Fld Z h111 g "com/example/lambdalane/lambdalane/NodeGraph" "side" "I" (.int ((2 : Int32) * sl)) := (F109.same W111)
  refine own_by st111 ?_
  show own_Go p e below _ (T111.setTop (mkF m 16 #[.val (.ref g), .val (.int sl), .val (.int ld), .val (.int (0 : Int32)), .val (.int cp)] []))
  refine own_by (fun _ kont => XS.aloadN X111.here hx rfl (hb hby d1_16) rfl rfl kont) ?_
  show own_Go p e below _ (T111.setTop (mkF m 17 #[.val (.ref g), .val (.int sl), .val (.int ld), .val (.int (0 : Int32)), .val (.int cp)] [(.ref g)]))
  refine own_by (fun _ kont => XS.iloadN X111.here hx rfl (hb hby d1_17) rfl kont) ?_
  show own_Go p e below _ (T111.setTop (mkF m 18 #[.val (.ref g), .val (.int sl), .val (.int ld), .val (.int (0 : Int32)), .val (.int cp)] [(.int ld), (.ref g)]))
  have F112 : Fld Z h111 g "com/example/lambdalane/lambdalane/NodeGraph" "load" "I" (.int (0 : Int32)) := ((Dload.other W108 (Or.inr (slot_ne (t := .int) (t' := .int) (Or.inr (hw _ (List.mem_of_getElem? (i := 15) rfl))) (Or.inl (hw _ (List.mem_of_getElem? (i := 11) rfl))) (by decide) (by decide) (by decide)))).other W111 (Or.inr (slot_ne (t := .int) (t' := .int) (Or.inr (hw _ (List.mem_of_getElem? (i := 15) rfl))) (Or.inr (hw _ (List.mem_of_getElem? (i := 13) rfl))) (by decide) (by decide) (by decide))))
  have F113 : Exa Z h111 g "com/example/lambdalane/lambdalane/NodeGraph" := (F110.wr W111)
  obtain ⟨T114, h114, X114, e114, W114, st114⟩ := putF X111 hx hZ hown (host := "") (Or.inl (hw _ (List.mem_of_getElem? (i := 14) rfl))) Via.refl e111 F112 F113 (Or.inr ⟨(hw _ (List.mem_of_getElem? (i := 15) rfl)), rfl, hnm⟩) (hw _ (List.mem_of_getElem? (i := 2) rfl)) (ty := .int) (by decide) rfl rfl (g := (mkF m 18 #[.val (.ref g), .val (.int sl), .val (.int ld), .val (.int (0 : Int32)), .val (.int cp)] [(.int ld), (.ref g)])) rfl rfl (hb hby d1_18)
  obtain ⟨L114, X114, M114⟩ := own_hide X114 (Fr.snoc X114 M111 gg)
  have Z114 : n0 ≤ h114.size := (by rw [Wr.size W114]; exact Z111)
  have F114 : Fld Z h114 g "com/example/lambdalane/lambdalane/NodeGraph" "load" "I" (.int ld) := (F112.same W114)
  refine own_by st114 ?_
  show own_Go p e below _ (T114.setTop (mkF m 21 #[.val (.ref g), .val (.int sl), .val (.int ld), .val (.int (0 : Int32)), .val (.int cp)] []))
  refine own_by (fun _ kont => XS.aloadN X114.here hx rfl (hb hby d1_21) rfl rfl kont) ?_
  show own_Go p e below _ (T114.setTop (mkF m 22 #[.val (.ref g), .val (.int sl), .val (.int ld), .val (.int (0 : Int32)), .val (.int cp)] [(.ref g)]))
  refine own_by (fun _ kont => XS.iloadN X114.here hx rfl (hb hby d1_22) rfl kont) ?_
  show own_Go p e below _ (T114.setTop (mkF m 23 #[.val (.ref g), .val (.int sl), .val (.int ld), .val (.int (0 : Int32)), .val (.int cp)] [(.int (0 : Int32)), (.ref g)]))
  have F115 : Fld Z h114 g "com/example/lambdalane/lambdalane/NodeGraph" "colourLimit" "I" (.int (0 : Int32)) := (((DcolourLimit.other W108 (Or.inr (slot_ne (t := .int) (t' := .int) (Or.inr (hw _ (List.mem_of_getElem? (i := 17) rfl))) (Or.inl (hw _ (List.mem_of_getElem? (i := 11) rfl))) (by decide) (by decide) (by decide)))).other W111 (Or.inr (slot_ne (t := .int) (t' := .int) (Or.inr (hw _ (List.mem_of_getElem? (i := 17) rfl))) (Or.inr (hw _ (List.mem_of_getElem? (i := 13) rfl))) (by decide) (by decide) (by decide)))).other W114 (Or.inr (slot_ne (t := .int) (t' := .int) (Or.inr (hw _ (List.mem_of_getElem? (i := 17) rfl))) (Or.inr (hw _ (List.mem_of_getElem? (i := 15) rfl))) (by decide) (by decide) (by decide))))
  have F116 : Exa Z h114 g "com/example/lambdalane/lambdalane/NodeGraph" := (F113.wr W114)
  obtain ⟨T117, h117, X117, e117, W117, st117⟩ := putF X114 hx hZ hown (host := "") (Or.inl (hw _ (List.mem_of_getElem? (i := 16) rfl))) Via.refl e114 F115 F116 (Or.inr ⟨(hw _ (List.mem_of_getElem? (i := 17) rfl)), rfl, hnm⟩) (hw _ (List.mem_of_getElem? (i := 2) rfl)) (ty := .int) (by decide) rfl rfl (g := (mkF m 23 #[.val (.ref g), .val (.int sl), .val (.int ld), .val (.int (0 : Int32)), .val (.int cp)] [(.int (0 : Int32)), (.ref g)])) rfl rfl (hb hby d1_23)
  obtain ⟨L117, X117, M117⟩ := own_hide X117 (Fr.snoc X117 M114 gg)
  have Z117 : n0 ≤ h117.size := (by rw [Wr.size W117]; exact Z114)
  have F117 : Fld Z h117 g "com/example/lambdalane/lambdalane/NodeGraph" "colourLimit" "I" (.int (0 : Int32)) := (F115.same W117)
  refine own_by st117 ?_
  show own_Go p e below _ (T117.setTop (mkF m 26 #[.val (.ref g), .val (.int sl), .val (.int ld), .val (.int (0 : Int32)), .val (.int cp)] []))
  refine own_by (fun _ kont => XS.aloadN X117.here hx rfl (hb hby d1_26) rfl rfl kont) ?_
  show own_Go p e below _ (T117.setTop (mkF m 27 #[.val (.ref g), .val (.int sl), .val (.int ld), .val (.int (0 : Int32)), .val (.int cp)] [(.ref g)]))
  refine own_by (fun _ kont => XS.iload X117.here hx rfl (hb hby d1_27) rfl kont) ?_
  show own_Go p e below _ (T117.setTop (mkF m 29 #[.val (.ref g), .val (.int sl), .val (.int ld), .val (.int (0 : Int32)), .val (.int cp)] [(.int cp), (.ref g)]))
  obtain ⟨T118, h118, a118, X118, e118, g118, E118, H118, st118⟩ := own_newIA X117 hx hZ (hw _ (List.mem_of_getElem? (i := 18) rfl)) e117 (g := (mkF m 29 #[.val (.ref g), .val (.int sl), .val (.int ld), .val (.int (0 : Int32)), .val (.int cp)] [(.int cp), (.ref g)])) rfl (hb hby d1_29) rfl cap hcp (cap := 3) hc3 (by decide) (by decide) (by decide)
  have F119 : Exa Z h117 g "com/example/lambdalane/lambdalane/NodeGraph" := (F116.wr W117)
  have ne120 : g ≠ a118 := by rw [g118]; exact Nat.ne_of_lt F119.lt
  have ge118 : n0 ≤ a118 := by rw [g118]; exact Z117
  have Z118 : n0 ≤ h118.size := Nat.le_trans Z117 E118.1
  refine own_by st118 ?_
  show own_Go p e below _ (T118.setTop (mkF m 31 #[.val (.ref g), .val (.int sl), .val (.int ld), .val (.int (0 : Int32)), .val (.int cp)] [(.ref a118), (.ref g)]))
  have F121 : Fld Z h118 g "com/example/lambdalane/lambdalane/NodeGraph" "left" "[I" .null := (((((Dleft.other W108 (Or.inr (slot_ne (t := (.array .int)) (t' := .int) (Or.inl (hw _ (List.mem_of_getElem? (i := 20) rfl))) (Or.inl (hw _ (List.mem_of_getElem? (i := 11) rfl))) (by decide) (by decide) (by decide)))).other W111 (Or.inr (slot_ne (t := (.array .int)) (t' := .int) (Or.inl (hw _ (List.mem_of_getElem? (i := 20) rfl))) (Or.inr (hw _ (List.mem_of_getElem? (i := 13) rfl))) (by decide) (by decide) (by decide)))).other W114 (Or.inr (slot_ne (t := (.array .int)) (t' := .int) (Or.inl (hw _ (List.mem_of_getElem? (i := 20) rfl))) (Or.inr (hw _ (List.mem_of_getElem? (i := 15) rfl))) (by decide) (by decide) (by decide)))).other W117 (Or.inr (slot_ne (t := (.array .int)) (t' := .int) (Or.inl (hw _ (List.mem_of_getElem? (i := 20) rfl))) (Or.inr (hw _ (List.mem_of_getElem? (i := 17) rfl))) (by decide) (by decide) (by decide)))).ext E118)
  have F122 : Exa Z h118 g "com/example/lambdalane/lambdalane/NodeGraph" := (F119.ext E118)
  obtain ⟨T123, h123, X123, e123, W123, st123⟩ := putF X118 hx hZ hown (host := "") (Or.inl (hw _ (List.mem_of_getElem? (i := 19) rfl))) Via.refl e118 F121 F122 (Or.inl (hw _ (List.mem_of_getElem? (i := 20) rfl))) (hw _ (List.mem_of_getElem? (i := 2) rfl)) (ty := (.array .int)) (by decide) rfl rfl (g := (mkF m 31 #[.val (.ref g), .val (.int sl), .val (.int ld), .val (.int (0 : Int32)), .val (.int cp)] [(.ref a118), (.ref g)])) rfl rfl (hb hby d1_31)
  obtain ⟨L123, X123, M123⟩ := own_hide X123 (Fr.snoc X123 M117 gg)
  have Z123 : n0 ≤ h123.size := (by rw [Wr.size W123]; exact Z118)
  have F123 : Fld Z h123 g "com/example/lambdalane/lambdalane/NodeGraph" "left" "[I" (.ref a118) := (F121.same W123)
  refine own_by st123 ?_
  show own_Go p e below _ (T123.setTop (mkF m 34 #[.val (.ref g), .val (.int sl), .val (.int ld), .val (.int (0 : Int32)), .val (.int cp)] []))
  refine own_by (fun _ kont => XS.aloadN X123.here hx rfl (hb hby d1_34) rfl rfl kont) ?_
  show own_Go p e below _ (T123.setTop (mkF m 35 #[.val (.ref g), .val (.int sl), .val (.int ld), .val (.int (0 : Int32)), .val (.int cp)] [(.ref g)]))
  refine own_by (fun _ kont => XS.iload X123.here hx rfl (hb hby d1_35) rfl kont) ?_
  show own_Go p e below _ (T123.setTop (mkF m 37 #[.val (.ref g), .val (.int sl), .val (.int ld), .val (.int (0 : Int32)), .val (.int cp)] [(.int cp), (.ref g)]))
  obtain ⟨T124, h124, a124, X124, e124, g124, E124, H124, st124⟩ := own_newIA X123 hx hZ (hw _ (List.mem_of_getElem? (i := 18) rfl)) e123 (g := (mkF m 37 #[.val (.ref g), .val (.int sl), .val (.int ld), .val (.int (0 : Int32)), .val (.int cp)] [(.int cp), (.ref g)])) rfl (hb hby d1_37) rfl cap hcp (cap := 3) hc3 (by decide) (by decide) (by decide)
  have F125 : Exa Z h123 g "com/example/lambdalane/lambdalane/NodeGraph" := (F122.wr W123)
  have ne126 : g ≠ a124 := by rw [g124]; exact Nat.ne_of_lt F125.lt
  have F127 : own_IA Z h123 a118 cap (fun _ => 0) := (own_IA_other H118 W123 (Ne.symm ne120))
  have ne128 : a118 ≠ a124 := by rw [g124]; exact Nat.ne_of_lt (own_IA_lt F127)
  have ge124 : n0 ≤ a124 := by rw [g124]; exact Z123
  have Z124 : n0 ≤ h124.size := Nat.le_trans Z123 E124.1
  refine own_by st124 ?_
  show own_Go p e below _ (T124.setTop (mkF m 39 #[.val (.ref g), .val (.int sl), .val (.int ld), .val (.int (0 : Int32)), .val (.int cp)] [(.ref a124), (.ref g)]))
  have F129 : Fld Z h124 g "com/example/lambdalane/lambdalane/NodeGraph" "right" "[I" .null := (((((((Dright.other W108 (Or.inr (slot_ne (t := (.array .int)) (t' := .int) (Or.inl (hw _ (List.mem_of_getElem? (i := 22) rfl))) (Or.inl (hw _ (List.mem_of_getElem? (i := 11) rfl))) (by decide) (by decide) (by decide)))).other W111 (Or.inr (slot_ne (t := (.array .int)) (t' := .int) (Or.inl (hw _ (List.mem_of_getElem? (i := 22) rfl))) (Or.inr (hw _ (List.mem_of_getElem? (i := 13) rfl))) (by decide) (by decide) (by decide)))).other W114 (Or.inr (slot_ne (t := (.array .int)) (t' := .int) (Or.inl (hw _ (List.mem_of_getElem? (i := 22) rfl))) (Or.inr (hw _ (List.mem_of_getElem? (i := 15) rfl))) (by decide) (by decide) (by decide)))).other W117 (Or.inr (slot_ne (t := (.array .int)) (t' := .int) (Or.inl (hw _ (List.mem_of_getElem? (i := 22) rfl))) (Or.inr (hw _ (List.mem_of_getElem? (i := 17) rfl))) (by decide) (by decide) (by decide)))).ext E118).other W123 (Or.inr (slot_ne (t := (.array .int)) (t' := (.array .int)) (Or.inl (hw _ (List.mem_of_getElem? (i := 22) rfl))) (Or.inl (hw _ (List.mem_of_getElem? (i := 20) rfl))) (by decide) (by decide) (by decide)))).ext E124)
  have F130 : Exa Z h124 g "com/example/lambdalane/lambdalane/NodeGraph" := (F125.ext E124)
  obtain ⟨T131, h131, X131, e131, W131, st131⟩ := putF X124 hx hZ hown (host := "") (Or.inl (hw _ (List.mem_of_getElem? (i := 21) rfl))) Via.refl e124 F129 F130 (Or.inl (hw _ (List.mem_of_getElem? (i := 22) rfl))) (hw _ (List.mem_of_getElem? (i := 2) rfl)) (ty := (.array .int)) (by decide) rfl rfl (g := (mkF m 39 #[.val (.ref g), .val (.int sl), .val (.int ld), .val (.int (0 : Int32)), .val (.int cp)] [(.ref a124), (.ref g)])) rfl rfl (hb hby d1_39)
  obtain ⟨L131, X131, M131⟩ := own_hide X131 (Fr.snoc X131 M123 gg)
  have Z131 : n0 ≤ h131.size := (by rw [Wr.size W131]; exact Z124)
  have F131 : Fld Z h131 g "com/example/lambdalane/lambdalane/NodeGraph" "right" "[I" (.ref a124) := (F129.same W131)
  refine own_by st131 ?_
  show own_Go p e below _ (T131.setTop (mkF m 42 #[.val (.ref g), .val (.int sl), .val (.int ld), .val (.int (0 : Int32)), .val (.int cp)] []))
  refine own_by (fun _ kont => XS.aloadN X131.here hx rfl (hb hby d1_42) rfl rfl kont) ?_
  show own_Go p e below _ (T131.setTop (mkF m 43 #[.val (.ref g), .val (.int sl), .val (.int ld), .val (.int (0 : Int32)), .val (.int cp)] [(.ref g)]))
  refine own_by (fun _ kont => XS.iload X131.here hx rfl (hb hby d1_43) rfl kont) ?_
  show own_Go p e below _ (T131.setTop (mkF m 45 #[.val (.ref g), .val (.int sl), .val (.int ld), .val (.int (0 : Int32)), .val (.int cp)] [(.int cp), (.ref g)]))
  obtain ⟨T132, h132, a132, X132, e132, g132, E132, H132, st132⟩ := own_newIA X131 hx hZ (hw _ (List.mem_of_getElem? (i := 18) rfl)) e131 (g := (mkF m 45 #[.val (.ref g), .val (.int sl), .val (.int ld), .val (.int (0 : Int32)), .val (.int cp)] [(.int cp), (.ref g)])) rfl (hb hby d1_45) rfl cap hcp (cap := 3) hc3 (by decide) (by decide) (by decide)
  have F133 : Exa Z h131 g "com/example/lambdalane/lambdalane/NodeGraph" := (F130.wr W131)
  have ne134 : g ≠ a132 := by rw [g132]; exact Nat.ne_of_lt F133.lt
  have F135 : own_IA Z h131 a118 cap (fun _ => 0) := (own_IA_other (own_IA_ext F127 E124) W131 (Ne.symm ne120))
  have ne136 : a118 ≠ a132 := by rw [g132]; exact Nat.ne_of_lt (own_IA_lt F135)
  have F137 : own_IA Z h131 a124 cap (fun _ => 0) := (own_IA_other H124 W131 (Ne.symm ne126))
  have ne138 : a124 ≠ a132 := by rw [g132]; exact Nat.ne_of_lt (own_IA_lt F137)
  have ge132 : n0 ≤ a132 := by rw [g132]; exact Z131
  have Z132 : n0 ≤ h132.size := Nat.le_trans Z131 E132.1
  refine own_by st132 ?_
  show own_Go p e below _ (T132.setTop (mkF m 47 #[.val (.ref g), .val (.int sl), .val (.int ld), .val (.int (0 : Int32)), .val (.int cp)] [(.ref a132), (.ref g)]))
  have F139 : Fld Z h132 g "com/example/lambdalane/lambdalane/NodeGraph" "colour" "[I" .null := (((((((((Dcolour.other W108 (Or.inr (slot_ne (t := (.array .int)) (t' := .int) (Or.inl (hw _ (List.mem_of_getElem? (i := 24) rfl))) (Or.inl (hw _ (List.mem_of_getElem? (i := 11) rfl))) (by decide) (by decide) (by decide)))).other W111 (Or.inr (slot_ne (t := (.array .int)) (t' := .int) (Or.inl (hw _ (List.mem_of_getElem? (i := 24) rfl))) (Or.inr (hw _ (List.mem_of_getElem? (i := 13) rfl))) (by decide) (by decide) (by decide)))).other W114 (Or.inr (slot_ne (t := (.array .int)) (t' := .int) (Or.inl (hw _ (List.mem_of_getElem? (i := 24) rfl))) (Or.inr (hw _ (List.mem_of_getElem? (i := 15) rfl))) (by decide) (by decide) (by decide)))).other W117 (Or.inr (slot_ne (t := (.array .int)) (t' := .int) (Or.inl (hw _ (List.mem_of_getElem? (i := 24) rfl))) (Or.inr (hw _ (List.mem_of_getElem? (i := 17) rfl))) (by decide) (by decide) (by decide)))).ext E118).other W123 (Or.inr (slot_ne (t := (.array .int)) (t' := (.array .int)) (Or.inl (hw _ (List.mem_of_getElem? (i := 24) rfl))) (Or.inl (hw _ (List.mem_of_getElem? (i := 20) rfl))) (by decide) (by decide) (by decide)))).ext E124).other W131 (Or.inr (slot_ne (t := (.array .int)) (t' := (.array .int)) (Or.inl (hw _ (List.mem_of_getElem? (i := 24) rfl))) (Or.inl (hw _ (List.mem_of_getElem? (i := 22) rfl))) (by decide) (by decide) (by decide)))).ext E132)
  have F140 : Exa Z h132 g "com/example/lambdalane/lambdalane/NodeGraph" := (F133.ext E132)
  obtain ⟨T141, h141, X141, e141, W141, st141⟩ := putF X132 hx hZ hown (host := "") (Or.inl (hw _ (List.mem_of_getElem? (i := 23) rfl))) Via.refl e132 F139 F140 (Or.inl (hw _ (List.mem_of_getElem? (i := 24) rfl))) (hw _ (List.mem_of_getElem? (i := 2) rfl)) (ty := (.array .int)) (by decide) rfl rfl (g := (mkF m 47 #[.val (.ref g), .val (.int sl), .val (.int ld), .val (.int (0 : Int32)), .val (.int cp)] [(.ref a132), (.ref g)])) rfl rfl (hb hby d1_47)
  obtain ⟨L141, X141, M141⟩ := own_hide X141 (Fr.snoc X141 M131 gg)
  have Z141 : n0 ≤ h141.size := (by rw [Wr.size W141]; exact Z132)
  have F141 : Fld Z h141 g "com/example/lambdalane/lambdalane/NodeGraph" "colour" "[I" (.ref a132) := (F139.same W141)
  refine own_by st141 ?_
  show own_Go p e below _ (T141.setTop (mkF m 50 #[.val (.ref g), .val (.int sl), .val (.int ld), .val (.int (0 : Int32)), .val (.int cp)] []))
  refine own_by (fun _ kont => XS.aloadN X141.here hx rfl (hb hby d1_50) rfl rfl kont) ?_
  show own_Go p e below _ (T141.setTop (mkF m 51 #[.val (.ref g), .val (.int sl), .val (.int ld), .val (.int (0 : Int32)), .val (.int cp)] [(.ref g)]))
  refine own_by (fun _ kont => XS.iloadN X141.here hx rfl (hb hby d1_51) rfl kont) ?_
  show own_Go p e below _ (T141.setTop (mkF m 52 #[.val (.ref g), .val (.int sl), .val (.int ld), .val (.int (0 : Int32)), .val (.int cp)] [(.int (0 : Int32)), (.ref g)]))
  refine own_by (fun _ kont => XT.iconstV X141.here hx rfl (1 : Int32) (hb hby d1_52) rfl kont) ?_
  show own_Go p e below _ (T141.setTop (mkF m 53 #[.val (.ref g), .val (.int sl), .val (.int ld), .val (.int (0 : Int32)), .val (.int cp)] [(.int (1 : Int32)), (.int (0 : Int32)), (.ref g)]))
  refine own_by (fun _ kont => XS.iadd X141.here hx rfl (hb hby d1_53) rfl kont) ?_
  show own_Go p e below _ (T141.setTop (mkF m 54 #[.val (.ref g), .val (.int sl), .val (.int ld), .val (.int (0 : Int32)), .val (.int cp)] [(.int ((0 : Int32) + (1 : Int32))), (.ref g)]))
  obtain ⟨T142, h142, a142, X142, e142, g142, E142, H142, st142⟩ := own_newIA X141 hx hZ (hw _ (List.mem_of_getElem? (i := 18) rfl)) e141 (g := (mkF m 54 #[.val (.ref g), .val (.int sl), .val (.int ld), .val (.int (0 : Int32)), .val (.int cp)] [(.int ((0 : Int32) + (1 : Int32))), (.ref g)])) rfl (hb hby d1_54) rfl 1 (by decide) (cap := 1) (by decide) (by decide) (by decide) (by decide)
  have F143 : Exa Z h141 g "com/example/lambdalane/lambdalane/NodeGraph" := (F140.wr W141)
  have ne144 : g ≠ a142 := by rw [g142]; exact Nat.ne_of_lt F143.lt
  have F145 : own_IA Z h141 a118 cap (fun _ => 0) := (own_IA_other (own_IA_ext F135 E132) W141 (Ne.symm ne120))
  have ne146 : a118 ≠ a142 := by rw [g142]; exact Nat.ne_of_lt (own_IA_lt F145)
  have F147 : own_IA Z h141 a124 cap (fun _ => 0) := (own_IA_other (own_IA_ext F137 E132) W141 (Ne.symm ne126))
  have ne148 : a124 ≠ a142 := by rw [g142]; exact Nat.ne_of_lt (own_IA_lt F147)
  have F149 : own_IA Z h141 a132 cap (fun _ => 0) := (own_IA_other H132 W141 (Ne.symm ne134))
  have ne150 : a132 ≠ a142 := by rw [g142]; exact Nat.ne_of_lt (own_IA_lt F149)
  have ge142 : n0 ≤ a142 := by rw [g142]; exact Z141
  have Z142 : n0 ≤ h142.size := Nat.le_trans Z141 E142.1
  refine own_by st142 ?_
  show own_Go p e below _ (T142.setTop (mkF m 56 #[.val (.ref g), .val (.int sl), .val (.int ld), .val (.int (0 : Int32)), .val (.int cp)] [(.ref a142), (.ref g)]))
  have F151 : Fld Z h142 g "com/example/lambdalane/lambdalane/NodeGraph" "inEdgeOf" "[I" .null := (((((((((((DinEdgeOf.other W108 (Or.inr (slot_ne (t := (.array .int)) (t' := .int) (Or.inr (hw _ (List.mem_of_getElem? (i := 26) rfl))) (Or.inl (hw _ (List.mem_of_getElem? (i := 11) rfl))) (by decide) (by decide) (by decide)))).other W111 (Or.inr (slot_ne (t := (.array .int)) (t' := .int) (Or.inr (hw _ (List.mem_of_getElem? (i := 26) rfl))) (Or.inr (hw _ (List.mem_of_getElem? (i := 13) rfl))) (by decide) (by decide) (by decide)))).other W114 (Or.inr (slot_ne (t := (.array .int)) (t' := .int) (Or.inr (hw _ (List.mem_of_getElem? (i := 26) rfl))) (Or.inr (hw _ (List.mem_of_getElem? (i := 15) rfl))) (by decide) (by decide) (by decide)))).other W117 (Or.inr (slot_ne (t := (.array .int)) (t' := .int) (Or.inr (hw _ (List.mem_of_getElem? (i := 26) rfl))) (Or.inr (hw _ (List.mem_of_getElem? (i := 17) rfl))) (by decide) (by decide) (by decide)))).ext E118).other W123 (Or.inr (slot_ne (t := (.array .int)) (t' := (.array .int)) (Or.inr (hw _ (List.mem_of_getElem? (i := 26) rfl))) (Or.inl (hw _ (List.mem_of_getElem? (i := 20) rfl))) (by decide) (by decide) (by decide)))).ext E124).other W131 (Or.inr (slot_ne (t := (.array .int)) (t' := (.array .int)) (Or.inr (hw _ (List.mem_of_getElem? (i := 26) rfl))) (Or.inl (hw _ (List.mem_of_getElem? (i := 22) rfl))) (by decide) (by decide) (by decide)))).ext E132).other W141 (Or.inr (slot_ne (t := (.array .int)) (t' := (.array .int)) (Or.inr (hw _ (List.mem_of_getElem? (i := 26) rfl))) (Or.inl (hw _ (List.mem_of_getElem? (i := 24) rfl))) (by decide) (by decide) (by decide)))).ext E142)
  have F152 : Exa Z h142 g "com/example/lambdalane/lambdalane/NodeGraph" := (F143.ext E142)
  obtain ⟨T153, h153, X153, e153, W153, st153⟩ := putF X142 hx hZ hown (host := "") (Or.inl (hw _ (List.mem_of_getElem? (i := 25) rfl))) Via.refl e142 F151 F152 (Or.inr ⟨(hw _ (List.mem_of_getElem? (i := 26) rfl)), rfl, hnm⟩) (hw _ (List.mem_of_getElem? (i := 2) rfl)) (ty := (.array .int)) (by decide) rfl rfl (g := (mkF m 56 #[.val (.ref g), .val (.int sl), .val (.int ld), .val (.int (0 : Int32)), .val (.int cp)] [(.ref a142), (.ref g)])) rfl rfl (hb hby d1_56)
  obtain ⟨L153, X153, M153⟩ := own_hide X153 (Fr.snoc X153 M141 gg)
  have Z153 : n0 ≤ h153.size := (by rw [Wr.size W153]; exact Z142)
  have F153 : Fld Z h153 g "com/example/lambdalane/lambdalane/NodeGraph" "inEdgeOf" "[I" (.ref a142) := (F151.same W153)
  refine own_by st153 ?_
  show own_Go p e below _ (T153.setTop (mkF m 59 #[.val (.ref g), .val (.int sl), .val (.int ld), .val (.int (0 : Int32)), .val (.int cp)] []))
  refine own_by (fun _ kont => XS.aloadN X153.here hx rfl (hb hby d1_59) rfl rfl kont) ?_
  show own_Go p e below _ (T153.setTop (mkF m 60 #[.val (.ref g), .val (.int sl), .val (.int ld), .val (.int (0 : Int32)), .val (.int cp)] [(.ref g)]))
  refine own_by (fun _ kont => XS.iloadN X153.here hx rfl (hb hby d1_60) rfl kont) ?_
  show own_Go p e below _ (T153.setTop (mkF m 61 #[.val (.ref g), .val (.int sl), .val (.int ld), .val (.int (0 : Int32)), .val (.int cp)] [(.int (0 : Int32)), (.ref g)]))
  refine own_by (fun _ kont => XT.iconstV X153.here hx rfl (1 : Int32) (hb hby d1_61) rfl kont) ?_
  show own_Go p e below _ (T153.setTop (mkF m 62 #[.val (.ref g), .val (.int sl), .val (.int ld), .val (.int (0 : Int32)), .val (.int cp)] [(.int (1 : Int32)), (.int (0 : Int32)), (.ref g)]))
  refine own_by (fun _ kont => XS.iadd X153.here hx rfl (hb hby d1_62) rfl kont) ?_
  show own_Go p e below _ (T153.setTop (mkF m 63 #[.val (.ref g), .val (.int sl), .val (.int ld), .val (.int (0 : Int32)), .val (.int cp)] [(.int ((0 : Int32) + (1 : Int32))), (.ref g)]))
  obtain ⟨T154, h154, a154, X154, e154, g154, E154, H154, st154⟩ := own_newIA X153 hx hZ (hw _ (List.mem_of_getElem? (i := 18) rfl)) e153 (g := (mkF m 63 #[.val (.ref g), .val (.int sl), .val (.int ld), .val (.int (0 : Int32)), .val (.int cp)] [(.int ((0 : Int32) + (1 : Int32))), (.ref g)])) rfl (hb hby d1_63) rfl 1 (by decide) (cap := 1) (by decide) (by decide) (by decide) (by decide)
  have F155 : Exa Z h153 g "com/example/lambdalane/lambdalane/NodeGraph" := (F152.wr W153)
  have ne156 : g ≠ a154 := by rw [g154]; exact Nat.ne_of_lt F155.lt
  have F157 : own_IA Z h153 a118 cap (fun _ => 0) := (own_IA_other (own_IA_ext F145 E142) W153 (Ne.symm ne120))
  have ne158 : a118 ≠ a154 := by rw [g154]; exact Nat.ne_of_lt (own_IA_lt F157)
  have F159 : own_IA Z h153 a124 cap (fun _ => 0) := (own_IA_other (own_IA_ext F147 E142) W153 (Ne.symm ne126))
  have ne160 : a124 ≠ a154 := by rw [g154]; exact Nat.ne_of_lt (own_IA_lt F159)
  have F161 : own_IA Z h153 a132 cap (fun _ => 0) := (own_IA_other (own_IA_ext F149 E142) W153 (Ne.symm ne134))
  have ne162 : a132 ≠ a154 := by rw [g154]; exact Nat.ne_of_lt (own_IA_lt F161)
  have F163 : own_IA Z h153 a142 1 (fun _ => 0) := (own_IA_other H142 W153 (Ne.symm ne144))
  have ne164 : a142 ≠ a154 := by rw [g154]; exact Nat.ne_of_lt (own_IA_lt F163)
  have ge154 : n0 ≤ a154 := by rw [g154]; exact Z153
  have Z154 : n0 ≤ h154.size := Nat.le_trans Z153 E154.1
  refine own_by st154 ?_
  show own_Go p e below _ (T154.setTop (mkF m 65 #[.val (.ref g), .val (.int sl), .val (.int ld), .val (.int (0 : Int32)), .val (.int cp)] [(.ref a154), (.ref g)]))
  have F165 : Fld Z h154 g "com/example/lambdalane/lambdalane/NodeGraph" "outEdgeOf" "[I" .null := (((((((((((((DoutEdgeOf.other W108 (Or.inr (slot_ne (t := (.array .int)) (t' := .int) (Or.inr (hw _ (List.mem_of_getElem? (i := 28) rfl))) (Or.inl (hw _ (List.mem_of_getElem? (i := 11) rfl))) (by decide) (by decide) (by decide)))).other W111 (Or.inr (slot_ne (t := (.array .int)) (t' := .int) (Or.inr (hw _ (List.mem_of_getElem? (i := 28) rfl))) (Or.inr (hw _ (List.mem_of_getElem? (i := 13) rfl))) (by decide) (by decide) (by decide)))).other W114 (Or.inr (slot_ne (t := (.array .int)) (t' := .int) (Or.inr (hw _ (List.mem_of_getElem? (i := 28) rfl))) (Or.inr (hw _ (List.mem_of_getElem? (i := 15) rfl))) (by decide) (by decide) (by decide)))).other W117 (Or.inr (slot_ne (t := (.array .int)) (t' := .int) (Or.inr (hw _ (List.mem_of_getElem? (i := 28) rfl))) (Or.inr (hw _ (List.mem_of_getElem? (i := 17) rfl))) (by decide) (by decide) (by decide)))).ext E118).other W123 (Or.inr (slot_ne (t := (.array .int)) (t' := (.array .int)) (Or.inr (hw _ (List.mem_of_getElem? (i := 28) rfl))) (Or.inl (hw _ (List.mem_of_getElem? (i := 20) rfl))) (by decide) (by decide) (by decide)))).ext E124).other W131 (Or.inr (slot_ne (t := (.array .int)) (t' := (.array .int)) (Or.inr (hw _ (List.mem_of_getElem? (i := 28) rfl))) (Or.inl (hw _ (List.mem_of_getElem? (i := 22) rfl))) (by decide) (by decide) (by decide)))).ext E132).other W141 (Or.inr (slot_ne (t := (.array .int)) (t' := (.array .int)) (Or.inr (hw _ (List.mem_of_getElem? (i := 28) rfl))) (Or.inl (hw _ (List.mem_of_getElem? (i := 24) rfl))) (by decide) (by decide) (by decide)))).ext E142).other W153 (Or.inr (slot_ne (t := (.array .int)) (t' := (.array .int)) (Or.inr (hw _ (List.mem_of_getElem? (i := 28) rfl))) (Or.inr (hw _ (List.mem_of_getElem? (i := 26) rfl))) (by decide) (by decide) (by decide)))).ext E154)
  have F166 : Exa Z h154 g "com/example/lambdalane/lambdalane/NodeGraph" := (F155.ext E154)
  obtain ⟨T167, h167, X167, e167, W167, st167⟩ := putF X154 hx hZ hown (host := "") (Or.inl (hw _ (List.mem_of_getElem? (i := 27) rfl))) Via.refl e154 F165 F166 (Or.inr ⟨(hw _ (List.mem_of_getElem? (i := 28) rfl)), rfl, hnm⟩) (hw _ (List.mem_of_getElem? (i := 2) rfl)) (ty := (.array .int)) (by decide) rfl rfl (g := (mkF m 65 #[.val (.ref g), .val (.int sl), .val (.int ld), .val (.int (0 : Int32)), .val (.int cp)] [(.ref a154), (.ref g)])) rfl rfl (hb hby d1_65)
  obtain ⟨L167, X167, M167⟩ := own_hide X167 (Fr.snoc X167 M153 gg)
  have Z167 : n0 ≤ h167.size := (by rw [Wr.size W167]; exact Z154)
  have F167 : Fld Z h167 g "com/example/lambdalane/lambdalane/NodeGraph" "outEdgeOf" "[I" (.ref a154) := (F165.same W167)
  refine own_by st167 ?_
  show own_Go p e below _ (T167.setTop (mkF m 68 #[.val (.ref g), .val (.int sl), .val (.int ld), .val (.int (0 : Int32)), .val (.int cp)] []))
  refine own_by (fun _ kont => XS.aloadN X167.here hx rfl (hb hby d1_68) rfl rfl kont) ?_
  show own_Go p e below _ (T167.setTop (mkF m 69 #[.val (.ref g), .val (.int sl), .val (.int ld), .val (.int (0 : Int32)), .val (.int cp)] [(.ref g)]))
  refine own_by (fun _ kont => XS.iloadN X167.here hx rfl (hb hby d1_69) rfl kont) ?_
  show own_Go p e below _ (T167.setTop (mkF m 70 #[.val (.ref g), .val (.int sl), .val (.int ld), .val (.int (0 : Int32)), .val (.int cp)] [(.int (0 : Int32)), (.ref g)]))
  refine own_by (fun _ kont => XT.iconstV X167.here hx rfl (1 : Int32) (hb hby d1_70) rfl kont) ?_
  show own_Go p e below _ (T167.setTop (mkF m 71 #[.val (.ref g), .val (.int sl), .val (.int ld), .val (.int (0 : Int32)), .val (.int cp)] [(.int (1 : Int32)), (.int (0 : Int32)), (.ref g)]))
  refine own_by (fun _ kont => XS.iadd X167.here hx rfl (hb hby d1_71) rfl kont) ?_
  show own_Go p e below _ (T167.setTop (mkF m 72 #[.val (.ref g), .val (.int sl), .val (.int ld), .val (.int (0 : Int32)), .val (.int cp)] [(.int ((0 : Int32) + (1 : Int32))), (.ref g)]))
  obtain ⟨T168, h168, a168, X168, e168, g168, E168, H168, st168⟩ := own_newIA X167 hx hZ (hw _ (List.mem_of_getElem? (i := 18) rfl)) e167 (g := (mkF m 72 #[.val (.ref g), .val (.int sl), .val (.int ld), .val (.int (0 : Int32)), .val (.int cp)] [(.int ((0 : Int32) + (1 : Int32))), (.ref g)])) rfl (hb hby d1_72) rfl 1 (by decide) (cap := 1) (by decide) (by decide) (by decide) (by decide)
  have F169 : Exa Z h167 g "com/example/lambdalane/lambdalane/NodeGraph" := (F166.wr W167)
  have ne170 : g ≠ a168 := by rw [g168]; exact Nat.ne_of_lt F169.lt
  have F171 : own_IA Z h167 a118 cap (fun _ => 0) := (own_IA_other (own_IA_ext F157 E154) W167 (Ne.symm ne120))
  have ne172 : a118 ≠ a168 := by rw [g168]; exact Nat.ne_of_lt (own_IA_lt F171)
  have F173 : own_IA Z h167 a124 cap (fun _ => 0) := (own_IA_other (own_IA_ext F159 E154) W167 (Ne.symm ne126))
  have ne174 : a124 ≠ a168 := by rw [g168]; exact Nat.ne_of_lt (own_IA_lt F173)
  have F175 : own_IA Z h167 a132 cap (fun _ => 0) := (own_IA_other (own_IA_ext F161 E154) W167 (Ne.symm ne134))
  have ne176 : a132 ≠ a168 := by rw [g168]; exact Nat.ne_of_lt (own_IA_lt F175)
  have F177 : own_IA Z h167 a142 1 (fun _ => 0) := (own_IA_other (own_IA_ext F163 E154) W167 (Ne.symm ne144))
  have ne178 : a142 ≠ a168 := by rw [g168]; exact Nat.ne_of_lt (own_IA_lt F177)
  have F179 : own_IA Z h167 a154 1 (fun _ => 0) := (own_IA_other H154 W167 (Ne.symm ne156))
  have ne180 : a154 ≠ a168 := by rw [g168]; exact Nat.ne_of_lt (own_IA_lt F179)
  have ge168 : n0 ≤ a168 := by rw [g168]; exact Z167
  have Z168 : n0 ≤ h168.size := Nat.le_trans Z167 E168.1
  refine own_by st168 ?_
  show own_Go p e below _ (T168.setTop (mkF m 74 #[.val (.ref g), .val (.int sl), .val (.int ld), .val (.int (0 : Int32)), .val (.int cp)] [(.ref a168), (.ref g)]))
  have F181 : Fld Z h168 g "com/example/lambdalane/lambdalane/NodeGraph" "colourMark" "[I" .null := (((((((((((((((DcolourMark.other W108 (Or.inr (slot_ne (t := (.array .int)) (t' := .int) (Or.inr (hw _ (List.mem_of_getElem? (i := 30) rfl))) (Or.inl (hw _ (List.mem_of_getElem? (i := 11) rfl))) (by decide) (by decide) (by decide)))).other W111 (Or.inr (slot_ne (t := (.array .int)) (t' := .int) (Or.inr (hw _ (List.mem_of_getElem? (i := 30) rfl))) (Or.inr (hw _ (List.mem_of_getElem? (i := 13) rfl))) (by decide) (by decide) (by decide)))).other W114 (Or.inr (slot_ne (t := (.array .int)) (t' := .int) (Or.inr (hw _ (List.mem_of_getElem? (i := 30) rfl))) (Or.inr (hw _ (List.mem_of_getElem? (i := 15) rfl))) (by decide) (by decide) (by decide)))).other W117 (Or.inr (slot_ne (t := (.array .int)) (t' := .int) (Or.inr (hw _ (List.mem_of_getElem? (i := 30) rfl))) (Or.inr (hw _ (List.mem_of_getElem? (i := 17) rfl))) (by decide) (by decide) (by decide)))).ext E118).other W123 (Or.inr (slot_ne (t := (.array .int)) (t' := (.array .int)) (Or.inr (hw _ (List.mem_of_getElem? (i := 30) rfl))) (Or.inl (hw _ (List.mem_of_getElem? (i := 20) rfl))) (by decide) (by decide) (by decide)))).ext E124).other W131 (Or.inr (slot_ne (t := (.array .int)) (t' := (.array .int)) (Or.inr (hw _ (List.mem_of_getElem? (i := 30) rfl))) (Or.inl (hw _ (List.mem_of_getElem? (i := 22) rfl))) (by decide) (by decide) (by decide)))).ext E132).other W141 (Or.inr (slot_ne (t := (.array .int)) (t' := (.array .int)) (Or.inr (hw _ (List.mem_of_getElem? (i := 30) rfl))) (Or.inl (hw _ (List.mem_of_getElem? (i := 24) rfl))) (by decide) (by decide) (by decide)))).ext E142).other W153 (Or.inr (slot_ne (t := (.array .int)) (t' := (.array .int)) (Or.inr (hw _ (List.mem_of_getElem? (i := 30) rfl))) (Or.inr (hw _ (List.mem_of_getElem? (i := 26) rfl))) (by decide) (by decide) (by decide)))).ext E154).other W167 (Or.inr (slot_ne (t := (.array .int)) (t' := (.array .int)) (Or.inr (hw _ (List.mem_of_getElem? (i := 30) rfl))) (Or.inr (hw _ (List.mem_of_getElem? (i := 28) rfl))) (by decide) (by decide) (by decide)))).ext E168)
  have F182 : Exa Z h168 g "com/example/lambdalane/lambdalane/NodeGraph" := (F169.ext E168)
  obtain ⟨T183, h183, X183, e183, W183, st183⟩ := putF X168 hx hZ hown (host := "") (Or.inl (hw _ (List.mem_of_getElem? (i := 29) rfl))) Via.refl e168 F181 F182 (Or.inr ⟨(hw _ (List.mem_of_getElem? (i := 30) rfl)), rfl, hnm⟩) (hw _ (List.mem_of_getElem? (i := 2) rfl)) (ty := (.array .int)) (by decide) rfl rfl (g := (mkF m 74 #[.val (.ref g), .val (.int sl), .val (.int ld), .val (.int (0 : Int32)), .val (.int cp)] [(.ref a168), (.ref g)])) rfl rfl (hb hby d1_74)
  obtain ⟨L183, X183, M183⟩ := own_hide X183 (Fr.snoc X183 M167 gg)
  have Z183 : n0 ≤ h183.size := (by rw [Wr.size W183]; exact Z168)
  have F183 : Fld Z h183 g "com/example/lambdalane/lambdalane/NodeGraph" "colourMark" "[I" (.ref a168) := (F181.same W183)
  refine own_by st183 ?_
  show own_Go p e below _ (T183.setTop (mkF m 77 #[.val (.ref g), .val (.int sl), .val (.int ld), .val (.int (0 : Int32)), .val (.int cp)] []))
  refine own_by (fun _ kont => XS.aloadN X183.here hx rfl (hb hby d1_77) rfl rfl kont) ?_
  show own_Go p e below _ (T183.setTop (mkF m 78 #[.val (.ref g), .val (.int sl), .val (.int ld), .val (.int (0 : Int32)), .val (.int cp)] [(.ref g)]))
  have F184 : Fld Z h183 g "com/example/lambdalane/lambdalane/NodeGraph" "inEdgeOf" "[I" (.ref a142) := ((((F153.ext E154).other W167 (Or.inr (slot_ne (t := (.array .int)) (t' := (.array .int)) (Or.inr (hw _ (List.mem_of_getElem? (i := 26) rfl))) (Or.inr (hw _ (List.mem_of_getElem? (i := 28) rfl))) (by decide) (by decide) (by decide)))).ext E168).other W183 (Or.inr (slot_ne (t := (.array .int)) (t' := (.array .int)) (Or.inr (hw _ (List.mem_of_getElem? (i := 26) rfl))) (Or.inr (hw _ (List.mem_of_getElem? (i := 30) rfl))) (by decide) (by decide) (by decide))))
  obtain ⟨T185, X185, e185, st185⟩ := getF X183 hx hZ hown (host := "") (Or.inl (hw _ (List.mem_of_getElem? (i := 25) rfl))) Via.refl e183 F184 (g := (mkF m 78 #[.val (.ref g), .val (.int sl), .val (.int ld), .val (.int (0 : Int32)), .val (.int cp)] [(.ref g)])) rfl rfl (hb hby d1_78)
  refine own_by st185 ?_
  show own_Go p e below _ (T185.setTop (mkF m 81 #[.val (.ref g), .val (.int sl), .val (.int ld), .val (.int (0 : Int32)), .val (.int cp)] [(.ref a142)]))
  refine own_by (fun _ kont => XT.iconstV X185.here hx rfl (-1 : Int32) (hb hby d1_81) rfl kont) ?_
  show own_Go p e below _ (T185.setTop (mkF m 82 #[.val (.ref g), .val (.int sl), .val (.int ld), .val (.int (0 : Int32)), .val (.int cp)] [(.int (-1 : Int32)), (.ref a142)]))
  have F186 : own_IA Z h183 a142 1 (fun _ => 0) := (own_IA_other (own_IA_ext F177 E168) W183 (Ne.symm ne144))
  obtain ⟨_, _, ⟨T187, L187, k187, n187⟩, -, X187, ⟨Lc187, hQ187, l187, y187, z187⟩, st187⟩ := Jvm.LawKit.callS X185 hx (y := (⟨"java/util/Arrays", "fill", "([II)V"⟩ : MethodName)) hown (mvT hZ (hw _ (List.mem_of_getElem? (i := 31) rfl))) (mvT hZ (hw _ (List.mem_of_getElem? (i := 32) rfl))) (mvT hZ (hw _ (List.mem_of_getElem? (i := 33) rfl))) (mvT hZ (hw _ (List.mem_of_getElem? (i := 34) rfl))) (by decide) (backOf (W := 0) (rmF l Z a0 hw [] a142 (-1 : Int32) 1 _ h183 n0 (by decide) ge142 F186) hZ (hw _ (List.mem_of_getElem? (i := 34) rfl)) (hw _ (List.mem_of_getElem? (i := 33) rfl)) (by decide) (by decide)) (g := (mkF m 82 #[.val (.ref g), .val (.int sl), .val (.int ld), .val (.int (0 : Int32)), .val (.int cp)] [(.int (-1 : Int32)), (.ref a142)])) rfl (by rw [hml]; rfl) (argsL := [(.ref a142), (.int (-1 : Int32))]) (rest := []) (lenOf own_pd3 rfl) rfl (by show 2 * 0 + _ ≤ _; exact Nat.le_of_eq rfl) (hb hby d1_82) (fun _ _ => ⟨rfl, e185, (by decide : 6 + 0 ≤ _), (by decide : 12 + 0 ≤ _)⟩)
  dsimp only [Pt.U, Pt.locs, Pt.cells, Pt.slots] at X187 l187 y187 z187 st187 hQ187
  subst l187 y187 z187
  refine own_by st187 ?_
  obtain ⟨rfl, N187, K187, H187⟩ := hQ187
  obtain ⟨L187, X187, M187⟩ := own_hide X187 (Fr.app M183 N187)
  obtain ⟨h187, e187⟩ : ∃ h, T187.heap = h := ⟨_, rfl⟩
  rw [e187] at K187 H187
  have Z187 : n0 ≤ h187.size := Nat.le_trans Z183 K187.1
  show own_Go p e below _ (T187.setTop (mkF m 85 #[.val (.ref g), .val (.int sl), .val (.int ld), .val (.int (0 : Int32)), .val (.int cp)] []))
  refine own_by (fun _ kont => XS.aloadN X187.here hx rfl (hb hby d1_85) rfl rfl kont) ?_
  show own_Go p e below _ (T187.setTop (mkF m 86 #[.val (.ref g), .val (.int sl), .val (.int ld), .val (.int (0 : Int32)), .val (.int cp)] [(.ref g)]))
  have F188 : Fld Z h187 g "com/example/lambdalane/lambdalane/NodeGraph" "outEdgeOf" "[I" (.ref a154) := (((F167.ext E168).other W183 (Or.inr (slot_ne (t := (.array .int)) (t' := (.array .int)) (Or.inr (hw _ (List.mem_of_getElem? (i := 28) rfl))) (Or.inr (hw _ (List.mem_of_getElem? (i := 30) rfl))) (by decide) (by decide) (by decide)))).keep K187 (ninS ne144 nin0))
  obtain ⟨T189, X189, e189, st189⟩ := getF X187 hx hZ hown (host := "") (Or.inl (hw _ (List.mem_of_getElem? (i := 27) rfl))) Via.refl e187 F188 (g := (mkF m 86 #[.val (.ref g), .val (.int sl), .val (.int ld), .val (.int (0 : Int32)), .val (.int cp)] [(.ref g)])) rfl rfl (hb hby d1_86)
  refine own_by st189 ?_
  show own_Go p e below _ (T189.setTop (mkF m 89 #[.val (.ref g), .val (.int sl), .val (.int ld), .val (.int (0 : Int32)), .val (.int cp)] [(.ref a154)]))
  refine own_by (fun _ kont => XT.iconstV X189.here hx rfl (-1 : Int32) (hb hby d1_89) rfl kont) ?_
  show own_Go p e below _ (T189.setTop (mkF m 90 #[.val (.ref g), .val (.int sl), .val (.int ld), .val (.int (0 : Int32)), .val (.int cp)] [(.int (-1 : Int32)), (.ref a154)]))
  have F190 : own_IA Z h187 a154 1 (fun _ => 0) := (own_IA_keep (own_IA_other (own_IA_ext F179 E168) W183 (Ne.symm ne156)) K187 (ninS (Ne.symm ne164) nin0))
  obtain ⟨_, _, ⟨T191, L191, k191, n191⟩, -, X191, ⟨Lc191, hQ191, l191, y191, z191⟩, st191⟩ := Jvm.LawKit.callS X189 hx (y := (⟨"java/util/Arrays", "fill", "([II)V"⟩ : MethodName)) hown (mvT hZ (hw _ (List.mem_of_getElem? (i := 31) rfl))) (mvT hZ (hw _ (List.mem_of_getElem? (i := 32) rfl))) (mvT hZ (hw _ (List.mem_of_getElem? (i := 33) rfl))) (mvT hZ (hw _ (List.mem_of_getElem? (i := 34) rfl))) (by decide) (backOf (W := 0) (rmF l Z a0 hw [] a154 (-1 : Int32) 1 _ h187 n0 (by decide) ge154 F190) hZ (hw _ (List.mem_of_getElem? (i := 34) rfl)) (hw _ (List.mem_of_getElem? (i := 33) rfl)) (by decide) (by decide)) (g := (mkF m 90 #[.val (.ref g), .val (.int sl), .val (.int ld), .val (.int (0 : Int32)), .val (.int cp)] [(.int (-1 : Int32)), (.ref a154)])) rfl (by rw [hml]; rfl) (argsL := [(.ref a154), (.int (-1 : Int32))]) (rest := []) (lenOf own_pd3 rfl) rfl (by show 2 * 0 + _ ≤ _; exact Nat.le_of_eq rfl) (hb hby d1_90) (fun _ _ => ⟨rfl, e189, (by decide : 6 + 0 ≤ _), (by decide : 12 + 0 ≤ _)⟩)
  dsimp only [Pt.U, Pt.locs, Pt.cells, Pt.slots] at X191 l191 y191 z191 st191 hQ191
  subst l191 y191 z191
  refine own_by st191 ?_
  obtain ⟨rfl, N191, K191, H191⟩ := hQ191
  obtain ⟨L191, X191, M191⟩ := own_hide X191 (Fr.app M187 N191)
  obtain ⟨h191, e191⟩ : ∃ h, T191.heap = h := ⟨_, rfl⟩
  rw [e191] at K191 H191
  have Z191 : n0 ≤ h191.size := Nat.le_trans Z187 K191.1
  show own_Go p e below _ (T191.setTop (mkF m 93 #[.val (.ref g), .val (.int sl), .val (.int ld), .val (.int (0 : Int32)), .val (.int cp)] []))
  have F192 : Exa Z h191 g "com/example/lambdalane/lambdalane/NodeGraph" := (((F182.wr W183).keep K187).keep K191)
  have F193 : Fld Z h191 g "com/example/lambdalane/lambdalane/NodeGraph" "side" "I" (.int ((2 : Int32) * sl)) := ((((((((((((((((F111.other W114 (Or.inr (slot_ne (t := .int) (t' := .int) (Or.inr (hw _ (List.mem_of_getElem? (i := 13) rfl))) (Or.inr (hw _ (List.mem_of_getElem? (i := 15) rfl))) (by decide) (by decide) (by decide)))).other W117 (Or.inr (slot_ne (t := .int) (t' := .int) (Or.inr (hw _ (List.mem_of_getElem? (i := 13) rfl))) (Or.inr (hw _ (List.mem_of_getElem? (i := 17) rfl))) (by decide) (by decide) (by decide)))).ext E118).other W123 (Or.inr (slot_ne (t := .int) (t' := (.array .int)) (Or.inr (hw _ (List.mem_of_getElem? (i := 13) rfl))) (Or.inl (hw _ (List.mem_of_getElem? (i := 20) rfl))) (by decide) (by decide) (by decide)))).ext E124).other W131 (Or.inr (slot_ne (t := .int) (t' := (.array .int)) (Or.inr (hw _ (List.mem_of_getElem? (i := 13) rfl))) (Or.inl (hw _ (List.mem_of_getElem? (i := 22) rfl))) (by decide) (by decide) (by decide)))).ext E132).other W141 (Or.inr (slot_ne (t := .int) (t' := (.array .int)) (Or.inr (hw _ (List.mem_of_getElem? (i := 13) rfl))) (Or.inl (hw _ (List.mem_of_getElem? (i := 24) rfl))) (by decide) (by decide) (by decide)))).ext E142).other W153 (Or.inr (slot_ne (t := .int) (t' := (.array .int)) (Or.inr (hw _ (List.mem_of_getElem? (i := 13) rfl))) (Or.inr (hw _ (List.mem_of_getElem? (i := 26) rfl))) (by decide) (by decide) (by decide)))).ext E154).other W167 (Or.inr (slot_ne (t := .int) (t' := (.array .int)) (Or.inr (hw _ (List.mem_of_getElem? (i := 13) rfl))) (Or.inr (hw _ (List.mem_of_getElem? (i := 28) rfl))) (by decide) (by decide) (by decide)))).ext E168).other W183 (Or.inr (slot_ne (t := .int) (t' := (.array .int)) (Or.inr (hw _ (List.mem_of_getElem? (i := 13) rfl))) (Or.inr (hw _ (List.mem_of_getElem? (i := 30) rfl))) (by decide) (by decide) (by decide)))).keep K187 (ninS ne144 nin0)).keep K191 (ninS ne156 nin0))
  have F194 : Fld Z h191 g "com/example/lambdalane/lambdalane/NodeGraph" "left" "[I" (.ref a118) := ((((((((((((F123.ext E124).other W131 (Or.inr (slot_ne (t := (.array .int)) (t' := (.array .int)) (Or.inl (hw _ (List.mem_of_getElem? (i := 20) rfl))) (Or.inl (hw _ (List.mem_of_getElem? (i := 22) rfl))) (by decide) (by decide) (by decide)))).ext E132).other W141 (Or.inr (slot_ne (t := (.array .int)) (t' := (.array .int)) (Or.inl (hw _ (List.mem_of_getElem? (i := 20) rfl))) (Or.inl (hw _ (List.mem_of_getElem? (i := 24) rfl))) (by decide) (by decide) (by decide)))).ext E142).other W153 (Or.inr (slot_ne (t := (.array .int)) (t' := (.array .int)) (Or.inl (hw _ (List.mem_of_getElem? (i := 20) rfl))) (Or.inr (hw _ (List.mem_of_getElem? (i := 26) rfl))) (by decide) (by decide) (by decide)))).ext E154).other W167 (Or.inr (slot_ne (t := (.array .int)) (t' := (.array .int)) (Or.inl (hw _ (List.mem_of_getElem? (i := 20) rfl))) (Or.inr (hw _ (List.mem_of_getElem? (i := 28) rfl))) (by decide) (by decide) (by decide)))).ext E168).other W183 (Or.inr (slot_ne (t := (.array .int)) (t' := (.array .int)) (Or.inl (hw _ (List.mem_of_getElem? (i := 20) rfl))) (Or.inr (hw _ (List.mem_of_getElem? (i := 30) rfl))) (by decide) (by decide) (by decide)))).keep K187 (ninS ne144 nin0)).keep K191 (ninS ne156 nin0))
  have F195 : Fld Z h191 g "com/example/lambdalane/lambdalane/NodeGraph" "right" "[I" (.ref a124) := ((((((((((F131.ext E132).other W141 (Or.inr (slot_ne (t := (.array .int)) (t' := (.array .int)) (Or.inl (hw _ (List.mem_of_getElem? (i := 22) rfl))) (Or.inl (hw _ (List.mem_of_getElem? (i := 24) rfl))) (by decide) (by decide) (by decide)))).ext E142).other W153 (Or.inr (slot_ne (t := (.array .int)) (t' := (.array .int)) (Or.inl (hw _ (List.mem_of_getElem? (i := 22) rfl))) (Or.inr (hw _ (List.mem_of_getElem? (i := 26) rfl))) (by decide) (by decide) (by decide)))).ext E154).other W167 (Or.inr (slot_ne (t := (.array .int)) (t' := (.array .int)) (Or.inl (hw _ (List.mem_of_getElem? (i := 22) rfl))) (Or.inr (hw _ (List.mem_of_getElem? (i := 28) rfl))) (by decide) (by decide) (by decide)))).ext E168).other W183 (Or.inr (slot_ne (t := (.array .int)) (t' := (.array .int)) (Or.inl (hw _ (List.mem_of_getElem? (i := 22) rfl))) (Or.inr (hw _ (List.mem_of_getElem? (i := 30) rfl))) (by decide) (by decide) (by decide)))).keep K187 (ninS ne144 nin0)).keep K191 (ninS ne156 nin0))
  have F196 : Fld Z h191 g "com/example/lambdalane/lambdalane/NodeGraph" "colour" "[I" (.ref a132) := ((((((((F141.ext E142).other W153 (Or.inr (slot_ne (t := (.array .int)) (t' := (.array .int)) (Or.inl (hw _ (List.mem_of_getElem? (i := 24) rfl))) (Or.inr (hw _ (List.mem_of_getElem? (i := 26) rfl))) (by decide) (by decide) (by decide)))).ext E154).other W167 (Or.inr (slot_ne (t := (.array .int)) (t' := (.array .int)) (Or.inl (hw _ (List.mem_of_getElem? (i := 24) rfl))) (Or.inr (hw _ (List.mem_of_getElem? (i := 28) rfl))) (by decide) (by decide) (by decide)))).ext E168).other W183 (Or.inr (slot_ne (t := (.array .int)) (t' := (.array .int)) (Or.inl (hw _ (List.mem_of_getElem? (i := 24) rfl))) (Or.inr (hw _ (List.mem_of_getElem? (i := 30) rfl))) (by decide) (by decide) (by decide)))).keep K187 (ninS ne144 nin0)).keep K191 (ninS ne156 nin0))
  have F197 : Fld Z h191 g "com/example/lambdalane/lambdalane/NodeGraph" "inEdgeOf" "[I" (.ref a142) := ((F184.keep K187 (ninS ne144 nin0)).keep K191 (ninS ne156 nin0))
  have F198 : Fld Z h191 g "com/example/lambdalane/lambdalane/NodeGraph" "outEdgeOf" "[I" (.ref a154) := (F188.keep K191 (ninS ne156 nin0))
  have F199 : Fld Z h191 g "com/example/lambdalane/lambdalane/NodeGraph" "size" "I" (.int (0 : Int32)) := ((((((((((((((((((Dsize.other W108 (Or.inr (slot_ne (t := .int) (t' := .int) (Or.inl (hw _ (List.mem_of_getElem? (i := 41) rfl))) (Or.inl (hw _ (List.mem_of_getElem? (i := 11) rfl))) (by decide) (by decide) (by decide)))).other W111 (Or.inr (slot_ne (t := .int) (t' := .int) (Or.inl (hw _ (List.mem_of_getElem? (i := 41) rfl))) (Or.inr (hw _ (List.mem_of_getElem? (i := 13) rfl))) (by decide) (by decide) (by decide)))).other W114 (Or.inr (slot_ne (t := .int) (t' := .int) (Or.inl (hw _ (List.mem_of_getElem? (i := 41) rfl))) (Or.inr (hw _ (List.mem_of_getElem? (i := 15) rfl))) (by decide) (by decide) (by decide)))).other W117 (Or.inr (slot_ne (t := .int) (t' := .int) (Or.inl (hw _ (List.mem_of_getElem? (i := 41) rfl))) (Or.inr (hw _ (List.mem_of_getElem? (i := 17) rfl))) (by decide) (by decide) (by decide)))).ext E118).other W123 (Or.inr (slot_ne (t := .int) (t' := (.array .int)) (Or.inl (hw _ (List.mem_of_getElem? (i := 41) rfl))) (Or.inl (hw _ (List.mem_of_getElem? (i := 20) rfl))) (by decide) (by decide) (by decide)))).ext E124).other W131 (Or.inr (slot_ne (t := .int) (t' := (.array .int)) (Or.inl (hw _ (List.mem_of_getElem? (i := 41) rfl))) (Or.inl (hw _ (List.mem_of_getElem? (i := 22) rfl))) (by decide) (by decide) (by decide)))).ext E132).other W141 (Or.inr (slot_ne (t := .int) (t' := (.array .int)) (Or.inl (hw _ (List.mem_of_getElem? (i := 41) rfl))) (Or.inl (hw _ (List.mem_of_getElem? (i := 24) rfl))) (by decide) (by decide) (by decide)))).ext E142).other W153 (Or.inr (slot_ne (t := .int) (t' := (.array .int)) (Or.inl (hw _ (List.mem_of_getElem? (i := 41) rfl))) (Or.inr (hw _ (List.mem_of_getElem? (i := 26) rfl))) (by decide) (by decide) (by decide)))).ext E154).other W167 (Or.inr (slot_ne (t := .int) (t' := (.array .int)) (Or.inl (hw _ (List.mem_of_getElem? (i := 41) rfl))) (Or.inr (hw _ (List.mem_of_getElem? (i := 28) rfl))) (by decide) (by decide) (by decide)))).ext E168).other W183 (Or.inr (slot_ne (t := .int) (t' := (.array .int)) (Or.inl (hw _ (List.mem_of_getElem? (i := 41) rfl))) (Or.inr (hw _ (List.mem_of_getElem? (i := 30) rfl))) (by decide) (by decide) (by decide)))).keep K187 (ninS ne144 nin0)).keep K191 (ninS ne156 nin0))
  have F200 : own_IA Z h191 a118 cap (fun _ => 0) := (own_IA_keep (own_IA_keep (own_IA_other (own_IA_ext F171 E168) W183 (Ne.symm ne120)) K187 (ninS ne146 nin0)) K191 (ninS ne158 nin0))
  have F201 : own_IA Z h191 a124 cap (fun _ => 0) := (own_IA_keep (own_IA_keep (own_IA_other (own_IA_ext F173 E168) W183 (Ne.symm ne126)) K187 (ninS ne148 nin0)) K191 (ninS ne160 nin0))
  have F202 : own_IA Z h191 a132 cap (fun _ => 0) := (own_IA_keep (own_IA_keep (own_IA_other (own_IA_ext F175 E168) W183 (Ne.symm ne134)) K187 (ninS ne150 nin0)) K191 (ninS ne162 nin0))
  have F203 : own_IA Z h191 a142 1 (fun _ => -1) := (own_IA_keep H187 K191 (ninS ne164 nin0))
  refine own_retV X191 hx hlk hret (hb hby d1_93) ⟨rfl, M191, ?_⟩ (by decide) (by decide)
  rw [e191]
  exact ⟨a118, a124, a132, a142, a154, _, _, _, ⟨F192, F193, F194, F195, F196, F197, F198, F199⟩, ⟨F200, F201, F202, F203, H191⟩, fun i hi => absurd hi (by omega), ⟨ne120, ne126, ne134, ne144, ne156, ne128, ne136, ne146, ne158, ne138, ne148, ne160, ne150, ne162, ne164⟩, ⟨gg, ge118, ge124, ge132, ge142, ge154, Z191⟩⟩
def own_Q_rmA (Z : State) (g : Addr) (sd lv rv : Int32) (kc sz : Nat) (L R C I2 O2 : Nat → Int32) (n0 : Nat) : Option Value → Heap → List Loc → Prop := (fun v h L1 => v = some (.int (Int32.ofNat sz)) ∧ Fr n0 L1 ∧ ∃ cap2, sz + 1 ≤ cap2 ∧ cap2 ≤ 16 ∧ own_G Z h n0 g sd 0 (sz + 1) cap2 (fun i => if i = sz then lv else L i) (fun i => if i = sz then rv else R i) (fun i => if i = sz then (Int32.ofNat kc) else C i) I2 O2)
theorem own_ag {sz : Nat} {fl fr fc L R C : Nat → Int32} {lv rv kc : Int32} (hag : ∀ i, i < sz → fl i = L i ∧ fr i = R i ∧ fc i = C i) (i : Nat) (hi : i < sz + 1) :
    (fun i => if i = sz then lv else fl i) i = (fun i => if i = sz then lv else L i) i ∧ (fun i => if i = sz then rv else fr i) i = (fun i => if i = sz then rv else R i) i ∧ (fun i => if i = sz then kc else fc i) i = (fun i => if i = sz then kc else C i) i := by
  by_cases q : i = sz
  · simp only [if_pos q, and_self]
  · simp only [if_neg q]; exact hag i (by omega)
set_option maxRecDepth 65536 in
set_option maxHeartbeats 40000000 in
theorem own_a64 {p : Program} {l : Launch} {e : Env} {s : State} {m : MethodId} {args : Array Value} {below : List Frame} {meth : Method} {c : Code} {T : State} {locs : List Loc} {cells slots : Nat} {Z : State} {a0 : Array Value} {n0 : Nat} {h : Heap} (X : Stand p l e ({ frames := 2, cells := 3, slots := 48, locals := 96 } : Room) s m args below meth c T locs cells slots) (hc : cells ≤ 3) (hs : slots ≤ 48) (hx : p.tables.exec = Jvm.exec) (hby : c.code = prog_42_method_2_code) (hlk : meth.locks = false) (hret : meth.sig.returnType = some .int) (hZ : Z.Warmed39 s.vm) (hown : s.vm.findClass "com/example/lambdalane/lambdalane/NodeGraph" = some m.cls) (hw : ∀ d ∈ tables_1, d.before a0 Z = true) (hml : c.maxLocals = 5) (N : Fr n0 locs) (eT : T.heap = h) (g : Addr) (sd lv rv : Int32) (kc sz cap : Nat) (L R C I O I2 O2 : Nat → Int32) (o : Slot) (ho : o = .unset ∨ ∃ w, o = .val w ∧ w.category = 1) (G : own_G Z h n0 g sd 0 sz cap L R C I O) (hsz : sz < cap) (hcap : cap ≤ 16) (hcol : (kc = 0 ∧ I = I2 ∧ O = O2) ∨ (1 ≤ kc ∧ kc ≤ 0 ∧ lv = 0 ∧ ¬ rv = 0 ∧ I kc < 0 ∧ I2 = (fun i => if i = kc then Int32.ofNat sz else I i) ∧ O = O2) ∨ (1 ≤ kc ∧ kc ≤ 0 ∧ ¬ lv = 0 ∧ rv = 0 ∧ O kc < 0 ∧ I = I2 ∧ O2 = (fun i => if i = kc then Int32.ofNat sz else O i))) :
    own_Go p e below (own_K s (own_Q_rmA Z g sd lv rv kc sz L R C I2 O2 n0) 3 48) (T.setTop (mkF m 64 #[.val (.ref g), .val (.int lv), .val (.int rv), .val (.int (Int32.ofNat kc)), o] [])) := by
  obtain ⟨lf, rt, co, ie, oe, fl, fr, fc, ⟨GE204, Gside204, Gleft204, Gright204, Gcolour204, GinEdgeOf204, GoutEdgeOf204, Gsize204⟩, ⟨HL204, HR204, HC204, HI204, HO204⟩, hag, ⟨nglf204, ngrt204, ngco204, ngie204, ngoe204, nlfrt204, nlfco204, nlfie204, nlfoe204, nrtco204, nrtie204, nrtoe204, ncoie204, ncooe204, nieoe204⟩, ⟨gg204, glf204, grt204, gco204, gie204, goe204, ZG204⟩⟩ := G
  have his := own_i (k := sz) (by omega)
  refine own_by (fun _ kont => XS.aloadN X.here hx rfl (hb hby d4_64) rfl rfl kont) ?_
  show own_Go p e below _ (T.setTop (mkF m 65 #[.val (.ref g), .val (.int lv), .val (.int rv), .val (.int (Int32.ofNat kc)), o] [(.ref g)]))
  obtain ⟨T205, X205, e205, st205⟩ := getF X hx hZ hown (host := "") (Or.inl (hw _ (List.mem_of_getElem? (i := 19) rfl))) Via.refl eT Gleft204 (g := (mkF m 65 #[.val (.ref g), .val (.int lv), .val (.int rv), .val (.int (Int32.ofNat kc)), o] [(.ref g)])) rfl rfl (hb hby d4_65)
  refine own_by st205 ?_
  show own_Go p e below _ (T205.setTop (mkF m 68 #[.val (.ref g), .val (.int lv), .val (.int rv), .val (.int (Int32.ofNat kc)), o] [(.ref lf)]))
  refine own_by (fun _ kont => XS.aloadN X205.here hx rfl (hb hby d4_68) rfl rfl kont) ?_
  show own_Go p e below _ (T205.setTop (mkF m 69 #[.val (.ref g), .val (.int lv), .val (.int rv), .val (.int (Int32.ofNat kc)), o] [(.ref g), (.ref lf)]))
  obtain ⟨T206, X206, e206, st206⟩ := getF X205 hx hZ hown (host := "") (Or.inl (hw _ (List.mem_of_getElem? (i := 40) rfl))) Via.refl e205 Gsize204 (g := (mkF m 69 #[.val (.ref g), .val (.int lv), .val (.int rv), .val (.int (Int32.ofNat kc)), o] [(.ref g), (.ref lf)])) rfl rfl (hb hby d4_69)
  refine own_by st206 ?_
  show own_Go p e below _ (T206.setTop (mkF m 72 #[.val (.ref g), .val (.int lv), .val (.int rv), .val (.int (Int32.ofNat kc)), o] [(.int (Int32.ofNat sz)), (.ref lf)]))
  refine own_by (fun _ kont => XS.iloadN X206.here hx rfl (hb hby d4_72) rfl kont) ?_
  show own_Go p e below _ (T206.setTop (mkF m 73 #[.val (.ref g), .val (.int lv), .val (.int rv), .val (.int (Int32.ofNat kc)), o] [(.int lv), (.int (Int32.ofNat sz)), (.ref lf)]))
  obtain ⟨T207, h207, X207, e207, W207, H207, st207⟩ := own_stN X206 hx hZ e206 HL204 (j := (Int32.ofNat sz)) sz his (by omega) (g := (mkF m 73 #[.val (.ref g), .val (.int lv), .val (.int rv), .val (.int (Int32.ofNat kc)), o] [(.int lv), (.int (Int32.ofNat sz)), (.ref lf)])) rfl rfl (hb hby d4_73)
  obtain ⟨L207, X207, M207⟩ := own_hide X207 (Fr.snoc X207 N glf204)
  have Z207 : n0 ≤ h207.size := (by rw [Wr.size W207]; exact ZG204)
  refine own_by st207 ?_
  show own_Go p e below _ (T207.setTop (mkF m 74 #[.val (.ref g), .val (.int lv), .val (.int rv), .val (.int (Int32.ofNat kc)), o] []))
  refine own_by (fun _ kont => XS.aloadN X207.here hx rfl (hb hby d4_74) rfl rfl kont) ?_
  show own_Go p e below _ (T207.setTop (mkF m 75 #[.val (.ref g), .val (.int lv), .val (.int rv), .val (.int (Int32.ofNat kc)), o] [(.ref g)]))
  have F208 : Fld Z h207 g "com/example/lambdalane/lambdalane/NodeGraph" "right" "[I" (.ref rt) := (Gright204.other W207 (Or.inl nglf204))
  obtain ⟨T209, X209, e209, st209⟩ := getF X207 hx hZ hown (host := "") (Or.inl (hw _ (List.mem_of_getElem? (i := 21) rfl))) Via.refl e207 F208 (g := (mkF m 75 #[.val (.ref g), .val (.int lv), .val (.int rv), .val (.int (Int32.ofNat kc)), o] [(.ref g)])) rfl rfl (hb hby d4_75)
  refine own_by st209 ?_
  show own_Go p e below _ (T209.setTop (mkF m 78 #[.val (.ref g), .val (.int lv), .val (.int rv), .val (.int (Int32.ofNat kc)), o] [(.ref rt)]))
  refine own_by (fun _ kont => XS.aloadN X209.here hx rfl (hb hby d4_78) rfl rfl kont) ?_
  show own_Go p e below _ (T209.setTop (mkF m 79 #[.val (.ref g), .val (.int lv), .val (.int rv), .val (.int (Int32.ofNat kc)), o] [(.ref g), (.ref rt)]))
  have F210 : Fld Z h207 g "com/example/lambdalane/lambdalane/NodeGraph" "size" "I" (.int (Int32.ofNat sz)) := (Gsize204.other W207 (Or.inl nglf204))
  obtain ⟨T211, X211, e211, st211⟩ := getF X209 hx hZ hown (host := "") (Or.inl (hw _ (List.mem_of_getElem? (i := 40) rfl))) Via.refl e209 F210 (g := (mkF m 79 #[.val (.ref g), .val (.int lv), .val (.int rv), .val (.int (Int32.ofNat kc)), o] [(.ref g), (.ref rt)])) rfl rfl (hb hby d4_79)
  refine own_by st211 ?_
  show own_Go p e below _ (T211.setTop (mkF m 82 #[.val (.ref g), .val (.int lv), .val (.int rv), .val (.int (Int32.ofNat kc)), o] [(.int (Int32.ofNat sz)), (.ref rt)]))
  refine own_by (fun _ kont => XS.iloadN X211.here hx rfl (hb hby d4_82) rfl kont) ?_
  show own_Go p e below _ (T211.setTop (mkF m 83 #[.val (.ref g), .val (.int lv), .val (.int rv), .val (.int (Int32.ofNat kc)), o] [(.int rv), (.int (Int32.ofNat sz)), (.ref rt)]))
  have F212 : own_IA Z h207 rt cap fr := (own_IA_other HR204 W207 (Ne.symm nlfrt204))
  obtain ⟨T213, h213, X213, e213, W213, H213, st213⟩ := own_stN X211 hx hZ e211 F212 (j := (Int32.ofNat sz)) sz his (by omega) (g := (mkF m 83 #[.val (.ref g), .val (.int lv), .val (.int rv), .val (.int (Int32.ofNat kc)), o] [(.int rv), (.int (Int32.ofNat sz)), (.ref rt)])) rfl rfl (hb hby d4_83)
  obtain ⟨L213, X213, M213⟩ := own_hide X213 (Fr.snoc X213 M207 grt204)
  have Z213 : n0 ≤ h213.size := (by rw [Wr.size W213]; exact Z207)
  refine own_by st213 ?_
  show own_Go p e below _ (T213.setTop (mkF m 84 #[.val (.ref g), .val (.int lv), .val (.int rv), .val (.int (Int32.ofNat kc)), o] []))
  refine own_by (fun _ kont => XS.aloadN X213.here hx rfl (hb hby d4_84) rfl rfl kont) ?_
  show own_Go p e below _ (T213.setTop (mkF m 85 #[.val (.ref g), .val (.int lv), .val (.int rv), .val (.int (Int32.ofNat kc)), o] [(.ref g)]))
  have F214 : Fld Z h213 g "com/example/lambdalane/lambdalane/NodeGraph" "colour" "[I" (.ref co) := ((Gcolour204.other W207 (Or.inl nglf204)).other W213 (Or.inl ngrt204))
  obtain ⟨T215, X215, e215, st215⟩ := getF X213 hx hZ hown (host := "") (Or.inl (hw _ (List.mem_of_getElem? (i := 23) rfl))) Via.refl e213 F214 (g := (mkF m 85 #[.val (.ref g), .val (.int lv), .val (.int rv), .val (.int (Int32.ofNat kc)), o] [(.ref g)])) rfl rfl (hb hby d4_85)
  refine own_by st215 ?_
  show own_Go p e below _ (T215.setTop (mkF m 88 #[.val (.ref g), .val (.int lv), .val (.int rv), .val (.int (Int32.ofNat kc)), o] [(.ref co)]))
  refine own_by (fun _ kont => XS.aloadN X215.here hx rfl (hb hby d4_88) rfl rfl kont) ?_
  show own_Go p e below _ (T215.setTop (mkF m 89 #[.val (.ref g), .val (.int lv), .val (.int rv), .val (.int (Int32.ofNat kc)), o] [(.ref g), (.ref co)]))
  have F216 : Fld Z h213 g "com/example/lambdalane/lambdalane/NodeGraph" "size" "I" (.int (Int32.ofNat sz)) := (F210.other W213 (Or.inl ngrt204))
  obtain ⟨T217, X217, e217, st217⟩ := getF X215 hx hZ hown (host := "") (Or.inl (hw _ (List.mem_of_getElem? (i := 40) rfl))) Via.refl e215 F216 (g := (mkF m 89 #[.val (.ref g), .val (.int lv), .val (.int rv), .val (.int (Int32.ofNat kc)), o] [(.ref g), (.ref co)])) rfl rfl (hb hby d4_89)
  refine own_by st217 ?_
  show own_Go p e below _ (T217.setTop (mkF m 92 #[.val (.ref g), .val (.int lv), .val (.int rv), .val (.int (Int32.ofNat kc)), o] [(.int (Int32.ofNat sz)), (.ref co)]))
  refine own_by (fun _ kont => XS.iloadN X217.here hx rfl (hb hby d4_92) rfl kont) ?_
  show own_Go p e below _ (T217.setTop (mkF m 93 #[.val (.ref g), .val (.int lv), .val (.int rv), .val (.int (Int32.ofNat kc)), o] [(.int (Int32.ofNat kc)), (.int (Int32.ofNat sz)), (.ref co)]))
  have F218 : own_IA Z h213 co cap fc := (own_IA_other (own_IA_other HC204 W207 (Ne.symm nlfco204)) W213 (Ne.symm nrtco204))
  obtain ⟨T219, h219, X219, e219, W219, H219, st219⟩ := own_stN X217 hx hZ e217 F218 (j := (Int32.ofNat sz)) sz his (by omega) (g := (mkF m 93 #[.val (.ref g), .val (.int lv), .val (.int rv), .val (.int (Int32.ofNat kc)), o] [(.int (Int32.ofNat kc)), (.int (Int32.ofNat sz)), (.ref co)])) rfl rfl (hb hby d4_93)
  obtain ⟨L219, X219, M219⟩ := own_hide X219 (Fr.snoc X219 M213 gco204)
  have Z219 : n0 ≤ h219.size := (by rw [Wr.size W219]; exact Z213)
  refine own_by st219 ?_
  show own_Go p e below _ (T219.setTop (mkF m 94 #[.val (.ref g), .val (.int lv), .val (.int rv), .val (.int (Int32.ofNat kc)), o] []))
  refine own_by (fun _ kont => XS.iloadN X219.here hx rfl (hb hby d4_94) rfl kont) ?_
  show own_Go p e below _ (T219.setTop (mkF m 95 #[.val (.ref g), .val (.int lv), .val (.int rv), .val (.int (Int32.ofNat kc)), o] [(.int (Int32.ofNat kc))]))
  rcases hcol with ⟨rfl, rfl, rfl⟩ | ⟨k1, k2, rfl, hr0, hI, rfl, rfl⟩ | ⟨k1, k2, hl0, rfl, hO, rfl, rfl⟩
  · refine own_by (fun _ kont => XS.ifYes X219.here hx rfl (pc0 := 95) (pc' := 165) rfl (hb hby d4_95) rfl (XT.i0_eq_t (rfl : Int32.ofNat 0 = (0 : Int32))) (by decide) (by decide) kont) ?_
    show own_Go p e below _ (T219.setTop (mkF m 165 #[.val (.ref g), .val (.int lv), .val (.int rv), .val (.int (Int32.ofNat 0)), o] []))
    refine own_by (fun _ kont => XS.aloadN X219.here hx rfl (hb hby d4_165) rfl rfl kont) ?_
    show own_Go p e below _ (T219.setTop (mkF m 166 #[.val (.ref g), .val (.int lv), .val (.int rv), .val (.int (Int32.ofNat 0)), o] [(.ref g)]))
    refine own_by (fun _ kont => XS.dup X219.here hx rfl (hb hby d4_166) rfl rfl kont) ?_
    show own_Go p e below _ (T219.setTop (mkF m 167 #[.val (.ref g), .val (.int lv), .val (.int rv), .val (.int (Int32.ofNat 0)), o] [(.ref g), (.ref g)]))
    have F220 : Fld Z h219 g "com/example/lambdalane/lambdalane/NodeGraph" "size" "I" (.int (Int32.ofNat sz)) := (F216.other W219 (Or.inl ngco204))
    obtain ⟨T221, X221, e221, st221⟩ := getF X219 hx hZ hown (host := "") (Or.inl (hw _ (List.mem_of_getElem? (i := 40) rfl))) Via.refl e219 F220 (g := (mkF m 167 #[.val (.ref g), .val (.int lv), .val (.int rv), .val (.int (Int32.ofNat 0)), o] [(.ref g), (.ref g)])) rfl rfl (hb hby d4_167)
    refine own_by st221 ?_
    show own_Go p e below _ (T221.setTop (mkF m 170 #[.val (.ref g), .val (.int lv), .val (.int rv), .val (.int (Int32.ofNat 0)), o] [(.int (Int32.ofNat sz)), (.ref g)]))
    refine own_by (fun _ kont => XT.dupX1 X221.here hx rfl (hb hby d4_170) rfl rfl rfl kont) ?_
    show own_Go p e below _ (T221.setTop (mkF m 171 #[.val (.ref g), .val (.int lv), .val (.int rv), .val (.int (Int32.ofNat 0)), o] [(.int (Int32.ofNat sz)), (.ref g), (.int (Int32.ofNat sz))]))
    refine own_by (fun _ kont => XT.iconstV X221.here hx rfl (1 : Int32) (hb hby d4_171) rfl kont) ?_
    show own_Go p e below _ (T221.setTop (mkF m 172 #[.val (.ref g), .val (.int lv), .val (.int rv), .val (.int (Int32.ofNat 0)), o] [(.int (1 : Int32)), (.int (Int32.ofNat sz)), (.ref g), (.int (Int32.ofNat sz))]))
    refine own_by (fun _ kont => XS.iadd X221.here hx rfl (hb hby d4_172) rfl kont) ?_
    show own_Go p e below _ (T221.setTop (mkF m 173 #[.val (.ref g), .val (.int lv), .val (.int rv), .val (.int (Int32.ofNat 0)), o] [(.int ((Int32.ofNat sz) + (1 : Int32))), (.ref g), (.int (Int32.ofNat sz))]))
    have F222 : Exa Z h219 g "com/example/lambdalane/lambdalane/NodeGraph" := (((GE204.wr W207).wr W213).wr W219)
    obtain ⟨T223, h223, X223, e223, W223, st223⟩ := putF X221 hx hZ hown (host := "") (Or.inl (hw _ (List.mem_of_getElem? (i := 40) rfl))) Via.refl e221 F220 F222 (Or.inl (hw _ (List.mem_of_getElem? (i := 41) rfl))) (hw _ (List.mem_of_getElem? (i := 2) rfl)) (ty := .int) (by decide) rfl rfl (g := (mkF m 173 #[.val (.ref g), .val (.int lv), .val (.int rv), .val (.int (Int32.ofNat 0)), o] [(.int ((Int32.ofNat sz) + (1 : Int32))), (.ref g), (.int (Int32.ofNat sz))])) rfl rfl (hb hby d4_173)
    obtain ⟨L223, X223, M223⟩ := own_hide X223 (Fr.snoc X223 M219 gg204)
    have Z223 : n0 ≤ h223.size := (by rw [Wr.size W223]; exact Z219)
    have F223 : Fld Z h223 g "com/example/lambdalane/lambdalane/NodeGraph" "size" "I" (.int ((Int32.ofNat sz) + (1 : Int32))) := (F220.same W223)
    refine own_by st223 ?_
    show own_Go p e below _ (T223.setTop (mkF m 176 #[.val (.ref g), .val (.int lv), .val (.int rv), .val (.int (Int32.ofNat 0)), o] [(.int (Int32.ofNat sz))]))
    have F224 : Exa Z h223 g "com/example/lambdalane/lambdalane/NodeGraph" := (F222.wr W223)
    have F225 : Fld Z h223 g "com/example/lambdalane/lambdalane/NodeGraph" "side" "I" (.int sd) := ((((Gside204.other W207 (Or.inl nglf204)).other W213 (Or.inl ngrt204)).other W219 (Or.inl ngco204)).other W223 (Or.inr (slot_ne (t := .int) (t' := .int) (Or.inr (hw _ (List.mem_of_getElem? (i := 13) rfl))) (Or.inl (hw _ (List.mem_of_getElem? (i := 41) rfl))) (by decide) (by decide) (by decide))))
    have F226 : Fld Z h223 g "com/example/lambdalane/lambdalane/NodeGraph" "left" "[I" (.ref lf) := ((((Gleft204.other W207 (Or.inl nglf204)).other W213 (Or.inl ngrt204)).other W219 (Or.inl ngco204)).other W223 (Or.inr (slot_ne (t := (.array .int)) (t' := .int) (Or.inl (hw _ (List.mem_of_getElem? (i := 20) rfl))) (Or.inl (hw _ (List.mem_of_getElem? (i := 41) rfl))) (by decide) (by decide) (by decide))))
    have F227 : Fld Z h223 g "com/example/lambdalane/lambdalane/NodeGraph" "right" "[I" (.ref rt) := (((F208.other W213 (Or.inl ngrt204)).other W219 (Or.inl ngco204)).other W223 (Or.inr (slot_ne (t := (.array .int)) (t' := .int) (Or.inl (hw _ (List.mem_of_getElem? (i := 22) rfl))) (Or.inl (hw _ (List.mem_of_getElem? (i := 41) rfl))) (by decide) (by decide) (by decide))))
    have F228 : Fld Z h223 g "com/example/lambdalane/lambdalane/NodeGraph" "colour" "[I" (.ref co) := ((F214.other W219 (Or.inl ngco204)).other W223 (Or.inr (slot_ne (t := (.array .int)) (t' := .int) (Or.inl (hw _ (List.mem_of_getElem? (i := 24) rfl))) (Or.inl (hw _ (List.mem_of_getElem? (i := 41) rfl))) (by decide) (by decide) (by decide))))
    have F229 : Fld Z h223 g "com/example/lambdalane/lambdalane/NodeGraph" "inEdgeOf" "[I" (.ref ie) := ((((GinEdgeOf204.other W207 (Or.inl nglf204)).other W213 (Or.inl ngrt204)).other W219 (Or.inl ngco204)).other W223 (Or.inr (slot_ne (t := (.array .int)) (t' := .int) (Or.inr (hw _ (List.mem_of_getElem? (i := 26) rfl))) (Or.inl (hw _ (List.mem_of_getElem? (i := 41) rfl))) (by decide) (by decide) (by decide))))
    have F230 : Fld Z h223 g "com/example/lambdalane/lambdalane/NodeGraph" "outEdgeOf" "[I" (.ref oe) := ((((GoutEdgeOf204.other W207 (Or.inl nglf204)).other W213 (Or.inl ngrt204)).other W219 (Or.inl ngco204)).other W223 (Or.inr (slot_ne (t := (.array .int)) (t' := .int) (Or.inr (hw _ (List.mem_of_getElem? (i := 28) rfl))) (Or.inl (hw _ (List.mem_of_getElem? (i := 41) rfl))) (by decide) (by decide) (by decide))))
    have F231 : own_IA Z h223 lf cap (fun i => if i = sz then lv else fl i) := (own_IA_other (own_IA_other (own_IA_other H207 W213 nlfrt204) W219 nlfco204) W223 (Ne.symm nglf204))
    have F232 : own_IA Z h223 rt cap (fun i => if i = sz then rv else fr i) := (own_IA_other (own_IA_other H213 W219 nrtco204) W223 (Ne.symm ngrt204))
    have F233 : own_IA Z h223 co cap (fun i => if i = sz then (Int32.ofNat 0) else fc i) := (own_IA_other H219 W223 (Ne.symm ngco204))
    have F234 : own_IA Z h223 ie (0 + 1) I := (own_IA_other (own_IA_other (own_IA_other (own_IA_other HI204 W207 (Ne.symm nlfie204)) W213 (Ne.symm nrtie204)) W219 (Ne.symm ncoie204)) W223 (Ne.symm ngie204))
    have F235 : own_IA Z h223 oe (0 + 1) O := (own_IA_other (own_IA_other (own_IA_other (own_IA_other HO204 W207 (Ne.symm nlfoe204)) W213 (Ne.symm nrtoe204)) W219 (Ne.symm ncooe204)) W223 (Ne.symm ngoe204))
    refine own_ret X223 hx hlk hret rfl (Or.inl ⟨rfl, by simp, _, rfl⟩) (hb hby d4_176) ⟨rfl, M223, cap, by omega, hcap, ?_⟩ hc hs
    rw [e223]
    exact ⟨lf, rt, co, ie, oe, _, _, _, ⟨F224, F225, F226, F227, F228, F229, F230, (own_inc (k := sz) (by omega) ▸ F223)⟩, ⟨F231, F232, F233, F234, F235⟩, fun i hi => own_ag hag i hi, ⟨nglf204, ngrt204, ngco204, ngie204, ngoe204, nlfrt204, nlfco204, nlfie204, nlfoe204, nrtco204, nrtie204, nrtoe204, ncoie204, ncooe204, nieoe204⟩, ⟨gg204, glf204, grt204, gco204, gie204, goe204, Z223⟩⟩
  · have hk0 : ¬ Int32.ofNat kc = (0 : Int32) := fun z => absurd ((own_inj (b := 0) (by omega) (by omega)).mp z) (by omega)
    have hik := own_i (k := kc) (by omega)
    refine own_by (fun _ kont => XS.ifNo X219.here hx rfl (hb hby d4_95) rfl (XT.i0_eq_f hk0) kont) ?_
    show own_Go p e below _ (T219.setTop (mkF m 98 #[.val (.ref g), .val (.int (0 : Int32)), .val (.int rv), .val (.int (Int32.ofNat kc)), o] []))
    refine own_by (fun _ kont => XS.iloadN X219.here hx rfl (hb hby d4_98) rfl kont) ?_
    show own_Go p e below _ (T219.setTop (mkF m 99 #[.val (.ref g), .val (.int (0 : Int32)), .val (.int rv), .val (.int (Int32.ofNat kc)), o] [(.int (0 : Int32))]))
    refine own_by (fun _ kont => XS.ifNo X219.here hx rfl (hb hby d4_99) rfl (XT.i0_ne_f (by decide)) kont) ?_
    show own_Go p e below _ (T219.setTop (mkF m 102 #[.val (.ref g), .val (.int (0 : Int32)), .val (.int rv), .val (.int (Int32.ofNat kc)), o] []))
    refine own_by (fun _ kont => XS.aloadN X219.here hx rfl (hb hby d4_102) rfl rfl kont) ?_
    show own_Go p e below _ (T219.setTop (mkF m 103 #[.val (.ref g), .val (.int (0 : Int32)), .val (.int rv), .val (.int (Int32.ofNat kc)), o] [(.ref g)]))
    have F236 : Fld Z h219 g "com/example/lambdalane/lambdalane/NodeGraph" "inEdgeOf" "[I" (.ref ie) := (((GinEdgeOf204.other W207 (Or.inl nglf204)).other W213 (Or.inl ngrt204)).other W219 (Or.inl ngco204))
    obtain ⟨T237, X237, e237, st237⟩ := getF X219 hx hZ hown (host := "") (Or.inl (hw _ (List.mem_of_getElem? (i := 25) rfl))) Via.refl e219 F236 (g := (mkF m 103 #[.val (.ref g), .val (.int (0 : Int32)), .val (.int rv), .val (.int (Int32.ofNat kc)), o] [(.ref g)])) rfl rfl (hb hby d4_103)
    refine own_by st237 ?_
    show own_Go p e below _ (T237.setTop (mkF m 106 #[.val (.ref g), .val (.int (0 : Int32)), .val (.int rv), .val (.int (Int32.ofNat kc)), o] [(.ref ie)]))
    refine own_by (fun _ kont => XS.goto X237.here hx rfl (pc0 := 106) (pc' := 113) rfl (hb hby d4_106) (by decide) (by decide) kont) ?_
    show own_Go p e below _ (T237.setTop (mkF m 113 #[.val (.ref g), .val (.int (0 : Int32)), .val (.int rv), .val (.int (Int32.ofNat kc)), o] [(.ref ie)]))
    refine own_by (fun _ kont => XS.astoreS X237.here hx rfl (hb hby d4_113) rfl rfl rfl rfl ho kont) ?_
    show own_Go p e below _ (T237.setTop (mkF m 115 #[.val (.ref g), .val (.int (0 : Int32)), .val (.int rv), .val (.int (Int32.ofNat kc)), .val (.ref ie)] []))
    refine own_by (fun _ kont => XS.iloadN X237.here hx rfl (hb hby d4_115) rfl kont) ?_
    show own_Go p e below _ (T237.setTop (mkF m 116 #[.val (.ref g), .val (.int (0 : Int32)), .val (.int rv), .val (.int (Int32.ofNat kc)), .val (.ref ie)] [(.int (0 : Int32))]))
    refine own_by (fun _ kont => XS.ifNo X237.here hx rfl (hb hby d4_116) rfl (XT.i0_ne_f (by decide)) kont) ?_
    show own_Go p e below _ (T237.setTop (mkF m 119 #[.val (.ref g), .val (.int (0 : Int32)), .val (.int rv), .val (.int (Int32.ofNat kc)), .val (.ref ie)] []))
    refine own_by (fun _ kont => XT.iconstV X237.here hx rfl (1 : Int32) (hb hby d4_119) rfl kont) ?_
    show own_Go p e below _ (T237.setTop (mkF m 120 #[.val (.ref g), .val (.int (0 : Int32)), .val (.int rv), .val (.int (Int32.ofNat kc)), .val (.ref ie)] [(.int (1 : Int32))]))
    refine own_by (fun _ kont => XS.goto X237.here hx rfl (pc0 := 120) (pc' := 124) rfl (hb hby d4_120) (by decide) (by decide) kont) ?_
    show own_Go p e below _ (T237.setTop (mkF m 124 #[.val (.ref g), .val (.int (0 : Int32)), .val (.int rv), .val (.int (Int32.ofNat kc)), .val (.ref ie)] [(.int (1 : Int32))]))
    refine own_by (fun _ kont => XS.iloadN X237.here hx rfl (hb hby d4_124) rfl kont) ?_
    show own_Go p e below _ (T237.setTop (mkF m 125 #[.val (.ref g), .val (.int (0 : Int32)), .val (.int rv), .val (.int (Int32.ofNat kc)), .val (.ref ie)] [(.int rv), (.int (1 : Int32))]))
    refine own_by (fun _ kont => XS.ifYes X237.here hx rfl (pc0 := 125) (pc' := 132) rfl (hb hby d4_125) rfl (XT.i0_ne_t hr0) (by decide) (by decide) kont) ?_
    show own_Go p e below _ (T237.setTop (mkF m 132 #[.val (.ref g), .val (.int (0 : Int32)), .val (.int rv), .val (.int (Int32.ofNat kc)), .val (.ref ie)] [(.int (1 : Int32))]))
    refine own_by (fun _ kont => XT.iconstV X237.here hx rfl (0 : Int32) (hb hby d4_132) rfl kont) ?_
    show own_Go p e below _ (T237.setTop (mkF m 133 #[.val (.ref g), .val (.int (0 : Int32)), .val (.int rv), .val (.int (Int32.ofNat kc)), .val (.ref ie)] [(.int (0 : Int32)), (.int (1 : Int32))]))
    refine own_by (fun _ kont => XS.icmpNo X237.here hx rfl (hb hby d4_133) rfl (XT.ii_eq_f (by decide)) kont) ?_
    show own_Go p e below _ (T237.setTop (mkF m 136 #[.val (.ref g), .val (.int (0 : Int32)), .val (.int rv), .val (.int (Int32.ofNat kc)), .val (.ref ie)] []))
    refine own_by (fun _ kont => XS.aload X237.here hx rfl (hb hby d4_136) rfl rfl kont) ?_
    show own_Go p e below _ (T237.setTop (mkF m 138 #[.val (.ref g), .val (.int (0 : Int32)), .val (.int rv), .val (.int (Int32.ofNat kc)), .val (.ref ie)] [(.ref ie)]))
    refine own_by (fun _ kont => XS.iloadN X237.here hx rfl (hb hby d4_138) rfl kont) ?_
    show own_Go p e below _ (T237.setTop (mkF m 139 #[.val (.ref g), .val (.int (0 : Int32)), .val (.int rv), .val (.int (Int32.ofNat kc)), .val (.ref ie)] [(.int (Int32.ofNat kc)), (.ref ie)]))
    have F238 : own_IA Z h219 ie (0 + 1) I := (own_IA_other (own_IA_other (own_IA_other HI204 W207 (Ne.symm nlfie204)) W213 (Ne.symm nrtie204)) W219 (Ne.symm ncoie204))
    refine own_by (fun _ kont => own_ldN X237 hx hZ e237 F238 (j := (Int32.ofNat kc)) kc hik (by omega) rfl rfl (hb hby d4_139) kont) ?_
    show own_Go p e below _ (T237.setTop (mkF m 140 #[.val (.ref g), .val (.int (0 : Int32)), .val (.int rv), .val (.int (Int32.ofNat kc)), .val (.ref ie)] [(.int (I kc))]))
    refine own_by (fun _ kont => XS.ifYes X237.here hx rfl (pc0 := 140) (pc' := 157) rfl (hb hby d4_140) rfl (XT.i0_lt_t hI) (by decide) (by decide) kont) ?_
    show own_Go p e below _ (T237.setTop (mkF m 157 #[.val (.ref g), .val (.int (0 : Int32)), .val (.int rv), .val (.int (Int32.ofNat kc)), .val (.ref ie)] []))
    refine own_by (fun _ kont => XS.aload X237.here hx rfl (hb hby d4_157) rfl rfl kont) ?_
    show own_Go p e below _ (T237.setTop (mkF m 159 #[.val (.ref g), .val (.int (0 : Int32)), .val (.int rv), .val (.int (Int32.ofNat kc)), .val (.ref ie)] [(.ref ie)]))
    refine own_by (fun _ kont => XS.iloadN X237.here hx rfl (hb hby d4_159) rfl kont) ?_
    show own_Go p e below _ (T237.setTop (mkF m 160 #[.val (.ref g), .val (.int (0 : Int32)), .val (.int rv), .val (.int (Int32.ofNat kc)), .val (.ref ie)] [(.int (Int32.ofNat kc)), (.ref ie)]))
    refine own_by (fun _ kont => XS.aloadN X237.here hx rfl (hb hby d4_160) rfl rfl kont) ?_
    show own_Go p e below _ (T237.setTop (mkF m 161 #[.val (.ref g), .val (.int (0 : Int32)), .val (.int rv), .val (.int (Int32.ofNat kc)), .val (.ref ie)] [(.ref g), (.int (Int32.ofNat kc)), (.ref ie)]))
    have F239 : Fld Z h219 g "com/example/lambdalane/lambdalane/NodeGraph" "size" "I" (.int (Int32.ofNat sz)) := (F216.other W219 (Or.inl ngco204))
    obtain ⟨T240, X240, e240, st240⟩ := getF X237 hx hZ hown (host := "") (Or.inl (hw _ (List.mem_of_getElem? (i := 40) rfl))) Via.refl e237 F239 (g := (mkF m 161 #[.val (.ref g), .val (.int (0 : Int32)), .val (.int rv), .val (.int (Int32.ofNat kc)), .val (.ref ie)] [(.ref g), (.int (Int32.ofNat kc)), (.ref ie)])) rfl rfl (hb hby d4_161)
    refine own_by st240 ?_
    show own_Go p e below _ (T240.setTop (mkF m 164 #[.val (.ref g), .val (.int (0 : Int32)), .val (.int rv), .val (.int (Int32.ofNat kc)), .val (.ref ie)] [(.int (Int32.ofNat sz)), (.int (Int32.ofNat kc)), (.ref ie)]))
    obtain ⟨T241, h241, X241, e241, W241, H241, st241⟩ := own_stN X240 hx hZ e240 F238 (j := (Int32.ofNat kc)) kc hik (by omega) (g := (mkF m 164 #[.val (.ref g), .val (.int (0 : Int32)), .val (.int rv), .val (.int (Int32.ofNat kc)), .val (.ref ie)] [(.int (Int32.ofNat sz)), (.int (Int32.ofNat kc)), (.ref ie)])) rfl rfl (hb hby d4_164)
    obtain ⟨L241, X241, M241⟩ := own_hide X241 (Fr.snoc X241 M219 gie204)
    have Z241 : n0 ≤ h241.size := (by rw [Wr.size W241]; exact Z219)
    refine own_by st241 ?_
    show own_Go p e below _ (T241.setTop (mkF m 165 #[.val (.ref g), .val (.int (0 : Int32)), .val (.int rv), .val (.int (Int32.ofNat kc)), .val (.ref ie)] []))
    refine own_by (fun _ kont => XS.aloadN X241.here hx rfl (hb hby d4_165) rfl rfl kont) ?_
    show own_Go p e below _ (T241.setTop (mkF m 166 #[.val (.ref g), .val (.int (0 : Int32)), .val (.int rv), .val (.int (Int32.ofNat kc)), .val (.ref ie)] [(.ref g)]))
    refine own_by (fun _ kont => XS.dup X241.here hx rfl (hb hby d4_166) rfl rfl kont) ?_
    show own_Go p e below _ (T241.setTop (mkF m 167 #[.val (.ref g), .val (.int (0 : Int32)), .val (.int rv), .val (.int (Int32.ofNat kc)), .val (.ref ie)] [(.ref g), (.ref g)]))
    have F242 : Fld Z h241 g "com/example/lambdalane/lambdalane/NodeGraph" "size" "I" (.int (Int32.ofNat sz)) := (F239.other W241 (Or.inl ngie204))
    obtain ⟨T243, X243, e243, st243⟩ := getF X241 hx hZ hown (host := "") (Or.inl (hw _ (List.mem_of_getElem? (i := 40) rfl))) Via.refl e241 F242 (g := (mkF m 167 #[.val (.ref g), .val (.int (0 : Int32)), .val (.int rv), .val (.int (Int32.ofNat kc)), .val (.ref ie)] [(.ref g), (.ref g)])) rfl rfl (hb hby d4_167)
    refine own_by st243 ?_
    show own_Go p e below _ (T243.setTop (mkF m 170 #[.val (.ref g), .val (.int (0 : Int32)), .val (.int rv), .val (.int (Int32.ofNat kc)), .val (.ref ie)] [(.int (Int32.ofNat sz)), (.ref g)]))
    refine own_by (fun _ kont => XT.dupX1 X243.here hx rfl (hb hby d4_170) rfl rfl rfl kont) ?_
    show own_Go p e below _ (T243.setTop (mkF m 171 #[.val (.ref g), .val (.int (0 : Int32)), .val (.int rv), .val (.int (Int32.ofNat kc)), .val (.ref ie)] [(.int (Int32.ofNat sz)), (.ref g), (.int (Int32.ofNat sz))]))
    refine own_by (fun _ kont => XT.iconstV X243.here hx rfl (1 : Int32) (hb hby d4_171) rfl kont) ?_
    show own_Go p e below _ (T243.setTop (mkF m 172 #[.val (.ref g), .val (.int (0 : Int32)), .val (.int rv), .val (.int (Int32.ofNat kc)), .val (.ref ie)] [(.int (1 : Int32)), (.int (Int32.ofNat sz)), (.ref g), (.int (Int32.ofNat sz))]))
    refine own_by (fun _ kont => XS.iadd X243.here hx rfl (hb hby d4_172) rfl kont) ?_
    show own_Go p e below _ (T243.setTop (mkF m 173 #[.val (.ref g), .val (.int (0 : Int32)), .val (.int rv), .val (.int (Int32.ofNat kc)), .val (.ref ie)] [(.int ((Int32.ofNat sz) + (1 : Int32))), (.ref g), (.int (Int32.ofNat sz))]))
    have F244 : Exa Z h241 g "com/example/lambdalane/lambdalane/NodeGraph" := ((((GE204.wr W207).wr W213).wr W219).wr W241)
    obtain ⟨T245, h245, X245, e245, W245, st245⟩ := putF X243 hx hZ hown (host := "") (Or.inl (hw _ (List.mem_of_getElem? (i := 40) rfl))) Via.refl e243 F242 F244 (Or.inl (hw _ (List.mem_of_getElem? (i := 41) rfl))) (hw _ (List.mem_of_getElem? (i := 2) rfl)) (ty := .int) (by decide) rfl rfl (g := (mkF m 173 #[.val (.ref g), .val (.int (0 : Int32)), .val (.int rv), .val (.int (Int32.ofNat kc)), .val (.ref ie)] [(.int ((Int32.ofNat sz) + (1 : Int32))), (.ref g), (.int (Int32.ofNat sz))])) rfl rfl (hb hby d4_173)
    obtain ⟨L245, X245, M245⟩ := own_hide X245 (Fr.snoc X245 M241 gg204)
    have Z245 : n0 ≤ h245.size := (by rw [Wr.size W245]; exact Z241)
    have F245 : Fld Z h245 g "com/example/lambdalane/lambdalane/NodeGraph" "size" "I" (.int ((Int32.ofNat sz) + (1 : Int32))) := (F242.same W245)
    refine own_by st245 ?_
    show own_Go p e below _ (T245.setTop (mkF m 176 #[.val (.ref g), .val (.int (0 : Int32)), .val (.int rv), .val (.int (Int32.ofNat kc)), .val (.ref ie)] [(.int (Int32.ofNat sz))]))
    have F246 : Exa Z h245 g "com/example/lambdalane/lambdalane/NodeGraph" := (F244.wr W245)
    have F247 : Fld Z h245 g "com/example/lambdalane/lambdalane/NodeGraph" "side" "I" (.int sd) := (((((Gside204.other W207 (Or.inl nglf204)).other W213 (Or.inl ngrt204)).other W219 (Or.inl ngco204)).other W241 (Or.inl ngie204)).other W245 (Or.inr (slot_ne (t := .int) (t' := .int) (Or.inr (hw _ (List.mem_of_getElem? (i := 13) rfl))) (Or.inl (hw _ (List.mem_of_getElem? (i := 41) rfl))) (by decide) (by decide) (by decide))))
    have F248 : Fld Z h245 g "com/example/lambdalane/lambdalane/NodeGraph" "left" "[I" (.ref lf) := (((((Gleft204.other W207 (Or.inl nglf204)).other W213 (Or.inl ngrt204)).other W219 (Or.inl ngco204)).other W241 (Or.inl ngie204)).other W245 (Or.inr (slot_ne (t := (.array .int)) (t' := .int) (Or.inl (hw _ (List.mem_of_getElem? (i := 20) rfl))) (Or.inl (hw _ (List.mem_of_getElem? (i := 41) rfl))) (by decide) (by decide) (by decide))))
    have F249 : Fld Z h245 g "com/example/lambdalane/lambdalane/NodeGraph" "right" "[I" (.ref rt) := ((((F208.other W213 (Or.inl ngrt204)).other W219 (Or.inl ngco204)).other W241 (Or.inl ngie204)).other W245 (Or.inr (slot_ne (t := (.array .int)) (t' := .int) (Or.inl (hw _ (List.mem_of_getElem? (i := 22) rfl))) (Or.inl (hw _ (List.mem_of_getElem? (i := 41) rfl))) (by decide) (by decide) (by decide))))
    have F250 : Fld Z h245 g "com/example/lambdalane/lambdalane/NodeGraph" "colour" "[I" (.ref co) := (((F214.other W219 (Or.inl ngco204)).other W241 (Or.inl ngie204)).other W245 (Or.inr (slot_ne (t := (.array .int)) (t' := .int) (Or.inl (hw _ (List.mem_of_getElem? (i := 24) rfl))) (Or.inl (hw _ (List.mem_of_getElem? (i := 41) rfl))) (by decide) (by decide) (by decide))))
    have F251 : Fld Z h245 g "com/example/lambdalane/lambdalane/NodeGraph" "inEdgeOf" "[I" (.ref ie) := ((F236.other W241 (Or.inl ngie204)).other W245 (Or.inr (slot_ne (t := (.array .int)) (t' := .int) (Or.inr (hw _ (List.mem_of_getElem? (i := 26) rfl))) (Or.inl (hw _ (List.mem_of_getElem? (i := 41) rfl))) (by decide) (by decide) (by decide))))
    have F252 : Fld Z h245 g "com/example/lambdalane/lambdalane/NodeGraph" "outEdgeOf" "[I" (.ref oe) := (((((GoutEdgeOf204.other W207 (Or.inl nglf204)).other W213 (Or.inl ngrt204)).other W219 (Or.inl ngco204)).other W241 (Or.inl ngie204)).other W245 (Or.inr (slot_ne (t := (.array .int)) (t' := .int) (Or.inr (hw _ (List.mem_of_getElem? (i := 28) rfl))) (Or.inl (hw _ (List.mem_of_getElem? (i := 41) rfl))) (by decide) (by decide) (by decide))))
    have F253 : own_IA Z h245 lf cap (fun i => if i = sz then (0 : Int32) else fl i) := (own_IA_other (own_IA_other (own_IA_other (own_IA_other H207 W213 nlfrt204) W219 nlfco204) W241 nlfie204) W245 (Ne.symm nglf204))
    have F254 : own_IA Z h245 rt cap (fun i => if i = sz then rv else fr i) := (own_IA_other (own_IA_other (own_IA_other H213 W219 nrtco204) W241 nrtie204) W245 (Ne.symm ngrt204))
    have F255 : own_IA Z h245 co cap (fun i => if i = sz then (Int32.ofNat kc) else fc i) := (own_IA_other (own_IA_other H219 W241 ncoie204) W245 (Ne.symm ngco204))
    have F256 : own_IA Z h245 ie (0 + 1) (fun i => if i = kc then (Int32.ofNat sz) else I i) := (own_IA_other H241 W245 (Ne.symm ngie204))
    have F257 : own_IA Z h245 oe (0 + 1) O := (own_IA_other (own_IA_other (own_IA_other (own_IA_other (own_IA_other HO204 W207 (Ne.symm nlfoe204)) W213 (Ne.symm nrtoe204)) W219 (Ne.symm ncooe204)) W241 (Ne.symm nieoe204)) W245 (Ne.symm ngoe204))
    refine own_ret X245 hx hlk hret rfl (Or.inl ⟨rfl, by simp, _, rfl⟩) (hb hby d4_176) ⟨rfl, M245, cap, by omega, hcap, ?_⟩ hc hs
    rw [e245]
    exact ⟨lf, rt, co, ie, oe, _, _, _, ⟨F246, F247, F248, F249, F250, F251, F252, (own_inc (k := sz) (by omega) ▸ F245)⟩, ⟨F253, F254, F255, F256, F257⟩, fun i hi => own_ag hag i hi, ⟨nglf204, ngrt204, ngco204, ngie204, ngoe204, nlfrt204, nlfco204, nlfie204, nlfoe204, nrtco204, nrtie204, nrtoe204, ncoie204, ncooe204, nieoe204⟩, ⟨gg204, glf204, grt204, gco204, gie204, goe204, Z245⟩⟩
  · have hk0 : ¬ Int32.ofNat kc = (0 : Int32) := fun z => absurd ((own_inj (b := 0) (by omega) (by omega)).mp z) (by omega)
    have hik := own_i (k := kc) (by omega)
    refine own_by (fun _ kont => XS.ifNo X219.here hx rfl (hb hby d4_95) rfl (XT.i0_eq_f hk0) kont) ?_
    show own_Go p e below _ (T219.setTop (mkF m 98 #[.val (.ref g), .val (.int lv), .val (.int (0 : Int32)), .val (.int (Int32.ofNat kc)), o] []))
    refine own_by (fun _ kont => XS.iloadN X219.here hx rfl (hb hby d4_98) rfl kont) ?_
    show own_Go p e below _ (T219.setTop (mkF m 99 #[.val (.ref g), .val (.int lv), .val (.int (0 : Int32)), .val (.int (Int32.ofNat kc)), o] [(.int lv)]))
    refine own_by (fun _ kont => XS.ifYes X219.here hx rfl (pc0 := 99) (pc' := 109) rfl (hb hby d4_99) rfl (XT.i0_ne_t hl0) (by decide) (by decide) kont) ?_
    show own_Go p e below _ (T219.setTop (mkF m 109 #[.val (.ref g), .val (.int lv), .val (.int (0 : Int32)), .val (.int (Int32.ofNat kc)), o] []))
    refine own_by (fun _ kont => XS.aloadN X219.here hx rfl (hb hby d4_109) rfl rfl kont) ?_
    show own_Go p e below _ (T219.setTop (mkF m 110 #[.val (.ref g), .val (.int lv), .val (.int (0 : Int32)), .val (.int (Int32.ofNat kc)), o] [(.ref g)]))
    have F258 : Fld Z h219 g "com/example/lambdalane/lambdalane/NodeGraph" "outEdgeOf" "[I" (.ref oe) := (((GoutEdgeOf204.other W207 (Or.inl nglf204)).other W213 (Or.inl ngrt204)).other W219 (Or.inl ngco204))
    obtain ⟨T259, X259, e259, st259⟩ := getF X219 hx hZ hown (host := "") (Or.inl (hw _ (List.mem_of_getElem? (i := 27) rfl))) Via.refl e219 F258 (g := (mkF m 110 #[.val (.ref g), .val (.int lv), .val (.int (0 : Int32)), .val (.int (Int32.ofNat kc)), o] [(.ref g)])) rfl rfl (hb hby d4_110)
    refine own_by st259 ?_
    show own_Go p e below _ (T259.setTop (mkF m 113 #[.val (.ref g), .val (.int lv), .val (.int (0 : Int32)), .val (.int (Int32.ofNat kc)), o] [(.ref oe)]))
    refine own_by (fun _ kont => XS.astoreS X259.here hx rfl (hb hby d4_113) rfl rfl rfl rfl ho kont) ?_
    show own_Go p e below _ (T259.setTop (mkF m 115 #[.val (.ref g), .val (.int lv), .val (.int (0 : Int32)), .val (.int (Int32.ofNat kc)), .val (.ref oe)] []))
    refine own_by (fun _ kont => XS.iloadN X259.here hx rfl (hb hby d4_115) rfl kont) ?_
    show own_Go p e below _ (T259.setTop (mkF m 116 #[.val (.ref g), .val (.int lv), .val (.int (0 : Int32)), .val (.int (Int32.ofNat kc)), .val (.ref oe)] [(.int lv)]))
    refine own_by (fun _ kont => XS.ifYes X259.here hx rfl (pc0 := 116) (pc' := 123) rfl (hb hby d4_116) rfl (XT.i0_ne_t hl0) (by decide) (by decide) kont) ?_
    show own_Go p e below _ (T259.setTop (mkF m 123 #[.val (.ref g), .val (.int lv), .val (.int (0 : Int32)), .val (.int (Int32.ofNat kc)), .val (.ref oe)] []))
    refine own_by (fun _ kont => XT.iconstV X259.here hx rfl (0 : Int32) (hb hby d4_123) rfl kont) ?_
    show own_Go p e below _ (T259.setTop (mkF m 124 #[.val (.ref g), .val (.int lv), .val (.int (0 : Int32)), .val (.int (Int32.ofNat kc)), .val (.ref oe)] [(.int (0 : Int32))]))
    refine own_by (fun _ kont => XS.iloadN X259.here hx rfl (hb hby d4_124) rfl kont) ?_
    show own_Go p e below _ (T259.setTop (mkF m 125 #[.val (.ref g), .val (.int lv), .val (.int (0 : Int32)), .val (.int (Int32.ofNat kc)), .val (.ref oe)] [(.int (0 : Int32)), (.int (0 : Int32))]))
    refine own_by (fun _ kont => XS.ifNo X259.here hx rfl (hb hby d4_125) rfl (XT.i0_ne_f (by decide)) kont) ?_
    show own_Go p e below _ (T259.setTop (mkF m 128 #[.val (.ref g), .val (.int lv), .val (.int (0 : Int32)), .val (.int (Int32.ofNat kc)), .val (.ref oe)] [(.int (0 : Int32))]))
    refine own_by (fun _ kont => XT.iconstV X259.here hx rfl (1 : Int32) (hb hby d4_128) rfl kont) ?_
    show own_Go p e below _ (T259.setTop (mkF m 129 #[.val (.ref g), .val (.int lv), .val (.int (0 : Int32)), .val (.int (Int32.ofNat kc)), .val (.ref oe)] [(.int (1 : Int32)), (.int (0 : Int32))]))
    refine own_by (fun _ kont => XS.goto X259.here hx rfl (pc0 := 129) (pc' := 133) rfl (hb hby d4_129) (by decide) (by decide) kont) ?_
    show own_Go p e below _ (T259.setTop (mkF m 133 #[.val (.ref g), .val (.int lv), .val (.int (0 : Int32)), .val (.int (Int32.ofNat kc)), .val (.ref oe)] [(.int (1 : Int32)), (.int (0 : Int32))]))
    refine own_by (fun _ kont => XS.icmpNo X259.here hx rfl (hb hby d4_133) rfl (XT.ii_eq_f (by decide)) kont) ?_
    show own_Go p e below _ (T259.setTop (mkF m 136 #[.val (.ref g), .val (.int lv), .val (.int (0 : Int32)), .val (.int (Int32.ofNat kc)), .val (.ref oe)] []))
    refine own_by (fun _ kont => XS.aload X259.here hx rfl (hb hby d4_136) rfl rfl kont) ?_
    show own_Go p e below _ (T259.setTop (mkF m 138 #[.val (.ref g), .val (.int lv), .val (.int (0 : Int32)), .val (.int (Int32.ofNat kc)), .val (.ref oe)] [(.ref oe)]))
    refine own_by (fun _ kont => XS.iloadN X259.here hx rfl (hb hby d4_138) rfl kont) ?_
    show own_Go p e below _ (T259.setTop (mkF m 139 #[.val (.ref g), .val (.int lv), .val (.int (0 : Int32)), .val (.int (Int32.ofNat kc)), .val (.ref oe)] [(.int (Int32.ofNat kc)), (.ref oe)]))
    have F260 : own_IA Z h219 oe (0 + 1) O := (own_IA_other (own_IA_other (own_IA_other HO204 W207 (Ne.symm nlfoe204)) W213 (Ne.symm nrtoe204)) W219 (Ne.symm ncooe204))
    refine own_by (fun _ kont => own_ldN X259 hx hZ e259 F260 (j := (Int32.ofNat kc)) kc hik (by omega) rfl rfl (hb hby d4_139) kont) ?_
    show own_Go p e below _ (T259.setTop (mkF m 140 #[.val (.ref g), .val (.int lv), .val (.int (0 : Int32)), .val (.int (Int32.ofNat kc)), .val (.ref oe)] [(.int (O kc))]))
    refine own_by (fun _ kont => XS.ifYes X259.here hx rfl (pc0 := 140) (pc' := 157) rfl (hb hby d4_140) rfl (XT.i0_lt_t hO) (by decide) (by decide) kont) ?_
    show own_Go p e below _ (T259.setTop (mkF m 157 #[.val (.ref g), .val (.int lv), .val (.int (0 : Int32)), .val (.int (Int32.ofNat kc)), .val (.ref oe)] []))
    refine own_by (fun _ kont => XS.aload X259.here hx rfl (hb hby d4_157) rfl rfl kont) ?_
    show own_Go p e below _ (T259.setTop (mkF m 159 #[.val (.ref g), .val (.int lv), .val (.int (0 : Int32)), .val (.int (Int32.ofNat kc)), .val (.ref oe)] [(.ref oe)]))
    refine own_by (fun _ kont => XS.iloadN X259.here hx rfl (hb hby d4_159) rfl kont) ?_
    show own_Go p e below _ (T259.setTop (mkF m 160 #[.val (.ref g), .val (.int lv), .val (.int (0 : Int32)), .val (.int (Int32.ofNat kc)), .val (.ref oe)] [(.int (Int32.ofNat kc)), (.ref oe)]))
    refine own_by (fun _ kont => XS.aloadN X259.here hx rfl (hb hby d4_160) rfl rfl kont) ?_
    show own_Go p e below _ (T259.setTop (mkF m 161 #[.val (.ref g), .val (.int lv), .val (.int (0 : Int32)), .val (.int (Int32.ofNat kc)), .val (.ref oe)] [(.ref g), (.int (Int32.ofNat kc)), (.ref oe)]))
    have F261 : Fld Z h219 g "com/example/lambdalane/lambdalane/NodeGraph" "size" "I" (.int (Int32.ofNat sz)) := (F216.other W219 (Or.inl ngco204))
    obtain ⟨T262, X262, e262, st262⟩ := getF X259 hx hZ hown (host := "") (Or.inl (hw _ (List.mem_of_getElem? (i := 40) rfl))) Via.refl e259 F261 (g := (mkF m 161 #[.val (.ref g), .val (.int lv), .val (.int (0 : Int32)), .val (.int (Int32.ofNat kc)), .val (.ref oe)] [(.ref g), (.int (Int32.ofNat kc)), (.ref oe)])) rfl rfl (hb hby d4_161)
    refine own_by st262 ?_
    show own_Go p e below _ (T262.setTop (mkF m 164 #[.val (.ref g), .val (.int lv), .val (.int (0 : Int32)), .val (.int (Int32.ofNat kc)), .val (.ref oe)] [(.int (Int32.ofNat sz)), (.int (Int32.ofNat kc)), (.ref oe)]))
    obtain ⟨T263, h263, X263, e263, W263, H263, st263⟩ := own_stN X262 hx hZ e262 F260 (j := (Int32.ofNat kc)) kc hik (by omega) (g := (mkF m 164 #[.val (.ref g), .val (.int lv), .val (.int (0 : Int32)), .val (.int (Int32.ofNat kc)), .val (.ref oe)] [(.int (Int32.ofNat sz)), (.int (Int32.ofNat kc)), (.ref oe)])) rfl rfl (hb hby d4_164)
    obtain ⟨L263, X263, M263⟩ := own_hide X263 (Fr.snoc X263 M219 goe204)
    have Z263 : n0 ≤ h263.size := (by rw [Wr.size W263]; exact Z219)
    refine own_by st263 ?_
    show own_Go p e below _ (T263.setTop (mkF m 165 #[.val (.ref g), .val (.int lv), .val (.int (0 : Int32)), .val (.int (Int32.ofNat kc)), .val (.ref oe)] []))
    refine own_by (fun _ kont => XS.aloadN X263.here hx rfl (hb hby d4_165) rfl rfl kont) ?_
    show own_Go p e below _ (T263.setTop (mkF m 166 #[.val (.ref g), .val (.int lv), .val (.int (0 : Int32)), .val (.int (Int32.ofNat kc)), .val (.ref oe)] [(.ref g)]))
    refine own_by (fun _ kont => XS.dup X263.here hx rfl (hb hby d4_166) rfl rfl kont) ?_
    show own_Go p e below _ (T263.setTop (mkF m 167 #[.val (.ref g), .val (.int lv), .val (.int (0 : Int32)), .val (.int (Int32.ofNat kc)), .val (.ref oe)] [(.ref g), (.ref g)]))
    have F264 : Fld Z h263 g "com/example/lambdalane/lambdalane/NodeGraph" "size" "I" (.int (Int32.ofNat sz)) := (F261.other W263 (Or.inl ngoe204))
    obtain ⟨T265, X265, e265, st265⟩ := getF X263 hx hZ hown (host := "") (Or.inl (hw _ (List.mem_of_getElem? (i := 40) rfl))) Via.refl e263 F264 (g := (mkF m 167 #[.val (.ref g), .val (.int lv), .val (.int (0 : Int32)), .val (.int (Int32.ofNat kc)), .val (.ref oe)] [(.ref g), (.ref g)])) rfl rfl (hb hby d4_167)
    refine own_by st265 ?_
    show own_Go p e below _ (T265.setTop (mkF m 170 #[.val (.ref g), .val (.int lv), .val (.int (0 : Int32)), .val (.int (Int32.ofNat kc)), .val (.ref oe)] [(.int (Int32.ofNat sz)), (.ref g)]))
    refine own_by (fun _ kont => XT.dupX1 X265.here hx rfl (hb hby d4_170) rfl rfl rfl kont) ?_
    show own_Go p e below _ (T265.setTop (mkF m 171 #[.val (.ref g), .val (.int lv), .val (.int (0 : Int32)), .val (.int (Int32.ofNat kc)), .val (.ref oe)] [(.int (Int32.ofNat sz)), (.ref g), (.int (Int32.ofNat sz))]))
    refine own_by (fun _ kont => XT.iconstV X265.here hx rfl (1 : Int32) (hb hby d4_171) rfl kont) ?_
    show own_Go p e below _ (T265.setTop (mkF m 172 #[.val (.ref g), .val (.int lv), .val (.int (0 : Int32)), .val (.int (Int32.ofNat kc)), .val (.ref oe)] [(.int (1 : Int32)), (.int (Int32.ofNat sz)), (.ref g), (.int (Int32.ofNat sz))]))
    refine own_by (fun _ kont => XS.iadd X265.here hx rfl (hb hby d4_172) rfl kont) ?_
    show own_Go p e below _ (T265.setTop (mkF m 173 #[.val (.ref g), .val (.int lv), .val (.int (0 : Int32)), .val (.int (Int32.ofNat kc)), .val (.ref oe)] [(.int ((Int32.ofNat sz) + (1 : Int32))), (.ref g), (.int (Int32.ofNat sz))]))
    have F266 : Exa Z h263 g "com/example/lambdalane/lambdalane/NodeGraph" := ((((GE204.wr W207).wr W213).wr W219).wr W263)
    obtain ⟨T267, h267, X267, e267, W267, st267⟩ := putF X265 hx hZ hown (host := "") (Or.inl (hw _ (List.mem_of_getElem? (i := 40) rfl))) Via.refl e265 F264 F266 (Or.inl (hw _ (List.mem_of_getElem? (i := 41) rfl))) (hw _ (List.mem_of_getElem? (i := 2) rfl)) (ty := .int) (by decide) rfl rfl (g := (mkF m 173 #[.val (.ref g), .val (.int lv), .val (.int (0 : Int32)), .val (.int (Int32.ofNat kc)), .val (.ref oe)] [(.int ((Int32.ofNat sz) + (1 : Int32))), (.ref g), (.int (Int32.ofNat sz))])) rfl rfl (hb hby d4_173)
    obtain ⟨L267, X267, M267⟩ := own_hide X267 (Fr.snoc X267 M263 gg204)
    have Z267 : n0 ≤ h267.size := (by rw [Wr.size W267]; exact Z263)
    have F267 : Fld Z h267 g "com/example/lambdalane/lambdalane/NodeGraph" "size" "I" (.int ((Int32.ofNat sz) + (1 : Int32))) := (F264.same W267)
    refine own_by st267 ?_
    show own_Go p e below _ (T267.setTop (mkF m 176 #[.val (.ref g), .val (.int lv), .val (.int (0 : Int32)), .val (.int (Int32.ofNat kc)), .val (.ref oe)] [(.int (Int32.ofNat sz))]))
    have F268 : Exa Z h267 g "com/example/lambdalane/lambdalane/NodeGraph" := (F266.wr W267)
    have F269 : Fld Z h267 g "com/example/lambdalane/lambdalane/NodeGraph" "side" "I" (.int sd) := (((((Gside204.other W207 (Or.inl nglf204)).other W213 (Or.inl ngrt204)).other W219 (Or.inl ngco204)).other W263 (Or.inl ngoe204)).other W267 (Or.inr (slot_ne (t := .int) (t' := .int) (Or.inr (hw _ (List.mem_of_getElem? (i := 13) rfl))) (Or.inl (hw _ (List.mem_of_getElem? (i := 41) rfl))) (by decide) (by decide) (by decide))))
    have F270 : Fld Z h267 g "com/example/lambdalane/lambdalane/NodeGraph" "left" "[I" (.ref lf) := (((((Gleft204.other W207 (Or.inl nglf204)).other W213 (Or.inl ngrt204)).other W219 (Or.inl ngco204)).other W263 (Or.inl ngoe204)).other W267 (Or.inr (slot_ne (t := (.array .int)) (t' := .int) (Or.inl (hw _ (List.mem_of_getElem? (i := 20) rfl))) (Or.inl (hw _ (List.mem_of_getElem? (i := 41) rfl))) (by decide) (by decide) (by decide))))
    have F271 : Fld Z h267 g "com/example/lambdalane/lambdalane/NodeGraph" "right" "[I" (.ref rt) := ((((F208.other W213 (Or.inl ngrt204)).other W219 (Or.inl ngco204)).other W263 (Or.inl ngoe204)).other W267 (Or.inr (slot_ne (t := (.array .int)) (t' := .int) (Or.inl (hw _ (List.mem_of_getElem? (i := 22) rfl))) (Or.inl (hw _ (List.mem_of_getElem? (i := 41) rfl))) (by decide) (by decide) (by decide))))
    have F272 : Fld Z h267 g "com/example/lambdalane/lambdalane/NodeGraph" "colour" "[I" (.ref co) := (((F214.other W219 (Or.inl ngco204)).other W263 (Or.inl ngoe204)).other W267 (Or.inr (slot_ne (t := (.array .int)) (t' := .int) (Or.inl (hw _ (List.mem_of_getElem? (i := 24) rfl))) (Or.inl (hw _ (List.mem_of_getElem? (i := 41) rfl))) (by decide) (by decide) (by decide))))
    have F273 : Fld Z h267 g "com/example/lambdalane/lambdalane/NodeGraph" "inEdgeOf" "[I" (.ref ie) := (((((GinEdgeOf204.other W207 (Or.inl nglf204)).other W213 (Or.inl ngrt204)).other W219 (Or.inl ngco204)).other W263 (Or.inl ngoe204)).other W267 (Or.inr (slot_ne (t := (.array .int)) (t' := .int) (Or.inr (hw _ (List.mem_of_getElem? (i := 26) rfl))) (Or.inl (hw _ (List.mem_of_getElem? (i := 41) rfl))) (by decide) (by decide) (by decide))))
    have F274 : Fld Z h267 g "com/example/lambdalane/lambdalane/NodeGraph" "outEdgeOf" "[I" (.ref oe) := ((F258.other W263 (Or.inl ngoe204)).other W267 (Or.inr (slot_ne (t := (.array .int)) (t' := .int) (Or.inr (hw _ (List.mem_of_getElem? (i := 28) rfl))) (Or.inl (hw _ (List.mem_of_getElem? (i := 41) rfl))) (by decide) (by decide) (by decide))))
    have F275 : own_IA Z h267 lf cap (fun i => if i = sz then lv else fl i) := (own_IA_other (own_IA_other (own_IA_other (own_IA_other H207 W213 nlfrt204) W219 nlfco204) W263 nlfoe204) W267 (Ne.symm nglf204))
    have F276 : own_IA Z h267 rt cap (fun i => if i = sz then (0 : Int32) else fr i) := (own_IA_other (own_IA_other (own_IA_other H213 W219 nrtco204) W263 nrtoe204) W267 (Ne.symm ngrt204))
    have F277 : own_IA Z h267 co cap (fun i => if i = sz then (Int32.ofNat kc) else fc i) := (own_IA_other (own_IA_other H219 W263 ncooe204) W267 (Ne.symm ngco204))
    have F278 : own_IA Z h267 ie (0 + 1) I := (own_IA_other (own_IA_other (own_IA_other (own_IA_other (own_IA_other HI204 W207 (Ne.symm nlfie204)) W213 (Ne.symm nrtie204)) W219 (Ne.symm ncoie204)) W263 nieoe204) W267 (Ne.symm ngie204))
    have F279 : own_IA Z h267 oe (0 + 1) (fun i => if i = kc then (Int32.ofNat sz) else O i) := (own_IA_other H263 W267 (Ne.symm ngoe204))
    refine own_ret X267 hx hlk hret rfl (Or.inl ⟨rfl, by simp, _, rfl⟩) (hb hby d4_176) ⟨rfl, M267, cap, by omega, hcap, ?_⟩ hc hs
    rw [e267]
    exact ⟨lf, rt, co, ie, oe, _, _, _, ⟨F268, F269, F270, F271, F272, F273, F274, (own_inc (k := sz) (by omega) ▸ F267)⟩, ⟨F275, F276, F277, F278, F279⟩, fun i hi => own_ag hag i hi, ⟨nglf204, ngrt204, ngco204, ngie204, ngoe204, nlfrt204, nlfco204, nlfie204, nlfoe204, nrtco204, nrtie204, nrtoe204, ncoie204, ncooe204, nieoe204⟩, ⟨gg204, glf204, grt204, gco204, gie204, goe204, Z267⟩⟩
theorem own_ef_rmA (m : MethodId) (g : Addr) (lv : Int32) (rv : Int32) (kc : Int32) : entryFrame m #[(.ref g), (.int lv), (.int rv), (.int kc)] 5 = (mkF m 0 #[.val (.ref g), .val (.int lv), .val (.int rv), .val (.int kc), .unset] []) := by first | (simp [entryFrame, mkF, argsToLocals, Value.category, maxLocals]; done) | rfl
set_option maxRecDepth 65536 in
set_option maxHeartbeats 40000000 in
theorem rmA (l : Launch) (Z : State) (a0 : Array Value) (hw : ∀ d ∈ tables_1, d.before a0 Z = true) (ws : List Jvm.Cond) (g : Addr) (sd lv rv : Int32) (kc sz cap : Nat) (L R C I O I2 O2 : Nat → Int32) (h0 : Heap) (n0 : Nat) (G : own_G Z h0 n0 g sd 0 sz cap L R C I O) (hsz : sz ≤ cap) (hcap : cap ≤ 16) (h3 : sz ≤ 3) (hcol : (kc = 0 ∧ I = I2 ∧ O = O2) ∨ (1 ≤ kc ∧ kc ≤ 0 ∧ lv = 0 ∧ ¬ rv = 0 ∧ I kc < 0 ∧ I2 = (fun i => if i = kc then Int32.ofNat sz else I i) ∧ O = O2) ∨ (1 ≤ kc ∧ kc ≤ 0 ∧ ¬ lv = 0 ∧ rv = 0 ∧ O kc < 0 ∧ I = I2 ∧ O2 = (fun i => if i = kc then Int32.ofNat sz else O i))) :
    MetFree l (⟨"com/example/lambdalane/lambdalane/NodeGraph", "add", "(III)I"⟩ : MethodName) (head1 (Jvm.Cond.code (⟨"com/example/lambdalane/lambdalane/NodeGraph", "add", "(III)I"⟩ : MethodName) prog_42_method_2_code 5 (some .int) :: ws) ({ frames := 2, cells := 3, slots := 48, locals := 96 } : Room)) (fun aR UR => aR = #[(.ref g), (.int lv), (.int rv), (.int (Int32.ofNat kc))] ∧ Z.Warmed39 UR.vm ∧ UR.heap = h0) (fun _ _ _ _ _ => True) (fun _ UR oR UR' => ∃ vR LR, oR = .returned vR ∧ own_Q_rmA Z g sd lv rv kc sz L R C I2 O2 n0 vR UR'.heap LR ∧ FrameEnd UR oR UR' LR ({ frames := 2, cells := 3, slots := 48, locals := 96 } : Room).cells ({ frames := 2, cells := 3, slots := 48, locals := 96 } : Room).slots) := by
  refine MetFree.of_bodySF (plainFor_of_name own_pn0) hisR ?_
  intro p e s m args below meth c s₁ Bd hml0 hP hK
  obtain ⟨rfl, hZ, hh⟩ := hP
  have hx := Bd.exec
  have hby := Bd.bytes
  have hlk := Bd.notSynchronized
  have hret := Bd.returns
  have hml : c.maxLocals = 5 := hml0
  have hown : s.vm.findClass "com/example/lambdalane/lambdalane/NodeGraph" = some m.cls := findClass_of_methodNamed Bd.named
  have hnm := (name_of_methodNamed Bd.named Bd.method).1
  have X0 : Stand p l e ({ frames := 2, cells := 3, slots := 48, locals := 96 } : Room) s m #[(.ref g), (.int lv), (.int rv), (.int (Int32.ofNat kc))] below meth c s₁ [] 0 0 := Stand.of_body Bd
  have e0 : s₁.heap = h0 := by rw [← hh, Bd.state]; rfl
  have N0 := Fr.nil n0
  show own_Go p e below (own_K s (own_Q_rmA Z g sd lv rv kc sz L R C I2 O2 n0) ({ frames := 2, cells := 3, slots := 48, locals := 96 } : Room).cells ({ frames := 2, cells := 3, slots := 48, locals := 96 } : Room).slots) _
  refine own_by (fun tt kont => castTop (own_ef_rmA m g lv rv (Int32.ofNat kc)) kont) ?_
  show own_Go p e below _ (s₁.setTop (mkF m 0 #[.val (.ref g), .val (.int lv), .val (.int rv), .val (.int (Int32.ofNat kc)), .unset] []))
  have G0 := G
  obtain ⟨lf, rt, co, ie, oe, fl, fr, fc, ⟨GE280, Gside280, Gleft280, Gright280, Gcolour280, GinEdgeOf280, GoutEdgeOf280, Gsize280⟩, ⟨HL280, HR280, HC280, HI280, HO280⟩, hag, ⟨nglf280, ngrt280, ngco280, ngie280, ngoe280, nlfrt280, nlfco280, nlfie280, nlfoe280, nrtco280, nrtie280, nrtoe280, ncoie280, ncooe280, nieoe280⟩, ⟨gg280, glf280, grt280, gco280, gie280, goe280, ZG280⟩⟩ := G
  refine own_by (fun _ kont => XS.aloadN X0.here hx rfl (hb hby d4_0) rfl rfl kont) ?_
  show own_Go p e below _ (s₁.setTop (mkF m 1 #[.val (.ref g), .val (.int lv), .val (.int rv), .val (.int (Int32.ofNat kc)), .unset] [(.ref g)]))
  obtain ⟨T281, X281, e281, st281⟩ := getF X0 hx hZ hown (host := "") (Or.inl (hw _ (List.mem_of_getElem? (i := 40) rfl))) Via.refl e0 Gsize280 (g := (mkF m 1 #[.val (.ref g), .val (.int lv), .val (.int rv), .val (.int (Int32.ofNat kc)), .unset] [(.ref g)])) rfl rfl (hb hby d4_1)
  refine own_by st281 ?_
  show own_Go p e below _ (T281.setTop (mkF m 4 #[.val (.ref g), .val (.int lv), .val (.int rv), .val (.int (Int32.ofNat kc)), .unset] [(.int (Int32.ofNat sz))]))
  refine own_by (fun _ kont => XS.aloadN X281.here hx rfl (hb hby d4_4) rfl rfl kont) ?_
  show own_Go p e below _ (T281.setTop (mkF m 5 #[.val (.ref g), .val (.int lv), .val (.int rv), .val (.int (Int32.ofNat kc)), .unset] [(.ref g), (.int (Int32.ofNat sz))]))
  obtain ⟨T282, X282, e282, st282⟩ := getF X281 hx hZ hown (host := "") (Or.inl (hw _ (List.mem_of_getElem? (i := 19) rfl))) Via.refl e281 Gleft280 (g := (mkF m 5 #[.val (.ref g), .val (.int lv), .val (.int rv), .val (.int (Int32.ofNat kc)), .unset] [(.ref g), (.int (Int32.ofNat sz))])) rfl rfl (hb hby d4_5)
  refine own_by st282 ?_
  show own_Go p e below _ (T282.setTop (mkF m 8 #[.val (.ref g), .val (.int lv), .val (.int rv), .val (.int (Int32.ofNat kc)), .unset] [(.ref lf), (.int (Int32.ofNat sz))]))
  refine own_by (fun _ kont => own_lenIA X282 hx hZ e282 HL280 (z := (Int32.ofNat cap)) rfl rfl rfl (hb hby d4_8) kont) ?_
  show own_Go p e below _ (T282.setTop (mkF m 9 #[.val (.ref g), .val (.int lv), .val (.int rv), .val (.int (Int32.ofNat kc)), .unset] [(.int (Int32.ofNat cap)), (.int (Int32.ofNat sz))]))
  by_cases hq : sz = cap
  · subst hq
    refine own_by (fun _ kont => XS.icmpNo X282.here hx rfl (hb hby d4_9) rfl (XT.ii_ne_f (rfl : Int32.ofNat sz = Int32.ofNat sz)) kont) ?_
    show own_Go p e below _ (T282.setTop (mkF m 12 #[.val (.ref g), .val (.int lv), .val (.int rv), .val (.int (Int32.ofNat kc)), .unset] []))
    refine own_by (fun _ kont => XT.bipushV X282.here hx rfl (16 : Int32) (hb hby d4_12) rfl kont) ?_
    show own_Go p e below _ (T282.setTop (mkF m 14 #[.val (.ref g), .val (.int lv), .val (.int rv), .val (.int (Int32.ofNat kc)), .unset] [(.int (16 : Int32))]))
    refine own_by (fun _ kont => XT.iconstV X282.here hx rfl (2 : Int32) (hb hby d4_14) rfl kont) ?_
    show own_Go p e below _ (T282.setTop (mkF m 15 #[.val (.ref g), .val (.int lv), .val (.int rv), .val (.int (Int32.ofNat kc)), .unset] [(.int (2 : Int32)), (.int (16 : Int32))]))
    refine own_by (fun _ kont => XS.aloadN X282.here hx rfl (hb hby d4_15) rfl rfl kont) ?_
    show own_Go p e below _ (T282.setTop (mkF m 16 #[.val (.ref g), .val (.int lv), .val (.int rv), .val (.int (Int32.ofNat kc)), .unset] [(.ref g), (.int (2 : Int32)), (.int (16 : Int32))]))
    obtain ⟨T283, X283, e283, st283⟩ := getF X282 hx hZ hown (host := "") (Or.inl (hw _ (List.mem_of_getElem? (i := 40) rfl))) Via.refl e282 Gsize280 (g := (mkF m 16 #[.val (.ref g), .val (.int lv), .val (.int rv), .val (.int (Int32.ofNat kc)), .unset] [(.ref g), (.int (2 : Int32)), (.int (16 : Int32))])) rfl rfl (hb hby d4_16)
    refine own_by st283 ?_
    show own_Go p e below _ (T283.setTop (mkF m 19 #[.val (.ref g), .val (.int lv), .val (.int rv), .val (.int (Int32.ofNat kc)), .unset] [(.int (Int32.ofNat sz)), (.int (2 : Int32)), (.int (16 : Int32))]))
    refine own_by (fun _ kont => XS.imul X283.here hx rfl (hb hby d4_19) rfl kont) ?_
    show own_Go p e below _ (T283.setTop (mkF m 20 #[.val (.ref g), .val (.int lv), .val (.int rv), .val (.int (Int32.ofNat kc)), .unset] [(.int ((2 : Int32) * (Int32.ofNat sz))), (.int (16 : Int32))]))
    obtain ⟨_, _, ⟨T284, L284, k284, n284⟩, -, X284, ⟨Lc284, hQ284, l284, y284, z284⟩, st284⟩ := Jvm.LawKit.callS X283 hx (y := (⟨"java/lang/Math", "max", "(II)I"⟩ : MethodName)) hown (mvT hZ (hw _ (List.mem_of_getElem? (i := 42) rfl))) (mvT hZ (hw _ (List.mem_of_getElem? (i := 43) rfl))) (mvT hZ (hw _ (List.mem_of_getElem? (i := 44) rfl))) (mvT hZ (hw _ (List.mem_of_getElem? (i := 45) rfl))) (by decide) (backOf (W := 0) (rm5 l Z a0 hw [] (16 : Int32) ((2 : Int32) * (Int32.ofNat sz)) h0 n0) hZ (hw _ (List.mem_of_getElem? (i := 45) rfl)) (hw _ (List.mem_of_getElem? (i := 44) rfl)) (by decide) (by decide)) (g := (mkF m 20 #[.val (.ref g), .val (.int lv), .val (.int rv), .val (.int (Int32.ofNat kc)), .unset] [(.int ((2 : Int32) * (Int32.ofNat sz))), (.int (16 : Int32))])) rfl (by rw [hml]; rfl) (argsL := [(.int (16 : Int32)), (.int ((2 : Int32) * (Int32.ofNat sz)))]) (rest := []) (lenOf own_pd6 rfl) rfl (by show 2 * 0 + _ ≤ _; exact Nat.le_of_eq rfl) (hb hby d4_20) (fun _ _ => ⟨rfl, e283, (by decide : 0 + 0 ≤ _), (by decide : 0 + 0 ≤ _)⟩)
    dsimp only [Pt.U, Pt.locs, Pt.cells, Pt.slots] at X284 l284 y284 z284 st284 hQ284
    subst l284 y284 z284
    refine own_by st284 ?_
    obtain ⟨rfl, N284, e284⟩ := hQ284
    obtain ⟨L284, X284, M284⟩ := own_hide X284 (Fr.app N0 N284)
    rw [own_max sz h3]
    show own_Go p e below _ (T284.setTop (mkF m 23 #[.val (.ref g), .val (.int lv), .val (.int rv), .val (.int (Int32.ofNat kc)), .unset] [(.int (16 : Int32))]))
    refine own_by (fun _ kont => XS.istore X284.here hx rfl (hb hby d4_23) rfl (l' := #[.val (.ref g), .val (.int lv), .val (.int rv), .val (.int (Int32.ofNat kc)), .val (.int (16 : Int32))]) rfl kont) ?_
    show own_Go p e below _ (T284.setTop (mkF m 25 #[.val (.ref g), .val (.int lv), .val (.int rv), .val (.int (Int32.ofNat kc)), .val (.int (16 : Int32))] []))
    refine own_by (fun _ kont => XS.aloadN X284.here hx rfl (hb hby d4_25) rfl rfl kont) ?_
    show own_Go p e below _ (T284.setTop (mkF m 26 #[.val (.ref g), .val (.int lv), .val (.int rv), .val (.int (Int32.ofNat kc)), .val (.int (16 : Int32))] [(.ref g)]))
    refine own_by (fun _ kont => XS.aloadN X284.here hx rfl (hb hby d4_26) rfl rfl kont) ?_
    show own_Go p e below _ (T284.setTop (mkF m 27 #[.val (.ref g), .val (.int lv), .val (.int rv), .val (.int (Int32.ofNat kc)), .val (.int (16 : Int32))] [(.ref g), (.ref g)]))
    obtain ⟨T285, X285, e285, st285⟩ := getF X284 hx hZ hown (host := "") (Or.inl (hw _ (List.mem_of_getElem? (i := 19) rfl))) Via.refl e284 Gleft280 (g := (mkF m 27 #[.val (.ref g), .val (.int lv), .val (.int rv), .val (.int (Int32.ofNat kc)), .val (.int (16 : Int32))] [(.ref g), (.ref g)])) rfl rfl (hb hby d4_27)
    refine own_by st285 ?_
    show own_Go p e below _ (T285.setTop (mkF m 30 #[.val (.ref g), .val (.int lv), .val (.int rv), .val (.int (Int32.ofNat kc)), .val (.int (16 : Int32))] [(.ref lf), (.ref g)]))
    refine own_by (fun _ kont => XS.iload X285.here hx rfl (hb hby d4_30) rfl kont) ?_
    show own_Go p e below _ (T285.setTop (mkF m 32 #[.val (.ref g), .val (.int lv), .val (.int rv), .val (.int (Int32.ofNat kc)), .val (.int (16 : Int32))] [(.int (16 : Int32)), (.ref lf), (.ref g)]))
    obtain ⟨_, _, ⟨T286, L286, k286, n286⟩, -, X286, ⟨Lc286, hQ286, l286, y286, z286⟩, st286⟩ := Jvm.LawKit.callS X285 hx (y := (⟨"java/util/Arrays", "copyOf", "([II)[I"⟩ : MethodName)) hown (mvT hZ (hw _ (List.mem_of_getElem? (i := 46) rfl))) (mvT hZ (hw _ (List.mem_of_getElem? (i := 47) rfl))) (mvT hZ (hw _ (List.mem_of_getElem? (i := 33) rfl))) (mvT hZ (hw _ (List.mem_of_getElem? (i := 48) rfl))) (by decide) (backOf (W := 1) (rmC l Z a0 hw [] lf sz fl h0 n0 (by omega) HL280 ZG280) hZ (hw _ (List.mem_of_getElem? (i := 48) rfl)) (hw _ (List.mem_of_getElem? (i := 33) rfl)) (by decide) (by decide)) (g := (mkF m 32 #[.val (.ref g), .val (.int lv), .val (.int rv), .val (.int (Int32.ofNat kc)), .val (.int (16 : Int32))] [(.int (16 : Int32)), (.ref lf), (.ref g)])) rfl (by rw [hml]; rfl) (argsL := [(.ref lf), (.int (16 : Int32))]) (rest := [(.ref g)]) (lenOf own_pd7 rfl) rfl (by show 2 * 0 + _ ≤ _; exact Nat.le_of_eq rfl) (hb hby d4_32) (fun _ _ => ⟨rfl, e285, (by decide : 0 + 1 ≤ _), (by decide : 0 + 16 ≤ _)⟩)
    dsimp only [Pt.U, Pt.locs, Pt.cells, Pt.slots] at X286 l286 y286 z286 st286 hQ286
    subst l286 y286 z286
    refine own_by st286 ?_
    obtain ⟨b286, rfl, N286, K286, lb286, ge286, H286⟩ := hQ286
    obtain ⟨L286, X286, M286⟩ := own_hide X286 (Fr.app M284 N286)
    obtain ⟨h286, e286⟩ : ∃ h, T286.heap = h := ⟨_, rfl⟩
    rw [e286] at K286 H286
    have ne287 : g ≠ b286 := Nat.ne_of_lt (Nat.lt_of_lt_of_le GE280.lt lb286)
    have ne288 : lf ≠ b286 := Nat.ne_of_lt (Nat.lt_of_lt_of_le (own_IA_lt HL280) lb286)
    have ne289 : rt ≠ b286 := Nat.ne_of_lt (Nat.lt_of_lt_of_le (own_IA_lt HR280) lb286)
    have ne290 : co ≠ b286 := Nat.ne_of_lt (Nat.lt_of_lt_of_le (own_IA_lt HC280) lb286)
    have ne291 : ie ≠ b286 := Nat.ne_of_lt (Nat.lt_of_lt_of_le (own_IA_lt HI280) lb286)
    have ne292 : oe ≠ b286 := Nat.ne_of_lt (Nat.lt_of_lt_of_le (own_IA_lt HO280) lb286)
    have Z286 : n0 ≤ h286.size := Nat.le_trans ZG280 K286.1
    show own_Go p e below _ (T286.setTop (mkF m 35 #[.val (.ref g), .val (.int lv), .val (.int rv), .val (.int (Int32.ofNat kc)), .val (.int (16 : Int32))] [(.ref b286), (.ref g)]))
    have F293 : Fld Z h286 g "com/example/lambdalane/lambdalane/NodeGraph" "left" "[I" (.ref lf) := (Gleft280.keep K286 nin0)
    have F294 : Exa Z h286 g "com/example/lambdalane/lambdalane/NodeGraph" := (GE280.keep K286)
    obtain ⟨T295, h295, X295, e295, W295, st295⟩ := putF X286 hx hZ hown (host := "") (Or.inl (hw _ (List.mem_of_getElem? (i := 19) rfl))) Via.refl e286 F293 F294 (Or.inl (hw _ (List.mem_of_getElem? (i := 20) rfl))) (hw _ (List.mem_of_getElem? (i := 2) rfl)) (ty := (.array .int)) (by decide) rfl rfl (g := (mkF m 35 #[.val (.ref g), .val (.int lv), .val (.int rv), .val (.int (Int32.ofNat kc)), .val (.int (16 : Int32))] [(.ref b286), (.ref g)])) rfl rfl (hb hby d4_35)
    obtain ⟨L295, X295, M295⟩ := own_hide X295 (Fr.snoc X295 M286 gg280)
    have Z295 : n0 ≤ h295.size := (by rw [Wr.size W295]; exact Z286)
    have F295 : Fld Z h295 g "com/example/lambdalane/lambdalane/NodeGraph" "left" "[I" (.ref b286) := (F293.same W295)
    refine own_by st295 ?_
    show own_Go p e below _ (T295.setTop (mkF m 38 #[.val (.ref g), .val (.int lv), .val (.int rv), .val (.int (Int32.ofNat kc)), .val (.int (16 : Int32))] []))
    refine own_by (fun _ kont => XS.aloadN X295.here hx rfl (hb hby d4_38) rfl rfl kont) ?_
    show own_Go p e below _ (T295.setTop (mkF m 39 #[.val (.ref g), .val (.int lv), .val (.int rv), .val (.int (Int32.ofNat kc)), .val (.int (16 : Int32))] [(.ref g)]))
    refine own_by (fun _ kont => XS.aloadN X295.here hx rfl (hb hby d4_39) rfl rfl kont) ?_
    show own_Go p e below _ (T295.setTop (mkF m 40 #[.val (.ref g), .val (.int lv), .val (.int rv), .val (.int (Int32.ofNat kc)), .val (.int (16 : Int32))] [(.ref g), (.ref g)]))
    have F296 : Fld Z h295 g "com/example/lambdalane/lambdalane/NodeGraph" "right" "[I" (.ref rt) := ((Gright280.keep K286 nin0).other W295 (Or.inr (slot_ne (t := (.array .int)) (t' := (.array .int)) (Or.inl (hw _ (List.mem_of_getElem? (i := 22) rfl))) (Or.inl (hw _ (List.mem_of_getElem? (i := 20) rfl))) (by decide) (by decide) (by decide))))
    obtain ⟨T297, X297, e297, st297⟩ := getF X295 hx hZ hown (host := "") (Or.inl (hw _ (List.mem_of_getElem? (i := 21) rfl))) Via.refl e295 F296 (g := (mkF m 40 #[.val (.ref g), .val (.int lv), .val (.int rv), .val (.int (Int32.ofNat kc)), .val (.int (16 : Int32))] [(.ref g), (.ref g)])) rfl rfl (hb hby d4_40)
    refine own_by st297 ?_
    show own_Go p e below _ (T297.setTop (mkF m 43 #[.val (.ref g), .val (.int lv), .val (.int rv), .val (.int (Int32.ofNat kc)), .val (.int (16 : Int32))] [(.ref rt), (.ref g)]))
    refine own_by (fun _ kont => XS.iload X297.here hx rfl (hb hby d4_43) rfl kont) ?_
    show own_Go p e below _ (T297.setTop (mkF m 45 #[.val (.ref g), .val (.int lv), .val (.int rv), .val (.int (Int32.ofNat kc)), .val (.int (16 : Int32))] [(.int (16 : Int32)), (.ref rt), (.ref g)]))
    have F298 : own_IA Z h295 rt sz fr := (own_IA_other (own_IA_keep HR280 K286 nin0) W295 (Ne.symm ngrt280))
    obtain ⟨_, _, ⟨T299, L299, k299, n299⟩, -, X299, ⟨Lc299, hQ299, l299, y299, z299⟩, st299⟩ := Jvm.LawKit.callS X297 hx (y := (⟨"java/util/Arrays", "copyOf", "([II)[I"⟩ : MethodName)) hown (mvT hZ (hw _ (List.mem_of_getElem? (i := 46) rfl))) (mvT hZ (hw _ (List.mem_of_getElem? (i := 47) rfl))) (mvT hZ (hw _ (List.mem_of_getElem? (i := 33) rfl))) (mvT hZ (hw _ (List.mem_of_getElem? (i := 48) rfl))) (by decide) (backOf (W := 1) (rmC l Z a0 hw [] rt sz fr h295 n0 (by omega) F298 Z295) hZ (hw _ (List.mem_of_getElem? (i := 48) rfl)) (hw _ (List.mem_of_getElem? (i := 33) rfl)) (by decide) (by decide)) (g := (mkF m 45 #[.val (.ref g), .val (.int lv), .val (.int rv), .val (.int (Int32.ofNat kc)), .val (.int (16 : Int32))] [(.int (16 : Int32)), (.ref rt), (.ref g)])) rfl (by rw [hml]; rfl) (argsL := [(.ref rt), (.int (16 : Int32))]) (rest := [(.ref g)]) (lenOf own_pd7 rfl) rfl (by show 2 * 0 + _ ≤ _; exact Nat.le_of_eq rfl) (hb hby d4_45) (fun _ _ => ⟨rfl, e297, (by decide : 1 + 1 ≤ _), (by decide : 16 + 16 ≤ _)⟩)
    dsimp only [Pt.U, Pt.locs, Pt.cells, Pt.slots] at X299 l299 y299 z299 st299 hQ299
    subst l299 y299 z299
    refine own_by st299 ?_
    obtain ⟨b299, rfl, N299, K299, lb299, ge299, H299⟩ := hQ299
    obtain ⟨L299, X299, M299⟩ := own_hide X299 (Fr.app M295 N299)
    obtain ⟨h299, e299⟩ : ∃ h, T299.heap = h := ⟨_, rfl⟩
    rw [e299] at K299 H299
    have F300 : Exa Z h295 g "com/example/lambdalane/lambdalane/NodeGraph" := (F294.wr W295)
    have ne301 : g ≠ b299 := Nat.ne_of_lt (Nat.lt_of_lt_of_le F300.lt lb299)
    have F302 : own_IA Z h295 lf sz fl := (own_IA_other (own_IA_keep HL280 K286 nin0) W295 (Ne.symm nglf280))
    have ne303 : lf ≠ b299 := Nat.ne_of_lt (Nat.lt_of_lt_of_le (own_IA_lt F302) lb299)
    have ne304 : rt ≠ b299 := Nat.ne_of_lt (Nat.lt_of_lt_of_le (own_IA_lt F298) lb299)
    have F305 : own_IA Z h295 co sz fc := (own_IA_other (own_IA_keep HC280 K286 nin0) W295 (Ne.symm ngco280))
    have ne306 : co ≠ b299 := Nat.ne_of_lt (Nat.lt_of_lt_of_le (own_IA_lt F305) lb299)
    have F307 : own_IA Z h295 ie (0 + 1) I := (own_IA_other (own_IA_keep HI280 K286 nin0) W295 (Ne.symm ngie280))
    have ne308 : ie ≠ b299 := Nat.ne_of_lt (Nat.lt_of_lt_of_le (own_IA_lt F307) lb299)
    have F309 : own_IA Z h295 oe (0 + 1) O := (own_IA_other (own_IA_keep HO280 K286 nin0) W295 (Ne.symm ngoe280))
    have ne310 : oe ≠ b299 := Nat.ne_of_lt (Nat.lt_of_lt_of_le (own_IA_lt F309) lb299)
    have F311 : own_IA Z h295 b286 16 (fun i => if i < sz then fl i else 0) := (own_IA_other H286 W295 (Ne.symm ne287))
    have ne312 : b286 ≠ b299 := Nat.ne_of_lt (Nat.lt_of_lt_of_le (own_IA_lt F311) lb299)
    have Z299 : n0 ≤ h299.size := Nat.le_trans Z295 K299.1
    show own_Go p e below _ (T299.setTop (mkF m 48 #[.val (.ref g), .val (.int lv), .val (.int rv), .val (.int (Int32.ofNat kc)), .val (.int (16 : Int32))] [(.ref b299), (.ref g)]))
    have F313 : Fld Z h299 g "com/example/lambdalane/lambdalane/NodeGraph" "right" "[I" (.ref rt) := (F296.keep K299 nin0)
    have F314 : Exa Z h299 g "com/example/lambdalane/lambdalane/NodeGraph" := (F300.keep K299)
    obtain ⟨T315, h315, X315, e315, W315, st315⟩ := putF X299 hx hZ hown (host := "") (Or.inl (hw _ (List.mem_of_getElem? (i := 21) rfl))) Via.refl e299 F313 F314 (Or.inl (hw _ (List.mem_of_getElem? (i := 22) rfl))) (hw _ (List.mem_of_getElem? (i := 2) rfl)) (ty := (.array .int)) (by decide) rfl rfl (g := (mkF m 48 #[.val (.ref g), .val (.int lv), .val (.int rv), .val (.int (Int32.ofNat kc)), .val (.int (16 : Int32))] [(.ref b299), (.ref g)])) rfl rfl (hb hby d4_48)
    obtain ⟨L315, X315, M315⟩ := own_hide X315 (Fr.snoc X315 M299 gg280)
    have Z315 : n0 ≤ h315.size := (by rw [Wr.size W315]; exact Z299)
    have F315 : Fld Z h315 g "com/example/lambdalane/lambdalane/NodeGraph" "right" "[I" (.ref b299) := (F313.same W315)
    refine own_by st315 ?_
    show own_Go p e below _ (T315.setTop (mkF m 51 #[.val (.ref g), .val (.int lv), .val (.int rv), .val (.int (Int32.ofNat kc)), .val (.int (16 : Int32))] []))
    refine own_by (fun _ kont => XS.aloadN X315.here hx rfl (hb hby d4_51) rfl rfl kont) ?_
    show own_Go p e below _ (T315.setTop (mkF m 52 #[.val (.ref g), .val (.int lv), .val (.int rv), .val (.int (Int32.ofNat kc)), .val (.int (16 : Int32))] [(.ref g)]))
    refine own_by (fun _ kont => XS.aloadN X315.here hx rfl (hb hby d4_52) rfl rfl kont) ?_
    show own_Go p e below _ (T315.setTop (mkF m 53 #[.val (.ref g), .val (.int lv), .val (.int rv), .val (.int (Int32.ofNat kc)), .val (.int (16 : Int32))] [(.ref g), (.ref g)]))
    have F316 : Fld Z h315 g "com/example/lambdalane/lambdalane/NodeGraph" "colour" "[I" (.ref co) := ((((Gcolour280.keep K286 nin0).other W295 (Or.inr (slot_ne (t := (.array .int)) (t' := (.array .int)) (Or.inl (hw _ (List.mem_of_getElem? (i := 24) rfl))) (Or.inl (hw _ (List.mem_of_getElem? (i := 20) rfl))) (by decide) (by decide) (by decide)))).keep K299 nin0).other W315 (Or.inr (slot_ne (t := (.array .int)) (t' := (.array .int)) (Or.inl (hw _ (List.mem_of_getElem? (i := 24) rfl))) (Or.inl (hw _ (List.mem_of_getElem? (i := 22) rfl))) (by decide) (by decide) (by decide))))
    obtain ⟨T317, X317, e317, st317⟩ := getF X315 hx hZ hown (host := "") (Or.inl (hw _ (List.mem_of_getElem? (i := 23) rfl))) Via.refl e315 F316 (g := (mkF m 53 #[.val (.ref g), .val (.int lv), .val (.int rv), .val (.int (Int32.ofNat kc)), .val (.int (16 : Int32))] [(.ref g), (.ref g)])) rfl rfl (hb hby d4_53)
    refine own_by st317 ?_
    show own_Go p e below _ (T317.setTop (mkF m 56 #[.val (.ref g), .val (.int lv), .val (.int rv), .val (.int (Int32.ofNat kc)), .val (.int (16 : Int32))] [(.ref co), (.ref g)]))
    refine own_by (fun _ kont => XS.iload X317.here hx rfl (hb hby d4_56) rfl kont) ?_
    show own_Go p e below _ (T317.setTop (mkF m 58 #[.val (.ref g), .val (.int lv), .val (.int rv), .val (.int (Int32.ofNat kc)), .val (.int (16 : Int32))] [(.int (16 : Int32)), (.ref co), (.ref g)]))
    have F318 : own_IA Z h315 co sz fc := (own_IA_other (own_IA_keep F305 K299 nin0) W315 (Ne.symm ngco280))
    obtain ⟨_, _, ⟨T319, L319, k319, n319⟩, -, X319, ⟨Lc319, hQ319, l319, y319, z319⟩, st319⟩ := Jvm.LawKit.callS X317 hx (y := (⟨"java/util/Arrays", "copyOf", "([II)[I"⟩ : MethodName)) hown (mvT hZ (hw _ (List.mem_of_getElem? (i := 46) rfl))) (mvT hZ (hw _ (List.mem_of_getElem? (i := 47) rfl))) (mvT hZ (hw _ (List.mem_of_getElem? (i := 33) rfl))) (mvT hZ (hw _ (List.mem_of_getElem? (i := 48) rfl))) (by decide) (backOf (W := 1) (rmC l Z a0 hw [] co sz fc h315 n0 (by omega) F318 Z315) hZ (hw _ (List.mem_of_getElem? (i := 48) rfl)) (hw _ (List.mem_of_getElem? (i := 33) rfl)) (by decide) (by decide)) (g := (mkF m 58 #[.val (.ref g), .val (.int lv), .val (.int rv), .val (.int (Int32.ofNat kc)), .val (.int (16 : Int32))] [(.int (16 : Int32)), (.ref co), (.ref g)])) rfl (by rw [hml]; rfl) (argsL := [(.ref co), (.int (16 : Int32))]) (rest := [(.ref g)]) (lenOf own_pd7 rfl) rfl (by show 2 * 0 + _ ≤ _; exact Nat.le_of_eq rfl) (hb hby d4_58) (fun _ _ => ⟨rfl, e317, (by decide : 2 + 1 ≤ _), (by decide : 32 + 16 ≤ _)⟩)
    dsimp only [Pt.U, Pt.locs, Pt.cells, Pt.slots] at X319 l319 y319 z319 st319 hQ319
    subst l319 y319 z319
    refine own_by st319 ?_
    obtain ⟨b319, rfl, N319, K319, lb319, ge319, H319⟩ := hQ319
    obtain ⟨L319, X319, M319⟩ := own_hide X319 (Fr.app M315 N319)
    obtain ⟨h319, e319⟩ : ∃ h, T319.heap = h := ⟨_, rfl⟩
    rw [e319] at K319 H319
    have F320 : Exa Z h315 g "com/example/lambdalane/lambdalane/NodeGraph" := (F314.wr W315)
    have ne321 : g ≠ b319 := Nat.ne_of_lt (Nat.lt_of_lt_of_le F320.lt lb319)
    have F322 : own_IA Z h315 lf sz fl := (own_IA_other (own_IA_keep F302 K299 nin0) W315 (Ne.symm nglf280))
    have ne323 : lf ≠ b319 := Nat.ne_of_lt (Nat.lt_of_lt_of_le (own_IA_lt F322) lb319)
    have F324 : own_IA Z h315 rt sz fr := (own_IA_other (own_IA_keep F298 K299 nin0) W315 (Ne.symm ngrt280))
    have ne325 : rt ≠ b319 := Nat.ne_of_lt (Nat.lt_of_lt_of_le (own_IA_lt F324) lb319)
    have ne326 : co ≠ b319 := Nat.ne_of_lt (Nat.lt_of_lt_of_le (own_IA_lt F318) lb319)
    have F327 : own_IA Z h315 ie (0 + 1) I := (own_IA_other (own_IA_keep F307 K299 nin0) W315 (Ne.symm ngie280))
    have ne328 : ie ≠ b319 := Nat.ne_of_lt (Nat.lt_of_lt_of_le (own_IA_lt F327) lb319)
    have F329 : own_IA Z h315 oe (0 + 1) O := (own_IA_other (own_IA_keep F309 K299 nin0) W315 (Ne.symm ngoe280))
    have ne330 : oe ≠ b319 := Nat.ne_of_lt (Nat.lt_of_lt_of_le (own_IA_lt F329) lb319)
    have F331 : own_IA Z h315 b286 16 (fun i => if i < sz then fl i else 0) := (own_IA_other (own_IA_keep F311 K299 nin0) W315 (Ne.symm ne287))
    have ne332 : b286 ≠ b319 := Nat.ne_of_lt (Nat.lt_of_lt_of_le (own_IA_lt F331) lb319)
    have F333 : own_IA Z h315 b299 16 (fun i => if i < sz then fr i else 0) := (own_IA_other H299 W315 (Ne.symm ne301))
    have ne334 : b299 ≠ b319 := Nat.ne_of_lt (Nat.lt_of_lt_of_le (own_IA_lt F333) lb319)
    have Z319 : n0 ≤ h319.size := Nat.le_trans Z315 K319.1
    show own_Go p e below _ (T319.setTop (mkF m 61 #[.val (.ref g), .val (.int lv), .val (.int rv), .val (.int (Int32.ofNat kc)), .val (.int (16 : Int32))] [(.ref b319), (.ref g)]))
    have F335 : Fld Z h319 g "com/example/lambdalane/lambdalane/NodeGraph" "colour" "[I" (.ref co) := (F316.keep K319 nin0)
    have F336 : Exa Z h319 g "com/example/lambdalane/lambdalane/NodeGraph" := (F320.keep K319)
    obtain ⟨T337, h337, X337, e337, W337, st337⟩ := putF X319 hx hZ hown (host := "") (Or.inl (hw _ (List.mem_of_getElem? (i := 23) rfl))) Via.refl e319 F335 F336 (Or.inl (hw _ (List.mem_of_getElem? (i := 24) rfl))) (hw _ (List.mem_of_getElem? (i := 2) rfl)) (ty := (.array .int)) (by decide) rfl rfl (g := (mkF m 61 #[.val (.ref g), .val (.int lv), .val (.int rv), .val (.int (Int32.ofNat kc)), .val (.int (16 : Int32))] [(.ref b319), (.ref g)])) rfl rfl (hb hby d4_61)
    obtain ⟨L337, X337, M337⟩ := own_hide X337 (Fr.snoc X337 M319 gg280)
    have Z337 : n0 ≤ h337.size := (by rw [Wr.size W337]; exact Z319)
    have F337 : Fld Z h337 g "com/example/lambdalane/lambdalane/NodeGraph" "colour" "[I" (.ref b319) := (F335.same W337)
    refine own_by st337 ?_
    show own_Go p e below _ (T337.setTop (mkF m 64 #[.val (.ref g), .val (.int lv), .val (.int rv), .val (.int (Int32.ofNat kc)), .val (.int (16 : Int32))] []))
    have F338 : Exa Z h337 g "com/example/lambdalane/lambdalane/NodeGraph" := (F336.wr W337)
    have F339 : Fld Z h337 g "com/example/lambdalane/lambdalane/NodeGraph" "side" "I" (.int sd) := ((((((Gside280.keep K286 nin0).other W295 (Or.inr (slot_ne (t := .int) (t' := (.array .int)) (Or.inr (hw _ (List.mem_of_getElem? (i := 13) rfl))) (Or.inl (hw _ (List.mem_of_getElem? (i := 20) rfl))) (by decide) (by decide) (by decide)))).keep K299 nin0).other W315 (Or.inr (slot_ne (t := .int) (t' := (.array .int)) (Or.inr (hw _ (List.mem_of_getElem? (i := 13) rfl))) (Or.inl (hw _ (List.mem_of_getElem? (i := 22) rfl))) (by decide) (by decide) (by decide)))).keep K319 nin0).other W337 (Or.inr (slot_ne (t := .int) (t' := (.array .int)) (Or.inr (hw _ (List.mem_of_getElem? (i := 13) rfl))) (Or.inl (hw _ (List.mem_of_getElem? (i := 24) rfl))) (by decide) (by decide) (by decide))))
    have F340 : Fld Z h337 g "com/example/lambdalane/lambdalane/NodeGraph" "left" "[I" (.ref b286) := ((((F295.keep K299 nin0).other W315 (Or.inr (slot_ne (t := (.array .int)) (t' := (.array .int)) (Or.inl (hw _ (List.mem_of_getElem? (i := 20) rfl))) (Or.inl (hw _ (List.mem_of_getElem? (i := 22) rfl))) (by decide) (by decide) (by decide)))).keep K319 nin0).other W337 (Or.inr (slot_ne (t := (.array .int)) (t' := (.array .int)) (Or.inl (hw _ (List.mem_of_getElem? (i := 20) rfl))) (Or.inl (hw _ (List.mem_of_getElem? (i := 24) rfl))) (by decide) (by decide) (by decide))))
    have F341 : Fld Z h337 g "com/example/lambdalane/lambdalane/NodeGraph" "right" "[I" (.ref b299) := ((F315.keep K319 nin0).other W337 (Or.inr (slot_ne (t := (.array .int)) (t' := (.array .int)) (Or.inl (hw _ (List.mem_of_getElem? (i := 22) rfl))) (Or.inl (hw _ (List.mem_of_getElem? (i := 24) rfl))) (by decide) (by decide) (by decide))))
    have F342 : Fld Z h337 g "com/example/lambdalane/lambdalane/NodeGraph" "inEdgeOf" "[I" (.ref ie) := ((((((GinEdgeOf280.keep K286 nin0).other W295 (Or.inr (slot_ne (t := (.array .int)) (t' := (.array .int)) (Or.inr (hw _ (List.mem_of_getElem? (i := 26) rfl))) (Or.inl (hw _ (List.mem_of_getElem? (i := 20) rfl))) (by decide) (by decide) (by decide)))).keep K299 nin0).other W315 (Or.inr (slot_ne (t := (.array .int)) (t' := (.array .int)) (Or.inr (hw _ (List.mem_of_getElem? (i := 26) rfl))) (Or.inl (hw _ (List.mem_of_getElem? (i := 22) rfl))) (by decide) (by decide) (by decide)))).keep K319 nin0).other W337 (Or.inr (slot_ne (t := (.array .int)) (t' := (.array .int)) (Or.inr (hw _ (List.mem_of_getElem? (i := 26) rfl))) (Or.inl (hw _ (List.mem_of_getElem? (i := 24) rfl))) (by decide) (by decide) (by decide))))
    have F343 : Fld Z h337 g "com/example/lambdalane/lambdalane/NodeGraph" "outEdgeOf" "[I" (.ref oe) := ((((((GoutEdgeOf280.keep K286 nin0).other W295 (Or.inr (slot_ne (t := (.array .int)) (t' := (.array .int)) (Or.inr (hw _ (List.mem_of_getElem? (i := 28) rfl))) (Or.inl (hw _ (List.mem_of_getElem? (i := 20) rfl))) (by decide) (by decide) (by decide)))).keep K299 nin0).other W315 (Or.inr (slot_ne (t := (.array .int)) (t' := (.array .int)) (Or.inr (hw _ (List.mem_of_getElem? (i := 28) rfl))) (Or.inl (hw _ (List.mem_of_getElem? (i := 22) rfl))) (by decide) (by decide) (by decide)))).keep K319 nin0).other W337 (Or.inr (slot_ne (t := (.array .int)) (t' := (.array .int)) (Or.inr (hw _ (List.mem_of_getElem? (i := 28) rfl))) (Or.inl (hw _ (List.mem_of_getElem? (i := 24) rfl))) (by decide) (by decide) (by decide))))
    have F344 : Fld Z h337 g "com/example/lambdalane/lambdalane/NodeGraph" "size" "I" (.int (Int32.ofNat sz)) := ((((((Gsize280.keep K286 nin0).other W295 (Or.inr (slot_ne (t := .int) (t' := (.array .int)) (Or.inl (hw _ (List.mem_of_getElem? (i := 41) rfl))) (Or.inl (hw _ (List.mem_of_getElem? (i := 20) rfl))) (by decide) (by decide) (by decide)))).keep K299 nin0).other W315 (Or.inr (slot_ne (t := .int) (t' := (.array .int)) (Or.inl (hw _ (List.mem_of_getElem? (i := 41) rfl))) (Or.inl (hw _ (List.mem_of_getElem? (i := 22) rfl))) (by decide) (by decide) (by decide)))).keep K319 nin0).other W337 (Or.inr (slot_ne (t := .int) (t' := (.array .int)) (Or.inl (hw _ (List.mem_of_getElem? (i := 41) rfl))) (Or.inl (hw _ (List.mem_of_getElem? (i := 24) rfl))) (by decide) (by decide) (by decide))))
    have F345 : own_IA Z h337 b286 16 (fun i => if i < sz then fl i else 0) := (own_IA_other (own_IA_keep F331 K319 nin0) W337 (Ne.symm ne287))
    have F346 : own_IA Z h337 b299 16 (fun i => if i < sz then fr i else 0) := (own_IA_other (own_IA_keep F333 K319 nin0) W337 (Ne.symm ne301))
    have F347 : own_IA Z h337 b319 16 (fun i => if i < sz then fc i else 0) := (own_IA_other H319 W337 (Ne.symm ne321))
    have F348 : own_IA Z h337 ie (0 + 1) I := (own_IA_other (own_IA_keep F327 K319 nin0) W337 (Ne.symm ngie280))
    have F349 : own_IA Z h337 oe (0 + 1) O := (own_IA_other (own_IA_keep F329 K319 nin0) W337 (Ne.symm ngoe280))
    exact own_a64 X337 (by decide) (by decide) hx hby hlk hret hZ hown hw hml M337 e337 g sd lv rv kc sz 16 L R C I O I2 O2 _ (Or.inr ⟨_, rfl, rfl⟩) ⟨b286, b299, b319, ie, oe, _, _, _, ⟨F338, F339, F340, F341, F337, F342, F343, F344⟩, ⟨F345, F346, F347, F348, F349⟩, fun i hi => ⟨(if_pos hi).trans (hag i hi).1, (if_pos hi).trans (hag i hi).2.1, (if_pos hi).trans (hag i hi).2.2⟩, ⟨ne287, ne301, ne321, ngie280, ngoe280, ne312, ne332, (Ne.symm ne291), (Ne.symm ne292), ne334, (Ne.symm ne308), (Ne.symm ne310), (Ne.symm ne328), (Ne.symm ne330), nieoe280⟩, ⟨gg280, ge286, ge299, ge319, gie280, goe280, Z337⟩⟩ (by omega) (by omega) hcol
  · refine own_by (fun _ kont => XS.icmpYes X282.here hx rfl (pc0 := 9) (pc' := 64) rfl (hb hby d4_9) rfl (XT.ii_ne_t (fun z => hq ((own_inj (by omega) (by omega)).mp z))) (by decide) (by decide) kont) ?_
    show own_Go p e below _ (T282.setTop (mkF m 64 #[.val (.ref g), .val (.int lv), .val (.int rv), .val (.int (Int32.ofNat kc)), .unset] []))
    exact own_a64 X282 (by decide) (by decide) hx hby hlk hret hZ hown hw hml N0 e282 g sd lv rv kc sz cap L R C I O I2 O2 _ (Or.inl rfl) G0 (by omega) hcap hcol
def own_Q_rmO (Z : State) (sd vv : Int32) (k : Nat) (L R : Nat → Int32) (h0 : Heap) (n0 : Nat) : Option Value → Heap → List Loc → Prop := (fun v h L1 => v = some (.int (if vv = L k then sd + R k else L k)) ∧ Fr n0 L1 ∧ h = h0)
theorem own_ef_rmO (m : MethodId) (g : Addr) (k : Int32) (vv : Int32) : entryFrame m #[(.ref g), (.int k), (.int vv)] 3 = (mkF m 0 #[.val (.ref g), .val (.int k), .val (.int vv)] []) := by first | (simp [entryFrame, mkF, argsToLocals, Value.category, maxLocals]; done) | rfl
set_option maxRecDepth 65536 in
set_option maxHeartbeats 40000000 in
theorem rmO (l : Launch) (Z : State) (a0 : Array Value) (hw : ∀ d ∈ tables_1, d.before a0 Z = true) (ws : List Jvm.Cond) (g : Addr) (sd vv : Int32) (k sz cap : Nat) (L R C I O : Nat → Int32) (h0 : Heap) (n0 : Nat) (G : own_G Z h0 n0 g sd 0 sz cap L R C I O) (hk : k < sz) (hsz : sz ≤ cap) (hcap : cap ≤ 16) :
    MetFree l (⟨"com/example/lambdalane/lambdalane/NodeGraph", "otherEnd", "(II)I"⟩ : MethodName) (head1 (Jvm.Cond.code (⟨"com/example/lambdalane/lambdalane/NodeGraph", "otherEnd", "(II)I"⟩ : MethodName) prog_42_method_8_code 3 (some .int) :: ws) ({ frames := 0, cells := 0, slots := 0, locals := 0 } : Room)) (fun aR UR => aR = #[(.ref g), (.int (Int32.ofNat k)), (.int vv)] ∧ Z.Warmed39 UR.vm ∧ UR.heap = h0) (fun _ _ _ _ _ => True) (fun _ UR oR UR' => ∃ vR LR, oR = .returned vR ∧ own_Q_rmO Z sd vv k L R h0 n0 vR UR'.heap LR ∧ FrameEnd UR oR UR' LR ({ frames := 0, cells := 0, slots := 0, locals := 0 } : Room).cells ({ frames := 0, cells := 0, slots := 0, locals := 0 } : Room).slots) := by
  refine MetFree.of_bodySF (plainFor_of_name own_pn0) hisR ?_
  intro p e s m args below meth c s₁ Bd hml0 hP hK
  obtain ⟨rfl, hZ, hh⟩ := hP
  have hx := Bd.exec
  have hby := Bd.bytes
  have hlk := Bd.notSynchronized
  have hret := Bd.returns
  have hml : c.maxLocals = 3 := hml0
  have hown : s.vm.findClass "com/example/lambdalane/lambdalane/NodeGraph" = some m.cls := findClass_of_methodNamed Bd.named
  have hnm := (name_of_methodNamed Bd.named Bd.method).1
  have X0 : Stand p l e ({ frames := 0, cells := 0, slots := 0, locals := 0 } : Room) s m #[(.ref g), (.int (Int32.ofNat k)), (.int vv)] below meth c s₁ [] 0 0 := Stand.of_body Bd
  have e0 : s₁.heap = h0 := by rw [← hh, Bd.state]; rfl
  have N0 := Fr.nil n0
  show own_Go p e below (own_K s (own_Q_rmO Z sd vv k L R h0 n0) ({ frames := 0, cells := 0, slots := 0, locals := 0 } : Room).cells ({ frames := 0, cells := 0, slots := 0, locals := 0 } : Room).slots) _
  refine own_by (fun tt kont => castTop (own_ef_rmO m g (Int32.ofNat k) vv) kont) ?_
  show own_Go p e below _ (s₁.setTop (mkF m 0 #[.val (.ref g), .val (.int (Int32.ofNat k)), .val (.int vv)] []))
  obtain ⟨lf, rt, co, ie, oe, fl, fr, fc, ⟨GE350, Gside350, Gleft350, Gright350, Gcolour350, GinEdgeOf350, GoutEdgeOf350, Gsize350⟩, ⟨HL350, HR350, HC350, HI350, HO350⟩, hag, ⟨nglf350, ngrt350, ngco350, ngie350, ngoe350, nlfrt350, nlfco350, nlfie350, nlfoe350, nrtco350, nrtie350, nrtoe350, ncoie350, ncooe350, nieoe350⟩, ⟨gg350, glf350, grt350, gco350, gie350, goe350, ZG350⟩⟩ := G
  have hik := own_i (k := k) (by omega)
  obtain ⟨ag1, ag2, -⟩ := hag k hk
  refine own_by (fun _ kont => XS.iloadN X0.here hx rfl (hb hby d8_0) rfl kont) ?_
  show own_Go p e below _ (s₁.setTop (mkF m 1 #[.val (.ref g), .val (.int (Int32.ofNat k)), .val (.int vv)] [(.int vv)]))
  refine own_by (fun _ kont => XS.aloadN X0.here hx rfl (hb hby d8_1) rfl rfl kont) ?_
  show own_Go p e below _ (s₁.setTop (mkF m 2 #[.val (.ref g), .val (.int (Int32.ofNat k)), .val (.int vv)] [(.ref g), (.int vv)]))
  obtain ⟨T351, X351, e351, st351⟩ := getF X0 hx hZ hown (host := "") (Or.inl (hw _ (List.mem_of_getElem? (i := 19) rfl))) Via.refl e0 Gleft350 (g := (mkF m 2 #[.val (.ref g), .val (.int (Int32.ofNat k)), .val (.int vv)] [(.ref g), (.int vv)])) rfl rfl (hb hby d8_2)
  refine own_by st351 ?_
  show own_Go p e below _ (T351.setTop (mkF m 5 #[.val (.ref g), .val (.int (Int32.ofNat k)), .val (.int vv)] [(.ref lf), (.int vv)]))
  refine own_by (fun _ kont => XS.iloadN X351.here hx rfl (hb hby d8_5) rfl kont) ?_
  show own_Go p e below _ (T351.setTop (mkF m 6 #[.val (.ref g), .val (.int (Int32.ofNat k)), .val (.int vv)] [(.int (Int32.ofNat k)), (.ref lf), (.int vv)]))
  refine own_by (fun _ kont => own_ldN X351 hx hZ e351 HL350 (j := (Int32.ofNat k)) k hik (by omega) rfl rfl (hb hby d8_6) kont) ?_
  show own_Go p e below _ (T351.setTop (mkF m 7 #[.val (.ref g), .val (.int (Int32.ofNat k)), .val (.int vv)] [(.int (fl k)), (.int vv)]))
  rw [ag1]
  show own_Go p e below _ (T351.setTop (mkF m 7 #[.val (.ref g), .val (.int (Int32.ofNat k)), .val (.int vv)] [(.int (L k)), (.int vv)]))
  by_cases hq : vv = L k
  · unfold own_Q_rmO; rw [if_pos hq]
    refine own_by (fun _ kont => XS.icmpNo X351.here hx rfl (hb hby d8_7) rfl (XT.ii_ne_f hq) kont) ?_
    show own_Go p e below _ (T351.setTop (mkF m 10 #[.val (.ref g), .val (.int (Int32.ofNat k)), .val (.int vv)] []))
    refine own_by (fun _ kont => XS.aloadN X351.here hx rfl (hb hby d8_10) rfl rfl kont) ?_
    show own_Go p e below _ (T351.setTop (mkF m 11 #[.val (.ref g), .val (.int (Int32.ofNat k)), .val (.int vv)] [(.ref g)]))
    obtain ⟨T352, X352, e352, st352⟩ := getF X351 hx hZ hown (host := "") (Or.inl (hw _ (List.mem_of_getElem? (i := 12) rfl))) Via.refl e351 Gside350 (g := (mkF m 11 #[.val (.ref g), .val (.int (Int32.ofNat k)), .val (.int vv)] [(.ref g)])) rfl rfl (hb hby d8_11)
    refine own_by st352 ?_
    show own_Go p e below _ (T352.setTop (mkF m 14 #[.val (.ref g), .val (.int (Int32.ofNat k)), .val (.int vv)] [(.int sd)]))
    refine own_by (fun _ kont => XS.aloadN X352.here hx rfl (hb hby d8_14) rfl rfl kont) ?_
    show own_Go p e below _ (T352.setTop (mkF m 15 #[.val (.ref g), .val (.int (Int32.ofNat k)), .val (.int vv)] [(.ref g), (.int sd)]))
    obtain ⟨T353, X353, e353, st353⟩ := getF X352 hx hZ hown (host := "") (Or.inl (hw _ (List.mem_of_getElem? (i := 21) rfl))) Via.refl e352 Gright350 (g := (mkF m 15 #[.val (.ref g), .val (.int (Int32.ofNat k)), .val (.int vv)] [(.ref g), (.int sd)])) rfl rfl (hb hby d8_15)
    refine own_by st353 ?_
    show own_Go p e below _ (T353.setTop (mkF m 18 #[.val (.ref g), .val (.int (Int32.ofNat k)), .val (.int vv)] [(.ref rt), (.int sd)]))
    refine own_by (fun _ kont => XS.iloadN X353.here hx rfl (hb hby d8_18) rfl kont) ?_
    show own_Go p e below _ (T353.setTop (mkF m 19 #[.val (.ref g), .val (.int (Int32.ofNat k)), .val (.int vv)] [(.int (Int32.ofNat k)), (.ref rt), (.int sd)]))
    refine own_by (fun _ kont => own_ldN X353 hx hZ e353 HR350 (j := (Int32.ofNat k)) k hik (by omega) rfl rfl (hb hby d8_19) kont) ?_
    show own_Go p e below _ (T353.setTop (mkF m 20 #[.val (.ref g), .val (.int (Int32.ofNat k)), .val (.int vv)] [(.int (fr k)), (.int sd)]))
    rw [ag2]
    show own_Go p e below _ (T353.setTop (mkF m 20 #[.val (.ref g), .val (.int (Int32.ofNat k)), .val (.int vv)] [(.int (R k)), (.int sd)]))
    refine own_by (fun _ kont => XS.iadd X353.here hx rfl (hb hby d8_20) rfl kont) ?_
    show own_Go p e below _ (T353.setTop (mkF m 21 #[.val (.ref g), .val (.int (Int32.ofNat k)), .val (.int vv)] [(.int (sd + (R k)))]))
    refine own_by (fun _ kont => XS.goto X353.here hx rfl (pc0 := 21) (pc' := 30) rfl (hb hby d8_21) (by decide) (by decide) kont) ?_
    show own_Go p e below _ (T353.setTop (mkF m 30 #[.val (.ref g), .val (.int (Int32.ofNat k)), .val (.int vv)] [(.int (sd + (R k)))]))
    exact own_ret X353 hx hlk hret rfl (Or.inl ⟨rfl, by simp, _, rfl⟩) (hb hby d8_30) ⟨rfl, N0, e353⟩ (by decide) (by decide)
  · unfold own_Q_rmO; rw [if_neg hq]
    refine own_by (fun _ kont => XS.icmpYes X351.here hx rfl (pc0 := 7) (pc' := 24) rfl (hb hby d8_7) rfl (XT.ii_ne_t hq) (by decide) (by decide) kont) ?_
    show own_Go p e below _ (T351.setTop (mkF m 24 #[.val (.ref g), .val (.int (Int32.ofNat k)), .val (.int vv)] []))
    refine own_by (fun _ kont => XS.aloadN X351.here hx rfl (hb hby d8_24) rfl rfl kont) ?_
    show own_Go p e below _ (T351.setTop (mkF m 25 #[.val (.ref g), .val (.int (Int32.ofNat k)), .val (.int vv)] [(.ref g)]))
    obtain ⟨T354, X354, e354, st354⟩ := getF X351 hx hZ hown (host := "") (Or.inl (hw _ (List.mem_of_getElem? (i := 19) rfl))) Via.refl e351 Gleft350 (g := (mkF m 25 #[.val (.ref g), .val (.int (Int32.ofNat k)), .val (.int vv)] [(.ref g)])) rfl rfl (hb hby d8_25)
    refine own_by st354 ?_
    show own_Go p e below _ (T354.setTop (mkF m 28 #[.val (.ref g), .val (.int (Int32.ofNat k)), .val (.int vv)] [(.ref lf)]))
    refine own_by (fun _ kont => XS.iloadN X354.here hx rfl (hb hby d8_28) rfl kont) ?_
    show own_Go p e below _ (T354.setTop (mkF m 29 #[.val (.ref g), .val (.int (Int32.ofNat k)), .val (.int vv)] [(.int (Int32.ofNat k)), (.ref lf)]))
    refine own_by (fun _ kont => own_ldN X354 hx hZ e354 HL350 (j := (Int32.ofNat k)) k hik (by omega) rfl rfl (hb hby d8_29) kont) ?_
    show own_Go p e below _ (T354.setTop (mkF m 30 #[.val (.ref g), .val (.int (Int32.ofNat k)), .val (.int vv)] [(.int (fl k))]))
    rw [ag1]
    show own_Go p e below _ (T354.setTop (mkF m 30 #[.val (.ref g), .val (.int (Int32.ofNat k)), .val (.int vv)] [(.int (L k))]))
    exact own_ret X354 hx hlk hret rfl (Or.inl ⟨rfl, by simp, _, rfl⟩) (hb hby d8_30) ⟨rfl, N0, e354⟩ (by decide) (by decide)
theorem own_sl (a : Int32) : 1 ≤ ((1 : Int32) + (a &&& (7 : Int32))).toInt ∧ ((1 : Int32) + (a &&& (7 : Int32))).toInt ≤ 8 := by
  have h := own_and (x := a) 7 (by decide) (m := 7) rfl
  have h1 : (1 : Int32).toInt = 1 := by decide
  rw [XT.add32 (by rw [h1]; constructor <;> omega), h1]; omega
theorem own_sd {a : Int32} (h : 1 ≤ a.toInt ∧ a.toInt ≤ 8) : 2 ≤ ((2 : Int32) * a).toInt ∧ ((2 : Int32) * a).toInt ≤ 16 := by
  have h2 : (2 : Int32).toInt = 2 := by decide
  rw [XT.mul32 (by rw [h2]; constructor <;> omega), h2]; omega
theorem own_nz {a : Int32} (h : 2 ≤ a.toInt) : a ≠ 0 := fun z => by
  rw [z] at h
  have : (0 : Int32).toInt = 0 := by decide
  omega
theorem own_far {sd r l : Int32} (h1 : 2 ≤ sd.toInt ∧ sd.toInt ≤ 16) (h2 : 0 ≤ r.toInt ∧ r.toInt < sd.toInt) (h3 : 0 ≤ l.toInt ∧ l.toInt < sd.toInt) : ¬ sd + r = l := fun z => by
  have := congrArg Int32.toInt z
  rw [XT.add32 (by constructor <;> omega)] at this
  omega
def own_Q_rmL (Z : State) (n0 : Nat) : Option Value → Heap → List Loc → Prop := (fun v h L => v = some (.int 1) ∧ Fr n0 L)
theorem own_pn9 : plainName "com/example/lambdalane/lambdalane/NodeGraphOtherEndPinLaw" = true := by first | (simp [plainName, overriddenIn]; done) | decide +kernel
theorem own_ef_rmL (m : MethodId) (i0 : Int32) (i1 : Int32) (i2 : Int32) (i3 : Int32) (i4 : Int32) (i5 : Int32) : entryFrame m #[(.int i0), (.int i1), (.int i2), (.int i3), (.int i4), (.int i5)] maxLocals = (mkF m 0 #[.val (.int i0), .val (.int i1), .val (.int i2), .val (.int i3), .val (.int i4), .val (.int i5), .unset, .unset, .unset, .unset, .unset, .unset, .unset, .unset, .unset, .unset, .unset, .unset, .unset, .unset, .unset, .unset, .unset, .unset] []) := by first | (simp [entryFrame, mkF, argsToLocals, Value.category, maxLocals]; done) | rfl
set_option maxRecDepth 65536 in
set_option maxHeartbeats 40000000 in
theorem rmL (l : Launch) (Z : State) (a0 : Array Value) (hw : ∀ d ∈ tables_1, d.before a0 Z = true) (ws : List Jvm.Cond) (i0 : Int32) (i1 : Int32) (i2 : Int32) (i3 : Int32) (i4 : Int32) (i5 : Int32) (h0 : Heap) (n0 : Nat) (Z0 : n0 ≤ h0.size) :
    MetFree l x (head1 (Jvm.Cond.code x code maxLocals ret :: ws) room_1) (fun aR UR => aR = #[(.int i0), (.int i1), (.int i2), (.int i3), (.int i4), (.int i5)] ∧ Z.Warmed39 UR.vm ∧ UR.heap = h0) (fun _ _ _ _ _ => True) (fun _ UR oR UR' => ∃ vR LR, oR = .returned vR ∧ own_Q_rmL Z  n0 vR UR'.heap LR ∧ FrameEnd UR oR UR' LR room_1.cells room_1.slots) := by
  refine MetFree.of_bodySF (plainFor_of_name own_pn9) hisR ?_
  intro p e s m args below meth c s₁ Bd hml0 hP hK
  obtain ⟨rfl, hZ, hh⟩ := hP
  have hx := Bd.exec
  have hby := Bd.bytes
  have hlk := Bd.notSynchronized
  have hret := Bd.returns
  have hml : c.maxLocals = 24 := hml0
  have hown : s.vm.findClass "com/example/lambdalane/lambdalane/NodeGraphOtherEndPinLaw" = some m.cls := findClass_of_methodNamed Bd.named
  have hnm := (name_of_methodNamed Bd.named Bd.method).1
  have X0 : Stand p l e room_1 s m #[(.int i0), (.int i1), (.int i2), (.int i3), (.int i4), (.int i5)] below meth c s₁ [] 0 0 := Stand.of_body Bd
  have e0 : s₁.heap = h0 := by rw [← hh, Bd.state]; rfl
  have N0 := Fr.nil n0
  show own_Go p e below (own_K s (own_Q_rmL Z  n0) room_1.cells room_1.slots) _
  refine own_by (fun tt kont => castTop (own_ef_rmL m i0 i1 i2 i3 i4 i5) kont) ?_
  show own_Go p e below _ (s₁.setTop (mkF m 0 #[.val (.int i0), .val (.int i1), .val (.int i2), .val (.int i3), .val (.int i4), .val (.int i5), .unset, .unset, .unset, .unset, .unset, .unset, .unset, .unset, .unset, .unset, .unset, .unset, .unset, .unset, .unset, .unset, .unset, .unset] []))
  refine own_by (fun _ kont => XT.iconstV X0.here hx rfl (1 : Int32) (hb hby at_0) rfl kont) ?_
  show own_Go p e below _ (s₁.setTop (mkF m 1 #[.val (.int i0), .val (.int i1), .val (.int i2), .val (.int i3), .val (.int i4), .val (.int i5), .unset, .unset, .unset, .unset, .unset, .unset, .unset, .unset, .unset, .unset, .unset, .unset, .unset, .unset, .unset, .unset, .unset, .unset] [(.int (1 : Int32))]))
  refine own_by (fun _ kont => XS.iloadN X0.here hx rfl (hb hby at_1) rfl kont) ?_
  show own_Go p e below _ (s₁.setTop (mkF m 2 #[.val (.int i0), .val (.int i1), .val (.int i2), .val (.int i3), .val (.int i4), .val (.int i5), .unset, .unset, .unset, .unset, .unset, .unset, .unset, .unset, .unset, .unset, .unset, .unset, .unset, .unset, .unset, .unset, .unset, .unset] [(.int i0), (.int (1 : Int32))]))
  refine own_by (fun _ kont => XT.bipushV X0.here hx rfl (7 : Int32) (hb hby at_2) rfl kont) ?_
  show own_Go p e below _ (s₁.setTop (mkF m 4 #[.val (.int i0), .val (.int i1), .val (.int i2), .val (.int i3), .val (.int i4), .val (.int i5), .unset, .unset, .unset, .unset, .unset, .unset, .unset, .unset, .unset, .unset, .unset, .unset, .unset, .unset, .unset, .unset, .unset, .unset] [(.int (7 : Int32)), (.int i0), (.int (1 : Int32))]))
  refine own_by (fun _ kont => XS.iand X0.here hx rfl (hb hby at_4) rfl kont) ?_
  show own_Go p e below _ (s₁.setTop (mkF m 5 #[.val (.int i0), .val (.int i1), .val (.int i2), .val (.int i3), .val (.int i4), .val (.int i5), .unset, .unset, .unset, .unset, .unset, .unset, .unset, .unset, .unset, .unset, .unset, .unset, .unset, .unset, .unset, .unset, .unset, .unset] [(.int (i0 &&& (7 : Int32))), (.int (1 : Int32))]))
  refine own_by (fun _ kont => XS.iadd X0.here hx rfl (hb hby at_5) rfl kont) ?_
  show own_Go p e below _ (s₁.setTop (mkF m 6 #[.val (.int i0), .val (.int i1), .val (.int i2), .val (.int i3), .val (.int i4), .val (.int i5), .unset, .unset, .unset, .unset, .unset, .unset, .unset, .unset, .unset, .unset, .unset, .unset, .unset, .unset, .unset, .unset, .unset, .unset] [(.int ((1 : Int32) + (i0 &&& (7 : Int32))))]))
  have bsl := own_sl i0
  generalize ((1 : Int32) + (i0 &&& (7 : Int32))) = sl at bsl ⊢
  show own_Go p e below _ (s₁.setTop (mkF m 6 #[.val (.int i0), .val (.int i1), .val (.int i2), .val (.int i3), .val (.int i4), .val (.int i5), .unset, .unset, .unset, .unset, .unset, .unset, .unset, .unset, .unset, .unset, .unset, .unset, .unset, .unset, .unset, .unset, .unset, .unset] [(.int sl)]))
  refine own_by (fun _ kont => XS.istore X0.here hx rfl (hb hby at_6) rfl (l' := #[.val (.int i0), .val (.int i1), .val (.int i2), .val (.int i3), .val (.int i4), .val (.int i5), .val (.int sl), .unset, .unset, .unset, .unset, .unset, .unset, .unset, .unset, .unset, .unset, .unset, .unset, .unset, .unset, .unset, .unset, .unset]) rfl kont) ?_
  show own_Go p e below _ (s₁.setTop (mkF m 8 #[.val (.int i0), .val (.int i1), .val (.int i2), .val (.int i3), .val (.int i4), .val (.int i5), .val (.int sl), .unset, .unset, .unset, .unset, .unset, .unset, .unset, .unset, .unset, .unset, .unset, .unset, .unset, .unset, .unset, .unset, .unset] []))
  refine own_by (fun _ kont => XT.iconstV X0.here hx rfl (2 : Int32) (hb hby at_8) rfl kont) ?_
  show own_Go p e below _ (s₁.setTop (mkF m 9 #[.val (.int i0), .val (.int i1), .val (.int i2), .val (.int i3), .val (.int i4), .val (.int i5), .val (.int sl), .unset, .unset, .unset, .unset, .unset, .unset, .unset, .unset, .unset, .unset, .unset, .unset, .unset, .unset, .unset, .unset, .unset] [(.int (2 : Int32))]))
  refine own_by (fun _ kont => XS.iload X0.here hx rfl (hb hby at_9) rfl kont) ?_
  show own_Go p e below _ (s₁.setTop (mkF m 11 #[.val (.int i0), .val (.int i1), .val (.int i2), .val (.int i3), .val (.int i4), .val (.int i5), .val (.int sl), .unset, .unset, .unset, .unset, .unset, .unset, .unset, .unset, .unset, .unset, .unset, .unset, .unset, .unset, .unset, .unset, .unset] [(.int sl), (.int (2 : Int32))]))
  refine own_by (fun _ kont => XS.imul X0.here hx rfl (hb hby at_11) rfl kont) ?_
  show own_Go p e below _ (s₁.setTop (mkF m 12 #[.val (.int i0), .val (.int i1), .val (.int i2), .val (.int i3), .val (.int i4), .val (.int i5), .val (.int sl), .unset, .unset, .unset, .unset, .unset, .unset, .unset, .unset, .unset, .unset, .unset, .unset, .unset, .unset, .unset, .unset, .unset] [(.int ((2 : Int32) * sl))]))
  have bsd := own_sd bsl
  obtain ⟨sd, hsd⟩ : ∃ z, z = (2 : Int32) * sl := ⟨_, rfl⟩
  rw [← hsd] at bsd ⊢
  show own_Go p e below _ (s₁.setTop (mkF m 12 #[.val (.int i0), .val (.int i1), .val (.int i2), .val (.int i3), .val (.int i4), .val (.int i5), .val (.int sl), .unset, .unset, .unset, .unset, .unset, .unset, .unset, .unset, .unset, .unset, .unset, .unset, .unset, .unset, .unset, .unset, .unset] [(.int sd)]))
  refine own_by (fun _ kont => XS.istore X0.here hx rfl (hb hby at_12) rfl (l' := #[.val (.int i0), .val (.int i1), .val (.int i2), .val (.int i3), .val (.int i4), .val (.int i5), .val (.int sl), .val (.int sd), .unset, .unset, .unset, .unset, .unset, .unset, .unset, .unset, .unset, .unset, .unset, .unset, .unset, .unset, .unset, .unset]) rfl kont) ?_
  show own_Go p e below _ (s₁.setTop (mkF m 14 #[.val (.int i0), .val (.int i1), .val (.int i2), .val (.int i3), .val (.int i4), .val (.int i5), .val (.int sl), .val (.int sd), .unset, .unset, .unset, .unset, .unset, .unset, .unset, .unset, .unset, .unset, .unset, .unset, .unset, .unset, .unset, .unset] []))
  refine own_by (fun _ kont => XS.iloadN X0.here hx rfl (hb hby at_14) rfl kont) ?_
  show own_Go p e below _ (s₁.setTop (mkF m 15 #[.val (.int i0), .val (.int i1), .val (.int i2), .val (.int i3), .val (.int i4), .val (.int i5), .val (.int sl), .val (.int sd), .unset, .unset, .unset, .unset, .unset, .unset, .unset, .unset, .unset, .unset, .unset, .unset, .unset, .unset, .unset, .unset] [(.int i0)]))
  refine own_by (fun _ kont => XT.iconstV X0.here hx rfl (3 : Int32) (hb hby at_15) rfl kont) ?_
  show own_Go p e below _ (s₁.setTop (mkF m 16 #[.val (.int i0), .val (.int i1), .val (.int i2), .val (.int i3), .val (.int i4), .val (.int i5), .val (.int sl), .val (.int sd), .unset, .unset, .unset, .unset, .unset, .unset, .unset, .unset, .unset, .unset, .unset, .unset, .unset, .unset, .unset, .unset] [(.int (3 : Int32)), (.int i0)]))
  refine own_by (fun _ kont => XT.iushr X0.here hx rfl (hb hby at_16) rfl kont) ?_
  show own_Go p e below _ (s₁.setTop (mkF m 17 #[.val (.int i0), .val (.int i1), .val (.int i2), .val (.int i3), .val (.int i4), .val (.int i5), .val (.int sl), .val (.int sd), .unset, .unset, .unset, .unset, .unset, .unset, .unset, .unset, .unset, .unset, .unset, .unset, .unset, .unset, .unset, .unset] [(.int (XT.ushr i0 (3 : Int32)))]))
  refine own_by (fun _ kont => XT.iconstV X0.here hx rfl (3 : Int32) (hb hby at_17) rfl kont) ?_
  show own_Go p e below _ (s₁.setTop (mkF m 18 #[.val (.int i0), .val (.int i1), .val (.int i2), .val (.int i3), .val (.int i4), .val (.int i5), .val (.int sl), .val (.int sd), .unset, .unset, .unset, .unset, .unset, .unset, .unset, .unset, .unset, .unset, .unset, .unset, .unset, .unset, .unset, .unset] [(.int (3 : Int32)), (.int (XT.ushr i0 (3 : Int32)))]))
  refine own_by (fun _ kont => XS.iand X0.here hx rfl (hb hby at_18) rfl kont) ?_
  show own_Go p e below _ (s₁.setTop (mkF m 19 #[.val (.int i0), .val (.int i1), .val (.int i2), .val (.int i3), .val (.int i4), .val (.int i5), .val (.int sl), .val (.int sd), .unset, .unset, .unset, .unset, .unset, .unset, .unset, .unset, .unset, .unset, .unset, .unset, .unset, .unset, .unset, .unset] [(.int ((XT.ushr i0 (3 : Int32)) &&& (3 : Int32)))]))
  have bcp := own_and (x := XT.ushr i0 (3 : Int32)) 3 (by decide) (m := 3) rfl
  generalize ((XT.ushr i0 (3 : Int32)) &&& (3 : Int32)) = cp at bcp ⊢
  obtain ⟨cap, hcp⟩ : ∃ k : Nat, cp.toInt = k := ⟨cp.toInt.toNat, by omega⟩
  show own_Go p e below _ (s₁.setTop (mkF m 19 #[.val (.int i0), .val (.int i1), .val (.int i2), .val (.int i3), .val (.int i4), .val (.int i5), .val (.int sl), .val (.int sd), .unset, .unset, .unset, .unset, .unset, .unset, .unset, .unset, .unset, .unset, .unset, .unset, .unset, .unset, .unset, .unset] [(.int cp)]))
  refine own_by (fun _ kont => XS.istore X0.here hx rfl (hb hby at_19) rfl (l' := #[.val (.int i0), .val (.int i1), .val (.int i2), .val (.int i3), .val (.int i4), .val (.int i5), .val (.int sl), .val (.int sd), .val (.int cp), .unset, .unset, .unset, .unset, .unset, .unset, .unset, .unset, .unset, .unset, .unset, .unset, .unset, .unset, .unset]) rfl kont) ?_
  show own_Go p e below _ (s₁.setTop (mkF m 21 #[.val (.int i0), .val (.int i1), .val (.int i2), .val (.int i3), .val (.int i4), .val (.int i5), .val (.int sl), .val (.int sd), .val (.int cp), .unset, .unset, .unset, .unset, .unset, .unset, .unset, .unset, .unset, .unset, .unset, .unset, .unset, .unset, .unset] []))
  refine own_by (fun _ kont => XS.iloadN X0.here hx rfl (hb hby at_21) rfl kont) ?_
  show own_Go p e below _ (s₁.setTop (mkF m 22 #[.val (.int i0), .val (.int i1), .val (.int i2), .val (.int i3), .val (.int i4), .val (.int i5), .val (.int sl), .val (.int sd), .val (.int cp), .unset, .unset, .unset, .unset, .unset, .unset, .unset, .unset, .unset, .unset, .unset, .unset, .unset, .unset, .unset] [(.int i1)]))
  refine own_by (fun _ kont => X0.ldcI hx hown (v := (2147483647 : Int32)) (mvT hZ (hw _ (List.mem_of_getElem? (i := 0) rfl))) rfl (hb hby at_22) kont) ?_
  show own_Go p e below _ (s₁.setTop (mkF m 24 #[.val (.int i0), .val (.int i1), .val (.int i2), .val (.int i3), .val (.int i4), .val (.int i5), .val (.int sl), .val (.int sd), .val (.int cp), .unset, .unset, .unset, .unset, .unset, .unset, .unset, .unset, .unset, .unset, .unset, .unset, .unset, .unset, .unset] [(.int (2147483647 : Int32)), (.int i1)]))
  refine own_by (fun _ kont => XS.iand X0.here hx rfl (hb hby at_24) rfl kont) ?_
  show own_Go p e below _ (s₁.setTop (mkF m 25 #[.val (.int i0), .val (.int i1), .val (.int i2), .val (.int i3), .val (.int i4), .val (.int i5), .val (.int sl), .val (.int sd), .val (.int cp), .unset, .unset, .unset, .unset, .unset, .unset, .unset, .unset, .unset, .unset, .unset, .unset, .unset, .unset, .unset] [(.int (i1 &&& (2147483647 : Int32)))]))
  refine own_by (fun _ kont => XS.iload X0.here hx rfl (hb hby at_25) rfl kont) ?_
  show own_Go p e below _ (s₁.setTop (mkF m 27 #[.val (.int i0), .val (.int i1), .val (.int i2), .val (.int i3), .val (.int i4), .val (.int i5), .val (.int sl), .val (.int sd), .val (.int cp), .unset, .unset, .unset, .unset, .unset, .unset, .unset, .unset, .unset, .unset, .unset, .unset, .unset, .unset, .unset] [(.int sd), (.int (i1 &&& (2147483647 : Int32)))]))
  refine own_by (fun _ kont => XS.irem X0.here hx rfl (hb hby at_27) rfl (own_nz bsd.1) kont) ?_
  show own_Go p e below _ (s₁.setTop (mkF m 28 #[.val (.int i0), .val (.int i1), .val (.int i2), .val (.int i3), .val (.int i4), .val (.int i5), .val (.int sl), .val (.int sd), .val (.int cp), .unset, .unset, .unset, .unset, .unset, .unset, .unset, .unset, .unset, .unset, .unset, .unset, .unset, .unset, .unset] [(.int ((i1 &&& (2147483647 : Int32)) - ((i1 &&& (2147483647 : Int32)) / sd) * sd))]))
  have bl0 := own_rem (x := (i1 &&& (2147483647 : Int32))) (m := sd) (own_and 2147483647 (by decide) rfl).1 (by omega)
  generalize ((i1 &&& (2147483647 : Int32)) - ((i1 &&& (2147483647 : Int32)) / sd) * sd) = l0 at bl0 ⊢
  show own_Go p e below _ (s₁.setTop (mkF m 28 #[.val (.int i0), .val (.int i1), .val (.int i2), .val (.int i3), .val (.int i4), .val (.int i5), .val (.int sl), .val (.int sd), .val (.int cp), .unset, .unset, .unset, .unset, .unset, .unset, .unset, .unset, .unset, .unset, .unset, .unset, .unset, .unset, .unset] [(.int l0)]))
  refine own_by (fun _ kont => XS.istore X0.here hx rfl (hb hby at_28) rfl (l' := #[.val (.int i0), .val (.int i1), .val (.int i2), .val (.int i3), .val (.int i4), .val (.int i5), .val (.int sl), .val (.int sd), .val (.int cp), .val (.int l0), .unset, .unset, .unset, .unset, .unset, .unset, .unset, .unset, .unset, .unset, .unset, .unset, .unset, .unset]) rfl kont) ?_
  show own_Go p e below _ (s₁.setTop (mkF m 30 #[.val (.int i0), .val (.int i1), .val (.int i2), .val (.int i3), .val (.int i4), .val (.int i5), .val (.int sl), .val (.int sd), .val (.int cp), .val (.int l0), .unset, .unset, .unset, .unset, .unset, .unset, .unset, .unset, .unset, .unset, .unset, .unset, .unset, .unset] []))
  refine own_by (fun _ kont => XS.iloadN X0.here hx rfl (hb hby at_30) rfl kont) ?_
  show own_Go p e below _ (s₁.setTop (mkF m 31 #[.val (.int i0), .val (.int i1), .val (.int i2), .val (.int i3), .val (.int i4), .val (.int i5), .val (.int sl), .val (.int sd), .val (.int cp), .val (.int l0), .unset, .unset, .unset, .unset, .unset, .unset, .unset, .unset, .unset, .unset, .unset, .unset, .unset, .unset] [(.int i2)]))
  refine own_by (fun _ kont => X0.ldcI hx hown (v := (2147483647 : Int32)) (mvT hZ (hw _ (List.mem_of_getElem? (i := 0) rfl))) rfl (hb hby at_31) kont) ?_
  show own_Go p e below _ (s₁.setTop (mkF m 33 #[.val (.int i0), .val (.int i1), .val (.int i2), .val (.int i3), .val (.int i4), .val (.int i5), .val (.int sl), .val (.int sd), .val (.int cp), .val (.int l0), .unset, .unset, .unset, .unset, .unset, .unset, .unset, .unset, .unset, .unset, .unset, .unset, .unset, .unset] [(.int (2147483647 : Int32)), (.int i2)]))
  refine own_by (fun _ kont => XS.iand X0.here hx rfl (hb hby at_33) rfl kont) ?_
  show own_Go p e below _ (s₁.setTop (mkF m 34 #[.val (.int i0), .val (.int i1), .val (.int i2), .val (.int i3), .val (.int i4), .val (.int i5), .val (.int sl), .val (.int sd), .val (.int cp), .val (.int l0), .unset, .unset, .unset, .unset, .unset, .unset, .unset, .unset, .unset, .unset, .unset, .unset, .unset, .unset] [(.int (i2 &&& (2147483647 : Int32)))]))
  refine own_by (fun _ kont => XS.iload X0.here hx rfl (hb hby at_34) rfl kont) ?_
  show own_Go p e below _ (s₁.setTop (mkF m 36 #[.val (.int i0), .val (.int i1), .val (.int i2), .val (.int i3), .val (.int i4), .val (.int i5), .val (.int sl), .val (.int sd), .val (.int cp), .val (.int l0), .unset, .unset, .unset, .unset, .unset, .unset, .unset, .unset, .unset, .unset, .unset, .unset, .unset, .unset] [(.int sd), (.int (i2 &&& (2147483647 : Int32)))]))
  refine own_by (fun _ kont => XS.irem X0.here hx rfl (hb hby at_36) rfl (own_nz bsd.1) kont) ?_
  show own_Go p e below _ (s₁.setTop (mkF m 37 #[.val (.int i0), .val (.int i1), .val (.int i2), .val (.int i3), .val (.int i4), .val (.int i5), .val (.int sl), .val (.int sd), .val (.int cp), .val (.int l0), .unset, .unset, .unset, .unset, .unset, .unset, .unset, .unset, .unset, .unset, .unset, .unset, .unset, .unset] [(.int ((i2 &&& (2147483647 : Int32)) - ((i2 &&& (2147483647 : Int32)) / sd) * sd))]))
  have br0 := own_rem (x := (i2 &&& (2147483647 : Int32))) (m := sd) (own_and 2147483647 (by decide) rfl).1 (by omega)
  generalize ((i2 &&& (2147483647 : Int32)) - ((i2 &&& (2147483647 : Int32)) / sd) * sd) = r0 at br0 ⊢
  show own_Go p e below _ (s₁.setTop (mkF m 37 #[.val (.int i0), .val (.int i1), .val (.int i2), .val (.int i3), .val (.int i4), .val (.int i5), .val (.int sl), .val (.int sd), .val (.int cp), .val (.int l0), .unset, .unset, .unset, .unset, .unset, .unset, .unset, .unset, .unset, .unset, .unset, .unset, .unset, .unset] [(.int r0)]))
  refine own_by (fun _ kont => XS.istore X0.here hx rfl (hb hby at_37) rfl (l' := #[.val (.int i0), .val (.int i1), .val (.int i2), .val (.int i3), .val (.int i4), .val (.int i5), .val (.int sl), .val (.int sd), .val (.int cp), .val (.int l0), .val (.int r0), .unset, .unset, .unset, .unset, .unset, .unset, .unset, .unset, .unset, .unset, .unset, .unset, .unset]) rfl kont) ?_
  show own_Go p e below _ (s₁.setTop (mkF m 39 #[.val (.int i0), .val (.int i1), .val (.int i2), .val (.int i3), .val (.int i4), .val (.int i5), .val (.int sl), .val (.int sd), .val (.int cp), .val (.int l0), .val (.int r0), .unset, .unset, .unset, .unset, .unset, .unset, .unset, .unset, .unset, .unset, .unset, .unset, .unset] []))
  refine own_by (fun _ kont => XS.iloadN X0.here hx rfl (hb hby at_39) rfl kont) ?_
  show own_Go p e below _ (s₁.setTop (mkF m 40 #[.val (.int i0), .val (.int i1), .val (.int i2), .val (.int i3), .val (.int i4), .val (.int i5), .val (.int sl), .val (.int sd), .val (.int cp), .val (.int l0), .val (.int r0), .unset, .unset, .unset, .unset, .unset, .unset, .unset, .unset, .unset, .unset, .unset, .unset, .unset] [(.int i3)]))
  refine own_by (fun _ kont => X0.ldcI hx hown (v := (2147483647 : Int32)) (mvT hZ (hw _ (List.mem_of_getElem? (i := 0) rfl))) rfl (hb hby at_40) kont) ?_
  show own_Go p e below _ (s₁.setTop (mkF m 42 #[.val (.int i0), .val (.int i1), .val (.int i2), .val (.int i3), .val (.int i4), .val (.int i5), .val (.int sl), .val (.int sd), .val (.int cp), .val (.int l0), .val (.int r0), .unset, .unset, .unset, .unset, .unset, .unset, .unset, .unset, .unset, .unset, .unset, .unset, .unset] [(.int (2147483647 : Int32)), (.int i3)]))
  refine own_by (fun _ kont => XS.iand X0.here hx rfl (hb hby at_42) rfl kont) ?_
  show own_Go p e below _ (s₁.setTop (mkF m 43 #[.val (.int i0), .val (.int i1), .val (.int i2), .val (.int i3), .val (.int i4), .val (.int i5), .val (.int sl), .val (.int sd), .val (.int cp), .val (.int l0), .val (.int r0), .unset, .unset, .unset, .unset, .unset, .unset, .unset, .unset, .unset, .unset, .unset, .unset, .unset] [(.int (i3 &&& (2147483647 : Int32)))]))
  refine own_by (fun _ kont => XS.iload X0.here hx rfl (hb hby at_43) rfl kont) ?_
  show own_Go p e below _ (s₁.setTop (mkF m 45 #[.val (.int i0), .val (.int i1), .val (.int i2), .val (.int i3), .val (.int i4), .val (.int i5), .val (.int sl), .val (.int sd), .val (.int cp), .val (.int l0), .val (.int r0), .unset, .unset, .unset, .unset, .unset, .unset, .unset, .unset, .unset, .unset, .unset, .unset, .unset] [(.int sd), (.int (i3 &&& (2147483647 : Int32)))]))
  refine own_by (fun _ kont => XS.irem X0.here hx rfl (hb hby at_45) rfl (own_nz bsd.1) kont) ?_
  show own_Go p e below _ (s₁.setTop (mkF m 46 #[.val (.int i0), .val (.int i1), .val (.int i2), .val (.int i3), .val (.int i4), .val (.int i5), .val (.int sl), .val (.int sd), .val (.int cp), .val (.int l0), .val (.int r0), .unset, .unset, .unset, .unset, .unset, .unset, .unset, .unset, .unset, .unset, .unset, .unset, .unset] [(.int ((i3 &&& (2147483647 : Int32)) - ((i3 &&& (2147483647 : Int32)) / sd) * sd))]))
  have bl1 := own_rem (x := (i3 &&& (2147483647 : Int32))) (m := sd) (own_and 2147483647 (by decide) rfl).1 (by omega)
  generalize ((i3 &&& (2147483647 : Int32)) - ((i3 &&& (2147483647 : Int32)) / sd) * sd) = l1 at bl1 ⊢
  show own_Go p e below _ (s₁.setTop (mkF m 46 #[.val (.int i0), .val (.int i1), .val (.int i2), .val (.int i3), .val (.int i4), .val (.int i5), .val (.int sl), .val (.int sd), .val (.int cp), .val (.int l0), .val (.int r0), .unset, .unset, .unset, .unset, .unset, .unset, .unset, .unset, .unset, .unset, .unset, .unset, .unset] [(.int l1)]))
  refine own_by (fun _ kont => XS.istore X0.here hx rfl (hb hby at_46) rfl (l' := #[.val (.int i0), .val (.int i1), .val (.int i2), .val (.int i3), .val (.int i4), .val (.int i5), .val (.int sl), .val (.int sd), .val (.int cp), .val (.int l0), .val (.int r0), .val (.int l1), .unset, .unset, .unset, .unset, .unset, .unset, .unset, .unset, .unset, .unset, .unset, .unset]) rfl kont) ?_
  show own_Go p e below _ (s₁.setTop (mkF m 48 #[.val (.int i0), .val (.int i1), .val (.int i2), .val (.int i3), .val (.int i4), .val (.int i5), .val (.int sl), .val (.int sd), .val (.int cp), .val (.int l0), .val (.int r0), .val (.int l1), .unset, .unset, .unset, .unset, .unset, .unset, .unset, .unset, .unset, .unset, .unset, .unset] []))
  refine own_by (fun _ kont => XS.iload X0.here hx rfl (hb hby at_48) rfl kont) ?_
  show own_Go p e below _ (s₁.setTop (mkF m 50 #[.val (.int i0), .val (.int i1), .val (.int i2), .val (.int i3), .val (.int i4), .val (.int i5), .val (.int sl), .val (.int sd), .val (.int cp), .val (.int l0), .val (.int r0), .val (.int l1), .unset, .unset, .unset, .unset, .unset, .unset, .unset, .unset, .unset, .unset, .unset, .unset] [(.int i4)]))
  refine own_by (fun _ kont => X0.ldcI hx hown (v := (2147483647 : Int32)) (mvT hZ (hw _ (List.mem_of_getElem? (i := 0) rfl))) rfl (hb hby at_50) kont) ?_
  show own_Go p e below _ (s₁.setTop (mkF m 52 #[.val (.int i0), .val (.int i1), .val (.int i2), .val (.int i3), .val (.int i4), .val (.int i5), .val (.int sl), .val (.int sd), .val (.int cp), .val (.int l0), .val (.int r0), .val (.int l1), .unset, .unset, .unset, .unset, .unset, .unset, .unset, .unset, .unset, .unset, .unset, .unset] [(.int (2147483647 : Int32)), (.int i4)]))
  refine own_by (fun _ kont => XS.iand X0.here hx rfl (hb hby at_52) rfl kont) ?_
  show own_Go p e below _ (s₁.setTop (mkF m 53 #[.val (.int i0), .val (.int i1), .val (.int i2), .val (.int i3), .val (.int i4), .val (.int i5), .val (.int sl), .val (.int sd), .val (.int cp), .val (.int l0), .val (.int r0), .val (.int l1), .unset, .unset, .unset, .unset, .unset, .unset, .unset, .unset, .unset, .unset, .unset, .unset] [(.int (i4 &&& (2147483647 : Int32)))]))
  refine own_by (fun _ kont => XS.iload X0.here hx rfl (hb hby at_53) rfl kont) ?_
  show own_Go p e below _ (s₁.setTop (mkF m 55 #[.val (.int i0), .val (.int i1), .val (.int i2), .val (.int i3), .val (.int i4), .val (.int i5), .val (.int sl), .val (.int sd), .val (.int cp), .val (.int l0), .val (.int r0), .val (.int l1), .unset, .unset, .unset, .unset, .unset, .unset, .unset, .unset, .unset, .unset, .unset, .unset] [(.int sd), (.int (i4 &&& (2147483647 : Int32)))]))
  refine own_by (fun _ kont => XS.irem X0.here hx rfl (hb hby at_55) rfl (own_nz bsd.1) kont) ?_
  show own_Go p e below _ (s₁.setTop (mkF m 56 #[.val (.int i0), .val (.int i1), .val (.int i2), .val (.int i3), .val (.int i4), .val (.int i5), .val (.int sl), .val (.int sd), .val (.int cp), .val (.int l0), .val (.int r0), .val (.int l1), .unset, .unset, .unset, .unset, .unset, .unset, .unset, .unset, .unset, .unset, .unset, .unset] [(.int ((i4 &&& (2147483647 : Int32)) - ((i4 &&& (2147483647 : Int32)) / sd) * sd))]))
  have br1 := own_rem (x := (i4 &&& (2147483647 : Int32))) (m := sd) (own_and 2147483647 (by decide) rfl).1 (by omega)
  generalize ((i4 &&& (2147483647 : Int32)) - ((i4 &&& (2147483647 : Int32)) / sd) * sd) = r1 at br1 ⊢
  show own_Go p e below _ (s₁.setTop (mkF m 56 #[.val (.int i0), .val (.int i1), .val (.int i2), .val (.int i3), .val (.int i4), .val (.int i5), .val (.int sl), .val (.int sd), .val (.int cp), .val (.int l0), .val (.int r0), .val (.int l1), .unset, .unset, .unset, .unset, .unset, .unset, .unset, .unset, .unset, .unset, .unset, .unset] [(.int r1)]))
  refine own_by (fun _ kont => XS.istore X0.here hx rfl (hb hby at_56) rfl (l' := #[.val (.int i0), .val (.int i1), .val (.int i2), .val (.int i3), .val (.int i4), .val (.int i5), .val (.int sl), .val (.int sd), .val (.int cp), .val (.int l0), .val (.int r0), .val (.int l1), .val (.int r1), .unset, .unset, .unset, .unset, .unset, .unset, .unset, .unset, .unset, .unset, .unset]) rfl kont) ?_
  show own_Go p e below _ (s₁.setTop (mkF m 58 #[.val (.int i0), .val (.int i1), .val (.int i2), .val (.int i3), .val (.int i4), .val (.int i5), .val (.int sl), .val (.int sd), .val (.int cp), .val (.int l0), .val (.int r0), .val (.int l1), .val (.int r1), .unset, .unset, .unset, .unset, .unset, .unset, .unset, .unset, .unset, .unset, .unset] []))
  refine own_by (fun _ kont => XS.iload X0.here hx rfl (hb hby at_58) rfl kont) ?_
  show own_Go p e below _ (s₁.setTop (mkF m 60 #[.val (.int i0), .val (.int i1), .val (.int i2), .val (.int i3), .val (.int i4), .val (.int i5), .val (.int sl), .val (.int sd), .val (.int cp), .val (.int l0), .val (.int r0), .val (.int l1), .val (.int r1), .unset, .unset, .unset, .unset, .unset, .unset, .unset, .unset, .unset, .unset, .unset] [(.int i5)]))
  refine own_by (fun _ kont => XT.iconstV X0.here hx rfl (1 : Int32) (hb hby at_60) rfl kont) ?_
  show own_Go p e below _ (s₁.setTop (mkF m 61 #[.val (.int i0), .val (.int i1), .val (.int i2), .val (.int i3), .val (.int i4), .val (.int i5), .val (.int sl), .val (.int sd), .val (.int cp), .val (.int l0), .val (.int r0), .val (.int l1), .val (.int r1), .unset, .unset, .unset, .unset, .unset, .unset, .unset, .unset, .unset, .unset, .unset] [(.int (1 : Int32)), (.int i5)]))
  refine own_by (fun _ kont => XS.iand X0.here hx rfl (hb hby at_61) rfl kont) ?_
  show own_Go p e below _ (s₁.setTop (mkF m 62 #[.val (.int i0), .val (.int i1), .val (.int i2), .val (.int i3), .val (.int i4), .val (.int i5), .val (.int sl), .val (.int sd), .val (.int cp), .val (.int l0), .val (.int r0), .val (.int l1), .val (.int r1), .unset, .unset, .unset, .unset, .unset, .unset, .unset, .unset, .unset, .unset, .unset] [(.int (i5 &&& (1 : Int32)))]))
  by_cases c62 : (i5 &&& (1 : Int32)) = (0 : Int32)
  · refine own_by (fun _ kont => XS.ifYes X0.here hx rfl (pc0 := 62) (pc' := 69) rfl (hb hby at_62) rfl (XT.i0_eq_t c62) (by decide) (by decide) kont) ?_
    show own_Go p e below _ (s₁.setTop (mkF m 69 #[.val (.int i0), .val (.int i1), .val (.int i2), .val (.int i3), .val (.int i4), .val (.int i5), .val (.int sl), .val (.int sd), .val (.int cp), .val (.int l0), .val (.int r0), .val (.int l1), .val (.int r1), .unset, .unset, .unset, .unset, .unset, .unset, .unset, .unset, .unset, .unset, .unset] []))
    refine own_by (fun _ kont => XT.iconstV X0.here hx rfl (0 : Int32) (hb hby at_69) rfl kont) ?_
    show own_Go p e below _ (s₁.setTop (mkF m 70 #[.val (.int i0), .val (.int i1), .val (.int i2), .val (.int i3), .val (.int i4), .val (.int i5), .val (.int sl), .val (.int sd), .val (.int cp), .val (.int l0), .val (.int r0), .val (.int l1), .val (.int r1), .unset, .unset, .unset, .unset, .unset, .unset, .unset, .unset, .unset, .unset, .unset] [(.int (0 : Int32))]))
    refine own_by (fun _ kont => XS.istore X0.here hx rfl (hb hby at_70) rfl (l' := #[.val (.int i0), .val (.int i1), .val (.int i2), .val (.int i3), .val (.int i4), .val (.int i5), .val (.int sl), .val (.int sd), .val (.int cp), .val (.int l0), .val (.int r0), .val (.int l1), .val (.int r1), .val (.int (0 : Int32)), .unset, .unset, .unset, .unset, .unset, .unset, .unset, .unset, .unset, .unset]) rfl kont) ?_
    show own_Go p e below _ (s₁.setTop (mkF m 72 #[.val (.int i0), .val (.int i1), .val (.int i2), .val (.int i3), .val (.int i4), .val (.int i5), .val (.int sl), .val (.int sd), .val (.int cp), .val (.int l0), .val (.int r0), .val (.int l1), .val (.int r1), .val (.int (0 : Int32)), .unset, .unset, .unset, .unset, .unset, .unset, .unset, .unset, .unset, .unset] []))
    refine own_by (fun _ kont => XS.iload X0.here hx rfl (hb hby at_72) rfl kont) ?_
    show own_Go p e below _ (s₁.setTop (mkF m 74 #[.val (.int i0), .val (.int i1), .val (.int i2), .val (.int i3), .val (.int i4), .val (.int i5), .val (.int sl), .val (.int sd), .val (.int cp), .val (.int l0), .val (.int r0), .val (.int l1), .val (.int r1), .val (.int (0 : Int32)), .unset, .unset, .unset, .unset, .unset, .unset, .unset, .unset, .unset, .unset] [(.int i5)]))
    refine own_by (fun _ kont => XT.iconstV X0.here hx rfl (2 : Int32) (hb hby at_74) rfl kont) ?_
    show own_Go p e below _ (s₁.setTop (mkF m 75 #[.val (.int i0), .val (.int i1), .val (.int i2), .val (.int i3), .val (.int i4), .val (.int i5), .val (.int sl), .val (.int sd), .val (.int cp), .val (.int l0), .val (.int r0), .val (.int l1), .val (.int r1), .val (.int (0 : Int32)), .unset, .unset, .unset, .unset, .unset, .unset, .unset, .unset, .unset, .unset] [(.int (2 : Int32)), (.int i5)]))
    refine own_by (fun _ kont => XS.iand X0.here hx rfl (hb hby at_75) rfl kont) ?_
    show own_Go p e below _ (s₁.setTop (mkF m 76 #[.val (.int i0), .val (.int i1), .val (.int i2), .val (.int i3), .val (.int i4), .val (.int i5), .val (.int sl), .val (.int sd), .val (.int cp), .val (.int l0), .val (.int r0), .val (.int l1), .val (.int r1), .val (.int (0 : Int32)), .unset, .unset, .unset, .unset, .unset, .unset, .unset, .unset, .unset, .unset] [(.int (i5 &&& (2 : Int32)))]))
    by_cases c76 : (i5 &&& (2 : Int32)) = (0 : Int32)
    · refine own_by (fun _ kont => XS.ifYes X0.here hx rfl (pc0 := 76) (pc' := 83) rfl (hb hby at_76) rfl (XT.i0_eq_t c76) (by decide) (by decide) kont) ?_
      show own_Go p e below _ (s₁.setTop (mkF m 83 #[.val (.int i0), .val (.int i1), .val (.int i2), .val (.int i3), .val (.int i4), .val (.int i5), .val (.int sl), .val (.int sd), .val (.int cp), .val (.int l0), .val (.int r0), .val (.int l1), .val (.int r1), .val (.int (0 : Int32)), .unset, .unset, .unset, .unset, .unset, .unset, .unset, .unset, .unset, .unset] []))
      refine own_by (fun _ kont => XT.iconstV X0.here hx rfl (0 : Int32) (hb hby at_83) rfl kont) ?_
      show own_Go p e below _ (s₁.setTop (mkF m 84 #[.val (.int i0), .val (.int i1), .val (.int i2), .val (.int i3), .val (.int i4), .val (.int i5), .val (.int sl), .val (.int sd), .val (.int cp), .val (.int l0), .val (.int r0), .val (.int l1), .val (.int r1), .val (.int (0 : Int32)), .unset, .unset, .unset, .unset, .unset, .unset, .unset, .unset, .unset, .unset] [(.int (0 : Int32))]))
      refine own_by (fun _ kont => XS.istore X0.here hx rfl (hb hby at_84) rfl (l' := #[.val (.int i0), .val (.int i1), .val (.int i2), .val (.int i3), .val (.int i4), .val (.int i5), .val (.int sl), .val (.int sd), .val (.int cp), .val (.int l0), .val (.int r0), .val (.int l1), .val (.int r1), .val (.int (0 : Int32)), .val (.int (0 : Int32)), .unset, .unset, .unset, .unset, .unset, .unset, .unset, .unset, .unset]) rfl kont) ?_
      show own_Go p e below _ (s₁.setTop (mkF m 86 #[.val (.int i0), .val (.int i1), .val (.int i2), .val (.int i3), .val (.int i4), .val (.int i5), .val (.int sl), .val (.int sd), .val (.int cp), .val (.int l0), .val (.int r0), .val (.int l1), .val (.int r1), .val (.int (0 : Int32)), .val (.int (0 : Int32)), .unset, .unset, .unset, .unset, .unset, .unset, .unset, .unset, .unset] []))
      obtain ⟨T355, h355, X355, e355, E355, A355, D355, -, st355⟩ := newO X0 hx hZ hown (hw _ (List.mem_of_getElem? (i := 1) rfl)) (hw _ (List.mem_of_getElem? (i := 2) rfl)) (hw _ (List.mem_of_getElem? (i := 3) rfl)) e0 (g := (mkF m 86 #[.val (.int i0), .val (.int i1), .val (.int i2), .val (.int i3), .val (.int i4), .val (.int i5), .val (.int sl), .val (.int sd), .val (.int cp), .val (.int l0), .val (.int r0), .val (.int l1), .val (.int r1), .val (.int (0 : Int32)), .val (.int (0 : Int32)), .unset, .unset, .unset, .unset, .unset, .unset, .unset, .unset, .unset] [])) rfl (hb hby at_86) (by decide) (by decide)
      obtain ⟨a355, g355⟩ : ∃ z, z = h0.size := ⟨_, rfl⟩
      rw [← g355] at A355 D355 st355
      have ge355 : n0 ≤ a355 := by rw [g355]; exact Z0
      have Z355 : n0 ≤ h355.size := Nat.le_trans Z0 E355.1
      have F356 : Fld Z h355 a355 "com/example/lambdalane/lambdalane/NodeGraph" "nextFresh" "I" (.int (0 : Int32)) := D355 (Or.inl (hw _ (List.mem_of_getElem? (i := 11) rfl))) (ty := .int) (by decide)
      have F357 : Fld Z h355 a355 "com/example/lambdalane/lambdalane/NodeGraph" "side" "I" (.int (0 : Int32)) := D355 (Or.inr (hw _ (List.mem_of_getElem? (i := 13) rfl))) (ty := .int) (by decide)
      have F358 : Fld Z h355 a355 "com/example/lambdalane/lambdalane/NodeGraph" "load" "I" (.int (0 : Int32)) := D355 (Or.inr (hw _ (List.mem_of_getElem? (i := 15) rfl))) (ty := .int) (by decide)
      have F359 : Fld Z h355 a355 "com/example/lambdalane/lambdalane/NodeGraph" "colourLimit" "I" (.int (0 : Int32)) := D355 (Or.inr (hw _ (List.mem_of_getElem? (i := 17) rfl))) (ty := .int) (by decide)
      have F360 : Fld Z h355 a355 "com/example/lambdalane/lambdalane/NodeGraph" "left" "[I" .null := D355 (Or.inl (hw _ (List.mem_of_getElem? (i := 20) rfl))) (ty := (.array .int)) (by decide)
      have F361 : Fld Z h355 a355 "com/example/lambdalane/lambdalane/NodeGraph" "right" "[I" .null := D355 (Or.inl (hw _ (List.mem_of_getElem? (i := 22) rfl))) (ty := (.array .int)) (by decide)
      have F362 : Fld Z h355 a355 "com/example/lambdalane/lambdalane/NodeGraph" "colour" "[I" .null := D355 (Or.inl (hw _ (List.mem_of_getElem? (i := 24) rfl))) (ty := (.array .int)) (by decide)
      have F363 : Fld Z h355 a355 "com/example/lambdalane/lambdalane/NodeGraph" "inEdgeOf" "[I" .null := D355 (Or.inr (hw _ (List.mem_of_getElem? (i := 26) rfl))) (ty := (.array .int)) (by decide)
      have F364 : Fld Z h355 a355 "com/example/lambdalane/lambdalane/NodeGraph" "outEdgeOf" "[I" .null := D355 (Or.inr (hw _ (List.mem_of_getElem? (i := 28) rfl))) (ty := (.array .int)) (by decide)
      have F365 : Fld Z h355 a355 "com/example/lambdalane/lambdalane/NodeGraph" "colourMark" "[I" .null := D355 (Or.inr (hw _ (List.mem_of_getElem? (i := 30) rfl))) (ty := (.array .int)) (by decide)
      have F366 : Fld Z h355 a355 "com/example/lambdalane/lambdalane/NodeGraph" "size" "I" (.int (0 : Int32)) := D355 (Or.inl (hw _ (List.mem_of_getElem? (i := 41) rfl))) (ty := .int) (by decide)
      refine own_by st355 ?_
      show own_Go p e below _ (T355.setTop (mkF m 89 #[.val (.int i0), .val (.int i1), .val (.int i2), .val (.int i3), .val (.int i4), .val (.int i5), .val (.int sl), .val (.int sd), .val (.int cp), .val (.int l0), .val (.int r0), .val (.int l1), .val (.int r1), .val (.int (0 : Int32)), .val (.int (0 : Int32)), .unset, .unset, .unset, .unset, .unset, .unset, .unset, .unset, .unset] [(.ref a355)]))
      refine own_by (fun _ kont => XS.dup X355.here hx rfl (hb hby at_89) rfl rfl kont) ?_
      show own_Go p e below _ (T355.setTop (mkF m 90 #[.val (.int i0), .val (.int i1), .val (.int i2), .val (.int i3), .val (.int i4), .val (.int i5), .val (.int sl), .val (.int sd), .val (.int cp), .val (.int l0), .val (.int r0), .val (.int l1), .val (.int r1), .val (.int (0 : Int32)), .val (.int (0 : Int32)), .unset, .unset, .unset, .unset, .unset, .unset, .unset, .unset, .unset] [(.ref a355), (.ref a355)]))
      refine own_by (fun _ kont => XS.iload X355.here hx rfl (hb hby at_90) rfl kont) ?_
      show own_Go p e below _ (T355.setTop (mkF m 92 #[.val (.int i0), .val (.int i1), .val (.int i2), .val (.int i3), .val (.int i4), .val (.int i5), .val (.int sl), .val (.int sd), .val (.int cp), .val (.int l0), .val (.int r0), .val (.int l1), .val (.int r1), .val (.int (0 : Int32)), .val (.int (0 : Int32)), .unset, .unset, .unset, .unset, .unset, .unset, .unset, .unset, .unset] [(.int sl), (.ref a355), (.ref a355)]))
      refine own_by (fun _ kont => XT.iconstV X355.here hx rfl (0 : Int32) (hb hby at_92) rfl kont) ?_
      show own_Go p e below _ (T355.setTop (mkF m 93 #[.val (.int i0), .val (.int i1), .val (.int i2), .val (.int i3), .val (.int i4), .val (.int i5), .val (.int sl), .val (.int sd), .val (.int cp), .val (.int l0), .val (.int r0), .val (.int l1), .val (.int r1), .val (.int (0 : Int32)), .val (.int (0 : Int32)), .unset, .unset, .unset, .unset, .unset, .unset, .unset, .unset, .unset] [(.int (0 : Int32)), (.int sl), (.ref a355), (.ref a355)]))
      refine own_by (fun _ kont => XT.iconstV X355.here hx rfl (0 : Int32) (hb hby at_93) rfl kont) ?_
      show own_Go p e below _ (T355.setTop (mkF m 94 #[.val (.int i0), .val (.int i1), .val (.int i2), .val (.int i3), .val (.int i4), .val (.int i5), .val (.int sl), .val (.int sd), .val (.int cp), .val (.int l0), .val (.int r0), .val (.int l1), .val (.int r1), .val (.int (0 : Int32)), .val (.int (0 : Int32)), .unset, .unset, .unset, .unset, .unset, .unset, .unset, .unset, .unset] [(.int (0 : Int32)), (.int (0 : Int32)), (.int sl), (.ref a355), (.ref a355)]))
      refine own_by (fun _ kont => XS.iload X355.here hx rfl (hb hby at_94) rfl kont) ?_
      show own_Go p e below _ (T355.setTop (mkF m 96 #[.val (.int i0), .val (.int i1), .val (.int i2), .val (.int i3), .val (.int i4), .val (.int i5), .val (.int sl), .val (.int sd), .val (.int cp), .val (.int l0), .val (.int r0), .val (.int l1), .val (.int r1), .val (.int (0 : Int32)), .val (.int (0 : Int32)), .unset, .unset, .unset, .unset, .unset, .unset, .unset, .unset, .unset] [(.int cp), (.int (0 : Int32)), (.int (0 : Int32)), (.int sl), (.ref a355), (.ref a355)]))
      obtain ⟨_, _, ⟨T367, L367, k367, n367⟩, -, X367, ⟨Lc367, hQ367, l367, y367, z367⟩, st367⟩ := X355.specialBack hx (y := (⟨"com/example/lambdalane/lambdalane/NodeGraph", "<init>", "(IIII)V"⟩ : MethodName)) rfl hown (mvT hZ (hw _ (List.mem_of_getElem? (i := 4) rfl))) (mvT hZ (hw _ (List.mem_of_getElem? (i := 5) rfl))) (mvT hZ (hw _ (List.mem_of_getElem? (i := 6) rfl))) (by decide) (backOf (W := 1) (rmI l Z a0 hw [] a355 sl (0 : Int32) cp cap h355 n0 A355 F356 F357 F358 F359 F360 F361 F362 F363 F364 F365 F366 ge355 Z355 hcp (by omega)) hZ (hw _ (List.mem_of_getElem? (i := 6) rfl)) (hw _ (List.mem_of_getElem? (i := 3) rfl)) (by decide) (by decide)) (g := (mkF m 96 #[.val (.int i0), .val (.int i1), .val (.int i2), .val (.int i3), .val (.int i4), .val (.int i5), .val (.int sl), .val (.int sd), .val (.int cp), .val (.int l0), .val (.int r0), .val (.int l1), .val (.int r1), .val (.int (0 : Int32)), .val (.int (0 : Int32)), .unset, .unset, .unset, .unset, .unset, .unset, .unset, .unset, .unset] [(.int cp), (.int (0 : Int32)), (.int (0 : Int32)), (.int sl), (.ref a355), (.ref a355)])) rfl (by rw [hml]; rfl) (Steps.refl _) (a := a355) (argsL := [(.int sl), (.int (0 : Int32)), (.int (0 : Int32)), (.int cp)]) (rest := [(.ref a355)]) (lenOf own_pd1 rfl) rfl (by show 2 * 0 + _ ≤ _; exact Nat.le_of_eq rfl) (hb hby at_96) (fun _ _ => ⟨rfl, e355, (by decide : 1 + 6 ≤ _), (by decide : 12 + 12 ≤ _)⟩)
      dsimp only [Pt.U, Pt.locs, Pt.cells, Pt.slots] at X367 l367 y367 z367 st367 hQ367
      subst l367 y367 z367
      refine own_tr st367 ?_
      obtain ⟨rfl, N367, G367⟩ := hQ367
      obtain ⟨L367, X367, M367⟩ := own_hide X367 (Fr.app N0 N367)
      rw [← hsd] at G367
      have GE368 : Exa Z T367.heap a355 "com/example/lambdalane/lambdalane/NodeGraph" := by obtain ⟨_, _, _, _, _, _, _, _, ⟨q, -⟩, -⟩ := G367; exact q
      show own_Go p e below _ (T367.setTop (mkF m 99 #[.val (.int i0), .val (.int i1), .val (.int i2), .val (.int i3), .val (.int i4), .val (.int i5), .val (.int sl), .val (.int sd), .val (.int cp), .val (.int l0), .val (.int r0), .val (.int l1), .val (.int r1), .val (.int (0 : Int32)), .val (.int (0 : Int32)), .unset, .unset, .unset, .unset, .unset, .unset, .unset, .unset, .unset] [(.ref a355)]))
      refine own_by (fun _ kont => XS.astore X367.here hx rfl (hb hby at_99) rfl rfl (l' := #[.val (.int i0), .val (.int i1), .val (.int i2), .val (.int i3), .val (.int i4), .val (.int i5), .val (.int sl), .val (.int sd), .val (.int cp), .val (.int l0), .val (.int r0), .val (.int l1), .val (.int r1), .val (.int (0 : Int32)), .val (.int (0 : Int32)), .val (.ref a355), .unset, .unset, .unset, .unset, .unset, .unset, .unset, .unset]) rfl kont) ?_
      show own_Go p e below _ (T367.setTop (mkF m 101 #[.val (.int i0), .val (.int i1), .val (.int i2), .val (.int i3), .val (.int i4), .val (.int i5), .val (.int sl), .val (.int sd), .val (.int cp), .val (.int l0), .val (.int r0), .val (.int l1), .val (.int r1), .val (.int (0 : Int32)), .val (.int (0 : Int32)), .val (.ref a355), .unset, .unset, .unset, .unset, .unset, .unset, .unset, .unset] []))
      refine own_by (fun _ kont => XS.aload X367.here hx rfl (hb hby at_101) rfl rfl kont) ?_
      show own_Go p e below _ (T367.setTop (mkF m 103 #[.val (.int i0), .val (.int i1), .val (.int i2), .val (.int i3), .val (.int i4), .val (.int i5), .val (.int sl), .val (.int sd), .val (.int cp), .val (.int l0), .val (.int r0), .val (.int l1), .val (.int r1), .val (.int (0 : Int32)), .val (.int (0 : Int32)), .val (.ref a355), .unset, .unset, .unset, .unset, .unset, .unset, .unset, .unset] [(.ref a355)]))
      refine own_by (fun _ kont => XS.iload X367.here hx rfl (hb hby at_103) rfl kont) ?_
      show own_Go p e below _ (T367.setTop (mkF m 105 #[.val (.int i0), .val (.int i1), .val (.int i2), .val (.int i3), .val (.int i4), .val (.int i5), .val (.int sl), .val (.int sd), .val (.int cp), .val (.int l0), .val (.int r0), .val (.int l1), .val (.int r1), .val (.int (0 : Int32)), .val (.int (0 : Int32)), .val (.ref a355), .unset, .unset, .unset, .unset, .unset, .unset, .unset, .unset] [(.int l0), (.ref a355)]))
      refine own_by (fun _ kont => XS.iload X367.here hx rfl (hb hby at_105) rfl kont) ?_
      show own_Go p e below _ (T367.setTop (mkF m 107 #[.val (.int i0), .val (.int i1), .val (.int i2), .val (.int i3), .val (.int i4), .val (.int i5), .val (.int sl), .val (.int sd), .val (.int cp), .val (.int l0), .val (.int r0), .val (.int l1), .val (.int r1), .val (.int (0 : Int32)), .val (.int (0 : Int32)), .val (.ref a355), .unset, .unset, .unset, .unset, .unset, .unset, .unset, .unset] [(.int r0), (.int l0), (.ref a355)]))
      refine own_by (fun _ kont => XT.iconstV X367.here hx rfl (0 : Int32) (hb hby at_107) rfl kont) ?_
      show own_Go p e below _ (T367.setTop (mkF m 108 #[.val (.int i0), .val (.int i1), .val (.int i2), .val (.int i3), .val (.int i4), .val (.int i5), .val (.int sl), .val (.int sd), .val (.int cp), .val (.int l0), .val (.int r0), .val (.int l1), .val (.int r1), .val (.int (0 : Int32)), .val (.int (0 : Int32)), .val (.ref a355), .unset, .unset, .unset, .unset, .unset, .unset, .unset, .unset] [(.int (0 : Int32)), (.int r0), (.int l0), (.ref a355)]))
      obtain ⟨cq370, kq370, qa370, qb370, qc370⟩ := isOf hZ (rfl : T367.heap = T367.heap) GE368
      obtain ⟨_, _, ⟨T369, L369, k369, n369⟩, -, X369, ⟨Lc369, hQ369, l369, y369, z369⟩, st369⟩ := X367.virtualBack hx (y := (⟨"com/example/lambdalane/lambdalane/NodeGraph", "add", "(III)I"⟩ : MethodName)) (z := (⟨"com/example/lambdalane/lambdalane/NodeGraph", "add", "(III)I"⟩ : MethodName)) hown (mvT hZ (hw _ (List.mem_of_getElem? (i := 35) rfl))) (mvT hZ (hw _ (List.mem_of_getElem? (i := 36) rfl))) (notFace_of_selects (args := #[]) (mvT hZ (hw _ (List.mem_of_getElem? (i := 38) rfl)))) (mvT hZ (hw _ (List.mem_of_getElem? (i := 38) rfl))) (mvT hZ (hw _ (List.mem_of_getElem? (i := 37) rfl))) (by decide) (backOf (W := 0) (rmA l Z a0 hw [] a355 sd l0 r0 0 0 cap (fun _ => 0) (fun _ => 0) (fun _ => 0) (fun _ => -1) (fun _ => -1) (fun _ => -1) (fun _ => -1) T367.heap n0 G367 (by omega) (by omega) (by omega) (Or.inl ⟨rfl, rfl, rfl⟩)) hZ (hw _ (List.mem_of_getElem? (i := 39) rfl)) (hw _ (List.mem_of_getElem? (i := 3) rfl)) (by decide) (by decide)) qa370 qc370 (g := (mkF m 108 #[.val (.int i0), .val (.int i1), .val (.int i2), .val (.int i3), .val (.int i4), .val (.int i5), .val (.int sl), .val (.int sd), .val (.int cp), .val (.int l0), .val (.int r0), .val (.int l1), .val (.int r1), .val (.int (0 : Int32)), .val (.int (0 : Int32)), .val (.ref a355), .unset, .unset, .unset, .unset, .unset, .unset, .unset, .unset] [(.int (0 : Int32)), (.int r0), (.int l0), (.ref a355)])) rfl (by rw [hml]; rfl) (Steps.refl _) (argsL := [(.int l0), (.int r0), (.int (0 : Int32))]) (rest := []) (lenOf own_pd4 rfl) rfl (by show 2 * 0 + _ ≤ _; exact Nat.le_of_eq rfl) (hb hby at_108) (fun _ _ => ⟨rfl, (rfl : T367.heap = T367.heap), (by decide : 7 + 3 ≤ _), (by decide : 24 + 48 ≤ _)⟩)
      dsimp only [Pt.U, Pt.locs, Pt.cells, Pt.slots] at X369 l369 y369 z369 st369 hQ369
      subst l369 y369 z369
      refine own_tr st369 ?_
      obtain ⟨rfl, N369, cap369, u369, v369, G369⟩ := hQ369
      obtain ⟨L369, X369, M369⟩ := own_hide X369 (Fr.app M367 N369)
      obtain ⟨lq369, hlq369⟩ : ∃ f : Nat → Int32, f = (fun i => if i = 0 then l0 else (fun _ => 0) i) := ⟨_, rfl⟩
      obtain ⟨rq369, hrq369⟩ : ∃ f : Nat → Int32, f = (fun i => if i = 0 then r0 else (fun _ => 0) i) := ⟨_, rfl⟩
      rw [← hlq369, ← hrq369] at G369
      have GE371 : Exa Z T369.heap a355 "com/example/lambdalane/lambdalane/NodeGraph" := by obtain ⟨_, _, _, _, _, _, _, _, ⟨q, -⟩, -⟩ := G369; exact q
      show own_Go p e below _ (T369.setTop (mkF m 111 #[.val (.int i0), .val (.int i1), .val (.int i2), .val (.int i3), .val (.int i4), .val (.int i5), .val (.int sl), .val (.int sd), .val (.int cp), .val (.int l0), .val (.int r0), .val (.int l1), .val (.int r1), .val (.int (0 : Int32)), .val (.int (0 : Int32)), .val (.ref a355), .unset, .unset, .unset, .unset, .unset, .unset, .unset, .unset] [(.int (Int32.ofNat 0))]))
      refine own_by (fun _ kont => XS.istore X369.here hx rfl (hb hby at_111) rfl (l' := #[.val (.int i0), .val (.int i1), .val (.int i2), .val (.int i3), .val (.int i4), .val (.int i5), .val (.int sl), .val (.int sd), .val (.int cp), .val (.int l0), .val (.int r0), .val (.int l1), .val (.int r1), .val (.int (0 : Int32)), .val (.int (0 : Int32)), .val (.ref a355), .val (.int (Int32.ofNat 0)), .unset, .unset, .unset, .unset, .unset, .unset, .unset]) rfl kont) ?_
      show own_Go p e below _ (T369.setTop (mkF m 113 #[.val (.int i0), .val (.int i1), .val (.int i2), .val (.int i3), .val (.int i4), .val (.int i5), .val (.int sl), .val (.int sd), .val (.int cp), .val (.int l0), .val (.int r0), .val (.int l1), .val (.int r1), .val (.int (0 : Int32)), .val (.int (0 : Int32)), .val (.ref a355), .val (.int (Int32.ofNat 0)), .unset, .unset, .unset, .unset, .unset, .unset, .unset] []))
      refine own_by (fun _ kont => XS.aload X369.here hx rfl (hb hby at_113) rfl rfl kont) ?_
      show own_Go p e below _ (T369.setTop (mkF m 115 #[.val (.int i0), .val (.int i1), .val (.int i2), .val (.int i3), .val (.int i4), .val (.int i5), .val (.int sl), .val (.int sd), .val (.int cp), .val (.int l0), .val (.int r0), .val (.int l1), .val (.int r1), .val (.int (0 : Int32)), .val (.int (0 : Int32)), .val (.ref a355), .val (.int (Int32.ofNat 0)), .unset, .unset, .unset, .unset, .unset, .unset, .unset] [(.ref a355)]))
      refine own_by (fun _ kont => XS.iload X369.here hx rfl (hb hby at_115) rfl kont) ?_
      show own_Go p e below _ (T369.setTop (mkF m 117 #[.val (.int i0), .val (.int i1), .val (.int i2), .val (.int i3), .val (.int i4), .val (.int i5), .val (.int sl), .val (.int sd), .val (.int cp), .val (.int l0), .val (.int r0), .val (.int l1), .val (.int r1), .val (.int (0 : Int32)), .val (.int (0 : Int32)), .val (.ref a355), .val (.int (Int32.ofNat 0)), .unset, .unset, .unset, .unset, .unset, .unset, .unset] [(.int l1), (.ref a355)]))
      refine own_by (fun _ kont => XS.iload X369.here hx rfl (hb hby at_117) rfl kont) ?_
      show own_Go p e below _ (T369.setTop (mkF m 119 #[.val (.int i0), .val (.int i1), .val (.int i2), .val (.int i3), .val (.int i4), .val (.int i5), .val (.int sl), .val (.int sd), .val (.int cp), .val (.int l0), .val (.int r0), .val (.int l1), .val (.int r1), .val (.int (0 : Int32)), .val (.int (0 : Int32)), .val (.ref a355), .val (.int (Int32.ofNat 0)), .unset, .unset, .unset, .unset, .unset, .unset, .unset] [(.int r1), (.int l1), (.ref a355)]))
      refine own_by (fun _ kont => XT.iconstV X369.here hx rfl (0 : Int32) (hb hby at_119) rfl kont) ?_
      show own_Go p e below _ (T369.setTop (mkF m 120 #[.val (.int i0), .val (.int i1), .val (.int i2), .val (.int i3), .val (.int i4), .val (.int i5), .val (.int sl), .val (.int sd), .val (.int cp), .val (.int l0), .val (.int r0), .val (.int l1), .val (.int r1), .val (.int (0 : Int32)), .val (.int (0 : Int32)), .val (.ref a355), .val (.int (Int32.ofNat 0)), .unset, .unset, .unset, .unset, .unset, .unset, .unset] [(.int (0 : Int32)), (.int r1), (.int l1), (.ref a355)]))
      obtain ⟨cq373, kq373, qa373, qb373, qc373⟩ := isOf hZ (rfl : T369.heap = T369.heap) GE371
      obtain ⟨_, _, ⟨T372, L372, k372, n372⟩, -, X372, ⟨Lc372, hQ372, l372, y372, z372⟩, st372⟩ := X369.virtualBack hx (y := (⟨"com/example/lambdalane/lambdalane/NodeGraph", "add", "(III)I"⟩ : MethodName)) (z := (⟨"com/example/lambdalane/lambdalane/NodeGraph", "add", "(III)I"⟩ : MethodName)) hown (mvT hZ (hw _ (List.mem_of_getElem? (i := 35) rfl))) (mvT hZ (hw _ (List.mem_of_getElem? (i := 36) rfl))) (notFace_of_selects (args := #[]) (mvT hZ (hw _ (List.mem_of_getElem? (i := 38) rfl)))) (mvT hZ (hw _ (List.mem_of_getElem? (i := 38) rfl))) (mvT hZ (hw _ (List.mem_of_getElem? (i := 37) rfl))) (by decide) (backOf (W := 0) (rmA l Z a0 hw [] a355 sd l1 r1 0 1 cap369 lq369 rq369 _ (fun _ => -1) (fun _ => -1) (fun _ => -1) (fun _ => -1) T369.heap n0 G369 (by omega) (by omega) (by omega) (Or.inl ⟨rfl, rfl, rfl⟩)) hZ (hw _ (List.mem_of_getElem? (i := 39) rfl)) (hw _ (List.mem_of_getElem? (i := 3) rfl)) (by decide) (by decide)) qa373 qc373 (g := (mkF m 120 #[.val (.int i0), .val (.int i1), .val (.int i2), .val (.int i3), .val (.int i4), .val (.int i5), .val (.int sl), .val (.int sd), .val (.int cp), .val (.int l0), .val (.int r0), .val (.int l1), .val (.int r1), .val (.int (0 : Int32)), .val (.int (0 : Int32)), .val (.ref a355), .val (.int (Int32.ofNat 0)), .unset, .unset, .unset, .unset, .unset, .unset, .unset] [(.int (0 : Int32)), (.int r1), (.int l1), (.ref a355)])) rfl (by rw [hml]; rfl) (Steps.refl _) (argsL := [(.int l1), (.int r1), (.int (0 : Int32))]) (rest := []) (lenOf own_pd4 rfl) rfl (by show 2 * 0 + _ ≤ _; exact Nat.le_of_eq rfl) (hb hby at_120) (fun _ _ => ⟨rfl, (rfl : T369.heap = T369.heap), (by decide : 10 + 3 ≤ _), (by decide : 72 + 48 ≤ _)⟩)
      dsimp only [Pt.U, Pt.locs, Pt.cells, Pt.slots] at X372 l372 y372 z372 st372 hQ372
      subst l372 y372 z372
      refine own_tr st372 ?_
      obtain ⟨rfl, N372, cap372, u372, v372, G372⟩ := hQ372
      obtain ⟨L372, X372, M372⟩ := own_hide X372 (Fr.app M369 N372)
      obtain ⟨lq372, hlq372⟩ : ∃ f : Nat → Int32, f = (fun i => if i = 1 then l1 else lq369 i) := ⟨_, rfl⟩
      obtain ⟨rq372, hrq372⟩ : ∃ f : Nat → Int32, f = (fun i => if i = 1 then r1 else rq369 i) := ⟨_, rfl⟩
      rw [← hlq372, ← hrq372] at G372
      have GE374 : Exa Z T372.heap a355 "com/example/lambdalane/lambdalane/NodeGraph" := by obtain ⟨_, _, _, _, _, _, _, _, ⟨q, -⟩, -⟩ := G372; exact q
      show own_Go p e below _ (T372.setTop (mkF m 123 #[.val (.int i0), .val (.int i1), .val (.int i2), .val (.int i3), .val (.int i4), .val (.int i5), .val (.int sl), .val (.int sd), .val (.int cp), .val (.int l0), .val (.int r0), .val (.int l1), .val (.int r1), .val (.int (0 : Int32)), .val (.int (0 : Int32)), .val (.ref a355), .val (.int (Int32.ofNat 0)), .unset, .unset, .unset, .unset, .unset, .unset, .unset] [(.int (Int32.ofNat 1))]))
      refine own_by (fun _ kont => XS.istore X372.here hx rfl (hb hby at_123) rfl (l' := #[.val (.int i0), .val (.int i1), .val (.int i2), .val (.int i3), .val (.int i4), .val (.int i5), .val (.int sl), .val (.int sd), .val (.int cp), .val (.int l0), .val (.int r0), .val (.int l1), .val (.int r1), .val (.int (0 : Int32)), .val (.int (0 : Int32)), .val (.ref a355), .val (.int (Int32.ofNat 0)), .val (.int (Int32.ofNat 1)), .unset, .unset, .unset, .unset, .unset, .unset]) rfl kont) ?_
      show own_Go p e below _ (T372.setTop (mkF m 125 #[.val (.int i0), .val (.int i1), .val (.int i2), .val (.int i3), .val (.int i4), .val (.int i5), .val (.int sl), .val (.int sd), .val (.int cp), .val (.int l0), .val (.int r0), .val (.int l1), .val (.int r1), .val (.int (0 : Int32)), .val (.int (0 : Int32)), .val (.ref a355), .val (.int (Int32.ofNat 0)), .val (.int (Int32.ofNat 1)), .unset, .unset, .unset, .unset, .unset, .unset] []))
      refine own_by (fun _ kont => XS.iload X372.here hx rfl (hb hby at_125) rfl kont) ?_
      show own_Go p e below _ (T372.setTop (mkF m 127 #[.val (.int i0), .val (.int i1), .val (.int i2), .val (.int i3), .val (.int i4), .val (.int i5), .val (.int sl), .val (.int sd), .val (.int cp), .val (.int l0), .val (.int r0), .val (.int l1), .val (.int r1), .val (.int (0 : Int32)), .val (.int (0 : Int32)), .val (.ref a355), .val (.int (Int32.ofNat 0)), .val (.int (Int32.ofNat 1)), .unset, .unset, .unset, .unset, .unset, .unset] [(.int (0 : Int32))]))
      refine own_by (fun _ kont => XS.ifYes X372.here hx rfl (pc0 := 127) (pc' := 135) rfl (hb hby at_127) rfl (XT.i0_eq_t (by decide)) (by decide) (by decide) kont) ?_
      show own_Go p e below _ (T372.setTop (mkF m 135 #[.val (.int i0), .val (.int i1), .val (.int i2), .val (.int i3), .val (.int i4), .val (.int i5), .val (.int sl), .val (.int sd), .val (.int cp), .val (.int l0), .val (.int r0), .val (.int l1), .val (.int r1), .val (.int (0 : Int32)), .val (.int (0 : Int32)), .val (.ref a355), .val (.int (Int32.ofNat 0)), .val (.int (Int32.ofNat 1)), .unset, .unset, .unset, .unset, .unset, .unset] []))
      refine own_by (fun _ kont => XS.iload X372.here hx rfl (hb hby at_135) rfl kont) ?_
      show own_Go p e below _ (T372.setTop (mkF m 137 #[.val (.int i0), .val (.int i1), .val (.int i2), .val (.int i3), .val (.int i4), .val (.int i5), .val (.int sl), .val (.int sd), .val (.int cp), .val (.int l0), .val (.int r0), .val (.int l1), .val (.int r1), .val (.int (0 : Int32)), .val (.int (0 : Int32)), .val (.ref a355), .val (.int (Int32.ofNat 0)), .val (.int (Int32.ofNat 1)), .unset, .unset, .unset, .unset, .unset, .unset] [(.int (Int32.ofNat 0))]))
      refine own_by (fun _ kont => XS.istore X372.here hx rfl (hb hby at_137) rfl (l' := #[.val (.int i0), .val (.int i1), .val (.int i2), .val (.int i3), .val (.int i4), .val (.int i5), .val (.int sl), .val (.int sd), .val (.int cp), .val (.int l0), .val (.int r0), .val (.int l1), .val (.int r1), .val (.int (0 : Int32)), .val (.int (0 : Int32)), .val (.ref a355), .val (.int (Int32.ofNat 0)), .val (.int (Int32.ofNat 1)), .val (.int (Int32.ofNat 0)), .unset, .unset, .unset, .unset, .unset]) rfl kont) ?_
      show own_Go p e below _ (T372.setTop (mkF m 139 #[.val (.int i0), .val (.int i1), .val (.int i2), .val (.int i3), .val (.int i4), .val (.int i5), .val (.int sl), .val (.int sd), .val (.int cp), .val (.int l0), .val (.int r0), .val (.int l1), .val (.int r1), .val (.int (0 : Int32)), .val (.int (0 : Int32)), .val (.ref a355), .val (.int (Int32.ofNat 0)), .val (.int (Int32.ofNat 1)), .val (.int (Int32.ofNat 0)), .unset, .unset, .unset, .unset, .unset] []))
      refine own_by (fun _ kont => XS.iload X372.here hx rfl (hb hby at_139) rfl kont) ?_
      show own_Go p e below _ (T372.setTop (mkF m 141 #[.val (.int i0), .val (.int i1), .val (.int i2), .val (.int i3), .val (.int i4), .val (.int i5), .val (.int sl), .val (.int sd), .val (.int cp), .val (.int l0), .val (.int r0), .val (.int l1), .val (.int r1), .val (.int (0 : Int32)), .val (.int (0 : Int32)), .val (.ref a355), .val (.int (Int32.ofNat 0)), .val (.int (Int32.ofNat 1)), .val (.int (Int32.ofNat 0)), .unset, .unset, .unset, .unset, .unset] [(.int (0 : Int32))]))
      refine own_by (fun _ kont => XS.ifYes X372.here hx rfl (pc0 := 141) (pc' := 149) rfl (hb hby at_141) rfl (XT.i0_eq_t (by decide)) (by decide) (by decide) kont) ?_
      show own_Go p e below _ (T372.setTop (mkF m 149 #[.val (.int i0), .val (.int i1), .val (.int i2), .val (.int i3), .val (.int i4), .val (.int i5), .val (.int sl), .val (.int sd), .val (.int cp), .val (.int l0), .val (.int r0), .val (.int l1), .val (.int r1), .val (.int (0 : Int32)), .val (.int (0 : Int32)), .val (.ref a355), .val (.int (Int32.ofNat 0)), .val (.int (Int32.ofNat 1)), .val (.int (Int32.ofNat 0)), .unset, .unset, .unset, .unset, .unset] []))
      refine own_by (fun _ kont => XS.iload X372.here hx rfl (hb hby at_149) rfl kont) ?_
      show own_Go p e below _ (T372.setTop (mkF m 151 #[.val (.int i0), .val (.int i1), .val (.int i2), .val (.int i3), .val (.int i4), .val (.int i5), .val (.int sl), .val (.int sd), .val (.int cp), .val (.int l0), .val (.int r0), .val (.int l1), .val (.int r1), .val (.int (0 : Int32)), .val (.int (0 : Int32)), .val (.ref a355), .val (.int (Int32.ofNat 0)), .val (.int (Int32.ofNat 1)), .val (.int (Int32.ofNat 0)), .unset, .unset, .unset, .unset, .unset] [(.int l0)]))
      refine own_by (fun _ kont => XS.istore X372.here hx rfl (hb hby at_151) rfl (l' := #[.val (.int i0), .val (.int i1), .val (.int i2), .val (.int i3), .val (.int i4), .val (.int i5), .val (.int sl), .val (.int sd), .val (.int cp), .val (.int l0), .val (.int r0), .val (.int l1), .val (.int r1), .val (.int (0 : Int32)), .val (.int (0 : Int32)), .val (.ref a355), .val (.int (Int32.ofNat 0)), .val (.int (Int32.ofNat 1)), .val (.int (Int32.ofNat 0)), .val (.int l0), .unset, .unset, .unset, .unset]) rfl kont) ?_
      show own_Go p e below _ (T372.setTop (mkF m 153 #[.val (.int i0), .val (.int i1), .val (.int i2), .val (.int i3), .val (.int i4), .val (.int i5), .val (.int sl), .val (.int sd), .val (.int cp), .val (.int l0), .val (.int r0), .val (.int l1), .val (.int r1), .val (.int (0 : Int32)), .val (.int (0 : Int32)), .val (.ref a355), .val (.int (Int32.ofNat 0)), .val (.int (Int32.ofNat 1)), .val (.int (Int32.ofNat 0)), .val (.int l0), .unset, .unset, .unset, .unset] []))
      refine own_by (fun _ kont => XS.iload X372.here hx rfl (hb hby at_153) rfl kont) ?_
      show own_Go p e below _ (T372.setTop (mkF m 155 #[.val (.int i0), .val (.int i1), .val (.int i2), .val (.int i3), .val (.int i4), .val (.int i5), .val (.int sl), .val (.int sd), .val (.int cp), .val (.int l0), .val (.int r0), .val (.int l1), .val (.int r1), .val (.int (0 : Int32)), .val (.int (0 : Int32)), .val (.ref a355), .val (.int (Int32.ofNat 0)), .val (.int (Int32.ofNat 1)), .val (.int (Int32.ofNat 0)), .val (.int l0), .unset, .unset, .unset, .unset] [(.int sd)]))
      refine own_by (fun _ kont => XS.iload X372.here hx rfl (hb hby at_155) rfl kont) ?_
      show own_Go p e below _ (T372.setTop (mkF m 157 #[.val (.int i0), .val (.int i1), .val (.int i2), .val (.int i3), .val (.int i4), .val (.int i5), .val (.int sl), .val (.int sd), .val (.int cp), .val (.int l0), .val (.int r0), .val (.int l1), .val (.int r1), .val (.int (0 : Int32)), .val (.int (0 : Int32)), .val (.ref a355), .val (.int (Int32.ofNat 0)), .val (.int (Int32.ofNat 1)), .val (.int (Int32.ofNat 0)), .val (.int l0), .unset, .unset, .unset, .unset] [(.int (0 : Int32)), (.int sd)]))
      refine own_by (fun _ kont => XS.ifYes X372.here hx rfl (pc0 := 157) (pc' := 165) rfl (hb hby at_157) rfl (XT.i0_eq_t (by decide)) (by decide) (by decide) kont) ?_
      show own_Go p e below _ (T372.setTop (mkF m 165 #[.val (.int i0), .val (.int i1), .val (.int i2), .val (.int i3), .val (.int i4), .val (.int i5), .val (.int sl), .val (.int sd), .val (.int cp), .val (.int l0), .val (.int r0), .val (.int l1), .val (.int r1), .val (.int (0 : Int32)), .val (.int (0 : Int32)), .val (.ref a355), .val (.int (Int32.ofNat 0)), .val (.int (Int32.ofNat 1)), .val (.int (Int32.ofNat 0)), .val (.int l0), .unset, .unset, .unset, .unset] [(.int sd)]))
      refine own_by (fun _ kont => XS.iload X372.here hx rfl (hb hby at_165) rfl kont) ?_
      show own_Go p e below _ (T372.setTop (mkF m 167 #[.val (.int i0), .val (.int i1), .val (.int i2), .val (.int i3), .val (.int i4), .val (.int i5), .val (.int sl), .val (.int sd), .val (.int cp), .val (.int l0), .val (.int r0), .val (.int l1), .val (.int r1), .val (.int (0 : Int32)), .val (.int (0 : Int32)), .val (.ref a355), .val (.int (Int32.ofNat 0)), .val (.int (Int32.ofNat 1)), .val (.int (Int32.ofNat 0)), .val (.int l0), .unset, .unset, .unset, .unset] [(.int r0), (.int sd)]))
      refine own_by (fun _ kont => XS.iadd X372.here hx rfl (hb hby at_167) rfl kont) ?_
      show own_Go p e below _ (T372.setTop (mkF m 168 #[.val (.int i0), .val (.int i1), .val (.int i2), .val (.int i3), .val (.int i4), .val (.int i5), .val (.int sl), .val (.int sd), .val (.int cp), .val (.int l0), .val (.int r0), .val (.int l1), .val (.int r1), .val (.int (0 : Int32)), .val (.int (0 : Int32)), .val (.ref a355), .val (.int (Int32.ofNat 0)), .val (.int (Int32.ofNat 1)), .val (.int (Int32.ofNat 0)), .val (.int l0), .unset, .unset, .unset, .unset] [(.int (sd + r0))]))
      refine own_by (fun _ kont => XS.istore X372.here hx rfl (hb hby at_168) rfl (l' := #[.val (.int i0), .val (.int i1), .val (.int i2), .val (.int i3), .val (.int i4), .val (.int i5), .val (.int sl), .val (.int sd), .val (.int cp), .val (.int l0), .val (.int r0), .val (.int l1), .val (.int r1), .val (.int (0 : Int32)), .val (.int (0 : Int32)), .val (.ref a355), .val (.int (Int32.ofNat 0)), .val (.int (Int32.ofNat 1)), .val (.int (Int32.ofNat 0)), .val (.int l0), .val (.int (sd + r0)), .unset, .unset, .unset]) rfl kont) ?_
      show own_Go p e below _ (T372.setTop (mkF m 170 #[.val (.int i0), .val (.int i1), .val (.int i2), .val (.int i3), .val (.int i4), .val (.int i5), .val (.int sl), .val (.int sd), .val (.int cp), .val (.int l0), .val (.int r0), .val (.int l1), .val (.int r1), .val (.int (0 : Int32)), .val (.int (0 : Int32)), .val (.ref a355), .val (.int (Int32.ofNat 0)), .val (.int (Int32.ofNat 1)), .val (.int (Int32.ofNat 0)), .val (.int l0), .val (.int (sd + r0)), .unset, .unset, .unset] []))
      refine own_by (fun _ kont => XS.iload X372.here hx rfl (hb hby at_170) rfl kont) ?_
      show own_Go p e below _ (T372.setTop (mkF m 172 #[.val (.int i0), .val (.int i1), .val (.int i2), .val (.int i3), .val (.int i4), .val (.int i5), .val (.int sl), .val (.int sd), .val (.int cp), .val (.int l0), .val (.int r0), .val (.int l1), .val (.int r1), .val (.int (0 : Int32)), .val (.int (0 : Int32)), .val (.ref a355), .val (.int (Int32.ofNat 0)), .val (.int (Int32.ofNat 1)), .val (.int (Int32.ofNat 0)), .val (.int l0), .val (.int (sd + r0)), .unset, .unset, .unset] [(.int (0 : Int32))]))
      refine own_by (fun _ kont => XS.ifYes X372.here hx rfl (pc0 := 172) (pc' := 180) rfl (hb hby at_172) rfl (XT.i0_eq_t (by decide)) (by decide) (by decide) kont) ?_
      show own_Go p e below _ (T372.setTop (mkF m 180 #[.val (.int i0), .val (.int i1), .val (.int i2), .val (.int i3), .val (.int i4), .val (.int i5), .val (.int sl), .val (.int sd), .val (.int cp), .val (.int l0), .val (.int r0), .val (.int l1), .val (.int r1), .val (.int (0 : Int32)), .val (.int (0 : Int32)), .val (.ref a355), .val (.int (Int32.ofNat 0)), .val (.int (Int32.ofNat 1)), .val (.int (Int32.ofNat 0)), .val (.int l0), .val (.int (sd + r0)), .unset, .unset, .unset] []))
      refine own_by (fun _ kont => XS.iload X372.here hx rfl (hb hby at_180) rfl kont) ?_
      show own_Go p e below _ (T372.setTop (mkF m 182 #[.val (.int i0), .val (.int i1), .val (.int i2), .val (.int i3), .val (.int i4), .val (.int i5), .val (.int sl), .val (.int sd), .val (.int cp), .val (.int l0), .val (.int r0), .val (.int l1), .val (.int r1), .val (.int (0 : Int32)), .val (.int (0 : Int32)), .val (.ref a355), .val (.int (Int32.ofNat 0)), .val (.int (Int32.ofNat 1)), .val (.int (Int32.ofNat 0)), .val (.int l0), .val (.int (sd + r0)), .unset, .unset, .unset] [(.int (sd + r0))]))
      refine own_by (fun _ kont => XS.istore X372.here hx rfl (hb hby at_182) rfl (l' := #[.val (.int i0), .val (.int i1), .val (.int i2), .val (.int i3), .val (.int i4), .val (.int i5), .val (.int sl), .val (.int sd), .val (.int cp), .val (.int l0), .val (.int r0), .val (.int l1), .val (.int r1), .val (.int (0 : Int32)), .val (.int (0 : Int32)), .val (.ref a355), .val (.int (Int32.ofNat 0)), .val (.int (Int32.ofNat 1)), .val (.int (Int32.ofNat 0)), .val (.int l0), .val (.int (sd + r0)), .val (.int (sd + r0)), .unset, .unset]) rfl kont) ?_
      show own_Go p e below _ (T372.setTop (mkF m 184 #[.val (.int i0), .val (.int i1), .val (.int i2), .val (.int i3), .val (.int i4), .val (.int i5), .val (.int sl), .val (.int sd), .val (.int cp), .val (.int l0), .val (.int r0), .val (.int l1), .val (.int r1), .val (.int (0 : Int32)), .val (.int (0 : Int32)), .val (.ref a355), .val (.int (Int32.ofNat 0)), .val (.int (Int32.ofNat 1)), .val (.int (Int32.ofNat 0)), .val (.int l0), .val (.int (sd + r0)), .val (.int (sd + r0)), .unset, .unset] []))
      refine own_by (fun _ kont => XS.iload X372.here hx rfl (hb hby at_184) rfl kont) ?_
      show own_Go p e below _ (T372.setTop (mkF m 186 #[.val (.int i0), .val (.int i1), .val (.int i2), .val (.int i3), .val (.int i4), .val (.int i5), .val (.int sl), .val (.int sd), .val (.int cp), .val (.int l0), .val (.int r0), .val (.int l1), .val (.int r1), .val (.int (0 : Int32)), .val (.int (0 : Int32)), .val (.ref a355), .val (.int (Int32.ofNat 0)), .val (.int (Int32.ofNat 1)), .val (.int (Int32.ofNat 0)), .val (.int l0), .val (.int (sd + r0)), .val (.int (sd + r0)), .unset, .unset] [(.int (0 : Int32))]))
      refine own_by (fun _ kont => XS.ifYes X372.here hx rfl (pc0 := 186) (pc' := 194) rfl (hb hby at_186) rfl (XT.i0_eq_t (by decide)) (by decide) (by decide) kont) ?_
      show own_Go p e below _ (T372.setTop (mkF m 194 #[.val (.int i0), .val (.int i1), .val (.int i2), .val (.int i3), .val (.int i4), .val (.int i5), .val (.int sl), .val (.int sd), .val (.int cp), .val (.int l0), .val (.int r0), .val (.int l1), .val (.int r1), .val (.int (0 : Int32)), .val (.int (0 : Int32)), .val (.ref a355), .val (.int (Int32.ofNat 0)), .val (.int (Int32.ofNat 1)), .val (.int (Int32.ofNat 0)), .val (.int l0), .val (.int (sd + r0)), .val (.int (sd + r0)), .unset, .unset] []))
      refine own_by (fun _ kont => XS.iload X372.here hx rfl (hb hby at_194) rfl kont) ?_
      show own_Go p e below _ (T372.setTop (mkF m 196 #[.val (.int i0), .val (.int i1), .val (.int i2), .val (.int i3), .val (.int i4), .val (.int i5), .val (.int sl), .val (.int sd), .val (.int cp), .val (.int l0), .val (.int r0), .val (.int l1), .val (.int r1), .val (.int (0 : Int32)), .val (.int (0 : Int32)), .val (.ref a355), .val (.int (Int32.ofNat 0)), .val (.int (Int32.ofNat 1)), .val (.int (Int32.ofNat 0)), .val (.int l0), .val (.int (sd + r0)), .val (.int (sd + r0)), .unset, .unset] [(.int l0)]))
      refine own_by (fun _ kont => XS.istore X372.here hx rfl (hb hby at_196) rfl (l' := #[.val (.int i0), .val (.int i1), .val (.int i2), .val (.int i3), .val (.int i4), .val (.int i5), .val (.int sl), .val (.int sd), .val (.int cp), .val (.int l0), .val (.int r0), .val (.int l1), .val (.int r1), .val (.int (0 : Int32)), .val (.int (0 : Int32)), .val (.ref a355), .val (.int (Int32.ofNat 0)), .val (.int (Int32.ofNat 1)), .val (.int (Int32.ofNat 0)), .val (.int l0), .val (.int (sd + r0)), .val (.int (sd + r0)), .val (.int l0), .unset]) rfl kont) ?_
      show own_Go p e below _ (T372.setTop (mkF m 198 #[.val (.int i0), .val (.int i1), .val (.int i2), .val (.int i3), .val (.int i4), .val (.int i5), .val (.int sl), .val (.int sd), .val (.int cp), .val (.int l0), .val (.int r0), .val (.int l1), .val (.int r1), .val (.int (0 : Int32)), .val (.int (0 : Int32)), .val (.ref a355), .val (.int (Int32.ofNat 0)), .val (.int (Int32.ofNat 1)), .val (.int (Int32.ofNat 0)), .val (.int l0), .val (.int (sd + r0)), .val (.int (sd + r0)), .val (.int l0), .unset] []))
      refine own_by (fun _ kont => XS.aload X372.here hx rfl (hb hby at_198) rfl rfl kont) ?_
      show own_Go p e below _ (T372.setTop (mkF m 200 #[.val (.int i0), .val (.int i1), .val (.int i2), .val (.int i3), .val (.int i4), .val (.int i5), .val (.int sl), .val (.int sd), .val (.int cp), .val (.int l0), .val (.int r0), .val (.int l1), .val (.int r1), .val (.int (0 : Int32)), .val (.int (0 : Int32)), .val (.ref a355), .val (.int (Int32.ofNat 0)), .val (.int (Int32.ofNat 1)), .val (.int (Int32.ofNat 0)), .val (.int l0), .val (.int (sd + r0)), .val (.int (sd + r0)), .val (.int l0), .unset] [(.ref a355)]))
      refine own_by (fun _ kont => XS.iload X372.here hx rfl (hb hby at_200) rfl kont) ?_
      show own_Go p e below _ (T372.setTop (mkF m 202 #[.val (.int i0), .val (.int i1), .val (.int i2), .val (.int i3), .val (.int i4), .val (.int i5), .val (.int sl), .val (.int sd), .val (.int cp), .val (.int l0), .val (.int r0), .val (.int l1), .val (.int r1), .val (.int (0 : Int32)), .val (.int (0 : Int32)), .val (.ref a355), .val (.int (Int32.ofNat 0)), .val (.int (Int32.ofNat 1)), .val (.int (Int32.ofNat 0)), .val (.int l0), .val (.int (sd + r0)), .val (.int (sd + r0)), .val (.int l0), .unset] [(.int (Int32.ofNat 0)), (.ref a355)]))
      refine own_by (fun _ kont => XS.iload X372.here hx rfl (hb hby at_202) rfl kont) ?_
      show own_Go p e below _ (T372.setTop (mkF m 204 #[.val (.int i0), .val (.int i1), .val (.int i2), .val (.int i3), .val (.int i4), .val (.int i5), .val (.int sl), .val (.int sd), .val (.int cp), .val (.int l0), .val (.int r0), .val (.int l1), .val (.int r1), .val (.int (0 : Int32)), .val (.int (0 : Int32)), .val (.ref a355), .val (.int (Int32.ofNat 0)), .val (.int (Int32.ofNat 1)), .val (.int (Int32.ofNat 0)), .val (.int l0), .val (.int (sd + r0)), .val (.int (sd + r0)), .val (.int l0), .unset] [(.int (sd + r0)), (.int (Int32.ofNat 0)), (.ref a355)]))
      obtain ⟨cq376, kq376, qa376, qb376, qc376⟩ := isOf hZ (rfl : T372.heap = T372.heap) GE374
      obtain ⟨_, _, ⟨T375, L375, k375, n375⟩, -, X375, ⟨Lc375, hQ375, l375, y375, z375⟩, st375⟩ := X372.virtualBack hx (y := (⟨"com/example/lambdalane/lambdalane/NodeGraph", "otherEnd", "(II)I"⟩ : MethodName)) (z := (⟨"com/example/lambdalane/lambdalane/NodeGraph", "otherEnd", "(II)I"⟩ : MethodName)) hown (mvT hZ (hw _ (List.mem_of_getElem? (i := 56) rfl))) (mvT hZ (hw _ (List.mem_of_getElem? (i := 57) rfl))) (notFace_of_selects (args := #[]) (mvT hZ (hw _ (List.mem_of_getElem? (i := 59) rfl)))) (mvT hZ (hw _ (List.mem_of_getElem? (i := 59) rfl))) (mvT hZ (hw _ (List.mem_of_getElem? (i := 58) rfl))) (by decide) (backOf (W := 0) (rmO l Z a0 hw [] a355 sd (sd + r0) 0 2 cap372 lq372 rq372 _ _ _ T372.heap n0 G372 (by omega) (by omega) (by omega)) hZ (hw _ (List.mem_of_getElem? (i := 60) rfl)) (hw _ (List.mem_of_getElem? (i := 3) rfl)) (by decide) (by decide)) qa376 qc376 (g := (mkF m 204 #[.val (.int i0), .val (.int i1), .val (.int i2), .val (.int i3), .val (.int i4), .val (.int i5), .val (.int sl), .val (.int sd), .val (.int cp), .val (.int l0), .val (.int r0), .val (.int l1), .val (.int r1), .val (.int (0 : Int32)), .val (.int (0 : Int32)), .val (.ref a355), .val (.int (Int32.ofNat 0)), .val (.int (Int32.ofNat 1)), .val (.int (Int32.ofNat 0)), .val (.int l0), .val (.int (sd + r0)), .val (.int (sd + r0)), .val (.int l0), .unset] [(.int (sd + r0)), (.int (Int32.ofNat 0)), (.ref a355)])) rfl (by rw [hml]; rfl) (Steps.refl _) (argsL := [(.int (Int32.ofNat 0)), (.int (sd + r0))]) (rest := []) (lenOf own_pd6 rfl) rfl (by show 2 * 0 + _ ≤ _; exact Nat.le_of_eq rfl) (hb hby at_204) (fun _ _ => ⟨rfl, (rfl : T372.heap = T372.heap), (by decide : 13 + 0 ≤ _), (by decide : 120 + 0 ≤ _)⟩)
      dsimp only [Pt.U, Pt.locs, Pt.cells, Pt.slots] at X375 l375 y375 z375 st375 hQ375
      subst l375 y375 z375
      refine own_tr st375 ?_
      obtain ⟨rfl, N375, e375⟩ := hQ375
      obtain ⟨L375, X375, M375⟩ := own_hide X375 (Fr.app M372 N375)
      have hL375 : lq372 0 = l0 := by simp [hlq372, hlq369]
      have hR375 : rq372 0 = r0 := by simp [hrq372, hrq369]
      rw [hL375, hR375]
      rw [if_neg (own_far bsd br0 bl0)]
      show own_Go p e below _ (T375.setTop (mkF m 207 #[.val (.int i0), .val (.int i1), .val (.int i2), .val (.int i3), .val (.int i4), .val (.int i5), .val (.int sl), .val (.int sd), .val (.int cp), .val (.int l0), .val (.int r0), .val (.int l1), .val (.int r1), .val (.int (0 : Int32)), .val (.int (0 : Int32)), .val (.ref a355), .val (.int (Int32.ofNat 0)), .val (.int (Int32.ofNat 1)), .val (.int (Int32.ofNat 0)), .val (.int l0), .val (.int (sd + r0)), .val (.int (sd + r0)), .val (.int l0), .unset] [(.int l0)]))
      refine own_by (fun _ kont => XS.istore X375.here hx rfl (hb hby at_207) rfl (l' := #[.val (.int i0), .val (.int i1), .val (.int i2), .val (.int i3), .val (.int i4), .val (.int i5), .val (.int sl), .val (.int sd), .val (.int cp), .val (.int l0), .val (.int r0), .val (.int l1), .val (.int r1), .val (.int (0 : Int32)), .val (.int (0 : Int32)), .val (.ref a355), .val (.int (Int32.ofNat 0)), .val (.int (Int32.ofNat 1)), .val (.int (Int32.ofNat 0)), .val (.int l0), .val (.int (sd + r0)), .val (.int (sd + r0)), .val (.int l0), .val (.int l0)]) rfl kont) ?_
      show own_Go p e below _ (T375.setTop (mkF m 209 #[.val (.int i0), .val (.int i1), .val (.int i2), .val (.int i3), .val (.int i4), .val (.int i5), .val (.int sl), .val (.int sd), .val (.int cp), .val (.int l0), .val (.int r0), .val (.int l1), .val (.int r1), .val (.int (0 : Int32)), .val (.int (0 : Int32)), .val (.ref a355), .val (.int (Int32.ofNat 0)), .val (.int (Int32.ofNat 1)), .val (.int (Int32.ofNat 0)), .val (.int l0), .val (.int (sd + r0)), .val (.int (sd + r0)), .val (.int l0), .val (.int l0)] []))
      refine own_by (fun _ kont => XS.iload X375.here hx rfl (hb hby at_209) rfl kont) ?_
      show own_Go p e below _ (T375.setTop (mkF m 211 #[.val (.int i0), .val (.int i1), .val (.int i2), .val (.int i3), .val (.int i4), .val (.int i5), .val (.int sl), .val (.int sd), .val (.int cp), .val (.int l0), .val (.int r0), .val (.int l1), .val (.int r1), .val (.int (0 : Int32)), .val (.int (0 : Int32)), .val (.ref a355), .val (.int (Int32.ofNat 0)), .val (.int (Int32.ofNat 1)), .val (.int (Int32.ofNat 0)), .val (.int l0), .val (.int (sd + r0)), .val (.int (sd + r0)), .val (.int l0), .val (.int l0)] [(.int (Int32.ofNat 0))]))
      refine own_by (fun _ kont => XS.ifNo X375.here hx rfl (hb hby at_211) rfl (XT.i0_ne_f (rfl : Int32.ofNat 0 = (0 : Int32))) kont) ?_
      show own_Go p e below _ (T375.setTop (mkF m 214 #[.val (.int i0), .val (.int i1), .val (.int i2), .val (.int i3), .val (.int i4), .val (.int i5), .val (.int sl), .val (.int sd), .val (.int cp), .val (.int l0), .val (.int r0), .val (.int l1), .val (.int r1), .val (.int (0 : Int32)), .val (.int (0 : Int32)), .val (.ref a355), .val (.int (Int32.ofNat 0)), .val (.int (Int32.ofNat 1)), .val (.int (Int32.ofNat 0)), .val (.int l0), .val (.int (sd + r0)), .val (.int (sd + r0)), .val (.int l0), .val (.int l0)] []))
      refine own_by (fun _ kont => XS.iload X375.here hx rfl (hb hby at_214) rfl kont) ?_
      show own_Go p e below _ (T375.setTop (mkF m 216 #[.val (.int i0), .val (.int i1), .val (.int i2), .val (.int i3), .val (.int i4), .val (.int i5), .val (.int sl), .val (.int sd), .val (.int cp), .val (.int l0), .val (.int r0), .val (.int l1), .val (.int r1), .val (.int (0 : Int32)), .val (.int (0 : Int32)), .val (.ref a355), .val (.int (Int32.ofNat 0)), .val (.int (Int32.ofNat 1)), .val (.int (Int32.ofNat 0)), .val (.int l0), .val (.int (sd + r0)), .val (.int (sd + r0)), .val (.int l0), .val (.int l0)] [(.int (Int32.ofNat 1))]))
      refine own_by (fun _ kont => XT.iconstV X375.here hx rfl (1 : Int32) (hb hby at_216) rfl kont) ?_
      show own_Go p e below _ (T375.setTop (mkF m 217 #[.val (.int i0), .val (.int i1), .val (.int i2), .val (.int i3), .val (.int i4), .val (.int i5), .val (.int sl), .val (.int sd), .val (.int cp), .val (.int l0), .val (.int r0), .val (.int l1), .val (.int r1), .val (.int (0 : Int32)), .val (.int (0 : Int32)), .val (.ref a355), .val (.int (Int32.ofNat 0)), .val (.int (Int32.ofNat 1)), .val (.int (Int32.ofNat 0)), .val (.int l0), .val (.int (sd + r0)), .val (.int (sd + r0)), .val (.int l0), .val (.int l0)] [(.int (1 : Int32)), (.int (Int32.ofNat 1))]))
      refine own_by (fun _ kont => XS.icmpNo X375.here hx rfl (hb hby at_217) rfl (XT.ii_ne_f (rfl : Int32.ofNat 1 = (1 : Int32))) kont) ?_
      show own_Go p e below _ (T375.setTop (mkF m 220 #[.val (.int i0), .val (.int i1), .val (.int i2), .val (.int i3), .val (.int i4), .val (.int i5), .val (.int sl), .val (.int sd), .val (.int cp), .val (.int l0), .val (.int r0), .val (.int l1), .val (.int r1), .val (.int (0 : Int32)), .val (.int (0 : Int32)), .val (.ref a355), .val (.int (Int32.ofNat 0)), .val (.int (Int32.ofNat 1)), .val (.int (Int32.ofNat 0)), .val (.int l0), .val (.int (sd + r0)), .val (.int (sd + r0)), .val (.int l0), .val (.int l0)] []))
      refine own_by (fun _ kont => XS.iload X375.here hx rfl (hb hby at_220) rfl kont) ?_
      show own_Go p e below _ (T375.setTop (mkF m 222 #[.val (.int i0), .val (.int i1), .val (.int i2), .val (.int i3), .val (.int i4), .val (.int i5), .val (.int sl), .val (.int sd), .val (.int cp), .val (.int l0), .val (.int r0), .val (.int l1), .val (.int r1), .val (.int (0 : Int32)), .val (.int (0 : Int32)), .val (.ref a355), .val (.int (Int32.ofNat 0)), .val (.int (Int32.ofNat 1)), .val (.int (Int32.ofNat 0)), .val (.int l0), .val (.int (sd + r0)), .val (.int (sd + r0)), .val (.int l0), .val (.int l0)] [(.int l0)]))
      refine own_by (fun _ kont => XS.iload X375.here hx rfl (hb hby at_222) rfl kont) ?_
      show own_Go p e below _ (T375.setTop (mkF m 224 #[.val (.int i0), .val (.int i1), .val (.int i2), .val (.int i3), .val (.int i4), .val (.int i5), .val (.int sl), .val (.int sd), .val (.int cp), .val (.int l0), .val (.int r0), .val (.int l1), .val (.int r1), .val (.int (0 : Int32)), .val (.int (0 : Int32)), .val (.ref a355), .val (.int (Int32.ofNat 0)), .val (.int (Int32.ofNat 1)), .val (.int (Int32.ofNat 0)), .val (.int l0), .val (.int (sd + r0)), .val (.int (sd + r0)), .val (.int l0), .val (.int l0)] [(.int l0), (.int l0)]))
      refine own_by (fun _ kont => XS.icmpNo X375.here hx rfl (hb hby at_224) rfl (XT.ii_ne_f rfl) kont) ?_
      show own_Go p e below _ (T375.setTop (mkF m 227 #[.val (.int i0), .val (.int i1), .val (.int i2), .val (.int i3), .val (.int i4), .val (.int i5), .val (.int sl), .val (.int sd), .val (.int cp), .val (.int l0), .val (.int r0), .val (.int l1), .val (.int r1), .val (.int (0 : Int32)), .val (.int (0 : Int32)), .val (.ref a355), .val (.int (Int32.ofNat 0)), .val (.int (Int32.ofNat 1)), .val (.int (Int32.ofNat 0)), .val (.int l0), .val (.int (sd + r0)), .val (.int (sd + r0)), .val (.int l0), .val (.int l0)] []))
      refine own_by (fun _ kont => XS.aload X375.here hx rfl (hb hby at_227) rfl rfl kont) ?_
      show own_Go p e below _ (T375.setTop (mkF m 229 #[.val (.int i0), .val (.int i1), .val (.int i2), .val (.int i3), .val (.int i4), .val (.int i5), .val (.int sl), .val (.int sd), .val (.int cp), .val (.int l0), .val (.int r0), .val (.int l1), .val (.int r1), .val (.int (0 : Int32)), .val (.int (0 : Int32)), .val (.ref a355), .val (.int (Int32.ofNat 0)), .val (.int (Int32.ofNat 1)), .val (.int (Int32.ofNat 0)), .val (.int l0), .val (.int (sd + r0)), .val (.int (sd + r0)), .val (.int l0), .val (.int l0)] [(.ref a355)]))
      refine own_by (fun _ kont => XS.iload X375.here hx rfl (hb hby at_229) rfl kont) ?_
      show own_Go p e below _ (T375.setTop (mkF m 231 #[.val (.int i0), .val (.int i1), .val (.int i2), .val (.int i3), .val (.int i4), .val (.int i5), .val (.int sl), .val (.int sd), .val (.int cp), .val (.int l0), .val (.int r0), .val (.int l1), .val (.int r1), .val (.int (0 : Int32)), .val (.int (0 : Int32)), .val (.ref a355), .val (.int (Int32.ofNat 0)), .val (.int (Int32.ofNat 1)), .val (.int (Int32.ofNat 0)), .val (.int l0), .val (.int (sd + r0)), .val (.int (sd + r0)), .val (.int l0), .val (.int l0)] [(.int (Int32.ofNat 0)), (.ref a355)]))
      refine own_by (fun _ kont => XS.iload X375.here hx rfl (hb hby at_231) rfl kont) ?_
      show own_Go p e below _ (T375.setTop (mkF m 233 #[.val (.int i0), .val (.int i1), .val (.int i2), .val (.int i3), .val (.int i4), .val (.int i5), .val (.int sl), .val (.int sd), .val (.int cp), .val (.int l0), .val (.int r0), .val (.int l1), .val (.int r1), .val (.int (0 : Int32)), .val (.int (0 : Int32)), .val (.ref a355), .val (.int (Int32.ofNat 0)), .val (.int (Int32.ofNat 1)), .val (.int (Int32.ofNat 0)), .val (.int l0), .val (.int (sd + r0)), .val (.int (sd + r0)), .val (.int l0), .val (.int l0)] [(.int l0), (.int (Int32.ofNat 0)), (.ref a355)]))
      obtain ⟨cq378, kq378, qa378, qb378, qc378⟩ := isOf hZ e375 GE374
      obtain ⟨_, _, ⟨T377, L377, k377, n377⟩, -, X377, ⟨Lc377, hQ377, l377, y377, z377⟩, st377⟩ := X375.virtualBack hx (y := (⟨"com/example/lambdalane/lambdalane/NodeGraph", "otherEnd", "(II)I"⟩ : MethodName)) (z := (⟨"com/example/lambdalane/lambdalane/NodeGraph", "otherEnd", "(II)I"⟩ : MethodName)) hown (mvT hZ (hw _ (List.mem_of_getElem? (i := 56) rfl))) (mvT hZ (hw _ (List.mem_of_getElem? (i := 57) rfl))) (notFace_of_selects (args := #[]) (mvT hZ (hw _ (List.mem_of_getElem? (i := 59) rfl)))) (mvT hZ (hw _ (List.mem_of_getElem? (i := 59) rfl))) (mvT hZ (hw _ (List.mem_of_getElem? (i := 58) rfl))) (by decide) (backOf (W := 0) (rmO l Z a0 hw [] a355 sd l0 0 2 cap372 lq372 rq372 _ _ _ T372.heap n0 G372 (by omega) (by omega) (by omega)) hZ (hw _ (List.mem_of_getElem? (i := 60) rfl)) (hw _ (List.mem_of_getElem? (i := 3) rfl)) (by decide) (by decide)) qa378 qc378 (g := (mkF m 233 #[.val (.int i0), .val (.int i1), .val (.int i2), .val (.int i3), .val (.int i4), .val (.int i5), .val (.int sl), .val (.int sd), .val (.int cp), .val (.int l0), .val (.int r0), .val (.int l1), .val (.int r1), .val (.int (0 : Int32)), .val (.int (0 : Int32)), .val (.ref a355), .val (.int (Int32.ofNat 0)), .val (.int (Int32.ofNat 1)), .val (.int (Int32.ofNat 0)), .val (.int l0), .val (.int (sd + r0)), .val (.int (sd + r0)), .val (.int l0), .val (.int l0)] [(.int l0), (.int (Int32.ofNat 0)), (.ref a355)])) rfl (by rw [hml]; rfl) (Steps.refl _) (argsL := [(.int (Int32.ofNat 0)), (.int l0)]) (rest := []) (lenOf own_pd6 rfl) rfl (by show 2 * 0 + _ ≤ _; exact Nat.le_of_eq rfl) (hb hby at_233) (fun _ _ => ⟨rfl, e375, (by decide : 13 + 0 ≤ _), (by decide : 120 + 0 ≤ _)⟩)
      dsimp only [Pt.U, Pt.locs, Pt.cells, Pt.slots] at X377 l377 y377 z377 st377 hQ377
      subst l377 y377 z377
      refine own_tr st377 ?_
      obtain ⟨rfl, N377, e377⟩ := hQ377
      obtain ⟨L377, X377, M377⟩ := own_hide X377 (Fr.app M375 N377)
      have hL377 : lq372 0 = l0 := by simp [hlq372, hlq369]
      have hR377 : rq372 0 = r0 := by simp [hrq372, hrq369]
      rw [hL377, hR377]
      rw [if_pos (rfl : l0 = l0)]
      show own_Go p e below _ (T377.setTop (mkF m 236 #[.val (.int i0), .val (.int i1), .val (.int i2), .val (.int i3), .val (.int i4), .val (.int i5), .val (.int sl), .val (.int sd), .val (.int cp), .val (.int l0), .val (.int r0), .val (.int l1), .val (.int r1), .val (.int (0 : Int32)), .val (.int (0 : Int32)), .val (.ref a355), .val (.int (Int32.ofNat 0)), .val (.int (Int32.ofNat 1)), .val (.int (Int32.ofNat 0)), .val (.int l0), .val (.int (sd + r0)), .val (.int (sd + r0)), .val (.int l0), .val (.int l0)] [(.int (sd + r0))]))
      refine own_by (fun _ kont => XS.iload X377.here hx rfl (hb hby at_236) rfl kont) ?_
      show own_Go p e below _ (T377.setTop (mkF m 238 #[.val (.int i0), .val (.int i1), .val (.int i2), .val (.int i3), .val (.int i4), .val (.int i5), .val (.int sl), .val (.int sd), .val (.int cp), .val (.int l0), .val (.int r0), .val (.int l1), .val (.int r1), .val (.int (0 : Int32)), .val (.int (0 : Int32)), .val (.ref a355), .val (.int (Int32.ofNat 0)), .val (.int (Int32.ofNat 1)), .val (.int (Int32.ofNat 0)), .val (.int l0), .val (.int (sd + r0)), .val (.int (sd + r0)), .val (.int l0), .val (.int l0)] [(.int (sd + r0)), (.int (sd + r0))]))
      refine own_by (fun _ kont => XS.icmpNo X377.here hx rfl (hb hby at_238) rfl (XT.ii_ne_f rfl) kont) ?_
      show own_Go p e below _ (T377.setTop (mkF m 241 #[.val (.int i0), .val (.int i1), .val (.int i2), .val (.int i3), .val (.int i4), .val (.int i5), .val (.int sl), .val (.int sd), .val (.int cp), .val (.int l0), .val (.int r0), .val (.int l1), .val (.int r1), .val (.int (0 : Int32)), .val (.int (0 : Int32)), .val (.ref a355), .val (.int (Int32.ofNat 0)), .val (.int (Int32.ofNat 1)), .val (.int (Int32.ofNat 0)), .val (.int l0), .val (.int (sd + r0)), .val (.int (sd + r0)), .val (.int l0), .val (.int l0)] []))
      refine own_by (fun _ kont => XT.iconstV X377.here hx rfl (1 : Int32) (hb hby at_241) rfl kont) ?_
      show own_Go p e below _ (T377.setTop (mkF m 242 #[.val (.int i0), .val (.int i1), .val (.int i2), .val (.int i3), .val (.int i4), .val (.int i5), .val (.int sl), .val (.int sd), .val (.int cp), .val (.int l0), .val (.int r0), .val (.int l1), .val (.int r1), .val (.int (0 : Int32)), .val (.int (0 : Int32)), .val (.ref a355), .val (.int (Int32.ofNat 0)), .val (.int (Int32.ofNat 1)), .val (.int (Int32.ofNat 0)), .val (.int l0), .val (.int (sd + r0)), .val (.int (sd + r0)), .val (.int l0), .val (.int l0)] [(.int (1 : Int32))]))
      refine own_by (fun _ kont => XS.goto X377.here hx rfl (pc0 := 242) (pc' := 246) rfl (hb hby at_242) (by decide) (by decide) kont) ?_
      show own_Go p e below _ (T377.setTop (mkF m 246 #[.val (.int i0), .val (.int i1), .val (.int i2), .val (.int i3), .val (.int i4), .val (.int i5), .val (.int sl), .val (.int sd), .val (.int cp), .val (.int l0), .val (.int r0), .val (.int l1), .val (.int r1), .val (.int (0 : Int32)), .val (.int (0 : Int32)), .val (.ref a355), .val (.int (Int32.ofNat 0)), .val (.int (Int32.ofNat 1)), .val (.int (Int32.ofNat 0)), .val (.int l0), .val (.int (sd + r0)), .val (.int (sd + r0)), .val (.int l0), .val (.int l0)] [(.int (1 : Int32))]))
      exact own_ret X377 hx hlk hret rfl (Or.inl ⟨rfl, by simp, _, rfl⟩) (hb hby at_246) ⟨rfl, M377⟩ (by decide) (by decide)
    · refine own_by (fun _ kont => XS.ifNo X0.here hx rfl (hb hby at_76) rfl (XT.i0_eq_f c76) kont) ?_
      show own_Go p e below _ (s₁.setTop (mkF m 79 #[.val (.int i0), .val (.int i1), .val (.int i2), .val (.int i3), .val (.int i4), .val (.int i5), .val (.int sl), .val (.int sd), .val (.int cp), .val (.int l0), .val (.int r0), .val (.int l1), .val (.int r1), .val (.int (0 : Int32)), .unset, .unset, .unset, .unset, .unset, .unset, .unset, .unset, .unset, .unset] []))
      refine own_by (fun _ kont => XT.iconstV X0.here hx rfl (1 : Int32) (hb hby at_79) rfl kont) ?_
      show own_Go p e below _ (s₁.setTop (mkF m 80 #[.val (.int i0), .val (.int i1), .val (.int i2), .val (.int i3), .val (.int i4), .val (.int i5), .val (.int sl), .val (.int sd), .val (.int cp), .val (.int l0), .val (.int r0), .val (.int l1), .val (.int r1), .val (.int (0 : Int32)), .unset, .unset, .unset, .unset, .unset, .unset, .unset, .unset, .unset, .unset] [(.int (1 : Int32))]))
      refine own_by (fun _ kont => XS.goto X0.here hx rfl (pc0 := 80) (pc' := 84) rfl (hb hby at_80) (by decide) (by decide) kont) ?_
      show own_Go p e below _ (s₁.setTop (mkF m 84 #[.val (.int i0), .val (.int i1), .val (.int i2), .val (.int i3), .val (.int i4), .val (.int i5), .val (.int sl), .val (.int sd), .val (.int cp), .val (.int l0), .val (.int r0), .val (.int l1), .val (.int r1), .val (.int (0 : Int32)), .unset, .unset, .unset, .unset, .unset, .unset, .unset, .unset, .unset, .unset] [(.int (1 : Int32))]))
      refine own_by (fun _ kont => XS.istore X0.here hx rfl (hb hby at_84) rfl (l' := #[.val (.int i0), .val (.int i1), .val (.int i2), .val (.int i3), .val (.int i4), .val (.int i5), .val (.int sl), .val (.int sd), .val (.int cp), .val (.int l0), .val (.int r0), .val (.int l1), .val (.int r1), .val (.int (0 : Int32)), .val (.int (1 : Int32)), .unset, .unset, .unset, .unset, .unset, .unset, .unset, .unset, .unset]) rfl kont) ?_
      show own_Go p e below _ (s₁.setTop (mkF m 86 #[.val (.int i0), .val (.int i1), .val (.int i2), .val (.int i3), .val (.int i4), .val (.int i5), .val (.int sl), .val (.int sd), .val (.int cp), .val (.int l0), .val (.int r0), .val (.int l1), .val (.int r1), .val (.int (0 : Int32)), .val (.int (1 : Int32)), .unset, .unset, .unset, .unset, .unset, .unset, .unset, .unset, .unset] []))
      obtain ⟨T379, h379, X379, e379, E379, A379, D379, -, st379⟩ := newO X0 hx hZ hown (hw _ (List.mem_of_getElem? (i := 1) rfl)) (hw _ (List.mem_of_getElem? (i := 2) rfl)) (hw _ (List.mem_of_getElem? (i := 3) rfl)) e0 (g := (mkF m 86 #[.val (.int i0), .val (.int i1), .val (.int i2), .val (.int i3), .val (.int i4), .val (.int i5), .val (.int sl), .val (.int sd), .val (.int cp), .val (.int l0), .val (.int r0), .val (.int l1), .val (.int r1), .val (.int (0 : Int32)), .val (.int (1 : Int32)), .unset, .unset, .unset, .unset, .unset, .unset, .unset, .unset, .unset] [])) rfl (hb hby at_86) (by decide) (by decide)
      obtain ⟨a379, g379⟩ : ∃ z, z = h0.size := ⟨_, rfl⟩
      rw [← g379] at A379 D379 st379
      have ge379 : n0 ≤ a379 := by rw [g379]; exact Z0
      have Z379 : n0 ≤ h379.size := Nat.le_trans Z0 E379.1
      have F380 : Fld Z h379 a379 "com/example/lambdalane/lambdalane/NodeGraph" "nextFresh" "I" (.int (0 : Int32)) := D379 (Or.inl (hw _ (List.mem_of_getElem? (i := 11) rfl))) (ty := .int) (by decide)
      have F381 : Fld Z h379 a379 "com/example/lambdalane/lambdalane/NodeGraph" "side" "I" (.int (0 : Int32)) := D379 (Or.inr (hw _ (List.mem_of_getElem? (i := 13) rfl))) (ty := .int) (by decide)
      have F382 : Fld Z h379 a379 "com/example/lambdalane/lambdalane/NodeGraph" "load" "I" (.int (0 : Int32)) := D379 (Or.inr (hw _ (List.mem_of_getElem? (i := 15) rfl))) (ty := .int) (by decide)
      have F383 : Fld Z h379 a379 "com/example/lambdalane/lambdalane/NodeGraph" "colourLimit" "I" (.int (0 : Int32)) := D379 (Or.inr (hw _ (List.mem_of_getElem? (i := 17) rfl))) (ty := .int) (by decide)
      have F384 : Fld Z h379 a379 "com/example/lambdalane/lambdalane/NodeGraph" "left" "[I" .null := D379 (Or.inl (hw _ (List.mem_of_getElem? (i := 20) rfl))) (ty := (.array .int)) (by decide)
      have F385 : Fld Z h379 a379 "com/example/lambdalane/lambdalane/NodeGraph" "right" "[I" .null := D379 (Or.inl (hw _ (List.mem_of_getElem? (i := 22) rfl))) (ty := (.array .int)) (by decide)
      have F386 : Fld Z h379 a379 "com/example/lambdalane/lambdalane/NodeGraph" "colour" "[I" .null := D379 (Or.inl (hw _ (List.mem_of_getElem? (i := 24) rfl))) (ty := (.array .int)) (by decide)
      have F387 : Fld Z h379 a379 "com/example/lambdalane/lambdalane/NodeGraph" "inEdgeOf" "[I" .null := D379 (Or.inr (hw _ (List.mem_of_getElem? (i := 26) rfl))) (ty := (.array .int)) (by decide)
      have F388 : Fld Z h379 a379 "com/example/lambdalane/lambdalane/NodeGraph" "outEdgeOf" "[I" .null := D379 (Or.inr (hw _ (List.mem_of_getElem? (i := 28) rfl))) (ty := (.array .int)) (by decide)
      have F389 : Fld Z h379 a379 "com/example/lambdalane/lambdalane/NodeGraph" "colourMark" "[I" .null := D379 (Or.inr (hw _ (List.mem_of_getElem? (i := 30) rfl))) (ty := (.array .int)) (by decide)
      have F390 : Fld Z h379 a379 "com/example/lambdalane/lambdalane/NodeGraph" "size" "I" (.int (0 : Int32)) := D379 (Or.inl (hw _ (List.mem_of_getElem? (i := 41) rfl))) (ty := .int) (by decide)
      refine own_by st379 ?_
      show own_Go p e below _ (T379.setTop (mkF m 89 #[.val (.int i0), .val (.int i1), .val (.int i2), .val (.int i3), .val (.int i4), .val (.int i5), .val (.int sl), .val (.int sd), .val (.int cp), .val (.int l0), .val (.int r0), .val (.int l1), .val (.int r1), .val (.int (0 : Int32)), .val (.int (1 : Int32)), .unset, .unset, .unset, .unset, .unset, .unset, .unset, .unset, .unset] [(.ref a379)]))
      refine own_by (fun _ kont => XS.dup X379.here hx rfl (hb hby at_89) rfl rfl kont) ?_
      show own_Go p e below _ (T379.setTop (mkF m 90 #[.val (.int i0), .val (.int i1), .val (.int i2), .val (.int i3), .val (.int i4), .val (.int i5), .val (.int sl), .val (.int sd), .val (.int cp), .val (.int l0), .val (.int r0), .val (.int l1), .val (.int r1), .val (.int (0 : Int32)), .val (.int (1 : Int32)), .unset, .unset, .unset, .unset, .unset, .unset, .unset, .unset, .unset] [(.ref a379), (.ref a379)]))
      refine own_by (fun _ kont => XS.iload X379.here hx rfl (hb hby at_90) rfl kont) ?_
      show own_Go p e below _ (T379.setTop (mkF m 92 #[.val (.int i0), .val (.int i1), .val (.int i2), .val (.int i3), .val (.int i4), .val (.int i5), .val (.int sl), .val (.int sd), .val (.int cp), .val (.int l0), .val (.int r0), .val (.int l1), .val (.int r1), .val (.int (0 : Int32)), .val (.int (1 : Int32)), .unset, .unset, .unset, .unset, .unset, .unset, .unset, .unset, .unset] [(.int sl), (.ref a379), (.ref a379)]))
      refine own_by (fun _ kont => XT.iconstV X379.here hx rfl (0 : Int32) (hb hby at_92) rfl kont) ?_
      show own_Go p e below _ (T379.setTop (mkF m 93 #[.val (.int i0), .val (.int i1), .val (.int i2), .val (.int i3), .val (.int i4), .val (.int i5), .val (.int sl), .val (.int sd), .val (.int cp), .val (.int l0), .val (.int r0), .val (.int l1), .val (.int r1), .val (.int (0 : Int32)), .val (.int (1 : Int32)), .unset, .unset, .unset, .unset, .unset, .unset, .unset, .unset, .unset] [(.int (0 : Int32)), (.int sl), (.ref a379), (.ref a379)]))
      refine own_by (fun _ kont => XT.iconstV X379.here hx rfl (0 : Int32) (hb hby at_93) rfl kont) ?_
      show own_Go p e below _ (T379.setTop (mkF m 94 #[.val (.int i0), .val (.int i1), .val (.int i2), .val (.int i3), .val (.int i4), .val (.int i5), .val (.int sl), .val (.int sd), .val (.int cp), .val (.int l0), .val (.int r0), .val (.int l1), .val (.int r1), .val (.int (0 : Int32)), .val (.int (1 : Int32)), .unset, .unset, .unset, .unset, .unset, .unset, .unset, .unset, .unset] [(.int (0 : Int32)), (.int (0 : Int32)), (.int sl), (.ref a379), (.ref a379)]))
      refine own_by (fun _ kont => XS.iload X379.here hx rfl (hb hby at_94) rfl kont) ?_
      show own_Go p e below _ (T379.setTop (mkF m 96 #[.val (.int i0), .val (.int i1), .val (.int i2), .val (.int i3), .val (.int i4), .val (.int i5), .val (.int sl), .val (.int sd), .val (.int cp), .val (.int l0), .val (.int r0), .val (.int l1), .val (.int r1), .val (.int (0 : Int32)), .val (.int (1 : Int32)), .unset, .unset, .unset, .unset, .unset, .unset, .unset, .unset, .unset] [(.int cp), (.int (0 : Int32)), (.int (0 : Int32)), (.int sl), (.ref a379), (.ref a379)]))
      obtain ⟨_, _, ⟨T391, L391, k391, n391⟩, -, X391, ⟨Lc391, hQ391, l391, y391, z391⟩, st391⟩ := X379.specialBack hx (y := (⟨"com/example/lambdalane/lambdalane/NodeGraph", "<init>", "(IIII)V"⟩ : MethodName)) rfl hown (mvT hZ (hw _ (List.mem_of_getElem? (i := 4) rfl))) (mvT hZ (hw _ (List.mem_of_getElem? (i := 5) rfl))) (mvT hZ (hw _ (List.mem_of_getElem? (i := 6) rfl))) (by decide) (backOf (W := 1) (rmI l Z a0 hw [] a379 sl (0 : Int32) cp cap h379 n0 A379 F380 F381 F382 F383 F384 F385 F386 F387 F388 F389 F390 ge379 Z379 hcp (by omega)) hZ (hw _ (List.mem_of_getElem? (i := 6) rfl)) (hw _ (List.mem_of_getElem? (i := 3) rfl)) (by decide) (by decide)) (g := (mkF m 96 #[.val (.int i0), .val (.int i1), .val (.int i2), .val (.int i3), .val (.int i4), .val (.int i5), .val (.int sl), .val (.int sd), .val (.int cp), .val (.int l0), .val (.int r0), .val (.int l1), .val (.int r1), .val (.int (0 : Int32)), .val (.int (1 : Int32)), .unset, .unset, .unset, .unset, .unset, .unset, .unset, .unset, .unset] [(.int cp), (.int (0 : Int32)), (.int (0 : Int32)), (.int sl), (.ref a379), (.ref a379)])) rfl (by rw [hml]; rfl) (Steps.refl _) (a := a379) (argsL := [(.int sl), (.int (0 : Int32)), (.int (0 : Int32)), (.int cp)]) (rest := [(.ref a379)]) (lenOf own_pd1 rfl) rfl (by show 2 * 0 + _ ≤ _; exact Nat.le_of_eq rfl) (hb hby at_96) (fun _ _ => ⟨rfl, e379, (by decide : 1 + 6 ≤ _), (by decide : 12 + 12 ≤ _)⟩)
      dsimp only [Pt.U, Pt.locs, Pt.cells, Pt.slots] at X391 l391 y391 z391 st391 hQ391
      subst l391 y391 z391
      refine own_tr st391 ?_
      obtain ⟨rfl, N391, G391⟩ := hQ391
      obtain ⟨L391, X391, M391⟩ := own_hide X391 (Fr.app N0 N391)
      rw [← hsd] at G391
      have GE392 : Exa Z T391.heap a379 "com/example/lambdalane/lambdalane/NodeGraph" := by obtain ⟨_, _, _, _, _, _, _, _, ⟨q, -⟩, -⟩ := G391; exact q
      show own_Go p e below _ (T391.setTop (mkF m 99 #[.val (.int i0), .val (.int i1), .val (.int i2), .val (.int i3), .val (.int i4), .val (.int i5), .val (.int sl), .val (.int sd), .val (.int cp), .val (.int l0), .val (.int r0), .val (.int l1), .val (.int r1), .val (.int (0 : Int32)), .val (.int (1 : Int32)), .unset, .unset, .unset, .unset, .unset, .unset, .unset, .unset, .unset] [(.ref a379)]))
      refine own_by (fun _ kont => XS.astore X391.here hx rfl (hb hby at_99) rfl rfl (l' := #[.val (.int i0), .val (.int i1), .val (.int i2), .val (.int i3), .val (.int i4), .val (.int i5), .val (.int sl), .val (.int sd), .val (.int cp), .val (.int l0), .val (.int r0), .val (.int l1), .val (.int r1), .val (.int (0 : Int32)), .val (.int (1 : Int32)), .val (.ref a379), .unset, .unset, .unset, .unset, .unset, .unset, .unset, .unset]) rfl kont) ?_
      show own_Go p e below _ (T391.setTop (mkF m 101 #[.val (.int i0), .val (.int i1), .val (.int i2), .val (.int i3), .val (.int i4), .val (.int i5), .val (.int sl), .val (.int sd), .val (.int cp), .val (.int l0), .val (.int r0), .val (.int l1), .val (.int r1), .val (.int (0 : Int32)), .val (.int (1 : Int32)), .val (.ref a379), .unset, .unset, .unset, .unset, .unset, .unset, .unset, .unset] []))
      refine own_by (fun _ kont => XS.aload X391.here hx rfl (hb hby at_101) rfl rfl kont) ?_
      show own_Go p e below _ (T391.setTop (mkF m 103 #[.val (.int i0), .val (.int i1), .val (.int i2), .val (.int i3), .val (.int i4), .val (.int i5), .val (.int sl), .val (.int sd), .val (.int cp), .val (.int l0), .val (.int r0), .val (.int l1), .val (.int r1), .val (.int (0 : Int32)), .val (.int (1 : Int32)), .val (.ref a379), .unset, .unset, .unset, .unset, .unset, .unset, .unset, .unset] [(.ref a379)]))
      refine own_by (fun _ kont => XS.iload X391.here hx rfl (hb hby at_103) rfl kont) ?_
      show own_Go p e below _ (T391.setTop (mkF m 105 #[.val (.int i0), .val (.int i1), .val (.int i2), .val (.int i3), .val (.int i4), .val (.int i5), .val (.int sl), .val (.int sd), .val (.int cp), .val (.int l0), .val (.int r0), .val (.int l1), .val (.int r1), .val (.int (0 : Int32)), .val (.int (1 : Int32)), .val (.ref a379), .unset, .unset, .unset, .unset, .unset, .unset, .unset, .unset] [(.int l0), (.ref a379)]))
      refine own_by (fun _ kont => XS.iload X391.here hx rfl (hb hby at_105) rfl kont) ?_
      show own_Go p e below _ (T391.setTop (mkF m 107 #[.val (.int i0), .val (.int i1), .val (.int i2), .val (.int i3), .val (.int i4), .val (.int i5), .val (.int sl), .val (.int sd), .val (.int cp), .val (.int l0), .val (.int r0), .val (.int l1), .val (.int r1), .val (.int (0 : Int32)), .val (.int (1 : Int32)), .val (.ref a379), .unset, .unset, .unset, .unset, .unset, .unset, .unset, .unset] [(.int r0), (.int l0), (.ref a379)]))
      refine own_by (fun _ kont => XT.iconstV X391.here hx rfl (0 : Int32) (hb hby at_107) rfl kont) ?_
      show own_Go p e below _ (T391.setTop (mkF m 108 #[.val (.int i0), .val (.int i1), .val (.int i2), .val (.int i3), .val (.int i4), .val (.int i5), .val (.int sl), .val (.int sd), .val (.int cp), .val (.int l0), .val (.int r0), .val (.int l1), .val (.int r1), .val (.int (0 : Int32)), .val (.int (1 : Int32)), .val (.ref a379), .unset, .unset, .unset, .unset, .unset, .unset, .unset, .unset] [(.int (0 : Int32)), (.int r0), (.int l0), (.ref a379)]))
      obtain ⟨cq394, kq394, qa394, qb394, qc394⟩ := isOf hZ (rfl : T391.heap = T391.heap) GE392
      obtain ⟨_, _, ⟨T393, L393, k393, n393⟩, -, X393, ⟨Lc393, hQ393, l393, y393, z393⟩, st393⟩ := X391.virtualBack hx (y := (⟨"com/example/lambdalane/lambdalane/NodeGraph", "add", "(III)I"⟩ : MethodName)) (z := (⟨"com/example/lambdalane/lambdalane/NodeGraph", "add", "(III)I"⟩ : MethodName)) hown (mvT hZ (hw _ (List.mem_of_getElem? (i := 35) rfl))) (mvT hZ (hw _ (List.mem_of_getElem? (i := 36) rfl))) (notFace_of_selects (args := #[]) (mvT hZ (hw _ (List.mem_of_getElem? (i := 38) rfl)))) (mvT hZ (hw _ (List.mem_of_getElem? (i := 38) rfl))) (mvT hZ (hw _ (List.mem_of_getElem? (i := 37) rfl))) (by decide) (backOf (W := 0) (rmA l Z a0 hw [] a379 sd l0 r0 0 0 cap (fun _ => 0) (fun _ => 0) (fun _ => 0) (fun _ => -1) (fun _ => -1) (fun _ => -1) (fun _ => -1) T391.heap n0 G391 (by omega) (by omega) (by omega) (Or.inl ⟨rfl, rfl, rfl⟩)) hZ (hw _ (List.mem_of_getElem? (i := 39) rfl)) (hw _ (List.mem_of_getElem? (i := 3) rfl)) (by decide) (by decide)) qa394 qc394 (g := (mkF m 108 #[.val (.int i0), .val (.int i1), .val (.int i2), .val (.int i3), .val (.int i4), .val (.int i5), .val (.int sl), .val (.int sd), .val (.int cp), .val (.int l0), .val (.int r0), .val (.int l1), .val (.int r1), .val (.int (0 : Int32)), .val (.int (1 : Int32)), .val (.ref a379), .unset, .unset, .unset, .unset, .unset, .unset, .unset, .unset] [(.int (0 : Int32)), (.int r0), (.int l0), (.ref a379)])) rfl (by rw [hml]; rfl) (Steps.refl _) (argsL := [(.int l0), (.int r0), (.int (0 : Int32))]) (rest := []) (lenOf own_pd4 rfl) rfl (by show 2 * 0 + _ ≤ _; exact Nat.le_of_eq rfl) (hb hby at_108) (fun _ _ => ⟨rfl, (rfl : T391.heap = T391.heap), (by decide : 7 + 3 ≤ _), (by decide : 24 + 48 ≤ _)⟩)
      dsimp only [Pt.U, Pt.locs, Pt.cells, Pt.slots] at X393 l393 y393 z393 st393 hQ393
      subst l393 y393 z393
      refine own_tr st393 ?_
      obtain ⟨rfl, N393, cap393, u393, v393, G393⟩ := hQ393
      obtain ⟨L393, X393, M393⟩ := own_hide X393 (Fr.app M391 N393)
      obtain ⟨lq393, hlq393⟩ : ∃ f : Nat → Int32, f = (fun i => if i = 0 then l0 else (fun _ => 0) i) := ⟨_, rfl⟩
      obtain ⟨rq393, hrq393⟩ : ∃ f : Nat → Int32, f = (fun i => if i = 0 then r0 else (fun _ => 0) i) := ⟨_, rfl⟩
      rw [← hlq393, ← hrq393] at G393
      have GE395 : Exa Z T393.heap a379 "com/example/lambdalane/lambdalane/NodeGraph" := by obtain ⟨_, _, _, _, _, _, _, _, ⟨q, -⟩, -⟩ := G393; exact q
      show own_Go p e below _ (T393.setTop (mkF m 111 #[.val (.int i0), .val (.int i1), .val (.int i2), .val (.int i3), .val (.int i4), .val (.int i5), .val (.int sl), .val (.int sd), .val (.int cp), .val (.int l0), .val (.int r0), .val (.int l1), .val (.int r1), .val (.int (0 : Int32)), .val (.int (1 : Int32)), .val (.ref a379), .unset, .unset, .unset, .unset, .unset, .unset, .unset, .unset] [(.int (Int32.ofNat 0))]))
      refine own_by (fun _ kont => XS.istore X393.here hx rfl (hb hby at_111) rfl (l' := #[.val (.int i0), .val (.int i1), .val (.int i2), .val (.int i3), .val (.int i4), .val (.int i5), .val (.int sl), .val (.int sd), .val (.int cp), .val (.int l0), .val (.int r0), .val (.int l1), .val (.int r1), .val (.int (0 : Int32)), .val (.int (1 : Int32)), .val (.ref a379), .val (.int (Int32.ofNat 0)), .unset, .unset, .unset, .unset, .unset, .unset, .unset]) rfl kont) ?_
      show own_Go p e below _ (T393.setTop (mkF m 113 #[.val (.int i0), .val (.int i1), .val (.int i2), .val (.int i3), .val (.int i4), .val (.int i5), .val (.int sl), .val (.int sd), .val (.int cp), .val (.int l0), .val (.int r0), .val (.int l1), .val (.int r1), .val (.int (0 : Int32)), .val (.int (1 : Int32)), .val (.ref a379), .val (.int (Int32.ofNat 0)), .unset, .unset, .unset, .unset, .unset, .unset, .unset] []))
      refine own_by (fun _ kont => XS.aload X393.here hx rfl (hb hby at_113) rfl rfl kont) ?_
      show own_Go p e below _ (T393.setTop (mkF m 115 #[.val (.int i0), .val (.int i1), .val (.int i2), .val (.int i3), .val (.int i4), .val (.int i5), .val (.int sl), .val (.int sd), .val (.int cp), .val (.int l0), .val (.int r0), .val (.int l1), .val (.int r1), .val (.int (0 : Int32)), .val (.int (1 : Int32)), .val (.ref a379), .val (.int (Int32.ofNat 0)), .unset, .unset, .unset, .unset, .unset, .unset, .unset] [(.ref a379)]))
      refine own_by (fun _ kont => XS.iload X393.here hx rfl (hb hby at_115) rfl kont) ?_
      show own_Go p e below _ (T393.setTop (mkF m 117 #[.val (.int i0), .val (.int i1), .val (.int i2), .val (.int i3), .val (.int i4), .val (.int i5), .val (.int sl), .val (.int sd), .val (.int cp), .val (.int l0), .val (.int r0), .val (.int l1), .val (.int r1), .val (.int (0 : Int32)), .val (.int (1 : Int32)), .val (.ref a379), .val (.int (Int32.ofNat 0)), .unset, .unset, .unset, .unset, .unset, .unset, .unset] [(.int l1), (.ref a379)]))
      refine own_by (fun _ kont => XS.iload X393.here hx rfl (hb hby at_117) rfl kont) ?_
      show own_Go p e below _ (T393.setTop (mkF m 119 #[.val (.int i0), .val (.int i1), .val (.int i2), .val (.int i3), .val (.int i4), .val (.int i5), .val (.int sl), .val (.int sd), .val (.int cp), .val (.int l0), .val (.int r0), .val (.int l1), .val (.int r1), .val (.int (0 : Int32)), .val (.int (1 : Int32)), .val (.ref a379), .val (.int (Int32.ofNat 0)), .unset, .unset, .unset, .unset, .unset, .unset, .unset] [(.int r1), (.int l1), (.ref a379)]))
      refine own_by (fun _ kont => XT.iconstV X393.here hx rfl (0 : Int32) (hb hby at_119) rfl kont) ?_
      show own_Go p e below _ (T393.setTop (mkF m 120 #[.val (.int i0), .val (.int i1), .val (.int i2), .val (.int i3), .val (.int i4), .val (.int i5), .val (.int sl), .val (.int sd), .val (.int cp), .val (.int l0), .val (.int r0), .val (.int l1), .val (.int r1), .val (.int (0 : Int32)), .val (.int (1 : Int32)), .val (.ref a379), .val (.int (Int32.ofNat 0)), .unset, .unset, .unset, .unset, .unset, .unset, .unset] [(.int (0 : Int32)), (.int r1), (.int l1), (.ref a379)]))
      obtain ⟨cq397, kq397, qa397, qb397, qc397⟩ := isOf hZ (rfl : T393.heap = T393.heap) GE395
      obtain ⟨_, _, ⟨T396, L396, k396, n396⟩, -, X396, ⟨Lc396, hQ396, l396, y396, z396⟩, st396⟩ := X393.virtualBack hx (y := (⟨"com/example/lambdalane/lambdalane/NodeGraph", "add", "(III)I"⟩ : MethodName)) (z := (⟨"com/example/lambdalane/lambdalane/NodeGraph", "add", "(III)I"⟩ : MethodName)) hown (mvT hZ (hw _ (List.mem_of_getElem? (i := 35) rfl))) (mvT hZ (hw _ (List.mem_of_getElem? (i := 36) rfl))) (notFace_of_selects (args := #[]) (mvT hZ (hw _ (List.mem_of_getElem? (i := 38) rfl)))) (mvT hZ (hw _ (List.mem_of_getElem? (i := 38) rfl))) (mvT hZ (hw _ (List.mem_of_getElem? (i := 37) rfl))) (by decide) (backOf (W := 0) (rmA l Z a0 hw [] a379 sd l1 r1 0 1 cap393 lq393 rq393 _ (fun _ => -1) (fun _ => -1) (fun _ => -1) (fun _ => -1) T393.heap n0 G393 (by omega) (by omega) (by omega) (Or.inl ⟨rfl, rfl, rfl⟩)) hZ (hw _ (List.mem_of_getElem? (i := 39) rfl)) (hw _ (List.mem_of_getElem? (i := 3) rfl)) (by decide) (by decide)) qa397 qc397 (g := (mkF m 120 #[.val (.int i0), .val (.int i1), .val (.int i2), .val (.int i3), .val (.int i4), .val (.int i5), .val (.int sl), .val (.int sd), .val (.int cp), .val (.int l0), .val (.int r0), .val (.int l1), .val (.int r1), .val (.int (0 : Int32)), .val (.int (1 : Int32)), .val (.ref a379), .val (.int (Int32.ofNat 0)), .unset, .unset, .unset, .unset, .unset, .unset, .unset] [(.int (0 : Int32)), (.int r1), (.int l1), (.ref a379)])) rfl (by rw [hml]; rfl) (Steps.refl _) (argsL := [(.int l1), (.int r1), (.int (0 : Int32))]) (rest := []) (lenOf own_pd4 rfl) rfl (by show 2 * 0 + _ ≤ _; exact Nat.le_of_eq rfl) (hb hby at_120) (fun _ _ => ⟨rfl, (rfl : T393.heap = T393.heap), (by decide : 10 + 3 ≤ _), (by decide : 72 + 48 ≤ _)⟩)
      dsimp only [Pt.U, Pt.locs, Pt.cells, Pt.slots] at X396 l396 y396 z396 st396 hQ396
      subst l396 y396 z396
      refine own_tr st396 ?_
      obtain ⟨rfl, N396, cap396, u396, v396, G396⟩ := hQ396
      obtain ⟨L396, X396, M396⟩ := own_hide X396 (Fr.app M393 N396)
      obtain ⟨lq396, hlq396⟩ : ∃ f : Nat → Int32, f = (fun i => if i = 1 then l1 else lq393 i) := ⟨_, rfl⟩
      obtain ⟨rq396, hrq396⟩ : ∃ f : Nat → Int32, f = (fun i => if i = 1 then r1 else rq393 i) := ⟨_, rfl⟩
      rw [← hlq396, ← hrq396] at G396
      have GE398 : Exa Z T396.heap a379 "com/example/lambdalane/lambdalane/NodeGraph" := by obtain ⟨_, _, _, _, _, _, _, _, ⟨q, -⟩, -⟩ := G396; exact q
      show own_Go p e below _ (T396.setTop (mkF m 123 #[.val (.int i0), .val (.int i1), .val (.int i2), .val (.int i3), .val (.int i4), .val (.int i5), .val (.int sl), .val (.int sd), .val (.int cp), .val (.int l0), .val (.int r0), .val (.int l1), .val (.int r1), .val (.int (0 : Int32)), .val (.int (1 : Int32)), .val (.ref a379), .val (.int (Int32.ofNat 0)), .unset, .unset, .unset, .unset, .unset, .unset, .unset] [(.int (Int32.ofNat 1))]))
      refine own_by (fun _ kont => XS.istore X396.here hx rfl (hb hby at_123) rfl (l' := #[.val (.int i0), .val (.int i1), .val (.int i2), .val (.int i3), .val (.int i4), .val (.int i5), .val (.int sl), .val (.int sd), .val (.int cp), .val (.int l0), .val (.int r0), .val (.int l1), .val (.int r1), .val (.int (0 : Int32)), .val (.int (1 : Int32)), .val (.ref a379), .val (.int (Int32.ofNat 0)), .val (.int (Int32.ofNat 1)), .unset, .unset, .unset, .unset, .unset, .unset]) rfl kont) ?_
      show own_Go p e below _ (T396.setTop (mkF m 125 #[.val (.int i0), .val (.int i1), .val (.int i2), .val (.int i3), .val (.int i4), .val (.int i5), .val (.int sl), .val (.int sd), .val (.int cp), .val (.int l0), .val (.int r0), .val (.int l1), .val (.int r1), .val (.int (0 : Int32)), .val (.int (1 : Int32)), .val (.ref a379), .val (.int (Int32.ofNat 0)), .val (.int (Int32.ofNat 1)), .unset, .unset, .unset, .unset, .unset, .unset] []))
      refine own_by (fun _ kont => XS.iload X396.here hx rfl (hb hby at_125) rfl kont) ?_
      show own_Go p e below _ (T396.setTop (mkF m 127 #[.val (.int i0), .val (.int i1), .val (.int i2), .val (.int i3), .val (.int i4), .val (.int i5), .val (.int sl), .val (.int sd), .val (.int cp), .val (.int l0), .val (.int r0), .val (.int l1), .val (.int r1), .val (.int (0 : Int32)), .val (.int (1 : Int32)), .val (.ref a379), .val (.int (Int32.ofNat 0)), .val (.int (Int32.ofNat 1)), .unset, .unset, .unset, .unset, .unset, .unset] [(.int (0 : Int32))]))
      refine own_by (fun _ kont => XS.ifYes X396.here hx rfl (pc0 := 127) (pc' := 135) rfl (hb hby at_127) rfl (XT.i0_eq_t (by decide)) (by decide) (by decide) kont) ?_
      show own_Go p e below _ (T396.setTop (mkF m 135 #[.val (.int i0), .val (.int i1), .val (.int i2), .val (.int i3), .val (.int i4), .val (.int i5), .val (.int sl), .val (.int sd), .val (.int cp), .val (.int l0), .val (.int r0), .val (.int l1), .val (.int r1), .val (.int (0 : Int32)), .val (.int (1 : Int32)), .val (.ref a379), .val (.int (Int32.ofNat 0)), .val (.int (Int32.ofNat 1)), .unset, .unset, .unset, .unset, .unset, .unset] []))
      refine own_by (fun _ kont => XS.iload X396.here hx rfl (hb hby at_135) rfl kont) ?_
      show own_Go p e below _ (T396.setTop (mkF m 137 #[.val (.int i0), .val (.int i1), .val (.int i2), .val (.int i3), .val (.int i4), .val (.int i5), .val (.int sl), .val (.int sd), .val (.int cp), .val (.int l0), .val (.int r0), .val (.int l1), .val (.int r1), .val (.int (0 : Int32)), .val (.int (1 : Int32)), .val (.ref a379), .val (.int (Int32.ofNat 0)), .val (.int (Int32.ofNat 1)), .unset, .unset, .unset, .unset, .unset, .unset] [(.int (Int32.ofNat 0))]))
      refine own_by (fun _ kont => XS.istore X396.here hx rfl (hb hby at_137) rfl (l' := #[.val (.int i0), .val (.int i1), .val (.int i2), .val (.int i3), .val (.int i4), .val (.int i5), .val (.int sl), .val (.int sd), .val (.int cp), .val (.int l0), .val (.int r0), .val (.int l1), .val (.int r1), .val (.int (0 : Int32)), .val (.int (1 : Int32)), .val (.ref a379), .val (.int (Int32.ofNat 0)), .val (.int (Int32.ofNat 1)), .val (.int (Int32.ofNat 0)), .unset, .unset, .unset, .unset, .unset]) rfl kont) ?_
      show own_Go p e below _ (T396.setTop (mkF m 139 #[.val (.int i0), .val (.int i1), .val (.int i2), .val (.int i3), .val (.int i4), .val (.int i5), .val (.int sl), .val (.int sd), .val (.int cp), .val (.int l0), .val (.int r0), .val (.int l1), .val (.int r1), .val (.int (0 : Int32)), .val (.int (1 : Int32)), .val (.ref a379), .val (.int (Int32.ofNat 0)), .val (.int (Int32.ofNat 1)), .val (.int (Int32.ofNat 0)), .unset, .unset, .unset, .unset, .unset] []))
      refine own_by (fun _ kont => XS.iload X396.here hx rfl (hb hby at_139) rfl kont) ?_
      show own_Go p e below _ (T396.setTop (mkF m 141 #[.val (.int i0), .val (.int i1), .val (.int i2), .val (.int i3), .val (.int i4), .val (.int i5), .val (.int sl), .val (.int sd), .val (.int cp), .val (.int l0), .val (.int r0), .val (.int l1), .val (.int r1), .val (.int (0 : Int32)), .val (.int (1 : Int32)), .val (.ref a379), .val (.int (Int32.ofNat 0)), .val (.int (Int32.ofNat 1)), .val (.int (Int32.ofNat 0)), .unset, .unset, .unset, .unset, .unset] [(.int (0 : Int32))]))
      refine own_by (fun _ kont => XS.ifYes X396.here hx rfl (pc0 := 141) (pc' := 149) rfl (hb hby at_141) rfl (XT.i0_eq_t (by decide)) (by decide) (by decide) kont) ?_
      show own_Go p e below _ (T396.setTop (mkF m 149 #[.val (.int i0), .val (.int i1), .val (.int i2), .val (.int i3), .val (.int i4), .val (.int i5), .val (.int sl), .val (.int sd), .val (.int cp), .val (.int l0), .val (.int r0), .val (.int l1), .val (.int r1), .val (.int (0 : Int32)), .val (.int (1 : Int32)), .val (.ref a379), .val (.int (Int32.ofNat 0)), .val (.int (Int32.ofNat 1)), .val (.int (Int32.ofNat 0)), .unset, .unset, .unset, .unset, .unset] []))
      refine own_by (fun _ kont => XS.iload X396.here hx rfl (hb hby at_149) rfl kont) ?_
      show own_Go p e below _ (T396.setTop (mkF m 151 #[.val (.int i0), .val (.int i1), .val (.int i2), .val (.int i3), .val (.int i4), .val (.int i5), .val (.int sl), .val (.int sd), .val (.int cp), .val (.int l0), .val (.int r0), .val (.int l1), .val (.int r1), .val (.int (0 : Int32)), .val (.int (1 : Int32)), .val (.ref a379), .val (.int (Int32.ofNat 0)), .val (.int (Int32.ofNat 1)), .val (.int (Int32.ofNat 0)), .unset, .unset, .unset, .unset, .unset] [(.int l0)]))
      refine own_by (fun _ kont => XS.istore X396.here hx rfl (hb hby at_151) rfl (l' := #[.val (.int i0), .val (.int i1), .val (.int i2), .val (.int i3), .val (.int i4), .val (.int i5), .val (.int sl), .val (.int sd), .val (.int cp), .val (.int l0), .val (.int r0), .val (.int l1), .val (.int r1), .val (.int (0 : Int32)), .val (.int (1 : Int32)), .val (.ref a379), .val (.int (Int32.ofNat 0)), .val (.int (Int32.ofNat 1)), .val (.int (Int32.ofNat 0)), .val (.int l0), .unset, .unset, .unset, .unset]) rfl kont) ?_
      show own_Go p e below _ (T396.setTop (mkF m 153 #[.val (.int i0), .val (.int i1), .val (.int i2), .val (.int i3), .val (.int i4), .val (.int i5), .val (.int sl), .val (.int sd), .val (.int cp), .val (.int l0), .val (.int r0), .val (.int l1), .val (.int r1), .val (.int (0 : Int32)), .val (.int (1 : Int32)), .val (.ref a379), .val (.int (Int32.ofNat 0)), .val (.int (Int32.ofNat 1)), .val (.int (Int32.ofNat 0)), .val (.int l0), .unset, .unset, .unset, .unset] []))
      refine own_by (fun _ kont => XS.iload X396.here hx rfl (hb hby at_153) rfl kont) ?_
      show own_Go p e below _ (T396.setTop (mkF m 155 #[.val (.int i0), .val (.int i1), .val (.int i2), .val (.int i3), .val (.int i4), .val (.int i5), .val (.int sl), .val (.int sd), .val (.int cp), .val (.int l0), .val (.int r0), .val (.int l1), .val (.int r1), .val (.int (0 : Int32)), .val (.int (1 : Int32)), .val (.ref a379), .val (.int (Int32.ofNat 0)), .val (.int (Int32.ofNat 1)), .val (.int (Int32.ofNat 0)), .val (.int l0), .unset, .unset, .unset, .unset] [(.int sd)]))
      refine own_by (fun _ kont => XS.iload X396.here hx rfl (hb hby at_155) rfl kont) ?_
      show own_Go p e below _ (T396.setTop (mkF m 157 #[.val (.int i0), .val (.int i1), .val (.int i2), .val (.int i3), .val (.int i4), .val (.int i5), .val (.int sl), .val (.int sd), .val (.int cp), .val (.int l0), .val (.int r0), .val (.int l1), .val (.int r1), .val (.int (0 : Int32)), .val (.int (1 : Int32)), .val (.ref a379), .val (.int (Int32.ofNat 0)), .val (.int (Int32.ofNat 1)), .val (.int (Int32.ofNat 0)), .val (.int l0), .unset, .unset, .unset, .unset] [(.int (0 : Int32)), (.int sd)]))
      refine own_by (fun _ kont => XS.ifYes X396.here hx rfl (pc0 := 157) (pc' := 165) rfl (hb hby at_157) rfl (XT.i0_eq_t (by decide)) (by decide) (by decide) kont) ?_
      show own_Go p e below _ (T396.setTop (mkF m 165 #[.val (.int i0), .val (.int i1), .val (.int i2), .val (.int i3), .val (.int i4), .val (.int i5), .val (.int sl), .val (.int sd), .val (.int cp), .val (.int l0), .val (.int r0), .val (.int l1), .val (.int r1), .val (.int (0 : Int32)), .val (.int (1 : Int32)), .val (.ref a379), .val (.int (Int32.ofNat 0)), .val (.int (Int32.ofNat 1)), .val (.int (Int32.ofNat 0)), .val (.int l0), .unset, .unset, .unset, .unset] [(.int sd)]))
      refine own_by (fun _ kont => XS.iload X396.here hx rfl (hb hby at_165) rfl kont) ?_
      show own_Go p e below _ (T396.setTop (mkF m 167 #[.val (.int i0), .val (.int i1), .val (.int i2), .val (.int i3), .val (.int i4), .val (.int i5), .val (.int sl), .val (.int sd), .val (.int cp), .val (.int l0), .val (.int r0), .val (.int l1), .val (.int r1), .val (.int (0 : Int32)), .val (.int (1 : Int32)), .val (.ref a379), .val (.int (Int32.ofNat 0)), .val (.int (Int32.ofNat 1)), .val (.int (Int32.ofNat 0)), .val (.int l0), .unset, .unset, .unset, .unset] [(.int r0), (.int sd)]))
      refine own_by (fun _ kont => XS.iadd X396.here hx rfl (hb hby at_167) rfl kont) ?_
      show own_Go p e below _ (T396.setTop (mkF m 168 #[.val (.int i0), .val (.int i1), .val (.int i2), .val (.int i3), .val (.int i4), .val (.int i5), .val (.int sl), .val (.int sd), .val (.int cp), .val (.int l0), .val (.int r0), .val (.int l1), .val (.int r1), .val (.int (0 : Int32)), .val (.int (1 : Int32)), .val (.ref a379), .val (.int (Int32.ofNat 0)), .val (.int (Int32.ofNat 1)), .val (.int (Int32.ofNat 0)), .val (.int l0), .unset, .unset, .unset, .unset] [(.int (sd + r0))]))
      refine own_by (fun _ kont => XS.istore X396.here hx rfl (hb hby at_168) rfl (l' := #[.val (.int i0), .val (.int i1), .val (.int i2), .val (.int i3), .val (.int i4), .val (.int i5), .val (.int sl), .val (.int sd), .val (.int cp), .val (.int l0), .val (.int r0), .val (.int l1), .val (.int r1), .val (.int (0 : Int32)), .val (.int (1 : Int32)), .val (.ref a379), .val (.int (Int32.ofNat 0)), .val (.int (Int32.ofNat 1)), .val (.int (Int32.ofNat 0)), .val (.int l0), .val (.int (sd + r0)), .unset, .unset, .unset]) rfl kont) ?_
      show own_Go p e below _ (T396.setTop (mkF m 170 #[.val (.int i0), .val (.int i1), .val (.int i2), .val (.int i3), .val (.int i4), .val (.int i5), .val (.int sl), .val (.int sd), .val (.int cp), .val (.int l0), .val (.int r0), .val (.int l1), .val (.int r1), .val (.int (0 : Int32)), .val (.int (1 : Int32)), .val (.ref a379), .val (.int (Int32.ofNat 0)), .val (.int (Int32.ofNat 1)), .val (.int (Int32.ofNat 0)), .val (.int l0), .val (.int (sd + r0)), .unset, .unset, .unset] []))
      refine own_by (fun _ kont => XS.iload X396.here hx rfl (hb hby at_170) rfl kont) ?_
      show own_Go p e below _ (T396.setTop (mkF m 172 #[.val (.int i0), .val (.int i1), .val (.int i2), .val (.int i3), .val (.int i4), .val (.int i5), .val (.int sl), .val (.int sd), .val (.int cp), .val (.int l0), .val (.int r0), .val (.int l1), .val (.int r1), .val (.int (0 : Int32)), .val (.int (1 : Int32)), .val (.ref a379), .val (.int (Int32.ofNat 0)), .val (.int (Int32.ofNat 1)), .val (.int (Int32.ofNat 0)), .val (.int l0), .val (.int (sd + r0)), .unset, .unset, .unset] [(.int (1 : Int32))]))
      refine own_by (fun _ kont => XS.ifNo X396.here hx rfl (hb hby at_172) rfl (XT.i0_eq_f (by decide)) kont) ?_
      show own_Go p e below _ (T396.setTop (mkF m 175 #[.val (.int i0), .val (.int i1), .val (.int i2), .val (.int i3), .val (.int i4), .val (.int i5), .val (.int sl), .val (.int sd), .val (.int cp), .val (.int l0), .val (.int r0), .val (.int l1), .val (.int r1), .val (.int (0 : Int32)), .val (.int (1 : Int32)), .val (.ref a379), .val (.int (Int32.ofNat 0)), .val (.int (Int32.ofNat 1)), .val (.int (Int32.ofNat 0)), .val (.int l0), .val (.int (sd + r0)), .unset, .unset, .unset] []))
      refine own_by (fun _ kont => XS.iload X396.here hx rfl (hb hby at_175) rfl kont) ?_
      show own_Go p e below _ (T396.setTop (mkF m 177 #[.val (.int i0), .val (.int i1), .val (.int i2), .val (.int i3), .val (.int i4), .val (.int i5), .val (.int sl), .val (.int sd), .val (.int cp), .val (.int l0), .val (.int r0), .val (.int l1), .val (.int r1), .val (.int (0 : Int32)), .val (.int (1 : Int32)), .val (.ref a379), .val (.int (Int32.ofNat 0)), .val (.int (Int32.ofNat 1)), .val (.int (Int32.ofNat 0)), .val (.int l0), .val (.int (sd + r0)), .unset, .unset, .unset] [(.int l0)]))
      refine own_by (fun _ kont => XS.goto X396.here hx rfl (pc0 := 177) (pc' := 182) rfl (hb hby at_177) (by decide) (by decide) kont) ?_
      show own_Go p e below _ (T396.setTop (mkF m 182 #[.val (.int i0), .val (.int i1), .val (.int i2), .val (.int i3), .val (.int i4), .val (.int i5), .val (.int sl), .val (.int sd), .val (.int cp), .val (.int l0), .val (.int r0), .val (.int l1), .val (.int r1), .val (.int (0 : Int32)), .val (.int (1 : Int32)), .val (.ref a379), .val (.int (Int32.ofNat 0)), .val (.int (Int32.ofNat 1)), .val (.int (Int32.ofNat 0)), .val (.int l0), .val (.int (sd + r0)), .unset, .unset, .unset] [(.int l0)]))
      refine own_by (fun _ kont => XS.istore X396.here hx rfl (hb hby at_182) rfl (l' := #[.val (.int i0), .val (.int i1), .val (.int i2), .val (.int i3), .val (.int i4), .val (.int i5), .val (.int sl), .val (.int sd), .val (.int cp), .val (.int l0), .val (.int r0), .val (.int l1), .val (.int r1), .val (.int (0 : Int32)), .val (.int (1 : Int32)), .val (.ref a379), .val (.int (Int32.ofNat 0)), .val (.int (Int32.ofNat 1)), .val (.int (Int32.ofNat 0)), .val (.int l0), .val (.int (sd + r0)), .val (.int l0), .unset, .unset]) rfl kont) ?_
      show own_Go p e below _ (T396.setTop (mkF m 184 #[.val (.int i0), .val (.int i1), .val (.int i2), .val (.int i3), .val (.int i4), .val (.int i5), .val (.int sl), .val (.int sd), .val (.int cp), .val (.int l0), .val (.int r0), .val (.int l1), .val (.int r1), .val (.int (0 : Int32)), .val (.int (1 : Int32)), .val (.ref a379), .val (.int (Int32.ofNat 0)), .val (.int (Int32.ofNat 1)), .val (.int (Int32.ofNat 0)), .val (.int l0), .val (.int (sd + r0)), .val (.int l0), .unset, .unset] []))
      refine own_by (fun _ kont => XS.iload X396.here hx rfl (hb hby at_184) rfl kont) ?_
      show own_Go p e below _ (T396.setTop (mkF m 186 #[.val (.int i0), .val (.int i1), .val (.int i2), .val (.int i3), .val (.int i4), .val (.int i5), .val (.int sl), .val (.int sd), .val (.int cp), .val (.int l0), .val (.int r0), .val (.int l1), .val (.int r1), .val (.int (0 : Int32)), .val (.int (1 : Int32)), .val (.ref a379), .val (.int (Int32.ofNat 0)), .val (.int (Int32.ofNat 1)), .val (.int (Int32.ofNat 0)), .val (.int l0), .val (.int (sd + r0)), .val (.int l0), .unset, .unset] [(.int (1 : Int32))]))
      refine own_by (fun _ kont => XS.ifNo X396.here hx rfl (hb hby at_186) rfl (XT.i0_eq_f (by decide)) kont) ?_
      show own_Go p e below _ (T396.setTop (mkF m 189 #[.val (.int i0), .val (.int i1), .val (.int i2), .val (.int i3), .val (.int i4), .val (.int i5), .val (.int sl), .val (.int sd), .val (.int cp), .val (.int l0), .val (.int r0), .val (.int l1), .val (.int r1), .val (.int (0 : Int32)), .val (.int (1 : Int32)), .val (.ref a379), .val (.int (Int32.ofNat 0)), .val (.int (Int32.ofNat 1)), .val (.int (Int32.ofNat 0)), .val (.int l0), .val (.int (sd + r0)), .val (.int l0), .unset, .unset] []))
      refine own_by (fun _ kont => XS.iload X396.here hx rfl (hb hby at_189) rfl kont) ?_
      show own_Go p e below _ (T396.setTop (mkF m 191 #[.val (.int i0), .val (.int i1), .val (.int i2), .val (.int i3), .val (.int i4), .val (.int i5), .val (.int sl), .val (.int sd), .val (.int cp), .val (.int l0), .val (.int r0), .val (.int l1), .val (.int r1), .val (.int (0 : Int32)), .val (.int (1 : Int32)), .val (.ref a379), .val (.int (Int32.ofNat 0)), .val (.int (Int32.ofNat 1)), .val (.int (Int32.ofNat 0)), .val (.int l0), .val (.int (sd + r0)), .val (.int l0), .unset, .unset] [(.int (sd + r0))]))
      refine own_by (fun _ kont => XS.goto X396.here hx rfl (pc0 := 191) (pc' := 196) rfl (hb hby at_191) (by decide) (by decide) kont) ?_
      show own_Go p e below _ (T396.setTop (mkF m 196 #[.val (.int i0), .val (.int i1), .val (.int i2), .val (.int i3), .val (.int i4), .val (.int i5), .val (.int sl), .val (.int sd), .val (.int cp), .val (.int l0), .val (.int r0), .val (.int l1), .val (.int r1), .val (.int (0 : Int32)), .val (.int (1 : Int32)), .val (.ref a379), .val (.int (Int32.ofNat 0)), .val (.int (Int32.ofNat 1)), .val (.int (Int32.ofNat 0)), .val (.int l0), .val (.int (sd + r0)), .val (.int l0), .unset, .unset] [(.int (sd + r0))]))
      refine own_by (fun _ kont => XS.istore X396.here hx rfl (hb hby at_196) rfl (l' := #[.val (.int i0), .val (.int i1), .val (.int i2), .val (.int i3), .val (.int i4), .val (.int i5), .val (.int sl), .val (.int sd), .val (.int cp), .val (.int l0), .val (.int r0), .val (.int l1), .val (.int r1), .val (.int (0 : Int32)), .val (.int (1 : Int32)), .val (.ref a379), .val (.int (Int32.ofNat 0)), .val (.int (Int32.ofNat 1)), .val (.int (Int32.ofNat 0)), .val (.int l0), .val (.int (sd + r0)), .val (.int l0), .val (.int (sd + r0)), .unset]) rfl kont) ?_
      show own_Go p e below _ (T396.setTop (mkF m 198 #[.val (.int i0), .val (.int i1), .val (.int i2), .val (.int i3), .val (.int i4), .val (.int i5), .val (.int sl), .val (.int sd), .val (.int cp), .val (.int l0), .val (.int r0), .val (.int l1), .val (.int r1), .val (.int (0 : Int32)), .val (.int (1 : Int32)), .val (.ref a379), .val (.int (Int32.ofNat 0)), .val (.int (Int32.ofNat 1)), .val (.int (Int32.ofNat 0)), .val (.int l0), .val (.int (sd + r0)), .val (.int l0), .val (.int (sd + r0)), .unset] []))
      refine own_by (fun _ kont => XS.aload X396.here hx rfl (hb hby at_198) rfl rfl kont) ?_
      show own_Go p e below _ (T396.setTop (mkF m 200 #[.val (.int i0), .val (.int i1), .val (.int i2), .val (.int i3), .val (.int i4), .val (.int i5), .val (.int sl), .val (.int sd), .val (.int cp), .val (.int l0), .val (.int r0), .val (.int l1), .val (.int r1), .val (.int (0 : Int32)), .val (.int (1 : Int32)), .val (.ref a379), .val (.int (Int32.ofNat 0)), .val (.int (Int32.ofNat 1)), .val (.int (Int32.ofNat 0)), .val (.int l0), .val (.int (sd + r0)), .val (.int l0), .val (.int (sd + r0)), .unset] [(.ref a379)]))
      refine own_by (fun _ kont => XS.iload X396.here hx rfl (hb hby at_200) rfl kont) ?_
      show own_Go p e below _ (T396.setTop (mkF m 202 #[.val (.int i0), .val (.int i1), .val (.int i2), .val (.int i3), .val (.int i4), .val (.int i5), .val (.int sl), .val (.int sd), .val (.int cp), .val (.int l0), .val (.int r0), .val (.int l1), .val (.int r1), .val (.int (0 : Int32)), .val (.int (1 : Int32)), .val (.ref a379), .val (.int (Int32.ofNat 0)), .val (.int (Int32.ofNat 1)), .val (.int (Int32.ofNat 0)), .val (.int l0), .val (.int (sd + r0)), .val (.int l0), .val (.int (sd + r0)), .unset] [(.int (Int32.ofNat 0)), (.ref a379)]))
      refine own_by (fun _ kont => XS.iload X396.here hx rfl (hb hby at_202) rfl kont) ?_
      show own_Go p e below _ (T396.setTop (mkF m 204 #[.val (.int i0), .val (.int i1), .val (.int i2), .val (.int i3), .val (.int i4), .val (.int i5), .val (.int sl), .val (.int sd), .val (.int cp), .val (.int l0), .val (.int r0), .val (.int l1), .val (.int r1), .val (.int (0 : Int32)), .val (.int (1 : Int32)), .val (.ref a379), .val (.int (Int32.ofNat 0)), .val (.int (Int32.ofNat 1)), .val (.int (Int32.ofNat 0)), .val (.int l0), .val (.int (sd + r0)), .val (.int l0), .val (.int (sd + r0)), .unset] [(.int l0), (.int (Int32.ofNat 0)), (.ref a379)]))
      obtain ⟨cq400, kq400, qa400, qb400, qc400⟩ := isOf hZ (rfl : T396.heap = T396.heap) GE398
      obtain ⟨_, _, ⟨T399, L399, k399, n399⟩, -, X399, ⟨Lc399, hQ399, l399, y399, z399⟩, st399⟩ := X396.virtualBack hx (y := (⟨"com/example/lambdalane/lambdalane/NodeGraph", "otherEnd", "(II)I"⟩ : MethodName)) (z := (⟨"com/example/lambdalane/lambdalane/NodeGraph", "otherEnd", "(II)I"⟩ : MethodName)) hown (mvT hZ (hw _ (List.mem_of_getElem? (i := 56) rfl))) (mvT hZ (hw _ (List.mem_of_getElem? (i := 57) rfl))) (notFace_of_selects (args := #[]) (mvT hZ (hw _ (List.mem_of_getElem? (i := 59) rfl)))) (mvT hZ (hw _ (List.mem_of_getElem? (i := 59) rfl))) (mvT hZ (hw _ (List.mem_of_getElem? (i := 58) rfl))) (by decide) (backOf (W := 0) (rmO l Z a0 hw [] a379 sd l0 0 2 cap396 lq396 rq396 _ _ _ T396.heap n0 G396 (by omega) (by omega) (by omega)) hZ (hw _ (List.mem_of_getElem? (i := 60) rfl)) (hw _ (List.mem_of_getElem? (i := 3) rfl)) (by decide) (by decide)) qa400 qc400 (g := (mkF m 204 #[.val (.int i0), .val (.int i1), .val (.int i2), .val (.int i3), .val (.int i4), .val (.int i5), .val (.int sl), .val (.int sd), .val (.int cp), .val (.int l0), .val (.int r0), .val (.int l1), .val (.int r1), .val (.int (0 : Int32)), .val (.int (1 : Int32)), .val (.ref a379), .val (.int (Int32.ofNat 0)), .val (.int (Int32.ofNat 1)), .val (.int (Int32.ofNat 0)), .val (.int l0), .val (.int (sd + r0)), .val (.int l0), .val (.int (sd + r0)), .unset] [(.int l0), (.int (Int32.ofNat 0)), (.ref a379)])) rfl (by rw [hml]; rfl) (Steps.refl _) (argsL := [(.int (Int32.ofNat 0)), (.int l0)]) (rest := []) (lenOf own_pd6 rfl) rfl (by show 2 * 0 + _ ≤ _; exact Nat.le_of_eq rfl) (hb hby at_204) (fun _ _ => ⟨rfl, (rfl : T396.heap = T396.heap), (by decide : 13 + 0 ≤ _), (by decide : 120 + 0 ≤ _)⟩)
      dsimp only [Pt.U, Pt.locs, Pt.cells, Pt.slots] at X399 l399 y399 z399 st399 hQ399
      subst l399 y399 z399
      refine own_tr st399 ?_
      obtain ⟨rfl, N399, e399⟩ := hQ399
      obtain ⟨L399, X399, M399⟩ := own_hide X399 (Fr.app M396 N399)
      have hL399 : lq396 0 = l0 := by simp [hlq396, hlq393]
      have hR399 : rq396 0 = r0 := by simp [hrq396, hrq393]
      rw [hL399, hR399]
      rw [if_pos (rfl : l0 = l0)]
      show own_Go p e below _ (T399.setTop (mkF m 207 #[.val (.int i0), .val (.int i1), .val (.int i2), .val (.int i3), .val (.int i4), .val (.int i5), .val (.int sl), .val (.int sd), .val (.int cp), .val (.int l0), .val (.int r0), .val (.int l1), .val (.int r1), .val (.int (0 : Int32)), .val (.int (1 : Int32)), .val (.ref a379), .val (.int (Int32.ofNat 0)), .val (.int (Int32.ofNat 1)), .val (.int (Int32.ofNat 0)), .val (.int l0), .val (.int (sd + r0)), .val (.int l0), .val (.int (sd + r0)), .unset] [(.int (sd + r0))]))
      refine own_by (fun _ kont => XS.istore X399.here hx rfl (hb hby at_207) rfl (l' := #[.val (.int i0), .val (.int i1), .val (.int i2), .val (.int i3), .val (.int i4), .val (.int i5), .val (.int sl), .val (.int sd), .val (.int cp), .val (.int l0), .val (.int r0), .val (.int l1), .val (.int r1), .val (.int (0 : Int32)), .val (.int (1 : Int32)), .val (.ref a379), .val (.int (Int32.ofNat 0)), .val (.int (Int32.ofNat 1)), .val (.int (Int32.ofNat 0)), .val (.int l0), .val (.int (sd + r0)), .val (.int l0), .val (.int (sd + r0)), .val (.int (sd + r0))]) rfl kont) ?_
      show own_Go p e below _ (T399.setTop (mkF m 209 #[.val (.int i0), .val (.int i1), .val (.int i2), .val (.int i3), .val (.int i4), .val (.int i5), .val (.int sl), .val (.int sd), .val (.int cp), .val (.int l0), .val (.int r0), .val (.int l1), .val (.int r1), .val (.int (0 : Int32)), .val (.int (1 : Int32)), .val (.ref a379), .val (.int (Int32.ofNat 0)), .val (.int (Int32.ofNat 1)), .val (.int (Int32.ofNat 0)), .val (.int l0), .val (.int (sd + r0)), .val (.int l0), .val (.int (sd + r0)), .val (.int (sd + r0))] []))
      refine own_by (fun _ kont => XS.iload X399.here hx rfl (hb hby at_209) rfl kont) ?_
      show own_Go p e below _ (T399.setTop (mkF m 211 #[.val (.int i0), .val (.int i1), .val (.int i2), .val (.int i3), .val (.int i4), .val (.int i5), .val (.int sl), .val (.int sd), .val (.int cp), .val (.int l0), .val (.int r0), .val (.int l1), .val (.int r1), .val (.int (0 : Int32)), .val (.int (1 : Int32)), .val (.ref a379), .val (.int (Int32.ofNat 0)), .val (.int (Int32.ofNat 1)), .val (.int (Int32.ofNat 0)), .val (.int l0), .val (.int (sd + r0)), .val (.int l0), .val (.int (sd + r0)), .val (.int (sd + r0))] [(.int (Int32.ofNat 0))]))
      refine own_by (fun _ kont => XS.ifNo X399.here hx rfl (hb hby at_211) rfl (XT.i0_ne_f (rfl : Int32.ofNat 0 = (0 : Int32))) kont) ?_
      show own_Go p e below _ (T399.setTop (mkF m 214 #[.val (.int i0), .val (.int i1), .val (.int i2), .val (.int i3), .val (.int i4), .val (.int i5), .val (.int sl), .val (.int sd), .val (.int cp), .val (.int l0), .val (.int r0), .val (.int l1), .val (.int r1), .val (.int (0 : Int32)), .val (.int (1 : Int32)), .val (.ref a379), .val (.int (Int32.ofNat 0)), .val (.int (Int32.ofNat 1)), .val (.int (Int32.ofNat 0)), .val (.int l0), .val (.int (sd + r0)), .val (.int l0), .val (.int (sd + r0)), .val (.int (sd + r0))] []))
      refine own_by (fun _ kont => XS.iload X399.here hx rfl (hb hby at_214) rfl kont) ?_
      show own_Go p e below _ (T399.setTop (mkF m 216 #[.val (.int i0), .val (.int i1), .val (.int i2), .val (.int i3), .val (.int i4), .val (.int i5), .val (.int sl), .val (.int sd), .val (.int cp), .val (.int l0), .val (.int r0), .val (.int l1), .val (.int r1), .val (.int (0 : Int32)), .val (.int (1 : Int32)), .val (.ref a379), .val (.int (Int32.ofNat 0)), .val (.int (Int32.ofNat 1)), .val (.int (Int32.ofNat 0)), .val (.int l0), .val (.int (sd + r0)), .val (.int l0), .val (.int (sd + r0)), .val (.int (sd + r0))] [(.int (Int32.ofNat 1))]))
      refine own_by (fun _ kont => XT.iconstV X399.here hx rfl (1 : Int32) (hb hby at_216) rfl kont) ?_
      show own_Go p e below _ (T399.setTop (mkF m 217 #[.val (.int i0), .val (.int i1), .val (.int i2), .val (.int i3), .val (.int i4), .val (.int i5), .val (.int sl), .val (.int sd), .val (.int cp), .val (.int l0), .val (.int r0), .val (.int l1), .val (.int r1), .val (.int (0 : Int32)), .val (.int (1 : Int32)), .val (.ref a379), .val (.int (Int32.ofNat 0)), .val (.int (Int32.ofNat 1)), .val (.int (Int32.ofNat 0)), .val (.int l0), .val (.int (sd + r0)), .val (.int l0), .val (.int (sd + r0)), .val (.int (sd + r0))] [(.int (1 : Int32)), (.int (Int32.ofNat 1))]))
      refine own_by (fun _ kont => XS.icmpNo X399.here hx rfl (hb hby at_217) rfl (XT.ii_ne_f (rfl : Int32.ofNat 1 = (1 : Int32))) kont) ?_
      show own_Go p e below _ (T399.setTop (mkF m 220 #[.val (.int i0), .val (.int i1), .val (.int i2), .val (.int i3), .val (.int i4), .val (.int i5), .val (.int sl), .val (.int sd), .val (.int cp), .val (.int l0), .val (.int r0), .val (.int l1), .val (.int r1), .val (.int (0 : Int32)), .val (.int (1 : Int32)), .val (.ref a379), .val (.int (Int32.ofNat 0)), .val (.int (Int32.ofNat 1)), .val (.int (Int32.ofNat 0)), .val (.int l0), .val (.int (sd + r0)), .val (.int l0), .val (.int (sd + r0)), .val (.int (sd + r0))] []))
      refine own_by (fun _ kont => XS.iload X399.here hx rfl (hb hby at_220) rfl kont) ?_
      show own_Go p e below _ (T399.setTop (mkF m 222 #[.val (.int i0), .val (.int i1), .val (.int i2), .val (.int i3), .val (.int i4), .val (.int i5), .val (.int sl), .val (.int sd), .val (.int cp), .val (.int l0), .val (.int r0), .val (.int l1), .val (.int r1), .val (.int (0 : Int32)), .val (.int (1 : Int32)), .val (.ref a379), .val (.int (Int32.ofNat 0)), .val (.int (Int32.ofNat 1)), .val (.int (Int32.ofNat 0)), .val (.int l0), .val (.int (sd + r0)), .val (.int l0), .val (.int (sd + r0)), .val (.int (sd + r0))] [(.int (sd + r0))]))
      refine own_by (fun _ kont => XS.iload X399.here hx rfl (hb hby at_222) rfl kont) ?_
      show own_Go p e below _ (T399.setTop (mkF m 224 #[.val (.int i0), .val (.int i1), .val (.int i2), .val (.int i3), .val (.int i4), .val (.int i5), .val (.int sl), .val (.int sd), .val (.int cp), .val (.int l0), .val (.int r0), .val (.int l1), .val (.int r1), .val (.int (0 : Int32)), .val (.int (1 : Int32)), .val (.ref a379), .val (.int (Int32.ofNat 0)), .val (.int (Int32.ofNat 1)), .val (.int (Int32.ofNat 0)), .val (.int l0), .val (.int (sd + r0)), .val (.int l0), .val (.int (sd + r0)), .val (.int (sd + r0))] [(.int (sd + r0)), (.int (sd + r0))]))
      refine own_by (fun _ kont => XS.icmpNo X399.here hx rfl (hb hby at_224) rfl (XT.ii_ne_f rfl) kont) ?_
      show own_Go p e below _ (T399.setTop (mkF m 227 #[.val (.int i0), .val (.int i1), .val (.int i2), .val (.int i3), .val (.int i4), .val (.int i5), .val (.int sl), .val (.int sd), .val (.int cp), .val (.int l0), .val (.int r0), .val (.int l1), .val (.int r1), .val (.int (0 : Int32)), .val (.int (1 : Int32)), .val (.ref a379), .val (.int (Int32.ofNat 0)), .val (.int (Int32.ofNat 1)), .val (.int (Int32.ofNat 0)), .val (.int l0), .val (.int (sd + r0)), .val (.int l0), .val (.int (sd + r0)), .val (.int (sd + r0))] []))
      refine own_by (fun _ kont => XS.aload X399.here hx rfl (hb hby at_227) rfl rfl kont) ?_
      show own_Go p e below _ (T399.setTop (mkF m 229 #[.val (.int i0), .val (.int i1), .val (.int i2), .val (.int i3), .val (.int i4), .val (.int i5), .val (.int sl), .val (.int sd), .val (.int cp), .val (.int l0), .val (.int r0), .val (.int l1), .val (.int r1), .val (.int (0 : Int32)), .val (.int (1 : Int32)), .val (.ref a379), .val (.int (Int32.ofNat 0)), .val (.int (Int32.ofNat 1)), .val (.int (Int32.ofNat 0)), .val (.int l0), .val (.int (sd + r0)), .val (.int l0), .val (.int (sd + r0)), .val (.int (sd + r0))] [(.ref a379)]))
      refine own_by (fun _ kont => XS.iload X399.here hx rfl (hb hby at_229) rfl kont) ?_
      show own_Go p e below _ (T399.setTop (mkF m 231 #[.val (.int i0), .val (.int i1), .val (.int i2), .val (.int i3), .val (.int i4), .val (.int i5), .val (.int sl), .val (.int sd), .val (.int cp), .val (.int l0), .val (.int r0), .val (.int l1), .val (.int r1), .val (.int (0 : Int32)), .val (.int (1 : Int32)), .val (.ref a379), .val (.int (Int32.ofNat 0)), .val (.int (Int32.ofNat 1)), .val (.int (Int32.ofNat 0)), .val (.int l0), .val (.int (sd + r0)), .val (.int l0), .val (.int (sd + r0)), .val (.int (sd + r0))] [(.int (Int32.ofNat 0)), (.ref a379)]))
      refine own_by (fun _ kont => XS.iload X399.here hx rfl (hb hby at_231) rfl kont) ?_
      show own_Go p e below _ (T399.setTop (mkF m 233 #[.val (.int i0), .val (.int i1), .val (.int i2), .val (.int i3), .val (.int i4), .val (.int i5), .val (.int sl), .val (.int sd), .val (.int cp), .val (.int l0), .val (.int r0), .val (.int l1), .val (.int r1), .val (.int (0 : Int32)), .val (.int (1 : Int32)), .val (.ref a379), .val (.int (Int32.ofNat 0)), .val (.int (Int32.ofNat 1)), .val (.int (Int32.ofNat 0)), .val (.int l0), .val (.int (sd + r0)), .val (.int l0), .val (.int (sd + r0)), .val (.int (sd + r0))] [(.int (sd + r0)), (.int (Int32.ofNat 0)), (.ref a379)]))
      obtain ⟨cq402, kq402, qa402, qb402, qc402⟩ := isOf hZ e399 GE398
      obtain ⟨_, _, ⟨T401, L401, k401, n401⟩, -, X401, ⟨Lc401, hQ401, l401, y401, z401⟩, st401⟩ := X399.virtualBack hx (y := (⟨"com/example/lambdalane/lambdalane/NodeGraph", "otherEnd", "(II)I"⟩ : MethodName)) (z := (⟨"com/example/lambdalane/lambdalane/NodeGraph", "otherEnd", "(II)I"⟩ : MethodName)) hown (mvT hZ (hw _ (List.mem_of_getElem? (i := 56) rfl))) (mvT hZ (hw _ (List.mem_of_getElem? (i := 57) rfl))) (notFace_of_selects (args := #[]) (mvT hZ (hw _ (List.mem_of_getElem? (i := 59) rfl)))) (mvT hZ (hw _ (List.mem_of_getElem? (i := 59) rfl))) (mvT hZ (hw _ (List.mem_of_getElem? (i := 58) rfl))) (by decide) (backOf (W := 0) (rmO l Z a0 hw [] a379 sd (sd + r0) 0 2 cap396 lq396 rq396 _ _ _ T396.heap n0 G396 (by omega) (by omega) (by omega)) hZ (hw _ (List.mem_of_getElem? (i := 60) rfl)) (hw _ (List.mem_of_getElem? (i := 3) rfl)) (by decide) (by decide)) qa402 qc402 (g := (mkF m 233 #[.val (.int i0), .val (.int i1), .val (.int i2), .val (.int i3), .val (.int i4), .val (.int i5), .val (.int sl), .val (.int sd), .val (.int cp), .val (.int l0), .val (.int r0), .val (.int l1), .val (.int r1), .val (.int (0 : Int32)), .val (.int (1 : Int32)), .val (.ref a379), .val (.int (Int32.ofNat 0)), .val (.int (Int32.ofNat 1)), .val (.int (Int32.ofNat 0)), .val (.int l0), .val (.int (sd + r0)), .val (.int l0), .val (.int (sd + r0)), .val (.int (sd + r0))] [(.int (sd + r0)), (.int (Int32.ofNat 0)), (.ref a379)])) rfl (by rw [hml]; rfl) (Steps.refl _) (argsL := [(.int (Int32.ofNat 0)), (.int (sd + r0))]) (rest := []) (lenOf own_pd6 rfl) rfl (by show 2 * 0 + _ ≤ _; exact Nat.le_of_eq rfl) (hb hby at_233) (fun _ _ => ⟨rfl, e399, (by decide : 13 + 0 ≤ _), (by decide : 120 + 0 ≤ _)⟩)
      dsimp only [Pt.U, Pt.locs, Pt.cells, Pt.slots] at X401 l401 y401 z401 st401 hQ401
      subst l401 y401 z401
      refine own_tr st401 ?_
      obtain ⟨rfl, N401, e401⟩ := hQ401
      obtain ⟨L401, X401, M401⟩ := own_hide X401 (Fr.app M399 N401)
      have hL401 : lq396 0 = l0 := by simp [hlq396, hlq393]
      have hR401 : rq396 0 = r0 := by simp [hrq396, hrq393]
      rw [hL401, hR401]
      rw [if_neg (own_far bsd br0 bl0)]
      show own_Go p e below _ (T401.setTop (mkF m 236 #[.val (.int i0), .val (.int i1), .val (.int i2), .val (.int i3), .val (.int i4), .val (.int i5), .val (.int sl), .val (.int sd), .val (.int cp), .val (.int l0), .val (.int r0), .val (.int l1), .val (.int r1), .val (.int (0 : Int32)), .val (.int (1 : Int32)), .val (.ref a379), .val (.int (Int32.ofNat 0)), .val (.int (Int32.ofNat 1)), .val (.int (Int32.ofNat 0)), .val (.int l0), .val (.int (sd + r0)), .val (.int l0), .val (.int (sd + r0)), .val (.int (sd + r0))] [(.int l0)]))
      refine own_by (fun _ kont => XS.iload X401.here hx rfl (hb hby at_236) rfl kont) ?_
      show own_Go p e below _ (T401.setTop (mkF m 238 #[.val (.int i0), .val (.int i1), .val (.int i2), .val (.int i3), .val (.int i4), .val (.int i5), .val (.int sl), .val (.int sd), .val (.int cp), .val (.int l0), .val (.int r0), .val (.int l1), .val (.int r1), .val (.int (0 : Int32)), .val (.int (1 : Int32)), .val (.ref a379), .val (.int (Int32.ofNat 0)), .val (.int (Int32.ofNat 1)), .val (.int (Int32.ofNat 0)), .val (.int l0), .val (.int (sd + r0)), .val (.int l0), .val (.int (sd + r0)), .val (.int (sd + r0))] [(.int l0), (.int l0)]))
      refine own_by (fun _ kont => XS.icmpNo X401.here hx rfl (hb hby at_238) rfl (XT.ii_ne_f rfl) kont) ?_
      show own_Go p e below _ (T401.setTop (mkF m 241 #[.val (.int i0), .val (.int i1), .val (.int i2), .val (.int i3), .val (.int i4), .val (.int i5), .val (.int sl), .val (.int sd), .val (.int cp), .val (.int l0), .val (.int r0), .val (.int l1), .val (.int r1), .val (.int (0 : Int32)), .val (.int (1 : Int32)), .val (.ref a379), .val (.int (Int32.ofNat 0)), .val (.int (Int32.ofNat 1)), .val (.int (Int32.ofNat 0)), .val (.int l0), .val (.int (sd + r0)), .val (.int l0), .val (.int (sd + r0)), .val (.int (sd + r0))] []))
      refine own_by (fun _ kont => XT.iconstV X401.here hx rfl (1 : Int32) (hb hby at_241) rfl kont) ?_
      show own_Go p e below _ (T401.setTop (mkF m 242 #[.val (.int i0), .val (.int i1), .val (.int i2), .val (.int i3), .val (.int i4), .val (.int i5), .val (.int sl), .val (.int sd), .val (.int cp), .val (.int l0), .val (.int r0), .val (.int l1), .val (.int r1), .val (.int (0 : Int32)), .val (.int (1 : Int32)), .val (.ref a379), .val (.int (Int32.ofNat 0)), .val (.int (Int32.ofNat 1)), .val (.int (Int32.ofNat 0)), .val (.int l0), .val (.int (sd + r0)), .val (.int l0), .val (.int (sd + r0)), .val (.int (sd + r0))] [(.int (1 : Int32))]))
      refine own_by (fun _ kont => XS.goto X401.here hx rfl (pc0 := 242) (pc' := 246) rfl (hb hby at_242) (by decide) (by decide) kont) ?_
      show own_Go p e below _ (T401.setTop (mkF m 246 #[.val (.int i0), .val (.int i1), .val (.int i2), .val (.int i3), .val (.int i4), .val (.int i5), .val (.int sl), .val (.int sd), .val (.int cp), .val (.int l0), .val (.int r0), .val (.int l1), .val (.int r1), .val (.int (0 : Int32)), .val (.int (1 : Int32)), .val (.ref a379), .val (.int (Int32.ofNat 0)), .val (.int (Int32.ofNat 1)), .val (.int (Int32.ofNat 0)), .val (.int l0), .val (.int (sd + r0)), .val (.int l0), .val (.int (sd + r0)), .val (.int (sd + r0))] [(.int (1 : Int32))]))
      exact own_ret X401 hx hlk hret rfl (Or.inl ⟨rfl, by simp, _, rfl⟩) (hb hby at_246) ⟨rfl, M401⟩ (by decide) (by decide)
  · refine own_by (fun _ kont => XS.ifNo X0.here hx rfl (hb hby at_62) rfl (XT.i0_eq_f c62) kont) ?_
    show own_Go p e below _ (s₁.setTop (mkF m 65 #[.val (.int i0), .val (.int i1), .val (.int i2), .val (.int i3), .val (.int i4), .val (.int i5), .val (.int sl), .val (.int sd), .val (.int cp), .val (.int l0), .val (.int r0), .val (.int l1), .val (.int r1), .unset, .unset, .unset, .unset, .unset, .unset, .unset, .unset, .unset, .unset, .unset] []))
    refine own_by (fun _ kont => XT.iconstV X0.here hx rfl (1 : Int32) (hb hby at_65) rfl kont) ?_
    show own_Go p e below _ (s₁.setTop (mkF m 66 #[.val (.int i0), .val (.int i1), .val (.int i2), .val (.int i3), .val (.int i4), .val (.int i5), .val (.int sl), .val (.int sd), .val (.int cp), .val (.int l0), .val (.int r0), .val (.int l1), .val (.int r1), .unset, .unset, .unset, .unset, .unset, .unset, .unset, .unset, .unset, .unset, .unset] [(.int (1 : Int32))]))
    refine own_by (fun _ kont => XS.goto X0.here hx rfl (pc0 := 66) (pc' := 70) rfl (hb hby at_66) (by decide) (by decide) kont) ?_
    show own_Go p e below _ (s₁.setTop (mkF m 70 #[.val (.int i0), .val (.int i1), .val (.int i2), .val (.int i3), .val (.int i4), .val (.int i5), .val (.int sl), .val (.int sd), .val (.int cp), .val (.int l0), .val (.int r0), .val (.int l1), .val (.int r1), .unset, .unset, .unset, .unset, .unset, .unset, .unset, .unset, .unset, .unset, .unset] [(.int (1 : Int32))]))
    refine own_by (fun _ kont => XS.istore X0.here hx rfl (hb hby at_70) rfl (l' := #[.val (.int i0), .val (.int i1), .val (.int i2), .val (.int i3), .val (.int i4), .val (.int i5), .val (.int sl), .val (.int sd), .val (.int cp), .val (.int l0), .val (.int r0), .val (.int l1), .val (.int r1), .val (.int (1 : Int32)), .unset, .unset, .unset, .unset, .unset, .unset, .unset, .unset, .unset, .unset]) rfl kont) ?_
    show own_Go p e below _ (s₁.setTop (mkF m 72 #[.val (.int i0), .val (.int i1), .val (.int i2), .val (.int i3), .val (.int i4), .val (.int i5), .val (.int sl), .val (.int sd), .val (.int cp), .val (.int l0), .val (.int r0), .val (.int l1), .val (.int r1), .val (.int (1 : Int32)), .unset, .unset, .unset, .unset, .unset, .unset, .unset, .unset, .unset, .unset] []))
    refine own_by (fun _ kont => XS.iload X0.here hx rfl (hb hby at_72) rfl kont) ?_
    show own_Go p e below _ (s₁.setTop (mkF m 74 #[.val (.int i0), .val (.int i1), .val (.int i2), .val (.int i3), .val (.int i4), .val (.int i5), .val (.int sl), .val (.int sd), .val (.int cp), .val (.int l0), .val (.int r0), .val (.int l1), .val (.int r1), .val (.int (1 : Int32)), .unset, .unset, .unset, .unset, .unset, .unset, .unset, .unset, .unset, .unset] [(.int i5)]))
    refine own_by (fun _ kont => XT.iconstV X0.here hx rfl (2 : Int32) (hb hby at_74) rfl kont) ?_
    show own_Go p e below _ (s₁.setTop (mkF m 75 #[.val (.int i0), .val (.int i1), .val (.int i2), .val (.int i3), .val (.int i4), .val (.int i5), .val (.int sl), .val (.int sd), .val (.int cp), .val (.int l0), .val (.int r0), .val (.int l1), .val (.int r1), .val (.int (1 : Int32)), .unset, .unset, .unset, .unset, .unset, .unset, .unset, .unset, .unset, .unset] [(.int (2 : Int32)), (.int i5)]))
    refine own_by (fun _ kont => XS.iand X0.here hx rfl (hb hby at_75) rfl kont) ?_
    show own_Go p e below _ (s₁.setTop (mkF m 76 #[.val (.int i0), .val (.int i1), .val (.int i2), .val (.int i3), .val (.int i4), .val (.int i5), .val (.int sl), .val (.int sd), .val (.int cp), .val (.int l0), .val (.int r0), .val (.int l1), .val (.int r1), .val (.int (1 : Int32)), .unset, .unset, .unset, .unset, .unset, .unset, .unset, .unset, .unset, .unset] [(.int (i5 &&& (2 : Int32)))]))
    by_cases c76 : (i5 &&& (2 : Int32)) = (0 : Int32)
    · refine own_by (fun _ kont => XS.ifYes X0.here hx rfl (pc0 := 76) (pc' := 83) rfl (hb hby at_76) rfl (XT.i0_eq_t c76) (by decide) (by decide) kont) ?_
      show own_Go p e below _ (s₁.setTop (mkF m 83 #[.val (.int i0), .val (.int i1), .val (.int i2), .val (.int i3), .val (.int i4), .val (.int i5), .val (.int sl), .val (.int sd), .val (.int cp), .val (.int l0), .val (.int r0), .val (.int l1), .val (.int r1), .val (.int (1 : Int32)), .unset, .unset, .unset, .unset, .unset, .unset, .unset, .unset, .unset, .unset] []))
      refine own_by (fun _ kont => XT.iconstV X0.here hx rfl (0 : Int32) (hb hby at_83) rfl kont) ?_
      show own_Go p e below _ (s₁.setTop (mkF m 84 #[.val (.int i0), .val (.int i1), .val (.int i2), .val (.int i3), .val (.int i4), .val (.int i5), .val (.int sl), .val (.int sd), .val (.int cp), .val (.int l0), .val (.int r0), .val (.int l1), .val (.int r1), .val (.int (1 : Int32)), .unset, .unset, .unset, .unset, .unset, .unset, .unset, .unset, .unset, .unset] [(.int (0 : Int32))]))
      refine own_by (fun _ kont => XS.istore X0.here hx rfl (hb hby at_84) rfl (l' := #[.val (.int i0), .val (.int i1), .val (.int i2), .val (.int i3), .val (.int i4), .val (.int i5), .val (.int sl), .val (.int sd), .val (.int cp), .val (.int l0), .val (.int r0), .val (.int l1), .val (.int r1), .val (.int (1 : Int32)), .val (.int (0 : Int32)), .unset, .unset, .unset, .unset, .unset, .unset, .unset, .unset, .unset]) rfl kont) ?_
      show own_Go p e below _ (s₁.setTop (mkF m 86 #[.val (.int i0), .val (.int i1), .val (.int i2), .val (.int i3), .val (.int i4), .val (.int i5), .val (.int sl), .val (.int sd), .val (.int cp), .val (.int l0), .val (.int r0), .val (.int l1), .val (.int r1), .val (.int (1 : Int32)), .val (.int (0 : Int32)), .unset, .unset, .unset, .unset, .unset, .unset, .unset, .unset, .unset] []))
      obtain ⟨T403, h403, X403, e403, E403, A403, D403, -, st403⟩ := newO X0 hx hZ hown (hw _ (List.mem_of_getElem? (i := 1) rfl)) (hw _ (List.mem_of_getElem? (i := 2) rfl)) (hw _ (List.mem_of_getElem? (i := 3) rfl)) e0 (g := (mkF m 86 #[.val (.int i0), .val (.int i1), .val (.int i2), .val (.int i3), .val (.int i4), .val (.int i5), .val (.int sl), .val (.int sd), .val (.int cp), .val (.int l0), .val (.int r0), .val (.int l1), .val (.int r1), .val (.int (1 : Int32)), .val (.int (0 : Int32)), .unset, .unset, .unset, .unset, .unset, .unset, .unset, .unset, .unset] [])) rfl (hb hby at_86) (by decide) (by decide)
      obtain ⟨a403, g403⟩ : ∃ z, z = h0.size := ⟨_, rfl⟩
      rw [← g403] at A403 D403 st403
      have ge403 : n0 ≤ a403 := by rw [g403]; exact Z0
      have Z403 : n0 ≤ h403.size := Nat.le_trans Z0 E403.1
      have F404 : Fld Z h403 a403 "com/example/lambdalane/lambdalane/NodeGraph" "nextFresh" "I" (.int (0 : Int32)) := D403 (Or.inl (hw _ (List.mem_of_getElem? (i := 11) rfl))) (ty := .int) (by decide)
      have F405 : Fld Z h403 a403 "com/example/lambdalane/lambdalane/NodeGraph" "side" "I" (.int (0 : Int32)) := D403 (Or.inr (hw _ (List.mem_of_getElem? (i := 13) rfl))) (ty := .int) (by decide)
      have F406 : Fld Z h403 a403 "com/example/lambdalane/lambdalane/NodeGraph" "load" "I" (.int (0 : Int32)) := D403 (Or.inr (hw _ (List.mem_of_getElem? (i := 15) rfl))) (ty := .int) (by decide)
      have F407 : Fld Z h403 a403 "com/example/lambdalane/lambdalane/NodeGraph" "colourLimit" "I" (.int (0 : Int32)) := D403 (Or.inr (hw _ (List.mem_of_getElem? (i := 17) rfl))) (ty := .int) (by decide)
      have F408 : Fld Z h403 a403 "com/example/lambdalane/lambdalane/NodeGraph" "left" "[I" .null := D403 (Or.inl (hw _ (List.mem_of_getElem? (i := 20) rfl))) (ty := (.array .int)) (by decide)
      have F409 : Fld Z h403 a403 "com/example/lambdalane/lambdalane/NodeGraph" "right" "[I" .null := D403 (Or.inl (hw _ (List.mem_of_getElem? (i := 22) rfl))) (ty := (.array .int)) (by decide)
      have F410 : Fld Z h403 a403 "com/example/lambdalane/lambdalane/NodeGraph" "colour" "[I" .null := D403 (Or.inl (hw _ (List.mem_of_getElem? (i := 24) rfl))) (ty := (.array .int)) (by decide)
      have F411 : Fld Z h403 a403 "com/example/lambdalane/lambdalane/NodeGraph" "inEdgeOf" "[I" .null := D403 (Or.inr (hw _ (List.mem_of_getElem? (i := 26) rfl))) (ty := (.array .int)) (by decide)
      have F412 : Fld Z h403 a403 "com/example/lambdalane/lambdalane/NodeGraph" "outEdgeOf" "[I" .null := D403 (Or.inr (hw _ (List.mem_of_getElem? (i := 28) rfl))) (ty := (.array .int)) (by decide)
      have F413 : Fld Z h403 a403 "com/example/lambdalane/lambdalane/NodeGraph" "colourMark" "[I" .null := D403 (Or.inr (hw _ (List.mem_of_getElem? (i := 30) rfl))) (ty := (.array .int)) (by decide)
      have F414 : Fld Z h403 a403 "com/example/lambdalane/lambdalane/NodeGraph" "size" "I" (.int (0 : Int32)) := D403 (Or.inl (hw _ (List.mem_of_getElem? (i := 41) rfl))) (ty := .int) (by decide)
      refine own_by st403 ?_
      show own_Go p e below _ (T403.setTop (mkF m 89 #[.val (.int i0), .val (.int i1), .val (.int i2), .val (.int i3), .val (.int i4), .val (.int i5), .val (.int sl), .val (.int sd), .val (.int cp), .val (.int l0), .val (.int r0), .val (.int l1), .val (.int r1), .val (.int (1 : Int32)), .val (.int (0 : Int32)), .unset, .unset, .unset, .unset, .unset, .unset, .unset, .unset, .unset] [(.ref a403)]))
      refine own_by (fun _ kont => XS.dup X403.here hx rfl (hb hby at_89) rfl rfl kont) ?_
      show own_Go p e below _ (T403.setTop (mkF m 90 #[.val (.int i0), .val (.int i1), .val (.int i2), .val (.int i3), .val (.int i4), .val (.int i5), .val (.int sl), .val (.int sd), .val (.int cp), .val (.int l0), .val (.int r0), .val (.int l1), .val (.int r1), .val (.int (1 : Int32)), .val (.int (0 : Int32)), .unset, .unset, .unset, .unset, .unset, .unset, .unset, .unset, .unset] [(.ref a403), (.ref a403)]))
      refine own_by (fun _ kont => XS.iload X403.here hx rfl (hb hby at_90) rfl kont) ?_
      show own_Go p e below _ (T403.setTop (mkF m 92 #[.val (.int i0), .val (.int i1), .val (.int i2), .val (.int i3), .val (.int i4), .val (.int i5), .val (.int sl), .val (.int sd), .val (.int cp), .val (.int l0), .val (.int r0), .val (.int l1), .val (.int r1), .val (.int (1 : Int32)), .val (.int (0 : Int32)), .unset, .unset, .unset, .unset, .unset, .unset, .unset, .unset, .unset] [(.int sl), (.ref a403), (.ref a403)]))
      refine own_by (fun _ kont => XT.iconstV X403.here hx rfl (0 : Int32) (hb hby at_92) rfl kont) ?_
      show own_Go p e below _ (T403.setTop (mkF m 93 #[.val (.int i0), .val (.int i1), .val (.int i2), .val (.int i3), .val (.int i4), .val (.int i5), .val (.int sl), .val (.int sd), .val (.int cp), .val (.int l0), .val (.int r0), .val (.int l1), .val (.int r1), .val (.int (1 : Int32)), .val (.int (0 : Int32)), .unset, .unset, .unset, .unset, .unset, .unset, .unset, .unset, .unset] [(.int (0 : Int32)), (.int sl), (.ref a403), (.ref a403)]))
      refine own_by (fun _ kont => XT.iconstV X403.here hx rfl (0 : Int32) (hb hby at_93) rfl kont) ?_
      show own_Go p e below _ (T403.setTop (mkF m 94 #[.val (.int i0), .val (.int i1), .val (.int i2), .val (.int i3), .val (.int i4), .val (.int i5), .val (.int sl), .val (.int sd), .val (.int cp), .val (.int l0), .val (.int r0), .val (.int l1), .val (.int r1), .val (.int (1 : Int32)), .val (.int (0 : Int32)), .unset, .unset, .unset, .unset, .unset, .unset, .unset, .unset, .unset] [(.int (0 : Int32)), (.int (0 : Int32)), (.int sl), (.ref a403), (.ref a403)]))
      refine own_by (fun _ kont => XS.iload X403.here hx rfl (hb hby at_94) rfl kont) ?_
      show own_Go p e below _ (T403.setTop (mkF m 96 #[.val (.int i0), .val (.int i1), .val (.int i2), .val (.int i3), .val (.int i4), .val (.int i5), .val (.int sl), .val (.int sd), .val (.int cp), .val (.int l0), .val (.int r0), .val (.int l1), .val (.int r1), .val (.int (1 : Int32)), .val (.int (0 : Int32)), .unset, .unset, .unset, .unset, .unset, .unset, .unset, .unset, .unset] [(.int cp), (.int (0 : Int32)), (.int (0 : Int32)), (.int sl), (.ref a403), (.ref a403)]))
      obtain ⟨_, _, ⟨T415, L415, k415, n415⟩, -, X415, ⟨Lc415, hQ415, l415, y415, z415⟩, st415⟩ := X403.specialBack hx (y := (⟨"com/example/lambdalane/lambdalane/NodeGraph", "<init>", "(IIII)V"⟩ : MethodName)) rfl hown (mvT hZ (hw _ (List.mem_of_getElem? (i := 4) rfl))) (mvT hZ (hw _ (List.mem_of_getElem? (i := 5) rfl))) (mvT hZ (hw _ (List.mem_of_getElem? (i := 6) rfl))) (by decide) (backOf (W := 1) (rmI l Z a0 hw [] a403 sl (0 : Int32) cp cap h403 n0 A403 F404 F405 F406 F407 F408 F409 F410 F411 F412 F413 F414 ge403 Z403 hcp (by omega)) hZ (hw _ (List.mem_of_getElem? (i := 6) rfl)) (hw _ (List.mem_of_getElem? (i := 3) rfl)) (by decide) (by decide)) (g := (mkF m 96 #[.val (.int i0), .val (.int i1), .val (.int i2), .val (.int i3), .val (.int i4), .val (.int i5), .val (.int sl), .val (.int sd), .val (.int cp), .val (.int l0), .val (.int r0), .val (.int l1), .val (.int r1), .val (.int (1 : Int32)), .val (.int (0 : Int32)), .unset, .unset, .unset, .unset, .unset, .unset, .unset, .unset, .unset] [(.int cp), (.int (0 : Int32)), (.int (0 : Int32)), (.int sl), (.ref a403), (.ref a403)])) rfl (by rw [hml]; rfl) (Steps.refl _) (a := a403) (argsL := [(.int sl), (.int (0 : Int32)), (.int (0 : Int32)), (.int cp)]) (rest := [(.ref a403)]) (lenOf own_pd1 rfl) rfl (by show 2 * 0 + _ ≤ _; exact Nat.le_of_eq rfl) (hb hby at_96) (fun _ _ => ⟨rfl, e403, (by decide : 1 + 6 ≤ _), (by decide : 12 + 12 ≤ _)⟩)
      dsimp only [Pt.U, Pt.locs, Pt.cells, Pt.slots] at X415 l415 y415 z415 st415 hQ415
      subst l415 y415 z415
      refine own_tr st415 ?_
      obtain ⟨rfl, N415, G415⟩ := hQ415
      obtain ⟨L415, X415, M415⟩ := own_hide X415 (Fr.app N0 N415)
      rw [← hsd] at G415
      have GE416 : Exa Z T415.heap a403 "com/example/lambdalane/lambdalane/NodeGraph" := by obtain ⟨_, _, _, _, _, _, _, _, ⟨q, -⟩, -⟩ := G415; exact q
      show own_Go p e below _ (T415.setTop (mkF m 99 #[.val (.int i0), .val (.int i1), .val (.int i2), .val (.int i3), .val (.int i4), .val (.int i5), .val (.int sl), .val (.int sd), .val (.int cp), .val (.int l0), .val (.int r0), .val (.int l1), .val (.int r1), .val (.int (1 : Int32)), .val (.int (0 : Int32)), .unset, .unset, .unset, .unset, .unset, .unset, .unset, .unset, .unset] [(.ref a403)]))
      refine own_by (fun _ kont => XS.astore X415.here hx rfl (hb hby at_99) rfl rfl (l' := #[.val (.int i0), .val (.int i1), .val (.int i2), .val (.int i3), .val (.int i4), .val (.int i5), .val (.int sl), .val (.int sd), .val (.int cp), .val (.int l0), .val (.int r0), .val (.int l1), .val (.int r1), .val (.int (1 : Int32)), .val (.int (0 : Int32)), .val (.ref a403), .unset, .unset, .unset, .unset, .unset, .unset, .unset, .unset]) rfl kont) ?_
      show own_Go p e below _ (T415.setTop (mkF m 101 #[.val (.int i0), .val (.int i1), .val (.int i2), .val (.int i3), .val (.int i4), .val (.int i5), .val (.int sl), .val (.int sd), .val (.int cp), .val (.int l0), .val (.int r0), .val (.int l1), .val (.int r1), .val (.int (1 : Int32)), .val (.int (0 : Int32)), .val (.ref a403), .unset, .unset, .unset, .unset, .unset, .unset, .unset, .unset] []))
      refine own_by (fun _ kont => XS.aload X415.here hx rfl (hb hby at_101) rfl rfl kont) ?_
      show own_Go p e below _ (T415.setTop (mkF m 103 #[.val (.int i0), .val (.int i1), .val (.int i2), .val (.int i3), .val (.int i4), .val (.int i5), .val (.int sl), .val (.int sd), .val (.int cp), .val (.int l0), .val (.int r0), .val (.int l1), .val (.int r1), .val (.int (1 : Int32)), .val (.int (0 : Int32)), .val (.ref a403), .unset, .unset, .unset, .unset, .unset, .unset, .unset, .unset] [(.ref a403)]))
      refine own_by (fun _ kont => XS.iload X415.here hx rfl (hb hby at_103) rfl kont) ?_
      show own_Go p e below _ (T415.setTop (mkF m 105 #[.val (.int i0), .val (.int i1), .val (.int i2), .val (.int i3), .val (.int i4), .val (.int i5), .val (.int sl), .val (.int sd), .val (.int cp), .val (.int l0), .val (.int r0), .val (.int l1), .val (.int r1), .val (.int (1 : Int32)), .val (.int (0 : Int32)), .val (.ref a403), .unset, .unset, .unset, .unset, .unset, .unset, .unset, .unset] [(.int l0), (.ref a403)]))
      refine own_by (fun _ kont => XS.iload X415.here hx rfl (hb hby at_105) rfl kont) ?_
      show own_Go p e below _ (T415.setTop (mkF m 107 #[.val (.int i0), .val (.int i1), .val (.int i2), .val (.int i3), .val (.int i4), .val (.int i5), .val (.int sl), .val (.int sd), .val (.int cp), .val (.int l0), .val (.int r0), .val (.int l1), .val (.int r1), .val (.int (1 : Int32)), .val (.int (0 : Int32)), .val (.ref a403), .unset, .unset, .unset, .unset, .unset, .unset, .unset, .unset] [(.int r0), (.int l0), (.ref a403)]))
      refine own_by (fun _ kont => XT.iconstV X415.here hx rfl (0 : Int32) (hb hby at_107) rfl kont) ?_
      show own_Go p e below _ (T415.setTop (mkF m 108 #[.val (.int i0), .val (.int i1), .val (.int i2), .val (.int i3), .val (.int i4), .val (.int i5), .val (.int sl), .val (.int sd), .val (.int cp), .val (.int l0), .val (.int r0), .val (.int l1), .val (.int r1), .val (.int (1 : Int32)), .val (.int (0 : Int32)), .val (.ref a403), .unset, .unset, .unset, .unset, .unset, .unset, .unset, .unset] [(.int (0 : Int32)), (.int r0), (.int l0), (.ref a403)]))
      obtain ⟨cq418, kq418, qa418, qb418, qc418⟩ := isOf hZ (rfl : T415.heap = T415.heap) GE416
      obtain ⟨_, _, ⟨T417, L417, k417, n417⟩, -, X417, ⟨Lc417, hQ417, l417, y417, z417⟩, st417⟩ := X415.virtualBack hx (y := (⟨"com/example/lambdalane/lambdalane/NodeGraph", "add", "(III)I"⟩ : MethodName)) (z := (⟨"com/example/lambdalane/lambdalane/NodeGraph", "add", "(III)I"⟩ : MethodName)) hown (mvT hZ (hw _ (List.mem_of_getElem? (i := 35) rfl))) (mvT hZ (hw _ (List.mem_of_getElem? (i := 36) rfl))) (notFace_of_selects (args := #[]) (mvT hZ (hw _ (List.mem_of_getElem? (i := 38) rfl)))) (mvT hZ (hw _ (List.mem_of_getElem? (i := 38) rfl))) (mvT hZ (hw _ (List.mem_of_getElem? (i := 37) rfl))) (by decide) (backOf (W := 0) (rmA l Z a0 hw [] a403 sd l0 r0 0 0 cap (fun _ => 0) (fun _ => 0) (fun _ => 0) (fun _ => -1) (fun _ => -1) (fun _ => -1) (fun _ => -1) T415.heap n0 G415 (by omega) (by omega) (by omega) (Or.inl ⟨rfl, rfl, rfl⟩)) hZ (hw _ (List.mem_of_getElem? (i := 39) rfl)) (hw _ (List.mem_of_getElem? (i := 3) rfl)) (by decide) (by decide)) qa418 qc418 (g := (mkF m 108 #[.val (.int i0), .val (.int i1), .val (.int i2), .val (.int i3), .val (.int i4), .val (.int i5), .val (.int sl), .val (.int sd), .val (.int cp), .val (.int l0), .val (.int r0), .val (.int l1), .val (.int r1), .val (.int (1 : Int32)), .val (.int (0 : Int32)), .val (.ref a403), .unset, .unset, .unset, .unset, .unset, .unset, .unset, .unset] [(.int (0 : Int32)), (.int r0), (.int l0), (.ref a403)])) rfl (by rw [hml]; rfl) (Steps.refl _) (argsL := [(.int l0), (.int r0), (.int (0 : Int32))]) (rest := []) (lenOf own_pd4 rfl) rfl (by show 2 * 0 + _ ≤ _; exact Nat.le_of_eq rfl) (hb hby at_108) (fun _ _ => ⟨rfl, (rfl : T415.heap = T415.heap), (by decide : 7 + 3 ≤ _), (by decide : 24 + 48 ≤ _)⟩)
      dsimp only [Pt.U, Pt.locs, Pt.cells, Pt.slots] at X417 l417 y417 z417 st417 hQ417
      subst l417 y417 z417
      refine own_tr st417 ?_
      obtain ⟨rfl, N417, cap417, u417, v417, G417⟩ := hQ417
      obtain ⟨L417, X417, M417⟩ := own_hide X417 (Fr.app M415 N417)
      obtain ⟨lq417, hlq417⟩ : ∃ f : Nat → Int32, f = (fun i => if i = 0 then l0 else (fun _ => 0) i) := ⟨_, rfl⟩
      obtain ⟨rq417, hrq417⟩ : ∃ f : Nat → Int32, f = (fun i => if i = 0 then r0 else (fun _ => 0) i) := ⟨_, rfl⟩
      rw [← hlq417, ← hrq417] at G417
      have GE419 : Exa Z T417.heap a403 "com/example/lambdalane/lambdalane/NodeGraph" := by obtain ⟨_, _, _, _, _, _, _, _, ⟨q, -⟩, -⟩ := G417; exact q
      show own_Go p e below _ (T417.setTop (mkF m 111 #[.val (.int i0), .val (.int i1), .val (.int i2), .val (.int i3), .val (.int i4), .val (.int i5), .val (.int sl), .val (.int sd), .val (.int cp), .val (.int l0), .val (.int r0), .val (.int l1), .val (.int r1), .val (.int (1 : Int32)), .val (.int (0 : Int32)), .val (.ref a403), .unset, .unset, .unset, .unset, .unset, .unset, .unset, .unset] [(.int (Int32.ofNat 0))]))
      refine own_by (fun _ kont => XS.istore X417.here hx rfl (hb hby at_111) rfl (l' := #[.val (.int i0), .val (.int i1), .val (.int i2), .val (.int i3), .val (.int i4), .val (.int i5), .val (.int sl), .val (.int sd), .val (.int cp), .val (.int l0), .val (.int r0), .val (.int l1), .val (.int r1), .val (.int (1 : Int32)), .val (.int (0 : Int32)), .val (.ref a403), .val (.int (Int32.ofNat 0)), .unset, .unset, .unset, .unset, .unset, .unset, .unset]) rfl kont) ?_
      show own_Go p e below _ (T417.setTop (mkF m 113 #[.val (.int i0), .val (.int i1), .val (.int i2), .val (.int i3), .val (.int i4), .val (.int i5), .val (.int sl), .val (.int sd), .val (.int cp), .val (.int l0), .val (.int r0), .val (.int l1), .val (.int r1), .val (.int (1 : Int32)), .val (.int (0 : Int32)), .val (.ref a403), .val (.int (Int32.ofNat 0)), .unset, .unset, .unset, .unset, .unset, .unset, .unset] []))
      refine own_by (fun _ kont => XS.aload X417.here hx rfl (hb hby at_113) rfl rfl kont) ?_
      show own_Go p e below _ (T417.setTop (mkF m 115 #[.val (.int i0), .val (.int i1), .val (.int i2), .val (.int i3), .val (.int i4), .val (.int i5), .val (.int sl), .val (.int sd), .val (.int cp), .val (.int l0), .val (.int r0), .val (.int l1), .val (.int r1), .val (.int (1 : Int32)), .val (.int (0 : Int32)), .val (.ref a403), .val (.int (Int32.ofNat 0)), .unset, .unset, .unset, .unset, .unset, .unset, .unset] [(.ref a403)]))
      refine own_by (fun _ kont => XS.iload X417.here hx rfl (hb hby at_115) rfl kont) ?_
      show own_Go p e below _ (T417.setTop (mkF m 117 #[.val (.int i0), .val (.int i1), .val (.int i2), .val (.int i3), .val (.int i4), .val (.int i5), .val (.int sl), .val (.int sd), .val (.int cp), .val (.int l0), .val (.int r0), .val (.int l1), .val (.int r1), .val (.int (1 : Int32)), .val (.int (0 : Int32)), .val (.ref a403), .val (.int (Int32.ofNat 0)), .unset, .unset, .unset, .unset, .unset, .unset, .unset] [(.int l1), (.ref a403)]))
      refine own_by (fun _ kont => XS.iload X417.here hx rfl (hb hby at_117) rfl kont) ?_
      show own_Go p e below _ (T417.setTop (mkF m 119 #[.val (.int i0), .val (.int i1), .val (.int i2), .val (.int i3), .val (.int i4), .val (.int i5), .val (.int sl), .val (.int sd), .val (.int cp), .val (.int l0), .val (.int r0), .val (.int l1), .val (.int r1), .val (.int (1 : Int32)), .val (.int (0 : Int32)), .val (.ref a403), .val (.int (Int32.ofNat 0)), .unset, .unset, .unset, .unset, .unset, .unset, .unset] [(.int r1), (.int l1), (.ref a403)]))
      refine own_by (fun _ kont => XT.iconstV X417.here hx rfl (0 : Int32) (hb hby at_119) rfl kont) ?_
      show own_Go p e below _ (T417.setTop (mkF m 120 #[.val (.int i0), .val (.int i1), .val (.int i2), .val (.int i3), .val (.int i4), .val (.int i5), .val (.int sl), .val (.int sd), .val (.int cp), .val (.int l0), .val (.int r0), .val (.int l1), .val (.int r1), .val (.int (1 : Int32)), .val (.int (0 : Int32)), .val (.ref a403), .val (.int (Int32.ofNat 0)), .unset, .unset, .unset, .unset, .unset, .unset, .unset] [(.int (0 : Int32)), (.int r1), (.int l1), (.ref a403)]))
      obtain ⟨cq421, kq421, qa421, qb421, qc421⟩ := isOf hZ (rfl : T417.heap = T417.heap) GE419
      obtain ⟨_, _, ⟨T420, L420, k420, n420⟩, -, X420, ⟨Lc420, hQ420, l420, y420, z420⟩, st420⟩ := X417.virtualBack hx (y := (⟨"com/example/lambdalane/lambdalane/NodeGraph", "add", "(III)I"⟩ : MethodName)) (z := (⟨"com/example/lambdalane/lambdalane/NodeGraph", "add", "(III)I"⟩ : MethodName)) hown (mvT hZ (hw _ (List.mem_of_getElem? (i := 35) rfl))) (mvT hZ (hw _ (List.mem_of_getElem? (i := 36) rfl))) (notFace_of_selects (args := #[]) (mvT hZ (hw _ (List.mem_of_getElem? (i := 38) rfl)))) (mvT hZ (hw _ (List.mem_of_getElem? (i := 38) rfl))) (mvT hZ (hw _ (List.mem_of_getElem? (i := 37) rfl))) (by decide) (backOf (W := 0) (rmA l Z a0 hw [] a403 sd l1 r1 0 1 cap417 lq417 rq417 _ (fun _ => -1) (fun _ => -1) (fun _ => -1) (fun _ => -1) T417.heap n0 G417 (by omega) (by omega) (by omega) (Or.inl ⟨rfl, rfl, rfl⟩)) hZ (hw _ (List.mem_of_getElem? (i := 39) rfl)) (hw _ (List.mem_of_getElem? (i := 3) rfl)) (by decide) (by decide)) qa421 qc421 (g := (mkF m 120 #[.val (.int i0), .val (.int i1), .val (.int i2), .val (.int i3), .val (.int i4), .val (.int i5), .val (.int sl), .val (.int sd), .val (.int cp), .val (.int l0), .val (.int r0), .val (.int l1), .val (.int r1), .val (.int (1 : Int32)), .val (.int (0 : Int32)), .val (.ref a403), .val (.int (Int32.ofNat 0)), .unset, .unset, .unset, .unset, .unset, .unset, .unset] [(.int (0 : Int32)), (.int r1), (.int l1), (.ref a403)])) rfl (by rw [hml]; rfl) (Steps.refl _) (argsL := [(.int l1), (.int r1), (.int (0 : Int32))]) (rest := []) (lenOf own_pd4 rfl) rfl (by show 2 * 0 + _ ≤ _; exact Nat.le_of_eq rfl) (hb hby at_120) (fun _ _ => ⟨rfl, (rfl : T417.heap = T417.heap), (by decide : 10 + 3 ≤ _), (by decide : 72 + 48 ≤ _)⟩)
      dsimp only [Pt.U, Pt.locs, Pt.cells, Pt.slots] at X420 l420 y420 z420 st420 hQ420
      subst l420 y420 z420
      refine own_tr st420 ?_
      obtain ⟨rfl, N420, cap420, u420, v420, G420⟩ := hQ420
      obtain ⟨L420, X420, M420⟩ := own_hide X420 (Fr.app M417 N420)
      obtain ⟨lq420, hlq420⟩ : ∃ f : Nat → Int32, f = (fun i => if i = 1 then l1 else lq417 i) := ⟨_, rfl⟩
      obtain ⟨rq420, hrq420⟩ : ∃ f : Nat → Int32, f = (fun i => if i = 1 then r1 else rq417 i) := ⟨_, rfl⟩
      rw [← hlq420, ← hrq420] at G420
      have GE422 : Exa Z T420.heap a403 "com/example/lambdalane/lambdalane/NodeGraph" := by obtain ⟨_, _, _, _, _, _, _, _, ⟨q, -⟩, -⟩ := G420; exact q
      show own_Go p e below _ (T420.setTop (mkF m 123 #[.val (.int i0), .val (.int i1), .val (.int i2), .val (.int i3), .val (.int i4), .val (.int i5), .val (.int sl), .val (.int sd), .val (.int cp), .val (.int l0), .val (.int r0), .val (.int l1), .val (.int r1), .val (.int (1 : Int32)), .val (.int (0 : Int32)), .val (.ref a403), .val (.int (Int32.ofNat 0)), .unset, .unset, .unset, .unset, .unset, .unset, .unset] [(.int (Int32.ofNat 1))]))
      refine own_by (fun _ kont => XS.istore X420.here hx rfl (hb hby at_123) rfl (l' := #[.val (.int i0), .val (.int i1), .val (.int i2), .val (.int i3), .val (.int i4), .val (.int i5), .val (.int sl), .val (.int sd), .val (.int cp), .val (.int l0), .val (.int r0), .val (.int l1), .val (.int r1), .val (.int (1 : Int32)), .val (.int (0 : Int32)), .val (.ref a403), .val (.int (Int32.ofNat 0)), .val (.int (Int32.ofNat 1)), .unset, .unset, .unset, .unset, .unset, .unset]) rfl kont) ?_
      show own_Go p e below _ (T420.setTop (mkF m 125 #[.val (.int i0), .val (.int i1), .val (.int i2), .val (.int i3), .val (.int i4), .val (.int i5), .val (.int sl), .val (.int sd), .val (.int cp), .val (.int l0), .val (.int r0), .val (.int l1), .val (.int r1), .val (.int (1 : Int32)), .val (.int (0 : Int32)), .val (.ref a403), .val (.int (Int32.ofNat 0)), .val (.int (Int32.ofNat 1)), .unset, .unset, .unset, .unset, .unset, .unset] []))
      refine own_by (fun _ kont => XS.iload X420.here hx rfl (hb hby at_125) rfl kont) ?_
      show own_Go p e below _ (T420.setTop (mkF m 127 #[.val (.int i0), .val (.int i1), .val (.int i2), .val (.int i3), .val (.int i4), .val (.int i5), .val (.int sl), .val (.int sd), .val (.int cp), .val (.int l0), .val (.int r0), .val (.int l1), .val (.int r1), .val (.int (1 : Int32)), .val (.int (0 : Int32)), .val (.ref a403), .val (.int (Int32.ofNat 0)), .val (.int (Int32.ofNat 1)), .unset, .unset, .unset, .unset, .unset, .unset] [(.int (1 : Int32))]))
      refine own_by (fun _ kont => XS.ifNo X420.here hx rfl (hb hby at_127) rfl (XT.i0_eq_f (by decide)) kont) ?_
      show own_Go p e below _ (T420.setTop (mkF m 130 #[.val (.int i0), .val (.int i1), .val (.int i2), .val (.int i3), .val (.int i4), .val (.int i5), .val (.int sl), .val (.int sd), .val (.int cp), .val (.int l0), .val (.int r0), .val (.int l1), .val (.int r1), .val (.int (1 : Int32)), .val (.int (0 : Int32)), .val (.ref a403), .val (.int (Int32.ofNat 0)), .val (.int (Int32.ofNat 1)), .unset, .unset, .unset, .unset, .unset, .unset] []))
      refine own_by (fun _ kont => XS.iload X420.here hx rfl (hb hby at_130) rfl kont) ?_
      show own_Go p e below _ (T420.setTop (mkF m 132 #[.val (.int i0), .val (.int i1), .val (.int i2), .val (.int i3), .val (.int i4), .val (.int i5), .val (.int sl), .val (.int sd), .val (.int cp), .val (.int l0), .val (.int r0), .val (.int l1), .val (.int r1), .val (.int (1 : Int32)), .val (.int (0 : Int32)), .val (.ref a403), .val (.int (Int32.ofNat 0)), .val (.int (Int32.ofNat 1)), .unset, .unset, .unset, .unset, .unset, .unset] [(.int (Int32.ofNat 1))]))
      refine own_by (fun _ kont => XS.goto X420.here hx rfl (pc0 := 132) (pc' := 137) rfl (hb hby at_132) (by decide) (by decide) kont) ?_
      show own_Go p e below _ (T420.setTop (mkF m 137 #[.val (.int i0), .val (.int i1), .val (.int i2), .val (.int i3), .val (.int i4), .val (.int i5), .val (.int sl), .val (.int sd), .val (.int cp), .val (.int l0), .val (.int r0), .val (.int l1), .val (.int r1), .val (.int (1 : Int32)), .val (.int (0 : Int32)), .val (.ref a403), .val (.int (Int32.ofNat 0)), .val (.int (Int32.ofNat 1)), .unset, .unset, .unset, .unset, .unset, .unset] [(.int (Int32.ofNat 1))]))
      refine own_by (fun _ kont => XS.istore X420.here hx rfl (hb hby at_137) rfl (l' := #[.val (.int i0), .val (.int i1), .val (.int i2), .val (.int i3), .val (.int i4), .val (.int i5), .val (.int sl), .val (.int sd), .val (.int cp), .val (.int l0), .val (.int r0), .val (.int l1), .val (.int r1), .val (.int (1 : Int32)), .val (.int (0 : Int32)), .val (.ref a403), .val (.int (Int32.ofNat 0)), .val (.int (Int32.ofNat 1)), .val (.int (Int32.ofNat 1)), .unset, .unset, .unset, .unset, .unset]) rfl kont) ?_
      show own_Go p e below _ (T420.setTop (mkF m 139 #[.val (.int i0), .val (.int i1), .val (.int i2), .val (.int i3), .val (.int i4), .val (.int i5), .val (.int sl), .val (.int sd), .val (.int cp), .val (.int l0), .val (.int r0), .val (.int l1), .val (.int r1), .val (.int (1 : Int32)), .val (.int (0 : Int32)), .val (.ref a403), .val (.int (Int32.ofNat 0)), .val (.int (Int32.ofNat 1)), .val (.int (Int32.ofNat 1)), .unset, .unset, .unset, .unset, .unset] []))
      refine own_by (fun _ kont => XS.iload X420.here hx rfl (hb hby at_139) rfl kont) ?_
      show own_Go p e below _ (T420.setTop (mkF m 141 #[.val (.int i0), .val (.int i1), .val (.int i2), .val (.int i3), .val (.int i4), .val (.int i5), .val (.int sl), .val (.int sd), .val (.int cp), .val (.int l0), .val (.int r0), .val (.int l1), .val (.int r1), .val (.int (1 : Int32)), .val (.int (0 : Int32)), .val (.ref a403), .val (.int (Int32.ofNat 0)), .val (.int (Int32.ofNat 1)), .val (.int (Int32.ofNat 1)), .unset, .unset, .unset, .unset, .unset] [(.int (1 : Int32))]))
      refine own_by (fun _ kont => XS.ifNo X420.here hx rfl (hb hby at_141) rfl (XT.i0_eq_f (by decide)) kont) ?_
      show own_Go p e below _ (T420.setTop (mkF m 144 #[.val (.int i0), .val (.int i1), .val (.int i2), .val (.int i3), .val (.int i4), .val (.int i5), .val (.int sl), .val (.int sd), .val (.int cp), .val (.int l0), .val (.int r0), .val (.int l1), .val (.int r1), .val (.int (1 : Int32)), .val (.int (0 : Int32)), .val (.ref a403), .val (.int (Int32.ofNat 0)), .val (.int (Int32.ofNat 1)), .val (.int (Int32.ofNat 1)), .unset, .unset, .unset, .unset, .unset] []))
      refine own_by (fun _ kont => XS.iload X420.here hx rfl (hb hby at_144) rfl kont) ?_
      show own_Go p e below _ (T420.setTop (mkF m 146 #[.val (.int i0), .val (.int i1), .val (.int i2), .val (.int i3), .val (.int i4), .val (.int i5), .val (.int sl), .val (.int sd), .val (.int cp), .val (.int l0), .val (.int r0), .val (.int l1), .val (.int r1), .val (.int (1 : Int32)), .val (.int (0 : Int32)), .val (.ref a403), .val (.int (Int32.ofNat 0)), .val (.int (Int32.ofNat 1)), .val (.int (Int32.ofNat 1)), .unset, .unset, .unset, .unset, .unset] [(.int l1)]))
      refine own_by (fun _ kont => XS.goto X420.here hx rfl (pc0 := 146) (pc' := 151) rfl (hb hby at_146) (by decide) (by decide) kont) ?_
      show own_Go p e below _ (T420.setTop (mkF m 151 #[.val (.int i0), .val (.int i1), .val (.int i2), .val (.int i3), .val (.int i4), .val (.int i5), .val (.int sl), .val (.int sd), .val (.int cp), .val (.int l0), .val (.int r0), .val (.int l1), .val (.int r1), .val (.int (1 : Int32)), .val (.int (0 : Int32)), .val (.ref a403), .val (.int (Int32.ofNat 0)), .val (.int (Int32.ofNat 1)), .val (.int (Int32.ofNat 1)), .unset, .unset, .unset, .unset, .unset] [(.int l1)]))
      refine own_by (fun _ kont => XS.istore X420.here hx rfl (hb hby at_151) rfl (l' := #[.val (.int i0), .val (.int i1), .val (.int i2), .val (.int i3), .val (.int i4), .val (.int i5), .val (.int sl), .val (.int sd), .val (.int cp), .val (.int l0), .val (.int r0), .val (.int l1), .val (.int r1), .val (.int (1 : Int32)), .val (.int (0 : Int32)), .val (.ref a403), .val (.int (Int32.ofNat 0)), .val (.int (Int32.ofNat 1)), .val (.int (Int32.ofNat 1)), .val (.int l1), .unset, .unset, .unset, .unset]) rfl kont) ?_
      show own_Go p e below _ (T420.setTop (mkF m 153 #[.val (.int i0), .val (.int i1), .val (.int i2), .val (.int i3), .val (.int i4), .val (.int i5), .val (.int sl), .val (.int sd), .val (.int cp), .val (.int l0), .val (.int r0), .val (.int l1), .val (.int r1), .val (.int (1 : Int32)), .val (.int (0 : Int32)), .val (.ref a403), .val (.int (Int32.ofNat 0)), .val (.int (Int32.ofNat 1)), .val (.int (Int32.ofNat 1)), .val (.int l1), .unset, .unset, .unset, .unset] []))
      refine own_by (fun _ kont => XS.iload X420.here hx rfl (hb hby at_153) rfl kont) ?_
      show own_Go p e below _ (T420.setTop (mkF m 155 #[.val (.int i0), .val (.int i1), .val (.int i2), .val (.int i3), .val (.int i4), .val (.int i5), .val (.int sl), .val (.int sd), .val (.int cp), .val (.int l0), .val (.int r0), .val (.int l1), .val (.int r1), .val (.int (1 : Int32)), .val (.int (0 : Int32)), .val (.ref a403), .val (.int (Int32.ofNat 0)), .val (.int (Int32.ofNat 1)), .val (.int (Int32.ofNat 1)), .val (.int l1), .unset, .unset, .unset, .unset] [(.int sd)]))
      refine own_by (fun _ kont => XS.iload X420.here hx rfl (hb hby at_155) rfl kont) ?_
      show own_Go p e below _ (T420.setTop (mkF m 157 #[.val (.int i0), .val (.int i1), .val (.int i2), .val (.int i3), .val (.int i4), .val (.int i5), .val (.int sl), .val (.int sd), .val (.int cp), .val (.int l0), .val (.int r0), .val (.int l1), .val (.int r1), .val (.int (1 : Int32)), .val (.int (0 : Int32)), .val (.ref a403), .val (.int (Int32.ofNat 0)), .val (.int (Int32.ofNat 1)), .val (.int (Int32.ofNat 1)), .val (.int l1), .unset, .unset, .unset, .unset] [(.int (1 : Int32)), (.int sd)]))
      refine own_by (fun _ kont => XS.ifNo X420.here hx rfl (hb hby at_157) rfl (XT.i0_eq_f (by decide)) kont) ?_
      show own_Go p e below _ (T420.setTop (mkF m 160 #[.val (.int i0), .val (.int i1), .val (.int i2), .val (.int i3), .val (.int i4), .val (.int i5), .val (.int sl), .val (.int sd), .val (.int cp), .val (.int l0), .val (.int r0), .val (.int l1), .val (.int r1), .val (.int (1 : Int32)), .val (.int (0 : Int32)), .val (.ref a403), .val (.int (Int32.ofNat 0)), .val (.int (Int32.ofNat 1)), .val (.int (Int32.ofNat 1)), .val (.int l1), .unset, .unset, .unset, .unset] [(.int sd)]))
      refine own_by (fun _ kont => XS.iload X420.here hx rfl (hb hby at_160) rfl kont) ?_
      show own_Go p e below _ (T420.setTop (mkF m 162 #[.val (.int i0), .val (.int i1), .val (.int i2), .val (.int i3), .val (.int i4), .val (.int i5), .val (.int sl), .val (.int sd), .val (.int cp), .val (.int l0), .val (.int r0), .val (.int l1), .val (.int r1), .val (.int (1 : Int32)), .val (.int (0 : Int32)), .val (.ref a403), .val (.int (Int32.ofNat 0)), .val (.int (Int32.ofNat 1)), .val (.int (Int32.ofNat 1)), .val (.int l1), .unset, .unset, .unset, .unset] [(.int r1), (.int sd)]))
      refine own_by (fun _ kont => XS.goto X420.here hx rfl (pc0 := 162) (pc' := 167) rfl (hb hby at_162) (by decide) (by decide) kont) ?_
      show own_Go p e below _ (T420.setTop (mkF m 167 #[.val (.int i0), .val (.int i1), .val (.int i2), .val (.int i3), .val (.int i4), .val (.int i5), .val (.int sl), .val (.int sd), .val (.int cp), .val (.int l0), .val (.int r0), .val (.int l1), .val (.int r1), .val (.int (1 : Int32)), .val (.int (0 : Int32)), .val (.ref a403), .val (.int (Int32.ofNat 0)), .val (.int (Int32.ofNat 1)), .val (.int (Int32.ofNat 1)), .val (.int l1), .unset, .unset, .unset, .unset] [(.int r1), (.int sd)]))
      refine own_by (fun _ kont => XS.iadd X420.here hx rfl (hb hby at_167) rfl kont) ?_
      show own_Go p e below _ (T420.setTop (mkF m 168 #[.val (.int i0), .val (.int i1), .val (.int i2), .val (.int i3), .val (.int i4), .val (.int i5), .val (.int sl), .val (.int sd), .val (.int cp), .val (.int l0), .val (.int r0), .val (.int l1), .val (.int r1), .val (.int (1 : Int32)), .val (.int (0 : Int32)), .val (.ref a403), .val (.int (Int32.ofNat 0)), .val (.int (Int32.ofNat 1)), .val (.int (Int32.ofNat 1)), .val (.int l1), .unset, .unset, .unset, .unset] [(.int (sd + r1))]))
      refine own_by (fun _ kont => XS.istore X420.here hx rfl (hb hby at_168) rfl (l' := #[.val (.int i0), .val (.int i1), .val (.int i2), .val (.int i3), .val (.int i4), .val (.int i5), .val (.int sl), .val (.int sd), .val (.int cp), .val (.int l0), .val (.int r0), .val (.int l1), .val (.int r1), .val (.int (1 : Int32)), .val (.int (0 : Int32)), .val (.ref a403), .val (.int (Int32.ofNat 0)), .val (.int (Int32.ofNat 1)), .val (.int (Int32.ofNat 1)), .val (.int l1), .val (.int (sd + r1)), .unset, .unset, .unset]) rfl kont) ?_
      show own_Go p e below _ (T420.setTop (mkF m 170 #[.val (.int i0), .val (.int i1), .val (.int i2), .val (.int i3), .val (.int i4), .val (.int i5), .val (.int sl), .val (.int sd), .val (.int cp), .val (.int l0), .val (.int r0), .val (.int l1), .val (.int r1), .val (.int (1 : Int32)), .val (.int (0 : Int32)), .val (.ref a403), .val (.int (Int32.ofNat 0)), .val (.int (Int32.ofNat 1)), .val (.int (Int32.ofNat 1)), .val (.int l1), .val (.int (sd + r1)), .unset, .unset, .unset] []))
      refine own_by (fun _ kont => XS.iload X420.here hx rfl (hb hby at_170) rfl kont) ?_
      show own_Go p e below _ (T420.setTop (mkF m 172 #[.val (.int i0), .val (.int i1), .val (.int i2), .val (.int i3), .val (.int i4), .val (.int i5), .val (.int sl), .val (.int sd), .val (.int cp), .val (.int l0), .val (.int r0), .val (.int l1), .val (.int r1), .val (.int (1 : Int32)), .val (.int (0 : Int32)), .val (.ref a403), .val (.int (Int32.ofNat 0)), .val (.int (Int32.ofNat 1)), .val (.int (Int32.ofNat 1)), .val (.int l1), .val (.int (sd + r1)), .unset, .unset, .unset] [(.int (0 : Int32))]))
      refine own_by (fun _ kont => XS.ifYes X420.here hx rfl (pc0 := 172) (pc' := 180) rfl (hb hby at_172) rfl (XT.i0_eq_t (by decide)) (by decide) (by decide) kont) ?_
      show own_Go p e below _ (T420.setTop (mkF m 180 #[.val (.int i0), .val (.int i1), .val (.int i2), .val (.int i3), .val (.int i4), .val (.int i5), .val (.int sl), .val (.int sd), .val (.int cp), .val (.int l0), .val (.int r0), .val (.int l1), .val (.int r1), .val (.int (1 : Int32)), .val (.int (0 : Int32)), .val (.ref a403), .val (.int (Int32.ofNat 0)), .val (.int (Int32.ofNat 1)), .val (.int (Int32.ofNat 1)), .val (.int l1), .val (.int (sd + r1)), .unset, .unset, .unset] []))
      refine own_by (fun _ kont => XS.iload X420.here hx rfl (hb hby at_180) rfl kont) ?_
      show own_Go p e below _ (T420.setTop (mkF m 182 #[.val (.int i0), .val (.int i1), .val (.int i2), .val (.int i3), .val (.int i4), .val (.int i5), .val (.int sl), .val (.int sd), .val (.int cp), .val (.int l0), .val (.int r0), .val (.int l1), .val (.int r1), .val (.int (1 : Int32)), .val (.int (0 : Int32)), .val (.ref a403), .val (.int (Int32.ofNat 0)), .val (.int (Int32.ofNat 1)), .val (.int (Int32.ofNat 1)), .val (.int l1), .val (.int (sd + r1)), .unset, .unset, .unset] [(.int (sd + r1))]))
      refine own_by (fun _ kont => XS.istore X420.here hx rfl (hb hby at_182) rfl (l' := #[.val (.int i0), .val (.int i1), .val (.int i2), .val (.int i3), .val (.int i4), .val (.int i5), .val (.int sl), .val (.int sd), .val (.int cp), .val (.int l0), .val (.int r0), .val (.int l1), .val (.int r1), .val (.int (1 : Int32)), .val (.int (0 : Int32)), .val (.ref a403), .val (.int (Int32.ofNat 0)), .val (.int (Int32.ofNat 1)), .val (.int (Int32.ofNat 1)), .val (.int l1), .val (.int (sd + r1)), .val (.int (sd + r1)), .unset, .unset]) rfl kont) ?_
      show own_Go p e below _ (T420.setTop (mkF m 184 #[.val (.int i0), .val (.int i1), .val (.int i2), .val (.int i3), .val (.int i4), .val (.int i5), .val (.int sl), .val (.int sd), .val (.int cp), .val (.int l0), .val (.int r0), .val (.int l1), .val (.int r1), .val (.int (1 : Int32)), .val (.int (0 : Int32)), .val (.ref a403), .val (.int (Int32.ofNat 0)), .val (.int (Int32.ofNat 1)), .val (.int (Int32.ofNat 1)), .val (.int l1), .val (.int (sd + r1)), .val (.int (sd + r1)), .unset, .unset] []))
      refine own_by (fun _ kont => XS.iload X420.here hx rfl (hb hby at_184) rfl kont) ?_
      show own_Go p e below _ (T420.setTop (mkF m 186 #[.val (.int i0), .val (.int i1), .val (.int i2), .val (.int i3), .val (.int i4), .val (.int i5), .val (.int sl), .val (.int sd), .val (.int cp), .val (.int l0), .val (.int r0), .val (.int l1), .val (.int r1), .val (.int (1 : Int32)), .val (.int (0 : Int32)), .val (.ref a403), .val (.int (Int32.ofNat 0)), .val (.int (Int32.ofNat 1)), .val (.int (Int32.ofNat 1)), .val (.int l1), .val (.int (sd + r1)), .val (.int (sd + r1)), .unset, .unset] [(.int (0 : Int32))]))
      refine own_by (fun _ kont => XS.ifYes X420.here hx rfl (pc0 := 186) (pc' := 194) rfl (hb hby at_186) rfl (XT.i0_eq_t (by decide)) (by decide) (by decide) kont) ?_
      show own_Go p e below _ (T420.setTop (mkF m 194 #[.val (.int i0), .val (.int i1), .val (.int i2), .val (.int i3), .val (.int i4), .val (.int i5), .val (.int sl), .val (.int sd), .val (.int cp), .val (.int l0), .val (.int r0), .val (.int l1), .val (.int r1), .val (.int (1 : Int32)), .val (.int (0 : Int32)), .val (.ref a403), .val (.int (Int32.ofNat 0)), .val (.int (Int32.ofNat 1)), .val (.int (Int32.ofNat 1)), .val (.int l1), .val (.int (sd + r1)), .val (.int (sd + r1)), .unset, .unset] []))
      refine own_by (fun _ kont => XS.iload X420.here hx rfl (hb hby at_194) rfl kont) ?_
      show own_Go p e below _ (T420.setTop (mkF m 196 #[.val (.int i0), .val (.int i1), .val (.int i2), .val (.int i3), .val (.int i4), .val (.int i5), .val (.int sl), .val (.int sd), .val (.int cp), .val (.int l0), .val (.int r0), .val (.int l1), .val (.int r1), .val (.int (1 : Int32)), .val (.int (0 : Int32)), .val (.ref a403), .val (.int (Int32.ofNat 0)), .val (.int (Int32.ofNat 1)), .val (.int (Int32.ofNat 1)), .val (.int l1), .val (.int (sd + r1)), .val (.int (sd + r1)), .unset, .unset] [(.int l1)]))
      refine own_by (fun _ kont => XS.istore X420.here hx rfl (hb hby at_196) rfl (l' := #[.val (.int i0), .val (.int i1), .val (.int i2), .val (.int i3), .val (.int i4), .val (.int i5), .val (.int sl), .val (.int sd), .val (.int cp), .val (.int l0), .val (.int r0), .val (.int l1), .val (.int r1), .val (.int (1 : Int32)), .val (.int (0 : Int32)), .val (.ref a403), .val (.int (Int32.ofNat 0)), .val (.int (Int32.ofNat 1)), .val (.int (Int32.ofNat 1)), .val (.int l1), .val (.int (sd + r1)), .val (.int (sd + r1)), .val (.int l1), .unset]) rfl kont) ?_
      show own_Go p e below _ (T420.setTop (mkF m 198 #[.val (.int i0), .val (.int i1), .val (.int i2), .val (.int i3), .val (.int i4), .val (.int i5), .val (.int sl), .val (.int sd), .val (.int cp), .val (.int l0), .val (.int r0), .val (.int l1), .val (.int r1), .val (.int (1 : Int32)), .val (.int (0 : Int32)), .val (.ref a403), .val (.int (Int32.ofNat 0)), .val (.int (Int32.ofNat 1)), .val (.int (Int32.ofNat 1)), .val (.int l1), .val (.int (sd + r1)), .val (.int (sd + r1)), .val (.int l1), .unset] []))
      refine own_by (fun _ kont => XS.aload X420.here hx rfl (hb hby at_198) rfl rfl kont) ?_
      show own_Go p e below _ (T420.setTop (mkF m 200 #[.val (.int i0), .val (.int i1), .val (.int i2), .val (.int i3), .val (.int i4), .val (.int i5), .val (.int sl), .val (.int sd), .val (.int cp), .val (.int l0), .val (.int r0), .val (.int l1), .val (.int r1), .val (.int (1 : Int32)), .val (.int (0 : Int32)), .val (.ref a403), .val (.int (Int32.ofNat 0)), .val (.int (Int32.ofNat 1)), .val (.int (Int32.ofNat 1)), .val (.int l1), .val (.int (sd + r1)), .val (.int (sd + r1)), .val (.int l1), .unset] [(.ref a403)]))
      refine own_by (fun _ kont => XS.iload X420.here hx rfl (hb hby at_200) rfl kont) ?_
      show own_Go p e below _ (T420.setTop (mkF m 202 #[.val (.int i0), .val (.int i1), .val (.int i2), .val (.int i3), .val (.int i4), .val (.int i5), .val (.int sl), .val (.int sd), .val (.int cp), .val (.int l0), .val (.int r0), .val (.int l1), .val (.int r1), .val (.int (1 : Int32)), .val (.int (0 : Int32)), .val (.ref a403), .val (.int (Int32.ofNat 0)), .val (.int (Int32.ofNat 1)), .val (.int (Int32.ofNat 1)), .val (.int l1), .val (.int (sd + r1)), .val (.int (sd + r1)), .val (.int l1), .unset] [(.int (Int32.ofNat 1)), (.ref a403)]))
      refine own_by (fun _ kont => XS.iload X420.here hx rfl (hb hby at_202) rfl kont) ?_
      show own_Go p e below _ (T420.setTop (mkF m 204 #[.val (.int i0), .val (.int i1), .val (.int i2), .val (.int i3), .val (.int i4), .val (.int i5), .val (.int sl), .val (.int sd), .val (.int cp), .val (.int l0), .val (.int r0), .val (.int l1), .val (.int r1), .val (.int (1 : Int32)), .val (.int (0 : Int32)), .val (.ref a403), .val (.int (Int32.ofNat 0)), .val (.int (Int32.ofNat 1)), .val (.int (Int32.ofNat 1)), .val (.int l1), .val (.int (sd + r1)), .val (.int (sd + r1)), .val (.int l1), .unset] [(.int (sd + r1)), (.int (Int32.ofNat 1)), (.ref a403)]))
      obtain ⟨cq424, kq424, qa424, qb424, qc424⟩ := isOf hZ (rfl : T420.heap = T420.heap) GE422
      obtain ⟨_, _, ⟨T423, L423, k423, n423⟩, -, X423, ⟨Lc423, hQ423, l423, y423, z423⟩, st423⟩ := X420.virtualBack hx (y := (⟨"com/example/lambdalane/lambdalane/NodeGraph", "otherEnd", "(II)I"⟩ : MethodName)) (z := (⟨"com/example/lambdalane/lambdalane/NodeGraph", "otherEnd", "(II)I"⟩ : MethodName)) hown (mvT hZ (hw _ (List.mem_of_getElem? (i := 56) rfl))) (mvT hZ (hw _ (List.mem_of_getElem? (i := 57) rfl))) (notFace_of_selects (args := #[]) (mvT hZ (hw _ (List.mem_of_getElem? (i := 59) rfl)))) (mvT hZ (hw _ (List.mem_of_getElem? (i := 59) rfl))) (mvT hZ (hw _ (List.mem_of_getElem? (i := 58) rfl))) (by decide) (backOf (W := 0) (rmO l Z a0 hw [] a403 sd (sd + r1) 1 2 cap420 lq420 rq420 _ _ _ T420.heap n0 G420 (by omega) (by omega) (by omega)) hZ (hw _ (List.mem_of_getElem? (i := 60) rfl)) (hw _ (List.mem_of_getElem? (i := 3) rfl)) (by decide) (by decide)) qa424 qc424 (g := (mkF m 204 #[.val (.int i0), .val (.int i1), .val (.int i2), .val (.int i3), .val (.int i4), .val (.int i5), .val (.int sl), .val (.int sd), .val (.int cp), .val (.int l0), .val (.int r0), .val (.int l1), .val (.int r1), .val (.int (1 : Int32)), .val (.int (0 : Int32)), .val (.ref a403), .val (.int (Int32.ofNat 0)), .val (.int (Int32.ofNat 1)), .val (.int (Int32.ofNat 1)), .val (.int l1), .val (.int (sd + r1)), .val (.int (sd + r1)), .val (.int l1), .unset] [(.int (sd + r1)), (.int (Int32.ofNat 1)), (.ref a403)])) rfl (by rw [hml]; rfl) (Steps.refl _) (argsL := [(.int (Int32.ofNat 1)), (.int (sd + r1))]) (rest := []) (lenOf own_pd6 rfl) rfl (by show 2 * 0 + _ ≤ _; exact Nat.le_of_eq rfl) (hb hby at_204) (fun _ _ => ⟨rfl, (rfl : T420.heap = T420.heap), (by decide : 13 + 0 ≤ _), (by decide : 120 + 0 ≤ _)⟩)
      dsimp only [Pt.U, Pt.locs, Pt.cells, Pt.slots] at X423 l423 y423 z423 st423 hQ423
      subst l423 y423 z423
      refine own_tr st423 ?_
      obtain ⟨rfl, N423, e423⟩ := hQ423
      obtain ⟨L423, X423, M423⟩ := own_hide X423 (Fr.app M420 N423)
      have hL423 : lq420 1 = l1 := by simp [hlq420, hlq417]
      have hR423 : rq420 1 = r1 := by simp [hrq420, hrq417]
      rw [hL423, hR423]
      rw [if_neg (own_far bsd br1 bl1)]
      show own_Go p e below _ (T423.setTop (mkF m 207 #[.val (.int i0), .val (.int i1), .val (.int i2), .val (.int i3), .val (.int i4), .val (.int i5), .val (.int sl), .val (.int sd), .val (.int cp), .val (.int l0), .val (.int r0), .val (.int l1), .val (.int r1), .val (.int (1 : Int32)), .val (.int (0 : Int32)), .val (.ref a403), .val (.int (Int32.ofNat 0)), .val (.int (Int32.ofNat 1)), .val (.int (Int32.ofNat 1)), .val (.int l1), .val (.int (sd + r1)), .val (.int (sd + r1)), .val (.int l1), .unset] [(.int l1)]))
      refine own_by (fun _ kont => XS.istore X423.here hx rfl (hb hby at_207) rfl (l' := #[.val (.int i0), .val (.int i1), .val (.int i2), .val (.int i3), .val (.int i4), .val (.int i5), .val (.int sl), .val (.int sd), .val (.int cp), .val (.int l0), .val (.int r0), .val (.int l1), .val (.int r1), .val (.int (1 : Int32)), .val (.int (0 : Int32)), .val (.ref a403), .val (.int (Int32.ofNat 0)), .val (.int (Int32.ofNat 1)), .val (.int (Int32.ofNat 1)), .val (.int l1), .val (.int (sd + r1)), .val (.int (sd + r1)), .val (.int l1), .val (.int l1)]) rfl kont) ?_
      show own_Go p e below _ (T423.setTop (mkF m 209 #[.val (.int i0), .val (.int i1), .val (.int i2), .val (.int i3), .val (.int i4), .val (.int i5), .val (.int sl), .val (.int sd), .val (.int cp), .val (.int l0), .val (.int r0), .val (.int l1), .val (.int r1), .val (.int (1 : Int32)), .val (.int (0 : Int32)), .val (.ref a403), .val (.int (Int32.ofNat 0)), .val (.int (Int32.ofNat 1)), .val (.int (Int32.ofNat 1)), .val (.int l1), .val (.int (sd + r1)), .val (.int (sd + r1)), .val (.int l1), .val (.int l1)] []))
      refine own_by (fun _ kont => XS.iload X423.here hx rfl (hb hby at_209) rfl kont) ?_
      show own_Go p e below _ (T423.setTop (mkF m 211 #[.val (.int i0), .val (.int i1), .val (.int i2), .val (.int i3), .val (.int i4), .val (.int i5), .val (.int sl), .val (.int sd), .val (.int cp), .val (.int l0), .val (.int r0), .val (.int l1), .val (.int r1), .val (.int (1 : Int32)), .val (.int (0 : Int32)), .val (.ref a403), .val (.int (Int32.ofNat 0)), .val (.int (Int32.ofNat 1)), .val (.int (Int32.ofNat 1)), .val (.int l1), .val (.int (sd + r1)), .val (.int (sd + r1)), .val (.int l1), .val (.int l1)] [(.int (Int32.ofNat 0))]))
      refine own_by (fun _ kont => XS.ifNo X423.here hx rfl (hb hby at_211) rfl (XT.i0_ne_f (rfl : Int32.ofNat 0 = (0 : Int32))) kont) ?_
      show own_Go p e below _ (T423.setTop (mkF m 214 #[.val (.int i0), .val (.int i1), .val (.int i2), .val (.int i3), .val (.int i4), .val (.int i5), .val (.int sl), .val (.int sd), .val (.int cp), .val (.int l0), .val (.int r0), .val (.int l1), .val (.int r1), .val (.int (1 : Int32)), .val (.int (0 : Int32)), .val (.ref a403), .val (.int (Int32.ofNat 0)), .val (.int (Int32.ofNat 1)), .val (.int (Int32.ofNat 1)), .val (.int l1), .val (.int (sd + r1)), .val (.int (sd + r1)), .val (.int l1), .val (.int l1)] []))
      refine own_by (fun _ kont => XS.iload X423.here hx rfl (hb hby at_214) rfl kont) ?_
      show own_Go p e below _ (T423.setTop (mkF m 216 #[.val (.int i0), .val (.int i1), .val (.int i2), .val (.int i3), .val (.int i4), .val (.int i5), .val (.int sl), .val (.int sd), .val (.int cp), .val (.int l0), .val (.int r0), .val (.int l1), .val (.int r1), .val (.int (1 : Int32)), .val (.int (0 : Int32)), .val (.ref a403), .val (.int (Int32.ofNat 0)), .val (.int (Int32.ofNat 1)), .val (.int (Int32.ofNat 1)), .val (.int l1), .val (.int (sd + r1)), .val (.int (sd + r1)), .val (.int l1), .val (.int l1)] [(.int (Int32.ofNat 1))]))
      refine own_by (fun _ kont => XT.iconstV X423.here hx rfl (1 : Int32) (hb hby at_216) rfl kont) ?_
      show own_Go p e below _ (T423.setTop (mkF m 217 #[.val (.int i0), .val (.int i1), .val (.int i2), .val (.int i3), .val (.int i4), .val (.int i5), .val (.int sl), .val (.int sd), .val (.int cp), .val (.int l0), .val (.int r0), .val (.int l1), .val (.int r1), .val (.int (1 : Int32)), .val (.int (0 : Int32)), .val (.ref a403), .val (.int (Int32.ofNat 0)), .val (.int (Int32.ofNat 1)), .val (.int (Int32.ofNat 1)), .val (.int l1), .val (.int (sd + r1)), .val (.int (sd + r1)), .val (.int l1), .val (.int l1)] [(.int (1 : Int32)), (.int (Int32.ofNat 1))]))
      refine own_by (fun _ kont => XS.icmpNo X423.here hx rfl (hb hby at_217) rfl (XT.ii_ne_f (rfl : Int32.ofNat 1 = (1 : Int32))) kont) ?_
      show own_Go p e below _ (T423.setTop (mkF m 220 #[.val (.int i0), .val (.int i1), .val (.int i2), .val (.int i3), .val (.int i4), .val (.int i5), .val (.int sl), .val (.int sd), .val (.int cp), .val (.int l0), .val (.int r0), .val (.int l1), .val (.int r1), .val (.int (1 : Int32)), .val (.int (0 : Int32)), .val (.ref a403), .val (.int (Int32.ofNat 0)), .val (.int (Int32.ofNat 1)), .val (.int (Int32.ofNat 1)), .val (.int l1), .val (.int (sd + r1)), .val (.int (sd + r1)), .val (.int l1), .val (.int l1)] []))
      refine own_by (fun _ kont => XS.iload X423.here hx rfl (hb hby at_220) rfl kont) ?_
      show own_Go p e below _ (T423.setTop (mkF m 222 #[.val (.int i0), .val (.int i1), .val (.int i2), .val (.int i3), .val (.int i4), .val (.int i5), .val (.int sl), .val (.int sd), .val (.int cp), .val (.int l0), .val (.int r0), .val (.int l1), .val (.int r1), .val (.int (1 : Int32)), .val (.int (0 : Int32)), .val (.ref a403), .val (.int (Int32.ofNat 0)), .val (.int (Int32.ofNat 1)), .val (.int (Int32.ofNat 1)), .val (.int l1), .val (.int (sd + r1)), .val (.int (sd + r1)), .val (.int l1), .val (.int l1)] [(.int l1)]))
      refine own_by (fun _ kont => XS.iload X423.here hx rfl (hb hby at_222) rfl kont) ?_
      show own_Go p e below _ (T423.setTop (mkF m 224 #[.val (.int i0), .val (.int i1), .val (.int i2), .val (.int i3), .val (.int i4), .val (.int i5), .val (.int sl), .val (.int sd), .val (.int cp), .val (.int l0), .val (.int r0), .val (.int l1), .val (.int r1), .val (.int (1 : Int32)), .val (.int (0 : Int32)), .val (.ref a403), .val (.int (Int32.ofNat 0)), .val (.int (Int32.ofNat 1)), .val (.int (Int32.ofNat 1)), .val (.int l1), .val (.int (sd + r1)), .val (.int (sd + r1)), .val (.int l1), .val (.int l1)] [(.int l1), (.int l1)]))
      refine own_by (fun _ kont => XS.icmpNo X423.here hx rfl (hb hby at_224) rfl (XT.ii_ne_f rfl) kont) ?_
      show own_Go p e below _ (T423.setTop (mkF m 227 #[.val (.int i0), .val (.int i1), .val (.int i2), .val (.int i3), .val (.int i4), .val (.int i5), .val (.int sl), .val (.int sd), .val (.int cp), .val (.int l0), .val (.int r0), .val (.int l1), .val (.int r1), .val (.int (1 : Int32)), .val (.int (0 : Int32)), .val (.ref a403), .val (.int (Int32.ofNat 0)), .val (.int (Int32.ofNat 1)), .val (.int (Int32.ofNat 1)), .val (.int l1), .val (.int (sd + r1)), .val (.int (sd + r1)), .val (.int l1), .val (.int l1)] []))
      refine own_by (fun _ kont => XS.aload X423.here hx rfl (hb hby at_227) rfl rfl kont) ?_
      show own_Go p e below _ (T423.setTop (mkF m 229 #[.val (.int i0), .val (.int i1), .val (.int i2), .val (.int i3), .val (.int i4), .val (.int i5), .val (.int sl), .val (.int sd), .val (.int cp), .val (.int l0), .val (.int r0), .val (.int l1), .val (.int r1), .val (.int (1 : Int32)), .val (.int (0 : Int32)), .val (.ref a403), .val (.int (Int32.ofNat 0)), .val (.int (Int32.ofNat 1)), .val (.int (Int32.ofNat 1)), .val (.int l1), .val (.int (sd + r1)), .val (.int (sd + r1)), .val (.int l1), .val (.int l1)] [(.ref a403)]))
      refine own_by (fun _ kont => XS.iload X423.here hx rfl (hb hby at_229) rfl kont) ?_
      show own_Go p e below _ (T423.setTop (mkF m 231 #[.val (.int i0), .val (.int i1), .val (.int i2), .val (.int i3), .val (.int i4), .val (.int i5), .val (.int sl), .val (.int sd), .val (.int cp), .val (.int l0), .val (.int r0), .val (.int l1), .val (.int r1), .val (.int (1 : Int32)), .val (.int (0 : Int32)), .val (.ref a403), .val (.int (Int32.ofNat 0)), .val (.int (Int32.ofNat 1)), .val (.int (Int32.ofNat 1)), .val (.int l1), .val (.int (sd + r1)), .val (.int (sd + r1)), .val (.int l1), .val (.int l1)] [(.int (Int32.ofNat 1)), (.ref a403)]))
      refine own_by (fun _ kont => XS.iload X423.here hx rfl (hb hby at_231) rfl kont) ?_
      show own_Go p e below _ (T423.setTop (mkF m 233 #[.val (.int i0), .val (.int i1), .val (.int i2), .val (.int i3), .val (.int i4), .val (.int i5), .val (.int sl), .val (.int sd), .val (.int cp), .val (.int l0), .val (.int r0), .val (.int l1), .val (.int r1), .val (.int (1 : Int32)), .val (.int (0 : Int32)), .val (.ref a403), .val (.int (Int32.ofNat 0)), .val (.int (Int32.ofNat 1)), .val (.int (Int32.ofNat 1)), .val (.int l1), .val (.int (sd + r1)), .val (.int (sd + r1)), .val (.int l1), .val (.int l1)] [(.int l1), (.int (Int32.ofNat 1)), (.ref a403)]))
      obtain ⟨cq426, kq426, qa426, qb426, qc426⟩ := isOf hZ e423 GE422
      obtain ⟨_, _, ⟨T425, L425, k425, n425⟩, -, X425, ⟨Lc425, hQ425, l425, y425, z425⟩, st425⟩ := X423.virtualBack hx (y := (⟨"com/example/lambdalane/lambdalane/NodeGraph", "otherEnd", "(II)I"⟩ : MethodName)) (z := (⟨"com/example/lambdalane/lambdalane/NodeGraph", "otherEnd", "(II)I"⟩ : MethodName)) hown (mvT hZ (hw _ (List.mem_of_getElem? (i := 56) rfl))) (mvT hZ (hw _ (List.mem_of_getElem? (i := 57) rfl))) (notFace_of_selects (args := #[]) (mvT hZ (hw _ (List.mem_of_getElem? (i := 59) rfl)))) (mvT hZ (hw _ (List.mem_of_getElem? (i := 59) rfl))) (mvT hZ (hw _ (List.mem_of_getElem? (i := 58) rfl))) (by decide) (backOf (W := 0) (rmO l Z a0 hw [] a403 sd l1 1 2 cap420 lq420 rq420 _ _ _ T420.heap n0 G420 (by omega) (by omega) (by omega)) hZ (hw _ (List.mem_of_getElem? (i := 60) rfl)) (hw _ (List.mem_of_getElem? (i := 3) rfl)) (by decide) (by decide)) qa426 qc426 (g := (mkF m 233 #[.val (.int i0), .val (.int i1), .val (.int i2), .val (.int i3), .val (.int i4), .val (.int i5), .val (.int sl), .val (.int sd), .val (.int cp), .val (.int l0), .val (.int r0), .val (.int l1), .val (.int r1), .val (.int (1 : Int32)), .val (.int (0 : Int32)), .val (.ref a403), .val (.int (Int32.ofNat 0)), .val (.int (Int32.ofNat 1)), .val (.int (Int32.ofNat 1)), .val (.int l1), .val (.int (sd + r1)), .val (.int (sd + r1)), .val (.int l1), .val (.int l1)] [(.int l1), (.int (Int32.ofNat 1)), (.ref a403)])) rfl (by rw [hml]; rfl) (Steps.refl _) (argsL := [(.int (Int32.ofNat 1)), (.int l1)]) (rest := []) (lenOf own_pd6 rfl) rfl (by show 2 * 0 + _ ≤ _; exact Nat.le_of_eq rfl) (hb hby at_233) (fun _ _ => ⟨rfl, e423, (by decide : 13 + 0 ≤ _), (by decide : 120 + 0 ≤ _)⟩)
      dsimp only [Pt.U, Pt.locs, Pt.cells, Pt.slots] at X425 l425 y425 z425 st425 hQ425
      subst l425 y425 z425
      refine own_tr st425 ?_
      obtain ⟨rfl, N425, e425⟩ := hQ425
      obtain ⟨L425, X425, M425⟩ := own_hide X425 (Fr.app M423 N425)
      have hL425 : lq420 1 = l1 := by simp [hlq420, hlq417]
      have hR425 : rq420 1 = r1 := by simp [hrq420, hrq417]
      rw [hL425, hR425]
      rw [if_pos (rfl : l1 = l1)]
      show own_Go p e below _ (T425.setTop (mkF m 236 #[.val (.int i0), .val (.int i1), .val (.int i2), .val (.int i3), .val (.int i4), .val (.int i5), .val (.int sl), .val (.int sd), .val (.int cp), .val (.int l0), .val (.int r0), .val (.int l1), .val (.int r1), .val (.int (1 : Int32)), .val (.int (0 : Int32)), .val (.ref a403), .val (.int (Int32.ofNat 0)), .val (.int (Int32.ofNat 1)), .val (.int (Int32.ofNat 1)), .val (.int l1), .val (.int (sd + r1)), .val (.int (sd + r1)), .val (.int l1), .val (.int l1)] [(.int (sd + r1))]))
      refine own_by (fun _ kont => XS.iload X425.here hx rfl (hb hby at_236) rfl kont) ?_
      show own_Go p e below _ (T425.setTop (mkF m 238 #[.val (.int i0), .val (.int i1), .val (.int i2), .val (.int i3), .val (.int i4), .val (.int i5), .val (.int sl), .val (.int sd), .val (.int cp), .val (.int l0), .val (.int r0), .val (.int l1), .val (.int r1), .val (.int (1 : Int32)), .val (.int (0 : Int32)), .val (.ref a403), .val (.int (Int32.ofNat 0)), .val (.int (Int32.ofNat 1)), .val (.int (Int32.ofNat 1)), .val (.int l1), .val (.int (sd + r1)), .val (.int (sd + r1)), .val (.int l1), .val (.int l1)] [(.int (sd + r1)), (.int (sd + r1))]))
      refine own_by (fun _ kont => XS.icmpNo X425.here hx rfl (hb hby at_238) rfl (XT.ii_ne_f rfl) kont) ?_
      show own_Go p e below _ (T425.setTop (mkF m 241 #[.val (.int i0), .val (.int i1), .val (.int i2), .val (.int i3), .val (.int i4), .val (.int i5), .val (.int sl), .val (.int sd), .val (.int cp), .val (.int l0), .val (.int r0), .val (.int l1), .val (.int r1), .val (.int (1 : Int32)), .val (.int (0 : Int32)), .val (.ref a403), .val (.int (Int32.ofNat 0)), .val (.int (Int32.ofNat 1)), .val (.int (Int32.ofNat 1)), .val (.int l1), .val (.int (sd + r1)), .val (.int (sd + r1)), .val (.int l1), .val (.int l1)] []))
      refine own_by (fun _ kont => XT.iconstV X425.here hx rfl (1 : Int32) (hb hby at_241) rfl kont) ?_
      show own_Go p e below _ (T425.setTop (mkF m 242 #[.val (.int i0), .val (.int i1), .val (.int i2), .val (.int i3), .val (.int i4), .val (.int i5), .val (.int sl), .val (.int sd), .val (.int cp), .val (.int l0), .val (.int r0), .val (.int l1), .val (.int r1), .val (.int (1 : Int32)), .val (.int (0 : Int32)), .val (.ref a403), .val (.int (Int32.ofNat 0)), .val (.int (Int32.ofNat 1)), .val (.int (Int32.ofNat 1)), .val (.int l1), .val (.int (sd + r1)), .val (.int (sd + r1)), .val (.int l1), .val (.int l1)] [(.int (1 : Int32))]))
      refine own_by (fun _ kont => XS.goto X425.here hx rfl (pc0 := 242) (pc' := 246) rfl (hb hby at_242) (by decide) (by decide) kont) ?_
      show own_Go p e below _ (T425.setTop (mkF m 246 #[.val (.int i0), .val (.int i1), .val (.int i2), .val (.int i3), .val (.int i4), .val (.int i5), .val (.int sl), .val (.int sd), .val (.int cp), .val (.int l0), .val (.int r0), .val (.int l1), .val (.int r1), .val (.int (1 : Int32)), .val (.int (0 : Int32)), .val (.ref a403), .val (.int (Int32.ofNat 0)), .val (.int (Int32.ofNat 1)), .val (.int (Int32.ofNat 1)), .val (.int l1), .val (.int (sd + r1)), .val (.int (sd + r1)), .val (.int l1), .val (.int l1)] [(.int (1 : Int32))]))
      exact own_ret X425 hx hlk hret rfl (Or.inl ⟨rfl, by simp, _, rfl⟩) (hb hby at_246) ⟨rfl, M425⟩ (by decide) (by decide)
    · refine own_by (fun _ kont => XS.ifNo X0.here hx rfl (hb hby at_76) rfl (XT.i0_eq_f c76) kont) ?_
      show own_Go p e below _ (s₁.setTop (mkF m 79 #[.val (.int i0), .val (.int i1), .val (.int i2), .val (.int i3), .val (.int i4), .val (.int i5), .val (.int sl), .val (.int sd), .val (.int cp), .val (.int l0), .val (.int r0), .val (.int l1), .val (.int r1), .val (.int (1 : Int32)), .unset, .unset, .unset, .unset, .unset, .unset, .unset, .unset, .unset, .unset] []))
      refine own_by (fun _ kont => XT.iconstV X0.here hx rfl (1 : Int32) (hb hby at_79) rfl kont) ?_
      show own_Go p e below _ (s₁.setTop (mkF m 80 #[.val (.int i0), .val (.int i1), .val (.int i2), .val (.int i3), .val (.int i4), .val (.int i5), .val (.int sl), .val (.int sd), .val (.int cp), .val (.int l0), .val (.int r0), .val (.int l1), .val (.int r1), .val (.int (1 : Int32)), .unset, .unset, .unset, .unset, .unset, .unset, .unset, .unset, .unset, .unset] [(.int (1 : Int32))]))
      refine own_by (fun _ kont => XS.goto X0.here hx rfl (pc0 := 80) (pc' := 84) rfl (hb hby at_80) (by decide) (by decide) kont) ?_
      show own_Go p e below _ (s₁.setTop (mkF m 84 #[.val (.int i0), .val (.int i1), .val (.int i2), .val (.int i3), .val (.int i4), .val (.int i5), .val (.int sl), .val (.int sd), .val (.int cp), .val (.int l0), .val (.int r0), .val (.int l1), .val (.int r1), .val (.int (1 : Int32)), .unset, .unset, .unset, .unset, .unset, .unset, .unset, .unset, .unset, .unset] [(.int (1 : Int32))]))
      refine own_by (fun _ kont => XS.istore X0.here hx rfl (hb hby at_84) rfl (l' := #[.val (.int i0), .val (.int i1), .val (.int i2), .val (.int i3), .val (.int i4), .val (.int i5), .val (.int sl), .val (.int sd), .val (.int cp), .val (.int l0), .val (.int r0), .val (.int l1), .val (.int r1), .val (.int (1 : Int32)), .val (.int (1 : Int32)), .unset, .unset, .unset, .unset, .unset, .unset, .unset, .unset, .unset]) rfl kont) ?_
      show own_Go p e below _ (s₁.setTop (mkF m 86 #[.val (.int i0), .val (.int i1), .val (.int i2), .val (.int i3), .val (.int i4), .val (.int i5), .val (.int sl), .val (.int sd), .val (.int cp), .val (.int l0), .val (.int r0), .val (.int l1), .val (.int r1), .val (.int (1 : Int32)), .val (.int (1 : Int32)), .unset, .unset, .unset, .unset, .unset, .unset, .unset, .unset, .unset] []))
      obtain ⟨T427, h427, X427, e427, E427, A427, D427, -, st427⟩ := newO X0 hx hZ hown (hw _ (List.mem_of_getElem? (i := 1) rfl)) (hw _ (List.mem_of_getElem? (i := 2) rfl)) (hw _ (List.mem_of_getElem? (i := 3) rfl)) e0 (g := (mkF m 86 #[.val (.int i0), .val (.int i1), .val (.int i2), .val (.int i3), .val (.int i4), .val (.int i5), .val (.int sl), .val (.int sd), .val (.int cp), .val (.int l0), .val (.int r0), .val (.int l1), .val (.int r1), .val (.int (1 : Int32)), .val (.int (1 : Int32)), .unset, .unset, .unset, .unset, .unset, .unset, .unset, .unset, .unset] [])) rfl (hb hby at_86) (by decide) (by decide)
      obtain ⟨a427, g427⟩ : ∃ z, z = h0.size := ⟨_, rfl⟩
      rw [← g427] at A427 D427 st427
      have ge427 : n0 ≤ a427 := by rw [g427]; exact Z0
      have Z427 : n0 ≤ h427.size := Nat.le_trans Z0 E427.1
      have F428 : Fld Z h427 a427 "com/example/lambdalane/lambdalane/NodeGraph" "nextFresh" "I" (.int (0 : Int32)) := D427 (Or.inl (hw _ (List.mem_of_getElem? (i := 11) rfl))) (ty := .int) (by decide)
      have F429 : Fld Z h427 a427 "com/example/lambdalane/lambdalane/NodeGraph" "side" "I" (.int (0 : Int32)) := D427 (Or.inr (hw _ (List.mem_of_getElem? (i := 13) rfl))) (ty := .int) (by decide)
      have F430 : Fld Z h427 a427 "com/example/lambdalane/lambdalane/NodeGraph" "load" "I" (.int (0 : Int32)) := D427 (Or.inr (hw _ (List.mem_of_getElem? (i := 15) rfl))) (ty := .int) (by decide)
      have F431 : Fld Z h427 a427 "com/example/lambdalane/lambdalane/NodeGraph" "colourLimit" "I" (.int (0 : Int32)) := D427 (Or.inr (hw _ (List.mem_of_getElem? (i := 17) rfl))) (ty := .int) (by decide)
      have F432 : Fld Z h427 a427 "com/example/lambdalane/lambdalane/NodeGraph" "left" "[I" .null := D427 (Or.inl (hw _ (List.mem_of_getElem? (i := 20) rfl))) (ty := (.array .int)) (by decide)
      have F433 : Fld Z h427 a427 "com/example/lambdalane/lambdalane/NodeGraph" "right" "[I" .null := D427 (Or.inl (hw _ (List.mem_of_getElem? (i := 22) rfl))) (ty := (.array .int)) (by decide)
      have F434 : Fld Z h427 a427 "com/example/lambdalane/lambdalane/NodeGraph" "colour" "[I" .null := D427 (Or.inl (hw _ (List.mem_of_getElem? (i := 24) rfl))) (ty := (.array .int)) (by decide)
      have F435 : Fld Z h427 a427 "com/example/lambdalane/lambdalane/NodeGraph" "inEdgeOf" "[I" .null := D427 (Or.inr (hw _ (List.mem_of_getElem? (i := 26) rfl))) (ty := (.array .int)) (by decide)
      have F436 : Fld Z h427 a427 "com/example/lambdalane/lambdalane/NodeGraph" "outEdgeOf" "[I" .null := D427 (Or.inr (hw _ (List.mem_of_getElem? (i := 28) rfl))) (ty := (.array .int)) (by decide)
      have F437 : Fld Z h427 a427 "com/example/lambdalane/lambdalane/NodeGraph" "colourMark" "[I" .null := D427 (Or.inr (hw _ (List.mem_of_getElem? (i := 30) rfl))) (ty := (.array .int)) (by decide)
      have F438 : Fld Z h427 a427 "com/example/lambdalane/lambdalane/NodeGraph" "size" "I" (.int (0 : Int32)) := D427 (Or.inl (hw _ (List.mem_of_getElem? (i := 41) rfl))) (ty := .int) (by decide)
      refine own_by st427 ?_
      show own_Go p e below _ (T427.setTop (mkF m 89 #[.val (.int i0), .val (.int i1), .val (.int i2), .val (.int i3), .val (.int i4), .val (.int i5), .val (.int sl), .val (.int sd), .val (.int cp), .val (.int l0), .val (.int r0), .val (.int l1), .val (.int r1), .val (.int (1 : Int32)), .val (.int (1 : Int32)), .unset, .unset, .unset, .unset, .unset, .unset, .unset, .unset, .unset] [(.ref a427)]))
      refine own_by (fun _ kont => XS.dup X427.here hx rfl (hb hby at_89) rfl rfl kont) ?_
      show own_Go p e below _ (T427.setTop (mkF m 90 #[.val (.int i0), .val (.int i1), .val (.int i2), .val (.int i3), .val (.int i4), .val (.int i5), .val (.int sl), .val (.int sd), .val (.int cp), .val (.int l0), .val (.int r0), .val (.int l1), .val (.int r1), .val (.int (1 : Int32)), .val (.int (1 : Int32)), .unset, .unset, .unset, .unset, .unset, .unset, .unset, .unset, .unset] [(.ref a427), (.ref a427)]))
      refine own_by (fun _ kont => XS.iload X427.here hx rfl (hb hby at_90) rfl kont) ?_
      show own_Go p e below _ (T427.setTop (mkF m 92 #[.val (.int i0), .val (.int i1), .val (.int i2), .val (.int i3), .val (.int i4), .val (.int i5), .val (.int sl), .val (.int sd), .val (.int cp), .val (.int l0), .val (.int r0), .val (.int l1), .val (.int r1), .val (.int (1 : Int32)), .val (.int (1 : Int32)), .unset, .unset, .unset, .unset, .unset, .unset, .unset, .unset, .unset] [(.int sl), (.ref a427), (.ref a427)]))
      refine own_by (fun _ kont => XT.iconstV X427.here hx rfl (0 : Int32) (hb hby at_92) rfl kont) ?_
      show own_Go p e below _ (T427.setTop (mkF m 93 #[.val (.int i0), .val (.int i1), .val (.int i2), .val (.int i3), .val (.int i4), .val (.int i5), .val (.int sl), .val (.int sd), .val (.int cp), .val (.int l0), .val (.int r0), .val (.int l1), .val (.int r1), .val (.int (1 : Int32)), .val (.int (1 : Int32)), .unset, .unset, .unset, .unset, .unset, .unset, .unset, .unset, .unset] [(.int (0 : Int32)), (.int sl), (.ref a427), (.ref a427)]))
      refine own_by (fun _ kont => XT.iconstV X427.here hx rfl (0 : Int32) (hb hby at_93) rfl kont) ?_
      show own_Go p e below _ (T427.setTop (mkF m 94 #[.val (.int i0), .val (.int i1), .val (.int i2), .val (.int i3), .val (.int i4), .val (.int i5), .val (.int sl), .val (.int sd), .val (.int cp), .val (.int l0), .val (.int r0), .val (.int l1), .val (.int r1), .val (.int (1 : Int32)), .val (.int (1 : Int32)), .unset, .unset, .unset, .unset, .unset, .unset, .unset, .unset, .unset] [(.int (0 : Int32)), (.int (0 : Int32)), (.int sl), (.ref a427), (.ref a427)]))
      refine own_by (fun _ kont => XS.iload X427.here hx rfl (hb hby at_94) rfl kont) ?_
      show own_Go p e below _ (T427.setTop (mkF m 96 #[.val (.int i0), .val (.int i1), .val (.int i2), .val (.int i3), .val (.int i4), .val (.int i5), .val (.int sl), .val (.int sd), .val (.int cp), .val (.int l0), .val (.int r0), .val (.int l1), .val (.int r1), .val (.int (1 : Int32)), .val (.int (1 : Int32)), .unset, .unset, .unset, .unset, .unset, .unset, .unset, .unset, .unset] [(.int cp), (.int (0 : Int32)), (.int (0 : Int32)), (.int sl), (.ref a427), (.ref a427)]))
      obtain ⟨_, _, ⟨T439, L439, k439, n439⟩, -, X439, ⟨Lc439, hQ439, l439, y439, z439⟩, st439⟩ := X427.specialBack hx (y := (⟨"com/example/lambdalane/lambdalane/NodeGraph", "<init>", "(IIII)V"⟩ : MethodName)) rfl hown (mvT hZ (hw _ (List.mem_of_getElem? (i := 4) rfl))) (mvT hZ (hw _ (List.mem_of_getElem? (i := 5) rfl))) (mvT hZ (hw _ (List.mem_of_getElem? (i := 6) rfl))) (by decide) (backOf (W := 1) (rmI l Z a0 hw [] a427 sl (0 : Int32) cp cap h427 n0 A427 F428 F429 F430 F431 F432 F433 F434 F435 F436 F437 F438 ge427 Z427 hcp (by omega)) hZ (hw _ (List.mem_of_getElem? (i := 6) rfl)) (hw _ (List.mem_of_getElem? (i := 3) rfl)) (by decide) (by decide)) (g := (mkF m 96 #[.val (.int i0), .val (.int i1), .val (.int i2), .val (.int i3), .val (.int i4), .val (.int i5), .val (.int sl), .val (.int sd), .val (.int cp), .val (.int l0), .val (.int r0), .val (.int l1), .val (.int r1), .val (.int (1 : Int32)), .val (.int (1 : Int32)), .unset, .unset, .unset, .unset, .unset, .unset, .unset, .unset, .unset] [(.int cp), (.int (0 : Int32)), (.int (0 : Int32)), (.int sl), (.ref a427), (.ref a427)])) rfl (by rw [hml]; rfl) (Steps.refl _) (a := a427) (argsL := [(.int sl), (.int (0 : Int32)), (.int (0 : Int32)), (.int cp)]) (rest := [(.ref a427)]) (lenOf own_pd1 rfl) rfl (by show 2 * 0 + _ ≤ _; exact Nat.le_of_eq rfl) (hb hby at_96) (fun _ _ => ⟨rfl, e427, (by decide : 1 + 6 ≤ _), (by decide : 12 + 12 ≤ _)⟩)
      dsimp only [Pt.U, Pt.locs, Pt.cells, Pt.slots] at X439 l439 y439 z439 st439 hQ439
      subst l439 y439 z439
      refine own_tr st439 ?_
      obtain ⟨rfl, N439, G439⟩ := hQ439
      obtain ⟨L439, X439, M439⟩ := own_hide X439 (Fr.app N0 N439)
      rw [← hsd] at G439
      have GE440 : Exa Z T439.heap a427 "com/example/lambdalane/lambdalane/NodeGraph" := by obtain ⟨_, _, _, _, _, _, _, _, ⟨q, -⟩, -⟩ := G439; exact q
      show own_Go p e below _ (T439.setTop (mkF m 99 #[.val (.int i0), .val (.int i1), .val (.int i2), .val (.int i3), .val (.int i4), .val (.int i5), .val (.int sl), .val (.int sd), .val (.int cp), .val (.int l0), .val (.int r0), .val (.int l1), .val (.int r1), .val (.int (1 : Int32)), .val (.int (1 : Int32)), .unset, .unset, .unset, .unset, .unset, .unset, .unset, .unset, .unset] [(.ref a427)]))
      refine own_by (fun _ kont => XS.astore X439.here hx rfl (hb hby at_99) rfl rfl (l' := #[.val (.int i0), .val (.int i1), .val (.int i2), .val (.int i3), .val (.int i4), .val (.int i5), .val (.int sl), .val (.int sd), .val (.int cp), .val (.int l0), .val (.int r0), .val (.int l1), .val (.int r1), .val (.int (1 : Int32)), .val (.int (1 : Int32)), .val (.ref a427), .unset, .unset, .unset, .unset, .unset, .unset, .unset, .unset]) rfl kont) ?_
      show own_Go p e below _ (T439.setTop (mkF m 101 #[.val (.int i0), .val (.int i1), .val (.int i2), .val (.int i3), .val (.int i4), .val (.int i5), .val (.int sl), .val (.int sd), .val (.int cp), .val (.int l0), .val (.int r0), .val (.int l1), .val (.int r1), .val (.int (1 : Int32)), .val (.int (1 : Int32)), .val (.ref a427), .unset, .unset, .unset, .unset, .unset, .unset, .unset, .unset] []))
      refine own_by (fun _ kont => XS.aload X439.here hx rfl (hb hby at_101) rfl rfl kont) ?_
      show own_Go p e below _ (T439.setTop (mkF m 103 #[.val (.int i0), .val (.int i1), .val (.int i2), .val (.int i3), .val (.int i4), .val (.int i5), .val (.int sl), .val (.int sd), .val (.int cp), .val (.int l0), .val (.int r0), .val (.int l1), .val (.int r1), .val (.int (1 : Int32)), .val (.int (1 : Int32)), .val (.ref a427), .unset, .unset, .unset, .unset, .unset, .unset, .unset, .unset] [(.ref a427)]))
      refine own_by (fun _ kont => XS.iload X439.here hx rfl (hb hby at_103) rfl kont) ?_
      show own_Go p e below _ (T439.setTop (mkF m 105 #[.val (.int i0), .val (.int i1), .val (.int i2), .val (.int i3), .val (.int i4), .val (.int i5), .val (.int sl), .val (.int sd), .val (.int cp), .val (.int l0), .val (.int r0), .val (.int l1), .val (.int r1), .val (.int (1 : Int32)), .val (.int (1 : Int32)), .val (.ref a427), .unset, .unset, .unset, .unset, .unset, .unset, .unset, .unset] [(.int l0), (.ref a427)]))
      refine own_by (fun _ kont => XS.iload X439.here hx rfl (hb hby at_105) rfl kont) ?_
      show own_Go p e below _ (T439.setTop (mkF m 107 #[.val (.int i0), .val (.int i1), .val (.int i2), .val (.int i3), .val (.int i4), .val (.int i5), .val (.int sl), .val (.int sd), .val (.int cp), .val (.int l0), .val (.int r0), .val (.int l1), .val (.int r1), .val (.int (1 : Int32)), .val (.int (1 : Int32)), .val (.ref a427), .unset, .unset, .unset, .unset, .unset, .unset, .unset, .unset] [(.int r0), (.int l0), (.ref a427)]))
      refine own_by (fun _ kont => XT.iconstV X439.here hx rfl (0 : Int32) (hb hby at_107) rfl kont) ?_
      show own_Go p e below _ (T439.setTop (mkF m 108 #[.val (.int i0), .val (.int i1), .val (.int i2), .val (.int i3), .val (.int i4), .val (.int i5), .val (.int sl), .val (.int sd), .val (.int cp), .val (.int l0), .val (.int r0), .val (.int l1), .val (.int r1), .val (.int (1 : Int32)), .val (.int (1 : Int32)), .val (.ref a427), .unset, .unset, .unset, .unset, .unset, .unset, .unset, .unset] [(.int (0 : Int32)), (.int r0), (.int l0), (.ref a427)]))
      obtain ⟨cq442, kq442, qa442, qb442, qc442⟩ := isOf hZ (rfl : T439.heap = T439.heap) GE440
      obtain ⟨_, _, ⟨T441, L441, k441, n441⟩, -, X441, ⟨Lc441, hQ441, l441, y441, z441⟩, st441⟩ := X439.virtualBack hx (y := (⟨"com/example/lambdalane/lambdalane/NodeGraph", "add", "(III)I"⟩ : MethodName)) (z := (⟨"com/example/lambdalane/lambdalane/NodeGraph", "add", "(III)I"⟩ : MethodName)) hown (mvT hZ (hw _ (List.mem_of_getElem? (i := 35) rfl))) (mvT hZ (hw _ (List.mem_of_getElem? (i := 36) rfl))) (notFace_of_selects (args := #[]) (mvT hZ (hw _ (List.mem_of_getElem? (i := 38) rfl)))) (mvT hZ (hw _ (List.mem_of_getElem? (i := 38) rfl))) (mvT hZ (hw _ (List.mem_of_getElem? (i := 37) rfl))) (by decide) (backOf (W := 0) (rmA l Z a0 hw [] a427 sd l0 r0 0 0 cap (fun _ => 0) (fun _ => 0) (fun _ => 0) (fun _ => -1) (fun _ => -1) (fun _ => -1) (fun _ => -1) T439.heap n0 G439 (by omega) (by omega) (by omega) (Or.inl ⟨rfl, rfl, rfl⟩)) hZ (hw _ (List.mem_of_getElem? (i := 39) rfl)) (hw _ (List.mem_of_getElem? (i := 3) rfl)) (by decide) (by decide)) qa442 qc442 (g := (mkF m 108 #[.val (.int i0), .val (.int i1), .val (.int i2), .val (.int i3), .val (.int i4), .val (.int i5), .val (.int sl), .val (.int sd), .val (.int cp), .val (.int l0), .val (.int r0), .val (.int l1), .val (.int r1), .val (.int (1 : Int32)), .val (.int (1 : Int32)), .val (.ref a427), .unset, .unset, .unset, .unset, .unset, .unset, .unset, .unset] [(.int (0 : Int32)), (.int r0), (.int l0), (.ref a427)])) rfl (by rw [hml]; rfl) (Steps.refl _) (argsL := [(.int l0), (.int r0), (.int (0 : Int32))]) (rest := []) (lenOf own_pd4 rfl) rfl (by show 2 * 0 + _ ≤ _; exact Nat.le_of_eq rfl) (hb hby at_108) (fun _ _ => ⟨rfl, (rfl : T439.heap = T439.heap), (by decide : 7 + 3 ≤ _), (by decide : 24 + 48 ≤ _)⟩)
      dsimp only [Pt.U, Pt.locs, Pt.cells, Pt.slots] at X441 l441 y441 z441 st441 hQ441
      subst l441 y441 z441
      refine own_tr st441 ?_
      obtain ⟨rfl, N441, cap441, u441, v441, G441⟩ := hQ441
      obtain ⟨L441, X441, M441⟩ := own_hide X441 (Fr.app M439 N441)
      obtain ⟨lq441, hlq441⟩ : ∃ f : Nat → Int32, f = (fun i => if i = 0 then l0 else (fun _ => 0) i) := ⟨_, rfl⟩
      obtain ⟨rq441, hrq441⟩ : ∃ f : Nat → Int32, f = (fun i => if i = 0 then r0 else (fun _ => 0) i) := ⟨_, rfl⟩
      rw [← hlq441, ← hrq441] at G441
      have GE443 : Exa Z T441.heap a427 "com/example/lambdalane/lambdalane/NodeGraph" := by obtain ⟨_, _, _, _, _, _, _, _, ⟨q, -⟩, -⟩ := G441; exact q
      show own_Go p e below _ (T441.setTop (mkF m 111 #[.val (.int i0), .val (.int i1), .val (.int i2), .val (.int i3), .val (.int i4), .val (.int i5), .val (.int sl), .val (.int sd), .val (.int cp), .val (.int l0), .val (.int r0), .val (.int l1), .val (.int r1), .val (.int (1 : Int32)), .val (.int (1 : Int32)), .val (.ref a427), .unset, .unset, .unset, .unset, .unset, .unset, .unset, .unset] [(.int (Int32.ofNat 0))]))
      refine own_by (fun _ kont => XS.istore X441.here hx rfl (hb hby at_111) rfl (l' := #[.val (.int i0), .val (.int i1), .val (.int i2), .val (.int i3), .val (.int i4), .val (.int i5), .val (.int sl), .val (.int sd), .val (.int cp), .val (.int l0), .val (.int r0), .val (.int l1), .val (.int r1), .val (.int (1 : Int32)), .val (.int (1 : Int32)), .val (.ref a427), .val (.int (Int32.ofNat 0)), .unset, .unset, .unset, .unset, .unset, .unset, .unset]) rfl kont) ?_
      show own_Go p e below _ (T441.setTop (mkF m 113 #[.val (.int i0), .val (.int i1), .val (.int i2), .val (.int i3), .val (.int i4), .val (.int i5), .val (.int sl), .val (.int sd), .val (.int cp), .val (.int l0), .val (.int r0), .val (.int l1), .val (.int r1), .val (.int (1 : Int32)), .val (.int (1 : Int32)), .val (.ref a427), .val (.int (Int32.ofNat 0)), .unset, .unset, .unset, .unset, .unset, .unset, .unset] []))
      refine own_by (fun _ kont => XS.aload X441.here hx rfl (hb hby at_113) rfl rfl kont) ?_
      show own_Go p e below _ (T441.setTop (mkF m 115 #[.val (.int i0), .val (.int i1), .val (.int i2), .val (.int i3), .val (.int i4), .val (.int i5), .val (.int sl), .val (.int sd), .val (.int cp), .val (.int l0), .val (.int r0), .val (.int l1), .val (.int r1), .val (.int (1 : Int32)), .val (.int (1 : Int32)), .val (.ref a427), .val (.int (Int32.ofNat 0)), .unset, .unset, .unset, .unset, .unset, .unset, .unset] [(.ref a427)]))
      refine own_by (fun _ kont => XS.iload X441.here hx rfl (hb hby at_115) rfl kont) ?_
      show own_Go p e below _ (T441.setTop (mkF m 117 #[.val (.int i0), .val (.int i1), .val (.int i2), .val (.int i3), .val (.int i4), .val (.int i5), .val (.int sl), .val (.int sd), .val (.int cp), .val (.int l0), .val (.int r0), .val (.int l1), .val (.int r1), .val (.int (1 : Int32)), .val (.int (1 : Int32)), .val (.ref a427), .val (.int (Int32.ofNat 0)), .unset, .unset, .unset, .unset, .unset, .unset, .unset] [(.int l1), (.ref a427)]))
      refine own_by (fun _ kont => XS.iload X441.here hx rfl (hb hby at_117) rfl kont) ?_
      show own_Go p e below _ (T441.setTop (mkF m 119 #[.val (.int i0), .val (.int i1), .val (.int i2), .val (.int i3), .val (.int i4), .val (.int i5), .val (.int sl), .val (.int sd), .val (.int cp), .val (.int l0), .val (.int r0), .val (.int l1), .val (.int r1), .val (.int (1 : Int32)), .val (.int (1 : Int32)), .val (.ref a427), .val (.int (Int32.ofNat 0)), .unset, .unset, .unset, .unset, .unset, .unset, .unset] [(.int r1), (.int l1), (.ref a427)]))
      refine own_by (fun _ kont => XT.iconstV X441.here hx rfl (0 : Int32) (hb hby at_119) rfl kont) ?_
      show own_Go p e below _ (T441.setTop (mkF m 120 #[.val (.int i0), .val (.int i1), .val (.int i2), .val (.int i3), .val (.int i4), .val (.int i5), .val (.int sl), .val (.int sd), .val (.int cp), .val (.int l0), .val (.int r0), .val (.int l1), .val (.int r1), .val (.int (1 : Int32)), .val (.int (1 : Int32)), .val (.ref a427), .val (.int (Int32.ofNat 0)), .unset, .unset, .unset, .unset, .unset, .unset, .unset] [(.int (0 : Int32)), (.int r1), (.int l1), (.ref a427)]))
      obtain ⟨cq445, kq445, qa445, qb445, qc445⟩ := isOf hZ (rfl : T441.heap = T441.heap) GE443
      obtain ⟨_, _, ⟨T444, L444, k444, n444⟩, -, X444, ⟨Lc444, hQ444, l444, y444, z444⟩, st444⟩ := X441.virtualBack hx (y := (⟨"com/example/lambdalane/lambdalane/NodeGraph", "add", "(III)I"⟩ : MethodName)) (z := (⟨"com/example/lambdalane/lambdalane/NodeGraph", "add", "(III)I"⟩ : MethodName)) hown (mvT hZ (hw _ (List.mem_of_getElem? (i := 35) rfl))) (mvT hZ (hw _ (List.mem_of_getElem? (i := 36) rfl))) (notFace_of_selects (args := #[]) (mvT hZ (hw _ (List.mem_of_getElem? (i := 38) rfl)))) (mvT hZ (hw _ (List.mem_of_getElem? (i := 38) rfl))) (mvT hZ (hw _ (List.mem_of_getElem? (i := 37) rfl))) (by decide) (backOf (W := 0) (rmA l Z a0 hw [] a427 sd l1 r1 0 1 cap441 lq441 rq441 _ (fun _ => -1) (fun _ => -1) (fun _ => -1) (fun _ => -1) T441.heap n0 G441 (by omega) (by omega) (by omega) (Or.inl ⟨rfl, rfl, rfl⟩)) hZ (hw _ (List.mem_of_getElem? (i := 39) rfl)) (hw _ (List.mem_of_getElem? (i := 3) rfl)) (by decide) (by decide)) qa445 qc445 (g := (mkF m 120 #[.val (.int i0), .val (.int i1), .val (.int i2), .val (.int i3), .val (.int i4), .val (.int i5), .val (.int sl), .val (.int sd), .val (.int cp), .val (.int l0), .val (.int r0), .val (.int l1), .val (.int r1), .val (.int (1 : Int32)), .val (.int (1 : Int32)), .val (.ref a427), .val (.int (Int32.ofNat 0)), .unset, .unset, .unset, .unset, .unset, .unset, .unset] [(.int (0 : Int32)), (.int r1), (.int l1), (.ref a427)])) rfl (by rw [hml]; rfl) (Steps.refl _) (argsL := [(.int l1), (.int r1), (.int (0 : Int32))]) (rest := []) (lenOf own_pd4 rfl) rfl (by show 2 * 0 + _ ≤ _; exact Nat.le_of_eq rfl) (hb hby at_120) (fun _ _ => ⟨rfl, (rfl : T441.heap = T441.heap), (by decide : 10 + 3 ≤ _), (by decide : 72 + 48 ≤ _)⟩)
      dsimp only [Pt.U, Pt.locs, Pt.cells, Pt.slots] at X444 l444 y444 z444 st444 hQ444
      subst l444 y444 z444
      refine own_tr st444 ?_
      obtain ⟨rfl, N444, cap444, u444, v444, G444⟩ := hQ444
      obtain ⟨L444, X444, M444⟩ := own_hide X444 (Fr.app M441 N444)
      obtain ⟨lq444, hlq444⟩ : ∃ f : Nat → Int32, f = (fun i => if i = 1 then l1 else lq441 i) := ⟨_, rfl⟩
      obtain ⟨rq444, hrq444⟩ : ∃ f : Nat → Int32, f = (fun i => if i = 1 then r1 else rq441 i) := ⟨_, rfl⟩
      rw [← hlq444, ← hrq444] at G444
      have GE446 : Exa Z T444.heap a427 "com/example/lambdalane/lambdalane/NodeGraph" := by obtain ⟨_, _, _, _, _, _, _, _, ⟨q, -⟩, -⟩ := G444; exact q
      show own_Go p e below _ (T444.setTop (mkF m 123 #[.val (.int i0), .val (.int i1), .val (.int i2), .val (.int i3), .val (.int i4), .val (.int i5), .val (.int sl), .val (.int sd), .val (.int cp), .val (.int l0), .val (.int r0), .val (.int l1), .val (.int r1), .val (.int (1 : Int32)), .val (.int (1 : Int32)), .val (.ref a427), .val (.int (Int32.ofNat 0)), .unset, .unset, .unset, .unset, .unset, .unset, .unset] [(.int (Int32.ofNat 1))]))
      refine own_by (fun _ kont => XS.istore X444.here hx rfl (hb hby at_123) rfl (l' := #[.val (.int i0), .val (.int i1), .val (.int i2), .val (.int i3), .val (.int i4), .val (.int i5), .val (.int sl), .val (.int sd), .val (.int cp), .val (.int l0), .val (.int r0), .val (.int l1), .val (.int r1), .val (.int (1 : Int32)), .val (.int (1 : Int32)), .val (.ref a427), .val (.int (Int32.ofNat 0)), .val (.int (Int32.ofNat 1)), .unset, .unset, .unset, .unset, .unset, .unset]) rfl kont) ?_
      show own_Go p e below _ (T444.setTop (mkF m 125 #[.val (.int i0), .val (.int i1), .val (.int i2), .val (.int i3), .val (.int i4), .val (.int i5), .val (.int sl), .val (.int sd), .val (.int cp), .val (.int l0), .val (.int r0), .val (.int l1), .val (.int r1), .val (.int (1 : Int32)), .val (.int (1 : Int32)), .val (.ref a427), .val (.int (Int32.ofNat 0)), .val (.int (Int32.ofNat 1)), .unset, .unset, .unset, .unset, .unset, .unset] []))
      refine own_by (fun _ kont => XS.iload X444.here hx rfl (hb hby at_125) rfl kont) ?_
      show own_Go p e below _ (T444.setTop (mkF m 127 #[.val (.int i0), .val (.int i1), .val (.int i2), .val (.int i3), .val (.int i4), .val (.int i5), .val (.int sl), .val (.int sd), .val (.int cp), .val (.int l0), .val (.int r0), .val (.int l1), .val (.int r1), .val (.int (1 : Int32)), .val (.int (1 : Int32)), .val (.ref a427), .val (.int (Int32.ofNat 0)), .val (.int (Int32.ofNat 1)), .unset, .unset, .unset, .unset, .unset, .unset] [(.int (1 : Int32))]))
      refine own_by (fun _ kont => XS.ifNo X444.here hx rfl (hb hby at_127) rfl (XT.i0_eq_f (by decide)) kont) ?_
      show own_Go p e below _ (T444.setTop (mkF m 130 #[.val (.int i0), .val (.int i1), .val (.int i2), .val (.int i3), .val (.int i4), .val (.int i5), .val (.int sl), .val (.int sd), .val (.int cp), .val (.int l0), .val (.int r0), .val (.int l1), .val (.int r1), .val (.int (1 : Int32)), .val (.int (1 : Int32)), .val (.ref a427), .val (.int (Int32.ofNat 0)), .val (.int (Int32.ofNat 1)), .unset, .unset, .unset, .unset, .unset, .unset] []))
      refine own_by (fun _ kont => XS.iload X444.here hx rfl (hb hby at_130) rfl kont) ?_
      show own_Go p e below _ (T444.setTop (mkF m 132 #[.val (.int i0), .val (.int i1), .val (.int i2), .val (.int i3), .val (.int i4), .val (.int i5), .val (.int sl), .val (.int sd), .val (.int cp), .val (.int l0), .val (.int r0), .val (.int l1), .val (.int r1), .val (.int (1 : Int32)), .val (.int (1 : Int32)), .val (.ref a427), .val (.int (Int32.ofNat 0)), .val (.int (Int32.ofNat 1)), .unset, .unset, .unset, .unset, .unset, .unset] [(.int (Int32.ofNat 1))]))
      refine own_by (fun _ kont => XS.goto X444.here hx rfl (pc0 := 132) (pc' := 137) rfl (hb hby at_132) (by decide) (by decide) kont) ?_
      show own_Go p e below _ (T444.setTop (mkF m 137 #[.val (.int i0), .val (.int i1), .val (.int i2), .val (.int i3), .val (.int i4), .val (.int i5), .val (.int sl), .val (.int sd), .val (.int cp), .val (.int l0), .val (.int r0), .val (.int l1), .val (.int r1), .val (.int (1 : Int32)), .val (.int (1 : Int32)), .val (.ref a427), .val (.int (Int32.ofNat 0)), .val (.int (Int32.ofNat 1)), .unset, .unset, .unset, .unset, .unset, .unset] [(.int (Int32.ofNat 1))]))
      refine own_by (fun _ kont => XS.istore X444.here hx rfl (hb hby at_137) rfl (l' := #[.val (.int i0), .val (.int i1), .val (.int i2), .val (.int i3), .val (.int i4), .val (.int i5), .val (.int sl), .val (.int sd), .val (.int cp), .val (.int l0), .val (.int r0), .val (.int l1), .val (.int r1), .val (.int (1 : Int32)), .val (.int (1 : Int32)), .val (.ref a427), .val (.int (Int32.ofNat 0)), .val (.int (Int32.ofNat 1)), .val (.int (Int32.ofNat 1)), .unset, .unset, .unset, .unset, .unset]) rfl kont) ?_
      show own_Go p e below _ (T444.setTop (mkF m 139 #[.val (.int i0), .val (.int i1), .val (.int i2), .val (.int i3), .val (.int i4), .val (.int i5), .val (.int sl), .val (.int sd), .val (.int cp), .val (.int l0), .val (.int r0), .val (.int l1), .val (.int r1), .val (.int (1 : Int32)), .val (.int (1 : Int32)), .val (.ref a427), .val (.int (Int32.ofNat 0)), .val (.int (Int32.ofNat 1)), .val (.int (Int32.ofNat 1)), .unset, .unset, .unset, .unset, .unset] []))
      refine own_by (fun _ kont => XS.iload X444.here hx rfl (hb hby at_139) rfl kont) ?_
      show own_Go p e below _ (T444.setTop (mkF m 141 #[.val (.int i0), .val (.int i1), .val (.int i2), .val (.int i3), .val (.int i4), .val (.int i5), .val (.int sl), .val (.int sd), .val (.int cp), .val (.int l0), .val (.int r0), .val (.int l1), .val (.int r1), .val (.int (1 : Int32)), .val (.int (1 : Int32)), .val (.ref a427), .val (.int (Int32.ofNat 0)), .val (.int (Int32.ofNat 1)), .val (.int (Int32.ofNat 1)), .unset, .unset, .unset, .unset, .unset] [(.int (1 : Int32))]))
      refine own_by (fun _ kont => XS.ifNo X444.here hx rfl (hb hby at_141) rfl (XT.i0_eq_f (by decide)) kont) ?_
      show own_Go p e below _ (T444.setTop (mkF m 144 #[.val (.int i0), .val (.int i1), .val (.int i2), .val (.int i3), .val (.int i4), .val (.int i5), .val (.int sl), .val (.int sd), .val (.int cp), .val (.int l0), .val (.int r0), .val (.int l1), .val (.int r1), .val (.int (1 : Int32)), .val (.int (1 : Int32)), .val (.ref a427), .val (.int (Int32.ofNat 0)), .val (.int (Int32.ofNat 1)), .val (.int (Int32.ofNat 1)), .unset, .unset, .unset, .unset, .unset] []))
      refine own_by (fun _ kont => XS.iload X444.here hx rfl (hb hby at_144) rfl kont) ?_
      show own_Go p e below _ (T444.setTop (mkF m 146 #[.val (.int i0), .val (.int i1), .val (.int i2), .val (.int i3), .val (.int i4), .val (.int i5), .val (.int sl), .val (.int sd), .val (.int cp), .val (.int l0), .val (.int r0), .val (.int l1), .val (.int r1), .val (.int (1 : Int32)), .val (.int (1 : Int32)), .val (.ref a427), .val (.int (Int32.ofNat 0)), .val (.int (Int32.ofNat 1)), .val (.int (Int32.ofNat 1)), .unset, .unset, .unset, .unset, .unset] [(.int l1)]))
      refine own_by (fun _ kont => XS.goto X444.here hx rfl (pc0 := 146) (pc' := 151) rfl (hb hby at_146) (by decide) (by decide) kont) ?_
      show own_Go p e below _ (T444.setTop (mkF m 151 #[.val (.int i0), .val (.int i1), .val (.int i2), .val (.int i3), .val (.int i4), .val (.int i5), .val (.int sl), .val (.int sd), .val (.int cp), .val (.int l0), .val (.int r0), .val (.int l1), .val (.int r1), .val (.int (1 : Int32)), .val (.int (1 : Int32)), .val (.ref a427), .val (.int (Int32.ofNat 0)), .val (.int (Int32.ofNat 1)), .val (.int (Int32.ofNat 1)), .unset, .unset, .unset, .unset, .unset] [(.int l1)]))
      refine own_by (fun _ kont => XS.istore X444.here hx rfl (hb hby at_151) rfl (l' := #[.val (.int i0), .val (.int i1), .val (.int i2), .val (.int i3), .val (.int i4), .val (.int i5), .val (.int sl), .val (.int sd), .val (.int cp), .val (.int l0), .val (.int r0), .val (.int l1), .val (.int r1), .val (.int (1 : Int32)), .val (.int (1 : Int32)), .val (.ref a427), .val (.int (Int32.ofNat 0)), .val (.int (Int32.ofNat 1)), .val (.int (Int32.ofNat 1)), .val (.int l1), .unset, .unset, .unset, .unset]) rfl kont) ?_
      show own_Go p e below _ (T444.setTop (mkF m 153 #[.val (.int i0), .val (.int i1), .val (.int i2), .val (.int i3), .val (.int i4), .val (.int i5), .val (.int sl), .val (.int sd), .val (.int cp), .val (.int l0), .val (.int r0), .val (.int l1), .val (.int r1), .val (.int (1 : Int32)), .val (.int (1 : Int32)), .val (.ref a427), .val (.int (Int32.ofNat 0)), .val (.int (Int32.ofNat 1)), .val (.int (Int32.ofNat 1)), .val (.int l1), .unset, .unset, .unset, .unset] []))
      refine own_by (fun _ kont => XS.iload X444.here hx rfl (hb hby at_153) rfl kont) ?_
      show own_Go p e below _ (T444.setTop (mkF m 155 #[.val (.int i0), .val (.int i1), .val (.int i2), .val (.int i3), .val (.int i4), .val (.int i5), .val (.int sl), .val (.int sd), .val (.int cp), .val (.int l0), .val (.int r0), .val (.int l1), .val (.int r1), .val (.int (1 : Int32)), .val (.int (1 : Int32)), .val (.ref a427), .val (.int (Int32.ofNat 0)), .val (.int (Int32.ofNat 1)), .val (.int (Int32.ofNat 1)), .val (.int l1), .unset, .unset, .unset, .unset] [(.int sd)]))
      refine own_by (fun _ kont => XS.iload X444.here hx rfl (hb hby at_155) rfl kont) ?_
      show own_Go p e below _ (T444.setTop (mkF m 157 #[.val (.int i0), .val (.int i1), .val (.int i2), .val (.int i3), .val (.int i4), .val (.int i5), .val (.int sl), .val (.int sd), .val (.int cp), .val (.int l0), .val (.int r0), .val (.int l1), .val (.int r1), .val (.int (1 : Int32)), .val (.int (1 : Int32)), .val (.ref a427), .val (.int (Int32.ofNat 0)), .val (.int (Int32.ofNat 1)), .val (.int (Int32.ofNat 1)), .val (.int l1), .unset, .unset, .unset, .unset] [(.int (1 : Int32)), (.int sd)]))
      refine own_by (fun _ kont => XS.ifNo X444.here hx rfl (hb hby at_157) rfl (XT.i0_eq_f (by decide)) kont) ?_
      show own_Go p e below _ (T444.setTop (mkF m 160 #[.val (.int i0), .val (.int i1), .val (.int i2), .val (.int i3), .val (.int i4), .val (.int i5), .val (.int sl), .val (.int sd), .val (.int cp), .val (.int l0), .val (.int r0), .val (.int l1), .val (.int r1), .val (.int (1 : Int32)), .val (.int (1 : Int32)), .val (.ref a427), .val (.int (Int32.ofNat 0)), .val (.int (Int32.ofNat 1)), .val (.int (Int32.ofNat 1)), .val (.int l1), .unset, .unset, .unset, .unset] [(.int sd)]))
      refine own_by (fun _ kont => XS.iload X444.here hx rfl (hb hby at_160) rfl kont) ?_
      show own_Go p e below _ (T444.setTop (mkF m 162 #[.val (.int i0), .val (.int i1), .val (.int i2), .val (.int i3), .val (.int i4), .val (.int i5), .val (.int sl), .val (.int sd), .val (.int cp), .val (.int l0), .val (.int r0), .val (.int l1), .val (.int r1), .val (.int (1 : Int32)), .val (.int (1 : Int32)), .val (.ref a427), .val (.int (Int32.ofNat 0)), .val (.int (Int32.ofNat 1)), .val (.int (Int32.ofNat 1)), .val (.int l1), .unset, .unset, .unset, .unset] [(.int r1), (.int sd)]))
      refine own_by (fun _ kont => XS.goto X444.here hx rfl (pc0 := 162) (pc' := 167) rfl (hb hby at_162) (by decide) (by decide) kont) ?_
      show own_Go p e below _ (T444.setTop (mkF m 167 #[.val (.int i0), .val (.int i1), .val (.int i2), .val (.int i3), .val (.int i4), .val (.int i5), .val (.int sl), .val (.int sd), .val (.int cp), .val (.int l0), .val (.int r0), .val (.int l1), .val (.int r1), .val (.int (1 : Int32)), .val (.int (1 : Int32)), .val (.ref a427), .val (.int (Int32.ofNat 0)), .val (.int (Int32.ofNat 1)), .val (.int (Int32.ofNat 1)), .val (.int l1), .unset, .unset, .unset, .unset] [(.int r1), (.int sd)]))
      refine own_by (fun _ kont => XS.iadd X444.here hx rfl (hb hby at_167) rfl kont) ?_
      show own_Go p e below _ (T444.setTop (mkF m 168 #[.val (.int i0), .val (.int i1), .val (.int i2), .val (.int i3), .val (.int i4), .val (.int i5), .val (.int sl), .val (.int sd), .val (.int cp), .val (.int l0), .val (.int r0), .val (.int l1), .val (.int r1), .val (.int (1 : Int32)), .val (.int (1 : Int32)), .val (.ref a427), .val (.int (Int32.ofNat 0)), .val (.int (Int32.ofNat 1)), .val (.int (Int32.ofNat 1)), .val (.int l1), .unset, .unset, .unset, .unset] [(.int (sd + r1))]))
      refine own_by (fun _ kont => XS.istore X444.here hx rfl (hb hby at_168) rfl (l' := #[.val (.int i0), .val (.int i1), .val (.int i2), .val (.int i3), .val (.int i4), .val (.int i5), .val (.int sl), .val (.int sd), .val (.int cp), .val (.int l0), .val (.int r0), .val (.int l1), .val (.int r1), .val (.int (1 : Int32)), .val (.int (1 : Int32)), .val (.ref a427), .val (.int (Int32.ofNat 0)), .val (.int (Int32.ofNat 1)), .val (.int (Int32.ofNat 1)), .val (.int l1), .val (.int (sd + r1)), .unset, .unset, .unset]) rfl kont) ?_
      show own_Go p e below _ (T444.setTop (mkF m 170 #[.val (.int i0), .val (.int i1), .val (.int i2), .val (.int i3), .val (.int i4), .val (.int i5), .val (.int sl), .val (.int sd), .val (.int cp), .val (.int l0), .val (.int r0), .val (.int l1), .val (.int r1), .val (.int (1 : Int32)), .val (.int (1 : Int32)), .val (.ref a427), .val (.int (Int32.ofNat 0)), .val (.int (Int32.ofNat 1)), .val (.int (Int32.ofNat 1)), .val (.int l1), .val (.int (sd + r1)), .unset, .unset, .unset] []))
      refine own_by (fun _ kont => XS.iload X444.here hx rfl (hb hby at_170) rfl kont) ?_
      show own_Go p e below _ (T444.setTop (mkF m 172 #[.val (.int i0), .val (.int i1), .val (.int i2), .val (.int i3), .val (.int i4), .val (.int i5), .val (.int sl), .val (.int sd), .val (.int cp), .val (.int l0), .val (.int r0), .val (.int l1), .val (.int r1), .val (.int (1 : Int32)), .val (.int (1 : Int32)), .val (.ref a427), .val (.int (Int32.ofNat 0)), .val (.int (Int32.ofNat 1)), .val (.int (Int32.ofNat 1)), .val (.int l1), .val (.int (sd + r1)), .unset, .unset, .unset] [(.int (1 : Int32))]))
      refine own_by (fun _ kont => XS.ifNo X444.here hx rfl (hb hby at_172) rfl (XT.i0_eq_f (by decide)) kont) ?_
      show own_Go p e below _ (T444.setTop (mkF m 175 #[.val (.int i0), .val (.int i1), .val (.int i2), .val (.int i3), .val (.int i4), .val (.int i5), .val (.int sl), .val (.int sd), .val (.int cp), .val (.int l0), .val (.int r0), .val (.int l1), .val (.int r1), .val (.int (1 : Int32)), .val (.int (1 : Int32)), .val (.ref a427), .val (.int (Int32.ofNat 0)), .val (.int (Int32.ofNat 1)), .val (.int (Int32.ofNat 1)), .val (.int l1), .val (.int (sd + r1)), .unset, .unset, .unset] []))
      refine own_by (fun _ kont => XS.iload X444.here hx rfl (hb hby at_175) rfl kont) ?_
      show own_Go p e below _ (T444.setTop (mkF m 177 #[.val (.int i0), .val (.int i1), .val (.int i2), .val (.int i3), .val (.int i4), .val (.int i5), .val (.int sl), .val (.int sd), .val (.int cp), .val (.int l0), .val (.int r0), .val (.int l1), .val (.int r1), .val (.int (1 : Int32)), .val (.int (1 : Int32)), .val (.ref a427), .val (.int (Int32.ofNat 0)), .val (.int (Int32.ofNat 1)), .val (.int (Int32.ofNat 1)), .val (.int l1), .val (.int (sd + r1)), .unset, .unset, .unset] [(.int l1)]))
      refine own_by (fun _ kont => XS.goto X444.here hx rfl (pc0 := 177) (pc' := 182) rfl (hb hby at_177) (by decide) (by decide) kont) ?_
      show own_Go p e below _ (T444.setTop (mkF m 182 #[.val (.int i0), .val (.int i1), .val (.int i2), .val (.int i3), .val (.int i4), .val (.int i5), .val (.int sl), .val (.int sd), .val (.int cp), .val (.int l0), .val (.int r0), .val (.int l1), .val (.int r1), .val (.int (1 : Int32)), .val (.int (1 : Int32)), .val (.ref a427), .val (.int (Int32.ofNat 0)), .val (.int (Int32.ofNat 1)), .val (.int (Int32.ofNat 1)), .val (.int l1), .val (.int (sd + r1)), .unset, .unset, .unset] [(.int l1)]))
      refine own_by (fun _ kont => XS.istore X444.here hx rfl (hb hby at_182) rfl (l' := #[.val (.int i0), .val (.int i1), .val (.int i2), .val (.int i3), .val (.int i4), .val (.int i5), .val (.int sl), .val (.int sd), .val (.int cp), .val (.int l0), .val (.int r0), .val (.int l1), .val (.int r1), .val (.int (1 : Int32)), .val (.int (1 : Int32)), .val (.ref a427), .val (.int (Int32.ofNat 0)), .val (.int (Int32.ofNat 1)), .val (.int (Int32.ofNat 1)), .val (.int l1), .val (.int (sd + r1)), .val (.int l1), .unset, .unset]) rfl kont) ?_
      show own_Go p e below _ (T444.setTop (mkF m 184 #[.val (.int i0), .val (.int i1), .val (.int i2), .val (.int i3), .val (.int i4), .val (.int i5), .val (.int sl), .val (.int sd), .val (.int cp), .val (.int l0), .val (.int r0), .val (.int l1), .val (.int r1), .val (.int (1 : Int32)), .val (.int (1 : Int32)), .val (.ref a427), .val (.int (Int32.ofNat 0)), .val (.int (Int32.ofNat 1)), .val (.int (Int32.ofNat 1)), .val (.int l1), .val (.int (sd + r1)), .val (.int l1), .unset, .unset] []))
      refine own_by (fun _ kont => XS.iload X444.here hx rfl (hb hby at_184) rfl kont) ?_
      show own_Go p e below _ (T444.setTop (mkF m 186 #[.val (.int i0), .val (.int i1), .val (.int i2), .val (.int i3), .val (.int i4), .val (.int i5), .val (.int sl), .val (.int sd), .val (.int cp), .val (.int l0), .val (.int r0), .val (.int l1), .val (.int r1), .val (.int (1 : Int32)), .val (.int (1 : Int32)), .val (.ref a427), .val (.int (Int32.ofNat 0)), .val (.int (Int32.ofNat 1)), .val (.int (Int32.ofNat 1)), .val (.int l1), .val (.int (sd + r1)), .val (.int l1), .unset, .unset] [(.int (1 : Int32))]))
      refine own_by (fun _ kont => XS.ifNo X444.here hx rfl (hb hby at_186) rfl (XT.i0_eq_f (by decide)) kont) ?_
      show own_Go p e below _ (T444.setTop (mkF m 189 #[.val (.int i0), .val (.int i1), .val (.int i2), .val (.int i3), .val (.int i4), .val (.int i5), .val (.int sl), .val (.int sd), .val (.int cp), .val (.int l0), .val (.int r0), .val (.int l1), .val (.int r1), .val (.int (1 : Int32)), .val (.int (1 : Int32)), .val (.ref a427), .val (.int (Int32.ofNat 0)), .val (.int (Int32.ofNat 1)), .val (.int (Int32.ofNat 1)), .val (.int l1), .val (.int (sd + r1)), .val (.int l1), .unset, .unset] []))
      refine own_by (fun _ kont => XS.iload X444.here hx rfl (hb hby at_189) rfl kont) ?_
      show own_Go p e below _ (T444.setTop (mkF m 191 #[.val (.int i0), .val (.int i1), .val (.int i2), .val (.int i3), .val (.int i4), .val (.int i5), .val (.int sl), .val (.int sd), .val (.int cp), .val (.int l0), .val (.int r0), .val (.int l1), .val (.int r1), .val (.int (1 : Int32)), .val (.int (1 : Int32)), .val (.ref a427), .val (.int (Int32.ofNat 0)), .val (.int (Int32.ofNat 1)), .val (.int (Int32.ofNat 1)), .val (.int l1), .val (.int (sd + r1)), .val (.int l1), .unset, .unset] [(.int (sd + r1))]))
      refine own_by (fun _ kont => XS.goto X444.here hx rfl (pc0 := 191) (pc' := 196) rfl (hb hby at_191) (by decide) (by decide) kont) ?_
      show own_Go p e below _ (T444.setTop (mkF m 196 #[.val (.int i0), .val (.int i1), .val (.int i2), .val (.int i3), .val (.int i4), .val (.int i5), .val (.int sl), .val (.int sd), .val (.int cp), .val (.int l0), .val (.int r0), .val (.int l1), .val (.int r1), .val (.int (1 : Int32)), .val (.int (1 : Int32)), .val (.ref a427), .val (.int (Int32.ofNat 0)), .val (.int (Int32.ofNat 1)), .val (.int (Int32.ofNat 1)), .val (.int l1), .val (.int (sd + r1)), .val (.int l1), .unset, .unset] [(.int (sd + r1))]))
      refine own_by (fun _ kont => XS.istore X444.here hx rfl (hb hby at_196) rfl (l' := #[.val (.int i0), .val (.int i1), .val (.int i2), .val (.int i3), .val (.int i4), .val (.int i5), .val (.int sl), .val (.int sd), .val (.int cp), .val (.int l0), .val (.int r0), .val (.int l1), .val (.int r1), .val (.int (1 : Int32)), .val (.int (1 : Int32)), .val (.ref a427), .val (.int (Int32.ofNat 0)), .val (.int (Int32.ofNat 1)), .val (.int (Int32.ofNat 1)), .val (.int l1), .val (.int (sd + r1)), .val (.int l1), .val (.int (sd + r1)), .unset]) rfl kont) ?_
      show own_Go p e below _ (T444.setTop (mkF m 198 #[.val (.int i0), .val (.int i1), .val (.int i2), .val (.int i3), .val (.int i4), .val (.int i5), .val (.int sl), .val (.int sd), .val (.int cp), .val (.int l0), .val (.int r0), .val (.int l1), .val (.int r1), .val (.int (1 : Int32)), .val (.int (1 : Int32)), .val (.ref a427), .val (.int (Int32.ofNat 0)), .val (.int (Int32.ofNat 1)), .val (.int (Int32.ofNat 1)), .val (.int l1), .val (.int (sd + r1)), .val (.int l1), .val (.int (sd + r1)), .unset] []))
      refine own_by (fun _ kont => XS.aload X444.here hx rfl (hb hby at_198) rfl rfl kont) ?_
      show own_Go p e below _ (T444.setTop (mkF m 200 #[.val (.int i0), .val (.int i1), .val (.int i2), .val (.int i3), .val (.int i4), .val (.int i5), .val (.int sl), .val (.int sd), .val (.int cp), .val (.int l0), .val (.int r0), .val (.int l1), .val (.int r1), .val (.int (1 : Int32)), .val (.int (1 : Int32)), .val (.ref a427), .val (.int (Int32.ofNat 0)), .val (.int (Int32.ofNat 1)), .val (.int (Int32.ofNat 1)), .val (.int l1), .val (.int (sd + r1)), .val (.int l1), .val (.int (sd + r1)), .unset] [(.ref a427)]))
      refine own_by (fun _ kont => XS.iload X444.here hx rfl (hb hby at_200) rfl kont) ?_
      show own_Go p e below _ (T444.setTop (mkF m 202 #[.val (.int i0), .val (.int i1), .val (.int i2), .val (.int i3), .val (.int i4), .val (.int i5), .val (.int sl), .val (.int sd), .val (.int cp), .val (.int l0), .val (.int r0), .val (.int l1), .val (.int r1), .val (.int (1 : Int32)), .val (.int (1 : Int32)), .val (.ref a427), .val (.int (Int32.ofNat 0)), .val (.int (Int32.ofNat 1)), .val (.int (Int32.ofNat 1)), .val (.int l1), .val (.int (sd + r1)), .val (.int l1), .val (.int (sd + r1)), .unset] [(.int (Int32.ofNat 1)), (.ref a427)]))
      refine own_by (fun _ kont => XS.iload X444.here hx rfl (hb hby at_202) rfl kont) ?_
      show own_Go p e below _ (T444.setTop (mkF m 204 #[.val (.int i0), .val (.int i1), .val (.int i2), .val (.int i3), .val (.int i4), .val (.int i5), .val (.int sl), .val (.int sd), .val (.int cp), .val (.int l0), .val (.int r0), .val (.int l1), .val (.int r1), .val (.int (1 : Int32)), .val (.int (1 : Int32)), .val (.ref a427), .val (.int (Int32.ofNat 0)), .val (.int (Int32.ofNat 1)), .val (.int (Int32.ofNat 1)), .val (.int l1), .val (.int (sd + r1)), .val (.int l1), .val (.int (sd + r1)), .unset] [(.int l1), (.int (Int32.ofNat 1)), (.ref a427)]))
      obtain ⟨cq448, kq448, qa448, qb448, qc448⟩ := isOf hZ (rfl : T444.heap = T444.heap) GE446
      obtain ⟨_, _, ⟨T447, L447, k447, n447⟩, -, X447, ⟨Lc447, hQ447, l447, y447, z447⟩, st447⟩ := X444.virtualBack hx (y := (⟨"com/example/lambdalane/lambdalane/NodeGraph", "otherEnd", "(II)I"⟩ : MethodName)) (z := (⟨"com/example/lambdalane/lambdalane/NodeGraph", "otherEnd", "(II)I"⟩ : MethodName)) hown (mvT hZ (hw _ (List.mem_of_getElem? (i := 56) rfl))) (mvT hZ (hw _ (List.mem_of_getElem? (i := 57) rfl))) (notFace_of_selects (args := #[]) (mvT hZ (hw _ (List.mem_of_getElem? (i := 59) rfl)))) (mvT hZ (hw _ (List.mem_of_getElem? (i := 59) rfl))) (mvT hZ (hw _ (List.mem_of_getElem? (i := 58) rfl))) (by decide) (backOf (W := 0) (rmO l Z a0 hw [] a427 sd l1 1 2 cap444 lq444 rq444 _ _ _ T444.heap n0 G444 (by omega) (by omega) (by omega)) hZ (hw _ (List.mem_of_getElem? (i := 60) rfl)) (hw _ (List.mem_of_getElem? (i := 3) rfl)) (by decide) (by decide)) qa448 qc448 (g := (mkF m 204 #[.val (.int i0), .val (.int i1), .val (.int i2), .val (.int i3), .val (.int i4), .val (.int i5), .val (.int sl), .val (.int sd), .val (.int cp), .val (.int l0), .val (.int r0), .val (.int l1), .val (.int r1), .val (.int (1 : Int32)), .val (.int (1 : Int32)), .val (.ref a427), .val (.int (Int32.ofNat 0)), .val (.int (Int32.ofNat 1)), .val (.int (Int32.ofNat 1)), .val (.int l1), .val (.int (sd + r1)), .val (.int l1), .val (.int (sd + r1)), .unset] [(.int l1), (.int (Int32.ofNat 1)), (.ref a427)])) rfl (by rw [hml]; rfl) (Steps.refl _) (argsL := [(.int (Int32.ofNat 1)), (.int l1)]) (rest := []) (lenOf own_pd6 rfl) rfl (by show 2 * 0 + _ ≤ _; exact Nat.le_of_eq rfl) (hb hby at_204) (fun _ _ => ⟨rfl, (rfl : T444.heap = T444.heap), (by decide : 13 + 0 ≤ _), (by decide : 120 + 0 ≤ _)⟩)
      dsimp only [Pt.U, Pt.locs, Pt.cells, Pt.slots] at X447 l447 y447 z447 st447 hQ447
      subst l447 y447 z447
      refine own_tr st447 ?_
      obtain ⟨rfl, N447, e447⟩ := hQ447
      obtain ⟨L447, X447, M447⟩ := own_hide X447 (Fr.app M444 N447)
      have hL447 : lq444 1 = l1 := by simp [hlq444, hlq441]
      have hR447 : rq444 1 = r1 := by simp [hrq444, hrq441]
      rw [hL447, hR447]
      rw [if_pos (rfl : l1 = l1)]
      show own_Go p e below _ (T447.setTop (mkF m 207 #[.val (.int i0), .val (.int i1), .val (.int i2), .val (.int i3), .val (.int i4), .val (.int i5), .val (.int sl), .val (.int sd), .val (.int cp), .val (.int l0), .val (.int r0), .val (.int l1), .val (.int r1), .val (.int (1 : Int32)), .val (.int (1 : Int32)), .val (.ref a427), .val (.int (Int32.ofNat 0)), .val (.int (Int32.ofNat 1)), .val (.int (Int32.ofNat 1)), .val (.int l1), .val (.int (sd + r1)), .val (.int l1), .val (.int (sd + r1)), .unset] [(.int (sd + r1))]))
      refine own_by (fun _ kont => XS.istore X447.here hx rfl (hb hby at_207) rfl (l' := #[.val (.int i0), .val (.int i1), .val (.int i2), .val (.int i3), .val (.int i4), .val (.int i5), .val (.int sl), .val (.int sd), .val (.int cp), .val (.int l0), .val (.int r0), .val (.int l1), .val (.int r1), .val (.int (1 : Int32)), .val (.int (1 : Int32)), .val (.ref a427), .val (.int (Int32.ofNat 0)), .val (.int (Int32.ofNat 1)), .val (.int (Int32.ofNat 1)), .val (.int l1), .val (.int (sd + r1)), .val (.int l1), .val (.int (sd + r1)), .val (.int (sd + r1))]) rfl kont) ?_
      show own_Go p e below _ (T447.setTop (mkF m 209 #[.val (.int i0), .val (.int i1), .val (.int i2), .val (.int i3), .val (.int i4), .val (.int i5), .val (.int sl), .val (.int sd), .val (.int cp), .val (.int l0), .val (.int r0), .val (.int l1), .val (.int r1), .val (.int (1 : Int32)), .val (.int (1 : Int32)), .val (.ref a427), .val (.int (Int32.ofNat 0)), .val (.int (Int32.ofNat 1)), .val (.int (Int32.ofNat 1)), .val (.int l1), .val (.int (sd + r1)), .val (.int l1), .val (.int (sd + r1)), .val (.int (sd + r1))] []))
      refine own_by (fun _ kont => XS.iload X447.here hx rfl (hb hby at_209) rfl kont) ?_
      show own_Go p e below _ (T447.setTop (mkF m 211 #[.val (.int i0), .val (.int i1), .val (.int i2), .val (.int i3), .val (.int i4), .val (.int i5), .val (.int sl), .val (.int sd), .val (.int cp), .val (.int l0), .val (.int r0), .val (.int l1), .val (.int r1), .val (.int (1 : Int32)), .val (.int (1 : Int32)), .val (.ref a427), .val (.int (Int32.ofNat 0)), .val (.int (Int32.ofNat 1)), .val (.int (Int32.ofNat 1)), .val (.int l1), .val (.int (sd + r1)), .val (.int l1), .val (.int (sd + r1)), .val (.int (sd + r1))] [(.int (Int32.ofNat 0))]))
      refine own_by (fun _ kont => XS.ifNo X447.here hx rfl (hb hby at_211) rfl (XT.i0_ne_f (rfl : Int32.ofNat 0 = (0 : Int32))) kont) ?_
      show own_Go p e below _ (T447.setTop (mkF m 214 #[.val (.int i0), .val (.int i1), .val (.int i2), .val (.int i3), .val (.int i4), .val (.int i5), .val (.int sl), .val (.int sd), .val (.int cp), .val (.int l0), .val (.int r0), .val (.int l1), .val (.int r1), .val (.int (1 : Int32)), .val (.int (1 : Int32)), .val (.ref a427), .val (.int (Int32.ofNat 0)), .val (.int (Int32.ofNat 1)), .val (.int (Int32.ofNat 1)), .val (.int l1), .val (.int (sd + r1)), .val (.int l1), .val (.int (sd + r1)), .val (.int (sd + r1))] []))
      refine own_by (fun _ kont => XS.iload X447.here hx rfl (hb hby at_214) rfl kont) ?_
      show own_Go p e below _ (T447.setTop (mkF m 216 #[.val (.int i0), .val (.int i1), .val (.int i2), .val (.int i3), .val (.int i4), .val (.int i5), .val (.int sl), .val (.int sd), .val (.int cp), .val (.int l0), .val (.int r0), .val (.int l1), .val (.int r1), .val (.int (1 : Int32)), .val (.int (1 : Int32)), .val (.ref a427), .val (.int (Int32.ofNat 0)), .val (.int (Int32.ofNat 1)), .val (.int (Int32.ofNat 1)), .val (.int l1), .val (.int (sd + r1)), .val (.int l1), .val (.int (sd + r1)), .val (.int (sd + r1))] [(.int (Int32.ofNat 1))]))
      refine own_by (fun _ kont => XT.iconstV X447.here hx rfl (1 : Int32) (hb hby at_216) rfl kont) ?_
      show own_Go p e below _ (T447.setTop (mkF m 217 #[.val (.int i0), .val (.int i1), .val (.int i2), .val (.int i3), .val (.int i4), .val (.int i5), .val (.int sl), .val (.int sd), .val (.int cp), .val (.int l0), .val (.int r0), .val (.int l1), .val (.int r1), .val (.int (1 : Int32)), .val (.int (1 : Int32)), .val (.ref a427), .val (.int (Int32.ofNat 0)), .val (.int (Int32.ofNat 1)), .val (.int (Int32.ofNat 1)), .val (.int l1), .val (.int (sd + r1)), .val (.int l1), .val (.int (sd + r1)), .val (.int (sd + r1))] [(.int (1 : Int32)), (.int (Int32.ofNat 1))]))
      refine own_by (fun _ kont => XS.icmpNo X447.here hx rfl (hb hby at_217) rfl (XT.ii_ne_f (rfl : Int32.ofNat 1 = (1 : Int32))) kont) ?_
      show own_Go p e below _ (T447.setTop (mkF m 220 #[.val (.int i0), .val (.int i1), .val (.int i2), .val (.int i3), .val (.int i4), .val (.int i5), .val (.int sl), .val (.int sd), .val (.int cp), .val (.int l0), .val (.int r0), .val (.int l1), .val (.int r1), .val (.int (1 : Int32)), .val (.int (1 : Int32)), .val (.ref a427), .val (.int (Int32.ofNat 0)), .val (.int (Int32.ofNat 1)), .val (.int (Int32.ofNat 1)), .val (.int l1), .val (.int (sd + r1)), .val (.int l1), .val (.int (sd + r1)), .val (.int (sd + r1))] []))
      refine own_by (fun _ kont => XS.iload X447.here hx rfl (hb hby at_220) rfl kont) ?_
      show own_Go p e below _ (T447.setTop (mkF m 222 #[.val (.int i0), .val (.int i1), .val (.int i2), .val (.int i3), .val (.int i4), .val (.int i5), .val (.int sl), .val (.int sd), .val (.int cp), .val (.int l0), .val (.int r0), .val (.int l1), .val (.int r1), .val (.int (1 : Int32)), .val (.int (1 : Int32)), .val (.ref a427), .val (.int (Int32.ofNat 0)), .val (.int (Int32.ofNat 1)), .val (.int (Int32.ofNat 1)), .val (.int l1), .val (.int (sd + r1)), .val (.int l1), .val (.int (sd + r1)), .val (.int (sd + r1))] [(.int (sd + r1))]))
      refine own_by (fun _ kont => XS.iload X447.here hx rfl (hb hby at_222) rfl kont) ?_
      show own_Go p e below _ (T447.setTop (mkF m 224 #[.val (.int i0), .val (.int i1), .val (.int i2), .val (.int i3), .val (.int i4), .val (.int i5), .val (.int sl), .val (.int sd), .val (.int cp), .val (.int l0), .val (.int r0), .val (.int l1), .val (.int r1), .val (.int (1 : Int32)), .val (.int (1 : Int32)), .val (.ref a427), .val (.int (Int32.ofNat 0)), .val (.int (Int32.ofNat 1)), .val (.int (Int32.ofNat 1)), .val (.int l1), .val (.int (sd + r1)), .val (.int l1), .val (.int (sd + r1)), .val (.int (sd + r1))] [(.int (sd + r1)), (.int (sd + r1))]))
      refine own_by (fun _ kont => XS.icmpNo X447.here hx rfl (hb hby at_224) rfl (XT.ii_ne_f rfl) kont) ?_
      show own_Go p e below _ (T447.setTop (mkF m 227 #[.val (.int i0), .val (.int i1), .val (.int i2), .val (.int i3), .val (.int i4), .val (.int i5), .val (.int sl), .val (.int sd), .val (.int cp), .val (.int l0), .val (.int r0), .val (.int l1), .val (.int r1), .val (.int (1 : Int32)), .val (.int (1 : Int32)), .val (.ref a427), .val (.int (Int32.ofNat 0)), .val (.int (Int32.ofNat 1)), .val (.int (Int32.ofNat 1)), .val (.int l1), .val (.int (sd + r1)), .val (.int l1), .val (.int (sd + r1)), .val (.int (sd + r1))] []))
      refine own_by (fun _ kont => XS.aload X447.here hx rfl (hb hby at_227) rfl rfl kont) ?_
      show own_Go p e below _ (T447.setTop (mkF m 229 #[.val (.int i0), .val (.int i1), .val (.int i2), .val (.int i3), .val (.int i4), .val (.int i5), .val (.int sl), .val (.int sd), .val (.int cp), .val (.int l0), .val (.int r0), .val (.int l1), .val (.int r1), .val (.int (1 : Int32)), .val (.int (1 : Int32)), .val (.ref a427), .val (.int (Int32.ofNat 0)), .val (.int (Int32.ofNat 1)), .val (.int (Int32.ofNat 1)), .val (.int l1), .val (.int (sd + r1)), .val (.int l1), .val (.int (sd + r1)), .val (.int (sd + r1))] [(.ref a427)]))
      refine own_by (fun _ kont => XS.iload X447.here hx rfl (hb hby at_229) rfl kont) ?_
      show own_Go p e below _ (T447.setTop (mkF m 231 #[.val (.int i0), .val (.int i1), .val (.int i2), .val (.int i3), .val (.int i4), .val (.int i5), .val (.int sl), .val (.int sd), .val (.int cp), .val (.int l0), .val (.int r0), .val (.int l1), .val (.int r1), .val (.int (1 : Int32)), .val (.int (1 : Int32)), .val (.ref a427), .val (.int (Int32.ofNat 0)), .val (.int (Int32.ofNat 1)), .val (.int (Int32.ofNat 1)), .val (.int l1), .val (.int (sd + r1)), .val (.int l1), .val (.int (sd + r1)), .val (.int (sd + r1))] [(.int (Int32.ofNat 1)), (.ref a427)]))
      refine own_by (fun _ kont => XS.iload X447.here hx rfl (hb hby at_231) rfl kont) ?_
      show own_Go p e below _ (T447.setTop (mkF m 233 #[.val (.int i0), .val (.int i1), .val (.int i2), .val (.int i3), .val (.int i4), .val (.int i5), .val (.int sl), .val (.int sd), .val (.int cp), .val (.int l0), .val (.int r0), .val (.int l1), .val (.int r1), .val (.int (1 : Int32)), .val (.int (1 : Int32)), .val (.ref a427), .val (.int (Int32.ofNat 0)), .val (.int (Int32.ofNat 1)), .val (.int (Int32.ofNat 1)), .val (.int l1), .val (.int (sd + r1)), .val (.int l1), .val (.int (sd + r1)), .val (.int (sd + r1))] [(.int (sd + r1)), (.int (Int32.ofNat 1)), (.ref a427)]))
      obtain ⟨cq450, kq450, qa450, qb450, qc450⟩ := isOf hZ e447 GE446
      obtain ⟨_, _, ⟨T449, L449, k449, n449⟩, -, X449, ⟨Lc449, hQ449, l449, y449, z449⟩, st449⟩ := X447.virtualBack hx (y := (⟨"com/example/lambdalane/lambdalane/NodeGraph", "otherEnd", "(II)I"⟩ : MethodName)) (z := (⟨"com/example/lambdalane/lambdalane/NodeGraph", "otherEnd", "(II)I"⟩ : MethodName)) hown (mvT hZ (hw _ (List.mem_of_getElem? (i := 56) rfl))) (mvT hZ (hw _ (List.mem_of_getElem? (i := 57) rfl))) (notFace_of_selects (args := #[]) (mvT hZ (hw _ (List.mem_of_getElem? (i := 59) rfl)))) (mvT hZ (hw _ (List.mem_of_getElem? (i := 59) rfl))) (mvT hZ (hw _ (List.mem_of_getElem? (i := 58) rfl))) (by decide) (backOf (W := 0) (rmO l Z a0 hw [] a427 sd (sd + r1) 1 2 cap444 lq444 rq444 _ _ _ T444.heap n0 G444 (by omega) (by omega) (by omega)) hZ (hw _ (List.mem_of_getElem? (i := 60) rfl)) (hw _ (List.mem_of_getElem? (i := 3) rfl)) (by decide) (by decide)) qa450 qc450 (g := (mkF m 233 #[.val (.int i0), .val (.int i1), .val (.int i2), .val (.int i3), .val (.int i4), .val (.int i5), .val (.int sl), .val (.int sd), .val (.int cp), .val (.int l0), .val (.int r0), .val (.int l1), .val (.int r1), .val (.int (1 : Int32)), .val (.int (1 : Int32)), .val (.ref a427), .val (.int (Int32.ofNat 0)), .val (.int (Int32.ofNat 1)), .val (.int (Int32.ofNat 1)), .val (.int l1), .val (.int (sd + r1)), .val (.int l1), .val (.int (sd + r1)), .val (.int (sd + r1))] [(.int (sd + r1)), (.int (Int32.ofNat 1)), (.ref a427)])) rfl (by rw [hml]; rfl) (Steps.refl _) (argsL := [(.int (Int32.ofNat 1)), (.int (sd + r1))]) (rest := []) (lenOf own_pd6 rfl) rfl (by show 2 * 0 + _ ≤ _; exact Nat.le_of_eq rfl) (hb hby at_233) (fun _ _ => ⟨rfl, e447, (by decide : 13 + 0 ≤ _), (by decide : 120 + 0 ≤ _)⟩)
      dsimp only [Pt.U, Pt.locs, Pt.cells, Pt.slots] at X449 l449 y449 z449 st449 hQ449
      subst l449 y449 z449
      refine own_tr st449 ?_
      obtain ⟨rfl, N449, e449⟩ := hQ449
      obtain ⟨L449, X449, M449⟩ := own_hide X449 (Fr.app M447 N449)
      have hL449 : lq444 1 = l1 := by simp [hlq444, hlq441]
      have hR449 : rq444 1 = r1 := by simp [hrq444, hrq441]
      rw [hL449, hR449]
      rw [if_neg (own_far bsd br1 bl1)]
      show own_Go p e below _ (T449.setTop (mkF m 236 #[.val (.int i0), .val (.int i1), .val (.int i2), .val (.int i3), .val (.int i4), .val (.int i5), .val (.int sl), .val (.int sd), .val (.int cp), .val (.int l0), .val (.int r0), .val (.int l1), .val (.int r1), .val (.int (1 : Int32)), .val (.int (1 : Int32)), .val (.ref a427), .val (.int (Int32.ofNat 0)), .val (.int (Int32.ofNat 1)), .val (.int (Int32.ofNat 1)), .val (.int l1), .val (.int (sd + r1)), .val (.int l1), .val (.int (sd + r1)), .val (.int (sd + r1))] [(.int l1)]))
      refine own_by (fun _ kont => XS.iload X449.here hx rfl (hb hby at_236) rfl kont) ?_
      show own_Go p e below _ (T449.setTop (mkF m 238 #[.val (.int i0), .val (.int i1), .val (.int i2), .val (.int i3), .val (.int i4), .val (.int i5), .val (.int sl), .val (.int sd), .val (.int cp), .val (.int l0), .val (.int r0), .val (.int l1), .val (.int r1), .val (.int (1 : Int32)), .val (.int (1 : Int32)), .val (.ref a427), .val (.int (Int32.ofNat 0)), .val (.int (Int32.ofNat 1)), .val (.int (Int32.ofNat 1)), .val (.int l1), .val (.int (sd + r1)), .val (.int l1), .val (.int (sd + r1)), .val (.int (sd + r1))] [(.int l1), (.int l1)]))
      refine own_by (fun _ kont => XS.icmpNo X449.here hx rfl (hb hby at_238) rfl (XT.ii_ne_f rfl) kont) ?_
      show own_Go p e below _ (T449.setTop (mkF m 241 #[.val (.int i0), .val (.int i1), .val (.int i2), .val (.int i3), .val (.int i4), .val (.int i5), .val (.int sl), .val (.int sd), .val (.int cp), .val (.int l0), .val (.int r0), .val (.int l1), .val (.int r1), .val (.int (1 : Int32)), .val (.int (1 : Int32)), .val (.ref a427), .val (.int (Int32.ofNat 0)), .val (.int (Int32.ofNat 1)), .val (.int (Int32.ofNat 1)), .val (.int l1), .val (.int (sd + r1)), .val (.int l1), .val (.int (sd + r1)), .val (.int (sd + r1))] []))
      refine own_by (fun _ kont => XT.iconstV X449.here hx rfl (1 : Int32) (hb hby at_241) rfl kont) ?_
      show own_Go p e below _ (T449.setTop (mkF m 242 #[.val (.int i0), .val (.int i1), .val (.int i2), .val (.int i3), .val (.int i4), .val (.int i5), .val (.int sl), .val (.int sd), .val (.int cp), .val (.int l0), .val (.int r0), .val (.int l1), .val (.int r1), .val (.int (1 : Int32)), .val (.int (1 : Int32)), .val (.ref a427), .val (.int (Int32.ofNat 0)), .val (.int (Int32.ofNat 1)), .val (.int (Int32.ofNat 1)), .val (.int l1), .val (.int (sd + r1)), .val (.int l1), .val (.int (sd + r1)), .val (.int (sd + r1))] [(.int (1 : Int32))]))
      refine own_by (fun _ kont => XS.goto X449.here hx rfl (pc0 := 242) (pc' := 246) rfl (hb hby at_242) (by decide) (by decide) kont) ?_
      show own_Go p e below _ (T449.setTop (mkF m 246 #[.val (.int i0), .val (.int i1), .val (.int i2), .val (.int i3), .val (.int i4), .val (.int i5), .val (.int sl), .val (.int sd), .val (.int cp), .val (.int l0), .val (.int r0), .val (.int l1), .val (.int r1), .val (.int (1 : Int32)), .val (.int (1 : Int32)), .val (.ref a427), .val (.int (Int32.ofNat 0)), .val (.int (Int32.ofNat 1)), .val (.int (Int32.ofNat 1)), .val (.int l1), .val (.int (sd + r1)), .val (.int l1), .val (.int (sd + r1)), .val (.int (sd + r1))] [(.int (1 : Int32))]))
      exact own_ret X449 hx hlk hret rfl (Or.inl ⟨rfl, by simp, _, rfl⟩) (hb hby at_246) ⟨rfl, M449⟩ (by decide) (by decide)
set_option maxRecDepth 65536 in
set_option maxHeartbeats 4000000 in
theorem comes_1 {Post : Tables → Env → Array Value → State → Outcome → State → Prop} (hpost : ∀ tb e args s v u, (limb_1_1.after args s (.returned v) u = true ∧ limb_1_2.after args s (.returned v) u = true ∧ True) → FrameEnd s (.returned v) u (Jvm.fieldLocs frame_1_writes args s ++ Jvm.arrayLocs frame_1_arrays args s ++ Jvm.staticLocs frame_1_statics s) 32 256 → Post tb e args s (.returned v) u) :
    ArmFor flags0 classFile x code maxLocals ret World_1 tables_1 room_1 Calls_1 rest_1 Pre_1 Post := by
  intro l hfl _ _ p e ha hc hk s m args below hf hA hF happ hP
  obtain ⟨hcalls, hrest, hpre⟩ := hP
  obtain ⟨-, -, -, hnamed, -, -, -, hat⟩ := (Spec.applies_iff hf).mp happ
  obtain ⟨hg, hn⟩ := and_e (Cond.before_iff.mp (show (Jvm.Cond.and given_1 narrow_1).before args s = true from hpre))
  obtain ⟨h1, g0⟩ := and_e hg
  obtain ⟨q0, g1⟩ := and_e g0
  obtain ⟨q1, g2⟩ := and_e g1
  obtain ⟨q2, g3⟩ := and_e g2
  obtain ⟨q3, g4⟩ := and_e g3
  obtain ⟨q4, g5⟩ := and_e g4
  obtain ⟨w0, w1, w2, w3, w4, w5, rfl⟩ : ∃ w0 w1 w2 w3 w4 w5 : Value, args = #[w0, w1, w2, w3, w4, w5] := by
    have hs : args.size = 6 := by simpa [Cond.value, given_1] using h1
    obtain ⟨L⟩ := args
    match L, hs with
    | [w0, w1, w2, w3, w4, w5], _ => exact ⟨w0, w1, w2, w3, w4, w5, rfl⟩
  have hw := fun d (hd : d ∈ tables_1) => atoms_spec (ws := Jvm.Cond.code x code maxLocals ret :: tables_1) hat d (List.mem_cons_of_mem _ hd)
  obtain ⟨i0, ei0⟩ := is_v q0
  obtain rfl : w0 = (.int i0) := Option.some.inj ei0
  obtain ⟨i1, ei1⟩ := is_v q1
  obtain rfl : w1 = (.int i1) := Option.some.inj ei1
  obtain ⟨i2, ei2⟩ := is_v q2
  obtain rfl : w2 = (.int i2) := Option.some.inj ei2
  obtain ⟨i3, ei3⟩ := is_v q3
  obtain rfl : w3 = (.int i3) := Option.some.inj ei3
  obtain ⟨i4, ei4⟩ := is_v q4
  obtain rfl : w4 = (.int i4) := Option.some.inj ei4
  obtain ⟨i5, ei5⟩ := is_v g5
  obtain rfl : w5 = (.int i5) := Option.some.inj ei5
  obtain ⟨n, o, h1, h2, h3, _, L, rfl, ⟨rfl, N⟩, hq⟩ := rmL l s _ hw tables_1 i0 i1 i2 i3 i4 i5 s.heap s.heap.size (Nat.le_refl _) p e ha hc hk s m _ below hf ((Spec.applies_iff_loose hf).mp happ).1 ⟨rfl, State.Warmed39.refl s, rfl⟩ trivial
  refine ⟨n, _, h1, h2, h3, hpost _ _ _ _ _ _ ⟨Cond.after_iff.mpr rfl, Cond.after_iff.mpr (eq_i res_at (Term.int_eval (1)) rfl), trivial⟩ ⟨hq.1, hq.2.1, (hq.2.2.sift fun y hy => Or.inr (N y hy)).mono (by decide) (by decide)⟩⟩
theorem main_1_1 : Claimed_1_1 := comes_1 fun _ _ _ _ _ _ h hF => ⟨h.1, hF⟩
theorem main_1_2 : Claimed_1_2 := comes_1 fun _ _ _ _ _ _ h hF => ⟨h.2.1, hF⟩
end Jvm.Pilot.@@N@@
namespace Jvm.Pilot.@@N@@
open Jvm Jvm.ClassFile Sem Op Lib Jvm.Free Jvm.Stand Jvm.Pilot.@@N@@.Jvm.D
/-! MADE BY PROGRAM (witnessworld.py) out of the Statement's table words and the real class files: 12 classes; the members and pool entries that the words name. The judged class is class 1, her method 1. -/
namespace start1
open Jvm.ClassFile
def u (s : String) : CpInfo := .utf8 (stringToUtf16 s)
/-- a pool by its gaps: so many unusable entries, then the entry; so many at the end -/
def gap : Nat → List CpInfo → List CpInfo
  | 0, r => r
  | n + 1, r => .unusable :: gap n r
def poolList (es : List (Nat × CpInfo)) (last : Nat) : List CpInfo := es.foldr (fun e r => gap e.1 (e.2 :: r)) (gap last [])
def pool (es : List (Nat × CpInfo)) (last : Nat) : Array CpInfo := ⟨poolList es last⟩
def fileOf (pool : Array CpInfo) (this : Nat) (attrs : Array Attribute := #[]) (ms : Array MethodInfo := #[]) (fl : Nat := 33) (sup : Nat := 0) (ifs : Array Nat := #[]) (fds : Array FieldInfo := #[]) : ClassFile where
  minorVersion := 0
  majorVersion := 65
  constantPool := pool
  accessFlags := fl
  thisClass := this
  superClass := sup
  interfaces := ifs
  fields := fds
  methods := ms
  attributes := attrs
def plain (name : String) (sup : Option ClassId) : Class where
  name := name
  kind := .ordinary
  loader := none
  accessFlags := 33
  super := sup
  interfaces := #[]
  cf := none
  fields := #[]
  methods := #[]
  instanceTypes := #[]
  staticTypes := #[]
  resolved := #[]
  callSites := []
  init := .initialized
  statics := none
  mirror := none

def pool0 : Array CpInfo := pool [(5, u "<init>"), (0, u "()V"), (1, .class_ 10), (1, u "java/lang/Object")] 113

def k0c0 : Code := { maxStack := 0, maxLocals := 1, code := object_method_1_code, exceptionTable := #[], attributes := #[] }
def k0m0 : Method := { name := "<init>", desc := "()V", sig := { parameters := [], returnType := none }, accessFlags := 1, code := some k0c0 }
/-- java/lang/Object -/
def k0 : Class := { plain "java/lang/Object" none with
  accessFlags := 33
  interfaces := #[]
  cf := some (fileOf pool0 8 #[] #[{ accessFlags := 1, nameIndex := 5, descriptorIndex := 6, attributes := #[] }] 33 0 #[] #[])
  fields := #[]
  methods := #[k0m0]
  instanceTypes := #[]
  staticTypes := #[]
  resolved := Array.replicate 124 none
  statics := none }

def pool1 : Array CpInfo := pool [(2, .class_ 4), (1, u "java/lang/Object"), (0, u "<init>"), (0, u "()V"), (0, .integer 2147483647), (0, .class_ 9), (0, u "com/example/lambdalane/lambdalane/NodeGraph"), (0, .methodref 8 11), (0, .nameAndType 5 12), (0, u "(IIII)V"), (0, .methodref 8 14), (0, .nameAndType 15 16), (0, u "add"), (0, u "(III)I"), (0, .methodref 8 18), (0, .nameAndType 19 20), (0, u "otherEnd"), (0, u "(II)I"), (0, .class_ 22), (0, u "com/example/lambdalane/lambdalane/NodeGraphOtherEndPinLaw"), (2, u "law"), (0, u "(IIIIII)Z")] 3

def k1m0 : Method := { name := "<init>", desc := "()V", sig := { parameters := [], returnType := none }, accessFlags := 1, code := none }
def k1c1 : Code := { maxStack := 6, maxLocals := 24, code := code, exceptionTable := #[], attributes := #[] }
def k1m1 : Method := { name := "law", desc := "(IIIIII)Z", sig := { parameters := [.int, .int, .int, .int, .int, .int], returnType := some .boolean }, accessFlags := 9, code := some k1c1 }
/-- com/example/lambdalane/lambdalane/NodeGraphOtherEndPinLaw -/
def k1 : Class := { plain "com/example/lambdalane/lambdalane/NodeGraphOtherEndPinLaw" (some 0) with
  accessFlags := 49
  interfaces := #[]
  cf := some (fileOf pool1 21 #[] #[{ accessFlags := 1, nameIndex := 5, descriptorIndex := 6, attributes := #[] }, { accessFlags := 9, nameIndex := 25, descriptorIndex := 26, attributes := #[] }] 49 2 #[] #[])
  fields := #[]
  methods := #[k1m0, k1m1]
  instanceTypes := #[]
  staticTypes := #[]
  resolved := Array.replicate 30 none
  statics := none }

def pool2 : Array CpInfo := pool [(1, .methodref 2 3), (0, .class_ 4), (0, .nameAndType 5 6), (0, u "java/lang/Object"), (0, u "<init>"), (0, u "()V"), (0, .fieldref 8 9), (0, .class_ 10), (0, .nameAndType 11 12), (0, u "com/example/lambdalane/lambdalane/NodeGraph"), (0, u "nextFresh"), (0, u "I"), (0, .fieldref 8 14), (0, .nameAndType 15 12), (0, u "side"), (0, .fieldref 8 17), (0, .nameAndType 18 12), (0, u "load"), (0, .fieldref 8 20), (0, .nameAndType 21 12), (0, u "colourLimit"), (0, .fieldref 8 23), (0, .nameAndType 24 25), (0, u "left"), (0, u "[I"), (0, .fieldref 8 27), (0, .nameAndType 28 25), (0, u "right"), (0, .fieldref 8 30), (0, .nameAndType 31 25), (0, u "colour"), (0, .fieldref 8 33), (0, .nameAndType 34 25), (0, u "inEdgeOf"), (0, .fieldref 8 36), (0, .nameAndType 37 25), (0, u "outEdgeOf"), (0, .fieldref 8 39), (0, .nameAndType 40 25), (0, u "colourMark"), (0, .methodref 42 43), (0, .class_ 44), (0, .nameAndType 45 46), (0, u "java/util/Arrays"), (0, u "fill"), (0, u "([II)V"), (0, .fieldref 8 48), (0, .nameAndType 49 12), (0, u "size"), (0, .methodref 51 52), (0, .class_ 53), (0, .nameAndType 54 55), (0, u "java/lang/Math"), (0, u "max"), (0, u "(II)I"), (0, .methodref 42 57), (0, .nameAndType 58 59), (0, u "copyOf"), (0, u "([II)[I"), (23, u "add"), (12, u "lastMark"), (7, .class_ 106), (1, u "com/example/lambdalane/lambdalane/NodeGraph$Matching"), (17, u "NONE"), (2, u "(IIII)V"), (2, u "(III)I"), (2, u "otherEnd")] 59

def k2c0 : Code := { maxStack := 3, maxLocals := 5, code := prog_42_method_1_code, exceptionTable := #[], attributes := #[] }
def k2m0 : Method := { name := "<init>", desc := "(IIII)V", sig := { parameters := [.int, .int, .int, .int], returnType := none }, accessFlags := 0, code := some k2c0 }
def k2c1 : Code := { maxStack := 4, maxLocals := 5, code := prog_42_method_2_code, exceptionTable := #[], attributes := #[] }
def k2m1 : Method := { name := "add", desc := "(III)I", sig := { parameters := [.int, .int, .int], returnType := some .int }, accessFlags := 0, code := some k2c1 }
def k2c2 : Code := { maxStack := 3, maxLocals := 3, code := prog_42_method_8_code, exceptionTable := #[], attributes := #[] }
def k2m2 : Method := { name := "otherEnd", desc := "(II)I", sig := { parameters := [.int, .int], returnType := some .int }, accessFlags := 0, code := some k2c2 }
/-- com/example/lambdalane/lambdalane/NodeGraph -/
def k2 : Class := { plain "com/example/lambdalane/lambdalane/NodeGraph" (some 0) with
  accessFlags := 48
  interfaces := #[]
  cf := some (fileOf pool2 8 #[.nestMembers #[104]] #[{ accessFlags := 0, nameIndex := 5, descriptorIndex := 127, attributes := #[] }, { accessFlags := 0, nameIndex := 83, descriptorIndex := 130, attributes := #[] }, { accessFlags := 0, nameIndex := 133, descriptorIndex := 55, attributes := #[] }] 48 2 #[] #[{ accessFlags := 24, nameIndex := 124, descriptorIndex := 12, attributes := #[] }, { accessFlags := 16, nameIndex := 15, descriptorIndex := 12, attributes := #[] }, { accessFlags := 16, nameIndex := 18, descriptorIndex := 12, attributes := #[] }, { accessFlags := 2, nameIndex := 24, descriptorIndex := 25, attributes := #[] }, { accessFlags := 2, nameIndex := 28, descriptorIndex := 25, attributes := #[] }, { accessFlags := 2, nameIndex := 31, descriptorIndex := 25, attributes := #[] }, { accessFlags := 2, nameIndex := 49, descriptorIndex := 12, attributes := #[] }, { accessFlags := 18, nameIndex := 34, descriptorIndex := 25, attributes := #[] }, { accessFlags := 18, nameIndex := 37, descriptorIndex := 25, attributes := #[] }, { accessFlags := 18, nameIndex := 21, descriptorIndex := 12, attributes := #[] }, { accessFlags := 2, nameIndex := 11, descriptorIndex := 12, attributes := #[] }, { accessFlags := 18, nameIndex := 40, descriptorIndex := 25, attributes := #[] }, { accessFlags := 2, nameIndex := 96, descriptorIndex := 12, attributes := #[] }])
  fields := #[{ name := "NONE", type := .int, accessFlags := 24, slot := 0, constantValue := 0 }, { name := "side", type := .int, accessFlags := 16, slot := 0, constantValue := 0 }, { name := "load", type := .int, accessFlags := 16, slot := 1, constantValue := 0 }, { name := "left", type := (.array .int), accessFlags := 2, slot := 2, constantValue := 0 }, { name := "right", type := (.array .int), accessFlags := 2, slot := 3, constantValue := 0 }, { name := "colour", type := (.array .int), accessFlags := 2, slot := 4, constantValue := 0 }, { name := "size", type := .int, accessFlags := 2, slot := 5, constantValue := 0 }, { name := "inEdgeOf", type := (.array .int), accessFlags := 18, slot := 6, constantValue := 0 }, { name := "outEdgeOf", type := (.array .int), accessFlags := 18, slot := 7, constantValue := 0 }, { name := "colourLimit", type := .int, accessFlags := 18, slot := 8, constantValue := 0 }, { name := "nextFresh", type := .int, accessFlags := 2, slot := 9, constantValue := 0 }, { name := "colourMark", type := (.array .int), accessFlags := 18, slot := 10, constantValue := 0 }, { name := "lastMark", type := .int, accessFlags := 2, slot := 11, constantValue := 0 }]
  methods := #[k2m0, k2m1, k2m2]
  instanceTypes := #[.int, .int, (.array .int), (.array .int), (.array .int), .int, (.array .int), (.array .int), .int, .int, (.array .int), .int]
  staticTypes := #[.int]
  resolved := Array.replicate 193 none
  statics := none }

def pool3 : Array CpInfo := pool [(2, .class_ 4), (1, u "java/lang/Object"), (0, u "<init>"), (0, u "()V"), (7, .class_ 16), (1, u "java/util/Arrays"), (57, .class_ 76), (1, u "java/util/Arrays$NaturalOrder"), (36, .class_ 115), (1, u "java/util/Arrays$LegacyMergeSort"), (1, u "Z"), (32, .methodref 151 152), (0, .class_ 153), (0, .nameAndType 154 155), (0, u "java/lang/System"), (0, u "arraycopy"), (0, u "(Ljava/lang/Object;ILjava/lang/Object;II)V"), (146, u "copyOf"), (1, .methodref 305 306), (0, .class_ 307), (0, .nameAndType 308 309), (0, u "java/lang/Math"), (0, u "min"), (0, u "(II)I"), (65, .class_ 376), (0, u "java/util/Arrays$ArrayList"), (68, u "$assertionsDisabled"), (269, u "MIN_ARRAY_SORT_GRAN"), (0, u "I"), (2, u "INSERTIONSORT_THRESHOLD"), (120, u "fill"), (4, u "([II)V"), (25, u "([II)[I"), (103, .class_ 976), (0, u "java/util/Arrays$ArrayItr")] 52

def k3m0 : Method := { name := "<init>", desc := "()V", sig := { parameters := [], returnType := none }, accessFlags := 2, code := none }
def k3c1 : Code := { maxStack := 3, maxLocals := 4, code := jdk_65_method_103_code, exceptionTable := #[], attributes := #[] }
def k3m1 : Method := { name := "fill", desc := "([II)V", sig := { parameters := [(.array .int), .int], returnType := none }, accessFlags := 9, code := some k3c1 }
def k3c2 : Code := { maxStack := 6, maxLocals := 3, code := jdk_65_method_123_code, exceptionTable := #[], attributes := #[] }
def k3m2 : Method := { name := "copyOf", desc := "([II)[I", sig := { parameters := [(.array .int), .int], returnType := some (.array .int) }, accessFlags := 9, code := some k3c2 }
/-- java/util/Arrays -/
def k3 : Class := { plain "java/util/Arrays" (some 0) with
  accessFlags := 49
  interfaces := #[]
  cf := some (fileOf pool3 14 #[.nestMembers #[975, 375, 113, 74]] #[{ accessFlags := 2, nameIndex := 5, descriptorIndex := 6, attributes := #[] }, { accessFlags := 9, nameIndex := 840, descriptorIndex := 845, attributes := #[] }, { accessFlags := 9, nameIndex := 302, descriptorIndex := 871, attributes := #[] }] 49 2 #[] #[{ accessFlags := 26, nameIndex := 715, descriptorIndex := 716, attributes := #[] }, { accessFlags := 26, nameIndex := 719, descriptorIndex := 716, attributes := #[] }, { accessFlags := 4120, nameIndex := 445, descriptorIndex := 117, attributes := #[] }])
  fields := #[{ name := "MIN_ARRAY_SORT_GRAN", type := .int, accessFlags := 26, slot := 0, constantValue := 0 }, { name := "INSERTIONSORT_THRESHOLD", type := .int, accessFlags := 26, slot := 1, constantValue := 0 }, { name := "$assertionsDisabled", type := .boolean, accessFlags := 4120, slot := 2, constantValue := 0 }]
  methods := #[k3m0, k3m1, k3m2]
  instanceTypes := #[]
  staticTypes := #[.int, .int, .boolean]
  resolved := Array.replicate 1029 none
  statics := none }

def pool4 : Array CpInfo := pool [(1, .class_ 2), (0, u "java/lang/Math"), (1, .class_ 6), (1, u "java/lang/Object"), (0, u "<init>"), (0, u "()V"), (89, .class_ 100), (1, u "java/lang/Math$RandomNumberGeneratorHolder"), (71, u "negativeZeroFloatBits"), (0, u "J"), (2, u "negativeZeroDoubleBits"), (21, u "max"), (2, u "min"), (43, u "$assertionsDisabled"), (0, u "Z"), (88, u "(II)I"), (2, u "twoToTheDoubleScaleDown"), (0, u "D"), (4, u "twoToTheDoubleScaleUp"), (9, u "E"), (3, u "PI"), (2, u "TAU"), (2, u "DEGREES_TO_RADIANS"), (0, u "RADIANS_TO_DEGREES")] 94

def k4m0 : Method := { name := "<init>", desc := "()V", sig := { parameters := [], returnType := none }, accessFlags := 2, code := none }
def k4c1 : Code := { maxStack := 2, maxLocals := 2, code := jdk_29_method_65_code, exceptionTable := #[], attributes := #[] }
def k4m1 : Method := { name := "max", desc := "(II)I", sig := { parameters := [.int, .int], returnType := some .int }, accessFlags := 9, code := some k4c1 }
def k4c2 : Code := { maxStack := 2, maxLocals := 2, code := jdk_29_method_69_code, exceptionTable := #[], attributes := #[] }
def k4m2 : Method := { name := "min", desc := "(II)I", sig := { parameters := [.int, .int], returnType := some .int }, accessFlags := 9, code := some k4c2 }
/-- java/lang/Math -/
def k4 : Class := { plain "java/lang/Math" (some 0) with
  accessFlags := 49
  interfaces := #[]
  cf := some (fileOf pool4 1 #[.nestMembers #[98]] #[{ accessFlags := 2, nameIndex := 7, descriptorIndex := 8, attributes := #[] }, { accessFlags := 9, nameIndex := 198, descriptorIndex := 335, attributes := #[] }, { accessFlags := 9, nameIndex := 201, descriptorIndex := 335, attributes := #[] }] 49 4 #[] #[{ accessFlags := 25, nameIndex := 354, descriptorIndex := 339, attributes := #[] }, { accessFlags := 25, nameIndex := 358, descriptorIndex := 339, attributes := #[] }, { accessFlags := 25, nameIndex := 361, descriptorIndex := 339, attributes := #[] }, { accessFlags := 26, nameIndex := 364, descriptorIndex := 339, attributes := #[] }, { accessFlags := 26, nameIndex := 365, descriptorIndex := 339, attributes := #[] }, { accessFlags := 26, nameIndex := 172, descriptorIndex := 173, attributes := #[] }, { accessFlags := 26, nameIndex := 176, descriptorIndex := 173, attributes := #[] }, { accessFlags := 8, nameIndex := 344, descriptorIndex := 339, attributes := #[] }, { accessFlags := 8, nameIndex := 338, descriptorIndex := 339, attributes := #[] }, { accessFlags := 4120, nameIndex := 245, descriptorIndex := 246, attributes := #[] }])
  fields := #[{ name := "E", type := .double, accessFlags := 25, slot := 0, constantValue := 0 }, { name := "PI", type := .double, accessFlags := 25, slot := 1, constantValue := 0 }, { name := "TAU", type := .double, accessFlags := 25, slot := 2, constantValue := 0 }, { name := "DEGREES_TO_RADIANS", type := .double, accessFlags := 26, slot := 3, constantValue := 0 }, { name := "RADIANS_TO_DEGREES", type := .double, accessFlags := 26, slot := 4, constantValue := 0 }, { name := "negativeZeroFloatBits", type := .long, accessFlags := 26, slot := 5, constantValue := 0 }, { name := "negativeZeroDoubleBits", type := .long, accessFlags := 26, slot := 6, constantValue := 0 }, { name := "twoToTheDoubleScaleUp", type := .double, accessFlags := 8, slot := 7, constantValue := 0 }, { name := "twoToTheDoubleScaleDown", type := .double, accessFlags := 8, slot := 8, constantValue := 0 }, { name := "$assertionsDisabled", type := .boolean, accessFlags := 4120, slot := 9, constantValue := 0 }]
  methods := #[k4m0, k4m1, k4m2]
  instanceTypes := #[]
  staticTypes := #[.double, .double, .double, .double, .double, .long, .long, .double, .double, .boolean]
  resolved := Array.replicate 460 none
  statics := none }

def pool5 : Array CpInfo := pool [(2, .class_ 4), (1, u "java/lang/Object"), (0, u "<init>"), (0, u "()V"), (1, .class_ 10), (1, u "java/lang/System"), (0, u "allowSecurityManager"), (0, u "I"), (16, u "cons"), (0, u "Ljava/io/Console;"), (77, .class_ 110), (1, u "java/lang/System$CallersHolder"), (43, u "initialErrStream"), (0, u "Ljava/io/PrintStream;"), (19, u "security"), (0, u "Ljava/lang/SecurityManager;"), (31, .class_ 209), (0, u "java/lang/System$1"), (7, u "props"), (0, u "Ljava/util/Properties;"), (2, u "lineSeparator"), (0, u "Ljava/lang/String;"), (96, .class_ 321), (1, u "java/lang/System$LoggerFinder"), (5, .class_ 328), (0, u "java/lang/System$Logger"), (67, u "err"), (2, u "out"), (91, u "notSupportedJnuEncoding"), (15, u "in"), (17, u "initialIn"), (0, u "Ljava/io/InputStream;"), (35, u "bootLayer"), (0, u "Ljava/lang/ModuleLayer;"), (99, .class_ 664), (0, u "java/lang/System$2"), (9, u "NEVER"), (2, u "MAYBE"), (49, u "arraycopy"), (0, u "(Ljava/lang/Object;ILjava/lang/Object;II)V"), (72, .class_ 802), (0, u "java/lang/System$Logger$Level")] 31

def k5m0 : Method := { name := "<init>", desc := "()V", sig := { parameters := [], returnType := none }, accessFlags := 2, code := none }
def k5m1 : Method := { name := "arraycopy", desc := "(Ljava/lang/Object;ILjava/lang/Object;II)V", sig := { parameters := [(.object "java/lang/Object"), .int, (.object "java/lang/Object"), .int, .int], returnType := none }, accessFlags := 265, code := none }
/-- java/lang/System -/
def k5 : Class := { plain "java/lang/System" (some 0) with
  accessFlags := 49
  interfaces := #[]
  cf := some (fileOf pool5 8 #[.nestMembers #[319, 327, 801, 108, 663, 208]] #[{ accessFlags := 2, nameIndex := 5, descriptorIndex := 6, attributes := #[] }, { accessFlags := 265, nameIndex := 727, descriptorIndex := 728, attributes := #[] }] 49 2 #[] #[{ accessFlags := 25, nameIndex := 507, descriptorIndex := 526, attributes := #[] }, { accessFlags := 25, nameIndex := 399, descriptorIndex := 155, attributes := #[] }, { accessFlags := 25, nameIndex := 396, descriptorIndex := 155, attributes := #[] }, { accessFlags := 10, nameIndex := 525, descriptorIndex := 526, attributes := #[] }, { accessFlags := 26, nameIndex := 674, descriptorIndex := 12, attributes := #[] }, { accessFlags := 26, nameIndex := 677, descriptorIndex := 12, attributes := #[] }, { accessFlags := 10, nameIndex := 11, descriptorIndex := 12, attributes := #[] }, { accessFlags := 74, nameIndex := 175, descriptorIndex := 176, attributes := #[] }, { accessFlags := 10, nameIndex := 491, descriptorIndex := 222, attributes := #[] }, { accessFlags := 74, nameIndex := 29, descriptorIndex := 30, attributes := #[] }, { accessFlags := 74, nameIndex := 154, descriptorIndex := 155, attributes := #[] }, { accessFlags := 10, nameIndex := 217, descriptorIndex := 218, attributes := #[] }, { accessFlags := 10, nameIndex := 221, descriptorIndex := 222, attributes := #[] }, { accessFlags := 8, nameIndex := 562, descriptorIndex := 563, attributes := #[] }])
  fields := #[{ name := "in", type := (.object "java/io/InputStream"), accessFlags := 25, slot := 0, constantValue := 0 }, { name := "out", type := (.object "java/io/PrintStream"), accessFlags := 25, slot := 1, constantValue := 0 }, { name := "err", type := (.object "java/io/PrintStream"), accessFlags := 25, slot := 2, constantValue := 0 }, { name := "initialIn", type := (.object "java/io/InputStream"), accessFlags := 10, slot := 3, constantValue := 0 }, { name := "NEVER", type := .int, accessFlags := 26, slot := 4, constantValue := 0 }, { name := "MAYBE", type := .int, accessFlags := 26, slot := 5, constantValue := 0 }, { name := "allowSecurityManager", type := .int, accessFlags := 10, slot := 6, constantValue := 0 }, { name := "security", type := (.object "java/lang/SecurityManager"), accessFlags := 74, slot := 7, constantValue := 0 }, { name := "notSupportedJnuEncoding", type := (.object "java/lang/String"), accessFlags := 10, slot := 8, constantValue := 0 }, { name := "cons", type := (.object "java/io/Console"), accessFlags := 74, slot := 9, constantValue := 0 }, { name := "initialErrStream", type := (.object "java/io/PrintStream"), accessFlags := 74, slot := 10, constantValue := 0 }, { name := "props", type := (.object "java/util/Properties"), accessFlags := 10, slot := 11, constantValue := 0 }, { name := "lineSeparator", type := (.object "java/lang/String"), accessFlags := 10, slot := 12, constantValue := 0 }, { name := "bootLayer", type := (.object "java/lang/ModuleLayer"), accessFlags := 8, slot := 13, constantValue := 0 }]
  methods := #[k5m0, k5m1]
  instanceTypes := #[]
  staticTypes := #[(.object "java/io/InputStream"), (.object "java/io/PrintStream"), (.object "java/io/PrintStream"), (.object "java/io/InputStream"), .int, .int, .int, (.object "java/lang/SecurityManager"), (.object "java/lang/String"), (.object "java/io/Console"), (.object "java/io/PrintStream"), (.object "java/util/Properties"), (.object "java/lang/String"), (.object "java/lang/ModuleLayer")]
  resolved := Array.replicate 834 none
  statics := none }

def pool6 : Array CpInfo := pool [(1, u "java/lang/Cloneable"), (0, .class_ 1), (0, u "java/lang/Object"), (0, .class_ 3)] 3

/-- java/lang/Cloneable -/
def k6 : Class := { plain "java/lang/Cloneable" (some 0) with
  accessFlags := 1537
  interfaces := #[]
  cf := some (fileOf pool6 2 #[] #[] 1537 4 #[] #[])
  fields := #[]
  methods := #[]
  instanceTypes := #[]
  staticTypes := #[]
  resolved := Array.replicate 8 none
  statics := none }

def pool7 : Array CpInfo := pool [(1, u "java/io/Serializable"), (0, .class_ 1), (0, u "java/lang/Object"), (0, .class_ 3)] 3

/-- java/io/Serializable -/
def k7 : Class := { plain "java/io/Serializable" (some 0) with
  accessFlags := 1537
  interfaces := #[]
  cf := some (fileOf pool7 2 #[] #[] 1537 4 #[] #[])
  fields := #[]
  methods := #[]
  instanceTypes := #[]
  staticTypes := #[]
  resolved := Array.replicate 8 none
  statics := none }

/-- the primitive byte -/
def k8 : Class := { plain "byte" none with kind := .primitive 'B', accessFlags := 0x411 }
/-- [B -/
def k9 : Class := { plain "[B" (some 0) with kind := .array 8 .byte, interfaces := #[6, 7], accessFlags := 1041 }

/-- the primitive int -/
def k10 : Class := { plain "int" none with kind := .primitive 'I', accessFlags := 0x411 }
/-- [I -/
def k11 : Class := { plain "[I" (some 0) with kind := .array 10 .int, interfaces := #[6, 7], accessFlags := 1041 }

def heap : Heap := #[]
def classes : Array Class := #[k0, k1, k2, k3, k4, k5, k6, k7, k8, k9, k10, k11]
def interned : List (Array UInt16 × Addr) := []
def slotsUsed : Nat := 0
def theMethod : MethodId := ⟨1, 1⟩
def args0 : Array Value := #[.int 0, .int 1, .int 2, .int 3, .int 4, .int 5]
def aboutOver (below : List Frame) : State where
  vm := { classes := classes, interned := interned.toArray }
  heap := heap
  slotsUsed := slotsUsed
  threads := #[{ frames := .invoking theMethod args0 :: below }]
def below0 : List Frame := [.native { method := ⟨0, 0⟩, args := #[] }]
def about1 : State := aboutOver below0
def p0 : Program := .bare "" "" ""
def e0 : Env := launch0.env 0 0 0
theorem w_frames : about1.frames = Frame.invoking theMethod args0 :: below0 := rfl
set_option maxRecDepth 65536 in
theorem w_args : argsFit about1.vm theMethod args0 = true := by decide +kernel
set_option maxRecDepth 65536 in
theorem w_heap : heapFits about1 = true := by decide +kernel
set_option maxRecDepth 65536 in
theorem w_runnable : about1.curStatus? = some .runnable := by decide +kernel
set_option maxRecDepth 65536 in
theorem w_alone : about1.alone = true := by decide +kernel
set_option maxRecDepth 65536 in
theorem w_named : about1.methodNamed? x = some theMethod := by decide +kernel
set_option maxRecDepth 65536 in
theorem w_hears : about1.hears theMethod below0 = true := by decide +kernel
set_option maxRecDepth 65536 in
theorem w_ripe : about1.ripe theMethod args0 below0 = true := by decide +kernel
theorem w_running : about1.status = .running := rfl
set_option maxRecDepth 65536 in
theorem w_room : about1.hasRoom e0.platform room_1 = true :=
  launch0.hasRoom_least _ room_1 (by decide +kernel) (by decide +kernel) (by decide +kernel) (by decide +kernel) (by decide +kernel) (by decide +kernel)
theorem allAtoms_all (ts : List Jvm.Cond) (a : Array Jvm.Value) (st : Jvm.State) : (allAtoms ts).before a st = ts.all (fun c => c.before a st) := by
  induction ts with
  | nil => rfl
  | cons c t ih =>
    show (Jvm.Cond.and c (allAtoms t)).before a st = _
    rw [Jvm.Cond.before_and, ih, List.all_cons]
def words1 : List Jvm.Cond := Jvm.Cond.code x code maxLocals ret :: tables_1
/-- a 'code' word, met by the world's own term for the bytes: nothing is compared byte by byte -/
theorem code_word {y : MethodName} {bytes : ByteArray} {mx : Nat} {rt : Option FieldType} {a : Array Value} {s : State} {m : MethodId} {meth : Method} {c : Code} (h1 : s.methodNamed? y = some m) (h2 : s.vm.method? m = some meth) (h3 : meth.code = some c) (h4 : c.code = bytes)
    (h5 : (c.maxLocals == mx && c.exceptionTable.isEmpty && decide (c.maxStack ≤ mostOperands) && decide (meth.sig.returnType = rt) && !meth.locks && decide (parseMethodDescriptor y.desc = some meth.sig)) = true) : (Jvm.Cond.code y bytes mx rt).before a s = true := by
  simp only [Bool.and_eq_true, beq_iff_eq, Bool.not_eq_true', decide_eq_true_eq] at h5
  obtain ⟨⟨⟨⟨⟨g1, g2⟩, g3⟩, g4⟩, g5⟩, g6⟩ := h5
  simp [Cond.before, Cond.holds, Cond.value, h1, h2, h3, h4, g1, g2, g3, g4, g5, g6]
def isCode : Jvm.Cond → Bool
  | .code _ _ _ _ => true
  | _ => false
theorem all_split {L : List Jvm.Cond} {P : Jvm.Cond → Bool} (h1 : L.all (fun c => isCode c || P c) = true) (h2 : ∀ c ∈ L.filter isCode, P c = true) : L.all P = true := by
  refine List.all_eq_true.mpr fun c hc => ?_
  have h := List.all_eq_true.mp h1 c hc
  rcases Bool.eq_false_or_eq_true (isCode c) with hi | hi
  · exact h2 c (List.mem_filter.mpr ⟨hc, hi⟩)
  · simpa [hi] using h
set_option maxRecDepth 65536 in
theorem w_c0 : (Jvm.Cond.code x code maxLocals ret).before args0 about1 = true := code_word (m := ⟨1, 1⟩) (meth := k1m1) (c := k1c1) (by decide +kernel) rfl rfl rfl (by decide +kernel)
set_option maxRecDepth 65536 in
theorem w_c1 : (Jvm.Cond.code ({ cls := "com/example/lambdalane/lambdalane/NodeGraph", name := "<init>", desc := "(IIII)V" } : Jvm.MethodName) prog_42_method_1_code (5 : Nat) (Option.none : Option Jvm.ClassFile.FieldType)).before args0 about1 = true := code_word (m := ⟨2, 0⟩) (meth := k2m0) (c := k2c0) (by decide +kernel) rfl rfl rfl (by decide +kernel)
set_option maxRecDepth 65536 in
theorem w_c2 : (Jvm.Cond.code ({ cls := "java/lang/Object", name := "<init>", desc := "()V" } : Jvm.MethodName) object_method_1_code (1 : Nat) (Option.none : Option Jvm.ClassFile.FieldType)).before args0 about1 = true := code_word (m := ⟨0, 0⟩) (meth := k0m0) (c := k0c0) (by decide +kernel) rfl rfl rfl (by decide +kernel)
set_option maxRecDepth 65536 in
theorem w_c3 : (Jvm.Cond.code ({ cls := "java/util/Arrays", name := "fill", desc := "([II)V" } : Jvm.MethodName) jdk_65_method_103_code (4 : Nat) (Option.none : Option Jvm.ClassFile.FieldType)).before args0 about1 = true := code_word (m := ⟨3, 1⟩) (meth := k3m1) (c := k3c1) (by decide +kernel) rfl rfl rfl (by decide +kernel)
set_option maxRecDepth 65536 in
theorem w_c4 : (Jvm.Cond.code ({ cls := "com/example/lambdalane/lambdalane/NodeGraph", name := "add", desc := "(III)I" } : Jvm.MethodName) prog_42_method_2_code (5 : Nat) (Option.some Jvm.ClassFile.FieldType.int)).before args0 about1 = true := code_word (m := ⟨2, 1⟩) (meth := k2m1) (c := k2c1) (by decide +kernel) rfl rfl rfl (by decide +kernel)
set_option maxRecDepth 65536 in
theorem w_c5 : (Jvm.Cond.code ({ cls := "java/lang/Math", name := "max", desc := "(II)I" } : Jvm.MethodName) jdk_29_method_65_code (2 : Nat) (Option.some Jvm.ClassFile.FieldType.int)).before args0 about1 = true := code_word (m := ⟨4, 1⟩) (meth := k4m1) (c := k4c1) (by decide +kernel) rfl rfl rfl (by decide +kernel)
set_option maxRecDepth 65536 in
theorem w_c6 : (Jvm.Cond.code ({ cls := "java/util/Arrays", name := "copyOf", desc := "([II)[I" } : Jvm.MethodName) jdk_65_method_123_code (3 : Nat) (Option.some (Jvm.ClassFile.FieldType.array Jvm.ClassFile.FieldType.int))).before args0 about1 = true := code_word (m := ⟨3, 2⟩) (meth := k3m2) (c := k3c2) (by decide +kernel) rfl rfl rfl (by decide +kernel)
set_option maxRecDepth 65536 in
theorem w_c7 : (Jvm.Cond.code ({ cls := "java/lang/Math", name := "min", desc := "(II)I" } : Jvm.MethodName) jdk_29_method_69_code (2 : Nat) (Option.some Jvm.ClassFile.FieldType.int)).before args0 about1 = true := code_word (m := ⟨4, 2⟩) (meth := k4m2) (c := k4c2) (by decide +kernel) rfl rfl rfl (by decide +kernel)
set_option maxRecDepth 65536 in
theorem w_c8 : (Jvm.Cond.code ({ cls := "com/example/lambdalane/lambdalane/NodeGraph", name := "otherEnd", desc := "(II)I" } : Jvm.MethodName) prog_42_method_8_code (3 : Nat) (Option.some Jvm.ClassFile.FieldType.int)).before args0 about1 = true := code_word (m := ⟨2, 2⟩) (meth := k2m2) (c := k2c2) (by decide +kernel) rfl rfl rfl (by decide +kernel)
def codes1 : List Jvm.Cond := [Jvm.Cond.code x code maxLocals ret, Jvm.Cond.code ({ cls := "com/example/lambdalane/lambdalane/NodeGraph", name := "<init>", desc := "(IIII)V" } : Jvm.MethodName) prog_42_method_1_code (5 : Nat) (Option.none : Option Jvm.ClassFile.FieldType), Jvm.Cond.code ({ cls := "java/lang/Object", name := "<init>", desc := "()V" } : Jvm.MethodName) object_method_1_code (1 : Nat) (Option.none : Option Jvm.ClassFile.FieldType), Jvm.Cond.code ({ cls := "java/util/Arrays", name := "fill", desc := "([II)V" } : Jvm.MethodName) jdk_65_method_103_code (4 : Nat) (Option.none : Option Jvm.ClassFile.FieldType), Jvm.Cond.code ({ cls := "com/example/lambdalane/lambdalane/NodeGraph", name := "add", desc := "(III)I" } : Jvm.MethodName) prog_42_method_2_code (5 : Nat) (Option.some Jvm.ClassFile.FieldType.int), Jvm.Cond.code ({ cls := "java/lang/Math", name := "max", desc := "(II)I" } : Jvm.MethodName) jdk_29_method_65_code (2 : Nat) (Option.some Jvm.ClassFile.FieldType.int), Jvm.Cond.code ({ cls := "java/util/Arrays", name := "copyOf", desc := "([II)[I" } : Jvm.MethodName) jdk_65_method_123_code (3 : Nat) (Option.some (Jvm.ClassFile.FieldType.array Jvm.ClassFile.FieldType.int)), Jvm.Cond.code ({ cls := "java/lang/Math", name := "min", desc := "(II)I" } : Jvm.MethodName) jdk_29_method_69_code (2 : Nat) (Option.some Jvm.ClassFile.FieldType.int), Jvm.Cond.code ({ cls := "com/example/lambdalane/lambdalane/NodeGraph", name := "otherEnd", desc := "(II)I" } : Jvm.MethodName) prog_42_method_8_code (3 : Nat) (Option.some Jvm.ClassFile.FieldType.int)]
set_option maxRecDepth 65536 in
theorem codes_eq : words1.filter isCode = codes1 := rfl
theorem w_codes : ∀ c ∈ words1.filter isCode, c.before args0 about1 = true := by
  rw [codes_eq]
  intro c hc
  simp only [codes1, List.mem_cons, List.not_mem_nil, or_false] at hc
  rcases hc with rfl | rfl | rfl | rfl | rfl | rfl | rfl | rfl | rfl
  · exact w_c0
  · exact w_c1
  · exact w_c2
  · exact w_c3
  · exact w_c4
  · exact w_c5
  · exact w_c6
  · exact w_c7
  · exact w_c8
set_option maxRecDepth 65536 in
theorem w_t1 : (words1.take 24).all (fun c => isCode c || c.before args0 about1) = true := by decide +kernel
set_option maxRecDepth 65536 in
theorem w_t2 : ((words1.drop 24).take 24).all (fun c => isCode c || c.before args0 about1) = true := by decide +kernel
set_option maxRecDepth 65536 in
theorem w_t3 : ((words1.drop 24).drop 24).all (fun c => isCode c || c.before args0 about1) = true := by decide +kernel
theorem w_tables : (allAtoms (Jvm.Cond.code x code maxLocals ret :: tables_1)).before args0 about1 = true := by
  rw [allAtoms_all]
  show words1.all (fun c => c.before args0 about1) = true
  refine all_split ?_ w_codes
  rw [← List.take_append_drop 24 words1, List.all_append, w_t1, ← List.take_append_drop 24 (words1.drop 24), List.all_append, w_t2, w_t3]
  rfl
set_option maxRecDepth 65536 in
theorem w_case : (Jvm.Cond.and given_1 narrow_1).before args0 about1 = true := by decide +kernel
theorem w_applies : (headSpec (Jvm.Cond.code x code maxLocals ret :: tables_1) room_1).applies x e0.platform about1 = true :=
  (Spec.applies_iff w_frames).mpr ⟨w_running, w_runnable, w_alone, w_named, w_hears, w_ripe, w_room, w_tables⟩
theorem atStart : AtStart classFile x code maxLocals ret World_1 tables_1 room_1 Calls_1 rest_1 Pre_1 launch0 p0 e0 about1 theMethod args0 below0 :=
  ⟨lists_1, trivial, launch0.admits_env _ _ _, launch0.least_env, fairChoices_fair.cas, fairChoices_fair.clock, w_frames, w_args, w_heap, w_applies, trivial, trivial, w_case⟩
end start1
theorem witness_1 : WitnessClaimed_1 := ⟨start1.p0, start1.e0, start1.about1, start1.theMethod, start1.args0, start1.below0, start1.atStart⟩
end Jvm.Pilot.@@N@@
