import JvmDerived
import JvmDerived.Pilot.@@N@@Statement
import JvmDerived.Pilot.@@N@@Code
set_option linter.unusedVariables false
set_option linter.unusedSimpArgs false
namespace Jvm.Pilot.@@N@@
open Jvm Jvm.ClassFile Sem Op Lib Jvm.Free Jvm.Stand Jvm.LawKit Jvm.RoadKit Bundle Jvm.Pilot.@@N@@.Jvm.D
/-- what the end of a body says -/
def own_K (s : State) (Q : Option Value → Heap → List Loc → Prop) (C S : Nat) (o : Outcome) (U : State) : Prop := ∃ v L, o = .returned v ∧ Q v U.heap L ∧ FrameEnd s o U L C S
/-- the run goes from S to a return of which K is true -/
def own_Go (p : Program) (e : Env) (below : List Frame) (K : Outcome → State → Prop) (S : State) : Prop := ∃ s₂ o, Steps p.tables e below S s₂ ∧ s₂.status = .running ∧ Ended s₂ below o ∧ K o s₂
/-- the answer of a body that leaves the heap alone -/
def own_Q (val : Value) (h0 : Heap) (n0 : Nat) (v : Option Value) (h : Heap) (L : List Loc) : Prop := v = some val ∧ Fr n0 L ∧ h = h0
section Own
variable {p : Program} {l : Launch} {e : Env} {R : Room} {s : State} {m : MethodId} {args : Array Value} {below : List Frame} {meth : Method} {c : Code} {T : State} {locs : List Loc} {cells slots : Nat} {K : Outcome → State → Prop} {Q : Option Value → Heap → List Loc → Prop} {C S : Nat}
theorem own_by {S S' : State} (h : ∀ t, Steps p.tables e below S' t → Steps p.tables e below S t) (g : own_Go p e below K S') : own_Go p e below K S := by
  obtain ⟨u, o, st, r⟩ := g
  exact ⟨u, o, h u st, r⟩
theorem own_tr {S S' : State} (h : Steps p.tables e below S S') (g : own_Go p e below K S') : own_Go p e below K S := own_by (fun _ k => h.trans k) g
theorem own_hide {n0 : Nat} (X : Stand p l e R s m args below meth c T locs cells slots) (N : Fr n0 locs) : ∃ L, Stand p l e R s m args below meth c T L cells slots ∧ Fr n0 L := ⟨_, X, N⟩
/-- return of a value that is of its kind -/
theorem own_ret (X : Stand p l e R s m args below meth c T locs cells slots) (hx : p.tables.exec = Jvm.exec) (hlk : meth.locks = false) {pc : Nat} {Ls : Array Slot} {w : Value} {t : FieldType} {i : Instr} {rest : List Value} (hret : meth.sig.returnType = some t) (hn : narrow t w = w)
    (hi : (i = .ireturn ∧ (t = .int ∨ t = .boolean ∨ t = .byte ∨ t = .char ∨ t = .short) ∧ ∃ z, w = .int z) ∨ (i = .lreturn ∧ t = .long ∧ ∃ z, w = .long z) ∨ (i = .dreturn ∧ t = .double ∧ ∃ z, w = .double z) ∨ (i = .freturn ∧ t = .float ∧ ∃ z, w = .float z) ∨ (i = .areturn ∧ t.isReference = true ∧ w.isRef = true))
    (hd : decode c.code pc = .ok (i, 1)) (hQ : Q (some w) T.heap locs) (hc : cells ≤ C) (hs : slots ≤ S) : own_Go p e below (own_K s Q C S) (T.setTop (mkF m pc Ls (w :: rest))) := by
  obtain ⟨fs, hr, hrun, hended, hW, hsame⟩ := X.leave (v := some w) (fun h => by rw [hret] at h; cases h) hlk
  exact ⟨_, _, retOut X hx hret hn hi hd hr, hrun, hended, _, _, rfl, hQ, ⟨_, rfl⟩, hW, hsame.mono hc hs⟩
/-- return of a boolean, byte, char or short, narrowed -/
theorem own_retN (X : Stand p l e R s m args below meth c T locs cells slots) (hx : p.tables.exec = Jvm.exec) (hlk : meth.locks = false) {pc : Nat} {Ls : Array Slot} {z : Int32} {t : FieldType} {rest : List Value} (hret : meth.sig.returnType = some t) (ht : t = .boolean ∨ t = .byte ∨ t = .char ∨ t = .short)
    (hd : decode c.code pc = .ok (.ireturn, 1)) (hQ : Q (some (.int (nar t z))) T.heap locs) (hc : cells ≤ C) (hs : slots ≤ S) : own_Go p e below (own_K s Q C S) (T.setTop (mkF m pc Ls (.int z :: rest))) := by
  obtain ⟨fs, hr, hrun, hended, hW, hsame⟩ := X.leave (v := some (.int (nar t z))) (fun h => by rw [hret] at h; cases h) hlk
  exact ⟨_, _, retN X hx hret ht hd hr, hrun, hended, _, _, rfl, hQ, ⟨_, rfl⟩, hW, hsame.mono hc hs⟩
/-- return of nothing -/
theorem own_retV (X : Stand p l e R s m args below meth c T locs cells slots) (hx : p.tables.exec = Jvm.exec) (hlk : meth.locks = false) {pc : Nat} {Ls : Array Slot} (hret : meth.sig.returnType = none)
    (hd : decode c.code pc = .ok (.return_, 1)) (hQ : Q none T.heap locs) (hc : cells ≤ C) (hs : slots ≤ S) : own_Go p e below (own_K s Q C S) (T.setTop (mkF m pc Ls [])) := by
  obtain ⟨fs, hr, hrun, hended, hW, hsame⟩ := X.leave (v := none) (fun _ => rfl) hlk
  exact ⟨_, _, X.returnOut hx hret hd hr, hrun, hended, _, _, rfl, hQ, ⟨_, rfl⟩, hW, hsame.mono hc hs⟩
end Own
/-- the array at a holds n ints, the i-th is f i -/
def own_IA (Z : State) (h : Heap) (a : Addr) (n : Nat) (f : Nat → Int32) : Prop := ∃ c : Cell, Arr Z h a c .int ∧ c.slots.size = n ∧ ∀ i, i < n → c.slots[i]? = some (.int (f i))
theorem own_clamp (j : Int32) : j.toNatClampNeg = j.toInt.toNat := rfl
theorem own_in {j : Int32} {k n : Nat} (hk : k = n) (h0 : 0 ≤ j.toInt) (h1 : j.toInt < n) : ¬ (j < 0 ∨ k ≤ j.toNatClampNeg) := by
  rw [own_clamp, Int32.lt_iff_toInt_lt]
  have : (0 : Int32).toInt = 0 := by decide
  omega
section OwnA
variable {p : Program} {l : Launch} {e : Env} {R : Room} {s : State} {m : MethodId} {args : Array Value} {below : List Frame} {meth : Method} {c : Code} {T : State} {locs : List Loc} {cells slots : Nat} {Z : State} {a0 : Array Value} {h h' : Heap} {a b : Addr} {n sl : Nat} {f : Nat → Int32} {v : Value} {ws : List Addr}
theorem own_IA_lt (F : own_IA Z h a n f) : a < h.size := by obtain ⟨c, A, -⟩ := F; exact A.lt
theorem own_IA_ext (F : own_IA Z h a n f) (E : Ext h h') : own_IA Z h' a n f := by obtain ⟨c, A, r⟩ := F; exact ⟨c, A.ext E, r⟩
theorem own_IA_other (F : own_IA Z h b n f) (W : Wr h h' a sl v) (q : b ≠ a) : own_IA Z h' b n f := by obtain ⟨c, A, r⟩ := F; exact ⟨c, A.other W q, r⟩
theorem own_IA_keep (F : own_IA Z h a n f) (K : Keep h h' ws) (q : a ∉ ws) : own_IA Z h' a n f := by obtain ⟨c, A, r⟩ := F; exact ⟨c, ⟨K.2.1 a c A.1 q, A.2⟩, r⟩
theorem own_IA_congr {f' : Nat → Int32} (F : own_IA Z h a n f) (q : ∀ i, i < n → f i = f' i) : own_IA Z h a n f' := by obtain ⟨c, A, S, r⟩ := F; exact ⟨c, A, S, fun i hi => by rw [r i hi, q i hi]⟩
theorem own_newIA (X : Stand p l e R s m args below meth c T locs cells slots) (hx : p.tables.exec = Jvm.exec) (hZ : Z.Warmed39 s.vm) (w : (Cond.arrayClass .int).before a0 Z = true) (eT : T.heap = h) {g : JFrame} (hg : g.method = m) (hd : decode c.code g.pc = .ok (.newarray .int, 2)) {z : Int32} {rest : List Value} (hs : g.stack = .int z :: rest)
    (n : Nat) (hn : z.toInt = n) {cap : Nat} (hcap : n ≤ cap) (hb : cap * 8 ≤ 536870912) (hc : cells + 1 ≤ R.cells) (hl : slots + cap ≤ R.slots) :
    ∃ (T' : State) (h' : Heap) (a : Addr), Stand p l e R s m args below meth c T' locs (cells + 1) (slots + cap) ∧ T'.heap = h' ∧ a = h.size ∧ Ext h h' ∧ own_IA Z h' a n (fun _ => 0) ∧
      ∀ target, Steps p.tables e below (T'.setTop { g with pc := g.pc + 2, stack := .ref a :: rest }) target → Steps p.tables e below (T.setTop g) target := by
  have hz : ¬ z < 0 := by
    rw [Int32.lt_iff_toInt_lt]
    have : (0 : Int32).toInt = 0 := by decide
    omega
  have hk : z.toNatClampNeg = n := by rw [own_clamp]; omega
  obtain ⟨T', h', cA, X', e', E', A', st⟩ := newP (aty := .int) X hx hZ w eT hg hd hs hz (cap := cap) (by omega) hb hc hl
  refine ⟨T', h', h.size, X', e', rfl, E', ⟨_, A', ?_, fun i hi => ?_⟩, st⟩
  · rw [sz_new]; exact hk
  · show (Array.replicate z.toNatClampNeg (defaultValue .int))[i]? = _
    rw [hk, Array.getElem?_replicate, if_pos hi]; rfl
theorem own_stIA (X : Stand p l e R s m args below meth c T locs cells slots) (hx : p.tables.exec = Jvm.exec) (hZ : Z.Warmed39 s.vm) (eT : T.heap = h) (F : own_IA Z h a n f) {j x : Int32} (h0 : 0 ≤ j.toInt) (h1 : j.toInt < n) {g : JFrame} (hg : g.method = m) {rest : List Value} (hs : g.stack = .int x :: .int j :: .ref a :: rest) (hd : decode c.code g.pc = .ok (.iastore, 1)) :
    ∃ T' h', Stand p l e R s m args below meth c T' (locs ++ [⟨a, j.toNatClampNeg⟩]) cells slots ∧ T'.heap = h' ∧ Wr h h' a j.toNatClampNeg (.int x) ∧ own_IA Z h' a n (fun i => if (i : Int) = j.toInt then x else f i) ∧ ∀ target, Steps p.tables e below (T'.setTop { g with pc := g.pc + 1, stack := rest }) target → Steps p.tables e below (T.setTop g) target := by
  obtain ⟨cl, A, S, V⟩ := F
  obtain ⟨T', h', X', e', W, st⟩ := stI X hx hZ eT A (own_in S h0 h1) hg hs hd
  refine ⟨T', h', X', e', W, ⟨_, A.same W, ?_, fun i hi => ?_⟩, st⟩
  · rw [sz_set]; exact S
  · show (cl.slots.setIfInBounds j.toNatClampNeg (.int x))[i]? = some (.int (if (i : Int) = j.toInt then x else f i))
    rw [Array.getElem?_setIfInBounds, own_clamp]
    by_cases q : (i : Int) = j.toInt
    · rw [if_pos (by omega), if_pos (by omega), if_pos q]
    · rw [if_neg (by omega), if_neg q, V i hi]
theorem own_ldIA {target : State} (X : Stand p l e R s m args below meth c T locs cells slots) (hx : p.tables.exec = Jvm.exec) (hZ : Z.Warmed39 s.vm) (eT : T.heap = h) (F : own_IA Z h a n f) {j : Int32} (h0 : 0 ≤ j.toInt) (h1 : j.toInt < n) {g : JFrame} (hg : g.method = m) {rest : List Value} (hs : g.stack = .int j :: .ref a :: rest) (hd : decode c.code g.pc = .ok (.iaload, 1))
    (hr : Steps p.tables e below (T.setTop { g with pc := g.pc + 1, stack := .int (f j.toInt.toNat) :: rest }) target) : Steps p.tables e below (T.setTop g) target := by
  obtain ⟨cl, A, S, V⟩ := F
  exact X.iaload hx (by rw [eT]; exact A.1) (State.isArrayOf_alike hZ.alike A.2.1) A.2.2 (own_in S h0 h1) (by rw [own_clamp]; exact V _ (by omega)) hg hs hd target hr
theorem own_stN (X : Stand p l e R s m args below meth c T locs cells slots) (hx : p.tables.exec = Jvm.exec) (hZ : Z.Warmed39 s.vm) (eT : T.heap = h) (F : own_IA Z h a n f) {j x : Int32} (k : Nat) (hj : j.toInt = k) (h1 : k < n) {g : JFrame} (hg : g.method = m) {rest : List Value} (hs : g.stack = .int x :: .int j :: .ref a :: rest) (hd : decode c.code g.pc = .ok (.iastore, 1)) :
    ∃ T' h', Stand p l e R s m args below meth c T' (locs ++ [⟨a, j.toNatClampNeg⟩]) cells slots ∧ T'.heap = h' ∧ Wr h h' a j.toNatClampNeg (.int x) ∧ own_IA Z h' a n (fun i => if i = k then x else f i) ∧ ∀ target, Steps p.tables e below (T'.setTop { g with pc := g.pc + 1, stack := rest }) target → Steps p.tables e below (T.setTop g) target := by
  obtain ⟨T', h', X', e', W, H, st⟩ := own_stIA X hx hZ eT F (j := j) (x := x) (by omega) (by omega) hg hs hd
  refine ⟨T', h', X', e', W, own_IA_congr H fun i hi => ?_, st⟩
  show (if (i : Int) = j.toInt then x else f i) = (if i = k then x else f i)
  by_cases q : i = k
  · rw [if_pos (by omega), if_pos q]
  · rw [if_neg (by omega), if_neg q]
theorem own_ldN {target : State} (X : Stand p l e R s m args below meth c T locs cells slots) (hx : p.tables.exec = Jvm.exec) (hZ : Z.Warmed39 s.vm) (eT : T.heap = h) (F : own_IA Z h a n f) {j : Int32} (k : Nat) (hj : j.toInt = k) (h1 : k < n) {g : JFrame} (hg : g.method = m) {rest : List Value} (hs : g.stack = .int j :: .ref a :: rest) (hd : decode c.code g.pc = .ok (.iaload, 1))
    (hr : Steps p.tables e below (T.setTop { g with pc := g.pc + 1, stack := .int (f k) :: rest }) target) : Steps p.tables e below (T.setTop g) target := by
  refine own_ldIA X hx hZ eT F (j := j) (by omega) (by omega) hg hs hd ?_
  rw [show j.toInt.toNat = k by omega]; exact hr
theorem own_lenIA {target : State} (X : Stand p l e R s m args below meth c T locs cells slots) (hx : p.tables.exec = Jvm.exec) (hZ : Z.Warmed39 s.vm) (eT : T.heap = h) (F : own_IA Z h a n f) {z : Int32} (hz : n.toInt32 = z) {g : JFrame} (hg : g.method = m) {rest : List Value} (hs : g.stack = .ref a :: rest) (hd : decode c.code g.pc = .ok (.arraylength, 1))
    (hr : Steps p.tables e below (T.setTop { g with pc := g.pc + 1, stack := .int z :: rest }) target) : Steps p.tables e below (T.setTop g) target := by
  obtain ⟨cl, A, S, V⟩ := F
  refine X.arraylength hx (by rw [eT]; exact A.1) (State.isArrayOf_alike hZ.alike A.2.1) hg hs hd target ?_
  rw [S, hz]; exact hr
end OwnA
theorem own_rem_eq {x m : Int32} (hx : 0 ≤ x.toInt) (hm : 0 < m.toInt) : (x - (x / m) * m).toInt = x.toInt % m.toInt := by
  have h1 := x.toInt_lt
  have h2 := m.toInt_lt
  have q0 : 0 ≤ x.toInt / m.toInt := Int.ediv_nonneg hx (by omega)
  have q1 : x.toInt / m.toInt ≤ x.toInt := Int.ediv_le_self _ hx
  have e : x.toInt % m.toInt + m.toInt * (x.toInt / m.toInt) = x.toInt := Int.emod_add_mul_ediv ..
  have r0 : 0 ≤ x.toInt % m.toInt := Int.emod_nonneg _ (by omega)
  have r1 : x.toInt % m.toInt < m.toInt := Int.emod_lt_of_pos _ hm
  have hd : (x / m).toInt = x.toInt / m.toInt := by
    rw [Int32.toInt_div, Int.tdiv_eq_ediv_of_nonneg hx]
    exact Int.bmod_eq_of_le (by omega) (by omega)
  have hmul : ((x / m) * m).toInt = m.toInt * (x.toInt / m.toInt) := by
    rw [Int32.toInt_mul, hd, Int.mul_comm]
    exact Int.bmod_eq_of_le (by omega) (by omega)
  rw [Int32.toInt_sub, hmul, show x.toInt - m.toInt * (x.toInt / m.toInt) = x.toInt % m.toInt by omega]
  exact Int.bmod_eq_of_le (by omega) (by omega)
theorem own_rem {x m : Int32} (hx : 0 ≤ x.toInt) (hm : 0 < m.toInt) : 0 ≤ (x - (x / m) * m).toInt ∧ (x - (x / m) * m).toInt < m.toInt := by
  rw [own_rem_eq hx hm]
  exact ⟨Int.emod_nonneg _ (by omega), Int.emod_lt_of_pos _ hm⟩
theorem own_toInt_nonneg {x : Int32} (h : x.toBitVec.toNat < 2 ^ 31) : x.toInt = x.toBitVec.toNat := by
  show x.toBitVec.toInt = _
  rw [BitVec.toInt_eq_toNat_cond, if_pos (by omega)]
theorem own_and {x : Int32} (k : Nat) (hk : k < 2 ^ 31) {m : Int32} (hm : m.toBitVec = BitVec.ofNat 32 k) : 0 ≤ (x &&& m).toInt ∧ (x &&& m).toInt ≤ k := by
  have h : (x &&& m).toBitVec.toNat ≤ k := by
    rw [Int32.toBitVec_and, BitVec.toNat_and, hm, BitVec.toNat_ofNat, Nat.mod_eq_of_lt (by omega)]
    exact Nat.and_le_right
  rw [own_toInt_nonneg (by omega)]
  omega
theorem own_ushr {x y : Int32} (k : Nat) (hk : (y &&& 31).toUInt32.toNat % 32 = k) : (XT.ushr x y).toBitVec.toNat = x.toBitVec.toNat / 2 ^ k := by
  show (x.toUInt32 >>> (y &&& 31).toUInt32).toNat = _
  rw [UInt32.toNat_shiftRight, hk, Nat.shiftRight_eq_div_pow]; rfl
theorem own_ushr1 (x : Int32) : 0 ≤ (XT.ushr x 1).toInt := by
  have h := own_ushr (x := x) (y := 1) 1 (by decide)
  have hx := x.toBitVec.isLt
  rw [own_toInt_nonneg (by omega)]; omega
theorem own_i {k : Nat} (h : k ≤ 1000) : (Int32.ofNat k).toInt = k := Int32.toInt_ofNat_of_lt (by omega)
theorem own_n32 {k : Nat} (h : k ≤ 1000) : k.toInt32 = Int32.ofNat k := rfl
theorem own_inj {a b : Nat} (ha : a ≤ 1000) (hb : b ≤ 1000) : Int32.ofNat a = Int32.ofNat b ↔ a = b := by
  rw [← Int32.toInt_inj, own_i ha, own_i hb]; omega
theorem own_ilt {a b : Nat} (ha : a ≤ 1000) (hb : b ≤ 1000) : Int32.ofNat a < Int32.ofNat b ↔ a < b := by
  rw [Int32.lt_iff_toInt_lt, own_i ha, own_i hb]; omega
theorem own_inc {k : Nat} (h : k ≤ 999) : Int32.ofNat k + 1 = Int32.ofNat (k + 1) := Int32.toInt_inj.mp (by
  rw [XT.add32 (by rw [own_i (by omega), show (1 : Int32).toInt = 1 from rfl]; constructor <;> omega), own_i (by omega), own_i (by omega)]; rfl)
theorem own_of {x : Int32} {k : Nat} (h : x.toInt = k) : x = Int32.ofNat k := by
  have := x.toInt_lt
  exact Int32.toInt_inj.mp (by rw [h, Int32.toInt_ofNat_of_lt (by omega)])
section OwnC
variable {p : Program} {l : Launch} {e : Env} {R : Room} {s : State} {m : MethodId} {args : Array Value} {below : List Frame} {meth : Method} {c : Code} {T : State} {locs : List Loc} {cells slots : Nat} {Z : State} {a0 : Array Value} {h h' : Heap} {a b : Addr} {n k : Nat} {f f' : Nat → Int32}
theorem own_IA_arv (F : own_IA Z h a n f) (hn : n ≤ 1000) : ∃ q : ClassId, Arv Z h a q .int (Int32.ofNat n) ((List.range n).map fun i => .int (f i)) (.int 0) := by
  obtain ⟨c, A, S, V⟩ := F
  have hz : (Int32.ofNat n).toNatClampNeg = n := by rw [own_clamp, own_i hn]; rfl
  have hg : ∀ i, i < n → (((List.range n).map fun i => (.int (f i) : Value)).getD i (.int 0)) = .int (f i) := fun i hi => by
    simp [List.getD, hi]
  refine ⟨c.cls, c, A, rfl, by rw [S, hz], ?_, fun i hi => ?_, fun i hi => ?_⟩
  · rw [Int32.lt_iff_toInt_lt, own_i hn]
    have : (0 : Int32).toInt = 0 := by decide
    omega
  · rw [hg i (by omega)]; exact V i (by omega)
  · rw [hg i (by omega)]; rfl
theorem own_arv_IA {q : ClassId} {vs : List Value} {d : Value} (F : Arv Z h a q .int (Int32.ofNat n) vs d) (hn : n ≤ 1000) (hf : ∀ i, i < n → vs.getD i d = .int (f i)) : own_IA Z h a n f := by
  obtain ⟨c, A, -, S, -, H, -⟩ := F
  have hz : (Int32.ofNat n).toNatClampNeg = n := by rw [own_clamp, own_i hn]; rfl
  rw [hz] at S
  exact ⟨c, A, S, fun i hi => by rw [H i (by omega), hf i hi]⟩
theorem own_cpIA (X : Stand p l e R s m args below meth c T locs cells slots) (hx : p.tables.exec = Jvm.exec) (hZ : Z.Warmed39 s.vm) {own : String} {index : Nat} (hown : s.vm.findClass own = some m.cls)
    (w1 : (Cond.methodLink own index Jvm.Stand.acN).before a0 Z = true) (w2 : (Cond.native Jvm.Stand.acN).before a0 Z = true) (w3 : (Cond.static Jvm.Stand.acN).before a0 Z = true) (w4 : (Cond.initialized "java/lang/System").before a0 Z = true) (eT : T.heap = h)
    (A : own_IA Z h a n f) (B : own_IA Z h b k f') (hnk : n ≤ k) (hk : k ≤ 1000) {n0 : Nat} (N : Fr n0 locs) (ge : n0 ≤ b)
    {g : JFrame} (hg : g.method = m) (hsize : g.locals.size = c.maxLocals) {rest : List Value} (hs : g.stack = .int (Int32.ofNat n) :: .int 0 :: .ref b :: .int 0 :: .ref a :: rest) (hd : decode c.code g.pc = .ok (.invokestatic index, 3))
    (hf : 1 ≤ R.frames) {W : Nat} (hW : 2 * g.monitorRoom + (rest.map fun v => v.category).sum ≤ W) (hlo : W + (nativeFrameWords "java/lang/System" "arraycopy" 5 + 11) ≤ R.locals) :
    ∃ T' h' L, Stand p l e R s m args below meth c T' L cells slots ∧ T'.heap = h' ∧ Fr n0 L ∧ Keep h h' [b] ∧ own_IA Z h' b k (fun i => if i < n then f i else f' i) ∧
      ∀ target, Steps p.tables e below (T'.setTop { g with pc := g.pc + 3, stack := rest }) target → Steps p.tables e below (T.setTop g) target := by
  obtain ⟨q, A'⟩ := own_IA_arv A (by omega)
  obtain ⟨q', B'⟩ := own_IA_arv B hk
  have hz : ∀ {j : Nat}, j ≤ 1000 → (Int32.ofNat j).toNatClampNeg = j := fun {j} hj => by rw [own_clamp, own_i hj]; rfl
  have z0 : (0 : Int32).toNatClampNeg = 0 := by decide
  have hnn : ¬ Int32.ofNat n < 0 := by
    rw [Int32.lt_iff_toInt_lt, own_i (by omega)]
    have : (0 : Int32).toInt = 0 := by decide
    omega
  obtain ⟨T', h', L, X', e', N', K', V', st⟩ := cpA X hx hZ hown w1 w2 w3 w4 eT A' B' (us := (List.range n).map fun i => .int (f i)) (Or.inl ⟨rfl, rfl⟩) (sp := 0) (dp := 0) (nn := Int32.ofNat n) (by decide) (by decide) hnn (by rw [z0, hz (by omega)]; omega) (by rw [z0, hz (by omega), hz hk]; omega)
    (by
      rw [hz (by omega), z0]
      refine List.map_congr_left fun i hi => ?_
      have := List.mem_range.mp hi
      simp [List.getD, this])
    (by rw [z0, hz (by omega)]; simp; omega) N ge hg hsize hs hd hf hW hlo
  refine ⟨T', h', L, X', e', N', K', own_arv_IA V' hk fun i hi => ?_, st⟩
  rw [z0, hz (by omega), List.take_zero, List.nil_append, Nat.zero_add]
  by_cases q : i < n
  · rw [if_pos q]
    simp [List.getD, List.getElem?_append, q]
  · rw [if_neg q]
    have e1 : n + (i - n) = i := by omega
    simp [List.getD, List.getElem?_append, q, List.getElem?_drop, e1, hi]
end OwnC

/-- the graph at g: its arrays, the first sz places of left, right, colour, and the edges by colour -/
def own_G (Z : State) (h : Heap) (n0 : Nat) (g : Addr) (sd : Int32) (lim sz cap : Nat) (L R C I O : Nat → Int32) : Prop :=
  ∃ (lf rt co ie oe : Addr) (fl fr fc : Nat → Int32), (Exa Z h g "com/example/lambdalane/lambdalane/NodeGraph" ∧ Fld Z h g "com/example/lambdalane/lambdalane/NodeGraph" "side" "I" (.int sd) ∧ Fld Z h g "com/example/lambdalane/lambdalane/NodeGraph" "left" "[I" (.ref lf) ∧ Fld Z h g "com/example/lambdalane/lambdalane/NodeGraph" "right" "[I" (.ref rt) ∧ Fld Z h g "com/example/lambdalane/lambdalane/NodeGraph" "colour" "[I" (.ref co) ∧ Fld Z h g "com/example/lambdalane/lambdalane/NodeGraph" "inEdgeOf" "[I" (.ref ie) ∧ Fld Z h g "com/example/lambdalane/lambdalane/NodeGraph" "outEdgeOf" "[I" (.ref oe) ∧ Fld Z h g "com/example/lambdalane/lambdalane/NodeGraph" "size" "I" (.int (Int32.ofNat sz))) ∧ (own_IA Z h lf cap fl ∧ own_IA Z h rt cap fr ∧ own_IA Z h co cap fc ∧ own_IA Z h ie (lim + 1) I ∧ own_IA Z h oe (lim + 1) O) ∧
    (∀ i, i < sz → fl i = L i ∧ fr i = R i ∧ fc i = C i) ∧ (g ≠ lf ∧ g ≠ rt ∧ g ≠ co ∧ g ≠ ie ∧ g ≠ oe ∧ lf ≠ rt ∧ lf ≠ co ∧ lf ≠ ie ∧ lf ≠ oe ∧ rt ≠ co ∧ rt ≠ ie ∧ rt ≠ oe ∧ co ≠ ie ∧ co ≠ oe ∧ ie ≠ oe) ∧ (n0 ≤ g ∧ n0 ≤ lf ∧ n0 ≤ rt ∧ n0 ≤ co ∧ n0 ≤ ie ∧ n0 ≤ oe ∧ n0 ≤ h.size)
theorem own_pn0 : plainName "com/example/lambdalane/lambdalane/NodeGraph" = true := by first | (simp [plainName, overriddenIn]; done) | decide +kernel
theorem own_pd1 : parseMethodDescriptor "(IIII)V" = some ⟨[.int, .int, .int, .int], none⟩ := by decide +kernel
theorem d1_0 : decode prog_42_method_1_code 0 = .ok (.aload_n 0, 1) := by decide +kernel
theorem d1_1 : decode prog_42_method_1_code 1 = .ok (.invokespecial 1, 3) := by decide +kernel
theorem d1_4 : decode prog_42_method_1_code 4 = .ok (.aload_n 0, 1) := by decide +kernel
theorem d1_5 : decode prog_42_method_1_code 5 = .ok (.iconst 1, 1) := by decide +kernel
theorem d1_6 : decode prog_42_method_1_code 6 = .ok (.putfield 7, 3) := by decide +kernel
theorem d1_9 : decode prog_42_method_1_code 9 = .ok (.aload_n 0, 1) := by decide +kernel
theorem d1_10 : decode prog_42_method_1_code 10 = .ok (.iconst 2, 1) := by decide +kernel
theorem d1_11 : decode prog_42_method_1_code 11 = .ok (.iload_n 1, 1) := by decide +kernel
theorem d1_12 : decode prog_42_method_1_code 12 = .ok (.imul, 1) := by decide +kernel
theorem d1_13 : decode prog_42_method_1_code 13 = .ok (.putfield 13, 3) := by decide +kernel
theorem d1_16 : decode prog_42_method_1_code 16 = .ok (.aload_n 0, 1) := by decide +kernel
theorem d1_17 : decode prog_42_method_1_code 17 = .ok (.iload_n 2, 1) := by decide +kernel
theorem d1_18 : decode prog_42_method_1_code 18 = .ok (.putfield 16, 3) := by decide +kernel
theorem d1_21 : decode prog_42_method_1_code 21 = .ok (.aload_n 0, 1) := by decide +kernel
theorem d1_22 : decode prog_42_method_1_code 22 = .ok (.iload_n 3, 1) := by decide +kernel
theorem d1_23 : decode prog_42_method_1_code 23 = .ok (.putfield 19, 3) := by decide +kernel
theorem d1_26 : decode prog_42_method_1_code 26 = .ok (.aload_n 0, 1) := by decide +kernel
theorem d1_27 : decode prog_42_method_1_code 27 = .ok (.iload 4, 2) := by decide +kernel
theorem d1_29 : decode prog_42_method_1_code 29 = .ok (.newarray .int, 2) := by decide +kernel
theorem d1_31 : decode prog_42_method_1_code 31 = .ok (.putfield 22, 3) := by decide +kernel
theorem d1_34 : decode prog_42_method_1_code 34 = .ok (.aload_n 0, 1) := by decide +kernel
theorem d1_35 : decode prog_42_method_1_code 35 = .ok (.iload 4, 2) := by decide +kernel
theorem d1_37 : decode prog_42_method_1_code 37 = .ok (.newarray .int, 2) := by decide +kernel
theorem d1_39 : decode prog_42_method_1_code 39 = .ok (.putfield 26, 3) := by decide +kernel
theorem d1_42 : decode prog_42_method_1_code 42 = .ok (.aload_n 0, 1) := by decide +kernel
theorem d1_43 : decode prog_42_method_1_code 43 = .ok (.iload 4, 2) := by decide +kernel
theorem d1_45 : decode prog_42_method_1_code 45 = .ok (.newarray .int, 2) := by decide +kernel
theorem d1_47 : decode prog_42_method_1_code 47 = .ok (.putfield 29, 3) := by decide +kernel
theorem d1_50 : decode prog_42_method_1_code 50 = .ok (.aload_n 0, 1) := by decide +kernel
theorem d1_51 : decode prog_42_method_1_code 51 = .ok (.iload_n 3, 1) := by decide +kernel
theorem d1_52 : decode prog_42_method_1_code 52 = .ok (.iconst 1, 1) := by decide +kernel
theorem d1_53 : decode prog_42_method_1_code 53 = .ok (.iadd, 1) := by decide +kernel
theorem d1_54 : decode prog_42_method_1_code 54 = .ok (.newarray .int, 2) := by decide +kernel
theorem d1_56 : decode prog_42_method_1_code 56 = .ok (.putfield 32, 3) := by decide +kernel
theorem d1_59 : decode prog_42_method_1_code 59 = .ok (.aload_n 0, 1) := by decide +kernel
theorem d1_60 : decode prog_42_method_1_code 60 = .ok (.iload_n 3, 1) := by decide +kernel
theorem d1_61 : decode prog_42_method_1_code 61 = .ok (.iconst 1, 1) := by decide +kernel
theorem d1_62 : decode prog_42_method_1_code 62 = .ok (.iadd, 1) := by decide +kernel
theorem d1_63 : decode prog_42_method_1_code 63 = .ok (.newarray .int, 2) := by decide +kernel
theorem d1_65 : decode prog_42_method_1_code 65 = .ok (.putfield 35, 3) := by decide +kernel
theorem d1_68 : decode prog_42_method_1_code 68 = .ok (.aload_n 0, 1) := by decide +kernel
theorem d1_69 : decode prog_42_method_1_code 69 = .ok (.iload_n 3, 1) := by decide +kernel
theorem d1_70 : decode prog_42_method_1_code 70 = .ok (.iconst 1, 1) := by decide +kernel
theorem d1_71 : decode prog_42_method_1_code 71 = .ok (.iadd, 1) := by decide +kernel
theorem d1_72 : decode prog_42_method_1_code 72 = .ok (.newarray .int, 2) := by decide +kernel
theorem d1_74 : decode prog_42_method_1_code 74 = .ok (.putfield 38, 3) := by decide +kernel
theorem d1_77 : decode prog_42_method_1_code 77 = .ok (.aload_n 0, 1) := by decide +kernel
theorem d1_78 : decode prog_42_method_1_code 78 = .ok (.getfield 32, 3) := by decide +kernel
theorem d1_81 : decode prog_42_method_1_code 81 = .ok (.iconst (-1), 1) := by decide +kernel
theorem d1_82 : decode prog_42_method_1_code 82 = .ok (.invokestatic 41, 3) := by decide +kernel
theorem d1_85 : decode prog_42_method_1_code 85 = .ok (.aload_n 0, 1) := by decide +kernel
theorem d1_86 : decode prog_42_method_1_code 86 = .ok (.getfield 35, 3) := by decide +kernel
theorem d1_89 : decode prog_42_method_1_code 89 = .ok (.iconst (-1), 1) := by decide +kernel
theorem d1_90 : decode prog_42_method_1_code 90 = .ok (.invokestatic 41, 3) := by decide +kernel
theorem d1_93 : decode prog_42_method_1_code 93 = .ok (.return_, 1) := by decide +kernel
theorem own_pn2 : plainName "java/util/Arrays" = true := by first | (simp [plainName, overriddenIn]; done) | decide +kernel
theorem own_pd3 : parseMethodDescriptor "([II)V" = some ⟨[(.array .int), .int], none⟩ := by decide +kernel
theorem d3_0 : decode jdk_65_method_103_code 0 = .ok (.iconst 0, 1) := by decide +kernel
theorem d3_1 : decode jdk_65_method_103_code 1 = .ok (.istore_n 2, 1) := by decide +kernel
theorem d3_2 : decode jdk_65_method_103_code 2 = .ok (.aload_n 0, 1) := by decide +kernel
theorem d3_3 : decode jdk_65_method_103_code 3 = .ok (.arraylength, 1) := by decide +kernel
theorem d3_4 : decode jdk_65_method_103_code 4 = .ok (.istore_n 3, 1) := by decide +kernel
theorem d3_5 : decode jdk_65_method_103_code 5 = .ok (.iload_n 2, 1) := by decide +kernel
theorem d3_6 : decode jdk_65_method_103_code 6 = .ok (.iload_n 3, 1) := by decide +kernel
theorem d3_7 : decode jdk_65_method_103_code 7 = .ok (.if_icmp .ge 13, 3) := by decide +kernel
theorem d3_10 : decode jdk_65_method_103_code 10 = .ok (.aload_n 0, 1) := by decide +kernel
theorem d3_11 : decode jdk_65_method_103_code 11 = .ok (.iload_n 2, 1) := by decide +kernel
theorem d3_12 : decode jdk_65_method_103_code 12 = .ok (.iload_n 1, 1) := by decide +kernel
theorem d3_13 : decode jdk_65_method_103_code 13 = .ok (.iastore, 1) := by decide +kernel
theorem d3_14 : decode jdk_65_method_103_code 14 = .ok (.iinc 2 1, 3) := by decide +kernel
theorem d3_17 : decode jdk_65_method_103_code 17 = .ok (.goto (-12), 3) := by decide +kernel
theorem d3_20 : decode jdk_65_method_103_code 20 = .ok (.return_, 1) := by decide +kernel
theorem own_pd4 : parseMethodDescriptor "(III)I" = some ⟨[.int, .int, .int], some .int⟩ := by decide +kernel
theorem d4_0 : decode prog_42_method_2_code 0 = .ok (.aload_n 0, 1) := by decide +kernel
theorem d4_1 : decode prog_42_method_2_code 1 = .ok (.getfield 47, 3) := by decide +kernel
theorem d4_4 : decode prog_42_method_2_code 4 = .ok (.aload_n 0, 1) := by decide +kernel
theorem d4_5 : decode prog_42_method_2_code 5 = .ok (.getfield 22, 3) := by decide +kernel
theorem d4_8 : decode prog_42_method_2_code 8 = .ok (.arraylength, 1) := by decide +kernel
theorem d4_9 : decode prog_42_method_2_code 9 = .ok (.if_icmp .ne 55, 3) := by decide +kernel
theorem d4_12 : decode prog_42_method_2_code 12 = .ok (.bipush 16, 2) := by decide +kernel
theorem d4_14 : decode prog_42_method_2_code 14 = .ok (.iconst 2, 1) := by decide +kernel
theorem d4_15 : decode prog_42_method_2_code 15 = .ok (.aload_n 0, 1) := by decide +kernel
theorem d4_16 : decode prog_42_method_2_code 16 = .ok (.getfield 47, 3) := by decide +kernel
theorem d4_19 : decode prog_42_method_2_code 19 = .ok (.imul, 1) := by decide +kernel
theorem d4_20 : decode prog_42_method_2_code 20 = .ok (.invokestatic 50, 3) := by decide +kernel
theorem d4_23 : decode prog_42_method_2_code 23 = .ok (.istore 4, 2) := by decide +kernel
theorem d4_25 : decode prog_42_method_2_code 25 = .ok (.aload_n 0, 1) := by decide +kernel
theorem d4_26 : decode prog_42_method_2_code 26 = .ok (.aload_n 0, 1) := by decide +kernel
theorem d4_27 : decode prog_42_method_2_code 27 = .ok (.getfield 22, 3) := by decide +kernel
theorem d4_30 : decode prog_42_method_2_code 30 = .ok (.iload 4, 2) := by decide +kernel
theorem d4_32 : decode prog_42_method_2_code 32 = .ok (.invokestatic 56, 3) := by decide +kernel
theorem d4_35 : decode prog_42_method_2_code 35 = .ok (.putfield 22, 3) := by decide +kernel
theorem d4_38 : decode prog_42_method_2_code 38 = .ok (.aload_n 0, 1) := by decide +kernel
theorem d4_39 : decode prog_42_method_2_code 39 = .ok (.aload_n 0, 1) := by decide +kernel
theorem d4_40 : decode prog_42_method_2_code 40 = .ok (.getfield 26, 3) := by decide +kernel
theorem d4_43 : decode prog_42_method_2_code 43 = .ok (.iload 4, 2) := by decide +kernel
theorem d4_45 : decode prog_42_method_2_code 45 = .ok (.invokestatic 56, 3) := by decide +kernel
theorem d4_48 : decode prog_42_method_2_code 48 = .ok (.putfield 26, 3) := by decide +kernel
theorem d4_51 : decode prog_42_method_2_code 51 = .ok (.aload_n 0, 1) := by decide +kernel
theorem d4_52 : decode prog_42_method_2_code 52 = .ok (.aload_n 0, 1) := by decide +kernel
theorem d4_53 : decode prog_42_method_2_code 53 = .ok (.getfield 29, 3) := by decide +kernel
theorem d4_56 : decode prog_42_method_2_code 56 = .ok (.iload 4, 2) := by decide +kernel
theorem d4_58 : decode prog_42_method_2_code 58 = .ok (.invokestatic 56, 3) := by decide +kernel
theorem d4_61 : decode prog_42_method_2_code 61 = .ok (.putfield 29, 3) := by decide +kernel
theorem d4_64 : decode prog_42_method_2_code 64 = .ok (.aload_n 0, 1) := by decide +kernel
theorem d4_65 : decode prog_42_method_2_code 65 = .ok (.getfield 22, 3) := by decide +kernel
theorem d4_68 : decode prog_42_method_2_code 68 = .ok (.aload_n 0, 1) := by decide +kernel
theorem d4_69 : decode prog_42_method_2_code 69 = .ok (.getfield 47, 3) := by decide +kernel
theorem d4_72 : decode prog_42_method_2_code 72 = .ok (.iload_n 1, 1) := by decide +kernel
theorem d4_73 : decode prog_42_method_2_code 73 = .ok (.iastore, 1) := by decide +kernel
theorem d4_74 : decode prog_42_method_2_code 74 = .ok (.aload_n 0, 1) := by decide +kernel
theorem d4_75 : decode prog_42_method_2_code 75 = .ok (.getfield 26, 3) := by decide +kernel
theorem d4_78 : decode prog_42_method_2_code 78 = .ok (.aload_n 0, 1) := by decide +kernel
theorem d4_79 : decode prog_42_method_2_code 79 = .ok (.getfield 47, 3) := by decide +kernel
theorem d4_82 : decode prog_42_method_2_code 82 = .ok (.iload_n 2, 1) := by decide +kernel
theorem d4_83 : decode prog_42_method_2_code 83 = .ok (.iastore, 1) := by decide +kernel
theorem d4_84 : decode prog_42_method_2_code 84 = .ok (.aload_n 0, 1) := by decide +kernel
theorem d4_85 : decode prog_42_method_2_code 85 = .ok (.getfield 29, 3) := by decide +kernel
theorem d4_88 : decode prog_42_method_2_code 88 = .ok (.aload_n 0, 1) := by decide +kernel
theorem d4_89 : decode prog_42_method_2_code 89 = .ok (.getfield 47, 3) := by decide +kernel
theorem d4_92 : decode prog_42_method_2_code 92 = .ok (.iload_n 3, 1) := by decide +kernel
theorem d4_93 : decode prog_42_method_2_code 93 = .ok (.iastore, 1) := by decide +kernel
theorem d4_94 : decode prog_42_method_2_code 94 = .ok (.iload_n 3, 1) := by decide +kernel
theorem d4_95 : decode prog_42_method_2_code 95 = .ok (.ifCond .eq 70, 3) := by decide +kernel
theorem d4_98 : decode prog_42_method_2_code 98 = .ok (.iload_n 1, 1) := by decide +kernel
theorem d4_99 : decode prog_42_method_2_code 99 = .ok (.ifCond .ne 10, 3) := by decide +kernel
theorem d4_102 : decode prog_42_method_2_code 102 = .ok (.aload_n 0, 1) := by decide +kernel
theorem d4_103 : decode prog_42_method_2_code 103 = .ok (.getfield 32, 3) := by decide +kernel
theorem d4_106 : decode prog_42_method_2_code 106 = .ok (.goto 7, 3) := by decide +kernel
theorem d4_109 : decode prog_42_method_2_code 109 = .ok (.aload_n 0, 1) := by decide +kernel
theorem d4_110 : decode prog_42_method_2_code 110 = .ok (.getfield 35, 3) := by decide +kernel
theorem d4_113 : decode prog_42_method_2_code 113 = .ok (.astore 4, 2) := by decide +kernel
theorem d4_115 : decode prog_42_method_2_code 115 = .ok (.iload_n 1, 1) := by decide +kernel
theorem d4_116 : decode prog_42_method_2_code 116 = .ok (.ifCond .ne 7, 3) := by decide +kernel
theorem d4_119 : decode prog_42_method_2_code 119 = .ok (.iconst 1, 1) := by decide +kernel
theorem d4_120 : decode prog_42_method_2_code 120 = .ok (.goto 4, 3) := by decide +kernel
theorem d4_123 : decode prog_42_method_2_code 123 = .ok (.iconst 0, 1) := by decide +kernel
theorem d4_124 : decode prog_42_method_2_code 124 = .ok (.iload_n 2, 1) := by decide +kernel
theorem d4_125 : decode prog_42_method_2_code 125 = .ok (.ifCond .ne 7, 3) := by decide +kernel
theorem d4_128 : decode prog_42_method_2_code 128 = .ok (.iconst 1, 1) := by decide +kernel
theorem d4_129 : decode prog_42_method_2_code 129 = .ok (.goto 4, 3) := by decide +kernel
theorem d4_132 : decode prog_42_method_2_code 132 = .ok (.iconst 0, 1) := by decide +kernel
theorem d4_133 : decode prog_42_method_2_code 133 = .ok (.if_icmp .eq 10, 3) := by decide +kernel
theorem d4_136 : decode prog_42_method_2_code 136 = .ok (.aload 4, 2) := by decide +kernel
theorem d4_138 : decode prog_42_method_2_code 138 = .ok (.iload_n 3, 1) := by decide +kernel
theorem d4_139 : decode prog_42_method_2_code 139 = .ok (.iaload, 1) := by decide +kernel
theorem d4_140 : decode prog_42_method_2_code 140 = .ok (.ifCond .lt 17, 3) := by decide +kernel
theorem d4_143 : decode prog_42_method_2_code 143 = .ok (.new 60, 3) := by decide +kernel
theorem d4_146 : decode prog_42_method_2_code 146 = .ok (.dup, 1) := by decide +kernel
theorem d4_147 : decode prog_42_method_2_code 147 = .ok (.iload_n 3, 1) := by decide +kernel
theorem d4_148 : decode prog_42_method_2_code 148 = .ok (.invokedynamic 62, 5) := by decide +kernel
theorem d4_153 : decode prog_42_method_2_code 153 = .ok (.invokespecial 66, 3) := by decide +kernel
theorem d4_156 : decode prog_42_method_2_code 156 = .ok (.athrow, 1) := by decide +kernel
theorem d4_157 : decode prog_42_method_2_code 157 = .ok (.aload 4, 2) := by decide +kernel
theorem d4_159 : decode prog_42_method_2_code 159 = .ok (.iload_n 3, 1) := by decide +kernel
theorem d4_160 : decode prog_42_method_2_code 160 = .ok (.aload_n 0, 1) := by decide +kernel
theorem d4_161 : decode prog_42_method_2_code 161 = .ok (.getfield 47, 3) := by decide +kernel
theorem d4_164 : decode prog_42_method_2_code 164 = .ok (.iastore, 1) := by decide +kernel
theorem d4_165 : decode prog_42_method_2_code 165 = .ok (.aload_n 0, 1) := by decide +kernel
theorem d4_166 : decode prog_42_method_2_code 166 = .ok (.dup, 1) := by decide +kernel
theorem d4_167 : decode prog_42_method_2_code 167 = .ok (.getfield 47, 3) := by decide +kernel
theorem d4_170 : decode prog_42_method_2_code 170 = .ok (.dup_x1, 1) := by decide +kernel
theorem d4_171 : decode prog_42_method_2_code 171 = .ok (.iconst 1, 1) := by decide +kernel
theorem d4_172 : decode prog_42_method_2_code 172 = .ok (.iadd, 1) := by decide +kernel
theorem d4_173 : decode prog_42_method_2_code 173 = .ok (.putfield 47, 3) := by decide +kernel
theorem d4_176 : decode prog_42_method_2_code 176 = .ok (.ireturn, 1) := by decide +kernel
theorem own_pf5 : plainFor (⟨"java/lang/Math", "max", "(II)I"⟩ : MethodName) = true := by decide +kernel
theorem own_pd6 : parseMethodDescriptor "(II)I" = some ⟨[.int, .int], some .int⟩ := by decide +kernel
theorem d5_0 : decode jdk_29_method_65_code 0 = .ok (.iload_n 0, 1) := by decide +kernel
theorem d5_1 : decode jdk_29_method_65_code 1 = .ok (.iload_n 1, 1) := by decide +kernel
theorem d5_2 : decode jdk_29_method_65_code 2 = .ok (.if_icmp .lt 7, 3) := by decide +kernel
theorem d5_5 : decode jdk_29_method_65_code 5 = .ok (.iload_n 0, 1) := by decide +kernel
theorem d5_6 : decode jdk_29_method_65_code 6 = .ok (.goto 4, 3) := by decide +kernel
theorem d5_9 : decode jdk_29_method_65_code 9 = .ok (.iload_n 1, 1) := by decide +kernel
theorem d5_10 : decode jdk_29_method_65_code 10 = .ok (.ireturn, 1) := by decide +kernel
theorem own_pd7 : parseMethodDescriptor "([II)[I" = some ⟨[(.array .int), .int], some (.array .int)⟩ := by decide +kernel
theorem d6_0 : decode jdk_65_method_123_code 0 = .ok (.iload_n 1, 1) := by decide +kernel
theorem d6_1 : decode jdk_65_method_123_code 1 = .ok (.aload_n 0, 1) := by decide +kernel
theorem d6_2 : decode jdk_65_method_123_code 2 = .ok (.arraylength, 1) := by decide +kernel
theorem d6_3 : decode jdk_65_method_123_code 3 = .ok (.if_icmp .ne 11, 3) := by decide +kernel
theorem d6_6 : decode jdk_65_method_123_code 6 = .ok (.aload_n 0, 1) := by decide +kernel
theorem d6_7 : decode jdk_65_method_123_code 7 = .ok (.invokevirtual 316, 3) := by decide +kernel
theorem d6_10 : decode jdk_65_method_123_code 10 = .ok (.checkcast 317, 3) := by decide +kernel
theorem d6_13 : decode jdk_65_method_123_code 13 = .ok (.areturn, 1) := by decide +kernel
theorem d6_14 : decode jdk_65_method_123_code 14 = .ok (.iload_n 1, 1) := by decide +kernel
theorem d6_15 : decode jdk_65_method_123_code 15 = .ok (.newarray .int, 2) := by decide +kernel
theorem d6_17 : decode jdk_65_method_123_code 17 = .ok (.astore_n 2, 1) := by decide +kernel
theorem d6_18 : decode jdk_65_method_123_code 18 = .ok (.aload_n 0, 1) := by decide +kernel
theorem d6_19 : decode jdk_65_method_123_code 19 = .ok (.iconst 0, 1) := by decide +kernel
theorem d6_20 : decode jdk_65_method_123_code 20 = .ok (.aload_n 2, 1) := by decide +kernel
theorem d6_21 : decode jdk_65_method_123_code 21 = .ok (.iconst 0, 1) := by decide +kernel
theorem d6_22 : decode jdk_65_method_123_code 22 = .ok (.aload_n 0, 1) := by decide +kernel
theorem d6_23 : decode jdk_65_method_123_code 23 = .ok (.arraylength, 1) := by decide +kernel
theorem d6_24 : decode jdk_65_method_123_code 24 = .ok (.iload_n 1, 1) := by decide +kernel
theorem d6_25 : decode jdk_65_method_123_code 25 = .ok (.invokestatic 304, 3) := by decide +kernel
theorem d6_28 : decode jdk_65_method_123_code 28 = .ok (.invokestatic 150, 3) := by decide +kernel
theorem d6_31 : decode jdk_65_method_123_code 31 = .ok (.aload_n 2, 1) := by decide +kernel
theorem d6_32 : decode jdk_65_method_123_code 32 = .ok (.areturn, 1) := by decide +kernel
theorem own_pf8 : plainFor (⟨"java/lang/Math", "min", "(II)I"⟩ : MethodName) = true := by decide +kernel
theorem d7_0 : decode jdk_29_method_69_code 0 = .ok (.iload_n 0, 1) := by decide +kernel
theorem d7_1 : decode jdk_29_method_69_code 1 = .ok (.iload_n 1, 1) := by decide +kernel
theorem d7_2 : decode jdk_29_method_69_code 2 = .ok (.if_icmp .gt 7, 3) := by decide +kernel
theorem d7_5 : decode jdk_29_method_69_code 5 = .ok (.iload_n 0, 1) := by decide +kernel
theorem d7_6 : decode jdk_29_method_69_code 6 = .ok (.goto 4, 3) := by decide +kernel
theorem d7_9 : decode jdk_29_method_69_code 9 = .ok (.iload_n 1, 1) := by decide +kernel
theorem d7_10 : decode jdk_29_method_69_code 10 = .ok (.ireturn, 1) := by decide +kernel
theorem own_pd9 : parseMethodDescriptor "(II)V" = some ⟨[.int, .int], none⟩ := by decide +kernel
theorem d8_0 : decode prog_42_method_23_code 0 = .ok (.aload_n 0, 1) := by decide +kernel
theorem d8_1 : decode prog_42_method_23_code 1 = .ok (.getfield 35, 3) := by decide +kernel
theorem d8_4 : decode prog_42_method_23_code 4 = .ok (.iload_n 1, 1) := by decide +kernel
theorem d8_5 : decode prog_42_method_23_code 5 = .ok (.iaload, 1) := by decide +kernel
theorem d8_6 : decode prog_42_method_23_code 6 = .ok (.istore_n 3, 1) := by decide +kernel
theorem d8_7 : decode prog_42_method_23_code 7 = .ok (.aload_n 0, 1) := by decide +kernel
theorem d8_8 : decode prog_42_method_23_code 8 = .ok (.getfield 35, 3) := by decide +kernel
theorem d8_11 : decode prog_42_method_23_code 11 = .ok (.iload_n 1, 1) := by decide +kernel
theorem d8_12 : decode prog_42_method_23_code 12 = .ok (.iconst (-1), 1) := by decide +kernel
theorem d8_13 : decode prog_42_method_23_code 13 = .ok (.iastore, 1) := by decide +kernel
theorem d8_14 : decode prog_42_method_23_code 14 = .ok (.aload_n 0, 1) := by decide +kernel
theorem d8_15 : decode prog_42_method_23_code 15 = .ok (.getfield 35, 3) := by decide +kernel
theorem d8_18 : decode prog_42_method_23_code 18 = .ok (.iload_n 2, 1) := by decide +kernel
theorem d8_19 : decode prog_42_method_23_code 19 = .ok (.iload_n 3, 1) := by decide +kernel
theorem d8_20 : decode prog_42_method_23_code 20 = .ok (.iastore, 1) := by decide +kernel
theorem d8_21 : decode prog_42_method_23_code 21 = .ok (.aload_n 0, 1) := by decide +kernel
theorem d8_22 : decode prog_42_method_23_code 22 = .ok (.getfield 29, 3) := by decide +kernel
theorem d8_25 : decode prog_42_method_23_code 25 = .ok (.iload_n 3, 1) := by decide +kernel
theorem d8_26 : decode prog_42_method_23_code 26 = .ok (.iload_n 2, 1) := by decide +kernel
theorem d8_27 : decode prog_42_method_23_code 27 = .ok (.iastore, 1) := by decide +kernel
theorem d8_28 : decode prog_42_method_23_code 28 = .ok (.return_, 1) := by decide +kernel
theorem own_pd10 : parseMethodDescriptor "(I)I" = some ⟨[.int], some .int⟩ := by decide +kernel
theorem d9_0 : decode prog_42_method_19_code 0 = .ok (.aload_n 0, 1) := by decide +kernel
theorem d9_1 : decode prog_42_method_19_code 1 = .ok (.getfield 35, 3) := by decide +kernel
theorem d9_4 : decode prog_42_method_19_code 4 = .ok (.iload_n 1, 1) := by decide +kernel
theorem d9_5 : decode prog_42_method_19_code 5 = .ok (.iaload, 1) := by decide +kernel
theorem d9_6 : decode prog_42_method_19_code 6 = .ok (.ireturn, 1) := by decide +kernel
theorem d10_0 : decode prog_42_method_12_code 0 = .ok (.aload_n 0, 1) := by decide +kernel
theorem d10_1 : decode prog_42_method_12_code 1 = .ok (.getfield 29, 3) := by decide +kernel
theorem d10_4 : decode prog_42_method_12_code 4 = .ok (.iload_n 1, 1) := by decide +kernel
theorem d10_5 : decode prog_42_method_12_code 5 = .ok (.iaload, 1) := by decide +kernel
theorem d10_6 : decode prog_42_method_12_code 6 = .ok (.ireturn, 1) := by decide +kernel
theorem d11_0 : decode prog_42_method_18_code 0 = .ok (.aload_n 0, 1) := by decide +kernel
theorem d11_1 : decode prog_42_method_18_code 1 = .ok (.getfield 32, 3) := by decide +kernel
theorem d11_4 : decode prog_42_method_18_code 4 = .ok (.iload_n 1, 1) := by decide +kernel
theorem d11_5 : decode prog_42_method_18_code 5 = .ok (.iaload, 1) := by decide +kernel
theorem d11_6 : decode prog_42_method_18_code 6 = .ok (.ireturn, 1) := by decide +kernel
def f5_9 (l0 : Int32) (l1 : Int32) : Int32 := l1
set_option maxRecDepth 65536 in
set_option maxHeartbeats 4000000 in
theorem w5_9 {p : Program} {l : Launch} {e : Env} {s : State} {m : MethodId} {args : Array Value} {below : List Frame} {meth : Method} {c : Code} {T : State} {locs : List Loc} {Z : State} {a0 : Array Value} {n0 : Nat} {h0 : Heap} (X : Stand p l e ({ frames := 0, cells := 0, slots := 0, locals := 0 } : Room) s m args below meth c T locs 0 0) (hx : p.tables.exec = Jvm.exec) (hby : c.code = jdk_29_method_65_code) (hlk : meth.locks = false) (hret : meth.sig.returnType = some .int) (hZ : Z.Warmed39 s.vm) (hown : s.vm.findClass "java/lang/Math" = some m.cls) (hw : ∀ d ∈ tables_1, d.before a0 Z = true) (hml : c.maxLocals = 2) (N : Fr n0 locs) (eT : T.heap = h0) (l0 : Int32) (l1 : Int32) :
    own_Go p e below (own_K s (own_Q (.int (f5_9 l0 l1)) h0 n0) 0 0) (T.setTop (mkF m 9 #[.val (.int l0), .val (.int l1)] [])) := by
  unfold f5_9
  refine own_by (fun _ kont => XS.iloadN X.here hx rfl (hb hby d5_9) rfl kont) ?_
  show own_Go p e below _ (T.setTop (mkF m 10 #[.val (.int l0), .val (.int l1)] [(.int l1)]))
  exact own_ret X hx hlk hret rfl (Or.inl ⟨rfl, by simp, _, rfl⟩) (hb hby d5_10) ⟨rfl, N, eT⟩ (Nat.le_refl _) (Nat.le_refl _)
def f5_0 (l0 : Int32) (l1 : Int32) : Int32 := (if l0 < l1 then (f5_9 l0 l1) else l0)
set_option maxRecDepth 65536 in
set_option maxHeartbeats 4000000 in
theorem w5_0 {p : Program} {l : Launch} {e : Env} {s : State} {m : MethodId} {args : Array Value} {below : List Frame} {meth : Method} {c : Code} {T : State} {locs : List Loc} {Z : State} {a0 : Array Value} {n0 : Nat} {h0 : Heap} (X : Stand p l e ({ frames := 0, cells := 0, slots := 0, locals := 0 } : Room) s m args below meth c T locs 0 0) (hx : p.tables.exec = Jvm.exec) (hby : c.code = jdk_29_method_65_code) (hlk : meth.locks = false) (hret : meth.sig.returnType = some .int) (hZ : Z.Warmed39 s.vm) (hown : s.vm.findClass "java/lang/Math" = some m.cls) (hw : ∀ d ∈ tables_1, d.before a0 Z = true) (hml : c.maxLocals = 2) (N : Fr n0 locs) (eT : T.heap = h0) (l0 : Int32) (l1 : Int32) :
    own_Go p e below (own_K s (own_Q (.int (f5_0 l0 l1)) h0 n0) 0 0) (T.setTop (mkF m 0 #[.val (.int l0), .val (.int l1)] [])) := by
  unfold f5_0
  refine own_by (fun _ kont => XS.iloadN X.here hx rfl (hb hby d5_0) rfl kont) ?_
  show own_Go p e below _ (T.setTop (mkF m 1 #[.val (.int l0), .val (.int l1)] [(.int l0)]))
  refine own_by (fun _ kont => XS.iloadN X.here hx rfl (hb hby d5_1) rfl kont) ?_
  show own_Go p e below _ (T.setTop (mkF m 2 #[.val (.int l0), .val (.int l1)] [(.int l1), (.int l0)]))
  by_cases c2 : l0 < l1
  · rw [if_pos c2]
    refine own_by (fun _ kont => XS.icmpYes X.here hx rfl (pc0 := 2) (pc' := 9) rfl (hb hby d5_2) rfl (XT.ii_lt_t c2) (by decide) (by decide) kont) ?_
    show own_Go p e below _ (T.setTop (mkF m 9 #[.val (.int l0), .val (.int l1)] []))
    exact w5_9 X hx hby hlk hret hZ hown hw hml N eT l0 l1
  · rw [if_neg c2]
    refine own_by (fun _ kont => XS.icmpNo X.here hx rfl (hb hby d5_2) rfl (XT.ii_lt_f c2) kont) ?_
    show own_Go p e below _ (T.setTop (mkF m 5 #[.val (.int l0), .val (.int l1)] []))
    refine own_by (fun _ kont => XS.iloadN X.here hx rfl (hb hby d5_5) rfl kont) ?_
    show own_Go p e below _ (T.setTop (mkF m 6 #[.val (.int l0), .val (.int l1)] [(.int l0)]))
    refine own_by (fun _ kont => XS.goto X.here hx rfl (pc0 := 6) (pc' := 10) rfl (hb hby d5_6) (by decide) (by decide) kont) ?_
    show own_Go p e below _ (T.setTop (mkF m 10 #[.val (.int l0), .val (.int l1)] [(.int l0)]))
    exact own_ret X hx hlk hret rfl (Or.inl ⟨rfl, by simp, _, rfl⟩) (hb hby d5_10) ⟨rfl, N, eT⟩ (Nat.le_refl _) (Nat.le_refl _)
theorem own_ef5 (m : MethodId) (l0 : Int32) (l1 : Int32) : entryFrame m #[(.int l0), (.int l1)] 2 = (mkF m 0 #[.val (.int l0), .val (.int l1)] []) := by first | (simp [entryFrame, mkF, argsToLocals, Value.category, maxLocals]; done) | rfl
set_option maxRecDepth 65536 in
set_option maxHeartbeats 4000000 in
theorem rm5 (l : Launch) (Z : State) (a0 : Array Value) (hw : ∀ d ∈ tables_1, d.before a0 Z = true) (ws : List Jvm.Cond) (l0 : Int32) (l1 : Int32) (h0 : Heap) (n0 : Nat) :
    MetFree l (⟨"java/lang/Math", "max", "(II)I"⟩ : MethodName) (head1 (Jvm.Cond.code (⟨"java/lang/Math", "max", "(II)I"⟩ : MethodName) jdk_29_method_65_code 2 (some .int) :: ws) ({ frames := 0, cells := 0, slots := 0, locals := 0 } : Room)) (fun a U => a = #[(.int l0), (.int l1)] ∧ Z.Warmed39 U.vm ∧ U.heap = h0) (fun _ _ _ _ _ => True) (fun _ U o U' => ∃ v L, o = .returned v ∧ own_Q (.int (f5_0 l0 l1)) h0 n0 v U'.heap L ∧ FrameEnd U o U' L ({ frames := 0, cells := 0, slots := 0, locals := 0 } : Room).cells ({ frames := 0, cells := 0, slots := 0, locals := 0 } : Room).slots) := by
  refine MetFree.of_bodySF own_pf5 hisR ?_
  intro p e s m args below meth c s₁ Bd hml0 hP hK
  obtain ⟨rfl, hZ, hh⟩ := hP
  have hx := Bd.exec
  have hby := Bd.bytes
  have hml : c.maxLocals = 2 := hml0
  have hown : s.vm.findClass "java/lang/Math" = some m.cls := findClass_of_methodNamed Bd.named
  have X0 : Stand p l e ({ frames := 0, cells := 0, slots := 0, locals := 0 } : Room) s m #[(.int l0), (.int l1)] below meth c s₁ [] 0 0 := Stand.of_body Bd
  have e0 : s₁.heap = h0 := by rw [← hh, Bd.state]; rfl
  have N0 := Fr.nil n0
  exact own_by (fun tt kont => castTop (own_ef5 m l0 l1) kont) (w5_0 X0 hx hby Bd.notSynchronized Bd.returns hZ hown hw hml N0 e0 l0 l1)
def f7_9 (l0 : Int32) (l1 : Int32) : Int32 := l1
set_option maxRecDepth 65536 in
set_option maxHeartbeats 4000000 in
theorem w7_9 {p : Program} {l : Launch} {e : Env} {s : State} {m : MethodId} {args : Array Value} {below : List Frame} {meth : Method} {c : Code} {T : State} {locs : List Loc} {Z : State} {a0 : Array Value} {n0 : Nat} {h0 : Heap} (X : Stand p l e ({ frames := 0, cells := 0, slots := 0, locals := 0 } : Room) s m args below meth c T locs 0 0) (hx : p.tables.exec = Jvm.exec) (hby : c.code = jdk_29_method_69_code) (hlk : meth.locks = false) (hret : meth.sig.returnType = some .int) (hZ : Z.Warmed39 s.vm) (hown : s.vm.findClass "java/lang/Math" = some m.cls) (hw : ∀ d ∈ tables_1, d.before a0 Z = true) (hml : c.maxLocals = 2) (N : Fr n0 locs) (eT : T.heap = h0) (l0 : Int32) (l1 : Int32) :
    own_Go p e below (own_K s (own_Q (.int (f7_9 l0 l1)) h0 n0) 0 0) (T.setTop (mkF m 9 #[.val (.int l0), .val (.int l1)] [])) := by
  unfold f7_9
  refine own_by (fun _ kont => XS.iloadN X.here hx rfl (hb hby d7_9) rfl kont) ?_
  show own_Go p e below _ (T.setTop (mkF m 10 #[.val (.int l0), .val (.int l1)] [(.int l1)]))
  exact own_ret X hx hlk hret rfl (Or.inl ⟨rfl, by simp, _, rfl⟩) (hb hby d7_10) ⟨rfl, N, eT⟩ (Nat.le_refl _) (Nat.le_refl _)
def f7_0 (l0 : Int32) (l1 : Int32) : Int32 := (if l1 < l0 then (f7_9 l0 l1) else l0)
set_option maxRecDepth 65536 in
set_option maxHeartbeats 4000000 in
theorem w7_0 {p : Program} {l : Launch} {e : Env} {s : State} {m : MethodId} {args : Array Value} {below : List Frame} {meth : Method} {c : Code} {T : State} {locs : List Loc} {Z : State} {a0 : Array Value} {n0 : Nat} {h0 : Heap} (X : Stand p l e ({ frames := 0, cells := 0, slots := 0, locals := 0 } : Room) s m args below meth c T locs 0 0) (hx : p.tables.exec = Jvm.exec) (hby : c.code = jdk_29_method_69_code) (hlk : meth.locks = false) (hret : meth.sig.returnType = some .int) (hZ : Z.Warmed39 s.vm) (hown : s.vm.findClass "java/lang/Math" = some m.cls) (hw : ∀ d ∈ tables_1, d.before a0 Z = true) (hml : c.maxLocals = 2) (N : Fr n0 locs) (eT : T.heap = h0) (l0 : Int32) (l1 : Int32) :
    own_Go p e below (own_K s (own_Q (.int (f7_0 l0 l1)) h0 n0) 0 0) (T.setTop (mkF m 0 #[.val (.int l0), .val (.int l1)] [])) := by
  unfold f7_0
  refine own_by (fun _ kont => XS.iloadN X.here hx rfl (hb hby d7_0) rfl kont) ?_
  show own_Go p e below _ (T.setTop (mkF m 1 #[.val (.int l0), .val (.int l1)] [(.int l0)]))
  refine own_by (fun _ kont => XS.iloadN X.here hx rfl (hb hby d7_1) rfl kont) ?_
  show own_Go p e below _ (T.setTop (mkF m 2 #[.val (.int l0), .val (.int l1)] [(.int l1), (.int l0)]))
  by_cases c2 : l1 < l0
  · rw [if_pos c2]
    refine own_by (fun _ kont => XS.icmpYes X.here hx rfl (pc0 := 2) (pc' := 9) rfl (hb hby d7_2) rfl (XT.ii_gt_t c2) (by decide) (by decide) kont) ?_
    show own_Go p e below _ (T.setTop (mkF m 9 #[.val (.int l0), .val (.int l1)] []))
    exact w7_9 X hx hby hlk hret hZ hown hw hml N eT l0 l1
  · rw [if_neg c2]
    refine own_by (fun _ kont => XS.icmpNo X.here hx rfl (hb hby d7_2) rfl (XT.ii_gt_f c2) kont) ?_
    show own_Go p e below _ (T.setTop (mkF m 5 #[.val (.int l0), .val (.int l1)] []))
    refine own_by (fun _ kont => XS.iloadN X.here hx rfl (hb hby d7_5) rfl kont) ?_
    show own_Go p e below _ (T.setTop (mkF m 6 #[.val (.int l0), .val (.int l1)] [(.int l0)]))
    refine own_by (fun _ kont => XS.goto X.here hx rfl (pc0 := 6) (pc' := 10) rfl (hb hby d7_6) (by decide) (by decide) kont) ?_
    show own_Go p e below _ (T.setTop (mkF m 10 #[.val (.int l0), .val (.int l1)] [(.int l0)]))
    exact own_ret X hx hlk hret rfl (Or.inl ⟨rfl, by simp, _, rfl⟩) (hb hby d7_10) ⟨rfl, N, eT⟩ (Nat.le_refl _) (Nat.le_refl _)
theorem own_ef7 (m : MethodId) (l0 : Int32) (l1 : Int32) : entryFrame m #[(.int l0), (.int l1)] 2 = (mkF m 0 #[.val (.int l0), .val (.int l1)] []) := by first | (simp [entryFrame, mkF, argsToLocals, Value.category, maxLocals]; done) | rfl
set_option maxRecDepth 65536 in
set_option maxHeartbeats 4000000 in
theorem rm7 (l : Launch) (Z : State) (a0 : Array Value) (hw : ∀ d ∈ tables_1, d.before a0 Z = true) (ws : List Jvm.Cond) (l0 : Int32) (l1 : Int32) (h0 : Heap) (n0 : Nat) :
    MetFree l (⟨"java/lang/Math", "min", "(II)I"⟩ : MethodName) (head1 (Jvm.Cond.code (⟨"java/lang/Math", "min", "(II)I"⟩ : MethodName) jdk_29_method_69_code 2 (some .int) :: ws) ({ frames := 0, cells := 0, slots := 0, locals := 0 } : Room)) (fun a U => a = #[(.int l0), (.int l1)] ∧ Z.Warmed39 U.vm ∧ U.heap = h0) (fun _ _ _ _ _ => True) (fun _ U o U' => ∃ v L, o = .returned v ∧ own_Q (.int (f7_0 l0 l1)) h0 n0 v U'.heap L ∧ FrameEnd U o U' L ({ frames := 0, cells := 0, slots := 0, locals := 0 } : Room).cells ({ frames := 0, cells := 0, slots := 0, locals := 0 } : Room).slots) := by
  refine MetFree.of_bodySF own_pf8 hisR ?_
  intro p e s m args below meth c s₁ Bd hml0 hP hK
  obtain ⟨rfl, hZ, hh⟩ := hP
  have hx := Bd.exec
  have hby := Bd.bytes
  have hml : c.maxLocals = 2 := hml0
  have hown : s.vm.findClass "java/lang/Math" = some m.cls := findClass_of_methodNamed Bd.named
  have X0 : Stand p l e ({ frames := 0, cells := 0, slots := 0, locals := 0 } : Room) s m #[(.int l0), (.int l1)] below meth c s₁ [] 0 0 := Stand.of_body Bd
  have e0 : s₁.heap = h0 := by rw [← hh, Bd.state]; rfl
  have N0 := Fr.nil n0
  exact own_by (fun tt kont => castTop (own_ef7 m l0 l1) kont) (w7_0 X0 hx hby Bd.notSynchronized Bd.returns hZ hown hw hml N0 e0 l0 l1)
def own_Q_rmF (Z : State) (a : Addr) (x : Int32) (n : Nat) (h0 : Heap) (n0 : Nat) : Option Value → Heap → List Loc → Prop := (fun v h L => v = none ∧ Fr n0 L ∧ Keep h0 h [a] ∧ own_IA Z h a n (fun _ => x))
set_option maxRecDepth 65536 in
set_option maxHeartbeats 40000000 in
theorem own_fill {p : Program} {l : Launch} {e : Env} {s : State} {m : MethodId} {args : Array Value} {below : List Frame} {meth : Method} {c : Code} {Z : State} {a0 : Array Value} {n0 : Nat} {h0 : Heap} (hx : p.tables.exec = Jvm.exec) (hby : c.code = jdk_65_method_103_code) (hlk : meth.locks = false) (hret : meth.sig.returnType = none) (hZ : Z.Warmed39 s.vm) (hown : s.vm.findClass "java/util/Arrays" = some m.cls) (hw : ∀ d ∈ tables_1, d.before a0 Z = true) (hml : c.maxLocals = 4) (a : Addr) (x : Int32) (n : Nat) (hn : n ≤ 100) (ga : n0 ≤ a) :
    ∀ (d i : Nat) (T : State) (locs : List Loc) (h : Heap) (f : Nat → Int32), Stand p l e ({ frames := 0, cells := 0, slots := 0, locals := 0 } : Room) s m args below meth c T locs 0 0 → T.heap = h → Fr n0 locs → Keep h0 h [a] → own_IA Z h a n f → (∀ j, j < i → f j = x) → i + d = n →
    own_Go p e below (own_K s (own_Q_rmF Z a x n h0 n0) 0 0) (T.setTop (mkF m 5 #[.val (.ref a), .val (.int x), .val (.int (Int32.ofNat i)), .val (.int (Int32.ofNat n))] [])) := by
  intro d
  induction d with
  | zero =>
    intro i T locs h f X eT N K H hf hi
    refine own_by (fun _ kont => XS.iloadN X.here hx rfl (hb hby d3_5) rfl kont) ?_
    show own_Go p e below _ (T.setTop (mkF m 6 #[.val (.ref a), .val (.int x), .val (.int (Int32.ofNat i)), .val (.int (Int32.ofNat n))] [(.int (Int32.ofNat i))]))
    refine own_by (fun _ kont => XS.iloadN X.here hx rfl (hb hby d3_6) rfl kont) ?_
    show own_Go p e below _ (T.setTop (mkF m 7 #[.val (.ref a), .val (.int x), .val (.int (Int32.ofNat i)), .val (.int (Int32.ofNat n))] [(.int (Int32.ofNat n)), (.int (Int32.ofNat i))]))
    refine own_by (fun _ kont => XS.icmpYes X.here hx rfl (pc0 := 7) (pc' := 20) rfl (hb hby d3_7) rfl (XT.ii_ge_t (fun z => absurd ((own_ilt (by omega) (by omega)).mp z) (by omega))) (by decide) (by decide) kont) ?_
    show own_Go p e below _ (T.setTop (mkF m 20 #[.val (.ref a), .val (.int x), .val (.int (Int32.ofNat i)), .val (.int (Int32.ofNat n))] []))
    refine own_retV X hx hlk hret (hb hby d3_20) ⟨rfl, N, ?_⟩ (by decide) (by decide)
    rw [eT]
    exact ⟨K, own_IA_congr H fun j hj => hf j (by omega)⟩
  | succ d ih =>
    intro i T locs h f X eT N K H hf hi
    refine own_by (fun _ kont => XS.iloadN X.here hx rfl (hb hby d3_5) rfl kont) ?_
    show own_Go p e below _ (T.setTop (mkF m 6 #[.val (.ref a), .val (.int x), .val (.int (Int32.ofNat i)), .val (.int (Int32.ofNat n))] [(.int (Int32.ofNat i))]))
    refine own_by (fun _ kont => XS.iloadN X.here hx rfl (hb hby d3_6) rfl kont) ?_
    show own_Go p e below _ (T.setTop (mkF m 7 #[.val (.ref a), .val (.int x), .val (.int (Int32.ofNat i)), .val (.int (Int32.ofNat n))] [(.int (Int32.ofNat n)), (.int (Int32.ofNat i))]))
    refine own_by (fun _ kont => XS.icmpNo X.here hx rfl (hb hby d3_7) rfl (XT.ii_ge_f ((own_ilt (by omega) (by omega)).mpr (by omega))) kont) ?_
    show own_Go p e below _ (T.setTop (mkF m 10 #[.val (.ref a), .val (.int x), .val (.int (Int32.ofNat i)), .val (.int (Int32.ofNat n))] []))
    refine own_by (fun _ kont => XS.aloadN X.here hx rfl (hb hby d3_10) rfl rfl kont) ?_
    show own_Go p e below _ (T.setTop (mkF m 11 #[.val (.ref a), .val (.int x), .val (.int (Int32.ofNat i)), .val (.int (Int32.ofNat n))] [(.ref a)]))
    refine own_by (fun _ kont => XS.iloadN X.here hx rfl (hb hby d3_11) rfl kont) ?_
    show own_Go p e below _ (T.setTop (mkF m 12 #[.val (.ref a), .val (.int x), .val (.int (Int32.ofNat i)), .val (.int (Int32.ofNat n))] [(.int (Int32.ofNat i)), (.ref a)]))
    refine own_by (fun _ kont => XS.iloadN X.here hx rfl (hb hby d3_12) rfl kont) ?_
    show own_Go p e below _ (T.setTop (mkF m 13 #[.val (.ref a), .val (.int x), .val (.int (Int32.ofNat i)), .val (.int (Int32.ofNat n))] [(.int x), (.int (Int32.ofNat i)), (.ref a)]))
    obtain ⟨T101, h101, X101, e101, W101, H101, st101⟩ := own_stN X hx hZ eT H (j := (Int32.ofNat i)) i (own_i (by omega)) (by omega) (g := (mkF m 13 #[.val (.ref a), .val (.int x), .val (.int (Int32.ofNat i)), .val (.int (Int32.ofNat n))] [(.int x), (.int (Int32.ofNat i)), (.ref a)])) rfl rfl (hb hby d3_13)
    obtain ⟨L101, X101, M101⟩ := own_hide X101 (Fr.snoc X101 N ga)
    refine own_by st101 ?_
    show own_Go p e below _ (T101.setTop (mkF m 14 #[.val (.ref a), .val (.int x), .val (.int (Int32.ofNat i)), .val (.int (Int32.ofNat n))] []))
    refine own_by (fun _ kont => XT.iincV X101.here hx rfl (1 : Int32) (hb hby d3_14) rfl rfl (l' := #[.val (.ref a), .val (.int x), .val (.int ((Int32.ofNat i) + (1 : Int32))), .val (.int (Int32.ofNat n))]) rfl kont) ?_
    show own_Go p e below _ (T101.setTop (mkF m 17 #[.val (.ref a), .val (.int x), .val (.int ((Int32.ofNat i) + (1 : Int32))), .val (.int (Int32.ofNat n))] []))
    refine own_by (fun _ kont => XS.goto X101.here hx rfl (pc0 := 17) (pc' := 5) rfl (hb hby d3_17) (by decide) (by decide) kont) ?_
    show own_Go p e below _ (T101.setTop (mkF m 5 #[.val (.ref a), .val (.int x), .val (.int ((Int32.ofNat i) + (1 : Int32))), .val (.int (Int32.ofNat n))] []))
    rw [own_inc (k := i) (by omega)]
    refine ih (i + 1) T101 _ _ _ X101 e101 M101 (K.wr W101 (Or.inl (by simp))) H101 (fun j hj => ?_) (by omega)
    by_cases q : j = i
    · rw [if_pos q]
    · rw [if_neg q]; exact hf j (by omega)
theorem own_ef_rmF (m : MethodId) (a : Addr) (x : Int32) : entryFrame m #[(.ref a), (.int x)] 4 = (mkF m 0 #[.val (.ref a), .val (.int x), .unset, .unset] []) := by first | (simp [entryFrame, mkF, argsToLocals, Value.category, maxLocals]; done) | rfl
set_option maxRecDepth 65536 in
set_option maxHeartbeats 40000000 in
theorem rmF (l : Launch) (Z : State) (a0 : Array Value) (hw : ∀ d ∈ tables_1, d.before a0 Z = true) (ws : List Jvm.Cond) (a : Addr) (x : Int32) (n : Nat) (f : Nat → Int32) (h0 : Heap) (n0 : Nat) (hn : n ≤ 100) (ga : n0 ≤ a) (H : own_IA Z h0 a n f) :
    MetFree l (⟨"java/util/Arrays", "fill", "([II)V"⟩ : MethodName) (head1 (Jvm.Cond.code (⟨"java/util/Arrays", "fill", "([II)V"⟩ : MethodName) jdk_65_method_103_code 4 none :: ws) ({ frames := 0, cells := 0, slots := 0, locals := 0 } : Room)) (fun aR UR => aR = #[(.ref a), (.int x)] ∧ Z.Warmed39 UR.vm ∧ UR.heap = h0) (fun _ _ _ _ _ => True) (fun _ UR oR UR' => ∃ vR LR, oR = .returned vR ∧ own_Q_rmF Z a x n h0 n0 vR UR'.heap LR ∧ FrameEnd UR oR UR' LR ({ frames := 0, cells := 0, slots := 0, locals := 0 } : Room).cells ({ frames := 0, cells := 0, slots := 0, locals := 0 } : Room).slots) := by
  refine MetFree.of_bodySF (plainFor_of_name own_pn2) hisR ?_
  intro p e s m args below meth c s₁ Bd hml0 hP hK
  obtain ⟨rfl, hZ, hh⟩ := hP
  have hx := Bd.exec
  have hby := Bd.bytes
  have hlk := Bd.notSynchronized
  have hret := Bd.returns
  have hml : c.maxLocals = 4 := hml0
  have hown : s.vm.findClass "java/util/Arrays" = some m.cls := findClass_of_methodNamed Bd.named
  have hnm := (name_of_methodNamed Bd.named Bd.method).1
  have X0 : Stand p l e ({ frames := 0, cells := 0, slots := 0, locals := 0 } : Room) s m #[(.ref a), (.int x)] below meth c s₁ [] 0 0 := Stand.of_body Bd
  have e0 : s₁.heap = h0 := by rw [← hh, Bd.state]; rfl
  have N0 := Fr.nil n0
  show own_Go p e below (own_K s (own_Q_rmF Z a x n h0 n0) ({ frames := 0, cells := 0, slots := 0, locals := 0 } : Room).cells ({ frames := 0, cells := 0, slots := 0, locals := 0 } : Room).slots) _
  refine own_by (fun tt kont => castTop (own_ef_rmF m a x) kont) ?_
  show own_Go p e below _ (s₁.setTop (mkF m 0 #[.val (.ref a), .val (.int x), .unset, .unset] []))
  refine own_by (fun _ kont => XT.iconstV X0.here hx rfl (0 : Int32) (hb hby d3_0) rfl kont) ?_
  show own_Go p e below _ (s₁.setTop (mkF m 1 #[.val (.ref a), .val (.int x), .unset, .unset] [(.int (0 : Int32))]))
  refine own_by (fun _ kont => XS.istoreN X0.here hx rfl (hb hby d3_1) rfl (l' := #[.val (.ref a), .val (.int x), .val (.int (0 : Int32)), .unset]) rfl kont) ?_
  show own_Go p e below _ (s₁.setTop (mkF m 2 #[.val (.ref a), .val (.int x), .val (.int (0 : Int32)), .unset] []))
  refine own_by (fun _ kont => XS.aloadN X0.here hx rfl (hb hby d3_2) rfl rfl kont) ?_
  show own_Go p e below _ (s₁.setTop (mkF m 3 #[.val (.ref a), .val (.int x), .val (.int (0 : Int32)), .unset] [(.ref a)]))
  refine own_by (fun _ kont => own_lenIA X0 hx hZ e0 H (z := (Int32.ofNat n)) rfl rfl rfl (hb hby d3_3) kont) ?_
  show own_Go p e below _ (s₁.setTop (mkF m 4 #[.val (.ref a), .val (.int x), .val (.int (0 : Int32)), .unset] [(.int (Int32.ofNat n))]))
  refine own_by (fun _ kont => XS.istoreN X0.here hx rfl (hb hby d3_4) rfl (l' := #[.val (.ref a), .val (.int x), .val (.int (0 : Int32)), .val (.int (Int32.ofNat n))]) rfl kont) ?_
  show own_Go p e below _ (s₁.setTop (mkF m 5 #[.val (.ref a), .val (.int x), .val (.int (0 : Int32)), .val (.int (Int32.ofNat n))] []))
  exact own_fill hx hby hlk hret hZ hown hw hml a x n hn ga n 0 s₁ _ h0 f X0 e0 N0 (Keep.refl _ _) H (fun j hj => absurd hj (by omega)) (by omega)
def own_Q_rmC (Z : State) (n : Nat) (f : Nat → Int32) (h0 : Heap) (n0 : Nat) : Option Value → Heap → List Loc → Prop := (fun v h L => ∃ t, v = some (.ref t) ∧ Fr n0 L ∧ Keep h0 h [] ∧ h0.size ≤ t ∧ n0 ≤ t ∧ own_IA Z h t 16 (fun i => if i < n then f i else 0))
theorem own_min (n : Nat) (h : n ≤ 3) : f7_0 (Int32.ofNat n) (16 : Int32) = Int32.ofNat n := by
  have h4 : ∀ k : Fin 4, f7_0 (Int32.ofNat k) (16 : Int32) = Int32.ofNat k := by decide +kernel
  exact h4 ⟨n, by omega⟩
theorem own_max (n : Nat) (h : n ≤ 3) : f5_0 (16 : Int32) ((2 : Int32) * Int32.ofNat n) = (16 : Int32) := by
  have h4 : ∀ k : Fin 4, f5_0 (16 : Int32) ((2 : Int32) * Int32.ofNat k) = (16 : Int32) := by decide +kernel
  exact h4 ⟨n, by omega⟩
theorem own_i16 {n : Nat} (h : n ≤ 3) : ¬ (16 : Int32) = Int32.ofNat n := fun z => absurd ((own_inj (a := 16) (by omega) (by omega)).mp z) (by omega)
theorem own_ef_rmC (m : MethodId) (a : Addr) (z : Int32) : entryFrame m #[(.ref a), (.int z)] 3 = (mkF m 0 #[.val (.ref a), .val (.int z), .unset] []) := by first | (simp [entryFrame, mkF, argsToLocals, Value.category, maxLocals]; done) | rfl
set_option maxRecDepth 65536 in
set_option maxHeartbeats 40000000 in
theorem rmC (l : Launch) (Z : State) (a0 : Array Value) (hw : ∀ d ∈ tables_1, d.before a0 Z = true) (ws : List Jvm.Cond) (a : Addr) (n : Nat) (f : Nat → Int32) (h0 : Heap) (n0 : Nat) (hn : n ≤ 3) (H : own_IA Z h0 a n f) (Z0 : n0 ≤ h0.size) :
    MetFree l (⟨"java/util/Arrays", "copyOf", "([II)[I"⟩ : MethodName) (head1 (Jvm.Cond.code (⟨"java/util/Arrays", "copyOf", "([II)[I"⟩ : MethodName) jdk_65_method_123_code 3 (some (.array .int)) :: ws) ({ frames := 1, cells := 1, slots := 16, locals := 64 } : Room)) (fun aR UR => aR = #[(.ref a), (.int (16 : Int32))] ∧ Z.Warmed39 UR.vm ∧ UR.heap = h0) (fun _ _ _ _ _ => True) (fun _ UR oR UR' => ∃ vR LR, oR = .returned vR ∧ own_Q_rmC Z n f h0 n0 vR UR'.heap LR ∧ FrameEnd UR oR UR' LR ({ frames := 1, cells := 1, slots := 16, locals := 64 } : Room).cells ({ frames := 1, cells := 1, slots := 16, locals := 64 } : Room).slots) := by
  refine MetFree.of_bodySF (plainFor_of_name own_pn2) hisR ?_
  intro p e s m args below meth c s₁ Bd hml0 hP hK
  obtain ⟨rfl, hZ, hh⟩ := hP
  have hx := Bd.exec
  have hby := Bd.bytes
  have hlk := Bd.notSynchronized
  have hret := Bd.returns
  have hml : c.maxLocals = 3 := hml0
  have hown : s.vm.findClass "java/util/Arrays" = some m.cls := findClass_of_methodNamed Bd.named
  have hnm := (name_of_methodNamed Bd.named Bd.method).1
  have X0 : Stand p l e ({ frames := 1, cells := 1, slots := 16, locals := 64 } : Room) s m #[(.ref a), (.int (16 : Int32))] below meth c s₁ [] 0 0 := Stand.of_body Bd
  have e0 : s₁.heap = h0 := by rw [← hh, Bd.state]; rfl
  have N0 := Fr.nil n0
  show own_Go p e below (own_K s (own_Q_rmC Z n f h0 n0) ({ frames := 1, cells := 1, slots := 16, locals := 64 } : Room).cells ({ frames := 1, cells := 1, slots := 16, locals := 64 } : Room).slots) _
  refine own_by (fun tt kont => castTop (own_ef_rmC m a (16 : Int32)) kont) ?_
  show own_Go p e below _ (s₁.setTop (mkF m 0 #[.val (.ref a), .val (.int (16 : Int32)), .unset] []))
  refine own_by (fun _ kont => XS.iloadN X0.here hx rfl (hb hby d6_0) rfl kont) ?_
  show own_Go p e below _ (s₁.setTop (mkF m 1 #[.val (.ref a), .val (.int (16 : Int32)), .unset] [(.int (16 : Int32))]))
  refine own_by (fun _ kont => XS.aloadN X0.here hx rfl (hb hby d6_1) rfl rfl kont) ?_
  show own_Go p e below _ (s₁.setTop (mkF m 2 #[.val (.ref a), .val (.int (16 : Int32)), .unset] [(.ref a), (.int (16 : Int32))]))
  refine own_by (fun _ kont => own_lenIA X0 hx hZ e0 H (z := (Int32.ofNat n)) rfl rfl rfl (hb hby d6_2) kont) ?_
  show own_Go p e below _ (s₁.setTop (mkF m 3 #[.val (.ref a), .val (.int (16 : Int32)), .unset] [(.int (Int32.ofNat n)), (.int (16 : Int32))]))
  refine own_by (fun _ kont => XS.icmpYes X0.here hx rfl (pc0 := 3) (pc' := 14) rfl (hb hby d6_3) rfl (XT.ii_ne_t (own_i16 hn)) (by decide) (by decide) kont) ?_
  show own_Go p e below _ (s₁.setTop (mkF m 14 #[.val (.ref a), .val (.int (16 : Int32)), .unset] []))
  refine own_by (fun _ kont => XS.iloadN X0.here hx rfl (hb hby d6_14) rfl kont) ?_
  show own_Go p e below _ (s₁.setTop (mkF m 15 #[.val (.ref a), .val (.int (16 : Int32)), .unset] [(.int (16 : Int32))]))
  obtain ⟨T102, h102, a102, X102, e102, g102, E102, H102, st102⟩ := own_newIA X0 hx hZ (hw _ (List.mem_of_getElem? (i := 18) rfl)) e0 (g := (mkF m 15 #[.val (.ref a), .val (.int (16 : Int32)), .unset] [(.int (16 : Int32))])) rfl (hb hby d6_15) rfl 16 (by decide) (cap := 16) (by decide) (by decide) (by decide) (by decide)
  have ne103 : a ≠ a102 := by rw [g102]; exact Nat.ne_of_lt (own_IA_lt H)
  have ge102 : n0 ≤ a102 := by rw [g102]; exact Z0
  have Z102 : n0 ≤ h102.size := Nat.le_trans Z0 E102.1
  refine own_by st102 ?_
  show own_Go p e below _ (T102.setTop (mkF m 17 #[.val (.ref a), .val (.int (16 : Int32)), .unset] [(.ref a102)]))
  refine own_by (fun _ kont => XS.astoreN X102.here hx rfl (hb hby d6_17) rfl rfl (l' := #[.val (.ref a), .val (.int (16 : Int32)), .val (.ref a102)]) rfl kont) ?_
  show own_Go p e below _ (T102.setTop (mkF m 18 #[.val (.ref a), .val (.int (16 : Int32)), .val (.ref a102)] []))
  refine own_by (fun _ kont => XS.aloadN X102.here hx rfl (hb hby d6_18) rfl rfl kont) ?_
  show own_Go p e below _ (T102.setTop (mkF m 19 #[.val (.ref a), .val (.int (16 : Int32)), .val (.ref a102)] [(.ref a)]))
  refine own_by (fun _ kont => XT.iconstV X102.here hx rfl (0 : Int32) (hb hby d6_19) rfl kont) ?_
  show own_Go p e below _ (T102.setTop (mkF m 20 #[.val (.ref a), .val (.int (16 : Int32)), .val (.ref a102)] [(.int (0 : Int32)), (.ref a)]))
  refine own_by (fun _ kont => XS.aloadN X102.here hx rfl (hb hby d6_20) rfl rfl kont) ?_
  show own_Go p e below _ (T102.setTop (mkF m 21 #[.val (.ref a), .val (.int (16 : Int32)), .val (.ref a102)] [(.ref a102), (.int (0 : Int32)), (.ref a)]))
  refine own_by (fun _ kont => XT.iconstV X102.here hx rfl (0 : Int32) (hb hby d6_21) rfl kont) ?_
  show own_Go p e below _ (T102.setTop (mkF m 22 #[.val (.ref a), .val (.int (16 : Int32)), .val (.ref a102)] [(.int (0 : Int32)), (.ref a102), (.int (0 : Int32)), (.ref a)]))
  refine own_by (fun _ kont => XS.aloadN X102.here hx rfl (hb hby d6_22) rfl rfl kont) ?_
  show own_Go p e below _ (T102.setTop (mkF m 23 #[.val (.ref a), .val (.int (16 : Int32)), .val (.ref a102)] [(.ref a), (.int (0 : Int32)), (.ref a102), (.int (0 : Int32)), (.ref a)]))
  have F104 : own_IA Z h102 a n f := (own_IA_ext H E102)
  refine own_by (fun _ kont => own_lenIA X102 hx hZ e102 F104 (z := (Int32.ofNat n)) rfl rfl rfl (hb hby d6_23) kont) ?_
  show own_Go p e below _ (T102.setTop (mkF m 24 #[.val (.ref a), .val (.int (16 : Int32)), .val (.ref a102)] [(.int (Int32.ofNat n)), (.int (0 : Int32)), (.ref a102), (.int (0 : Int32)), (.ref a)]))
  refine own_by (fun _ kont => XS.iloadN X102.here hx rfl (hb hby d6_24) rfl kont) ?_
  show own_Go p e below _ (T102.setTop (mkF m 25 #[.val (.ref a), .val (.int (16 : Int32)), .val (.ref a102)] [(.int (16 : Int32)), (.int (Int32.ofNat n)), (.int (0 : Int32)), (.ref a102), (.int (0 : Int32)), (.ref a)]))
  obtain ⟨_, _, ⟨T105, L105, k105, n105⟩, -, X105, ⟨Lc105, hQ105, l105, y105, z105⟩, st105⟩ := Jvm.LawKit.callS X102 hx (y := (⟨"java/lang/Math", "min", "(II)I"⟩ : MethodName)) hown (mvT hZ (hw _ (List.mem_of_getElem? (i := 49) rfl))) (mvT hZ (hw _ (List.mem_of_getElem? (i := 50) rfl))) (mvT hZ (hw _ (List.mem_of_getElem? (i := 44) rfl))) (mvT hZ (hw _ (List.mem_of_getElem? (i := 51) rfl))) (by decide) (backOf (W := 4) (rm7 l Z a0 hw [] (Int32.ofNat n) (16 : Int32) h102 n0) hZ (hw _ (List.mem_of_getElem? (i := 51) rfl)) (hw _ (List.mem_of_getElem? (i := 44) rfl)) (by decide) (by decide)) (g := (mkF m 25 #[.val (.ref a), .val (.int (16 : Int32)), .val (.ref a102)] [(.int (16 : Int32)), (.int (Int32.ofNat n)), (.int (0 : Int32)), (.ref a102), (.int (0 : Int32)), (.ref a)])) rfl (by rw [hml]; rfl) (argsL := [(.int (Int32.ofNat n)), (.int (16 : Int32))]) (rest := [(.int (0 : Int32)), (.ref a102), (.int (0 : Int32)), (.ref a)]) (lenOf own_pd6 rfl) rfl (by show 2 * 0 + _ ≤ _; exact Nat.le_of_eq rfl) (hb hby d6_25) (fun _ _ => ⟨rfl, e102, (by decide : 1 + 0 ≤ _), (by decide : 16 + 0 ≤ _)⟩)
  dsimp only [Pt.U, Pt.locs, Pt.cells, Pt.slots] at X105 l105 y105 z105 st105 hQ105
  subst l105 y105 z105
  refine own_by st105 ?_
  obtain ⟨rfl, N105, e105⟩ := hQ105
  obtain ⟨L105, X105, M105⟩ := own_hide X105 (Fr.app N0 N105)
  rw [own_min n hn]
  show own_Go p e below _ (T105.setTop (mkF m 28 #[.val (.ref a), .val (.int (16 : Int32)), .val (.ref a102)] [(.int (Int32.ofNat n)), (.int (0 : Int32)), (.ref a102), (.int (0 : Int32)), (.ref a)]))
  obtain ⟨T106, h106, L106, X106, e106, M106, K106, H106, st106⟩ := own_cpIA X105 hx hZ hown (hw _ (List.mem_of_getElem? (i := 52) rfl)) (hw _ (List.mem_of_getElem? (i := 55) rfl)) (hw _ (List.mem_of_getElem? (i := 53) rfl)) (hw _ (List.mem_of_getElem? (i := 54) rfl)) e105 F104 H102 (by omega) (by omega) M105 ge102 (g := (mkF m 28 #[.val (.ref a), .val (.int (16 : Int32)), .val (.ref a102)] [(.int (Int32.ofNat n)), (.int (0 : Int32)), (.ref a102), (.int (0 : Int32)), (.ref a)])) rfl (by rw [hml]; rfl) (rest := []) rfl (hb hby d6_28) (by decide) (W := 0) (by show 2 * 0 + _ ≤ _; exact Nat.le_of_eq rfl) (by decide)
  have Z106 : n0 ≤ h106.size := Nat.le_trans Z102 K106.1
  refine own_by st106 ?_
  show own_Go p e below _ (T106.setTop (mkF m 31 #[.val (.ref a), .val (.int (16 : Int32)), .val (.ref a102)] []))
  refine own_by (fun _ kont => XS.aloadN X106.here hx rfl (hb hby d6_31) rfl rfl kont) ?_
  show own_Go p e below _ (T106.setTop (mkF m 32 #[.val (.ref a), .val (.int (16 : Int32)), .val (.ref a102)] [(.ref a102)]))
  refine own_ret X106 hx hlk hret rfl (Or.inr (Or.inr (Or.inr (Or.inr ⟨rfl, rfl, rfl⟩)))) (hb hby d6_32) ⟨a102, rfl, M106, ?_⟩ (by decide) (by decide)
  rw [e106]
  exact ⟨((Keep.refl _ _).ext E102).trans K106 (fun y hy => by cases List.mem_singleton.mp hy; exact Or.inr (Nat.le_of_eq g102.symm)), Nat.le_of_eq g102.symm, ge102, H106⟩
def own_Q_rmI (Z : State) (g : Addr) (sl : Int32) (cap : Nat) (n0 : Nat) : Option Value → Heap → List Loc → Prop := (fun v h L => v = none ∧ Fr n0 L ∧ own_G Z h n0 g ((2 : Int32) * sl) 7 0 cap (fun _ => 0) (fun _ => 0) (fun _ => 0) (fun _ => -1) (fun _ => -1))
theorem own_ef_rmI (m : MethodId) (g : Addr) (sl : Int32) (ld : Int32) (lm : Int32) (cp : Int32) : entryFrame m #[(.ref g), (.int sl), (.int ld), (.int lm), (.int cp)] 5 = (mkF m 0 #[.val (.ref g), .val (.int sl), .val (.int ld), .val (.int lm), .val (.int cp)] []) := by first | (simp [entryFrame, mkF, argsToLocals, Value.category, maxLocals]; done) | rfl
set_option maxRecDepth 65536 in
set_option maxHeartbeats 40000000 in
theorem rmI (l : Launch) (Z : State) (a0 : Array Value) (hw : ∀ d ∈ tables_1, d.before a0 Z = true) (ws : List Jvm.Cond) (g : Addr) (sl ld cp : Int32) (cap : Nat) (h0 : Heap) (n0 : Nat) (E : Exa Z h0 g "com/example/lambdalane/lambdalane/NodeGraph") (DnextFresh : Fld Z h0 g "com/example/lambdalane/lambdalane/NodeGraph" "nextFresh" "I" (.int (0 : Int32))) (Dside : Fld Z h0 g "com/example/lambdalane/lambdalane/NodeGraph" "side" "I" (.int (0 : Int32))) (Dload : Fld Z h0 g "com/example/lambdalane/lambdalane/NodeGraph" "load" "I" (.int (0 : Int32))) (DcolourLimit : Fld Z h0 g "com/example/lambdalane/lambdalane/NodeGraph" "colourLimit" "I" (.int (0 : Int32))) (Dleft : Fld Z h0 g "com/example/lambdalane/lambdalane/NodeGraph" "left" "[I" .null) (Dright : Fld Z h0 g "com/example/lambdalane/lambdalane/NodeGraph" "right" "[I" .null) (Dcolour : Fld Z h0 g "com/example/lambdalane/lambdalane/NodeGraph" "colour" "[I" .null) (DinEdgeOf : Fld Z h0 g "com/example/lambdalane/lambdalane/NodeGraph" "inEdgeOf" "[I" .null) (DoutEdgeOf : Fld Z h0 g "com/example/lambdalane/lambdalane/NodeGraph" "outEdgeOf" "[I" .null) (DcolourMark : Fld Z h0 g "com/example/lambdalane/lambdalane/NodeGraph" "colourMark" "[I" .null) (Dsize : Fld Z h0 g "com/example/lambdalane/lambdalane/NodeGraph" "size" "I" (.int (0 : Int32))) (gg : n0 ≤ g) (Z0 : n0 ≤ h0.size) (hcp : cp.toInt = cap) (hc3 : cap ≤ 3) :
    MetFree l (⟨"com/example/lambdalane/lambdalane/NodeGraph", "<init>", "(IIII)V"⟩ : MethodName) (head1 (Jvm.Cond.code (⟨"com/example/lambdalane/lambdalane/NodeGraph", "<init>", "(IIII)V"⟩ : MethodName) prog_42_method_1_code 5 none :: ws) ({ frames := 1, cells := 6, slots := 33, locals := 24 } : Room)) (fun aR UR => aR = #[(.ref g), (.int sl), (.int ld), (.int (7 : Int32)), (.int cp)] ∧ Z.Warmed39 UR.vm ∧ UR.heap = h0) (fun _ _ _ _ _ => True) (fun _ UR oR UR' => ∃ vR LR, oR = .returned vR ∧ own_Q_rmI Z g sl cap n0 vR UR'.heap LR ∧ FrameEnd UR oR UR' LR ({ frames := 1, cells := 6, slots := 33, locals := 24 } : Room).cells ({ frames := 1, cells := 6, slots := 33, locals := 24 } : Room).slots) := by
  refine MetFree.of_bodySF (plainFor_of_name own_pn0) hisR ?_
  intro p e s m args below meth c s₁ Bd hml0 hP hK
  obtain ⟨rfl, hZ, hh⟩ := hP
  have hx := Bd.exec
  have hby := Bd.bytes
  have hlk := Bd.notSynchronized
  have hret := Bd.returns
  have hml : c.maxLocals = 5 := hml0
  have hown : s.vm.findClass "com/example/lambdalane/lambdalane/NodeGraph" = some m.cls := findClass_of_methodNamed Bd.named
  have hnm := (name_of_methodNamed Bd.named Bd.method).1
  have X0 : Stand p l e ({ frames := 1, cells := 6, slots := 33, locals := 24 } : Room) s m #[(.ref g), (.int sl), (.int ld), (.int (7 : Int32)), (.int cp)] below meth c s₁ [] 0 0 := Stand.of_body Bd
  have e0 : s₁.heap = h0 := by rw [← hh, Bd.state]; rfl
  have N0 := Fr.nil n0
  show own_Go p e below (own_K s (own_Q_rmI Z g sl cap n0) ({ frames := 1, cells := 6, slots := 33, locals := 24 } : Room).cells ({ frames := 1, cells := 6, slots := 33, locals := 24 } : Room).slots) _
  refine own_by (fun tt kont => castTop (own_ef_rmI m g sl ld (7 : Int32) cp) kont) ?_
  show own_Go p e below _ (s₁.setTop (mkF m 0 #[.val (.ref g), .val (.int sl), .val (.int ld), .val (.int (7 : Int32)), .val (.int cp)] []))
  refine own_by (fun _ kont => XS.aloadN X0.here hx rfl (hb hby d1_0) rfl rfl kont) ?_
  show own_Go p e below _ (s₁.setTop (mkF m 1 #[.val (.ref g), .val (.int sl), .val (.int ld), .val (.int (7 : Int32)), .val (.int cp)] [(.ref g)]))
  obtain ⟨T107, X107, e107, st107⟩ := initO X0 hx hZ hown (hw _ (List.mem_of_getElem? (i := 7) rfl)) (hw _ (List.mem_of_getElem? (i := 8) rfl)) (hw _ (List.mem_of_getElem? (i := 9) rfl)) e0 (g := (mkF m 1 #[.val (.ref g), .val (.int sl), .val (.int ld), .val (.int (7 : Int32)), .val (.int cp)] [(.ref g)])) rfl (by rw [hml]; rfl) rfl (hb hby d1_1) (by decide) (W := 0) (by show 2 * 0 + _ ≤ _; exact Nat.le_of_eq rfl) (by decide)
  refine own_by st107 ?_
  show own_Go p e below _ (T107.setTop (mkF m 4 #[.val (.ref g), .val (.int sl), .val (.int ld), .val (.int (7 : Int32)), .val (.int cp)] []))
  refine own_by (fun _ kont => XS.aloadN X107.here hx rfl (hb hby d1_4) rfl rfl kont) ?_
  show own_Go p e below _ (T107.setTop (mkF m 5 #[.val (.ref g), .val (.int sl), .val (.int ld), .val (.int (7 : Int32)), .val (.int cp)] [(.ref g)]))
  refine own_by (fun _ kont => XT.iconstV X107.here hx rfl (1 : Int32) (hb hby d1_5) rfl kont) ?_
  show own_Go p e below _ (T107.setTop (mkF m 6 #[.val (.ref g), .val (.int sl), .val (.int ld), .val (.int (7 : Int32)), .val (.int cp)] [(.int (1 : Int32)), (.ref g)]))
  obtain ⟨T108, h108, X108, e108, W108, st108⟩ := putF X107 hx hZ hown (host := "") (Or.inl (hw _ (List.mem_of_getElem? (i := 10) rfl))) Via.refl e107 DnextFresh E (Or.inl (hw _ (List.mem_of_getElem? (i := 11) rfl))) (hw _ (List.mem_of_getElem? (i := 2) rfl)) (ty := .int) (by decide) rfl rfl (g := (mkF m 6 #[.val (.ref g), .val (.int sl), .val (.int ld), .val (.int (7 : Int32)), .val (.int cp)] [(.int (1 : Int32)), (.ref g)])) rfl rfl (hb hby d1_6)
  obtain ⟨L108, X108, M108⟩ := own_hide X108 (Fr.snoc X108 N0 gg)
  have Z108 : n0 ≤ h108.size := (by rw [Wr.size W108]; exact Z0)
  have F108 : Fld Z h108 g "com/example/lambdalane/lambdalane/NodeGraph" "nextFresh" "I" (.int (1 : Int32)) := (DnextFresh.same W108)
  refine own_by st108 ?_
  show own_Go p e below _ (T108.setTop (mkF m 9 #[.val (.ref g), .val (.int sl), .val (.int ld), .val (.int (7 : Int32)), .val (.int cp)] []))
  refine own_by (fun _ kont => XS.aloadN X108.here hx rfl (hb hby d1_9) rfl rfl kont) ?_
  show own_Go p e below _ (T108.setTop (mkF m 10 #[.val (.ref g), .val (.int sl), .val (.int ld), .val (.int (7 : Int32)), .val (.int cp)] [(.ref g)]))
  refine own_by (fun _ kont => XT.iconstV X108.here hx rfl (2 : Int32) (hb hby d1_10) rfl kont) ?_
  show own_Go p e below _ (T108.setTop (mkF m 11 #[.val (.ref g), .val (.int sl), .val (.int ld), .val (.int (7 : Int32)), .val (.int cp)] [(.int (2 : Int32)), (.ref g)]))
  refine own_by (fun _ kont => XS.iloadN X108.here hx rfl (hb hby d1_11) rfl kont) ?_
  show own_Go p e below _ (T108.setTop (mkF m 12 #[.val (.ref g), .val (.int sl), .val (.int ld), .val (.int (7 : Int32)), .val (.int cp)] [(.int sl), (.int (2 : Int32)), (.ref g)]))
  refine own_by (fun _ kont => XS.imul X108.here hx rfl (hb hby d1_12) rfl kont) ?_
  show own_Go p e below _ (T108.setTop (mkF m 13 #[.val (.ref g), .val (.int sl), .val (.int ld), .val (.int (7 : Int32)), .val (.int cp)] [(.int ((2 : Int32) * sl)), (.ref g)]))
  have F109 : Fld Z h108 g "com/example/lambdalane/lambdalane/NodeGraph" "side" "I" (.int (0 : Int32)) := (Dside.other W108 (Or.inr (slot_ne (t := .int) (t' := .int) (Or.inr (hw _ (List.mem_of_getElem? (i := 13) rfl))) (Or.inl (hw _ (List.mem_of_getElem? (i := 11) rfl))) (by decide) (by decide) (by decide))))
  have F110 : Exa Z h108 g "com/example/lambdalane/lambdalane/NodeGraph" := (E.wr W108)
  obtain ⟨T111, h111, X111, e111, W111, st111⟩ := putF X108 hx hZ hown (host := "") (Or.inl (hw _ (List.mem_of_getElem? (i := 12) rfl))) Via.refl e108 F109 F110 (Or.inr ⟨(hw _ (List.mem_of_getElem? (i := 13) rfl)), rfl, hnm⟩) (hw _ (List.mem_of_getElem? (i := 2) rfl)) (ty := .int) (by decide) rfl rfl (g := (mkF m 13 #[.val (.ref g), .val (.int sl), .val (.int ld), .val (.int (7 : Int32)), .val (.int cp)] [(.int ((2 : Int32) * sl)), (.ref g)])) rfl rfl (hb hby d1_13)
  obtain ⟨L111, X111, M111⟩ := own_hide X111 (Fr.snoc X111 M108 gg)
  have Z111 : n0 ≤ h111.size := (by rw [Wr.size W111]; exact Z108)
  have F111 : Fld Z h111 g "com/example/lambdalane/lambdalane/NodeGraph" "side" "I" (.int ((2 : Int32) * sl)) := (F109.same W111)
  refine own_by st111 ?_
  show own_Go p e below _ (T111.setTop (mkF m 16 #[.val (.ref g), .val (.int sl), .val (.int ld), .val (.int (7 : Int32)), .val (.int cp)] []))
  refine own_by (fun _ kont => XS.aloadN X111.here hx rfl (hb hby d1_16) rfl rfl kont) ?_
  show own_Go p e below _ (T111.setTop (mkF m 17 #[.val (.ref g), .val (.int sl), .val (.int ld), .val (.int (7 : Int32)), .val (.int cp)] [(.ref g)]))
  refine own_by (fun _ kont => XS.iloadN X111.here hx rfl (hb hby d1_17) rfl kont) ?_
  show own_Go p e below _ (T111.setTop (mkF m 18 #[.val (.ref g), .val (.int sl), .val (.int ld), .val (.int (7 : Int32)), .val (.int cp)] [(.int ld), (.ref g)]))
  have F112 : Fld Z h111 g "com/example/lambdalane/lambdalane/NodeGraph" "load" "I" (.int (0 : Int32)) := ((Dload.other W108 (Or.inr (slot_ne (t := .int) (t' := .int) (Or.inr (hw _ (List.mem_of_getElem? (i := 15) rfl))) (Or.inl (hw _ (List.mem_of_getElem? (i := 11) rfl))) (by decide) (by decide) (by decide)))).other W111 (Or.inr (slot_ne (t := .int) (t' := .int) (Or.inr (hw _ (List.mem_of_getElem? (i := 15) rfl))) (Or.inr (hw _ (List.mem_of_getElem? (i := 13) rfl))) (by decide) (by decide) (by decide))))
  have F113 : Exa Z h111 g "com/example/lambdalane/lambdalane/NodeGraph" := (F110.wr W111)
  obtain ⟨T114, h114, X114, e114, W114, st114⟩ := putF X111 hx hZ hown (host := "") (Or.inl (hw _ (List.mem_of_getElem? (i := 14) rfl))) Via.refl e111 F112 F113 (Or.inr ⟨(hw _ (List.mem_of_getElem? (i := 15) rfl)), rfl, hnm⟩) (hw _ (List.mem_of_getElem? (i := 2) rfl)) (ty := .int) (by decide) rfl rfl (g := (mkF m 18 #[.val (.ref g), .val (.int sl), .val (.int ld), .val (.int (7 : Int32)), .val (.int cp)] [(.int ld), (.ref g)])) rfl rfl (hb hby d1_18)
  obtain ⟨L114, X114, M114⟩ := own_hide X114 (Fr.snoc X114 M111 gg)
  have Z114 : n0 ≤ h114.size := (by rw [Wr.size W114]; exact Z111)
  have F114 : Fld Z h114 g "com/example/lambdalane/lambdalane/NodeGraph" "load" "I" (.int ld) := (F112.same W114)
  refine own_by st114 ?_
  show own_Go p e below _ (T114.setTop (mkF m 21 #[.val (.ref g), .val (.int sl), .val (.int ld), .val (.int (7 : Int32)), .val (.int cp)] []))
  refine own_by (fun _ kont => XS.aloadN X114.here hx rfl (hb hby d1_21) rfl rfl kont) ?_
  show own_Go p e below _ (T114.setTop (mkF m 22 #[.val (.ref g), .val (.int sl), .val (.int ld), .val (.int (7 : Int32)), .val (.int cp)] [(.ref g)]))
  refine own_by (fun _ kont => XS.iloadN X114.here hx rfl (hb hby d1_22) rfl kont) ?_
  show own_Go p e below _ (T114.setTop (mkF m 23 #[.val (.ref g), .val (.int sl), .val (.int ld), .val (.int (7 : Int32)), .val (.int cp)] [(.int (7 : Int32)), (.ref g)]))
  have F115 : Fld Z h114 g "com/example/lambdalane/lambdalane/NodeGraph" "colourLimit" "I" (.int (0 : Int32)) := (((DcolourLimit.other W108 (Or.inr (slot_ne (t := .int) (t' := .int) (Or.inr (hw _ (List.mem_of_getElem? (i := 17) rfl))) (Or.inl (hw _ (List.mem_of_getElem? (i := 11) rfl))) (by decide) (by decide) (by decide)))).other W111 (Or.inr (slot_ne (t := .int) (t' := .int) (Or.inr (hw _ (List.mem_of_getElem? (i := 17) rfl))) (Or.inr (hw _ (List.mem_of_getElem? (i := 13) rfl))) (by decide) (by decide) (by decide)))).other W114 (Or.inr (slot_ne (t := .int) (t' := .int) (Or.inr (hw _ (List.mem_of_getElem? (i := 17) rfl))) (Or.inr (hw _ (List.mem_of_getElem? (i := 15) rfl))) (by decide) (by decide) (by decide))))
  have F116 : Exa Z h114 g "com/example/lambdalane/lambdalane/NodeGraph" := (F113.wr W114)
  obtain ⟨T117, h117, X117, e117, W117, st117⟩ := putF X114 hx hZ hown (host := "") (Or.inl (hw _ (List.mem_of_getElem? (i := 16) rfl))) Via.refl e114 F115 F116 (Or.inr ⟨(hw _ (List.mem_of_getElem? (i := 17) rfl)), rfl, hnm⟩) (hw _ (List.mem_of_getElem? (i := 2) rfl)) (ty := .int) (by decide) rfl rfl (g := (mkF m 23 #[.val (.ref g), .val (.int sl), .val (.int ld), .val (.int (7 : Int32)), .val (.int cp)] [(.int (7 : Int32)), (.ref g)])) rfl rfl (hb hby d1_23)
  obtain ⟨L117, X117, M117⟩ := own_hide X117 (Fr.snoc X117 M114 gg)
  have Z117 : n0 ≤ h117.size := (by rw [Wr.size W117]; exact Z114)
  have F117 : Fld Z h117 g "com/example/lambdalane/lambdalane/NodeGraph" "colourLimit" "I" (.int (7 : Int32)) := (F115.same W117)
  refine own_by st117 ?_
  show own_Go p e below _ (T117.setTop (mkF m 26 #[.val (.ref g), .val (.int sl), .val (.int ld), .val (.int (7 : Int32)), .val (.int cp)] []))
  refine own_by (fun _ kont => XS.aloadN X117.here hx rfl (hb hby d1_26) rfl rfl kont) ?_
  show own_Go p e below _ (T117.setTop (mkF m 27 #[.val (.ref g), .val (.int sl), .val (.int ld), .val (.int (7 : Int32)), .val (.int cp)] [(.ref g)]))
  refine own_by (fun _ kont => XS.iload X117.here hx rfl (hb hby d1_27) rfl kont) ?_
  show own_Go p e below _ (T117.setTop (mkF m 29 #[.val (.ref g), .val (.int sl), .val (.int ld), .val (.int (7 : Int32)), .val (.int cp)] [(.int cp), (.ref g)]))
  obtain ⟨T118, h118, a118, X118, e118, g118, E118, H118, st118⟩ := own_newIA X117 hx hZ (hw _ (List.mem_of_getElem? (i := 18) rfl)) e117 (g := (mkF m 29 #[.val (.ref g), .val (.int sl), .val (.int ld), .val (.int (7 : Int32)), .val (.int cp)] [(.int cp), (.ref g)])) rfl (hb hby d1_29) rfl cap hcp (cap := 3) hc3 (by decide) (by decide) (by decide)
  have F119 : Exa Z h117 g "com/example/lambdalane/lambdalane/NodeGraph" := (F116.wr W117)
  have ne120 : g ≠ a118 := by rw [g118]; exact Nat.ne_of_lt F119.lt
  have ge118 : n0 ≤ a118 := by rw [g118]; exact Z117
  have Z118 : n0 ≤ h118.size := Nat.le_trans Z117 E118.1
  refine own_by st118 ?_
  show own_Go p e below _ (T118.setTop (mkF m 31 #[.val (.ref g), .val (.int sl), .val (.int ld), .val (.int (7 : Int32)), .val (.int cp)] [(.ref a118), (.ref g)]))
  have F121 : Fld Z h118 g "com/example/lambdalane/lambdalane/NodeGraph" "left" "[I" .null := (((((Dleft.other W108 (Or.inr (slot_ne (t := (.array .int)) (t' := .int) (Or.inl (hw _ (List.mem_of_getElem? (i := 20) rfl))) (Or.inl (hw _ (List.mem_of_getElem? (i := 11) rfl))) (by decide) (by decide) (by decide)))).other W111 (Or.inr (slot_ne (t := (.array .int)) (t' := .int) (Or.inl (hw _ (List.mem_of_getElem? (i := 20) rfl))) (Or.inr (hw _ (List.mem_of_getElem? (i := 13) rfl))) (by decide) (by decide) (by decide)))).other W114 (Or.inr (slot_ne (t := (.array .int)) (t' := .int) (Or.inl (hw _ (List.mem_of_getElem? (i := 20) rfl))) (Or.inr (hw _ (List.mem_of_getElem? (i := 15) rfl))) (by decide) (by decide) (by decide)))).other W117 (Or.inr (slot_ne (t := (.array .int)) (t' := .int) (Or.inl (hw _ (List.mem_of_getElem? (i := 20) rfl))) (Or.inr (hw _ (List.mem_of_getElem? (i := 17) rfl))) (by decide) (by decide) (by decide)))).ext E118)
  have F122 : Exa Z h118 g "com/example/lambdalane/lambdalane/NodeGraph" := (F119.ext E118)
  obtain ⟨T123, h123, X123, e123, W123, st123⟩ := putF X118 hx hZ hown (host := "") (Or.inl (hw _ (List.mem_of_getElem? (i := 19) rfl))) Via.refl e118 F121 F122 (Or.inl (hw _ (List.mem_of_getElem? (i := 20) rfl))) (hw _ (List.mem_of_getElem? (i := 2) rfl)) (ty := (.array .int)) (by decide) rfl rfl (g := (mkF m 31 #[.val (.ref g), .val (.int sl), .val (.int ld), .val (.int (7 : Int32)), .val (.int cp)] [(.ref a118), (.ref g)])) rfl rfl (hb hby d1_31)
  obtain ⟨L123, X123, M123⟩ := own_hide X123 (Fr.snoc X123 M117 gg)
  have Z123 : n0 ≤ h123.size := (by rw [Wr.size W123]; exact Z118)
  have F123 : Fld Z h123 g "com/example/lambdalane/lambdalane/NodeGraph" "left" "[I" (.ref a118) := (F121.same W123)
  refine own_by st123 ?_
  show own_Go p e below _ (T123.setTop (mkF m 34 #[.val (.ref g), .val (.int sl), .val (.int ld), .val (.int (7 : Int32)), .val (.int cp)] []))
  refine own_by (fun _ kont => XS.aloadN X123.here hx rfl (hb hby d1_34) rfl rfl kont) ?_
  show own_Go p e below _ (T123.setTop (mkF m 35 #[.val (.ref g), .val (.int sl), .val (.int ld), .val (.int (7 : Int32)), .val (.int cp)] [(.ref g)]))
  refine own_by (fun _ kont => XS.iload X123.here hx rfl (hb hby d1_35) rfl kont) ?_
  show own_Go p e below _ (T123.setTop (mkF m 37 #[.val (.ref g), .val (.int sl), .val (.int ld), .val (.int (7 : Int32)), .val (.int cp)] [(.int cp), (.ref g)]))
  obtain ⟨T124, h124, a124, X124, e124, g124, E124, H124, st124⟩ := own_newIA X123 hx hZ (hw _ (List.mem_of_getElem? (i := 18) rfl)) e123 (g := (mkF m 37 #[.val (.ref g), .val (.int sl), .val (.int ld), .val (.int (7 : Int32)), .val (.int cp)] [(.int cp), (.ref g)])) rfl (hb hby d1_37) rfl cap hcp (cap := 3) hc3 (by decide) (by decide) (by decide)
  have F125 : Exa Z h123 g "com/example/lambdalane/lambdalane/NodeGraph" := (F122.wr W123)
  have ne126 : g ≠ a124 := by rw [g124]; exact Nat.ne_of_lt F125.lt
  have F127 : own_IA Z h123 a118 cap (fun _ => 0) := (own_IA_other H118 W123 (Ne.symm ne120))
  have ne128 : a118 ≠ a124 := by rw [g124]; exact Nat.ne_of_lt (own_IA_lt F127)
  have ge124 : n0 ≤ a124 := by rw [g124]; exact Z123
  have Z124 : n0 ≤ h124.size := Nat.le_trans Z123 E124.1
  refine own_by st124 ?_
  show own_Go p e below _ (T124.setTop (mkF m 39 #[.val (.ref g), .val (.int sl), .val (.int ld), .val (.int (7 : Int32)), .val (.int cp)] [(.ref a124), (.ref g)]))
  have F129 : Fld Z h124 g "com/example/lambdalane/lambdalane/NodeGraph" "right" "[I" .null := (((((((Dright.other W108 (Or.inr (slot_ne (t := (.array .int)) (t' := .int) (Or.inl (hw _ (List.mem_of_getElem? (i := 22) rfl))) (Or.inl (hw _ (List.mem_of_getElem? (i := 11) rfl))) (by decide) (by decide) (by decide)))).other W111 (Or.inr (slot_ne (t := (.array .int)) (t' := .int) (Or.inl (hw _ (List.mem_of_getElem? (i := 22) rfl))) (Or.inr (hw _ (List.mem_of_getElem? (i := 13) rfl))) (by decide) (by decide) (by decide)))).other W114 (Or.inr (slot_ne (t := (.array .int)) (t' := .int) (Or.inl (hw _ (List.mem_of_getElem? (i := 22) rfl))) (Or.inr (hw _ (List.mem_of_getElem? (i := 15) rfl))) (by decide) (by decide) (by decide)))).other W117 (Or.inr (slot_ne (t := (.array .int)) (t' := .int) (Or.inl (hw _ (List.mem_of_getElem? (i := 22) rfl))) (Or.inr (hw _ (List.mem_of_getElem? (i := 17) rfl))) (by decide) (by decide) (by decide)))).ext E118).other W123 (Or.inr (slot_ne (t := (.array .int)) (t' := (.array .int)) (Or.inl (hw _ (List.mem_of_getElem? (i := 22) rfl))) (Or.inl (hw _ (List.mem_of_getElem? (i := 20) rfl))) (by decide) (by decide) (by decide)))).ext E124)
  have F130 : Exa Z h124 g "com/example/lambdalane/lambdalane/NodeGraph" := (F125.ext E124)
  obtain ⟨T131, h131, X131, e131, W131, st131⟩ := putF X124 hx hZ hown (host := "") (Or.inl (hw _ (List.mem_of_getElem? (i := 21) rfl))) Via.refl e124 F129 F130 (Or.inl (hw _ (List.mem_of_getElem? (i := 22) rfl))) (hw _ (List.mem_of_getElem? (i := 2) rfl)) (ty := (.array .int)) (by decide) rfl rfl (g := (mkF m 39 #[.val (.ref g), .val (.int sl), .val (.int ld), .val (.int (7 : Int32)), .val (.int cp)] [(.ref a124), (.ref g)])) rfl rfl (hb hby d1_39)
  obtain ⟨L131, X131, M131⟩ := own_hide X131 (Fr.snoc X131 M123 gg)
  have Z131 : n0 ≤ h131.size := (by rw [Wr.size W131]; exact Z124)
  have F131 : Fld Z h131 g "com/example/lambdalane/lambdalane/NodeGraph" "right" "[I" (.ref a124) := (F129.same W131)
  refine own_by st131 ?_
  show own_Go p e below _ (T131.setTop (mkF m 42 #[.val (.ref g), .val (.int sl), .val (.int ld), .val (.int (7 : Int32)), .val (.int cp)] []))
  refine own_by (fun _ kont => XS.aloadN X131.here hx rfl (hb hby d1_42) rfl rfl kont) ?_
  show own_Go p e below _ (T131.setTop (mkF m 43 #[.val (.ref g), .val (.int sl), .val (.int ld), .val (.int (7 : Int32)), .val (.int cp)] [(.ref g)]))
  refine own_by (fun _ kont => XS.iload X131.here hx rfl (hb hby d1_43) rfl kont) ?_
  show own_Go p e below _ (T131.setTop (mkF m 45 #[.val (.ref g), .val (.int sl), .val (.int ld), .val (.int (7 : Int32)), .val (.int cp)] [(.int cp), (.ref g)]))
  obtain ⟨T132, h132, a132, X132, e132, g132, E132, H132, st132⟩ := own_newIA X131 hx hZ (hw _ (List.mem_of_getElem? (i := 18) rfl)) e131 (g := (mkF m 45 #[.val (.ref g), .val (.int sl), .val (.int ld), .val (.int (7 : Int32)), .val (.int cp)] [(.int cp), (.ref g)])) rfl (hb hby d1_45) rfl cap hcp (cap := 3) hc3 (by decide) (by decide) (by decide)
  have F133 : Exa Z h131 g "com/example/lambdalane/lambdalane/NodeGraph" := (F130.wr W131)
  have ne134 : g ≠ a132 := by rw [g132]; exact Nat.ne_of_lt F133.lt
  have F135 : own_IA Z h131 a118 cap (fun _ => 0) := (own_IA_other (own_IA_ext F127 E124) W131 (Ne.symm ne120))
  have ne136 : a118 ≠ a132 := by rw [g132]; exact Nat.ne_of_lt (own_IA_lt F135)
  have F137 : own_IA Z h131 a124 cap (fun _ => 0) := (own_IA_other H124 W131 (Ne.symm ne126))
  have ne138 : a124 ≠ a132 := by rw [g132]; exact Nat.ne_of_lt (own_IA_lt F137)
  have ge132 : n0 ≤ a132 := by rw [g132]; exact Z131
  have Z132 : n0 ≤ h132.size := Nat.le_trans Z131 E132.1
  refine own_by st132 ?_
  show own_Go p e below _ (T132.setTop (mkF m 47 #[.val (.ref g), .val (.int sl), .val (.int ld), .val (.int (7 : Int32)), .val (.int cp)] [(.ref a132), (.ref g)]))
  have F139 : Fld Z h132 g "com/example/lambdalane/lambdalane/NodeGraph" "colour" "[I" .null := (((((((((Dcolour.other W108 (Or.inr (slot_ne (t := (.array .int)) (t' := .int) (Or.inl (hw _ (List.mem_of_getElem? (i := 24) rfl))) (Or.inl (hw _ (List.mem_of_getElem? (i := 11) rfl))) (by decide) (by decide) (by decide)))).other W111 (Or.inr (slot_ne (t := (.array .int)) (t' := .int) (Or.inl (hw _ (List.mem_of_getElem? (i := 24) rfl))) (Or.inr (hw _ (List.mem_of_getElem? (i := 13) rfl))) (by decide) (by decide) (by decide)))).other W114 (Or.inr (slot_ne (t := (.array .int)) (t' := .int) (Or.inl (hw _ (List.mem_of_getElem? (i := 24) rfl))) (Or.inr (hw _ (List.mem_of_getElem? (i := 15) rfl))) (by decide) (by decide) (by decide)))).other W117 (Or.inr (slot_ne (t := (.array .int)) (t' := .int) (Or.inl (hw _ (List.mem_of_getElem? (i := 24) rfl))) (Or.inr (hw _ (List.mem_of_getElem? (i := 17) rfl))) (by decide) (by decide) (by decide)))).ext E118).other W123 (Or.inr (slot_ne (t := (.array .int)) (t' := (.array .int)) (Or.inl (hw _ (List.mem_of_getElem? (i := 24) rfl))) (Or.inl (hw _ (List.mem_of_getElem? (i := 20) rfl))) (by decide) (by decide) (by decide)))).ext E124).other W131 (Or.inr (slot_ne (t := (.array .int)) (t' := (.array .int)) (Or.inl (hw _ (List.mem_of_getElem? (i := 24) rfl))) (Or.inl (hw _ (List.mem_of_getElem? (i := 22) rfl))) (by decide) (by decide) (by decide)))).ext E132)
  have F140 : Exa Z h132 g "com/example/lambdalane/lambdalane/NodeGraph" := (F133.ext E132)
  obtain ⟨T141, h141, X141, e141, W141, st141⟩ := putF X132 hx hZ hown (host := "") (Or.inl (hw _ (List.mem_of_getElem? (i := 23) rfl))) Via.refl e132 F139 F140 (Or.inl (hw _ (List.mem_of_getElem? (i := 24) rfl))) (hw _ (List.mem_of_getElem? (i := 2) rfl)) (ty := (.array .int)) (by decide) rfl rfl (g := (mkF m 47 #[.val (.ref g), .val (.int sl), .val (.int ld), .val (.int (7 : Int32)), .val (.int cp)] [(.ref a132), (.ref g)])) rfl rfl (hb hby d1_47)
  obtain ⟨L141, X141, M141⟩ := own_hide X141 (Fr.snoc X141 M131 gg)
  have Z141 : n0 ≤ h141.size := (by rw [Wr.size W141]; exact Z132)
  have F141 : Fld Z h141 g "com/example/lambdalane/lambdalane/NodeGraph" "colour" "[I" (.ref a132) := (F139.same W141)
  refine own_by st141 ?_
  show own_Go p e below _ (T141.setTop (mkF m 50 #[.val (.ref g), .val (.int sl), .val (.int ld), .val (.int (7 : Int32)), .val (.int cp)] []))
  refine own_by (fun _ kont => XS.aloadN X141.here hx rfl (hb hby d1_50) rfl rfl kont) ?_
  show own_Go p e below _ (T141.setTop (mkF m 51 #[.val (.ref g), .val (.int sl), .val (.int ld), .val (.int (7 : Int32)), .val (.int cp)] [(.ref g)]))
  refine own_by (fun _ kont => XS.iloadN X141.here hx rfl (hb hby d1_51) rfl kont) ?_
  show own_Go p e below _ (T141.setTop (mkF m 52 #[.val (.ref g), .val (.int sl), .val (.int ld), .val (.int (7 : Int32)), .val (.int cp)] [(.int (7 : Int32)), (.ref g)]))
  refine own_by (fun _ kont => XT.iconstV X141.here hx rfl (1 : Int32) (hb hby d1_52) rfl kont) ?_
  show own_Go p e below _ (T141.setTop (mkF m 53 #[.val (.ref g), .val (.int sl), .val (.int ld), .val (.int (7 : Int32)), .val (.int cp)] [(.int (1 : Int32)), (.int (7 : Int32)), (.ref g)]))
  refine own_by (fun _ kont => XS.iadd X141.here hx rfl (hb hby d1_53) rfl kont) ?_
  show own_Go p e below _ (T141.setTop (mkF m 54 #[.val (.ref g), .val (.int sl), .val (.int ld), .val (.int (7 : Int32)), .val (.int cp)] [(.int ((7 : Int32) + (1 : Int32))), (.ref g)]))
  obtain ⟨T142, h142, a142, X142, e142, g142, E142, H142, st142⟩ := own_newIA X141 hx hZ (hw _ (List.mem_of_getElem? (i := 18) rfl)) e141 (g := (mkF m 54 #[.val (.ref g), .val (.int sl), .val (.int ld), .val (.int (7 : Int32)), .val (.int cp)] [(.int ((7 : Int32) + (1 : Int32))), (.ref g)])) rfl (hb hby d1_54) rfl 8 (by decide) (cap := 8) (by decide) (by decide) (by decide) (by decide)
  have F143 : Exa Z h141 g "com/example/lambdalane/lambdalane/NodeGraph" := (F140.wr W141)
  have ne144 : g ≠ a142 := by rw [g142]; exact Nat.ne_of_lt F143.lt
  have F145 : own_IA Z h141 a118 cap (fun _ => 0) := (own_IA_other (own_IA_ext F135 E132) W141 (Ne.symm ne120))
  have ne146 : a118 ≠ a142 := by rw [g142]; exact Nat.ne_of_lt (own_IA_lt F145)
  have F147 : own_IA Z h141 a124 cap (fun _ => 0) := (own_IA_other (own_IA_ext F137 E132) W141 (Ne.symm ne126))
  have ne148 : a124 ≠ a142 := by rw [g142]; exact Nat.ne_of_lt (own_IA_lt F147)
  have F149 : own_IA Z h141 a132 cap (fun _ => 0) := (own_IA_other H132 W141 (Ne.symm ne134))
  have ne150 : a132 ≠ a142 := by rw [g142]; exact Nat.ne_of_lt (own_IA_lt F149)
  have ge142 : n0 ≤ a142 := by rw [g142]; exact Z141
  have Z142 : n0 ≤ h142.size := Nat.le_trans Z141 E142.1
  refine own_by st142 ?_
  show own_Go p e below _ (T142.setTop (mkF m 56 #[.val (.ref g), .val (.int sl), .val (.int ld), .val (.int (7 : Int32)), .val (.int cp)] [(.ref a142), (.ref g)]))
  have F151 : Fld Z h142 g "com/example/lambdalane/lambdalane/NodeGraph" "inEdgeOf" "[I" .null := (((((((((((DinEdgeOf.other W108 (Or.inr (slot_ne (t := (.array .int)) (t' := .int) (Or.inr (hw _ (List.mem_of_getElem? (i := 26) rfl))) (Or.inl (hw _ (List.mem_of_getElem? (i := 11) rfl))) (by decide) (by decide) (by decide)))).other W111 (Or.inr (slot_ne (t := (.array .int)) (t' := .int) (Or.inr (hw _ (List.mem_of_getElem? (i := 26) rfl))) (Or.inr (hw _ (List.mem_of_getElem? (i := 13) rfl))) (by decide) (by decide) (by decide)))).other W114 (Or.inr (slot_ne (t := (.array .int)) (t' := .int) (Or.inr (hw _ (List.mem_of_getElem? (i := 26) rfl))) (Or.inr (hw _ (List.mem_of_getElem? (i := 15) rfl))) (by decide) (by decide) (by decide)))).other W117 (Or.inr (slot_ne (t := (.array .int)) (t' := .int) (Or.inr (hw _ (List.mem_of_getElem? (i := 26) rfl))) (Or.inr (hw _ (List.mem_of_getElem? (i := 17) rfl))) (by decide) (by decide) (by decide)))).ext E118).other W123 (Or.inr (slot_ne (t := (.array .int)) (t' := (.array .int)) (Or.inr (hw _ (List.mem_of_getElem? (i := 26) rfl))) (Or.inl (hw _ (List.mem_of_getElem? (i := 20) rfl))) (by decide) (by decide) (by decide)))).ext E124).other W131 (Or.inr (slot_ne (t := (.array .int)) (t' := (.array .int)) (Or.inr (hw _ (List.mem_of_getElem? (i := 26) rfl))) (Or.inl (hw _ (List.mem_of_getElem? (i := 22) rfl))) (by decide) (by decide) (by decide)))).ext E132).other W141 (Or.inr (slot_ne (t := (.array .int)) (t' := (.array .int)) (Or.inr (hw _ (List.mem_of_getElem? (i := 26) rfl))) (Or.inl (hw _ (List.mem_of_getElem? (i := 24) rfl))) (by decide) (by decide) (by decide)))).ext E142)
  have F152 : Exa Z h142 g "com/example/lambdalane/lambdalane/NodeGraph" := (F143.ext E142)
  obtain ⟨T153, h153, X153, e153, W153, st153⟩ := putF X142 hx hZ hown (host := "") (Or.inl (hw _ (List.mem_of_getElem? (i := 25) rfl))) Via.refl e142 F151 F152 (Or.inr ⟨(hw _ (List.mem_of_getElem? (i := 26) rfl)), rfl, hnm⟩) (hw _ (List.mem_of_getElem? (i := 2) rfl)) (ty := (.array .int)) (by decide) rfl rfl (g := (mkF m 56 #[.val (.ref g), .val (.int sl), .val (.int ld), .val (.int (7 : Int32)), .val (.int cp)] [(.ref a142), (.ref g)])) rfl rfl (hb hby d1_56)
  obtain ⟨L153, X153, M153⟩ := own_hide X153 (Fr.snoc X153 M141 gg)
  have Z153 : n0 ≤ h153.size := (by rw [Wr.size W153]; exact Z142)
  have F153 : Fld Z h153 g "com/example/lambdalane/lambdalane/NodeGraph" "inEdgeOf" "[I" (.ref a142) := (F151.same W153)
  refine own_by st153 ?_
  show own_Go p e below _ (T153.setTop (mkF m 59 #[.val (.ref g), .val (.int sl), .val (.int ld), .val (.int (7 : Int32)), .val (.int cp)] []))
  refine own_by (fun _ kont => XS.aloadN X153.here hx rfl (hb hby d1_59) rfl rfl kont) ?_
  show own_Go p e below _ (T153.setTop (mkF m 60 #[.val (.ref g), .val (.int sl), .val (.int ld), .val (.int (7 : Int32)), .val (.int cp)] [(.ref g)]))
  refine own_by (fun _ kont => XS.iloadN X153.here hx rfl (hb hby d1_60) rfl kont) ?_
  show own_Go p e below _ (T153.setTop (mkF m 61 #[.val (.ref g), .val (.int sl), .val (.int ld), .val (.int (7 : Int32)), .val (.int cp)] [(.int (7 : Int32)), (.ref g)]))
  refine own_by (fun _ kont => XT.iconstV X153.here hx rfl (1 : Int32) (hb hby d1_61) rfl kont) ?_
  show own_Go p e below _ (T153.setTop (mkF m 62 #[.val (.ref g), .val (.int sl), .val (.int ld), .val (.int (7 : Int32)), .val (.int cp)] [(.int (1 : Int32)), (.int (7 : Int32)), (.ref g)]))
  refine own_by (fun _ kont => XS.iadd X153.here hx rfl (hb hby d1_62) rfl kont) ?_
  show own_Go p e below _ (T153.setTop (mkF m 63 #[.val (.ref g), .val (.int sl), .val (.int ld), .val (.int (7 : Int32)), .val (.int cp)] [(.int ((7 : Int32) + (1 : Int32))), (.ref g)]))
  obtain ⟨T154, h154, a154, X154, e154, g154, E154, H154, st154⟩ := own_newIA X153 hx hZ (hw _ (List.mem_of_getElem? (i := 18) rfl)) e153 (g := (mkF m 63 #[.val (.ref g), .val (.int sl), .val (.int ld), .val (.int (7 : Int32)), .val (.int cp)] [(.int ((7 : Int32) + (1 : Int32))), (.ref g)])) rfl (hb hby d1_63) rfl 8 (by decide) (cap := 8) (by decide) (by decide) (by decide) (by decide)
  have F155 : Exa Z h153 g "com/example/lambdalane/lambdalane/NodeGraph" := (F152.wr W153)
  have ne156 : g ≠ a154 := by rw [g154]; exact Nat.ne_of_lt F155.lt
  have F157 : own_IA Z h153 a118 cap (fun _ => 0) := (own_IA_other (own_IA_ext F145 E142) W153 (Ne.symm ne120))
  have ne158 : a118 ≠ a154 := by rw [g154]; exact Nat.ne_of_lt (own_IA_lt F157)
  have F159 : own_IA Z h153 a124 cap (fun _ => 0) := (own_IA_other (own_IA_ext F147 E142) W153 (Ne.symm ne126))
  have ne160 : a124 ≠ a154 := by rw [g154]; exact Nat.ne_of_lt (own_IA_lt F159)
  have F161 : own_IA Z h153 a132 cap (fun _ => 0) := (own_IA_other (own_IA_ext F149 E142) W153 (Ne.symm ne134))
  have ne162 : a132 ≠ a154 := by rw [g154]; exact Nat.ne_of_lt (own_IA_lt F161)
  have F163 : own_IA Z h153 a142 8 (fun _ => 0) := (own_IA_other H142 W153 (Ne.symm ne144))
  have ne164 : a142 ≠ a154 := by rw [g154]; exact Nat.ne_of_lt (own_IA_lt F163)
  have ge154 : n0 ≤ a154 := by rw [g154]; exact Z153
  have Z154 : n0 ≤ h154.size := Nat.le_trans Z153 E154.1
  refine own_by st154 ?_
  show own_Go p e below _ (T154.setTop (mkF m 65 #[.val (.ref g), .val (.int sl), .val (.int ld), .val (.int (7 : Int32)), .val (.int cp)] [(.ref a154), (.ref g)]))
  have F165 : Fld Z h154 g "com/example/lambdalane/lambdalane/NodeGraph" "outEdgeOf" "[I" .null := (((((((((((((DoutEdgeOf.other W108 (Or.inr (slot_ne (t := (.array .int)) (t' := .int) (Or.inr (hw _ (List.mem_of_getElem? (i := 28) rfl))) (Or.inl (hw _ (List.mem_of_getElem? (i := 11) rfl))) (by decide) (by decide) (by decide)))).other W111 (Or.inr (slot_ne (t := (.array .int)) (t' := .int) (Or.inr (hw _ (List.mem_of_getElem? (i := 28) rfl))) (Or.inr (hw _ (List.mem_of_getElem? (i := 13) rfl))) (by decide) (by decide) (by decide)))).other W114 (Or.inr (slot_ne (t := (.array .int)) (t' := .int) (Or.inr (hw _ (List.mem_of_getElem? (i := 28) rfl))) (Or.inr (hw _ (List.mem_of_getElem? (i := 15) rfl))) (by decide) (by decide) (by decide)))).other W117 (Or.inr (slot_ne (t := (.array .int)) (t' := .int) (Or.inr (hw _ (List.mem_of_getElem? (i := 28) rfl))) (Or.inr (hw _ (List.mem_of_getElem? (i := 17) rfl))) (by decide) (by decide) (by decide)))).ext E118).other W123 (Or.inr (slot_ne (t := (.array .int)) (t' := (.array .int)) (Or.inr (hw _ (List.mem_of_getElem? (i := 28) rfl))) (Or.inl (hw _ (List.mem_of_getElem? (i := 20) rfl))) (by decide) (by decide) (by decide)))).ext E124).other W131 (Or.inr (slot_ne (t := (.array .int)) (t' := (.array .int)) (Or.inr (hw _ (List.mem_of_getElem? (i := 28) rfl))) (Or.inl (hw _ (List.mem_of_getElem? (i := 22) rfl))) (by decide) (by decide) (by decide)))).ext E132).other W141 (Or.inr (slot_ne (t := (.array .int)) (t' := (.array .int)) (Or.inr (hw _ (List.mem_of_getElem? (i := 28) rfl))) (Or.inl (hw _ (List.mem_of_getElem? (i := 24) rfl))) (by decide) (by decide) (by decide)))).ext E142).other W153 (Or.inr (slot_ne (t := (.array .int)) (t' := (.array .int)) (Or.inr (hw _ (List.mem_of_getElem? (i := 28) rfl))) (Or.inr (hw _ (List.mem_of_getElem? (i := 26) rfl))) (by decide) (by decide) (by decide)))).ext E154)
  have F166 : Exa Z h154 g "com/example/lambdalane/lambdalane/NodeGraph" := (F155.ext E154)
  obtain ⟨T167, h167, X167, e167, W167, st167⟩ := putF X154 hx hZ hown (host := "") (Or.inl (hw _ (List.mem_of_getElem? (i := 27) rfl))) Via.refl e154 F165 F166 (Or.inr ⟨(hw _ (List.mem_of_getElem? (i := 28) rfl)), rfl, hnm⟩) (hw _ (List.mem_of_getElem? (i := 2) rfl)) (ty := (.array .int)) (by decide) rfl rfl (g := (mkF m 65 #[.val (.ref g), .val (.int sl), .val (.int ld), .val (.int (7 : Int32)), .val (.int cp)] [(.ref a154), (.ref g)])) rfl rfl (hb hby d1_65)
  obtain ⟨L167, X167, M167⟩ := own_hide X167 (Fr.snoc X167 M153 gg)
  have Z167 : n0 ≤ h167.size := (by rw [Wr.size W167]; exact Z154)
  have F167 : Fld Z h167 g "com/example/lambdalane/lambdalane/NodeGraph" "outEdgeOf" "[I" (.ref a154) := (F165.same W167)
  refine own_by st167 ?_
  show own_Go p e below _ (T167.setTop (mkF m 68 #[.val (.ref g), .val (.int sl), .val (.int ld), .val (.int (7 : Int32)), .val (.int cp)] []))
  refine own_by (fun _ kont => XS.aloadN X167.here hx rfl (hb hby d1_68) rfl rfl kont) ?_
  show own_Go p e below _ (T167.setTop (mkF m 69 #[.val (.ref g), .val (.int sl), .val (.int ld), .val (.int (7 : Int32)), .val (.int cp)] [(.ref g)]))
  refine own_by (fun _ kont => XS.iloadN X167.here hx rfl (hb hby d1_69) rfl kont) ?_
  show own_Go p e below _ (T167.setTop (mkF m 70 #[.val (.ref g), .val (.int sl), .val (.int ld), .val (.int (7 : Int32)), .val (.int cp)] [(.int (7 : Int32)), (.ref g)]))
  refine own_by (fun _ kont => XT.iconstV X167.here hx rfl (1 : Int32) (hb hby d1_70) rfl kont) ?_
  show own_Go p e below _ (T167.setTop (mkF m 71 #[.val (.ref g), .val (.int sl), .val (.int ld), .val (.int (7 : Int32)), .val (.int cp)] [(.int (1 : Int32)), (.int (7 : Int32)), (.ref g)]))
  refine own_by (fun _ kont => XS.iadd X167.here hx rfl (hb hby d1_71) rfl kont) ?_
  show own_Go p e below _ (T167.setTop (mkF m 72 #[.val (.ref g), .val (.int sl), .val (.int ld), .val (.int (7 : Int32)), .val (.int cp)] [(.int ((7 : Int32) + (1 : Int32))), (.ref g)]))
  obtain ⟨T168, h168, a168, X168, e168, g168, E168, H168, st168⟩ := own_newIA X167 hx hZ (hw _ (List.mem_of_getElem? (i := 18) rfl)) e167 (g := (mkF m 72 #[.val (.ref g), .val (.int sl), .val (.int ld), .val (.int (7 : Int32)), .val (.int cp)] [(.int ((7 : Int32) + (1 : Int32))), (.ref g)])) rfl (hb hby d1_72) rfl 8 (by decide) (cap := 8) (by decide) (by decide) (by decide) (by decide)
  have F169 : Exa Z h167 g "com/example/lambdalane/lambdalane/NodeGraph" := (F166.wr W167)
  have ne170 : g ≠ a168 := by rw [g168]; exact Nat.ne_of_lt F169.lt
  have F171 : own_IA Z h167 a118 cap (fun _ => 0) := (own_IA_other (own_IA_ext F157 E154) W167 (Ne.symm ne120))
  have ne172 : a118 ≠ a168 := by rw [g168]; exact Nat.ne_of_lt (own_IA_lt F171)
  have F173 : own_IA Z h167 a124 cap (fun _ => 0) := (own_IA_other (own_IA_ext F159 E154) W167 (Ne.symm ne126))
  have ne174 : a124 ≠ a168 := by rw [g168]; exact Nat.ne_of_lt (own_IA_lt F173)
  have F175 : own_IA Z h167 a132 cap (fun _ => 0) := (own_IA_other (own_IA_ext F161 E154) W167 (Ne.symm ne134))
  have ne176 : a132 ≠ a168 := by rw [g168]; exact Nat.ne_of_lt (own_IA_lt F175)
  have F177 : own_IA Z h167 a142 8 (fun _ => 0) := (own_IA_other (own_IA_ext F163 E154) W167 (Ne.symm ne144))
  have ne178 : a142 ≠ a168 := by rw [g168]; exact Nat.ne_of_lt (own_IA_lt F177)
  have F179 : own_IA Z h167 a154 8 (fun _ => 0) := (own_IA_other H154 W167 (Ne.symm ne156))
  have ne180 : a154 ≠ a168 := by rw [g168]; exact Nat.ne_of_lt (own_IA_lt F179)
  have ge168 : n0 ≤ a168 := by rw [g168]; exact Z167
  have Z168 : n0 ≤ h168.size := Nat.le_trans Z167 E168.1
  refine own_by st168 ?_
  show own_Go p e below _ (T168.setTop (mkF m 74 #[.val (.ref g), .val (.int sl), .val (.int ld), .val (.int (7 : Int32)), .val (.int cp)] [(.ref a168), (.ref g)]))
  have F181 : Fld Z h168 g "com/example/lambdalane/lambdalane/NodeGraph" "colourMark" "[I" .null := (((((((((((((((DcolourMark.other W108 (Or.inr (slot_ne (t := (.array .int)) (t' := .int) (Or.inr (hw _ (List.mem_of_getElem? (i := 30) rfl))) (Or.inl (hw _ (List.mem_of_getElem? (i := 11) rfl))) (by decide) (by decide) (by decide)))).other W111 (Or.inr (slot_ne (t := (.array .int)) (t' := .int) (Or.inr (hw _ (List.mem_of_getElem? (i := 30) rfl))) (Or.inr (hw _ (List.mem_of_getElem? (i := 13) rfl))) (by decide) (by decide) (by decide)))).other W114 (Or.inr (slot_ne (t := (.array .int)) (t' := .int) (Or.inr (hw _ (List.mem_of_getElem? (i := 30) rfl))) (Or.inr (hw _ (List.mem_of_getElem? (i := 15) rfl))) (by decide) (by decide) (by decide)))).other W117 (Or.inr (slot_ne (t := (.array .int)) (t' := .int) (Or.inr (hw _ (List.mem_of_getElem? (i := 30) rfl))) (Or.inr (hw _ (List.mem_of_getElem? (i := 17) rfl))) (by decide) (by decide) (by decide)))).ext E118).other W123 (Or.inr (slot_ne (t := (.array .int)) (t' := (.array .int)) (Or.inr (hw _ (List.mem_of_getElem? (i := 30) rfl))) (Or.inl (hw _ (List.mem_of_getElem? (i := 20) rfl))) (by decide) (by decide) (by decide)))).ext E124).other W131 (Or.inr (slot_ne (t := (.array .int)) (t' := (.array .int)) (Or.inr (hw _ (List.mem_of_getElem? (i := 30) rfl))) (Or.inl (hw _ (List.mem_of_getElem? (i := 22) rfl))) (by decide) (by decide) (by decide)))).ext E132).other W141 (Or.inr (slot_ne (t := (.array .int)) (t' := (.array .int)) (Or.inr (hw _ (List.mem_of_getElem? (i := 30) rfl))) (Or.inl (hw _ (List.mem_of_getElem? (i := 24) rfl))) (by decide) (by decide) (by decide)))).ext E142).other W153 (Or.inr (slot_ne (t := (.array .int)) (t' := (.array .int)) (Or.inr (hw _ (List.mem_of_getElem? (i := 30) rfl))) (Or.inr (hw _ (List.mem_of_getElem? (i := 26) rfl))) (by decide) (by decide) (by decide)))).ext E154).other W167 (Or.inr (slot_ne (t := (.array .int)) (t' := (.array .int)) (Or.inr (hw _ (List.mem_of_getElem? (i := 30) rfl))) (Or.inr (hw _ (List.mem_of_getElem? (i := 28) rfl))) (by decide) (by decide) (by decide)))).ext E168)
  have F182 : Exa Z h168 g "com/example/lambdalane/lambdalane/NodeGraph" := (F169.ext E168)
  obtain ⟨T183, h183, X183, e183, W183, st183⟩ := putF X168 hx hZ hown (host := "") (Or.inl (hw _ (List.mem_of_getElem? (i := 29) rfl))) Via.refl e168 F181 F182 (Or.inr ⟨(hw _ (List.mem_of_getElem? (i := 30) rfl)), rfl, hnm⟩) (hw _ (List.mem_of_getElem? (i := 2) rfl)) (ty := (.array .int)) (by decide) rfl rfl (g := (mkF m 74 #[.val (.ref g), .val (.int sl), .val (.int ld), .val (.int (7 : Int32)), .val (.int cp)] [(.ref a168), (.ref g)])) rfl rfl (hb hby d1_74)
  obtain ⟨L183, X183, M183⟩ := own_hide X183 (Fr.snoc X183 M167 gg)
  have Z183 : n0 ≤ h183.size := (by rw [Wr.size W183]; exact Z168)
  have F183 : Fld Z h183 g "com/example/lambdalane/lambdalane/NodeGraph" "colourMark" "[I" (.ref a168) := (F181.same W183)
  refine own_by st183 ?_
  show own_Go p e below _ (T183.setTop (mkF m 77 #[.val (.ref g), .val (.int sl), .val (.int ld), .val (.int (7 : Int32)), .val (.int cp)] []))
  refine own_by (fun _ kont => XS.aloadN X183.here hx rfl (hb hby d1_77) rfl rfl kont) ?_
  show own_Go p e below _ (T183.setTop (mkF m 78 #[.val (.ref g), .val (.int sl), .val (.int ld), .val (.int (7 : Int32)), .val (.int cp)] [(.ref g)]))
  have F184 : Fld Z h183 g "com/example/lambdalane/lambdalane/NodeGraph" "inEdgeOf" "[I" (.ref a142) := ((((F153.ext E154).other W167 (Or.inr (slot_ne (t := (.array .int)) (t' := (.array .int)) (Or.inr (hw _ (List.mem_of_getElem? (i := 26) rfl))) (Or.inr (hw _ (List.mem_of_getElem? (i := 28) rfl))) (by decide) (by decide) (by decide)))).ext E168).other W183 (Or.inr (slot_ne (t := (.array .int)) (t' := (.array .int)) (Or.inr (hw _ (List.mem_of_getElem? (i := 26) rfl))) (Or.inr (hw _ (List.mem_of_getElem? (i := 30) rfl))) (by decide) (by decide) (by decide))))
  obtain ⟨T185, X185, e185, st185⟩ := getF X183 hx hZ hown (host := "") (Or.inl (hw _ (List.mem_of_getElem? (i := 25) rfl))) Via.refl e183 F184 (g := (mkF m 78 #[.val (.ref g), .val (.int sl), .val (.int ld), .val (.int (7 : Int32)), .val (.int cp)] [(.ref g)])) rfl rfl (hb hby d1_78)
  refine own_by st185 ?_
  show own_Go p e below _ (T185.setTop (mkF m 81 #[.val (.ref g), .val (.int sl), .val (.int ld), .val (.int (7 : Int32)), .val (.int cp)] [(.ref a142)]))
  refine own_by (fun _ kont => XT.iconstV X185.here hx rfl (-1 : Int32) (hb hby d1_81) rfl kont) ?_
  show own_Go p e below _ (T185.setTop (mkF m 82 #[.val (.ref g), .val (.int sl), .val (.int ld), .val (.int (7 : Int32)), .val (.int cp)] [(.int (-1 : Int32)), (.ref a142)]))
  have F186 : own_IA Z h183 a142 8 (fun _ => 0) := (own_IA_other (own_IA_ext F177 E168) W183 (Ne.symm ne144))
  obtain ⟨_, _, ⟨T187, L187, k187, n187⟩, -, X187, ⟨Lc187, hQ187, l187, y187, z187⟩, st187⟩ := Jvm.LawKit.callS X185 hx (y := (⟨"java/util/Arrays", "fill", "([II)V"⟩ : MethodName)) hown (mvT hZ (hw _ (List.mem_of_getElem? (i := 31) rfl))) (mvT hZ (hw _ (List.mem_of_getElem? (i := 32) rfl))) (mvT hZ (hw _ (List.mem_of_getElem? (i := 33) rfl))) (mvT hZ (hw _ (List.mem_of_getElem? (i := 34) rfl))) (by decide) (backOf (W := 0) (rmF l Z a0 hw [] a142 (-1 : Int32) 8 _ h183 n0 (by decide) ge142 F186) hZ (hw _ (List.mem_of_getElem? (i := 34) rfl)) (hw _ (List.mem_of_getElem? (i := 33) rfl)) (by decide) (by decide)) (g := (mkF m 82 #[.val (.ref g), .val (.int sl), .val (.int ld), .val (.int (7 : Int32)), .val (.int cp)] [(.int (-1 : Int32)), (.ref a142)])) rfl (by rw [hml]; rfl) (argsL := [(.ref a142), (.int (-1 : Int32))]) (rest := []) (lenOf own_pd3 rfl) rfl (by show 2 * 0 + _ ≤ _; exact Nat.le_of_eq rfl) (hb hby d1_82) (fun _ _ => ⟨rfl, e185, (by decide : 6 + 0 ≤ _), (by decide : 33 + 0 ≤ _)⟩)
  dsimp only [Pt.U, Pt.locs, Pt.cells, Pt.slots] at X187 l187 y187 z187 st187 hQ187
  subst l187 y187 z187
  refine own_by st187 ?_
  obtain ⟨rfl, N187, K187, H187⟩ := hQ187
  obtain ⟨L187, X187, M187⟩ := own_hide X187 (Fr.app M183 N187)
  obtain ⟨h187, e187⟩ : ∃ h, T187.heap = h := ⟨_, rfl⟩
  rw [e187] at K187 H187
  have Z187 : n0 ≤ h187.size := Nat.le_trans Z183 K187.1
  show own_Go p e below _ (T187.setTop (mkF m 85 #[.val (.ref g), .val (.int sl), .val (.int ld), .val (.int (7 : Int32)), .val (.int cp)] []))
  refine own_by (fun _ kont => XS.aloadN X187.here hx rfl (hb hby d1_85) rfl rfl kont) ?_
  show own_Go p e below _ (T187.setTop (mkF m 86 #[.val (.ref g), .val (.int sl), .val (.int ld), .val (.int (7 : Int32)), .val (.int cp)] [(.ref g)]))
  have F188 : Fld Z h187 g "com/example/lambdalane/lambdalane/NodeGraph" "outEdgeOf" "[I" (.ref a154) := (((F167.ext E168).other W183 (Or.inr (slot_ne (t := (.array .int)) (t' := (.array .int)) (Or.inr (hw _ (List.mem_of_getElem? (i := 28) rfl))) (Or.inr (hw _ (List.mem_of_getElem? (i := 30) rfl))) (by decide) (by decide) (by decide)))).keep K187 (ninS ne144 nin0))
  obtain ⟨T189, X189, e189, st189⟩ := getF X187 hx hZ hown (host := "") (Or.inl (hw _ (List.mem_of_getElem? (i := 27) rfl))) Via.refl e187 F188 (g := (mkF m 86 #[.val (.ref g), .val (.int sl), .val (.int ld), .val (.int (7 : Int32)), .val (.int cp)] [(.ref g)])) rfl rfl (hb hby d1_86)
  refine own_by st189 ?_
  show own_Go p e below _ (T189.setTop (mkF m 89 #[.val (.ref g), .val (.int sl), .val (.int ld), .val (.int (7 : Int32)), .val (.int cp)] [(.ref a154)]))
  refine own_by (fun _ kont => XT.iconstV X189.here hx rfl (-1 : Int32) (hb hby d1_89) rfl kont) ?_
  show own_Go p e below _ (T189.setTop (mkF m 90 #[.val (.ref g), .val (.int sl), .val (.int ld), .val (.int (7 : Int32)), .val (.int cp)] [(.int (-1 : Int32)), (.ref a154)]))
  have F190 : own_IA Z h187 a154 8 (fun _ => 0) := (own_IA_keep (own_IA_other (own_IA_ext F179 E168) W183 (Ne.symm ne156)) K187 (ninS (Ne.symm ne164) nin0))
  obtain ⟨_, _, ⟨T191, L191, k191, n191⟩, -, X191, ⟨Lc191, hQ191, l191, y191, z191⟩, st191⟩ := Jvm.LawKit.callS X189 hx (y := (⟨"java/util/Arrays", "fill", "([II)V"⟩ : MethodName)) hown (mvT hZ (hw _ (List.mem_of_getElem? (i := 31) rfl))) (mvT hZ (hw _ (List.mem_of_getElem? (i := 32) rfl))) (mvT hZ (hw _ (List.mem_of_getElem? (i := 33) rfl))) (mvT hZ (hw _ (List.mem_of_getElem? (i := 34) rfl))) (by decide) (backOf (W := 0) (rmF l Z a0 hw [] a154 (-1 : Int32) 8 _ h187 n0 (by decide) ge154 F190) hZ (hw _ (List.mem_of_getElem? (i := 34) rfl)) (hw _ (List.mem_of_getElem? (i := 33) rfl)) (by decide) (by decide)) (g := (mkF m 90 #[.val (.ref g), .val (.int sl), .val (.int ld), .val (.int (7 : Int32)), .val (.int cp)] [(.int (-1 : Int32)), (.ref a154)])) rfl (by rw [hml]; rfl) (argsL := [(.ref a154), (.int (-1 : Int32))]) (rest := []) (lenOf own_pd3 rfl) rfl (by show 2 * 0 + _ ≤ _; exact Nat.le_of_eq rfl) (hb hby d1_90) (fun _ _ => ⟨rfl, e189, (by decide : 6 + 0 ≤ _), (by decide : 33 + 0 ≤ _)⟩)
  dsimp only [Pt.U, Pt.locs, Pt.cells, Pt.slots] at X191 l191 y191 z191 st191 hQ191
  subst l191 y191 z191
  refine own_by st191 ?_
  obtain ⟨rfl, N191, K191, H191⟩ := hQ191
  obtain ⟨L191, X191, M191⟩ := own_hide X191 (Fr.app M187 N191)
  obtain ⟨h191, e191⟩ : ∃ h, T191.heap = h := ⟨_, rfl⟩
  rw [e191] at K191 H191
  have Z191 : n0 ≤ h191.size := Nat.le_trans Z187 K191.1
  show own_Go p e below _ (T191.setTop (mkF m 93 #[.val (.ref g), .val (.int sl), .val (.int ld), .val (.int (7 : Int32)), .val (.int cp)] []))
  have F192 : Exa Z h191 g "com/example/lambdalane/lambdalane/NodeGraph" := (((F182.wr W183).keep K187).keep K191)
  have F193 : Fld Z h191 g "com/example/lambdalane/lambdalane/NodeGraph" "side" "I" (.int ((2 : Int32) * sl)) := ((((((((((((((((F111.other W114 (Or.inr (slot_ne (t := .int) (t' := .int) (Or.inr (hw _ (List.mem_of_getElem? (i := 13) rfl))) (Or.inr (hw _ (List.mem_of_getElem? (i := 15) rfl))) (by decide) (by decide) (by decide)))).other W117 (Or.inr (slot_ne (t := .int) (t' := .int) (Or.inr (hw _ (List.mem_of_getElem? (i := 13) rfl))) (Or.inr (hw _ (List.mem_of_getElem? (i := 17) rfl))) (by decide) (by decide) (by decide)))).ext E118).other W123 (Or.inr (slot_ne (t := .int) (t' := (.array .int)) (Or.inr (hw _ (List.mem_of_getElem? (i := 13) rfl))) (Or.inl (hw _ (List.mem_of_getElem? (i := 20) rfl))) (by decide) (by decide) (by decide)))).ext E124).other W131 (Or.inr (slot_ne (t := .int) (t' := (.array .int)) (Or.inr (hw _ (List.mem_of_getElem? (i := 13) rfl))) (Or.inl (hw _ (List.mem_of_getElem? (i := 22) rfl))) (by decide) (by decide) (by decide)))).ext E132).other W141 (Or.inr (slot_ne (t := .int) (t' := (.array .int)) (Or.inr (hw _ (List.mem_of_getElem? (i := 13) rfl))) (Or.inl (hw _ (List.mem_of_getElem? (i := 24) rfl))) (by decide) (by decide) (by decide)))).ext E142).other W153 (Or.inr (slot_ne (t := .int) (t' := (.array .int)) (Or.inr (hw _ (List.mem_of_getElem? (i := 13) rfl))) (Or.inr (hw _ (List.mem_of_getElem? (i := 26) rfl))) (by decide) (by decide) (by decide)))).ext E154).other W167 (Or.inr (slot_ne (t := .int) (t' := (.array .int)) (Or.inr (hw _ (List.mem_of_getElem? (i := 13) rfl))) (Or.inr (hw _ (List.mem_of_getElem? (i := 28) rfl))) (by decide) (by decide) (by decide)))).ext E168).other W183 (Or.inr (slot_ne (t := .int) (t' := (.array .int)) (Or.inr (hw _ (List.mem_of_getElem? (i := 13) rfl))) (Or.inr (hw _ (List.mem_of_getElem? (i := 30) rfl))) (by decide) (by decide) (by decide)))).keep K187 (ninS ne144 nin0)).keep K191 (ninS ne156 nin0))
  have F194 : Fld Z h191 g "com/example/lambdalane/lambdalane/NodeGraph" "left" "[I" (.ref a118) := ((((((((((((F123.ext E124).other W131 (Or.inr (slot_ne (t := (.array .int)) (t' := (.array .int)) (Or.inl (hw _ (List.mem_of_getElem? (i := 20) rfl))) (Or.inl (hw _ (List.mem_of_getElem? (i := 22) rfl))) (by decide) (by decide) (by decide)))).ext E132).other W141 (Or.inr (slot_ne (t := (.array .int)) (t' := (.array .int)) (Or.inl (hw _ (List.mem_of_getElem? (i := 20) rfl))) (Or.inl (hw _ (List.mem_of_getElem? (i := 24) rfl))) (by decide) (by decide) (by decide)))).ext E142).other W153 (Or.inr (slot_ne (t := (.array .int)) (t' := (.array .int)) (Or.inl (hw _ (List.mem_of_getElem? (i := 20) rfl))) (Or.inr (hw _ (List.mem_of_getElem? (i := 26) rfl))) (by decide) (by decide) (by decide)))).ext E154).other W167 (Or.inr (slot_ne (t := (.array .int)) (t' := (.array .int)) (Or.inl (hw _ (List.mem_of_getElem? (i := 20) rfl))) (Or.inr (hw _ (List.mem_of_getElem? (i := 28) rfl))) (by decide) (by decide) (by decide)))).ext E168).other W183 (Or.inr (slot_ne (t := (.array .int)) (t' := (.array .int)) (Or.inl (hw _ (List.mem_of_getElem? (i := 20) rfl))) (Or.inr (hw _ (List.mem_of_getElem? (i := 30) rfl))) (by decide) (by decide) (by decide)))).keep K187 (ninS ne144 nin0)).keep K191 (ninS ne156 nin0))
  have F195 : Fld Z h191 g "com/example/lambdalane/lambdalane/NodeGraph" "right" "[I" (.ref a124) := ((((((((((F131.ext E132).other W141 (Or.inr (slot_ne (t := (.array .int)) (t' := (.array .int)) (Or.inl (hw _ (List.mem_of_getElem? (i := 22) rfl))) (Or.inl (hw _ (List.mem_of_getElem? (i := 24) rfl))) (by decide) (by decide) (by decide)))).ext E142).other W153 (Or.inr (slot_ne (t := (.array .int)) (t' := (.array .int)) (Or.inl (hw _ (List.mem_of_getElem? (i := 22) rfl))) (Or.inr (hw _ (List.mem_of_getElem? (i := 26) rfl))) (by decide) (by decide) (by decide)))).ext E154).other W167 (Or.inr (slot_ne (t := (.array .int)) (t' := (.array .int)) (Or.inl (hw _ (List.mem_of_getElem? (i := 22) rfl))) (Or.inr (hw _ (List.mem_of_getElem? (i := 28) rfl))) (by decide) (by decide) (by decide)))).ext E168).other W183 (Or.inr (slot_ne (t := (.array .int)) (t' := (.array .int)) (Or.inl (hw _ (List.mem_of_getElem? (i := 22) rfl))) (Or.inr (hw _ (List.mem_of_getElem? (i := 30) rfl))) (by decide) (by decide) (by decide)))).keep K187 (ninS ne144 nin0)).keep K191 (ninS ne156 nin0))
  have F196 : Fld Z h191 g "com/example/lambdalane/lambdalane/NodeGraph" "colour" "[I" (.ref a132) := ((((((((F141.ext E142).other W153 (Or.inr (slot_ne (t := (.array .int)) (t' := (.array .int)) (Or.inl (hw _ (List.mem_of_getElem? (i := 24) rfl))) (Or.inr (hw _ (List.mem_of_getElem? (i := 26) rfl))) (by decide) (by decide) (by decide)))).ext E154).other W167 (Or.inr (slot_ne (t := (.array .int)) (t' := (.array .int)) (Or.inl (hw _ (List.mem_of_getElem? (i := 24) rfl))) (Or.inr (hw _ (List.mem_of_getElem? (i := 28) rfl))) (by decide) (by decide) (by decide)))).ext E168).other W183 (Or.inr (slot_ne (t := (.array .int)) (t' := (.array .int)) (Or.inl (hw _ (List.mem_of_getElem? (i := 24) rfl))) (Or.inr (hw _ (List.mem_of_getElem? (i := 30) rfl))) (by decide) (by decide) (by decide)))).keep K187 (ninS ne144 nin0)).keep K191 (ninS ne156 nin0))
  have F197 : Fld Z h191 g "com/example/lambdalane/lambdalane/NodeGraph" "inEdgeOf" "[I" (.ref a142) := ((F184.keep K187 (ninS ne144 nin0)).keep K191 (ninS ne156 nin0))
  have F198 : Fld Z h191 g "com/example/lambdalane/lambdalane/NodeGraph" "outEdgeOf" "[I" (.ref a154) := (F188.keep K191 (ninS ne156 nin0))
  have F199 : Fld Z h191 g "com/example/lambdalane/lambdalane/NodeGraph" "size" "I" (.int (0 : Int32)) := ((((((((((((((((((Dsize.other W108 (Or.inr (slot_ne (t := .int) (t' := .int) (Or.inl (hw _ (List.mem_of_getElem? (i := 41) rfl))) (Or.inl (hw _ (List.mem_of_getElem? (i := 11) rfl))) (by decide) (by decide) (by decide)))).other W111 (Or.inr (slot_ne (t := .int) (t' := .int) (Or.inl (hw _ (List.mem_of_getElem? (i := 41) rfl))) (Or.inr (hw _ (List.mem_of_getElem? (i := 13) rfl))) (by decide) (by decide) (by decide)))).other W114 (Or.inr (slot_ne (t := .int) (t' := .int) (Or.inl (hw _ (List.mem_of_getElem? (i := 41) rfl))) (Or.inr (hw _ (List.mem_of_getElem? (i := 15) rfl))) (by decide) (by decide) (by decide)))).other W117 (Or.inr (slot_ne (t := .int) (t' := .int) (Or.inl (hw _ (List.mem_of_getElem? (i := 41) rfl))) (Or.inr (hw _ (List.mem_of_getElem? (i := 17) rfl))) (by decide) (by decide) (by decide)))).ext E118).other W123 (Or.inr (slot_ne (t := .int) (t' := (.array .int)) (Or.inl (hw _ (List.mem_of_getElem? (i := 41) rfl))) (Or.inl (hw _ (List.mem_of_getElem? (i := 20) rfl))) (by decide) (by decide) (by decide)))).ext E124).other W131 (Or.inr (slot_ne (t := .int) (t' := (.array .int)) (Or.inl (hw _ (List.mem_of_getElem? (i := 41) rfl))) (Or.inl (hw _ (List.mem_of_getElem? (i := 22) rfl))) (by decide) (by decide) (by decide)))).ext E132).other W141 (Or.inr (slot_ne (t := .int) (t' := (.array .int)) (Or.inl (hw _ (List.mem_of_getElem? (i := 41) rfl))) (Or.inl (hw _ (List.mem_of_getElem? (i := 24) rfl))) (by decide) (by decide) (by decide)))).ext E142).other W153 (Or.inr (slot_ne (t := .int) (t' := (.array .int)) (Or.inl (hw _ (List.mem_of_getElem? (i := 41) rfl))) (Or.inr (hw _ (List.mem_of_getElem? (i := 26) rfl))) (by decide) (by decide) (by decide)))).ext E154).other W167 (Or.inr (slot_ne (t := .int) (t' := (.array .int)) (Or.inl (hw _ (List.mem_of_getElem? (i := 41) rfl))) (Or.inr (hw _ (List.mem_of_getElem? (i := 28) rfl))) (by decide) (by decide) (by decide)))).ext E168).other W183 (Or.inr (slot_ne (t := .int) (t' := (.array .int)) (Or.inl (hw _ (List.mem_of_getElem? (i := 41) rfl))) (Or.inr (hw _ (List.mem_of_getElem? (i := 30) rfl))) (by decide) (by decide) (by decide)))).keep K187 (ninS ne144 nin0)).keep K191 (ninS ne156 nin0))
  have F200 : own_IA Z h191 a118 cap (fun _ => 0) := (own_IA_keep (own_IA_keep (own_IA_other (own_IA_ext F171 E168) W183 (Ne.symm ne120)) K187 (ninS ne146 nin0)) K191 (ninS ne158 nin0))
  have F201 : own_IA Z h191 a124 cap (fun _ => 0) := (own_IA_keep (own_IA_keep (own_IA_other (own_IA_ext F173 E168) W183 (Ne.symm ne126)) K187 (ninS ne148 nin0)) K191 (ninS ne160 nin0))
  have F202 : own_IA Z h191 a132 cap (fun _ => 0) := (own_IA_keep (own_IA_keep (own_IA_other (own_IA_ext F175 E168) W183 (Ne.symm ne134)) K187 (ninS ne150 nin0)) K191 (ninS ne162 nin0))
  have F203 : own_IA Z h191 a142 8 (fun _ => -1) := (own_IA_keep H187 K191 (ninS ne164 nin0))
  refine own_retV X191 hx hlk hret (hb hby d1_93) ⟨rfl, M191, ?_⟩ (by decide) (by decide)
  rw [e191]
  exact ⟨a118, a124, a132, a142, a154, _, _, _, ⟨F192, F193, F194, F195, F196, F197, F198, F199⟩, ⟨F200, F201, F202, F203, H191⟩, fun i hi => absurd hi (by omega), ⟨ne120, ne126, ne134, ne144, ne156, ne128, ne136, ne146, ne158, ne138, ne148, ne160, ne150, ne162, ne164⟩, ⟨gg, ge118, ge124, ge132, ge142, ge154, Z191⟩⟩
def own_Q_rmA (Z : State) (g : Addr) (sd lv rv : Int32) (kc sz : Nat) (L R C I2 O2 : Nat → Int32) (n0 : Nat) : Option Value → Heap → List Loc → Prop := (fun v h L1 => v = some (.int (Int32.ofNat sz)) ∧ Fr n0 L1 ∧ ∃ cap2, sz + 1 ≤ cap2 ∧ cap2 ≤ 16 ∧ own_G Z h n0 g sd 7 (sz + 1) cap2 (fun i => if i = sz then lv else L i) (fun i => if i = sz then rv else R i) (fun i => if i = sz then (Int32.ofNat kc) else C i) I2 O2)
theorem own_ag {sz : Nat} {fl fr fc L R C : Nat → Int32} {lv rv kc : Int32} (hag : ∀ i, i < sz → fl i = L i ∧ fr i = R i ∧ fc i = C i) (i : Nat) (hi : i < sz + 1) :
    (fun i => if i = sz then lv else fl i) i = (fun i => if i = sz then lv else L i) i ∧ (fun i => if i = sz then rv else fr i) i = (fun i => if i = sz then rv else R i) i ∧ (fun i => if i = sz then kc else fc i) i = (fun i => if i = sz then kc else C i) i := by
  by_cases q : i = sz
  · simp only [if_pos q, and_self]
  · simp only [if_neg q]; exact hag i (by omega)
set_option maxRecDepth 65536 in
set_option maxHeartbeats 40000000 in
theorem own_a64 {p : Program} {l : Launch} {e : Env} {s : State} {m : MethodId} {args : Array Value} {below : List Frame} {meth : Method} {c : Code} {T : State} {locs : List Loc} {cells slots : Nat} {Z : State} {a0 : Array Value} {n0 : Nat} {h : Heap} (X : Stand p l e ({ frames := 2, cells := 3, slots := 48, locals := 96 } : Room) s m args below meth c T locs cells slots) (hc : cells ≤ 3) (hs : slots ≤ 48) (hx : p.tables.exec = Jvm.exec) (hby : c.code = prog_42_method_2_code) (hlk : meth.locks = false) (hret : meth.sig.returnType = some .int) (hZ : Z.Warmed39 s.vm) (hown : s.vm.findClass "com/example/lambdalane/lambdalane/NodeGraph" = some m.cls) (hw : ∀ d ∈ tables_1, d.before a0 Z = true) (hml : c.maxLocals = 5) (N : Fr n0 locs) (eT : T.heap = h) (g : Addr) (sd lv rv : Int32) (kc sz cap : Nat) (L R C I O I2 O2 : Nat → Int32) (o : Slot) (ho : o = .unset ∨ ∃ w, o = .val w ∧ w.category = 1) (G : own_G Z h n0 g sd 7 sz cap L R C I O) (hsz : sz < cap) (hcap : cap ≤ 16) (hcol : (kc = 0 ∧ I = I2 ∧ O = O2) ∨ (1 ≤ kc ∧ kc ≤ 7 ∧ lv = 0 ∧ ¬ rv = 0 ∧ I kc < 0 ∧ I2 = (fun i => if i = kc then Int32.ofNat sz else I i) ∧ O = O2) ∨ (1 ≤ kc ∧ kc ≤ 7 ∧ ¬ lv = 0 ∧ rv = 0 ∧ O kc < 0 ∧ I = I2 ∧ O2 = (fun i => if i = kc then Int32.ofNat sz else O i))) :
    own_Go p e below (own_K s (own_Q_rmA Z g sd lv rv kc sz L R C I2 O2 n0) 3 48) (T.setTop (mkF m 64 #[.val (.ref g), .val (.int lv), .val (.int rv), .val (.int (Int32.ofNat kc)), o] [])) := by
  obtain ⟨lf, rt, co, ie, oe, fl, fr, fc, ⟨GE204, Gside204, Gleft204, Gright204, Gcolour204, GinEdgeOf204, GoutEdgeOf204, Gsize204⟩, ⟨HL204, HR204, HC204, HI204, HO204⟩, hag, ⟨nglf204, ngrt204, ngco204, ngie204, ngoe204, nlfrt204, nlfco204, nlfie204, nlfoe204, nrtco204, nrtie204, nrtoe204, ncoie204, ncooe204, nieoe204⟩, ⟨gg204, glf204, grt204, gco204, gie204, goe204, ZG204⟩⟩ := G
  have his := own_i (k := sz) (by omega)
  refine own_by (fun _ kont => XS.aloadN X.here hx rfl (hb hby d4_64) rfl rfl kont) ?_
  show own_Go p e below _ (T.setTop (mkF m 65 #[.val (.ref g), .val (.int lv), .val (.int rv), .val (.int (Int32.ofNat kc)), o] [(.ref g)]))
  obtain ⟨T205, X205, e205, st205⟩ := getF X hx hZ hown (host := "") (Or.inl (hw _ (List.mem_of_getElem? (i := 19) rfl))) Via.refl eT Gleft204 (g := (mkF m 65 #[.val (.ref g), .val (.int lv), .val (.int rv), .val (.int (Int32.ofNat kc)), o] [(.ref g)])) rfl rfl (hb hby d4_65)
  refine own_by st205 ?_
  show own_Go p e below _ (T205.setTop (mkF m 68 #[.val (.ref g), .val (.int lv), .val (.int rv), .val (.int (Int32.ofNat kc)), o] [(.ref lf)]))
  refine own_by (fun _ kont => XS.aloadN X205.here hx rfl (hb hby d4_68) rfl rfl kont) ?_
  show own_Go p e below _ (T205.setTop (mkF m 69 #[.val (.ref g), .val (.int lv), .val (.int rv), .val (.int (Int32.ofNat kc)), o] [(.ref g), (.ref lf)]))
  obtain ⟨T206, X206, e206, st206⟩ := getF X205 hx hZ hown (host := "") (Or.inl (hw _ (List.mem_of_getElem? (i := 40) rfl))) Via.refl e205 Gsize204 (g := (mkF m 69 #[.val (.ref g), .val (.int lv), .val (.int rv), .val (.int (Int32.ofNat kc)), o] [(.ref g), (.ref lf)])) rfl rfl (hb hby d4_69)
  refine own_by st206 ?_
  show own_Go p e below _ (T206.setTop (mkF m 72 #[.val (.ref g), .val (.int lv), .val (.int rv), .val (.int (Int32.ofNat kc)), o] [(.int (Int32.ofNat sz)), (.ref lf)]))
  refine own_by (fun _ kont => XS.iloadN X206.here hx rfl (hb hby d4_72) rfl kont) ?_
  show own_Go p e below _ (T206.setTop (mkF m 73 #[.val (.ref g), .val (.int lv), .val (.int rv), .val (.int (Int32.ofNat kc)), o] [(.int lv), (.int (Int32.ofNat sz)), (.ref lf)]))
  obtain ⟨T207, h207, X207, e207, W207, H207, st207⟩ := own_stN X206 hx hZ e206 HL204 (j := (Int32.ofNat sz)) sz his (by omega) (g := (mkF m 73 #[.val (.ref g), .val (.int lv), .val (.int rv), .val (.int (Int32.ofNat kc)), o] [(.int lv), (.int (Int32.ofNat sz)), (.ref lf)])) rfl rfl (hb hby d4_73)
  obtain ⟨L207, X207, M207⟩ := own_hide X207 (Fr.snoc X207 N glf204)
  have Z207 : n0 ≤ h207.size := (by rw [Wr.size W207]; exact ZG204)
  refine own_by st207 ?_
  show own_Go p e below _ (T207.setTop (mkF m 74 #[.val (.ref g), .val (.int lv), .val (.int rv), .val (.int (Int32.ofNat kc)), o] []))
  refine own_by (fun _ kont => XS.aloadN X207.here hx rfl (hb hby d4_74) rfl rfl kont) ?_
  show own_Go p e below _ (T207.setTop (mkF m 75 #[.val (.ref g), .val (.int lv), .val (.int rv), .val (.int (Int32.ofNat kc)), o] [(.ref g)]))
  have F208 : Fld Z h207 g "com/example/lambdalane/lambdalane/NodeGraph" "right" "[I" (.ref rt) := (Gright204.other W207 (Or.inl nglf204))
  obtain ⟨T209, X209, e209, st209⟩ := getF X207 hx hZ hown (host := "") (Or.inl (hw _ (List.mem_of_getElem? (i := 21) rfl))) Via.refl e207 F208 (g := (mkF m 75 #[.val (.ref g), .val (.int lv), .val (.int rv), .val (.int (Int32.ofNat kc)), o] [(.ref g)])) rfl rfl (hb hby d4_75)
  refine own_by st209 ?_
  show own_Go p e below _ (T209.setTop (mkF m 78 #[.val (.ref g), .val (.int lv), .val (.int rv), .val (.int (Int32.ofNat kc)), o] [(.ref rt)]))
  refine own_by (fun _ kont => XS.aloadN X209.here hx rfl (hb hby d4_78) rfl rfl kont) ?_
  show own_Go p e below _ (T209.setTop (mkF m 79 #[.val (.ref g), .val (.int lv), .val (.int rv), .val (.int (Int32.ofNat kc)), o] [(.ref g), (.ref rt)]))
  have F210 : Fld Z h207 g "com/example/lambdalane/lambdalane/NodeGraph" "size" "I" (.int (Int32.ofNat sz)) := (Gsize204.other W207 (Or.inl nglf204))
  obtain ⟨T211, X211, e211, st211⟩ := getF X209 hx hZ hown (host := "") (Or.inl (hw _ (List.mem_of_getElem? (i := 40) rfl))) Via.refl e209 F210 (g := (mkF m 79 #[.val (.ref g), .val (.int lv), .val (.int rv), .val (.int (Int32.ofNat kc)), o] [(.ref g), (.ref rt)])) rfl rfl (hb hby d4_79)
  refine own_by st211 ?_
  show own_Go p e below _ (T211.setTop (mkF m 82 #[.val (.ref g), .val (.int lv), .val (.int rv), .val (.int (Int32.ofNat kc)), o] [(.int (Int32.ofNat sz)), (.ref rt)]))
  refine own_by (fun _ kont => XS.iloadN X211.here hx rfl (hb hby d4_82) rfl kont) ?_
  show own_Go p e below _ (T211.setTop (mkF m 83 #[.val (.ref g), .val (.int lv), .val (.int rv), .val (.int (Int32.ofNat kc)), o] [(.int rv), (.int (Int32.ofNat sz)), (.ref rt)]))
  have F212 : own_IA Z h207 rt cap fr := (own_IA_other HR204 W207 (Ne.symm nlfrt204))
  obtain ⟨T213, h213, X213, e213, W213, H213, st213⟩ := own_stN X211 hx hZ e211 F212 (j := (Int32.ofNat sz)) sz his (by omega) (g := (mkF m 83 #[.val (.ref g), .val (.int lv), .val (.int rv), .val (.int (Int32.ofNat kc)), o] [(.int rv), (.int (Int32.ofNat sz)), (.ref rt)])) rfl rfl (hb hby d4_83)
  obtain ⟨L213, X213, M213⟩ := own_hide X213 (Fr.snoc X213 M207 grt204)
  have Z213 : n0 ≤ h213.size := (by rw [Wr.size W213]; exact Z207)
  refine own_by st213 ?_
  show own_Go p e below _ (T213.setTop (mkF m 84 #[.val (.ref g), .val (.int lv), .val (.int rv), .val (.int (Int32.ofNat kc)), o] []))
  refine own_by (fun _ kont => XS.aloadN X213.here hx rfl (hb hby d4_84) rfl rfl kont) ?_
  show own_Go p e below _ (T213.setTop (mkF m 85 #[.val (.ref g), .val (.int lv), .val (.int rv), .val (.int (Int32.ofNat kc)), o] [(.ref g)]))
  have F214 : Fld Z h213 g "com/example/lambdalane/lambdalane/NodeGraph" "colour" "[I" (.ref co) := ((Gcolour204.other W207 (Or.inl nglf204)).other W213 (Or.inl ngrt204))
  obtain ⟨T215, X215, e215, st215⟩ := getF X213 hx hZ hown (host := "") (Or.inl (hw _ (List.mem_of_getElem? (i := 23) rfl))) Via.refl e213 F214 (g := (mkF m 85 #[.val (.ref g), .val (.int lv), .val (.int rv), .val (.int (Int32.ofNat kc)), o] [(.ref g)])) rfl rfl (hb hby d4_85)
  refine own_by st215 ?_
  show own_Go p e below _ (T215.setTop (mkF m 88 #[.val (.ref g), .val (.int lv), .val (.int rv), .val (.int (Int32.ofNat kc)), o] [(.ref co)]))
  refine own_by (fun _ kont => XS.aloadN X215.here hx rfl (hb hby d4_88) rfl rfl kont) ?_
  show own_Go p e below _ (T215.setTop (mkF m 89 #[.val (.ref g), .val (.int lv), .val (.int rv), .val (.int (Int32.ofNat kc)), o] [(.ref g), (.ref co)]))
  have F216 : Fld Z h213 g "com/example/lambdalane/lambdalane/NodeGraph" "size" "I" (.int (Int32.ofNat sz)) := (F210.other W213 (Or.inl ngrt204))
  obtain ⟨T217, X217, e217, st217⟩ := getF X215 hx hZ hown (host := "") (Or.inl (hw _ (List.mem_of_getElem? (i := 40) rfl))) Via.refl e215 F216 (g := (mkF m 89 #[.val (.ref g), .val (.int lv), .val (.int rv), .val (.int (Int32.ofNat kc)), o] [(.ref g), (.ref co)])) rfl rfl (hb hby d4_89)
  refine own_by st217 ?_
  show own_Go p e below _ (T217.setTop (mkF m 92 #[.val (.ref g), .val (.int lv), .val (.int rv), .val (.int (Int32.ofNat kc)), o] [(.int (Int32.ofNat sz)), (.ref co)]))
  refine own_by (fun _ kont => XS.iloadN X217.here hx rfl (hb hby d4_92) rfl kont) ?_
  show own_Go p e below _ (T217.setTop (mkF m 93 #[.val (.ref g), .val (.int lv), .val (.int rv), .val (.int (Int32.ofNat kc)), o] [(.int (Int32.ofNat kc)), (.int (Int32.ofNat sz)), (.ref co)]))
  have F218 : own_IA Z h213 co cap fc := (own_IA_other (own_IA_other HC204 W207 (Ne.symm nlfco204)) W213 (Ne.symm nrtco204))
  obtain ⟨T219, h219, X219, e219, W219, H219, st219⟩ := own_stN X217 hx hZ e217 F218 (j := (Int32.ofNat sz)) sz his (by omega) (g := (mkF m 93 #[.val (.ref g), .val (.int lv), .val (.int rv), .val (.int (Int32.ofNat kc)), o] [(.int (Int32.ofNat kc)), (.int (Int32.ofNat sz)), (.ref co)])) rfl rfl (hb hby d4_93)
  obtain ⟨L219, X219, M219⟩ := own_hide X219 (Fr.snoc X219 M213 gco204)
  have Z219 : n0 ≤ h219.size := (by rw [Wr.size W219]; exact Z213)
  refine own_by st219 ?_
  show own_Go p e below _ (T219.setTop (mkF m 94 #[.val (.ref g), .val (.int lv), .val (.int rv), .val (.int (Int32.ofNat kc)), o] []))
  refine own_by (fun _ kont => XS.iloadN X219.here hx rfl (hb hby d4_94) rfl kont) ?_
  show own_Go p e below _ (T219.setTop (mkF m 95 #[.val (.ref g), .val (.int lv), .val (.int rv), .val (.int (Int32.ofNat kc)), o] [(.int (Int32.ofNat kc))]))
  rcases hcol with ⟨rfl, rfl, rfl⟩ | ⟨k1, k2, rfl, hr0, hI, rfl, rfl⟩ | ⟨k1, k2, hl0, rfl, hO, rfl, rfl⟩
  · refine own_by (fun _ kont => XS.ifYes X219.here hx rfl (pc0 := 95) (pc' := 165) rfl (hb hby d4_95) rfl (XT.i0_eq_t (rfl : Int32.ofNat 0 = (0 : Int32))) (by decide) (by decide) kont) ?_
    show own_Go p e below _ (T219.setTop (mkF m 165 #[.val (.ref g), .val (.int lv), .val (.int rv), .val (.int (Int32.ofNat 0)), o] []))
    refine own_by (fun _ kont => XS.aloadN X219.here hx rfl (hb hby d4_165) rfl rfl kont) ?_
    show own_Go p e below _ (T219.setTop (mkF m 166 #[.val (.ref g), .val (.int lv), .val (.int rv), .val (.int (Int32.ofNat 0)), o] [(.ref g)]))
    refine own_by (fun _ kont => XS.dup X219.here hx rfl (hb hby d4_166) rfl rfl kont) ?_
    show own_Go p e below _ (T219.setTop (mkF m 167 #[.val (.ref g), .val (.int lv), .val (.int rv), .val (.int (Int32.ofNat 0)), o] [(.ref g), (.ref g)]))
    have F220 : Fld Z h219 g "com/example/lambdalane/lambdalane/NodeGraph" "size" "I" (.int (Int32.ofNat sz)) := (F216.other W219 (Or.inl ngco204))
    obtain ⟨T221, X221, e221, st221⟩ := getF X219 hx hZ hown (host := "") (Or.inl (hw _ (List.mem_of_getElem? (i := 40) rfl))) Via.refl e219 F220 (g := (mkF m 167 #[.val (.ref g), .val (.int lv), .val (.int rv), .val (.int (Int32.ofNat 0)), o] [(.ref g), (.ref g)])) rfl rfl (hb hby d4_167)
    refine own_by st221 ?_
    show own_Go p e below _ (T221.setTop (mkF m 170 #[.val (.ref g), .val (.int lv), .val (.int rv), .val (.int (Int32.ofNat 0)), o] [(.int (Int32.ofNat sz)), (.ref g)]))
    refine own_by (fun _ kont => XT.dupX1 X221.here hx rfl (hb hby d4_170) rfl rfl rfl kont) ?_
    show own_Go p e below _ (T221.setTop (mkF m 171 #[.val (.ref g), .val (.int lv), .val (.int rv), .val (.int (Int32.ofNat 0)), o] [(.int (Int32.ofNat sz)), (.ref g), (.int (Int32.ofNat sz))]))
    refine own_by (fun _ kont => XT.iconstV X221.here hx rfl (1 : Int32) (hb hby d4_171) rfl kont) ?_
    show own_Go p e below _ (T221.setTop (mkF m 172 #[.val (.ref g), .val (.int lv), .val (.int rv), .val (.int (Int32.ofNat 0)), o] [(.int (1 : Int32)), (.int (Int32.ofNat sz)), (.ref g), (.int (Int32.ofNat sz))]))
    refine own_by (fun _ kont => XS.iadd X221.here hx rfl (hb hby d4_172) rfl kont) ?_
    show own_Go p e below _ (T221.setTop (mkF m 173 #[.val (.ref g), .val (.int lv), .val (.int rv), .val (.int (Int32.ofNat 0)), o] [(.int ((Int32.ofNat sz) + (1 : Int32))), (.ref g), (.int (Int32.ofNat sz))]))
    have F222 : Exa Z h219 g "com/example/lambdalane/lambdalane/NodeGraph" := (((GE204.wr W207).wr W213).wr W219)
    obtain ⟨T223, h223, X223, e223, W223, st223⟩ := putF X221 hx hZ hown (host := "") (Or.inl (hw _ (List.mem_of_getElem? (i := 40) rfl))) Via.refl e221 F220 F222 (Or.inl (hw _ (List.mem_of_getElem? (i := 41) rfl))) (hw _ (List.mem_of_getElem? (i := 2) rfl)) (ty := .int) (by decide) rfl rfl (g := (mkF m 173 #[.val (.ref g), .val (.int lv), .val (.int rv), .val (.int (Int32.ofNat 0)), o] [(.int ((Int32.ofNat sz) + (1 : Int32))), (.ref g), (.int (Int32.ofNat sz))])) rfl rfl (hb hby d4_173)
    obtain ⟨L223, X223, M223⟩ := own_hide X223 (Fr.snoc X223 M219 gg204)
    have Z223 : n0 ≤ h223.size := (by rw [Wr.size W223]; exact Z219)
    have F223 : Fld Z h223 g "com/example/lambdalane/lambdalane/NodeGraph" "size" "I" (.int ((Int32.ofNat sz) + (1 : Int32))) := (F220.same W223)
    refine own_by st223 ?_
    show own_Go p e below _ (T223.setTop (mkF m 176 #[.val (.ref g), .val (.int lv), .val (.int rv), .val (.int (Int32.ofNat 0)), o] [(.int (Int32.ofNat sz))]))
    have F224 : Exa Z h223 g "com/example/lambdalane/lambdalane/NodeGraph" := (F222.wr W223)
    have F225 : Fld Z h223 g "com/example/lambdalane/lambdalane/NodeGraph" "side" "I" (.int sd) := ((((Gside204.other W207 (Or.inl nglf204)).other W213 (Or.inl ngrt204)).other W219 (Or.inl ngco204)).other W223 (Or.inr (slot_ne (t := .int) (t' := .int) (Or.inr (hw _ (List.mem_of_getElem? (i := 13) rfl))) (Or.inl (hw _ (List.mem_of_getElem? (i := 41) rfl))) (by decide) (by decide) (by decide))))
    have F226 : Fld Z h223 g "com/example/lambdalane/lambdalane/NodeGraph" "left" "[I" (.ref lf) := ((((Gleft204.other W207 (Or.inl nglf204)).other W213 (Or.inl ngrt204)).other W219 (Or.inl ngco204)).other W223 (Or.inr (slot_ne (t := (.array .int)) (t' := .int) (Or.inl (hw _ (List.mem_of_getElem? (i := 20) rfl))) (Or.inl (hw _ (List.mem_of_getElem? (i := 41) rfl))) (by decide) (by decide) (by decide))))
    have F227 : Fld Z h223 g "com/example/lambdalane/lambdalane/NodeGraph" "right" "[I" (.ref rt) := (((F208.other W213 (Or.inl ngrt204)).other W219 (Or.inl ngco204)).other W223 (Or.inr (slot_ne (t := (.array .int)) (t' := .int) (Or.inl (hw _ (List.mem_of_getElem? (i := 22) rfl))) (Or.inl (hw _ (List.mem_of_getElem? (i := 41) rfl))) (by decide) (by decide) (by decide))))
    have F228 : Fld Z h223 g "com/example/lambdalane/lambdalane/NodeGraph" "colour" "[I" (.ref co) := ((F214.other W219 (Or.inl ngco204)).other W223 (Or.inr (slot_ne (t := (.array .int)) (t' := .int) (Or.inl (hw _ (List.mem_of_getElem? (i := 24) rfl))) (Or.inl (hw _ (List.mem_of_getElem? (i := 41) rfl))) (by decide) (by decide) (by decide))))
    have F229 : Fld Z h223 g "com/example/lambdalane/lambdalane/NodeGraph" "inEdgeOf" "[I" (.ref ie) := ((((GinEdgeOf204.other W207 (Or.inl nglf204)).other W213 (Or.inl ngrt204)).other W219 (Or.inl ngco204)).other W223 (Or.inr (slot_ne (t := (.array .int)) (t' := .int) (Or.inr (hw _ (List.mem_of_getElem? (i := 26) rfl))) (Or.inl (hw _ (List.mem_of_getElem? (i := 41) rfl))) (by decide) (by decide) (by decide))))
    have F230 : Fld Z h223 g "com/example/lambdalane/lambdalane/NodeGraph" "outEdgeOf" "[I" (.ref oe) := ((((GoutEdgeOf204.other W207 (Or.inl nglf204)).other W213 (Or.inl ngrt204)).other W219 (Or.inl ngco204)).other W223 (Or.inr (slot_ne (t := (.array .int)) (t' := .int) (Or.inr (hw _ (List.mem_of_getElem? (i := 28) rfl))) (Or.inl (hw _ (List.mem_of_getElem? (i := 41) rfl))) (by decide) (by decide) (by decide))))
    have F231 : own_IA Z h223 lf cap (fun i => if i = sz then lv else fl i) := (own_IA_other (own_IA_other (own_IA_other H207 W213 nlfrt204) W219 nlfco204) W223 (Ne.symm nglf204))
    have F232 : own_IA Z h223 rt cap (fun i => if i = sz then rv else fr i) := (own_IA_other (own_IA_other H213 W219 nrtco204) W223 (Ne.symm ngrt204))
    have F233 : own_IA Z h223 co cap (fun i => if i = sz then (Int32.ofNat 0) else fc i) := (own_IA_other H219 W223 (Ne.symm ngco204))
    have F234 : own_IA Z h223 ie (7 + 1) I := (own_IA_other (own_IA_other (own_IA_other (own_IA_other HI204 W207 (Ne.symm nlfie204)) W213 (Ne.symm nrtie204)) W219 (Ne.symm ncoie204)) W223 (Ne.symm ngie204))
    have F235 : own_IA Z h223 oe (7 + 1) O := (own_IA_other (own_IA_other (own_IA_other (own_IA_other HO204 W207 (Ne.symm nlfoe204)) W213 (Ne.symm nrtoe204)) W219 (Ne.symm ncooe204)) W223 (Ne.symm ngoe204))
    refine own_ret X223 hx hlk hret rfl (Or.inl ⟨rfl, by simp, _, rfl⟩) (hb hby d4_176) ⟨rfl, M223, cap, by omega, hcap, ?_⟩ hc hs
    rw [e223]
    exact ⟨lf, rt, co, ie, oe, _, _, _, ⟨F224, F225, F226, F227, F228, F229, F230, (own_inc (k := sz) (by omega) ▸ F223)⟩, ⟨F231, F232, F233, F234, F235⟩, fun i hi => own_ag hag i hi, ⟨nglf204, ngrt204, ngco204, ngie204, ngoe204, nlfrt204, nlfco204, nlfie204, nlfoe204, nrtco204, nrtie204, nrtoe204, ncoie204, ncooe204, nieoe204⟩, ⟨gg204, glf204, grt204, gco204, gie204, goe204, Z223⟩⟩
  · have hk0 : ¬ Int32.ofNat kc = (0 : Int32) := fun z => absurd ((own_inj (b := 0) (by omega) (by omega)).mp z) (by omega)
    have hik := own_i (k := kc) (by omega)
    refine own_by (fun _ kont => XS.ifNo X219.here hx rfl (hb hby d4_95) rfl (XT.i0_eq_f hk0) kont) ?_
    show own_Go p e below _ (T219.setTop (mkF m 98 #[.val (.ref g), .val (.int (0 : Int32)), .val (.int rv), .val (.int (Int32.ofNat kc)), o] []))
    refine own_by (fun _ kont => XS.iloadN X219.here hx rfl (hb hby d4_98) rfl kont) ?_
    show own_Go p e below _ (T219.setTop (mkF m 99 #[.val (.ref g), .val (.int (0 : Int32)), .val (.int rv), .val (.int (Int32.ofNat kc)), o] [(.int (0 : Int32))]))
    refine own_by (fun _ kont => XS.ifNo X219.here hx rfl (hb hby d4_99) rfl (XT.i0_ne_f (by decide)) kont) ?_
    show own_Go p e below _ (T219.setTop (mkF m 102 #[.val (.ref g), .val (.int (0 : Int32)), .val (.int rv), .val (.int (Int32.ofNat kc)), o] []))
    refine own_by (fun _ kont => XS.aloadN X219.here hx rfl (hb hby d4_102) rfl rfl kont) ?_
    show own_Go p e below _ (T219.setTop (mkF m 103 #[.val (.ref g), .val (.int (0 : Int32)), .val (.int rv), .val (.int (Int32.ofNat kc)), o] [(.ref g)]))
    have F236 : Fld Z h219 g "com/example/lambdalane/lambdalane/NodeGraph" "inEdgeOf" "[I" (.ref ie) := (((GinEdgeOf204.other W207 (Or.inl nglf204)).other W213 (Or.inl ngrt204)).other W219 (Or.inl ngco204))
    obtain ⟨T237, X237, e237, st237⟩ := getF X219 hx hZ hown (host := "") (Or.inl (hw _ (List.mem_of_getElem? (i := 25) rfl))) Via.refl e219 F236 (g := (mkF m 103 #[.val (.ref g), .val (.int (0 : Int32)), .val (.int rv), .val (.int (Int32.ofNat kc)), o] [(.ref g)])) rfl rfl (hb hby d4_103)
    refine own_by st237 ?_
    show own_Go p e below _ (T237.setTop (mkF m 106 #[.val (.ref g), .val (.int (0 : Int32)), .val (.int rv), .val (.int (Int32.ofNat kc)), o] [(.ref ie)]))
    refine own_by (fun _ kont => XS.goto X237.here hx rfl (pc0 := 106) (pc' := 113) rfl (hb hby d4_106) (by decide) (by decide) kont) ?_
    show own_Go p e below _ (T237.setTop (mkF m 113 #[.val (.ref g), .val (.int (0 : Int32)), .val (.int rv), .val (.int (Int32.ofNat kc)), o] [(.ref ie)]))
    refine own_by (fun _ kont => XS.astoreS X237.here hx rfl (hb hby d4_113) rfl rfl rfl rfl ho kont) ?_
    show own_Go p e below _ (T237.setTop (mkF m 115 #[.val (.ref g), .val (.int (0 : Int32)), .val (.int rv), .val (.int (Int32.ofNat kc)), .val (.ref ie)] []))
    refine own_by (fun _ kont => XS.iloadN X237.here hx rfl (hb hby d4_115) rfl kont) ?_
    show own_Go p e below _ (T237.setTop (mkF m 116 #[.val (.ref g), .val (.int (0 : Int32)), .val (.int rv), .val (.int (Int32.ofNat kc)), .val (.ref ie)] [(.int (0 : Int32))]))
    refine own_by (fun _ kont => XS.ifNo X237.here hx rfl (hb hby d4_116) rfl (XT.i0_ne_f (by decide)) kont) ?_
    show own_Go p e below _ (T237.setTop (mkF m 119 #[.val (.ref g), .val (.int (0 : Int32)), .val (.int rv), .val (.int (Int32.ofNat kc)), .val (.ref ie)] []))
    refine own_by (fun _ kont => XT.iconstV X237.here hx rfl (1 : Int32) (hb hby d4_119) rfl kont) ?_
    show own_Go p e below _ (T237.setTop (mkF m 120 #[.val (.ref g), .val (.int (0 : Int32)), .val (.int rv), .val (.int (Int32.ofNat kc)), .val (.ref ie)] [(.int (1 : Int32))]))
    refine own_by (fun _ kont => XS.goto X237.here hx rfl (pc0 := 120) (pc' := 124) rfl (hb hby d4_120) (by decide) (by decide) kont) ?_
    show own_Go p e below _ (T237.setTop (mkF m 124 #[.val (.ref g), .val (.int (0 : Int32)), .val (.int rv), .val (.int (Int32.ofNat kc)), .val (.ref ie)] [(.int (1 : Int32))]))
    refine own_by (fun _ kont => XS.iloadN X237.here hx rfl (hb hby d4_124) rfl kont) ?_
    show own_Go p e below _ (T237.setTop (mkF m 125 #[.val (.ref g), .val (.int (0 : Int32)), .val (.int rv), .val (.int (Int32.ofNat kc)), .val (.ref ie)] [(.int rv), (.int (1 : Int32))]))
    refine own_by (fun _ kont => XS.ifYes X237.here hx rfl (pc0 := 125) (pc' := 132) rfl (hb hby d4_125) rfl (XT.i0_ne_t hr0) (by decide) (by decide) kont) ?_
    show own_Go p e below _ (T237.setTop (mkF m 132 #[.val (.ref g), .val (.int (0 : Int32)), .val (.int rv), .val (.int (Int32.ofNat kc)), .val (.ref ie)] [(.int (1 : Int32))]))
    refine own_by (fun _ kont => XT.iconstV X237.here hx rfl (0 : Int32) (hb hby d4_132) rfl kont) ?_
    show own_Go p e below _ (T237.setTop (mkF m 133 #[.val (.ref g), .val (.int (0 : Int32)), .val (.int rv), .val (.int (Int32.ofNat kc)), .val (.ref ie)] [(.int (0 : Int32)), (.int (1 : Int32))]))
    refine own_by (fun _ kont => XS.icmpNo X237.here hx rfl (hb hby d4_133) rfl (XT.ii_eq_f (by decide)) kont) ?_
    show own_Go p e below _ (T237.setTop (mkF m 136 #[.val (.ref g), .val (.int (0 : Int32)), .val (.int rv), .val (.int (Int32.ofNat kc)), .val (.ref ie)] []))
    refine own_by (fun _ kont => XS.aload X237.here hx rfl (hb hby d4_136) rfl rfl kont) ?_
    show own_Go p e below _ (T237.setTop (mkF m 138 #[.val (.ref g), .val (.int (0 : Int32)), .val (.int rv), .val (.int (Int32.ofNat kc)), .val (.ref ie)] [(.ref ie)]))
    refine own_by (fun _ kont => XS.iloadN X237.here hx rfl (hb hby d4_138) rfl kont) ?_
    show own_Go p e below _ (T237.setTop (mkF m 139 #[.val (.ref g), .val (.int (0 : Int32)), .val (.int rv), .val (.int (Int32.ofNat kc)), .val (.ref ie)] [(.int (Int32.ofNat kc)), (.ref ie)]))
    have F238 : own_IA Z h219 ie (7 + 1) I := (own_IA_other (own_IA_other (own_IA_other HI204 W207 (Ne.symm nlfie204)) W213 (Ne.symm nrtie204)) W219 (Ne.symm ncoie204))
    refine own_by (fun _ kont => own_ldN X237 hx hZ e237 F238 (j := (Int32.ofNat kc)) kc hik (by omega) rfl rfl (hb hby d4_139) kont) ?_
    show own_Go p e below _ (T237.setTop (mkF m 140 #[.val (.ref g), .val (.int (0 : Int32)), .val (.int rv), .val (.int (Int32.ofNat kc)), .val (.ref ie)] [(.int (I kc))]))
    refine own_by (fun _ kont => XS.ifYes X237.here hx rfl (pc0 := 140) (pc' := 157) rfl (hb hby d4_140) rfl (XT.i0_lt_t hI) (by decide) (by decide) kont) ?_
    show own_Go p e below _ (T237.setTop (mkF m 157 #[.val (.ref g), .val (.int (0 : Int32)), .val (.int rv), .val (.int (Int32.ofNat kc)), .val (.ref ie)] []))
    refine own_by (fun _ kont => XS.aload X237.here hx rfl (hb hby d4_157) rfl rfl kont) ?_
    show own_Go p e below _ (T237.setTop (mkF m 159 #[.val (.ref g), .val (.int (0 : Int32)), .val (.int rv), .val (.int (Int32.ofNat kc)), .val (.ref ie)] [(.ref ie)]))
    refine own_by (fun _ kont => XS.iloadN X237.here hx rfl (hb hby d4_159) rfl kont) ?_
    show own_Go p e below _ (T237.setTop (mkF m 160 #[.val (.ref g), .val (.int (0 : Int32)), .val (.int rv), .val (.int (Int32.ofNat kc)), .val (.ref ie)] [(.int (Int32.ofNat kc)), (.ref ie)]))
    refine own_by (fun _ kont => XS.aloadN X237.here hx rfl (hb hby d4_160) rfl rfl kont) ?_
    show own_Go p e below _ (T237.setTop (mkF m 161 #[.val (.ref g), .val (.int (0 : Int32)), .val (.int rv), .val (.int (Int32.ofNat kc)), .val (.ref ie)] [(.ref g), (.int (Int32.ofNat kc)), (.ref ie)]))
    have F239 : Fld Z h219 g "com/example/lambdalane/lambdalane/NodeGraph" "size" "I" (.int (Int32.ofNat sz)) := (F216.other W219 (Or.inl ngco204))
    obtain ⟨T240, X240, e240, st240⟩ := getF X237 hx hZ hown (host := "") (Or.inl (hw _ (List.mem_of_getElem? (i := 40) rfl))) Via.refl e237 F239 (g := (mkF m 161 #[.val (.ref g), .val (.int (0 : Int32)), .val (.int rv), .val (.int (Int32.ofNat kc)), .val (.ref ie)] [(.ref g), (.int (Int32.ofNat kc)), (.ref ie)])) rfl rfl (hb hby d4_161)
    refine own_by st240 ?_
    show own_Go p e below _ (T240.setTop (mkF m 164 #[.val (.ref g), .val (.int (0 : Int32)), .val (.int rv), .val (.int (Int32.ofNat kc)), .val (.ref ie)] [(.int (Int32.ofNat sz)), (.int (Int32.ofNat kc)), (.ref ie)]))
    obtain ⟨T241, h241, X241, e241, W241, H241, st241⟩ := own_stN X240 hx hZ e240 F238 (j := (Int32.ofNat kc)) kc hik (by omega) (g := (mkF m 164 #[.val (.ref g), .val (.int (0 : Int32)), .val (.int rv), .val (.int (Int32.ofNat kc)), .val (.ref ie)] [(.int (Int32.ofNat sz)), (.int (Int32.ofNat kc)), (.ref ie)])) rfl rfl (hb hby d4_164)
    obtain ⟨L241, X241, M241⟩ := own_hide X241 (Fr.snoc X241 M219 gie204)
    have Z241 : n0 ≤ h241.size := (by rw [Wr.size W241]; exact Z219)
    refine own_by st241 ?_
    show own_Go p e below _ (T241.setTop (mkF m 165 #[.val (.ref g), .val (.int (0 : Int32)), .val (.int rv), .val (.int (Int32.ofNat kc)), .val (.ref ie)] []))
    refine own_by (fun _ kont => XS.aloadN X241.here hx rfl (hb hby d4_165) rfl rfl kont) ?_
    show own_Go p e below _ (T241.setTop (mkF m 166 #[.val (.ref g), .val (.int (0 : Int32)), .val (.int rv), .val (.int (Int32.ofNat kc)), .val (.ref ie)] [(.ref g)]))
    refine own_by (fun _ kont => XS.dup X241.here hx rfl (hb hby d4_166) rfl rfl kont) ?_
    show own_Go p e below _ (T241.setTop (mkF m 167 #[.val (.ref g), .val (.int (0 : Int32)), .val (.int rv), .val (.int (Int32.ofNat kc)), .val (.ref ie)] [(.ref g), (.ref g)]))
    have F242 : Fld Z h241 g "com/example/lambdalane/lambdalane/NodeGraph" "size" "I" (.int (Int32.ofNat sz)) := (F239.other W241 (Or.inl ngie204))
    obtain ⟨T243, X243, e243, st243⟩ := getF X241 hx hZ hown (host := "") (Or.inl (hw _ (List.mem_of_getElem? (i := 40) rfl))) Via.refl e241 F242 (g := (mkF m 167 #[.val (.ref g), .val (.int (0 : Int32)), .val (.int rv), .val (.int (Int32.ofNat kc)), .val (.ref ie)] [(.ref g), (.ref g)])) rfl rfl (hb hby d4_167)
    refine own_by st243 ?_
    show own_Go p e below _ (T243.setTop (mkF m 170 #[.val (.ref g), .val (.int (0 : Int32)), .val (.int rv), .val (.int (Int32.ofNat kc)), .val (.ref ie)] [(.int (Int32.ofNat sz)), (.ref g)]))
    refine own_by (fun _ kont => XT.dupX1 X243.here hx rfl (hb hby d4_170) rfl rfl rfl kont) ?_
    show own_Go p e below _ (T243.setTop (mkF m 171 #[.val (.ref g), .val (.int (0 : Int32)), .val (.int rv), .val (.int (Int32.ofNat kc)), .val (.ref ie)] [(.int (Int32.ofNat sz)), (.ref g), (.int (Int32.ofNat sz))]))
    refine own_by (fun _ kont => XT.iconstV X243.here hx rfl (1 : Int32) (hb hby d4_171) rfl kont) ?_
    show own_Go p e below _ (T243.setTop (mkF m 172 #[.val (.ref g), .val (.int (0 : Int32)), .val (.int rv), .val (.int (Int32.ofNat kc)), .val (.ref ie)] [(.int (1 : Int32)), (.int (Int32.ofNat sz)), (.ref g), (.int (Int32.ofNat sz))]))
    refine own_by (fun _ kont => XS.iadd X243.here hx rfl (hb hby d4_172) rfl kont) ?_
    show own_Go p e below _ (T243.setTop (mkF m 173 #[.val (.ref g), .val (.int (0 : Int32)), .val (.int rv), .val (.int (Int32.ofNat kc)), .val (.ref ie)] [(.int ((Int32.ofNat sz) + (1 : Int32))), (.ref g), (.int (Int32.ofNat sz))]))
    have F244 : Exa Z h241 g "com/example/lambdalane/lambdalane/NodeGraph" := ((((GE204.wr W207).wr W213).wr W219).wr W241)
    obtain ⟨T245, h245, X245, e245, W245, st245⟩ := putF X243 hx hZ hown (host := "") (Or.inl (hw _ (List.mem_of_getElem? (i := 40) rfl))) Via.refl e243 F242 F244 (Or.inl (hw _ (List.mem_of_getElem? (i := 41) rfl))) (hw _ (List.mem_of_getElem? (i := 2) rfl)) (ty := .int) (by decide) rfl rfl (g := (mkF m 173 #[.val (.ref g), .val (.int (0 : Int32)), .val (.int rv), .val (.int (Int32.ofNat kc)), .val (.ref ie)] [(.int ((Int32.ofNat sz) + (1 : Int32))), (.ref g), (.int (Int32.ofNat sz))])) rfl rfl (hb hby d4_173)
    obtain ⟨L245, X245, M245⟩ := own_hide X245 (Fr.snoc X245 M241 gg204)
    have Z245 : n0 ≤ h245.size := (by rw [Wr.size W245]; exact Z241)
    have F245 : Fld Z h245 g "com/example/lambdalane/lambdalane/NodeGraph" "size" "I" (.int ((Int32.ofNat sz) + (1 : Int32))) := (F242.same W245)
    refine own_by st245 ?_
    show own_Go p e below _ (T245.setTop (mkF m 176 #[.val (.ref g), .val (.int (0 : Int32)), .val (.int rv), .val (.int (Int32.ofNat kc)), .val (.ref ie)] [(.int (Int32.ofNat sz))]))
    have F246 : Exa Z h245 g "com/example/lambdalane/lambdalane/NodeGraph" := (F244.wr W245)
    have F247 : Fld Z h245 g "com/example/lambdalane/lambdalane/NodeGraph" "side" "I" (.int sd) := (((((Gside204.other W207 (Or.inl nglf204)).other W213 (Or.inl ngrt204)).other W219 (Or.inl ngco204)).other W241 (Or.inl ngie204)).other W245 (Or.inr (slot_ne (t := .int) (t' := .int) (Or.inr (hw _ (List.mem_of_getElem? (i := 13) rfl))) (Or.inl (hw _ (List.mem_of_getElem? (i := 41) rfl))) (by decide) (by decide) (by decide))))
    have F248 : Fld Z h245 g "com/example/lambdalane/lambdalane/NodeGraph" "left" "[I" (.ref lf) := (((((Gleft204.other W207 (Or.inl nglf204)).other W213 (Or.inl ngrt204)).other W219 (Or.inl ngco204)).other W241 (Or.inl ngie204)).other W245 (Or.inr (slot_ne (t := (.array .int)) (t' := .int) (Or.inl (hw _ (List.mem_of_getElem? (i := 20) rfl))) (Or.inl (hw _ (List.mem_of_getElem? (i := 41) rfl))) (by decide) (by decide) (by decide))))
    have F249 : Fld Z h245 g "com/example/lambdalane/lambdalane/NodeGraph" "right" "[I" (.ref rt) := ((((F208.other W213 (Or.inl ngrt204)).other W219 (Or.inl ngco204)).other W241 (Or.inl ngie204)).other W245 (Or.inr (slot_ne (t := (.array .int)) (t' := .int) (Or.inl (hw _ (List.mem_of_getElem? (i := 22) rfl))) (Or.inl (hw _ (List.mem_of_getElem? (i := 41) rfl))) (by decide) (by decide) (by decide))))
    have F250 : Fld Z h245 g "com/example/lambdalane/lambdalane/NodeGraph" "colour" "[I" (.ref co) := (((F214.other W219 (Or.inl ngco204)).other W241 (Or.inl ngie204)).other W245 (Or.inr (slot_ne (t := (.array .int)) (t' := .int) (Or.inl (hw _ (List.mem_of_getElem? (i := 24) rfl))) (Or.inl (hw _ (List.mem_of_getElem? (i := 41) rfl))) (by decide) (by decide) (by decide))))
    have F251 : Fld Z h245 g "com/example/lambdalane/lambdalane/NodeGraph" "inEdgeOf" "[I" (.ref ie) := ((F236.other W241 (Or.inl ngie204)).other W245 (Or.inr (slot_ne (t := (.array .int)) (t' := .int) (Or.inr (hw _ (List.mem_of_getElem? (i := 26) rfl))) (Or.inl (hw _ (List.mem_of_getElem? (i := 41) rfl))) (by decide) (by decide) (by decide))))
    have F252 : Fld Z h245 g "com/example/lambdalane/lambdalane/NodeGraph" "outEdgeOf" "[I" (.ref oe) := (((((GoutEdgeOf204.other W207 (Or.inl nglf204)).other W213 (Or.inl ngrt204)).other W219 (Or.inl ngco204)).other W241 (Or.inl ngie204)).other W245 (Or.inr (slot_ne (t := (.array .int)) (t' := .int) (Or.inr (hw _ (List.mem_of_getElem? (i := 28) rfl))) (Or.inl (hw _ (List.mem_of_getElem? (i := 41) rfl))) (by decide) (by decide) (by decide))))
    have F253 : own_IA Z h245 lf cap (fun i => if i = sz then (0 : Int32) else fl i) := (own_IA_other (own_IA_other (own_IA_other (own_IA_other H207 W213 nlfrt204) W219 nlfco204) W241 nlfie204) W245 (Ne.symm nglf204))
    have F254 : own_IA Z h245 rt cap (fun i => if i = sz then rv else fr i) := (own_IA_other (own_IA_other (own_IA_other H213 W219 nrtco204) W241 nrtie204) W245 (Ne.symm ngrt204))
    have F255 : own_IA Z h245 co cap (fun i => if i = sz then (Int32.ofNat kc) else fc i) := (own_IA_other (own_IA_other H219 W241 ncoie204) W245 (Ne.symm ngco204))
    have F256 : own_IA Z h245 ie (7 + 1) (fun i => if i = kc then (Int32.ofNat sz) else I i) := (own_IA_other H241 W245 (Ne.symm ngie204))
    have F257 : own_IA Z h245 oe (7 + 1) O := (own_IA_other (own_IA_other (own_IA_other (own_IA_other (own_IA_other HO204 W207 (Ne.symm nlfoe204)) W213 (Ne.symm nrtoe204)) W219 (Ne.symm ncooe204)) W241 (Ne.symm nieoe204)) W245 (Ne.symm ngoe204))
    refine own_ret X245 hx hlk hret rfl (Or.inl ⟨rfl, by simp, _, rfl⟩) (hb hby d4_176) ⟨rfl, M245, cap, by omega, hcap, ?_⟩ hc hs
    rw [e245]
    exact ⟨lf, rt, co, ie, oe, _, _, _, ⟨F246, F247, F248, F249, F250, F251, F252, (own_inc (k := sz) (by omega) ▸ F245)⟩, ⟨F253, F254, F255, F256, F257⟩, fun i hi => own_ag hag i hi, ⟨nglf204, ngrt204, ngco204, ngie204, ngoe204, nlfrt204, nlfco204, nlfie204, nlfoe204, nrtco204, nrtie204, nrtoe204, ncoie204, ncooe204, nieoe204⟩, ⟨gg204, glf204, grt204, gco204, gie204, goe204, Z245⟩⟩
  · have hk0 : ¬ Int32.ofNat kc = (0 : Int32) := fun z => absurd ((own_inj (b := 0) (by omega) (by omega)).mp z) (by omega)
    have hik := own_i (k := kc) (by omega)
    refine own_by (fun _ kont => XS.ifNo X219.here hx rfl (hb hby d4_95) rfl (XT.i0_eq_f hk0) kont) ?_
    show own_Go p e below _ (T219.setTop (mkF m 98 #[.val (.ref g), .val (.int lv), .val (.int (0 : Int32)), .val (.int (Int32.ofNat kc)), o] []))
    refine own_by (fun _ kont => XS.iloadN X219.here hx rfl (hb hby d4_98) rfl kont) ?_
    show own_Go p e below _ (T219.setTop (mkF m 99 #[.val (.ref g), .val (.int lv), .val (.int (0 : Int32)), .val (.int (Int32.ofNat kc)), o] [(.int lv)]))
    refine own_by (fun _ kont => XS.ifYes X219.here hx rfl (pc0 := 99) (pc' := 109) rfl (hb hby d4_99) rfl (XT.i0_ne_t hl0) (by decide) (by decide) kont) ?_
    show own_Go p e below _ (T219.setTop (mkF m 109 #[.val (.ref g), .val (.int lv), .val (.int (0 : Int32)), .val (.int (Int32.ofNat kc)), o] []))
    refine own_by (fun _ kont => XS.aloadN X219.here hx rfl (hb hby d4_109) rfl rfl kont) ?_
    show own_Go p e below _ (T219.setTop (mkF m 110 #[.val (.ref g), .val (.int lv), .val (.int (0 : Int32)), .val (.int (Int32.ofNat kc)), o] [(.ref g)]))
    have F258 : Fld Z h219 g "com/example/lambdalane/lambdalane/NodeGraph" "outEdgeOf" "[I" (.ref oe) := (((GoutEdgeOf204.other W207 (Or.inl nglf204)).other W213 (Or.inl ngrt204)).other W219 (Or.inl ngco204))
    obtain ⟨T259, X259, e259, st259⟩ := getF X219 hx hZ hown (host := "") (Or.inl (hw _ (List.mem_of_getElem? (i := 27) rfl))) Via.refl e219 F258 (g := (mkF m 110 #[.val (.ref g), .val (.int lv), .val (.int (0 : Int32)), .val (.int (Int32.ofNat kc)), o] [(.ref g)])) rfl rfl (hb hby d4_110)
    refine own_by st259 ?_
    show own_Go p e below _ (T259.setTop (mkF m 113 #[.val (.ref g), .val (.int lv), .val (.int (0 : Int32)), .val (.int (Int32.ofNat kc)), o] [(.ref oe)]))
    refine own_by (fun _ kont => XS.astoreS X259.here hx rfl (hb hby d4_113) rfl rfl rfl rfl ho kont) ?_
    show own_Go p e below _ (T259.setTop (mkF m 115 #[.val (.ref g), .val (.int lv), .val (.int (0 : Int32)), .val (.int (Int32.ofNat kc)), .val (.ref oe)] []))
    refine own_by (fun _ kont => XS.iloadN X259.here hx rfl (hb hby d4_115) rfl kont) ?_
    show own_Go p e below _ (T259.setTop (mkF m 116 #[.val (.ref g), .val (.int lv), .val (.int (0 : Int32)), .val (.int (Int32.ofNat kc)), .val (.ref oe)] [(.int lv)]))
    refine own_by (fun _ kont => XS.ifYes X259.here hx rfl (pc0 := 116) (pc' := 123) rfl (hb hby d4_116) rfl (XT.i0_ne_t hl0) (by decide) (by decide) kont) ?_
    show own_Go p e below _ (T259.setTop (mkF m 123 #[.val (.ref g), .val (.int lv), .val (.int (0 : Int32)), .val (.int (Int32.ofNat kc)), .val (.ref oe)] []))
    refine own_by (fun _ kont => XT.iconstV X259.here hx rfl (0 : Int32) (hb hby d4_123) rfl kont) ?_
    show own_Go p e below _ (T259.setTop (mkF m 124 #[.val (.ref g), .val (.int lv), .val (.int (0 : Int32)), .val (.int (Int32.ofNat kc)), .val (.ref oe)] [(.int (0 : Int32))]))
    refine own_by (fun _ kont => XS.iloadN X259.here hx rfl (hb hby d4_124) rfl kont) ?_
    show own_Go p e below _ (T259.setTop (mkF m 125 #[.val (.ref g), .val (.int lv), .val (.int (0 : Int32)), .val (.int (Int32.ofNat kc)), .val (.ref oe)] [(.int (0 : Int32)), (.int (0 : Int32))]))
    refine own_by (fun _ kont => XS.ifNo X259.here hx rfl (hb hby d4_125) rfl (XT.i0_ne_f (by decide)) kont) ?_
    show own_Go p e below _ (T259.setTop (mkF m 128 #[.val (.ref g), .val (.int lv), .val (.int (0 : Int32)), .val (.int (Int32.ofNat kc)), .val (.ref oe)] [(.int (0 : Int32))]))
    refine own_by (fun _ kont => XT.iconstV X259.here hx rfl (1 : Int32) (hb hby d4_128) rfl kont) ?_
    show own_Go p e below _ (T259.setTop (mkF m 129 #[.val (.ref g), .val (.int lv), .val (.int (0 : Int32)), .val (.int (Int32.ofNat kc)), .val (.ref oe)] [(.int (1 : Int32)), (.int (0 : Int32))]))
    refine own_by (fun _ kont => XS.goto X259.here hx rfl (pc0 := 129) (pc' := 133) rfl (hb hby d4_129) (by decide) (by decide) kont) ?_
    show own_Go p e below _ (T259.setTop (mkF m 133 #[.val (.ref g), .val (.int lv), .val (.int (0 : Int32)), .val (.int (Int32.ofNat kc)), .val (.ref oe)] [(.int (1 : Int32)), (.int (0 : Int32))]))
    refine own_by (fun _ kont => XS.icmpNo X259.here hx rfl (hb hby d4_133) rfl (XT.ii_eq_f (by decide)) kont) ?_
    show own_Go p e below _ (T259.setTop (mkF m 136 #[.val (.ref g), .val (.int lv), .val (.int (0 : Int32)), .val (.int (Int32.ofNat kc)), .val (.ref oe)] []))
    refine own_by (fun _ kont => XS.aload X259.here hx rfl (hb hby d4_136) rfl rfl kont) ?_
    show own_Go p e below _ (T259.setTop (mkF m 138 #[.val (.ref g), .val (.int lv), .val (.int (0 : Int32)), .val (.int (Int32.ofNat kc)), .val (.ref oe)] [(.ref oe)]))
    refine own_by (fun _ kont => XS.iloadN X259.here hx rfl (hb hby d4_138) rfl kont) ?_
    show own_Go p e below _ (T259.setTop (mkF m 139 #[.val (.ref g), .val (.int lv), .val (.int (0 : Int32)), .val (.int (Int32.ofNat kc)), .val (.ref oe)] [(.int (Int32.ofNat kc)), (.ref oe)]))
    have F260 : own_IA Z h219 oe (7 + 1) O := (own_IA_other (own_IA_other (own_IA_other HO204 W207 (Ne.symm nlfoe204)) W213 (Ne.symm nrtoe204)) W219 (Ne.symm ncooe204))
    refine own_by (fun _ kont => own_ldN X259 hx hZ e259 F260 (j := (Int32.ofNat kc)) kc hik (by omega) rfl rfl (hb hby d4_139) kont) ?_
    show own_Go p e below _ (T259.setTop (mkF m 140 #[.val (.ref g), .val (.int lv), .val (.int (0 : Int32)), .val (.int (Int32.ofNat kc)), .val (.ref oe)] [(.int (O kc))]))
    refine own_by (fun _ kont => XS.ifYes X259.here hx rfl (pc0 := 140) (pc' := 157) rfl (hb hby d4_140) rfl (XT.i0_lt_t hO) (by decide) (by decide) kont) ?_
    show own_Go p e below _ (T259.setTop (mkF m 157 #[.val (.ref g), .val (.int lv), .val (.int (0 : Int32)), .val (.int (Int32.ofNat kc)), .val (.ref oe)] []))
    refine own_by (fun _ kont => XS.aload X259.here hx rfl (hb hby d4_157) rfl rfl kont) ?_
    show own_Go p e below _ (T259.setTop (mkF m 159 #[.val (.ref g), .val (.int lv), .val (.int (0 : Int32)), .val (.int (Int32.ofNat kc)), .val (.ref oe)] [(.ref oe)]))
    refine own_by (fun _ kont => XS.iloadN X259.here hx rfl (hb hby d4_159) rfl kont) ?_
    show own_Go p e below _ (T259.setTop (mkF m 160 #[.val (.ref g), .val (.int lv), .val (.int (0 : Int32)), .val (.int (Int32.ofNat kc)), .val (.ref oe)] [(.int (Int32.ofNat kc)), (.ref oe)]))
    refine own_by (fun _ kont => XS.aloadN X259.here hx rfl (hb hby d4_160) rfl rfl kont) ?_
    show own_Go p e below _ (T259.setTop (mkF m 161 #[.val (.ref g), .val (.int lv), .val (.int (0 : Int32)), .val (.int (Int32.ofNat kc)), .val (.ref oe)] [(.ref g), (.int (Int32.ofNat kc)), (.ref oe)]))
    have F261 : Fld Z h219 g "com/example/lambdalane/lambdalane/NodeGraph" "size" "I" (.int (Int32.ofNat sz)) := (F216.other W219 (Or.inl ngco204))
    obtain ⟨T262, X262, e262, st262⟩ := getF X259 hx hZ hown (host := "") (Or.inl (hw _ (List.mem_of_getElem? (i := 40) rfl))) Via.refl e259 F261 (g := (mkF m 161 #[.val (.ref g), .val (.int lv), .val (.int (0 : Int32)), .val (.int (Int32.ofNat kc)), .val (.ref oe)] [(.ref g), (.int (Int32.ofNat kc)), (.ref oe)])) rfl rfl (hb hby d4_161)
    refine own_by st262 ?_
    show own_Go p e below _ (T262.setTop (mkF m 164 #[.val (.ref g), .val (.int lv), .val (.int (0 : Int32)), .val (.int (Int32.ofNat kc)), .val (.ref oe)] [(.int (Int32.ofNat sz)), (.int (Int32.ofNat kc)), (.ref oe)]))
    obtain ⟨T263, h263, X263, e263, W263, H263, st263⟩ := own_stN X262 hx hZ e262 F260 (j := (Int32.ofNat kc)) kc hik (by omega) (g := (mkF m 164 #[.val (.ref g), .val (.int lv), .val (.int (0 : Int32)), .val (.int (Int32.ofNat kc)), .val (.ref oe)] [(.int (Int32.ofNat sz)), (.int (Int32.ofNat kc)), (.ref oe)])) rfl rfl (hb hby d4_164)
    obtain ⟨L263, X263, M263⟩ := own_hide X263 (Fr.snoc X263 M219 goe204)
    have Z263 : n0 ≤ h263.size := (by rw [Wr.size W263]; exact Z219)
    refine own_by st263 ?_
    show own_Go p e below _ (T263.setTop (mkF m 165 #[.val (.ref g), .val (.int lv), .val (.int (0 : Int32)), .val (.int (Int32.ofNat kc)), .val (.ref oe)] []))
    refine own_by (fun _ kont => XS.aloadN X263.here hx rfl (hb hby d4_165) rfl rfl kont) ?_
    show own_Go p e below _ (T263.setTop (mkF m 166 #[.val (.ref g), .val (.int lv), .val (.int (0 : Int32)), .val (.int (Int32.ofNat kc)), .val (.ref oe)] [(.ref g)]))
    refine own_by (fun _ kont => XS.dup X263.here hx rfl (hb hby d4_166) rfl rfl kont) ?_
    show own_Go p e below _ (T263.setTop (mkF m 167 #[.val (.ref g), .val (.int lv), .val (.int (0 : Int32)), .val (.int (Int32.ofNat kc)), .val (.ref oe)] [(.ref g), (.ref g)]))
    have F264 : Fld Z h263 g "com/example/lambdalane/lambdalane/NodeGraph" "size" "I" (.int (Int32.ofNat sz)) := (F261.other W263 (Or.inl ngoe204))
    obtain ⟨T265, X265, e265, st265⟩ := getF X263 hx hZ hown (host := "") (Or.inl (hw _ (List.mem_of_getElem? (i := 40) rfl))) Via.refl e263 F264 (g := (mkF m 167 #[.val (.ref g), .val (.int lv), .val (.int (0 : Int32)), .val (.int (Int32.ofNat kc)), .val (.ref oe)] [(.ref g), (.ref g)])) rfl rfl (hb hby d4_167)
    refine own_by st265 ?_
    show own_Go p e below _ (T265.setTop (mkF m 170 #[.val (.ref g), .val (.int lv), .val (.int (0 : Int32)), .val (.int (Int32.ofNat kc)), .val (.ref oe)] [(.int (Int32.ofNat sz)), (.ref g)]))
    refine own_by (fun _ kont => XT.dupX1 X265.here hx rfl (hb hby d4_170) rfl rfl rfl kont) ?_
    show own_Go p e below _ (T265.setTop (mkF m 171 #[.val (.ref g), .val (.int lv), .val (.int (0 : Int32)), .val (.int (Int32.ofNat kc)), .val (.ref oe)] [(.int (Int32.ofNat sz)), (.ref g), (.int (Int32.ofNat sz))]))
    refine own_by (fun _ kont => XT.iconstV X265.here hx rfl (1 : Int32) (hb hby d4_171) rfl kont) ?_
    show own_Go p e below _ (T265.setTop (mkF m 172 #[.val (.ref g), .val (.int lv), .val (.int (0 : Int32)), .val (.int (Int32.ofNat kc)), .val (.ref oe)] [(.int (1 : Int32)), (.int (Int32.ofNat sz)), (.ref g), (.int (Int32.ofNat sz))]))
    refine own_by (fun _ kont => XS.iadd X265.here hx rfl (hb hby d4_172) rfl kont) ?_
    show own_Go p e below _ (T265.setTop (mkF m 173 #[.val (.ref g), .val (.int lv), .val (.int (0 : Int32)), .val (.int (Int32.ofNat kc)), .val (.ref oe)] [(.int ((Int32.ofNat sz) + (1 : Int32))), (.ref g), (.int (Int32.ofNat sz))]))
    have F266 : Exa Z h263 g "com/example/lambdalane/lambdalane/NodeGraph" := ((((GE204.wr W207).wr W213).wr W219).wr W263)
    obtain ⟨T267, h267, X267, e267, W267, st267⟩ := putF X265 hx hZ hown (host := "") (Or.inl (hw _ (List.mem_of_getElem? (i := 40) rfl))) Via.refl e265 F264 F266 (Or.inl (hw _ (List.mem_of_getElem? (i := 41) rfl))) (hw _ (List.mem_of_getElem? (i := 2) rfl)) (ty := .int) (by decide) rfl rfl (g := (mkF m 173 #[.val (.ref g), .val (.int lv), .val (.int (0 : Int32)), .val (.int (Int32.ofNat kc)), .val (.ref oe)] [(.int ((Int32.ofNat sz) + (1 : Int32))), (.ref g), (.int (Int32.ofNat sz))])) rfl rfl (hb hby d4_173)
    obtain ⟨L267, X267, M267⟩ := own_hide X267 (Fr.snoc X267 M263 gg204)
    have Z267 : n0 ≤ h267.size := (by rw [Wr.size W267]; exact Z263)
    have F267 : Fld Z h267 g "com/example/lambdalane/lambdalane/NodeGraph" "size" "I" (.int ((Int32.ofNat sz) + (1 : Int32))) := (F264.same W267)
    refine own_by st267 ?_
    show own_Go p e below _ (T267.setTop (mkF m 176 #[.val (.ref g), .val (.int lv), .val (.int (0 : Int32)), .val (.int (Int32.ofNat kc)), .val (.ref oe)] [(.int (Int32.ofNat sz))]))
    have F268 : Exa Z h267 g "com/example/lambdalane/lambdalane/NodeGraph" := (F266.wr W267)
    have F269 : Fld Z h267 g "com/example/lambdalane/lambdalane/NodeGraph" "side" "I" (.int sd) := (((((Gside204.other W207 (Or.inl nglf204)).other W213 (Or.inl ngrt204)).other W219 (Or.inl ngco204)).other W263 (Or.inl ngoe204)).other W267 (Or.inr (slot_ne (t := .int) (t' := .int) (Or.inr (hw _ (List.mem_of_getElem? (i := 13) rfl))) (Or.inl (hw _ (List.mem_of_getElem? (i := 41) rfl))) (by decide) (by decide) (by decide))))
    have F270 : Fld Z h267 g "com/example/lambdalane/lambdalane/NodeGraph" "left" "[I" (.ref lf) := (((((Gleft204.other W207 (Or.inl nglf204)).other W213 (Or.inl ngrt204)).other W219 (Or.inl ngco204)).other W263 (Or.inl ngoe204)).other W267 (Or.inr (slot_ne (t := (.array .int)) (t' := .int) (Or.inl (hw _ (List.mem_of_getElem? (i := 20) rfl))) (Or.inl (hw _ (List.mem_of_getElem? (i := 41) rfl))) (by decide) (by decide) (by decide))))
    have F271 : Fld Z h267 g "com/example/lambdalane/lambdalane/NodeGraph" "right" "[I" (.ref rt) := ((((F208.other W213 (Or.inl ngrt204)).other W219 (Or.inl ngco204)).other W263 (Or.inl ngoe204)).other W267 (Or.inr (slot_ne (t := (.array .int)) (t' := .int) (Or.inl (hw _ (List.mem_of_getElem? (i := 22) rfl))) (Or.inl (hw _ (List.mem_of_getElem? (i := 41) rfl))) (by decide) (by decide) (by decide))))
    have F272 : Fld Z h267 g "com/example/lambdalane/lambdalane/NodeGraph" "colour" "[I" (.ref co) := (((F214.other W219 (Or.inl ngco204)).other W263 (Or.inl ngoe204)).other W267 (Or.inr (slot_ne (t := (.array .int)) (t' := .int) (Or.inl (hw _ (List.mem_of_getElem? (i := 24) rfl))) (Or.inl (hw _ (List.mem_of_getElem? (i := 41) rfl))) (by decide) (by decide) (by decide))))
    have F273 : Fld Z h267 g "com/example/lambdalane/lambdalane/NodeGraph" "inEdgeOf" "[I" (.ref ie) := (((((GinEdgeOf204.other W207 (Or.inl nglf204)).other W213 (Or.inl ngrt204)).other W219 (Or.inl ngco204)).other W263 (Or.inl ngoe204)).other W267 (Or.inr (slot_ne (t := (.array .int)) (t' := .int) (Or.inr (hw _ (List.mem_of_getElem? (i := 26) rfl))) (Or.inl (hw _ (List.mem_of_getElem? (i := 41) rfl))) (by decide) (by decide) (by decide))))
    have F274 : Fld Z h267 g "com/example/lambdalane/lambdalane/NodeGraph" "outEdgeOf" "[I" (.ref oe) := ((F258.other W263 (Or.inl ngoe204)).other W267 (Or.inr (slot_ne (t := (.array .int)) (t' := .int) (Or.inr (hw _ (List.mem_of_getElem? (i := 28) rfl))) (Or.inl (hw _ (List.mem_of_getElem? (i := 41) rfl))) (by decide) (by decide) (by decide))))
    have F275 : own_IA Z h267 lf cap (fun i => if i = sz then lv else fl i) := (own_IA_other (own_IA_other (own_IA_other (own_IA_other H207 W213 nlfrt204) W219 nlfco204) W263 nlfoe204) W267 (Ne.symm nglf204))
    have F276 : own_IA Z h267 rt cap (fun i => if i = sz then (0 : Int32) else fr i) := (own_IA_other (own_IA_other (own_IA_other H213 W219 nrtco204) W263 nrtoe204) W267 (Ne.symm ngrt204))
    have F277 : own_IA Z h267 co cap (fun i => if i = sz then (Int32.ofNat kc) else fc i) := (own_IA_other (own_IA_other H219 W263 ncooe204) W267 (Ne.symm ngco204))
    have F278 : own_IA Z h267 ie (7 + 1) I := (own_IA_other (own_IA_other (own_IA_other (own_IA_other (own_IA_other HI204 W207 (Ne.symm nlfie204)) W213 (Ne.symm nrtie204)) W219 (Ne.symm ncoie204)) W263 nieoe204) W267 (Ne.symm ngie204))
    have F279 : own_IA Z h267 oe (7 + 1) (fun i => if i = kc then (Int32.ofNat sz) else O i) := (own_IA_other H263 W267 (Ne.symm ngoe204))
    refine own_ret X267 hx hlk hret rfl (Or.inl ⟨rfl, by simp, _, rfl⟩) (hb hby d4_176) ⟨rfl, M267, cap, by omega, hcap, ?_⟩ hc hs
    rw [e267]
    exact ⟨lf, rt, co, ie, oe, _, _, _, ⟨F268, F269, F270, F271, F272, F273, F274, (own_inc (k := sz) (by omega) ▸ F267)⟩, ⟨F275, F276, F277, F278, F279⟩, fun i hi => own_ag hag i hi, ⟨nglf204, ngrt204, ngco204, ngie204, ngoe204, nlfrt204, nlfco204, nlfie204, nlfoe204, nrtco204, nrtie204, nrtoe204, ncoie204, ncooe204, nieoe204⟩, ⟨gg204, glf204, grt204, gco204, gie204, goe204, Z267⟩⟩
theorem own_ef_rmA (m : MethodId) (g : Addr) (lv : Int32) (rv : Int32) (kc : Int32) : entryFrame m #[(.ref g), (.int lv), (.int rv), (.int kc)] 5 = (mkF m 0 #[.val (.ref g), .val (.int lv), .val (.int rv), .val (.int kc), .unset] []) := by first | (simp [entryFrame, mkF, argsToLocals, Value.category, maxLocals]; done) | rfl
set_option maxRecDepth 65536 in
set_option maxHeartbeats 40000000 in
theorem rmA (l : Launch) (Z : State) (a0 : Array Value) (hw : ∀ d ∈ tables_1, d.before a0 Z = true) (ws : List Jvm.Cond) (g : Addr) (sd lv rv : Int32) (kc sz cap : Nat) (L R C I O I2 O2 : Nat → Int32) (h0 : Heap) (n0 : Nat) (G : own_G Z h0 n0 g sd 7 sz cap L R C I O) (hsz : sz ≤ cap) (hcap : cap ≤ 16) (h3 : sz ≤ 3) (hcol : (kc = 0 ∧ I = I2 ∧ O = O2) ∨ (1 ≤ kc ∧ kc ≤ 7 ∧ lv = 0 ∧ ¬ rv = 0 ∧ I kc < 0 ∧ I2 = (fun i => if i = kc then Int32.ofNat sz else I i) ∧ O = O2) ∨ (1 ≤ kc ∧ kc ≤ 7 ∧ ¬ lv = 0 ∧ rv = 0 ∧ O kc < 0 ∧ I = I2 ∧ O2 = (fun i => if i = kc then Int32.ofNat sz else O i))) :
    MetFree l (⟨"com/example/lambdalane/lambdalane/NodeGraph", "add", "(III)I"⟩ : MethodName) (head1 (Jvm.Cond.code (⟨"com/example/lambdalane/lambdalane/NodeGraph", "add", "(III)I"⟩ : MethodName) prog_42_method_2_code 5 (some .int) :: ws) ({ frames := 2, cells := 3, slots := 48, locals := 96 } : Room)) (fun aR UR => aR = #[(.ref g), (.int lv), (.int rv), (.int (Int32.ofNat kc))] ∧ Z.Warmed39 UR.vm ∧ UR.heap = h0) (fun _ _ _ _ _ => True) (fun _ UR oR UR' => ∃ vR LR, oR = .returned vR ∧ own_Q_rmA Z g sd lv rv kc sz L R C I2 O2 n0 vR UR'.heap LR ∧ FrameEnd UR oR UR' LR ({ frames := 2, cells := 3, slots := 48, locals := 96 } : Room).cells ({ frames := 2, cells := 3, slots := 48, locals := 96 } : Room).slots) := by
  refine MetFree.of_bodySF (plainFor_of_name own_pn0) hisR ?_
  intro p e s m args below meth c s₁ Bd hml0 hP hK
  obtain ⟨rfl, hZ, hh⟩ := hP
  have hx := Bd.exec
  have hby := Bd.bytes
  have hlk := Bd.notSynchronized
  have hret := Bd.returns
  have hml : c.maxLocals = 5 := hml0
  have hown : s.vm.findClass "com/example/lambdalane/lambdalane/NodeGraph" = some m.cls := findClass_of_methodNamed Bd.named
  have hnm := (name_of_methodNamed Bd.named Bd.method).1
  have X0 : Stand p l e ({ frames := 2, cells := 3, slots := 48, locals := 96 } : Room) s m #[(.ref g), (.int lv), (.int rv), (.int (Int32.ofNat kc))] below meth c s₁ [] 0 0 := Stand.of_body Bd
  have e0 : s₁.heap = h0 := by rw [← hh, Bd.state]; rfl
  have N0 := Fr.nil n0
  show own_Go p e below (own_K s (own_Q_rmA Z g sd lv rv kc sz L R C I2 O2 n0) ({ frames := 2, cells := 3, slots := 48, locals := 96 } : Room).cells ({ frames := 2, cells := 3, slots := 48, locals := 96 } : Room).slots) _
  refine own_by (fun tt kont => castTop (own_ef_rmA m g lv rv (Int32.ofNat kc)) kont) ?_
  show own_Go p e below _ (s₁.setTop (mkF m 0 #[.val (.ref g), .val (.int lv), .val (.int rv), .val (.int (Int32.ofNat kc)), .unset] []))
  have G0 := G
  obtain ⟨lf, rt, co, ie, oe, fl, fr, fc, ⟨GE280, Gside280, Gleft280, Gright280, Gcolour280, GinEdgeOf280, GoutEdgeOf280, Gsize280⟩, ⟨HL280, HR280, HC280, HI280, HO280⟩, hag, ⟨nglf280, ngrt280, ngco280, ngie280, ngoe280, nlfrt280, nlfco280, nlfie280, nlfoe280, nrtco280, nrtie280, nrtoe280, ncoie280, ncooe280, nieoe280⟩, ⟨gg280, glf280, grt280, gco280, gie280, goe280, ZG280⟩⟩ := G
  refine own_by (fun _ kont => XS.aloadN X0.here hx rfl (hb hby d4_0) rfl rfl kont) ?_
  show own_Go p e below _ (s₁.setTop (mkF m 1 #[.val (.ref g), .val (.int lv), .val (.int rv), .val (.int (Int32.ofNat kc)), .unset] [(.ref g)]))
  obtain ⟨T281, X281, e281, st281⟩ := getF X0 hx hZ hown (host := "") (Or.inl (hw _ (List.mem_of_getElem? (i := 40) rfl))) Via.refl e0 Gsize280 (g := (mkF m 1 #[.val (.ref g), .val (.int lv), .val (.int rv), .val (.int (Int32.ofNat kc)), .unset] [(.ref g)])) rfl rfl (hb hby d4_1)
  refine own_by st281 ?_
  show own_Go p e below _ (T281.setTop (mkF m 4 #[.val (.ref g), .val (.int lv), .val (.int rv), .val (.int (Int32.ofNat kc)), .unset] [(.int (Int32.ofNat sz))]))
  refine own_by (fun _ kont => XS.aloadN X281.here hx rfl (hb hby d4_4) rfl rfl kont) ?_
  show own_Go p e below _ (T281.setTop (mkF m 5 #[.val (.ref g), .val (.int lv), .val (.int rv), .val (.int (Int32.ofNat kc)), .unset] [(.ref g), (.int (Int32.ofNat sz))]))
  obtain ⟨T282, X282, e282, st282⟩ := getF X281 hx hZ hown (host := "") (Or.inl (hw _ (List.mem_of_getElem? (i := 19) rfl))) Via.refl e281 Gleft280 (g := (mkF m 5 #[.val (.ref g), .val (.int lv), .val (.int rv), .val (.int (Int32.ofNat kc)), .unset] [(.ref g), (.int (Int32.ofNat sz))])) rfl rfl (hb hby d4_5)
  refine own_by st282 ?_
  show own_Go p e below _ (T282.setTop (mkF m 8 #[.val (.ref g), .val (.int lv), .val (.int rv), .val (.int (Int32.ofNat kc)), .unset] [(.ref lf), (.int (Int32.ofNat sz))]))
  refine own_by (fun _ kont => own_lenIA X282 hx hZ e282 HL280 (z := (Int32.ofNat cap)) rfl rfl rfl (hb hby d4_8) kont) ?_
  show own_Go p e below _ (T282.setTop (mkF m 9 #[.val (.ref g), .val (.int lv), .val (.int rv), .val (.int (Int32.ofNat kc)), .unset] [(.int (Int32.ofNat cap)), (.int (Int32.ofNat sz))]))
  by_cases hq : sz = cap
  · subst hq
    refine own_by (fun _ kont => XS.icmpNo X282.here hx rfl (hb hby d4_9) rfl (XT.ii_ne_f (rfl : Int32.ofNat sz = Int32.ofNat sz)) kont) ?_
    show own_Go p e below _ (T282.setTop (mkF m 12 #[.val (.ref g), .val (.int lv), .val (.int rv), .val (.int (Int32.ofNat kc)), .unset] []))
    refine own_by (fun _ kont => XT.bipushV X282.here hx rfl (16 : Int32) (hb hby d4_12) rfl kont) ?_
    show own_Go p e below _ (T282.setTop (mkF m 14 #[.val (.ref g), .val (.int lv), .val (.int rv), .val (.int (Int32.ofNat kc)), .unset] [(.int (16 : Int32))]))
    refine own_by (fun _ kont => XT.iconstV X282.here hx rfl (2 : Int32) (hb hby d4_14) rfl kont) ?_
    show own_Go p e below _ (T282.setTop (mkF m 15 #[.val (.ref g), .val (.int lv), .val (.int rv), .val (.int (Int32.ofNat kc)), .unset] [(.int (2 : Int32)), (.int (16 : Int32))]))
    refine own_by (fun _ kont => XS.aloadN X282.here hx rfl (hb hby d4_15) rfl rfl kont) ?_
    show own_Go p e below _ (T282.setTop (mkF m 16 #[.val (.ref g), .val (.int lv), .val (.int rv), .val (.int (Int32.ofNat kc)), .unset] [(.ref g), (.int (2 : Int32)), (.int (16 : Int32))]))
    obtain ⟨T283, X283, e283, st283⟩ := getF X282 hx hZ hown (host := "") (Or.inl (hw _ (List.mem_of_getElem? (i := 40) rfl))) Via.refl e282 Gsize280 (g := (mkF m 16 #[.val (.ref g), .val (.int lv), .val (.int rv), .val (.int (Int32.ofNat kc)), .unset] [(.ref g), (.int (2 : Int32)), (.int (16 : Int32))])) rfl rfl (hb hby d4_16)
    refine own_by st283 ?_
    show own_Go p e below _ (T283.setTop (mkF m 19 #[.val (.ref g), .val (.int lv), .val (.int rv), .val (.int (Int32.ofNat kc)), .unset] [(.int (Int32.ofNat sz)), (.int (2 : Int32)), (.int (16 : Int32))]))
    refine own_by (fun _ kont => XS.imul X283.here hx rfl (hb hby d4_19) rfl kont) ?_
    show own_Go p e below _ (T283.setTop (mkF m 20 #[.val (.ref g), .val (.int lv), .val (.int rv), .val (.int (Int32.ofNat kc)), .unset] [(.int ((2 : Int32) * (Int32.ofNat sz))), (.int (16 : Int32))]))
    obtain ⟨_, _, ⟨T284, L284, k284, n284⟩, -, X284, ⟨Lc284, hQ284, l284, y284, z284⟩, st284⟩ := Jvm.LawKit.callS X283 hx (y := (⟨"java/lang/Math", "max", "(II)I"⟩ : MethodName)) hown (mvT hZ (hw _ (List.mem_of_getElem? (i := 42) rfl))) (mvT hZ (hw _ (List.mem_of_getElem? (i := 43) rfl))) (mvT hZ (hw _ (List.mem_of_getElem? (i := 44) rfl))) (mvT hZ (hw _ (List.mem_of_getElem? (i := 45) rfl))) (by decide) (backOf (W := 0) (rm5 l Z a0 hw [] (16 : Int32) ((2 : Int32) * (Int32.ofNat sz)) h0 n0) hZ (hw _ (List.mem_of_getElem? (i := 45) rfl)) (hw _ (List.mem_of_getElem? (i := 44) rfl)) (by decide) (by decide)) (g := (mkF m 20 #[.val (.ref g), .val (.int lv), .val (.int rv), .val (.int (Int32.ofNat kc)), .unset] [(.int ((2 : Int32) * (Int32.ofNat sz))), (.int (16 : Int32))])) rfl (by rw [hml]; rfl) (argsL := [(.int (16 : Int32)), (.int ((2 : Int32) * (Int32.ofNat sz)))]) (rest := []) (lenOf own_pd6 rfl) rfl (by show 2 * 0 + _ ≤ _; exact Nat.le_of_eq rfl) (hb hby d4_20) (fun _ _ => ⟨rfl, e283, (by decide : 0 + 0 ≤ _), (by decide : 0 + 0 ≤ _)⟩)
    dsimp only [Pt.U, Pt.locs, Pt.cells, Pt.slots] at X284 l284 y284 z284 st284 hQ284
    subst l284 y284 z284
    refine own_by st284 ?_
    obtain ⟨rfl, N284, e284⟩ := hQ284
    obtain ⟨L284, X284, M284⟩ := own_hide X284 (Fr.app N0 N284)
    rw [own_max sz h3]
    show own_Go p e below _ (T284.setTop (mkF m 23 #[.val (.ref g), .val (.int lv), .val (.int rv), .val (.int (Int32.ofNat kc)), .unset] [(.int (16 : Int32))]))
    refine own_by (fun _ kont => XS.istore X284.here hx rfl (hb hby d4_23) rfl (l' := #[.val (.ref g), .val (.int lv), .val (.int rv), .val (.int (Int32.ofNat kc)), .val (.int (16 : Int32))]) rfl kont) ?_
    show own_Go p e below _ (T284.setTop (mkF m 25 #[.val (.ref g), .val (.int lv), .val (.int rv), .val (.int (Int32.ofNat kc)), .val (.int (16 : Int32))] []))
    refine own_by (fun _ kont => XS.aloadN X284.here hx rfl (hb hby d4_25) rfl rfl kont) ?_
    show own_Go p e below _ (T284.setTop (mkF m 26 #[.val (.ref g), .val (.int lv), .val (.int rv), .val (.int (Int32.ofNat kc)), .val (.int (16 : Int32))] [(.ref g)]))
    refine own_by (fun _ kont => XS.aloadN X284.here hx rfl (hb hby d4_26) rfl rfl kont) ?_
    show own_Go p e below _ (T284.setTop (mkF m 27 #[.val (.ref g), .val (.int lv), .val (.int rv), .val (.int (Int32.ofNat kc)), .val (.int (16 : Int32))] [(.ref g), (.ref g)]))
    obtain ⟨T285, X285, e285, st285⟩ := getF X284 hx hZ hown (host := "") (Or.inl (hw _ (List.mem_of_getElem? (i := 19) rfl))) Via.refl e284 Gleft280 (g := (mkF m 27 #[.val (.ref g), .val (.int lv), .val (.int rv), .val (.int (Int32.ofNat kc)), .val (.int (16 : Int32))] [(.ref g), (.ref g)])) rfl rfl (hb hby d4_27)
    refine own_by st285 ?_
    show own_Go p e below _ (T285.setTop (mkF m 30 #[.val (.ref g), .val (.int lv), .val (.int rv), .val (.int (Int32.ofNat kc)), .val (.int (16 : Int32))] [(.ref lf), (.ref g)]))
    refine own_by (fun _ kont => XS.iload X285.here hx rfl (hb hby d4_30) rfl kont) ?_
    show own_Go p e below _ (T285.setTop (mkF m 32 #[.val (.ref g), .val (.int lv), .val (.int rv), .val (.int (Int32.ofNat kc)), .val (.int (16 : Int32))] [(.int (16 : Int32)), (.ref lf), (.ref g)]))
    obtain ⟨_, _, ⟨T286, L286, k286, n286⟩, -, X286, ⟨Lc286, hQ286, l286, y286, z286⟩, st286⟩ := Jvm.LawKit.callS X285 hx (y := (⟨"java/util/Arrays", "copyOf", "([II)[I"⟩ : MethodName)) hown (mvT hZ (hw _ (List.mem_of_getElem? (i := 46) rfl))) (mvT hZ (hw _ (List.mem_of_getElem? (i := 47) rfl))) (mvT hZ (hw _ (List.mem_of_getElem? (i := 33) rfl))) (mvT hZ (hw _ (List.mem_of_getElem? (i := 48) rfl))) (by decide) (backOf (W := 1) (rmC l Z a0 hw [] lf sz fl h0 n0 (by omega) HL280 ZG280) hZ (hw _ (List.mem_of_getElem? (i := 48) rfl)) (hw _ (List.mem_of_getElem? (i := 33) rfl)) (by decide) (by decide)) (g := (mkF m 32 #[.val (.ref g), .val (.int lv), .val (.int rv), .val (.int (Int32.ofNat kc)), .val (.int (16 : Int32))] [(.int (16 : Int32)), (.ref lf), (.ref g)])) rfl (by rw [hml]; rfl) (argsL := [(.ref lf), (.int (16 : Int32))]) (rest := [(.ref g)]) (lenOf own_pd7 rfl) rfl (by show 2 * 0 + _ ≤ _; exact Nat.le_of_eq rfl) (hb hby d4_32) (fun _ _ => ⟨rfl, e285, (by decide : 0 + 1 ≤ _), (by decide : 0 + 16 ≤ _)⟩)
    dsimp only [Pt.U, Pt.locs, Pt.cells, Pt.slots] at X286 l286 y286 z286 st286 hQ286
    subst l286 y286 z286
    refine own_by st286 ?_
    obtain ⟨b286, rfl, N286, K286, lb286, ge286, H286⟩ := hQ286
    obtain ⟨L286, X286, M286⟩ := own_hide X286 (Fr.app M284 N286)
    obtain ⟨h286, e286⟩ : ∃ h, T286.heap = h := ⟨_, rfl⟩
    rw [e286] at K286 H286
    have ne287 : g ≠ b286 := Nat.ne_of_lt (Nat.lt_of_lt_of_le GE280.lt lb286)
    have ne288 : lf ≠ b286 := Nat.ne_of_lt (Nat.lt_of_lt_of_le (own_IA_lt HL280) lb286)
    have ne289 : rt ≠ b286 := Nat.ne_of_lt (Nat.lt_of_lt_of_le (own_IA_lt HR280) lb286)
    have ne290 : co ≠ b286 := Nat.ne_of_lt (Nat.lt_of_lt_of_le (own_IA_lt HC280) lb286)
    have ne291 : ie ≠ b286 := Nat.ne_of_lt (Nat.lt_of_lt_of_le (own_IA_lt HI280) lb286)
    have ne292 : oe ≠ b286 := Nat.ne_of_lt (Nat.lt_of_lt_of_le (own_IA_lt HO280) lb286)
    have Z286 : n0 ≤ h286.size := Nat.le_trans ZG280 K286.1
    show own_Go p e below _ (T286.setTop (mkF m 35 #[.val (.ref g), .val (.int lv), .val (.int rv), .val (.int (Int32.ofNat kc)), .val (.int (16 : Int32))] [(.ref b286), (.ref g)]))
    have F293 : Fld Z h286 g "com/example/lambdalane/lambdalane/NodeGraph" "left" "[I" (.ref lf) := (Gleft280.keep K286 nin0)
    have F294 : Exa Z h286 g "com/example/lambdalane/lambdalane/NodeGraph" := (GE280.keep K286)
    obtain ⟨T295, h295, X295, e295, W295, st295⟩ := putF X286 hx hZ hown (host := "") (Or.inl (hw _ (List.mem_of_getElem? (i := 19) rfl))) Via.refl e286 F293 F294 (Or.inl (hw _ (List.mem_of_getElem? (i := 20) rfl))) (hw _ (List.mem_of_getElem? (i := 2) rfl)) (ty := (.array .int)) (by decide) rfl rfl (g := (mkF m 35 #[.val (.ref g), .val (.int lv), .val (.int rv), .val (.int (Int32.ofNat kc)), .val (.int (16 : Int32))] [(.ref b286), (.ref g)])) rfl rfl (hb hby d4_35)
    obtain ⟨L295, X295, M295⟩ := own_hide X295 (Fr.snoc X295 M286 gg280)
    have Z295 : n0 ≤ h295.size := (by rw [Wr.size W295]; exact Z286)
    have F295 : Fld Z h295 g "com/example/lambdalane/lambdalane/NodeGraph" "left" "[I" (.ref b286) := (F293.same W295)
    refine own_by st295 ?_
    show own_Go p e below _ (T295.setTop (mkF m 38 #[.val (.ref g), .val (.int lv), .val (.int rv), .val (.int (Int32.ofNat kc)), .val (.int (16 : Int32))] []))
    refine own_by (fun _ kont => XS.aloadN X295.here hx rfl (hb hby d4_38) rfl rfl kont) ?_
    show own_Go p e below _ (T295.setTop (mkF m 39 #[.val (.ref g), .val (.int lv), .val (.int rv), .val (.int (Int32.ofNat kc)), .val (.int (16 : Int32))] [(.ref g)]))
    refine own_by (fun _ kont => XS.aloadN X295.here hx rfl (hb hby d4_39) rfl rfl kont) ?_
    show own_Go p e below _ (T295.setTop (mkF m 40 #[.val (.ref g), .val (.int lv), .val (.int rv), .val (.int (Int32.ofNat kc)), .val (.int (16 : Int32))] [(.ref g), (.ref g)]))
    have F296 : Fld Z h295 g "com/example/lambdalane/lambdalane/NodeGraph" "right" "[I" (.ref rt) := ((Gright280.keep K286 nin0).other W295 (Or.inr (slot_ne (t := (.array .int)) (t' := (.array .int)) (Or.inl (hw _ (List.mem_of_getElem? (i := 22) rfl))) (Or.inl (hw _ (List.mem_of_getElem? (i := 20) rfl))) (by decide) (by decide) (by decide))))
    obtain ⟨T297, X297, e297, st297⟩ := getF X295 hx hZ hown (host := "") (Or.inl (hw _ (List.mem_of_getElem? (i := 21) rfl))) Via.refl e295 F296 (g := (mkF m 40 #[.val (.ref g), .val (.int lv), .val (.int rv), .val (.int (Int32.ofNat kc)), .val (.int (16 : Int32))] [(.ref g), (.ref g)])) rfl rfl (hb hby d4_40)
    refine own_by st297 ?_
    show own_Go p e below _ (T297.setTop (mkF m 43 #[.val (.ref g), .val (.int lv), .val (.int rv), .val (.int (Int32.ofNat kc)), .val (.int (16 : Int32))] [(.ref rt), (.ref g)]))
    refine own_by (fun _ kont => XS.iload X297.here hx rfl (hb hby d4_43) rfl kont) ?_
    show own_Go p e below _ (T297.setTop (mkF m 45 #[.val (.ref g), .val (.int lv), .val (.int rv), .val (.int (Int32.ofNat kc)), .val (.int (16 : Int32))] [(.int (16 : Int32)), (.ref rt), (.ref g)]))
    have F298 : own_IA Z h295 rt sz fr := (own_IA_other (own_IA_keep HR280 K286 nin0) W295 (Ne.symm ngrt280))
    obtain ⟨_, _, ⟨T299, L299, k299, n299⟩, -, X299, ⟨Lc299, hQ299, l299, y299, z299⟩, st299⟩ := Jvm.LawKit.callS X297 hx (y := (⟨"java/util/Arrays", "copyOf", "([II)[I"⟩ : MethodName)) hown (mvT hZ (hw _ (List.mem_of_getElem? (i := 46) rfl))) (mvT hZ (hw _ (List.mem_of_getElem? (i := 47) rfl))) (mvT hZ (hw _ (List.mem_of_getElem? (i := 33) rfl))) (mvT hZ (hw _ (List.mem_of_getElem? (i := 48) rfl))) (by decide) (backOf (W := 1) (rmC l Z a0 hw [] rt sz fr h295 n0 (by omega) F298 Z295) hZ (hw _ (List.mem_of_getElem? (i := 48) rfl)) (hw _ (List.mem_of_getElem? (i := 33) rfl)) (by decide) (by decide)) (g := (mkF m 45 #[.val (.ref g), .val (.int lv), .val (.int rv), .val (.int (Int32.ofNat kc)), .val (.int (16 : Int32))] [(.int (16 : Int32)), (.ref rt), (.ref g)])) rfl (by rw [hml]; rfl) (argsL := [(.ref rt), (.int (16 : Int32))]) (rest := [(.ref g)]) (lenOf own_pd7 rfl) rfl (by show 2 * 0 + _ ≤ _; exact Nat.le_of_eq rfl) (hb hby d4_45) (fun _ _ => ⟨rfl, e297, (by decide : 1 + 1 ≤ _), (by decide : 16 + 16 ≤ _)⟩)
    dsimp only [Pt.U, Pt.locs, Pt.cells, Pt.slots] at X299 l299 y299 z299 st299 hQ299
    subst l299 y299 z299
    refine own_by st299 ?_
    obtain ⟨b299, rfl, N299, K299, lb299, ge299, H299⟩ := hQ299
    obtain ⟨L299, X299, M299⟩ := own_hide X299 (Fr.app M295 N299)
    obtain ⟨h299, e299⟩ : ∃ h, T299.heap = h := ⟨_, rfl⟩
    rw [e299] at K299 H299
    have F300 : Exa Z h295 g "com/example/lambdalane/lambdalane/NodeGraph" := (F294.wr W295)
    have ne301 : g ≠ b299 := Nat.ne_of_lt (Nat.lt_of_lt_of_le F300.lt lb299)
    have F302 : own_IA Z h295 lf sz fl := (own_IA_other (own_IA_keep HL280 K286 nin0) W295 (Ne.symm nglf280))
    have ne303 : lf ≠ b299 := Nat.ne_of_lt (Nat.lt_of_lt_of_le (own_IA_lt F302) lb299)
    have ne304 : rt ≠ b299 := Nat.ne_of_lt (Nat.lt_of_lt_of_le (own_IA_lt F298) lb299)
    have F305 : own_IA Z h295 co sz fc := (own_IA_other (own_IA_keep HC280 K286 nin0) W295 (Ne.symm ngco280))
    have ne306 : co ≠ b299 := Nat.ne_of_lt (Nat.lt_of_lt_of_le (own_IA_lt F305) lb299)
    have F307 : own_IA Z h295 ie (7 + 1) I := (own_IA_other (own_IA_keep HI280 K286 nin0) W295 (Ne.symm ngie280))
    have ne308 : ie ≠ b299 := Nat.ne_of_lt (Nat.lt_of_lt_of_le (own_IA_lt F307) lb299)
    have F309 : own_IA Z h295 oe (7 + 1) O := (own_IA_other (own_IA_keep HO280 K286 nin0) W295 (Ne.symm ngoe280))
    have ne310 : oe ≠ b299 := Nat.ne_of_lt (Nat.lt_of_lt_of_le (own_IA_lt F309) lb299)
    have F311 : own_IA Z h295 b286 16 (fun i => if i < sz then fl i else 0) := (own_IA_other H286 W295 (Ne.symm ne287))
    have ne312 : b286 ≠ b299 := Nat.ne_of_lt (Nat.lt_of_lt_of_le (own_IA_lt F311) lb299)
    have Z299 : n0 ≤ h299.size := Nat.le_trans Z295 K299.1
    show own_Go p e below _ (T299.setTop (mkF m 48 #[.val (.ref g), .val (.int lv), .val (.int rv), .val (.int (Int32.ofNat kc)), .val (.int (16 : Int32))] [(.ref b299), (.ref g)]))
    have F313 : Fld Z h299 g "com/example/lambdalane/lambdalane/NodeGraph" "right" "[I" (.ref rt) := (F296.keep K299 nin0)
    have F314 : Exa Z h299 g "com/example/lambdalane/lambdalane/NodeGraph" := (F300.keep K299)
    obtain ⟨T315, h315, X315, e315, W315, st315⟩ := putF X299 hx hZ hown (host := "") (Or.inl (hw _ (List.mem_of_getElem? (i := 21) rfl))) Via.refl e299 F313 F314 (Or.inl (hw _ (List.mem_of_getElem? (i := 22) rfl))) (hw _ (List.mem_of_getElem? (i := 2) rfl)) (ty := (.array .int)) (by decide) rfl rfl (g := (mkF m 48 #[.val (.ref g), .val (.int lv), .val (.int rv), .val (.int (Int32.ofNat kc)), .val (.int (16 : Int32))] [(.ref b299), (.ref g)])) rfl rfl (hb hby d4_48)
    obtain ⟨L315, X315, M315⟩ := own_hide X315 (Fr.snoc X315 M299 gg280)
    have Z315 : n0 ≤ h315.size := (by rw [Wr.size W315]; exact Z299)
    have F315 : Fld Z h315 g "com/example/lambdalane/lambdalane/NodeGraph" "right" "[I" (.ref b299) := (F313.same W315)
    refine own_by st315 ?_
    show own_Go p e below _ (T315.setTop (mkF m 51 #[.val (.ref g), .val (.int lv), .val (.int rv), .val (.int (Int32.ofNat kc)), .val (.int (16 : Int32))] []))
    refine own_by (fun _ kont => XS.aloadN X315.here hx rfl (hb hby d4_51) rfl rfl kont) ?_
    show own_Go p e below _ (T315.setTop (mkF m 52 #[.val (.ref g), .val (.int lv), .val (.int rv), .val (.int (Int32.ofNat kc)), .val (.int (16 : Int32))] [(.ref g)]))
    refine own_by (fun _ kont => XS.aloadN X315.here hx rfl (hb hby d4_52) rfl rfl kont) ?_
    show own_Go p e below _ (T315.setTop (mkF m 53 #[.val (.ref g), .val (.int lv), .val (.int rv), .val (.int (Int32.ofNat kc)), .val (.int (16 : Int32))] [(.ref g), (.ref g)]))
    have F316 : Fld Z h315 g "com/example/lambdalane/lambdalane/NodeGraph" "colour" "[I" (.ref co) := ((((Gcolour280.keep K286 nin0).other W295 (Or.inr (slot_ne (t := (.array .int)) (t' := (.array .int)) (Or.inl (hw _ (List.mem_of_getElem? (i := 24) rfl))) (Or.inl (hw _ (List.mem_of_getElem? (i := 20) rfl))) (by decide) (by decide) (by decide)))).keep K299 nin0).other W315 (Or.inr (slot_ne (t := (.array .int)) (t' := (.array .int)) (Or.inl (hw _ (List.mem_of_getElem? (i := 24) rfl))) (Or.inl (hw _ (List.mem_of_getElem? (i := 22) rfl))) (by decide) (by decide) (by decide))))
    obtain ⟨T317, X317, e317, st317⟩ := getF X315 hx hZ hown (host := "") (Or.inl (hw _ (List.mem_of_getElem? (i := 23) rfl))) Via.refl e315 F316 (g := (mkF m 53 #[.val (.ref g), .val (.int lv), .val (.int rv), .val (.int (Int32.ofNat kc)), .val (.int (16 : Int32))] [(.ref g), (.ref g)])) rfl rfl (hb hby d4_53)
    refine own_by st317 ?_
    show own_Go p e below _ (T317.setTop (mkF m 56 #[.val (.ref g), .val (.int lv), .val (.int rv), .val (.int (Int32.ofNat kc)), .val (.int (16 : Int32))] [(.ref co), (.ref g)]))
    refine own_by (fun _ kont => XS.iload X317.here hx rfl (hb hby d4_56) rfl kont) ?_
    show own_Go p e below _ (T317.setTop (mkF m 58 #[.val (.ref g), .val (.int lv), .val (.int rv), .val (.int (Int32.ofNat kc)), .val (.int (16 : Int32))] [(.int (16 : Int32)), (.ref co), (.ref g)]))
    have F318 : own_IA Z h315 co sz fc := (own_IA_other (own_IA_keep F305 K299 nin0) W315 (Ne.symm ngco280))
    obtain ⟨_, _, ⟨T319, L319, k319, n319⟩, -, X319, ⟨Lc319, hQ319, l319, y319, z319⟩, st319⟩ := Jvm.LawKit.callS X317 hx (y := (⟨"java/util/Arrays", "copyOf", "([II)[I"⟩ : MethodName)) hown (mvT hZ (hw _ (List.mem_of_getElem? (i := 46) rfl))) (mvT hZ (hw _ (List.mem_of_getElem? (i := 47) rfl))) (mvT hZ (hw _ (List.mem_of_getElem? (i := 33) rfl))) (mvT hZ (hw _ (List.mem_of_getElem? (i := 48) rfl))) (by decide) (backOf (W := 1) (rmC l Z a0 hw [] co sz fc h315 n0 (by omega) F318 Z315) hZ (hw _ (List.mem_of_getElem? (i := 48) rfl)) (hw _ (List.mem_of_getElem? (i := 33) rfl)) (by decide) (by decide)) (g := (mkF m 58 #[.val (.ref g), .val (.int lv), .val (.int rv), .val (.int (Int32.ofNat kc)), .val (.int (16 : Int32))] [(.int (16 : Int32)), (.ref co), (.ref g)])) rfl (by rw [hml]; rfl) (argsL := [(.ref co), (.int (16 : Int32))]) (rest := [(.ref g)]) (lenOf own_pd7 rfl) rfl (by show 2 * 0 + _ ≤ _; exact Nat.le_of_eq rfl) (hb hby d4_58) (fun _ _ => ⟨rfl, e317, (by decide : 2 + 1 ≤ _), (by decide : 32 + 16 ≤ _)⟩)
    dsimp only [Pt.U, Pt.locs, Pt.cells, Pt.slots] at X319 l319 y319 z319 st319 hQ319
    subst l319 y319 z319
    refine own_by st319 ?_
    obtain ⟨b319, rfl, N319, K319, lb319, ge319, H319⟩ := hQ319
    obtain ⟨L319, X319, M319⟩ := own_hide X319 (Fr.app M315 N319)
    obtain ⟨h319, e319⟩ : ∃ h, T319.heap = h := ⟨_, rfl⟩
    rw [e319] at K319 H319
    have F320 : Exa Z h315 g "com/example/lambdalane/lambdalane/NodeGraph" := (F314.wr W315)
    have ne321 : g ≠ b319 := Nat.ne_of_lt (Nat.lt_of_lt_of_le F320.lt lb319)
    have F322 : own_IA Z h315 lf sz fl := (own_IA_other (own_IA_keep F302 K299 nin0) W315 (Ne.symm nglf280))
    have ne323 : lf ≠ b319 := Nat.ne_of_lt (Nat.lt_of_lt_of_le (own_IA_lt F322) lb319)
    have F324 : own_IA Z h315 rt sz fr := (own_IA_other (own_IA_keep F298 K299 nin0) W315 (Ne.symm ngrt280))
    have ne325 : rt ≠ b319 := Nat.ne_of_lt (Nat.lt_of_lt_of_le (own_IA_lt F324) lb319)
    have ne326 : co ≠ b319 := Nat.ne_of_lt (Nat.lt_of_lt_of_le (own_IA_lt F318) lb319)
    have F327 : own_IA Z h315 ie (7 + 1) I := (own_IA_other (own_IA_keep F307 K299 nin0) W315 (Ne.symm ngie280))
    have ne328 : ie ≠ b319 := Nat.ne_of_lt (Nat.lt_of_lt_of_le (own_IA_lt F327) lb319)
    have F329 : own_IA Z h315 oe (7 + 1) O := (own_IA_other (own_IA_keep F309 K299 nin0) W315 (Ne.symm ngoe280))
    have ne330 : oe ≠ b319 := Nat.ne_of_lt (Nat.lt_of_lt_of_le (own_IA_lt F329) lb319)
    have F331 : own_IA Z h315 b286 16 (fun i => if i < sz then fl i else 0) := (own_IA_other (own_IA_keep F311 K299 nin0) W315 (Ne.symm ne287))
    have ne332 : b286 ≠ b319 := Nat.ne_of_lt (Nat.lt_of_lt_of_le (own_IA_lt F331) lb319)
    have F333 : own_IA Z h315 b299 16 (fun i => if i < sz then fr i else 0) := (own_IA_other H299 W315 (Ne.symm ne301))
    have ne334 : b299 ≠ b319 := Nat.ne_of_lt (Nat.lt_of_lt_of_le (own_IA_lt F333) lb319)
    have Z319 : n0 ≤ h319.size := Nat.le_trans Z315 K319.1
    show own_Go p e below _ (T319.setTop (mkF m 61 #[.val (.ref g), .val (.int lv), .val (.int rv), .val (.int (Int32.ofNat kc)), .val (.int (16 : Int32))] [(.ref b319), (.ref g)]))
    have F335 : Fld Z h319 g "com/example/lambdalane/lambdalane/NodeGraph" "colour" "[I" (.ref co) := (F316.keep K319 nin0)
    have F336 : Exa Z h319 g "com/example/lambdalane/lambdalane/NodeGraph" := (F320.keep K319)
    obtain ⟨T337, h337, X337, e337, W337, st337⟩ := putF X319 hx hZ hown (host := "") (Or.inl (hw _ (List.mem_of_getElem? (i := 23) rfl))) Via.refl e319 F335 F336 (Or.inl (hw _ (List.mem_of_getElem? (i := 24) rfl))) (hw _ (List.mem_of_getElem? (i := 2) rfl)) (ty := (.array .int)) (by decide) rfl rfl (g := (mkF m 61 #[.val (.ref g), .val (.int lv), .val (.int rv), .val (.int (Int32.ofNat kc)), .val (.int (16 : Int32))] [(.ref b319), (.ref g)])) rfl rfl (hb hby d4_61)
    obtain ⟨L337, X337, M337⟩ := own_hide X337 (Fr.snoc X337 M319 gg280)
    have Z337 : n0 ≤ h337.size := (by rw [Wr.size W337]; exact Z319)
    have F337 : Fld Z h337 g "com/example/lambdalane/lambdalane/NodeGraph" "colour" "[I" (.ref b319) := (F335.same W337)
    refine own_by st337 ?_
    show own_Go p e below _ (T337.setTop (mkF m 64 #[.val (.ref g), .val (.int lv), .val (.int rv), .val (.int (Int32.ofNat kc)), .val (.int (16 : Int32))] []))
    have F338 : Exa Z h337 g "com/example/lambdalane/lambdalane/NodeGraph" := (F336.wr W337)
    have F339 : Fld Z h337 g "com/example/lambdalane/lambdalane/NodeGraph" "side" "I" (.int sd) := ((((((Gside280.keep K286 nin0).other W295 (Or.inr (slot_ne (t := .int) (t' := (.array .int)) (Or.inr (hw _ (List.mem_of_getElem? (i := 13) rfl))) (Or.inl (hw _ (List.mem_of_getElem? (i := 20) rfl))) (by decide) (by decide) (by decide)))).keep K299 nin0).other W315 (Or.inr (slot_ne (t := .int) (t' := (.array .int)) (Or.inr (hw _ (List.mem_of_getElem? (i := 13) rfl))) (Or.inl (hw _ (List.mem_of_getElem? (i := 22) rfl))) (by decide) (by decide) (by decide)))).keep K319 nin0).other W337 (Or.inr (slot_ne (t := .int) (t' := (.array .int)) (Or.inr (hw _ (List.mem_of_getElem? (i := 13) rfl))) (Or.inl (hw _ (List.mem_of_getElem? (i := 24) rfl))) (by decide) (by decide) (by decide))))
    have F340 : Fld Z h337 g "com/example/lambdalane/lambdalane/NodeGraph" "left" "[I" (.ref b286) := ((((F295.keep K299 nin0).other W315 (Or.inr (slot_ne (t := (.array .int)) (t' := (.array .int)) (Or.inl (hw _ (List.mem_of_getElem? (i := 20) rfl))) (Or.inl (hw _ (List.mem_of_getElem? (i := 22) rfl))) (by decide) (by decide) (by decide)))).keep K319 nin0).other W337 (Or.inr (slot_ne (t := (.array .int)) (t' := (.array .int)) (Or.inl (hw _ (List.mem_of_getElem? (i := 20) rfl))) (Or.inl (hw _ (List.mem_of_getElem? (i := 24) rfl))) (by decide) (by decide) (by decide))))
    have F341 : Fld Z h337 g "com/example/lambdalane/lambdalane/NodeGraph" "right" "[I" (.ref b299) := ((F315.keep K319 nin0).other W337 (Or.inr (slot_ne (t := (.array .int)) (t' := (.array .int)) (Or.inl (hw _ (List.mem_of_getElem? (i := 22) rfl))) (Or.inl (hw _ (List.mem_of_getElem? (i := 24) rfl))) (by decide) (by decide) (by decide))))
    have F342 : Fld Z h337 g "com/example/lambdalane/lambdalane/NodeGraph" "inEdgeOf" "[I" (.ref ie) := ((((((GinEdgeOf280.keep K286 nin0).other W295 (Or.inr (slot_ne (t := (.array .int)) (t' := (.array .int)) (Or.inr (hw _ (List.mem_of_getElem? (i := 26) rfl))) (Or.inl (hw _ (List.mem_of_getElem? (i := 20) rfl))) (by decide) (by decide) (by decide)))).keep K299 nin0).other W315 (Or.inr (slot_ne (t := (.array .int)) (t' := (.array .int)) (Or.inr (hw _ (List.mem_of_getElem? (i := 26) rfl))) (Or.inl (hw _ (List.mem_of_getElem? (i := 22) rfl))) (by decide) (by decide) (by decide)))).keep K319 nin0).other W337 (Or.inr (slot_ne (t := (.array .int)) (t' := (.array .int)) (Or.inr (hw _ (List.mem_of_getElem? (i := 26) rfl))) (Or.inl (hw _ (List.mem_of_getElem? (i := 24) rfl))) (by decide) (by decide) (by decide))))
    have F343 : Fld Z h337 g "com/example/lambdalane/lambdalane/NodeGraph" "outEdgeOf" "[I" (.ref oe) := ((((((GoutEdgeOf280.keep K286 nin0).other W295 (Or.inr (slot_ne (t := (.array .int)) (t' := (.array .int)) (Or.inr (hw _ (List.mem_of_getElem? (i := 28) rfl))) (Or.inl (hw _ (List.mem_of_getElem? (i := 20) rfl))) (by decide) (by decide) (by decide)))).keep K299 nin0).other W315 (Or.inr (slot_ne (t := (.array .int)) (t' := (.array .int)) (Or.inr (hw _ (List.mem_of_getElem? (i := 28) rfl))) (Or.inl (hw _ (List.mem_of_getElem? (i := 22) rfl))) (by decide) (by decide) (by decide)))).keep K319 nin0).other W337 (Or.inr (slot_ne (t := (.array .int)) (t' := (.array .int)) (Or.inr (hw _ (List.mem_of_getElem? (i := 28) rfl))) (Or.inl (hw _ (List.mem_of_getElem? (i := 24) rfl))) (by decide) (by decide) (by decide))))
    have F344 : Fld Z h337 g "com/example/lambdalane/lambdalane/NodeGraph" "size" "I" (.int (Int32.ofNat sz)) := ((((((Gsize280.keep K286 nin0).other W295 (Or.inr (slot_ne (t := .int) (t' := (.array .int)) (Or.inl (hw _ (List.mem_of_getElem? (i := 41) rfl))) (Or.inl (hw _ (List.mem_of_getElem? (i := 20) rfl))) (by decide) (by decide) (by decide)))).keep K299 nin0).other W315 (Or.inr (slot_ne (t := .int) (t' := (.array .int)) (Or.inl (hw _ (List.mem_of_getElem? (i := 41) rfl))) (Or.inl (hw _ (List.mem_of_getElem? (i := 22) rfl))) (by decide) (by decide) (by decide)))).keep K319 nin0).other W337 (Or.inr (slot_ne (t := .int) (t' := (.array .int)) (Or.inl (hw _ (List.mem_of_getElem? (i := 41) rfl))) (Or.inl (hw _ (List.mem_of_getElem? (i := 24) rfl))) (by decide) (by decide) (by decide))))
    have F345 : own_IA Z h337 b286 16 (fun i => if i < sz then fl i else 0) := (own_IA_other (own_IA_keep F331 K319 nin0) W337 (Ne.symm ne287))
    have F346 : own_IA Z h337 b299 16 (fun i => if i < sz then fr i else 0) := (own_IA_other (own_IA_keep F333 K319 nin0) W337 (Ne.symm ne301))
    have F347 : own_IA Z h337 b319 16 (fun i => if i < sz then fc i else 0) := (own_IA_other H319 W337 (Ne.symm ne321))
    have F348 : own_IA Z h337 ie (7 + 1) I := (own_IA_other (own_IA_keep F327 K319 nin0) W337 (Ne.symm ngie280))
    have F349 : own_IA Z h337 oe (7 + 1) O := (own_IA_other (own_IA_keep F329 K319 nin0) W337 (Ne.symm ngoe280))
    exact own_a64 X337 (by decide) (by decide) hx hby hlk hret hZ hown hw hml M337 e337 g sd lv rv kc sz 16 L R C I O I2 O2 _ (Or.inr ⟨_, rfl, rfl⟩) ⟨b286, b299, b319, ie, oe, _, _, _, ⟨F338, F339, F340, F341, F337, F342, F343, F344⟩, ⟨F345, F346, F347, F348, F349⟩, fun i hi => ⟨(if_pos hi).trans (hag i hi).1, (if_pos hi).trans (hag i hi).2.1, (if_pos hi).trans (hag i hi).2.2⟩, ⟨ne287, ne301, ne321, ngie280, ngoe280, ne312, ne332, (Ne.symm ne291), (Ne.symm ne292), ne334, (Ne.symm ne308), (Ne.symm ne310), (Ne.symm ne328), (Ne.symm ne330), nieoe280⟩, ⟨gg280, ge286, ge299, ge319, gie280, goe280, Z337⟩⟩ (by omega) (by omega) hcol
  · refine own_by (fun _ kont => XS.icmpYes X282.here hx rfl (pc0 := 9) (pc' := 64) rfl (hb hby d4_9) rfl (XT.ii_ne_t (fun z => hq ((own_inj (by omega) (by omega)).mp z))) (by decide) (by decide) kont) ?_
    show own_Go p e below _ (T282.setTop (mkF m 64 #[.val (.ref g), .val (.int lv), .val (.int rv), .val (.int (Int32.ofNat kc)), .unset] []))
    exact own_a64 X282 (by decide) (by decide) hx hby hlk hret hZ hown hw hml N0 e282 g sd lv rv kc sz cap L R C I O I2 O2 _ (Or.inl rfl) G0 (by omega) hcap hcol
def own_Q_rmGo (Z : State) (k : Nat) (O : Nat → Int32) (h0 : Heap) (n0 : Nat) : Option Value → Heap → List Loc → Prop := (fun v h L1 => v = some (.int (O k)) ∧ Fr n0 L1 ∧ h = h0)
theorem own_ef_rmGo (m : MethodId) (g : Addr) (k : Int32) : entryFrame m #[(.ref g), (.int k)] 2 = (mkF m 0 #[.val (.ref g), .val (.int k)] []) := by first | (simp [entryFrame, mkF, argsToLocals, Value.category, maxLocals]; done) | rfl
set_option maxRecDepth 65536 in
set_option maxHeartbeats 40000000 in
theorem rmGo (l : Launch) (Z : State) (a0 : Array Value) (hw : ∀ d ∈ tables_1, d.before a0 Z = true) (ws : List Jvm.Cond) (g : Addr) (sd : Int32) (k sz cap : Nat) (L R C I O : Nat → Int32) (h0 : Heap) (n0 : Nat) (G : own_G Z h0 n0 g sd 7 sz cap L R C I O) (hk : k < 8) (hsz : sz ≤ cap) (hcap : cap ≤ 16) :
    MetFree l (⟨"com/example/lambdalane/lambdalane/NodeGraph", "outEdgeOf", "(I)I"⟩ : MethodName) (head1 (Jvm.Cond.code (⟨"com/example/lambdalane/lambdalane/NodeGraph", "outEdgeOf", "(I)I"⟩ : MethodName) prog_42_method_19_code 2 (some .int) :: ws) ({ frames := 0, cells := 0, slots := 0, locals := 0 } : Room)) (fun aR UR => aR = #[(.ref g), (.int (Int32.ofNat k))] ∧ Z.Warmed39 UR.vm ∧ UR.heap = h0) (fun _ _ _ _ _ => True) (fun _ UR oR UR' => ∃ vR LR, oR = .returned vR ∧ own_Q_rmGo Z k O h0 n0 vR UR'.heap LR ∧ FrameEnd UR oR UR' LR ({ frames := 0, cells := 0, slots := 0, locals := 0 } : Room).cells ({ frames := 0, cells := 0, slots := 0, locals := 0 } : Room).slots) := by
  refine MetFree.of_bodySF (plainFor_of_name own_pn0) hisR ?_
  intro p e s m args below meth c s₁ Bd hml0 hP hK
  obtain ⟨rfl, hZ, hh⟩ := hP
  have hx := Bd.exec
  have hby := Bd.bytes
  have hlk := Bd.notSynchronized
  have hret := Bd.returns
  have hml : c.maxLocals = 2 := hml0
  have hown : s.vm.findClass "com/example/lambdalane/lambdalane/NodeGraph" = some m.cls := findClass_of_methodNamed Bd.named
  have hnm := (name_of_methodNamed Bd.named Bd.method).1
  have X0 : Stand p l e ({ frames := 0, cells := 0, slots := 0, locals := 0 } : Room) s m #[(.ref g), (.int (Int32.ofNat k))] below meth c s₁ [] 0 0 := Stand.of_body Bd
  have e0 : s₁.heap = h0 := by rw [← hh, Bd.state]; rfl
  have N0 := Fr.nil n0
  show own_Go p e below (own_K s (own_Q_rmGo Z k O h0 n0) ({ frames := 0, cells := 0, slots := 0, locals := 0 } : Room).cells ({ frames := 0, cells := 0, slots := 0, locals := 0 } : Room).slots) _
  refine own_by (fun tt kont => castTop (own_ef_rmGo m g (Int32.ofNat k)) kont) ?_
  show own_Go p e below _ (s₁.setTop (mkF m 0 #[.val (.ref g), .val (.int (Int32.ofNat k))] []))
  obtain ⟨lf, rt, co, ie, oe, fl, fr, fc, ⟨GE350, Gside350, Gleft350, Gright350, Gcolour350, GinEdgeOf350, GoutEdgeOf350, Gsize350⟩, ⟨HL350, HR350, HC350, HI350, HO350⟩, hag, ⟨nglf350, ngrt350, ngco350, ngie350, ngoe350, nlfrt350, nlfco350, nlfie350, nlfoe350, nrtco350, nrtie350, nrtoe350, ncoie350, ncooe350, nieoe350⟩, ⟨gg350, glf350, grt350, gco350, gie350, goe350, ZG350⟩⟩ := G
  have hik := own_i (k := k) (by omega)
  refine own_by (fun _ kont => XS.aloadN X0.here hx rfl (hb hby d9_0) rfl rfl kont) ?_
  show own_Go p e below _ (s₁.setTop (mkF m 1 #[.val (.ref g), .val (.int (Int32.ofNat k))] [(.ref g)]))
  obtain ⟨T351, X351, e351, st351⟩ := getF X0 hx hZ hown (host := "") (Or.inl (hw _ (List.mem_of_getElem? (i := 27) rfl))) Via.refl e0 GoutEdgeOf350 (g := (mkF m 1 #[.val (.ref g), .val (.int (Int32.ofNat k))] [(.ref g)])) rfl rfl (hb hby d9_1)
  refine own_by st351 ?_
  show own_Go p e below _ (T351.setTop (mkF m 4 #[.val (.ref g), .val (.int (Int32.ofNat k))] [(.ref oe)]))
  refine own_by (fun _ kont => XS.iloadN X351.here hx rfl (hb hby d9_4) rfl kont) ?_
  show own_Go p e below _ (T351.setTop (mkF m 5 #[.val (.ref g), .val (.int (Int32.ofNat k))] [(.int (Int32.ofNat k)), (.ref oe)]))
  refine own_by (fun _ kont => own_ldN X351 hx hZ e351 HO350 (j := (Int32.ofNat k)) k hik (by omega) rfl rfl (hb hby d9_5) kont) ?_
  show own_Go p e below _ (T351.setTop (mkF m 6 #[.val (.ref g), .val (.int (Int32.ofNat k))] [(.int (O k))]))
  show own_Go p e below _ (T351.setTop (mkF m 6 #[.val (.ref g), .val (.int (Int32.ofNat k))] [(.int (O k))]))
  exact own_ret X351 hx hlk hret rfl (Or.inl ⟨rfl, by simp, _, rfl⟩) (hb hby d9_6) ⟨rfl, N0, e351⟩ (by decide) (by decide)
def own_Q_rmGi (Z : State) (k : Nat) (I : Nat → Int32) (h0 : Heap) (n0 : Nat) : Option Value → Heap → List Loc → Prop := (fun v h L1 => v = some (.int (I k)) ∧ Fr n0 L1 ∧ h = h0)
theorem own_ef_rmGi (m : MethodId) (g : Addr) (k : Int32) : entryFrame m #[(.ref g), (.int k)] 2 = (mkF m 0 #[.val (.ref g), .val (.int k)] []) := by first | (simp [entryFrame, mkF, argsToLocals, Value.category, maxLocals]; done) | rfl
set_option maxRecDepth 65536 in
set_option maxHeartbeats 40000000 in
theorem rmGi (l : Launch) (Z : State) (a0 : Array Value) (hw : ∀ d ∈ tables_1, d.before a0 Z = true) (ws : List Jvm.Cond) (g : Addr) (sd : Int32) (k sz cap : Nat) (L R C I O : Nat → Int32) (h0 : Heap) (n0 : Nat) (G : own_G Z h0 n0 g sd 7 sz cap L R C I O) (hk : k < 8) (hsz : sz ≤ cap) (hcap : cap ≤ 16) :
    MetFree l (⟨"com/example/lambdalane/lambdalane/NodeGraph", "inEdgeOf", "(I)I"⟩ : MethodName) (head1 (Jvm.Cond.code (⟨"com/example/lambdalane/lambdalane/NodeGraph", "inEdgeOf", "(I)I"⟩ : MethodName) prog_42_method_18_code 2 (some .int) :: ws) ({ frames := 0, cells := 0, slots := 0, locals := 0 } : Room)) (fun aR UR => aR = #[(.ref g), (.int (Int32.ofNat k))] ∧ Z.Warmed39 UR.vm ∧ UR.heap = h0) (fun _ _ _ _ _ => True) (fun _ UR oR UR' => ∃ vR LR, oR = .returned vR ∧ own_Q_rmGi Z k I h0 n0 vR UR'.heap LR ∧ FrameEnd UR oR UR' LR ({ frames := 0, cells := 0, slots := 0, locals := 0 } : Room).cells ({ frames := 0, cells := 0, slots := 0, locals := 0 } : Room).slots) := by
  refine MetFree.of_bodySF (plainFor_of_name own_pn0) hisR ?_
  intro p e s m args below meth c s₁ Bd hml0 hP hK
  obtain ⟨rfl, hZ, hh⟩ := hP
  have hx := Bd.exec
  have hby := Bd.bytes
  have hlk := Bd.notSynchronized
  have hret := Bd.returns
  have hml : c.maxLocals = 2 := hml0
  have hown : s.vm.findClass "com/example/lambdalane/lambdalane/NodeGraph" = some m.cls := findClass_of_methodNamed Bd.named
  have hnm := (name_of_methodNamed Bd.named Bd.method).1
  have X0 : Stand p l e ({ frames := 0, cells := 0, slots := 0, locals := 0 } : Room) s m #[(.ref g), (.int (Int32.ofNat k))] below meth c s₁ [] 0 0 := Stand.of_body Bd
  have e0 : s₁.heap = h0 := by rw [← hh, Bd.state]; rfl
  have N0 := Fr.nil n0
  show own_Go p e below (own_K s (own_Q_rmGi Z k I h0 n0) ({ frames := 0, cells := 0, slots := 0, locals := 0 } : Room).cells ({ frames := 0, cells := 0, slots := 0, locals := 0 } : Room).slots) _
  refine own_by (fun tt kont => castTop (own_ef_rmGi m g (Int32.ofNat k)) kont) ?_
  show own_Go p e below _ (s₁.setTop (mkF m 0 #[.val (.ref g), .val (.int (Int32.ofNat k))] []))
  obtain ⟨lf, rt, co, ie, oe, fl, fr, fc, ⟨GE352, Gside352, Gleft352, Gright352, Gcolour352, GinEdgeOf352, GoutEdgeOf352, Gsize352⟩, ⟨HL352, HR352, HC352, HI352, HO352⟩, hag, ⟨nglf352, ngrt352, ngco352, ngie352, ngoe352, nlfrt352, nlfco352, nlfie352, nlfoe352, nrtco352, nrtie352, nrtoe352, ncoie352, ncooe352, nieoe352⟩, ⟨gg352, glf352, grt352, gco352, gie352, goe352, ZG352⟩⟩ := G
  have hik := own_i (k := k) (by omega)
  refine own_by (fun _ kont => XS.aloadN X0.here hx rfl (hb hby d11_0) rfl rfl kont) ?_
  show own_Go p e below _ (s₁.setTop (mkF m 1 #[.val (.ref g), .val (.int (Int32.ofNat k))] [(.ref g)]))
  obtain ⟨T353, X353, e353, st353⟩ := getF X0 hx hZ hown (host := "") (Or.inl (hw _ (List.mem_of_getElem? (i := 25) rfl))) Via.refl e0 GinEdgeOf352 (g := (mkF m 1 #[.val (.ref g), .val (.int (Int32.ofNat k))] [(.ref g)])) rfl rfl (hb hby d11_1)
  refine own_by st353 ?_
  show own_Go p e below _ (T353.setTop (mkF m 4 #[.val (.ref g), .val (.int (Int32.ofNat k))] [(.ref ie)]))
  refine own_by (fun _ kont => XS.iloadN X353.here hx rfl (hb hby d11_4) rfl kont) ?_
  show own_Go p e below _ (T353.setTop (mkF m 5 #[.val (.ref g), .val (.int (Int32.ofNat k))] [(.int (Int32.ofNat k)), (.ref ie)]))
  refine own_by (fun _ kont => own_ldN X353 hx hZ e353 HI352 (j := (Int32.ofNat k)) k hik (by omega) rfl rfl (hb hby d11_5) kont) ?_
  show own_Go p e below _ (T353.setTop (mkF m 6 #[.val (.ref g), .val (.int (Int32.ofNat k))] [(.int (I k))]))
  show own_Go p e below _ (T353.setTop (mkF m 6 #[.val (.ref g), .val (.int (Int32.ofNat k))] [(.int (I k))]))
  exact own_ret X353 hx hlk hret rfl (Or.inl ⟨rfl, by simp, _, rfl⟩) (hb hby d11_6) ⟨rfl, N0, e353⟩ (by decide) (by decide)
def own_Q_rmGc (Z : State) (k : Nat) (C : Nat → Int32) (h0 : Heap) (n0 : Nat) : Option Value → Heap → List Loc → Prop := (fun v h L1 => v = some (.int (C k)) ∧ Fr n0 L1 ∧ h = h0)
theorem own_ef_rmGc (m : MethodId) (g : Addr) (k : Int32) : entryFrame m #[(.ref g), (.int k)] 2 = (mkF m 0 #[.val (.ref g), .val (.int k)] []) := by first | (simp [entryFrame, mkF, argsToLocals, Value.category, maxLocals]; done) | rfl
set_option maxRecDepth 65536 in
set_option maxHeartbeats 40000000 in
theorem rmGc (l : Launch) (Z : State) (a0 : Array Value) (hw : ∀ d ∈ tables_1, d.before a0 Z = true) (ws : List Jvm.Cond) (g : Addr) (sd : Int32) (k sz cap : Nat) (L R C I O : Nat → Int32) (h0 : Heap) (n0 : Nat) (G : own_G Z h0 n0 g sd 7 sz cap L R C I O) (hk : k < sz) (hsz : sz ≤ cap) (hcap : cap ≤ 16) :
    MetFree l (⟨"com/example/lambdalane/lambdalane/NodeGraph", "colour", "(I)I"⟩ : MethodName) (head1 (Jvm.Cond.code (⟨"com/example/lambdalane/lambdalane/NodeGraph", "colour", "(I)I"⟩ : MethodName) prog_42_method_12_code 2 (some .int) :: ws) ({ frames := 0, cells := 0, slots := 0, locals := 0 } : Room)) (fun aR UR => aR = #[(.ref g), (.int (Int32.ofNat k))] ∧ Z.Warmed39 UR.vm ∧ UR.heap = h0) (fun _ _ _ _ _ => True) (fun _ UR oR UR' => ∃ vR LR, oR = .returned vR ∧ own_Q_rmGc Z k C h0 n0 vR UR'.heap LR ∧ FrameEnd UR oR UR' LR ({ frames := 0, cells := 0, slots := 0, locals := 0 } : Room).cells ({ frames := 0, cells := 0, slots := 0, locals := 0 } : Room).slots) := by
  refine MetFree.of_bodySF (plainFor_of_name own_pn0) hisR ?_
  intro p e s m args below meth c s₁ Bd hml0 hP hK
  obtain ⟨rfl, hZ, hh⟩ := hP
  have hx := Bd.exec
  have hby := Bd.bytes
  have hlk := Bd.notSynchronized
  have hret := Bd.returns
  have hml : c.maxLocals = 2 := hml0
  have hown : s.vm.findClass "com/example/lambdalane/lambdalane/NodeGraph" = some m.cls := findClass_of_methodNamed Bd.named
  have hnm := (name_of_methodNamed Bd.named Bd.method).1
  have X0 : Stand p l e ({ frames := 0, cells := 0, slots := 0, locals := 0 } : Room) s m #[(.ref g), (.int (Int32.ofNat k))] below meth c s₁ [] 0 0 := Stand.of_body Bd
  have e0 : s₁.heap = h0 := by rw [← hh, Bd.state]; rfl
  have N0 := Fr.nil n0
  show own_Go p e below (own_K s (own_Q_rmGc Z k C h0 n0) ({ frames := 0, cells := 0, slots := 0, locals := 0 } : Room).cells ({ frames := 0, cells := 0, slots := 0, locals := 0 } : Room).slots) _
  refine own_by (fun tt kont => castTop (own_ef_rmGc m g (Int32.ofNat k)) kont) ?_
  show own_Go p e below _ (s₁.setTop (mkF m 0 #[.val (.ref g), .val (.int (Int32.ofNat k))] []))
  obtain ⟨lf, rt, co, ie, oe, fl, fr, fc, ⟨GE354, Gside354, Gleft354, Gright354, Gcolour354, GinEdgeOf354, GoutEdgeOf354, Gsize354⟩, ⟨HL354, HR354, HC354, HI354, HO354⟩, hag, ⟨nglf354, ngrt354, ngco354, ngie354, ngoe354, nlfrt354, nlfco354, nlfie354, nlfoe354, nrtco354, nrtie354, nrtoe354, ncoie354, ncooe354, nieoe354⟩, ⟨gg354, glf354, grt354, gco354, gie354, goe354, ZG354⟩⟩ := G
  have hik := own_i (k := k) (by omega)
  refine own_by (fun _ kont => XS.aloadN X0.here hx rfl (hb hby d10_0) rfl rfl kont) ?_
  show own_Go p e below _ (s₁.setTop (mkF m 1 #[.val (.ref g), .val (.int (Int32.ofNat k))] [(.ref g)]))
  obtain ⟨T355, X355, e355, st355⟩ := getF X0 hx hZ hown (host := "") (Or.inl (hw _ (List.mem_of_getElem? (i := 23) rfl))) Via.refl e0 Gcolour354 (g := (mkF m 1 #[.val (.ref g), .val (.int (Int32.ofNat k))] [(.ref g)])) rfl rfl (hb hby d10_1)
  refine own_by st355 ?_
  show own_Go p e below _ (T355.setTop (mkF m 4 #[.val (.ref g), .val (.int (Int32.ofNat k))] [(.ref co)]))
  refine own_by (fun _ kont => XS.iloadN X355.here hx rfl (hb hby d10_4) rfl kont) ?_
  show own_Go p e below _ (T355.setTop (mkF m 5 #[.val (.ref g), .val (.int (Int32.ofNat k))] [(.int (Int32.ofNat k)), (.ref co)]))
  refine own_by (fun _ kont => own_ldN X355 hx hZ e355 HC354 (j := (Int32.ofNat k)) k hik (by omega) rfl rfl (hb hby d10_5) kont) ?_
  show own_Go p e below _ (T355.setTop (mkF m 6 #[.val (.ref g), .val (.int (Int32.ofNat k))] [(.int (fc k))]))
  rw [(hag k hk).2.2]
  show own_Go p e below _ (T355.setTop (mkF m 6 #[.val (.ref g), .val (.int (Int32.ofNat k))] [(.int (C k))]))
  exact own_ret X355 hx hlk hret rfl (Or.inl ⟨rfl, by simp, _, rfl⟩) (hb hby d10_6) ⟨rfl, N0, e355⟩ (by decide) (by decide)
def own_Q_rmR (Z : State) (g : Addr) (sd : Int32) (de nu ko sz cap : Nat) (L R C I O : Nat → Int32) (n0 : Nat) : Option Value → Heap → List Loc → Prop := (fun v h L1 => v = none ∧ Fr n0 L1 ∧ own_G Z h n0 g sd 7 sz cap L R (fun i => if i = ko then Int32.ofNat nu else C i) I (fun i => if i = nu then Int32.ofNat ko else (fun i => if i = de then (-1 : Int32) else O i) i))
theorem own_agc {sz ko : Nat} {fl fr fc L R C : Nat → Int32} {x : Int32} (hag : ∀ i, i < sz → fl i = L i ∧ fr i = R i ∧ fc i = C i) (i : Nat) (hi : i < sz) :
    fl i = L i ∧ fr i = R i ∧ (fun i => if i = ko then x else fc i) i = (fun i => if i = ko then x else C i) i := by
  refine ⟨(hag i hi).1, (hag i hi).2.1, ?_⟩
  by_cases q : i = ko
  · simp only [if_pos q]
  · simp only [if_neg q]; exact (hag i hi).2.2
theorem own_ef_rmR (m : MethodId) (g : Addr) (de : Int32) (nu : Int32) : entryFrame m #[(.ref g), (.int de), (.int nu)] 4 = (mkF m 0 #[.val (.ref g), .val (.int de), .val (.int nu), .unset] []) := by first | (simp [entryFrame, mkF, argsToLocals, Value.category, maxLocals]; done) | rfl
set_option maxRecDepth 65536 in
set_option maxHeartbeats 40000000 in
theorem rmR (l : Launch) (Z : State) (a0 : Array Value) (hw : ∀ d ∈ tables_1, d.before a0 Z = true) (ws : List Jvm.Cond) (g : Addr) (sd : Int32) (de nu ko sz cap : Nat) (L R C I O : Nat → Int32) (h0 : Heap) (n0 : Nat) (G : own_G Z h0 n0 g sd 7 sz cap L R C I O) (hde : de ≤ 7) (hnu : nu ≤ 7) (hO : O de = Int32.ofNat ko) (hko : ko < sz) (hsz : sz ≤ cap) (hcap : cap ≤ 16) :
    MetFree l (⟨"com/example/lambdalane/lambdalane/NodeGraph", "recolourOutEdge", "(II)V"⟩ : MethodName) (head1 (Jvm.Cond.code (⟨"com/example/lambdalane/lambdalane/NodeGraph", "recolourOutEdge", "(II)V"⟩ : MethodName) prog_42_method_23_code 4 none :: ws) ({ frames := 0, cells := 0, slots := 0, locals := 0 } : Room)) (fun aR UR => aR = #[(.ref g), (.int (Int32.ofNat de)), (.int (Int32.ofNat nu))] ∧ Z.Warmed39 UR.vm ∧ UR.heap = h0) (fun _ _ _ _ _ => True) (fun _ UR oR UR' => ∃ vR LR, oR = .returned vR ∧ own_Q_rmR Z g sd de nu ko sz cap L R C I O n0 vR UR'.heap LR ∧ FrameEnd UR oR UR' LR ({ frames := 0, cells := 0, slots := 0, locals := 0 } : Room).cells ({ frames := 0, cells := 0, slots := 0, locals := 0 } : Room).slots) := by
  refine MetFree.of_bodySF (plainFor_of_name own_pn0) hisR ?_
  intro p e s m args below meth c s₁ Bd hml0 hP hK
  obtain ⟨rfl, hZ, hh⟩ := hP
  have hx := Bd.exec
  have hby := Bd.bytes
  have hlk := Bd.notSynchronized
  have hret := Bd.returns
  have hml : c.maxLocals = 4 := hml0
  have hown : s.vm.findClass "com/example/lambdalane/lambdalane/NodeGraph" = some m.cls := findClass_of_methodNamed Bd.named
  have hnm := (name_of_methodNamed Bd.named Bd.method).1
  have X0 : Stand p l e ({ frames := 0, cells := 0, slots := 0, locals := 0 } : Room) s m #[(.ref g), (.int (Int32.ofNat de)), (.int (Int32.ofNat nu))] below meth c s₁ [] 0 0 := Stand.of_body Bd
  have e0 : s₁.heap = h0 := by rw [← hh, Bd.state]; rfl
  have N0 := Fr.nil n0
  show own_Go p e below (own_K s (own_Q_rmR Z g sd de nu ko sz cap L R C I O n0) ({ frames := 0, cells := 0, slots := 0, locals := 0 } : Room).cells ({ frames := 0, cells := 0, slots := 0, locals := 0 } : Room).slots) _
  refine own_by (fun tt kont => castTop (own_ef_rmR m g (Int32.ofNat de) (Int32.ofNat nu)) kont) ?_
  show own_Go p e below _ (s₁.setTop (mkF m 0 #[.val (.ref g), .val (.int (Int32.ofNat de)), .val (.int (Int32.ofNat nu)), .unset] []))
  obtain ⟨lf, rt, co, ie, oe, fl, fr, fc, ⟨GE356, Gside356, Gleft356, Gright356, Gcolour356, GinEdgeOf356, GoutEdgeOf356, Gsize356⟩, ⟨HL356, HR356, HC356, HI356, HO356⟩, hag, ⟨nglf356, ngrt356, ngco356, ngie356, ngoe356, nlfrt356, nlfco356, nlfie356, nlfoe356, nrtco356, nrtie356, nrtoe356, ncoie356, ncooe356, nieoe356⟩, ⟨gg356, glf356, grt356, gco356, gie356, goe356, ZG356⟩⟩ := G
  have hid := own_i (k := de) (by omega)
  have hin := own_i (k := nu) (by omega)
  have hio := own_i (k := ko) (by omega)
  refine own_by (fun _ kont => XS.aloadN X0.here hx rfl (hb hby d8_0) rfl rfl kont) ?_
  show own_Go p e below _ (s₁.setTop (mkF m 1 #[.val (.ref g), .val (.int (Int32.ofNat de)), .val (.int (Int32.ofNat nu)), .unset] [(.ref g)]))
  obtain ⟨T357, X357, e357, st357⟩ := getF X0 hx hZ hown (host := "") (Or.inl (hw _ (List.mem_of_getElem? (i := 27) rfl))) Via.refl e0 GoutEdgeOf356 (g := (mkF m 1 #[.val (.ref g), .val (.int (Int32.ofNat de)), .val (.int (Int32.ofNat nu)), .unset] [(.ref g)])) rfl rfl (hb hby d8_1)
  refine own_by st357 ?_
  show own_Go p e below _ (T357.setTop (mkF m 4 #[.val (.ref g), .val (.int (Int32.ofNat de)), .val (.int (Int32.ofNat nu)), .unset] [(.ref oe)]))
  refine own_by (fun _ kont => XS.iloadN X357.here hx rfl (hb hby d8_4) rfl kont) ?_
  show own_Go p e below _ (T357.setTop (mkF m 5 #[.val (.ref g), .val (.int (Int32.ofNat de)), .val (.int (Int32.ofNat nu)), .unset] [(.int (Int32.ofNat de)), (.ref oe)]))
  refine own_by (fun _ kont => own_ldN X357 hx hZ e357 HO356 (j := (Int32.ofNat de)) de hid (by omega) rfl rfl (hb hby d8_5) kont) ?_
  show own_Go p e below _ (T357.setTop (mkF m 6 #[.val (.ref g), .val (.int (Int32.ofNat de)), .val (.int (Int32.ofNat nu)), .unset] [(.int (O de))]))
  rw [hO]
  show own_Go p e below _ (T357.setTop (mkF m 6 #[.val (.ref g), .val (.int (Int32.ofNat de)), .val (.int (Int32.ofNat nu)), .unset] [(.int (Int32.ofNat ko))]))
  refine own_by (fun _ kont => XS.istoreN X357.here hx rfl (hb hby d8_6) rfl (l' := #[.val (.ref g), .val (.int (Int32.ofNat de)), .val (.int (Int32.ofNat nu)), .val (.int (Int32.ofNat ko))]) rfl kont) ?_
  show own_Go p e below _ (T357.setTop (mkF m 7 #[.val (.ref g), .val (.int (Int32.ofNat de)), .val (.int (Int32.ofNat nu)), .val (.int (Int32.ofNat ko))] []))
  refine own_by (fun _ kont => XS.aloadN X357.here hx rfl (hb hby d8_7) rfl rfl kont) ?_
  show own_Go p e below _ (T357.setTop (mkF m 8 #[.val (.ref g), .val (.int (Int32.ofNat de)), .val (.int (Int32.ofNat nu)), .val (.int (Int32.ofNat ko))] [(.ref g)]))
  obtain ⟨T358, X358, e358, st358⟩ := getF X357 hx hZ hown (host := "") (Or.inl (hw _ (List.mem_of_getElem? (i := 27) rfl))) Via.refl e357 GoutEdgeOf356 (g := (mkF m 8 #[.val (.ref g), .val (.int (Int32.ofNat de)), .val (.int (Int32.ofNat nu)), .val (.int (Int32.ofNat ko))] [(.ref g)])) rfl rfl (hb hby d8_8)
  refine own_by st358 ?_
  show own_Go p e below _ (T358.setTop (mkF m 11 #[.val (.ref g), .val (.int (Int32.ofNat de)), .val (.int (Int32.ofNat nu)), .val (.int (Int32.ofNat ko))] [(.ref oe)]))
  refine own_by (fun _ kont => XS.iloadN X358.here hx rfl (hb hby d8_11) rfl kont) ?_
  show own_Go p e below _ (T358.setTop (mkF m 12 #[.val (.ref g), .val (.int (Int32.ofNat de)), .val (.int (Int32.ofNat nu)), .val (.int (Int32.ofNat ko))] [(.int (Int32.ofNat de)), (.ref oe)]))
  refine own_by (fun _ kont => XT.iconstV X358.here hx rfl (-1 : Int32) (hb hby d8_12) rfl kont) ?_
  show own_Go p e below _ (T358.setTop (mkF m 13 #[.val (.ref g), .val (.int (Int32.ofNat de)), .val (.int (Int32.ofNat nu)), .val (.int (Int32.ofNat ko))] [(.int (-1 : Int32)), (.int (Int32.ofNat de)), (.ref oe)]))
  obtain ⟨T359, h359, X359, e359, W359, H359, st359⟩ := own_stN X358 hx hZ e358 HO356 (j := (Int32.ofNat de)) de hid (by omega) (g := (mkF m 13 #[.val (.ref g), .val (.int (Int32.ofNat de)), .val (.int (Int32.ofNat nu)), .val (.int (Int32.ofNat ko))] [(.int (-1 : Int32)), (.int (Int32.ofNat de)), (.ref oe)])) rfl rfl (hb hby d8_13)
  obtain ⟨L359, X359, M359⟩ := own_hide X359 (Fr.snoc X359 N0 goe356)
  have Z359 : n0 ≤ h359.size := (by rw [Wr.size W359]; exact ZG356)
  refine own_by st359 ?_
  show own_Go p e below _ (T359.setTop (mkF m 14 #[.val (.ref g), .val (.int (Int32.ofNat de)), .val (.int (Int32.ofNat nu)), .val (.int (Int32.ofNat ko))] []))
  refine own_by (fun _ kont => XS.aloadN X359.here hx rfl (hb hby d8_14) rfl rfl kont) ?_
  show own_Go p e below _ (T359.setTop (mkF m 15 #[.val (.ref g), .val (.int (Int32.ofNat de)), .val (.int (Int32.ofNat nu)), .val (.int (Int32.ofNat ko))] [(.ref g)]))
  have F360 : Fld Z h359 g "com/example/lambdalane/lambdalane/NodeGraph" "outEdgeOf" "[I" (.ref oe) := (GoutEdgeOf356.other W359 (Or.inl ngoe356))
  obtain ⟨T361, X361, e361, st361⟩ := getF X359 hx hZ hown (host := "") (Or.inl (hw _ (List.mem_of_getElem? (i := 27) rfl))) Via.refl e359 F360 (g := (mkF m 15 #[.val (.ref g), .val (.int (Int32.ofNat de)), .val (.int (Int32.ofNat nu)), .val (.int (Int32.ofNat ko))] [(.ref g)])) rfl rfl (hb hby d8_15)
  refine own_by st361 ?_
  show own_Go p e below _ (T361.setTop (mkF m 18 #[.val (.ref g), .val (.int (Int32.ofNat de)), .val (.int (Int32.ofNat nu)), .val (.int (Int32.ofNat ko))] [(.ref oe)]))
  refine own_by (fun _ kont => XS.iloadN X361.here hx rfl (hb hby d8_18) rfl kont) ?_
  show own_Go p e below _ (T361.setTop (mkF m 19 #[.val (.ref g), .val (.int (Int32.ofNat de)), .val (.int (Int32.ofNat nu)), .val (.int (Int32.ofNat ko))] [(.int (Int32.ofNat nu)), (.ref oe)]))
  refine own_by (fun _ kont => XS.iloadN X361.here hx rfl (hb hby d8_19) rfl kont) ?_
  show own_Go p e below _ (T361.setTop (mkF m 20 #[.val (.ref g), .val (.int (Int32.ofNat de)), .val (.int (Int32.ofNat nu)), .val (.int (Int32.ofNat ko))] [(.int (Int32.ofNat ko)), (.int (Int32.ofNat nu)), (.ref oe)]))
  obtain ⟨T362, h362, X362, e362, W362, H362, st362⟩ := own_stN X361 hx hZ e361 H359 (j := (Int32.ofNat nu)) nu hin (by omega) (g := (mkF m 20 #[.val (.ref g), .val (.int (Int32.ofNat de)), .val (.int (Int32.ofNat nu)), .val (.int (Int32.ofNat ko))] [(.int (Int32.ofNat ko)), (.int (Int32.ofNat nu)), (.ref oe)])) rfl rfl (hb hby d8_20)
  obtain ⟨L362, X362, M362⟩ := own_hide X362 (Fr.snoc X362 M359 goe356)
  have Z362 : n0 ≤ h362.size := (by rw [Wr.size W362]; exact Z359)
  refine own_by st362 ?_
  show own_Go p e below _ (T362.setTop (mkF m 21 #[.val (.ref g), .val (.int (Int32.ofNat de)), .val (.int (Int32.ofNat nu)), .val (.int (Int32.ofNat ko))] []))
  refine own_by (fun _ kont => XS.aloadN X362.here hx rfl (hb hby d8_21) rfl rfl kont) ?_
  show own_Go p e below _ (T362.setTop (mkF m 22 #[.val (.ref g), .val (.int (Int32.ofNat de)), .val (.int (Int32.ofNat nu)), .val (.int (Int32.ofNat ko))] [(.ref g)]))
  have F363 : Fld Z h362 g "com/example/lambdalane/lambdalane/NodeGraph" "colour" "[I" (.ref co) := ((Gcolour356.other W359 (Or.inl ngoe356)).other W362 (Or.inl ngoe356))
  obtain ⟨T364, X364, e364, st364⟩ := getF X362 hx hZ hown (host := "") (Or.inl (hw _ (List.mem_of_getElem? (i := 23) rfl))) Via.refl e362 F363 (g := (mkF m 22 #[.val (.ref g), .val (.int (Int32.ofNat de)), .val (.int (Int32.ofNat nu)), .val (.int (Int32.ofNat ko))] [(.ref g)])) rfl rfl (hb hby d8_22)
  refine own_by st364 ?_
  show own_Go p e below _ (T364.setTop (mkF m 25 #[.val (.ref g), .val (.int (Int32.ofNat de)), .val (.int (Int32.ofNat nu)), .val (.int (Int32.ofNat ko))] [(.ref co)]))
  refine own_by (fun _ kont => XS.iloadN X364.here hx rfl (hb hby d8_25) rfl kont) ?_
  show own_Go p e below _ (T364.setTop (mkF m 26 #[.val (.ref g), .val (.int (Int32.ofNat de)), .val (.int (Int32.ofNat nu)), .val (.int (Int32.ofNat ko))] [(.int (Int32.ofNat ko)), (.ref co)]))
  refine own_by (fun _ kont => XS.iloadN X364.here hx rfl (hb hby d8_26) rfl kont) ?_
  show own_Go p e below _ (T364.setTop (mkF m 27 #[.val (.ref g), .val (.int (Int32.ofNat de)), .val (.int (Int32.ofNat nu)), .val (.int (Int32.ofNat ko))] [(.int (Int32.ofNat nu)), (.int (Int32.ofNat ko)), (.ref co)]))
  have F365 : own_IA Z h362 co cap fc := (own_IA_other (own_IA_other HC356 W359 ncooe356) W362 ncooe356)
  obtain ⟨T366, h366, X366, e366, W366, H366, st366⟩ := own_stN X364 hx hZ e364 F365 (j := (Int32.ofNat ko)) ko hio (by omega) (g := (mkF m 27 #[.val (.ref g), .val (.int (Int32.ofNat de)), .val (.int (Int32.ofNat nu)), .val (.int (Int32.ofNat ko))] [(.int (Int32.ofNat nu)), (.int (Int32.ofNat ko)), (.ref co)])) rfl rfl (hb hby d8_27)
  obtain ⟨L366, X366, M366⟩ := own_hide X366 (Fr.snoc X366 M362 gco356)
  have Z366 : n0 ≤ h366.size := (by rw [Wr.size W366]; exact Z362)
  refine own_by st366 ?_
  show own_Go p e below _ (T366.setTop (mkF m 28 #[.val (.ref g), .val (.int (Int32.ofNat de)), .val (.int (Int32.ofNat nu)), .val (.int (Int32.ofNat ko))] []))
  have F367 : Exa Z h366 g "com/example/lambdalane/lambdalane/NodeGraph" := (((GE356.wr W359).wr W362).wr W366)
  have F368 : Fld Z h366 g "com/example/lambdalane/lambdalane/NodeGraph" "side" "I" (.int sd) := (((Gside356.other W359 (Or.inl ngoe356)).other W362 (Or.inl ngoe356)).other W366 (Or.inl ngco356))
  have F369 : Fld Z h366 g "com/example/lambdalane/lambdalane/NodeGraph" "left" "[I" (.ref lf) := (((Gleft356.other W359 (Or.inl ngoe356)).other W362 (Or.inl ngoe356)).other W366 (Or.inl ngco356))
  have F370 : Fld Z h366 g "com/example/lambdalane/lambdalane/NodeGraph" "right" "[I" (.ref rt) := (((Gright356.other W359 (Or.inl ngoe356)).other W362 (Or.inl ngoe356)).other W366 (Or.inl ngco356))
  have F371 : Fld Z h366 g "com/example/lambdalane/lambdalane/NodeGraph" "colour" "[I" (.ref co) := (F363.other W366 (Or.inl ngco356))
  have F372 : Fld Z h366 g "com/example/lambdalane/lambdalane/NodeGraph" "inEdgeOf" "[I" (.ref ie) := (((GinEdgeOf356.other W359 (Or.inl ngoe356)).other W362 (Or.inl ngoe356)).other W366 (Or.inl ngco356))
  have F373 : Fld Z h366 g "com/example/lambdalane/lambdalane/NodeGraph" "outEdgeOf" "[I" (.ref oe) := ((F360.other W362 (Or.inl ngoe356)).other W366 (Or.inl ngco356))
  have F374 : Fld Z h366 g "com/example/lambdalane/lambdalane/NodeGraph" "size" "I" (.int (Int32.ofNat sz)) := (((Gsize356.other W359 (Or.inl ngoe356)).other W362 (Or.inl ngoe356)).other W366 (Or.inl ngco356))
  have F375 : own_IA Z h366 lf cap fl := (own_IA_other (own_IA_other (own_IA_other HL356 W359 nlfoe356) W362 nlfoe356) W366 nlfco356)
  have F376 : own_IA Z h366 rt cap fr := (own_IA_other (own_IA_other (own_IA_other HR356 W359 nrtoe356) W362 nrtoe356) W366 nrtco356)
  have F377 : own_IA Z h366 ie (7 + 1) I := (own_IA_other (own_IA_other (own_IA_other HI356 W359 nieoe356) W362 nieoe356) W366 (Ne.symm ncoie356))
  have F378 : own_IA Z h366 oe (7 + 1) (fun i => if i = nu then (Int32.ofNat ko) else (fun i => if i = de then (-1 : Int32) else O i) i) := (own_IA_other H362 W366 (Ne.symm ncooe356))
  refine own_retV X366 hx hlk hret (hb hby d8_28) ⟨rfl, M366, ?_⟩ (by decide) (by decide)
  rw [e366]
  exact ⟨lf, rt, co, ie, oe, _, _, _, ⟨F367, F368, F369, F370, F371, F372, F373, F374⟩, ⟨F375, F376, H366, F377, F378⟩, fun i hi => own_agc hag i hi, ⟨nglf356, ngrt356, ngco356, ngie356, ngoe356, nlfrt356, nlfco356, nlfie356, nlfoe356, nrtco356, nrtie356, nrtoe356, ncoie356, ncooe356, nieoe356⟩, ⟨gg356, glf356, grt356, gco356, gie356, goe356, Z366⟩⟩
def own_Q_rmL (Z : State) (n0 : Nat) : Option Value → Heap → List Loc → Prop := (fun v h L => v = some (.int 1) ∧ Fr n0 L)
theorem own_pn11 : plainName "com/example/lambdalane/lambdalane/NodeGraphRecolourOutEdgePinLaw" = true := by first | (simp [plainName, overriddenIn]; done) | decide +kernel
def own_en (ep kt : Nat) (ai : Int32) (I O : Nat → Int32) : Prop := ep = 0 ∨ (1 ≤ ep ∧ ¬ ai = 0 ∧ I ep = Int32.ofNat kt ∧ O ep = -1) ∨ (1 ≤ ep ∧ ai = 0 ∧ O ep = Int32.ofNat kt ∧ I ep = -1)
set_option maxRecDepth 65536 in
set_option maxHeartbeats 40000000 in
theorem own_e249 {p : Program} {l : Launch} {e : Env} {s : State} {m : MethodId} {args : Array Value} {below : List Frame} {meth : Method} {c : Code} {T : State} {locs : List Loc} {Z : State} {a0 : Array Value} {n0 : Nat} {h : Heap} (X : Stand p l e room_1 s m args below meth c T locs 16 189) (hx : p.tables.exec = Jvm.exec) (hby : c.code = code) (hlk : meth.locks = false) (hret : meth.sig.returnType = some .boolean) (hZ : Z.Warmed39 s.vm) (hown : s.vm.findClass "com/example/lambdalane/lambdalane/NodeGraphRecolourOutEdgePinLaw" = some m.cls) (hw : ∀ d ∈ tables_1, d.before a0 Z = true) (hml : c.maxLocals = 22) (N : Fr n0 locs) (eT : T.heap = h) (i0 : Int32) (i1 : Int32) (i2 : Int32) (i3 : Int32) (i4 : Int32) (r1 l1 v1 w1 tf ai cp tl tr sd : Int32) (g : Addr) (de nu ep kt ki ko cap : Nat) (Lf Rf C I O : Nat → Int32) (G : own_G Z h n0 g sd 7 3 cap Lf Rf C I O) (hcap3 : 3 ≤ cap) (hcap : cap ≤ 16) (d1 : 1 ≤ de) (d7 : de ≤ 7) (u1 : 1 ≤ nu) (u7 : nu ≤ 7) (e7 : ep ≤ 7) (hdn : ¬ de = nu) (hed : ep = 0 ∨ (¬ ep = de ∧ ¬ ep = nu)) (hkt : kt < 3) (hki : ki < 3) (hko : ko < 3) (hto : ¬ kt = ko) (hio : ¬ ki = ko) (hCt : C kt = Int32.ofNat ep) (hCi : C ki = Int32.ofNat de) (hId : I de = Int32.ofNat ki) (hOd : O de = Int32.ofNat ko) (hIn : I nu = -1) (hen : own_en ep kt ai I O) :
    own_Go p e below (own_K s (own_Q_rmL Z  n0) room_1.cells room_1.slots) (T.setTop (mkF m 249 #[.val (.int i0), .val (.int i1), .val (.int i2), .val (.int i3), .val (.int i4), .val (.int (Int32.ofNat de)), .val (.int (Int32.ofNat nu)), .val (.int (Int32.ofNat ep)), .val (.int r1), .val (.int l1), .val (.int v1), .val (.int w1), .val (.int tf), .val (.int ai), .val (.int cp), .val (.int tl), .val (.int tr), .val (.ref g), .val (.int (Int32.ofNat kt)), .val (.int (Int32.ofNat ki)), .val (.int (Int32.ofNat ko)), .unset] [])) := by
  have GE379 : Exa Z h g "com/example/lambdalane/lambdalane/NodeGraph" := by obtain ⟨_, _, _, _, _, _, _, _, ⟨q, -⟩, -⟩ := G; exact q
  refine own_by (fun _ kont => XS.aload X.here hx rfl (hb hby at_249) rfl rfl kont) ?_
  show own_Go p e below _ (T.setTop (mkF m 251 #[.val (.int i0), .val (.int i1), .val (.int i2), .val (.int i3), .val (.int i4), .val (.int (Int32.ofNat de)), .val (.int (Int32.ofNat nu)), .val (.int (Int32.ofNat ep)), .val (.int r1), .val (.int l1), .val (.int v1), .val (.int w1), .val (.int tf), .val (.int ai), .val (.int cp), .val (.int tl), .val (.int tr), .val (.ref g), .val (.int (Int32.ofNat kt)), .val (.int (Int32.ofNat ki)), .val (.int (Int32.ofNat ko)), .unset] [(.ref g)]))
  refine own_by (fun _ kont => XS.iload X.here hx rfl (hb hby at_251) rfl kont) ?_
  show own_Go p e below _ (T.setTop (mkF m 253 #[.val (.int i0), .val (.int i1), .val (.int i2), .val (.int i3), .val (.int i4), .val (.int (Int32.ofNat de)), .val (.int (Int32.ofNat nu)), .val (.int (Int32.ofNat ep)), .val (.int r1), .val (.int l1), .val (.int v1), .val (.int w1), .val (.int tf), .val (.int ai), .val (.int cp), .val (.int tl), .val (.int tr), .val (.ref g), .val (.int (Int32.ofNat kt)), .val (.int (Int32.ofNat ki)), .val (.int (Int32.ofNat ko)), .unset] [(.int (Int32.ofNat de)), (.ref g)]))
  refine own_by (fun _ kont => XS.iload X.here hx rfl (hb hby at_253) rfl kont) ?_
  show own_Go p e below _ (T.setTop (mkF m 255 #[.val (.int i0), .val (.int i1), .val (.int i2), .val (.int i3), .val (.int i4), .val (.int (Int32.ofNat de)), .val (.int (Int32.ofNat nu)), .val (.int (Int32.ofNat ep)), .val (.int r1), .val (.int l1), .val (.int v1), .val (.int w1), .val (.int tf), .val (.int ai), .val (.int cp), .val (.int tl), .val (.int tr), .val (.ref g), .val (.int (Int32.ofNat kt)), .val (.int (Int32.ofNat ki)), .val (.int (Int32.ofNat ko)), .unset] [(.int (Int32.ofNat nu)), (.int (Int32.ofNat de)), (.ref g)]))
  obtain ⟨cq381, kq381, qa381, qb381, qc381⟩ := isOf hZ eT GE379
  obtain ⟨_, _, ⟨T380, L380, k380, n380⟩, -, X380, ⟨Lc380, hQ380, l380, y380, z380⟩, st380⟩ := X.virtualBack hx (y := (⟨"com/example/lambdalane/lambdalane/NodeGraph", "recolourOutEdge", "(II)V"⟩ : MethodName)) (z := (⟨"com/example/lambdalane/lambdalane/NodeGraph", "recolourOutEdge", "(II)V"⟩ : MethodName)) hown (mvT hZ (hw _ (List.mem_of_getElem? (i := 56) rfl))) (mvT hZ (hw _ (List.mem_of_getElem? (i := 57) rfl))) (notFace_of_selects (args := #[]) (mvT hZ (hw _ (List.mem_of_getElem? (i := 59) rfl)))) (mvT hZ (hw _ (List.mem_of_getElem? (i := 59) rfl))) (mvT hZ (hw _ (List.mem_of_getElem? (i := 58) rfl))) (by decide) (backOf (W := 0) (rmR l Z a0 hw [] g _ de nu ko 3 cap Lf Rf C I O h n0 G (by omega) (by omega) hOd hko (by omega) (by omega)) hZ (hw _ (List.mem_of_getElem? (i := 60) rfl)) (hw _ (List.mem_of_getElem? (i := 3) rfl)) (by decide) (by decide)) qa381 qc381 (g := (mkF m 255 #[.val (.int i0), .val (.int i1), .val (.int i2), .val (.int i3), .val (.int i4), .val (.int (Int32.ofNat de)), .val (.int (Int32.ofNat nu)), .val (.int (Int32.ofNat ep)), .val (.int r1), .val (.int l1), .val (.int v1), .val (.int w1), .val (.int tf), .val (.int ai), .val (.int cp), .val (.int tl), .val (.int tr), .val (.ref g), .val (.int (Int32.ofNat kt)), .val (.int (Int32.ofNat ki)), .val (.int (Int32.ofNat ko)), .unset] [(.int (Int32.ofNat nu)), (.int (Int32.ofNat de)), (.ref g)])) rfl (by rw [hml]; rfl) (Steps.refl _) (argsL := [(.int (Int32.ofNat de)), (.int (Int32.ofNat nu))]) (rest := []) (lenOf own_pd9 rfl) rfl (by show 2 * 0 + _ ≤ _; exact Nat.le_of_eq rfl) (hb hby at_255) (fun _ _ => ⟨rfl, eT, (by decide : 16 + 0 ≤ _), (by decide : 189 + 0 ≤ _)⟩)
  dsimp only [Pt.U, Pt.locs, Pt.cells, Pt.slots] at X380 l380 y380 z380 st380 hQ380
  subst l380 y380 z380
  refine own_tr st380 ?_
  obtain ⟨rfl, N380, G380⟩ := hQ380
  obtain ⟨L380, X380, M380⟩ := own_hide X380 (Fr.app N N380)
  obtain ⟨h380, e380⟩ : ∃ h, T380.heap = h := ⟨_, rfl⟩
  rw [e380] at G380
  obtain ⟨O2, hO2⟩ : ∃ f : Nat → Int32, f = (fun i => if i = nu then Int32.ofNat ko else (fun i => if i = de then (-1 : Int32) else O i) i) := ⟨_, rfl⟩
  obtain ⟨C2, hC2⟩ : ∃ f : Nat → Int32, f = (fun i => if i = ko then Int32.ofNat nu else C i) := ⟨_, rfl⟩
  rw [← hO2, ← hC2] at G380
  have o1 : O2 de = -1 := by rw [hO2]; simp only [if_neg hdn, if_true]
  have o2 : O2 nu = Int32.ofNat ko := by rw [hO2]; simp only [if_true]
  have o3 : ∀ k, ¬ k = nu → ¬ k = de → O2 k = O k := fun k q1 q2 => by rw [hO2]; simp only [if_neg q1, if_neg q2]
  have c1 : C2 ko = Int32.ofNat nu := by rw [hC2]; simp only [if_true]
  have c2 : ∀ k, ¬ k = ko → C2 k = C k := fun k q => by rw [hC2]; simp only [if_neg q]
  have GE382 : Exa Z h380 g "com/example/lambdalane/lambdalane/NodeGraph" := by obtain ⟨_, _, _, _, _, _, _, _, ⟨q, -⟩, -⟩ := G380; exact q
  show own_Go p e below _ (T380.setTop (mkF m 258 #[.val (.int i0), .val (.int i1), .val (.int i2), .val (.int i3), .val (.int i4), .val (.int (Int32.ofNat de)), .val (.int (Int32.ofNat nu)), .val (.int (Int32.ofNat ep)), .val (.int r1), .val (.int l1), .val (.int v1), .val (.int w1), .val (.int tf), .val (.int ai), .val (.int cp), .val (.int tl), .val (.int tr), .val (.ref g), .val (.int (Int32.ofNat kt)), .val (.int (Int32.ofNat ki)), .val (.int (Int32.ofNat ko)), .unset] []))
  refine own_by (fun _ kont => XS.aload X380.here hx rfl (hb hby at_258) rfl rfl kont) ?_
  show own_Go p e below _ (T380.setTop (mkF m 260 #[.val (.int i0), .val (.int i1), .val (.int i2), .val (.int i3), .val (.int i4), .val (.int (Int32.ofNat de)), .val (.int (Int32.ofNat nu)), .val (.int (Int32.ofNat ep)), .val (.int r1), .val (.int l1), .val (.int v1), .val (.int w1), .val (.int tf), .val (.int ai), .val (.int cp), .val (.int tl), .val (.int tr), .val (.ref g), .val (.int (Int32.ofNat kt)), .val (.int (Int32.ofNat ki)), .val (.int (Int32.ofNat ko)), .unset] [(.ref g)]))
  refine own_by (fun _ kont => XS.iload X380.here hx rfl (hb hby at_260) rfl kont) ?_
  show own_Go p e below _ (T380.setTop (mkF m 262 #[.val (.int i0), .val (.int i1), .val (.int i2), .val (.int i3), .val (.int i4), .val (.int (Int32.ofNat de)), .val (.int (Int32.ofNat nu)), .val (.int (Int32.ofNat ep)), .val (.int r1), .val (.int l1), .val (.int v1), .val (.int w1), .val (.int tf), .val (.int ai), .val (.int cp), .val (.int tl), .val (.int tr), .val (.ref g), .val (.int (Int32.ofNat kt)), .val (.int (Int32.ofNat ki)), .val (.int (Int32.ofNat ko)), .unset] [(.int (Int32.ofNat de)), (.ref g)]))
  obtain ⟨cq384, kq384, qa384, qb384, qc384⟩ := isOf hZ e380 GE382
  obtain ⟨_, _, ⟨T383, L383, k383, n383⟩, -, X383, ⟨Lc383, hQ383, l383, y383, z383⟩, st383⟩ := X380.virtualBack hx (y := (⟨"com/example/lambdalane/lambdalane/NodeGraph", "outEdgeOf", "(I)I"⟩ : MethodName)) (z := (⟨"com/example/lambdalane/lambdalane/NodeGraph", "outEdgeOf", "(I)I"⟩ : MethodName)) hown (mvT hZ (hw _ (List.mem_of_getElem? (i := 61) rfl))) (mvT hZ (hw _ (List.mem_of_getElem? (i := 62) rfl))) (notFace_of_selects (args := #[]) (mvT hZ (hw _ (List.mem_of_getElem? (i := 64) rfl)))) (mvT hZ (hw _ (List.mem_of_getElem? (i := 64) rfl))) (mvT hZ (hw _ (List.mem_of_getElem? (i := 63) rfl))) (by decide) (backOf (W := 0) (rmGo l Z a0 hw [] g _ de 3 cap Lf Rf C2 I O2 h380 n0 G380 (by omega) (by omega) (by omega)) hZ (hw _ (List.mem_of_getElem? (i := 65) rfl)) (hw _ (List.mem_of_getElem? (i := 3) rfl)) (by decide) (by decide)) qa384 qc384 (g := (mkF m 262 #[.val (.int i0), .val (.int i1), .val (.int i2), .val (.int i3), .val (.int i4), .val (.int (Int32.ofNat de)), .val (.int (Int32.ofNat nu)), .val (.int (Int32.ofNat ep)), .val (.int r1), .val (.int l1), .val (.int v1), .val (.int w1), .val (.int tf), .val (.int ai), .val (.int cp), .val (.int tl), .val (.int tr), .val (.ref g), .val (.int (Int32.ofNat kt)), .val (.int (Int32.ofNat ki)), .val (.int (Int32.ofNat ko)), .unset] [(.int (Int32.ofNat de)), (.ref g)])) rfl (by rw [hml]; rfl) (Steps.refl _) (argsL := [(.int (Int32.ofNat de))]) (rest := []) (lenOf own_pd10 rfl) rfl (by show 2 * 0 + _ ≤ _; exact Nat.le_of_eq rfl) (hb hby at_262) (fun _ _ => ⟨rfl, e380, (by decide : 16 + 0 ≤ _), (by decide : 189 + 0 ≤ _)⟩)
  dsimp only [Pt.U, Pt.locs, Pt.cells, Pt.slots] at X383 l383 y383 z383 st383 hQ383
  subst l383 y383 z383
  refine own_tr st383 ?_
  obtain ⟨rfl, N383, e383⟩ := hQ383
  obtain ⟨L383, X383, M383⟩ := own_hide X383 (Fr.app M380 N383)
  show own_Go p e below _ (T383.setTop (mkF m 265 #[.val (.int i0), .val (.int i1), .val (.int i2), .val (.int i3), .val (.int i4), .val (.int (Int32.ofNat de)), .val (.int (Int32.ofNat nu)), .val (.int (Int32.ofNat ep)), .val (.int r1), .val (.int l1), .val (.int v1), .val (.int w1), .val (.int tf), .val (.int ai), .val (.int cp), .val (.int tl), .val (.int tr), .val (.ref g), .val (.int (Int32.ofNat kt)), .val (.int (Int32.ofNat ki)), .val (.int (Int32.ofNat ko)), .unset] [(.int (O2 de))]))
  rw [show (O2 de) = (-1 : Int32) from o1]
  show own_Go p e below _ (T383.setTop (mkF m 265 #[.val (.int i0), .val (.int i1), .val (.int i2), .val (.int i3), .val (.int i4), .val (.int (Int32.ofNat de)), .val (.int (Int32.ofNat nu)), .val (.int (Int32.ofNat ep)), .val (.int r1), .val (.int l1), .val (.int v1), .val (.int w1), .val (.int tf), .val (.int ai), .val (.int cp), .val (.int tl), .val (.int tr), .val (.ref g), .val (.int (Int32.ofNat kt)), .val (.int (Int32.ofNat ki)), .val (.int (Int32.ofNat ko)), .unset] [(.int (-1 : Int32))]))
  refine own_by (fun _ kont => XT.iconstV X383.here hx rfl (-1 : Int32) (hb hby at_265) rfl kont) ?_
  show own_Go p e below _ (T383.setTop (mkF m 266 #[.val (.int i0), .val (.int i1), .val (.int i2), .val (.int i3), .val (.int i4), .val (.int (Int32.ofNat de)), .val (.int (Int32.ofNat nu)), .val (.int (Int32.ofNat ep)), .val (.int r1), .val (.int l1), .val (.int v1), .val (.int w1), .val (.int tf), .val (.int ai), .val (.int cp), .val (.int tl), .val (.int tr), .val (.ref g), .val (.int (Int32.ofNat kt)), .val (.int (Int32.ofNat ki)), .val (.int (Int32.ofNat ko)), .unset] [(.int (-1 : Int32)), (.int (-1 : Int32))]))
  refine own_by (fun _ kont => XS.icmpNo X383.here hx rfl (hb hby at_266) rfl (XT.ii_ne_f rfl) kont) ?_
  show own_Go p e below _ (T383.setTop (mkF m 269 #[.val (.int i0), .val (.int i1), .val (.int i2), .val (.int i3), .val (.int i4), .val (.int (Int32.ofNat de)), .val (.int (Int32.ofNat nu)), .val (.int (Int32.ofNat ep)), .val (.int r1), .val (.int l1), .val (.int v1), .val (.int w1), .val (.int tf), .val (.int ai), .val (.int cp), .val (.int tl), .val (.int tr), .val (.ref g), .val (.int (Int32.ofNat kt)), .val (.int (Int32.ofNat ki)), .val (.int (Int32.ofNat ko)), .unset] []))
  refine own_by (fun _ kont => XS.aload X383.here hx rfl (hb hby at_269) rfl rfl kont) ?_
  show own_Go p e below _ (T383.setTop (mkF m 271 #[.val (.int i0), .val (.int i1), .val (.int i2), .val (.int i3), .val (.int i4), .val (.int (Int32.ofNat de)), .val (.int (Int32.ofNat nu)), .val (.int (Int32.ofNat ep)), .val (.int r1), .val (.int l1), .val (.int v1), .val (.int w1), .val (.int tf), .val (.int ai), .val (.int cp), .val (.int tl), .val (.int tr), .val (.ref g), .val (.int (Int32.ofNat kt)), .val (.int (Int32.ofNat ki)), .val (.int (Int32.ofNat ko)), .unset] [(.ref g)]))
  refine own_by (fun _ kont => XS.iload X383.here hx rfl (hb hby at_271) rfl kont) ?_
  show own_Go p e below _ (T383.setTop (mkF m 273 #[.val (.int i0), .val (.int i1), .val (.int i2), .val (.int i3), .val (.int i4), .val (.int (Int32.ofNat de)), .val (.int (Int32.ofNat nu)), .val (.int (Int32.ofNat ep)), .val (.int r1), .val (.int l1), .val (.int v1), .val (.int w1), .val (.int tf), .val (.int ai), .val (.int cp), .val (.int tl), .val (.int tr), .val (.ref g), .val (.int (Int32.ofNat kt)), .val (.int (Int32.ofNat ki)), .val (.int (Int32.ofNat ko)), .unset] [(.int (Int32.ofNat nu)), (.ref g)]))
  obtain ⟨cq386, kq386, qa386, qb386, qc386⟩ := isOf hZ e383 GE382
  obtain ⟨_, _, ⟨T385, L385, k385, n385⟩, -, X385, ⟨Lc385, hQ385, l385, y385, z385⟩, st385⟩ := X383.virtualBack hx (y := (⟨"com/example/lambdalane/lambdalane/NodeGraph", "outEdgeOf", "(I)I"⟩ : MethodName)) (z := (⟨"com/example/lambdalane/lambdalane/NodeGraph", "outEdgeOf", "(I)I"⟩ : MethodName)) hown (mvT hZ (hw _ (List.mem_of_getElem? (i := 61) rfl))) (mvT hZ (hw _ (List.mem_of_getElem? (i := 62) rfl))) (notFace_of_selects (args := #[]) (mvT hZ (hw _ (List.mem_of_getElem? (i := 64) rfl)))) (mvT hZ (hw _ (List.mem_of_getElem? (i := 64) rfl))) (mvT hZ (hw _ (List.mem_of_getElem? (i := 63) rfl))) (by decide) (backOf (W := 0) (rmGo l Z a0 hw [] g _ nu 3 cap Lf Rf C2 I O2 h380 n0 G380 (by omega) (by omega) (by omega)) hZ (hw _ (List.mem_of_getElem? (i := 65) rfl)) (hw _ (List.mem_of_getElem? (i := 3) rfl)) (by decide) (by decide)) qa386 qc386 (g := (mkF m 273 #[.val (.int i0), .val (.int i1), .val (.int i2), .val (.int i3), .val (.int i4), .val (.int (Int32.ofNat de)), .val (.int (Int32.ofNat nu)), .val (.int (Int32.ofNat ep)), .val (.int r1), .val (.int l1), .val (.int v1), .val (.int w1), .val (.int tf), .val (.int ai), .val (.int cp), .val (.int tl), .val (.int tr), .val (.ref g), .val (.int (Int32.ofNat kt)), .val (.int (Int32.ofNat ki)), .val (.int (Int32.ofNat ko)), .unset] [(.int (Int32.ofNat nu)), (.ref g)])) rfl (by rw [hml]; rfl) (Steps.refl _) (argsL := [(.int (Int32.ofNat nu))]) (rest := []) (lenOf own_pd10 rfl) rfl (by show 2 * 0 + _ ≤ _; exact Nat.le_of_eq rfl) (hb hby at_273) (fun _ _ => ⟨rfl, e383, (by decide : 16 + 0 ≤ _), (by decide : 189 + 0 ≤ _)⟩)
  dsimp only [Pt.U, Pt.locs, Pt.cells, Pt.slots] at X385 l385 y385 z385 st385 hQ385
  subst l385 y385 z385
  refine own_tr st385 ?_
  obtain ⟨rfl, N385, e385⟩ := hQ385
  obtain ⟨L385, X385, M385⟩ := own_hide X385 (Fr.app M383 N385)
  show own_Go p e below _ (T385.setTop (mkF m 276 #[.val (.int i0), .val (.int i1), .val (.int i2), .val (.int i3), .val (.int i4), .val (.int (Int32.ofNat de)), .val (.int (Int32.ofNat nu)), .val (.int (Int32.ofNat ep)), .val (.int r1), .val (.int l1), .val (.int v1), .val (.int w1), .val (.int tf), .val (.int ai), .val (.int cp), .val (.int tl), .val (.int tr), .val (.ref g), .val (.int (Int32.ofNat kt)), .val (.int (Int32.ofNat ki)), .val (.int (Int32.ofNat ko)), .unset] [(.int (O2 nu))]))
  rw [show (O2 nu) = (Int32.ofNat ko) from o2]
  show own_Go p e below _ (T385.setTop (mkF m 276 #[.val (.int i0), .val (.int i1), .val (.int i2), .val (.int i3), .val (.int i4), .val (.int (Int32.ofNat de)), .val (.int (Int32.ofNat nu)), .val (.int (Int32.ofNat ep)), .val (.int r1), .val (.int l1), .val (.int v1), .val (.int w1), .val (.int tf), .val (.int ai), .val (.int cp), .val (.int tl), .val (.int tr), .val (.ref g), .val (.int (Int32.ofNat kt)), .val (.int (Int32.ofNat ki)), .val (.int (Int32.ofNat ko)), .unset] [(.int (Int32.ofNat ko))]))
  refine own_by (fun _ kont => XS.iload X385.here hx rfl (hb hby at_276) rfl kont) ?_
  show own_Go p e below _ (T385.setTop (mkF m 278 #[.val (.int i0), .val (.int i1), .val (.int i2), .val (.int i3), .val (.int i4), .val (.int (Int32.ofNat de)), .val (.int (Int32.ofNat nu)), .val (.int (Int32.ofNat ep)), .val (.int r1), .val (.int l1), .val (.int v1), .val (.int w1), .val (.int tf), .val (.int ai), .val (.int cp), .val (.int tl), .val (.int tr), .val (.ref g), .val (.int (Int32.ofNat kt)), .val (.int (Int32.ofNat ki)), .val (.int (Int32.ofNat ko)), .unset] [(.int (Int32.ofNat ko)), (.int (Int32.ofNat ko))]))
  refine own_by (fun _ kont => XS.icmpNo X385.here hx rfl (hb hby at_278) rfl (XT.ii_ne_f rfl) kont) ?_
  show own_Go p e below _ (T385.setTop (mkF m 281 #[.val (.int i0), .val (.int i1), .val (.int i2), .val (.int i3), .val (.int i4), .val (.int (Int32.ofNat de)), .val (.int (Int32.ofNat nu)), .val (.int (Int32.ofNat ep)), .val (.int r1), .val (.int l1), .val (.int v1), .val (.int w1), .val (.int tf), .val (.int ai), .val (.int cp), .val (.int tl), .val (.int tr), .val (.ref g), .val (.int (Int32.ofNat kt)), .val (.int (Int32.ofNat ki)), .val (.int (Int32.ofNat ko)), .unset] []))
  refine own_by (fun _ kont => XS.aload X385.here hx rfl (hb hby at_281) rfl rfl kont) ?_
  show own_Go p e below _ (T385.setTop (mkF m 283 #[.val (.int i0), .val (.int i1), .val (.int i2), .val (.int i3), .val (.int i4), .val (.int (Int32.ofNat de)), .val (.int (Int32.ofNat nu)), .val (.int (Int32.ofNat ep)), .val (.int r1), .val (.int l1), .val (.int v1), .val (.int w1), .val (.int tf), .val (.int ai), .val (.int cp), .val (.int tl), .val (.int tr), .val (.ref g), .val (.int (Int32.ofNat kt)), .val (.int (Int32.ofNat ki)), .val (.int (Int32.ofNat ko)), .unset] [(.ref g)]))
  refine own_by (fun _ kont => XS.iload X385.here hx rfl (hb hby at_283) rfl kont) ?_
  show own_Go p e below _ (T385.setTop (mkF m 285 #[.val (.int i0), .val (.int i1), .val (.int i2), .val (.int i3), .val (.int i4), .val (.int (Int32.ofNat de)), .val (.int (Int32.ofNat nu)), .val (.int (Int32.ofNat ep)), .val (.int r1), .val (.int l1), .val (.int v1), .val (.int w1), .val (.int tf), .val (.int ai), .val (.int cp), .val (.int tl), .val (.int tr), .val (.ref g), .val (.int (Int32.ofNat kt)), .val (.int (Int32.ofNat ki)), .val (.int (Int32.ofNat ko)), .unset] [(.int (Int32.ofNat ko)), (.ref g)]))
  obtain ⟨cq388, kq388, qa388, qb388, qc388⟩ := isOf hZ e385 GE382
  obtain ⟨_, _, ⟨T387, L387, k387, n387⟩, -, X387, ⟨Lc387, hQ387, l387, y387, z387⟩, st387⟩ := X385.virtualBack hx (y := (⟨"com/example/lambdalane/lambdalane/NodeGraph", "colour", "(I)I"⟩ : MethodName)) (z := (⟨"com/example/lambdalane/lambdalane/NodeGraph", "colour", "(I)I"⟩ : MethodName)) hown (mvT hZ (hw _ (List.mem_of_getElem? (i := 66) rfl))) (mvT hZ (hw _ (List.mem_of_getElem? (i := 67) rfl))) (notFace_of_selects (args := #[]) (mvT hZ (hw _ (List.mem_of_getElem? (i := 69) rfl)))) (mvT hZ (hw _ (List.mem_of_getElem? (i := 69) rfl))) (mvT hZ (hw _ (List.mem_of_getElem? (i := 68) rfl))) (by decide) (backOf (W := 0) (rmGc l Z a0 hw [] g _ ko 3 cap Lf Rf C2 I O2 h380 n0 G380 (by omega) (by omega) (by omega)) hZ (hw _ (List.mem_of_getElem? (i := 70) rfl)) (hw _ (List.mem_of_getElem? (i := 3) rfl)) (by decide) (by decide)) qa388 qc388 (g := (mkF m 285 #[.val (.int i0), .val (.int i1), .val (.int i2), .val (.int i3), .val (.int i4), .val (.int (Int32.ofNat de)), .val (.int (Int32.ofNat nu)), .val (.int (Int32.ofNat ep)), .val (.int r1), .val (.int l1), .val (.int v1), .val (.int w1), .val (.int tf), .val (.int ai), .val (.int cp), .val (.int tl), .val (.int tr), .val (.ref g), .val (.int (Int32.ofNat kt)), .val (.int (Int32.ofNat ki)), .val (.int (Int32.ofNat ko)), .unset] [(.int (Int32.ofNat ko)), (.ref g)])) rfl (by rw [hml]; rfl) (Steps.refl _) (argsL := [(.int (Int32.ofNat ko))]) (rest := []) (lenOf own_pd10 rfl) rfl (by show 2 * 0 + _ ≤ _; exact Nat.le_of_eq rfl) (hb hby at_285) (fun _ _ => ⟨rfl, e385, (by decide : 16 + 0 ≤ _), (by decide : 189 + 0 ≤ _)⟩)
  dsimp only [Pt.U, Pt.locs, Pt.cells, Pt.slots] at X387 l387 y387 z387 st387 hQ387
  subst l387 y387 z387
  refine own_tr st387 ?_
  obtain ⟨rfl, N387, e387⟩ := hQ387
  obtain ⟨L387, X387, M387⟩ := own_hide X387 (Fr.app M385 N387)
  show own_Go p e below _ (T387.setTop (mkF m 288 #[.val (.int i0), .val (.int i1), .val (.int i2), .val (.int i3), .val (.int i4), .val (.int (Int32.ofNat de)), .val (.int (Int32.ofNat nu)), .val (.int (Int32.ofNat ep)), .val (.int r1), .val (.int l1), .val (.int v1), .val (.int w1), .val (.int tf), .val (.int ai), .val (.int cp), .val (.int tl), .val (.int tr), .val (.ref g), .val (.int (Int32.ofNat kt)), .val (.int (Int32.ofNat ki)), .val (.int (Int32.ofNat ko)), .unset] [(.int (C2 ko))]))
  rw [show (C2 ko) = (Int32.ofNat nu) from c1]
  show own_Go p e below _ (T387.setTop (mkF m 288 #[.val (.int i0), .val (.int i1), .val (.int i2), .val (.int i3), .val (.int i4), .val (.int (Int32.ofNat de)), .val (.int (Int32.ofNat nu)), .val (.int (Int32.ofNat ep)), .val (.int r1), .val (.int l1), .val (.int v1), .val (.int w1), .val (.int tf), .val (.int ai), .val (.int cp), .val (.int tl), .val (.int tr), .val (.ref g), .val (.int (Int32.ofNat kt)), .val (.int (Int32.ofNat ki)), .val (.int (Int32.ofNat ko)), .unset] [(.int (Int32.ofNat nu))]))
  refine own_by (fun _ kont => XS.iload X387.here hx rfl (hb hby at_288) rfl kont) ?_
  show own_Go p e below _ (T387.setTop (mkF m 290 #[.val (.int i0), .val (.int i1), .val (.int i2), .val (.int i3), .val (.int i4), .val (.int (Int32.ofNat de)), .val (.int (Int32.ofNat nu)), .val (.int (Int32.ofNat ep)), .val (.int r1), .val (.int l1), .val (.int v1), .val (.int w1), .val (.int tf), .val (.int ai), .val (.int cp), .val (.int tl), .val (.int tr), .val (.ref g), .val (.int (Int32.ofNat kt)), .val (.int (Int32.ofNat ki)), .val (.int (Int32.ofNat ko)), .unset] [(.int (Int32.ofNat nu)), (.int (Int32.ofNat nu))]))
  refine own_by (fun _ kont => XS.icmpNo X387.here hx rfl (hb hby at_290) rfl (XT.ii_ne_f rfl) kont) ?_
  show own_Go p e below _ (T387.setTop (mkF m 293 #[.val (.int i0), .val (.int i1), .val (.int i2), .val (.int i3), .val (.int i4), .val (.int (Int32.ofNat de)), .val (.int (Int32.ofNat nu)), .val (.int (Int32.ofNat ep)), .val (.int r1), .val (.int l1), .val (.int v1), .val (.int w1), .val (.int tf), .val (.int ai), .val (.int cp), .val (.int tl), .val (.int tr), .val (.ref g), .val (.int (Int32.ofNat kt)), .val (.int (Int32.ofNat ki)), .val (.int (Int32.ofNat ko)), .unset] []))
  refine own_by (fun _ kont => XS.aload X387.here hx rfl (hb hby at_293) rfl rfl kont) ?_
  show own_Go p e below _ (T387.setTop (mkF m 295 #[.val (.int i0), .val (.int i1), .val (.int i2), .val (.int i3), .val (.int i4), .val (.int (Int32.ofNat de)), .val (.int (Int32.ofNat nu)), .val (.int (Int32.ofNat ep)), .val (.int r1), .val (.int l1), .val (.int v1), .val (.int w1), .val (.int tf), .val (.int ai), .val (.int cp), .val (.int tl), .val (.int tr), .val (.ref g), .val (.int (Int32.ofNat kt)), .val (.int (Int32.ofNat ki)), .val (.int (Int32.ofNat ko)), .unset] [(.ref g)]))
  refine own_by (fun _ kont => XS.iload X387.here hx rfl (hb hby at_295) rfl kont) ?_
  show own_Go p e below _ (T387.setTop (mkF m 297 #[.val (.int i0), .val (.int i1), .val (.int i2), .val (.int i3), .val (.int i4), .val (.int (Int32.ofNat de)), .val (.int (Int32.ofNat nu)), .val (.int (Int32.ofNat ep)), .val (.int r1), .val (.int l1), .val (.int v1), .val (.int w1), .val (.int tf), .val (.int ai), .val (.int cp), .val (.int tl), .val (.int tr), .val (.ref g), .val (.int (Int32.ofNat kt)), .val (.int (Int32.ofNat ki)), .val (.int (Int32.ofNat ko)), .unset] [(.int (Int32.ofNat de)), (.ref g)]))
  obtain ⟨cq390, kq390, qa390, qb390, qc390⟩ := isOf hZ e387 GE382
  obtain ⟨_, _, ⟨T389, L389, k389, n389⟩, -, X389, ⟨Lc389, hQ389, l389, y389, z389⟩, st389⟩ := X387.virtualBack hx (y := (⟨"com/example/lambdalane/lambdalane/NodeGraph", "inEdgeOf", "(I)I"⟩ : MethodName)) (z := (⟨"com/example/lambdalane/lambdalane/NodeGraph", "inEdgeOf", "(I)I"⟩ : MethodName)) hown (mvT hZ (hw _ (List.mem_of_getElem? (i := 71) rfl))) (mvT hZ (hw _ (List.mem_of_getElem? (i := 72) rfl))) (notFace_of_selects (args := #[]) (mvT hZ (hw _ (List.mem_of_getElem? (i := 74) rfl)))) (mvT hZ (hw _ (List.mem_of_getElem? (i := 74) rfl))) (mvT hZ (hw _ (List.mem_of_getElem? (i := 73) rfl))) (by decide) (backOf (W := 0) (rmGi l Z a0 hw [] g _ de 3 cap Lf Rf C2 I O2 h380 n0 G380 (by omega) (by omega) (by omega)) hZ (hw _ (List.mem_of_getElem? (i := 75) rfl)) (hw _ (List.mem_of_getElem? (i := 3) rfl)) (by decide) (by decide)) qa390 qc390 (g := (mkF m 297 #[.val (.int i0), .val (.int i1), .val (.int i2), .val (.int i3), .val (.int i4), .val (.int (Int32.ofNat de)), .val (.int (Int32.ofNat nu)), .val (.int (Int32.ofNat ep)), .val (.int r1), .val (.int l1), .val (.int v1), .val (.int w1), .val (.int tf), .val (.int ai), .val (.int cp), .val (.int tl), .val (.int tr), .val (.ref g), .val (.int (Int32.ofNat kt)), .val (.int (Int32.ofNat ki)), .val (.int (Int32.ofNat ko)), .unset] [(.int (Int32.ofNat de)), (.ref g)])) rfl (by rw [hml]; rfl) (Steps.refl _) (argsL := [(.int (Int32.ofNat de))]) (rest := []) (lenOf own_pd10 rfl) rfl (by show 2 * 0 + _ ≤ _; exact Nat.le_of_eq rfl) (hb hby at_297) (fun _ _ => ⟨rfl, e387, (by decide : 16 + 0 ≤ _), (by decide : 189 + 0 ≤ _)⟩)
  dsimp only [Pt.U, Pt.locs, Pt.cells, Pt.slots] at X389 l389 y389 z389 st389 hQ389
  subst l389 y389 z389
  refine own_tr st389 ?_
  obtain ⟨rfl, N389, e389⟩ := hQ389
  obtain ⟨L389, X389, M389⟩ := own_hide X389 (Fr.app M387 N389)
  show own_Go p e below _ (T389.setTop (mkF m 300 #[.val (.int i0), .val (.int i1), .val (.int i2), .val (.int i3), .val (.int i4), .val (.int (Int32.ofNat de)), .val (.int (Int32.ofNat nu)), .val (.int (Int32.ofNat ep)), .val (.int r1), .val (.int l1), .val (.int v1), .val (.int w1), .val (.int tf), .val (.int ai), .val (.int cp), .val (.int tl), .val (.int tr), .val (.ref g), .val (.int (Int32.ofNat kt)), .val (.int (Int32.ofNat ki)), .val (.int (Int32.ofNat ko)), .unset] [(.int (I de))]))
  rw [show (I de) = (Int32.ofNat ki) from hId]
  show own_Go p e below _ (T389.setTop (mkF m 300 #[.val (.int i0), .val (.int i1), .val (.int i2), .val (.int i3), .val (.int i4), .val (.int (Int32.ofNat de)), .val (.int (Int32.ofNat nu)), .val (.int (Int32.ofNat ep)), .val (.int r1), .val (.int l1), .val (.int v1), .val (.int w1), .val (.int tf), .val (.int ai), .val (.int cp), .val (.int tl), .val (.int tr), .val (.ref g), .val (.int (Int32.ofNat kt)), .val (.int (Int32.ofNat ki)), .val (.int (Int32.ofNat ko)), .unset] [(.int (Int32.ofNat ki))]))
  refine own_by (fun _ kont => XS.iload X389.here hx rfl (hb hby at_300) rfl kont) ?_
  show own_Go p e below _ (T389.setTop (mkF m 302 #[.val (.int i0), .val (.int i1), .val (.int i2), .val (.int i3), .val (.int i4), .val (.int (Int32.ofNat de)), .val (.int (Int32.ofNat nu)), .val (.int (Int32.ofNat ep)), .val (.int r1), .val (.int l1), .val (.int v1), .val (.int w1), .val (.int tf), .val (.int ai), .val (.int cp), .val (.int tl), .val (.int tr), .val (.ref g), .val (.int (Int32.ofNat kt)), .val (.int (Int32.ofNat ki)), .val (.int (Int32.ofNat ko)), .unset] [(.int (Int32.ofNat ki)), (.int (Int32.ofNat ki))]))
  refine own_by (fun _ kont => XS.icmpNo X389.here hx rfl (hb hby at_302) rfl (XT.ii_ne_f rfl) kont) ?_
  show own_Go p e below _ (T389.setTop (mkF m 305 #[.val (.int i0), .val (.int i1), .val (.int i2), .val (.int i3), .val (.int i4), .val (.int (Int32.ofNat de)), .val (.int (Int32.ofNat nu)), .val (.int (Int32.ofNat ep)), .val (.int r1), .val (.int l1), .val (.int v1), .val (.int w1), .val (.int tf), .val (.int ai), .val (.int cp), .val (.int tl), .val (.int tr), .val (.ref g), .val (.int (Int32.ofNat kt)), .val (.int (Int32.ofNat ki)), .val (.int (Int32.ofNat ko)), .unset] []))
  refine own_by (fun _ kont => XS.aload X389.here hx rfl (hb hby at_305) rfl rfl kont) ?_
  show own_Go p e below _ (T389.setTop (mkF m 307 #[.val (.int i0), .val (.int i1), .val (.int i2), .val (.int i3), .val (.int i4), .val (.int (Int32.ofNat de)), .val (.int (Int32.ofNat nu)), .val (.int (Int32.ofNat ep)), .val (.int r1), .val (.int l1), .val (.int v1), .val (.int w1), .val (.int tf), .val (.int ai), .val (.int cp), .val (.int tl), .val (.int tr), .val (.ref g), .val (.int (Int32.ofNat kt)), .val (.int (Int32.ofNat ki)), .val (.int (Int32.ofNat ko)), .unset] [(.ref g)]))
  refine own_by (fun _ kont => XS.iload X389.here hx rfl (hb hby at_307) rfl kont) ?_
  show own_Go p e below _ (T389.setTop (mkF m 309 #[.val (.int i0), .val (.int i1), .val (.int i2), .val (.int i3), .val (.int i4), .val (.int (Int32.ofNat de)), .val (.int (Int32.ofNat nu)), .val (.int (Int32.ofNat ep)), .val (.int r1), .val (.int l1), .val (.int v1), .val (.int w1), .val (.int tf), .val (.int ai), .val (.int cp), .val (.int tl), .val (.int tr), .val (.ref g), .val (.int (Int32.ofNat kt)), .val (.int (Int32.ofNat ki)), .val (.int (Int32.ofNat ko)), .unset] [(.int (Int32.ofNat ki)), (.ref g)]))
  obtain ⟨cq392, kq392, qa392, qb392, qc392⟩ := isOf hZ e389 GE382
  obtain ⟨_, _, ⟨T391, L391, k391, n391⟩, -, X391, ⟨Lc391, hQ391, l391, y391, z391⟩, st391⟩ := X389.virtualBack hx (y := (⟨"com/example/lambdalane/lambdalane/NodeGraph", "colour", "(I)I"⟩ : MethodName)) (z := (⟨"com/example/lambdalane/lambdalane/NodeGraph", "colour", "(I)I"⟩ : MethodName)) hown (mvT hZ (hw _ (List.mem_of_getElem? (i := 66) rfl))) (mvT hZ (hw _ (List.mem_of_getElem? (i := 67) rfl))) (notFace_of_selects (args := #[]) (mvT hZ (hw _ (List.mem_of_getElem? (i := 69) rfl)))) (mvT hZ (hw _ (List.mem_of_getElem? (i := 69) rfl))) (mvT hZ (hw _ (List.mem_of_getElem? (i := 68) rfl))) (by decide) (backOf (W := 0) (rmGc l Z a0 hw [] g _ ki 3 cap Lf Rf C2 I O2 h380 n0 G380 (by omega) (by omega) (by omega)) hZ (hw _ (List.mem_of_getElem? (i := 70) rfl)) (hw _ (List.mem_of_getElem? (i := 3) rfl)) (by decide) (by decide)) qa392 qc392 (g := (mkF m 309 #[.val (.int i0), .val (.int i1), .val (.int i2), .val (.int i3), .val (.int i4), .val (.int (Int32.ofNat de)), .val (.int (Int32.ofNat nu)), .val (.int (Int32.ofNat ep)), .val (.int r1), .val (.int l1), .val (.int v1), .val (.int w1), .val (.int tf), .val (.int ai), .val (.int cp), .val (.int tl), .val (.int tr), .val (.ref g), .val (.int (Int32.ofNat kt)), .val (.int (Int32.ofNat ki)), .val (.int (Int32.ofNat ko)), .unset] [(.int (Int32.ofNat ki)), (.ref g)])) rfl (by rw [hml]; rfl) (Steps.refl _) (argsL := [(.int (Int32.ofNat ki))]) (rest := []) (lenOf own_pd10 rfl) rfl (by show 2 * 0 + _ ≤ _; exact Nat.le_of_eq rfl) (hb hby at_309) (fun _ _ => ⟨rfl, e389, (by decide : 16 + 0 ≤ _), (by decide : 189 + 0 ≤ _)⟩)
  dsimp only [Pt.U, Pt.locs, Pt.cells, Pt.slots] at X391 l391 y391 z391 st391 hQ391
  subst l391 y391 z391
  refine own_tr st391 ?_
  obtain ⟨rfl, N391, e391⟩ := hQ391
  obtain ⟨L391, X391, M391⟩ := own_hide X391 (Fr.app M389 N391)
  show own_Go p e below _ (T391.setTop (mkF m 312 #[.val (.int i0), .val (.int i1), .val (.int i2), .val (.int i3), .val (.int i4), .val (.int (Int32.ofNat de)), .val (.int (Int32.ofNat nu)), .val (.int (Int32.ofNat ep)), .val (.int r1), .val (.int l1), .val (.int v1), .val (.int w1), .val (.int tf), .val (.int ai), .val (.int cp), .val (.int tl), .val (.int tr), .val (.ref g), .val (.int (Int32.ofNat kt)), .val (.int (Int32.ofNat ki)), .val (.int (Int32.ofNat ko)), .unset] [(.int (C2 ki))]))
  rw [show (C2 ki) = (Int32.ofNat de) from (c2 ki hio).trans hCi]
  show own_Go p e below _ (T391.setTop (mkF m 312 #[.val (.int i0), .val (.int i1), .val (.int i2), .val (.int i3), .val (.int i4), .val (.int (Int32.ofNat de)), .val (.int (Int32.ofNat nu)), .val (.int (Int32.ofNat ep)), .val (.int r1), .val (.int l1), .val (.int v1), .val (.int w1), .val (.int tf), .val (.int ai), .val (.int cp), .val (.int tl), .val (.int tr), .val (.ref g), .val (.int (Int32.ofNat kt)), .val (.int (Int32.ofNat ki)), .val (.int (Int32.ofNat ko)), .unset] [(.int (Int32.ofNat de))]))
  refine own_by (fun _ kont => XS.iload X391.here hx rfl (hb hby at_312) rfl kont) ?_
  show own_Go p e below _ (T391.setTop (mkF m 314 #[.val (.int i0), .val (.int i1), .val (.int i2), .val (.int i3), .val (.int i4), .val (.int (Int32.ofNat de)), .val (.int (Int32.ofNat nu)), .val (.int (Int32.ofNat ep)), .val (.int r1), .val (.int l1), .val (.int v1), .val (.int w1), .val (.int tf), .val (.int ai), .val (.int cp), .val (.int tl), .val (.int tr), .val (.ref g), .val (.int (Int32.ofNat kt)), .val (.int (Int32.ofNat ki)), .val (.int (Int32.ofNat ko)), .unset] [(.int (Int32.ofNat de)), (.int (Int32.ofNat de))]))
  refine own_by (fun _ kont => XS.icmpNo X391.here hx rfl (hb hby at_314) rfl (XT.ii_ne_f rfl) kont) ?_
  show own_Go p e below _ (T391.setTop (mkF m 317 #[.val (.int i0), .val (.int i1), .val (.int i2), .val (.int i3), .val (.int i4), .val (.int (Int32.ofNat de)), .val (.int (Int32.ofNat nu)), .val (.int (Int32.ofNat ep)), .val (.int r1), .val (.int l1), .val (.int v1), .val (.int w1), .val (.int tf), .val (.int ai), .val (.int cp), .val (.int tl), .val (.int tr), .val (.ref g), .val (.int (Int32.ofNat kt)), .val (.int (Int32.ofNat ki)), .val (.int (Int32.ofNat ko)), .unset] []))
  refine own_by (fun _ kont => XS.aload X391.here hx rfl (hb hby at_317) rfl rfl kont) ?_
  show own_Go p e below _ (T391.setTop (mkF m 319 #[.val (.int i0), .val (.int i1), .val (.int i2), .val (.int i3), .val (.int i4), .val (.int (Int32.ofNat de)), .val (.int (Int32.ofNat nu)), .val (.int (Int32.ofNat ep)), .val (.int r1), .val (.int l1), .val (.int v1), .val (.int w1), .val (.int tf), .val (.int ai), .val (.int cp), .val (.int tl), .val (.int tr), .val (.ref g), .val (.int (Int32.ofNat kt)), .val (.int (Int32.ofNat ki)), .val (.int (Int32.ofNat ko)), .unset] [(.ref g)]))
  refine own_by (fun _ kont => XS.iload X391.here hx rfl (hb hby at_319) rfl kont) ?_
  show own_Go p e below _ (T391.setTop (mkF m 321 #[.val (.int i0), .val (.int i1), .val (.int i2), .val (.int i3), .val (.int i4), .val (.int (Int32.ofNat de)), .val (.int (Int32.ofNat nu)), .val (.int (Int32.ofNat ep)), .val (.int r1), .val (.int l1), .val (.int v1), .val (.int w1), .val (.int tf), .val (.int ai), .val (.int cp), .val (.int tl), .val (.int tr), .val (.ref g), .val (.int (Int32.ofNat kt)), .val (.int (Int32.ofNat ki)), .val (.int (Int32.ofNat ko)), .unset] [(.int (Int32.ofNat nu)), (.ref g)]))
  obtain ⟨cq394, kq394, qa394, qb394, qc394⟩ := isOf hZ e391 GE382
  obtain ⟨_, _, ⟨T393, L393, k393, n393⟩, -, X393, ⟨Lc393, hQ393, l393, y393, z393⟩, st393⟩ := X391.virtualBack hx (y := (⟨"com/example/lambdalane/lambdalane/NodeGraph", "inEdgeOf", "(I)I"⟩ : MethodName)) (z := (⟨"com/example/lambdalane/lambdalane/NodeGraph", "inEdgeOf", "(I)I"⟩ : MethodName)) hown (mvT hZ (hw _ (List.mem_of_getElem? (i := 71) rfl))) (mvT hZ (hw _ (List.mem_of_getElem? (i := 72) rfl))) (notFace_of_selects (args := #[]) (mvT hZ (hw _ (List.mem_of_getElem? (i := 74) rfl)))) (mvT hZ (hw _ (List.mem_of_getElem? (i := 74) rfl))) (mvT hZ (hw _ (List.mem_of_getElem? (i := 73) rfl))) (by decide) (backOf (W := 0) (rmGi l Z a0 hw [] g _ nu 3 cap Lf Rf C2 I O2 h380 n0 G380 (by omega) (by omega) (by omega)) hZ (hw _ (List.mem_of_getElem? (i := 75) rfl)) (hw _ (List.mem_of_getElem? (i := 3) rfl)) (by decide) (by decide)) qa394 qc394 (g := (mkF m 321 #[.val (.int i0), .val (.int i1), .val (.int i2), .val (.int i3), .val (.int i4), .val (.int (Int32.ofNat de)), .val (.int (Int32.ofNat nu)), .val (.int (Int32.ofNat ep)), .val (.int r1), .val (.int l1), .val (.int v1), .val (.int w1), .val (.int tf), .val (.int ai), .val (.int cp), .val (.int tl), .val (.int tr), .val (.ref g), .val (.int (Int32.ofNat kt)), .val (.int (Int32.ofNat ki)), .val (.int (Int32.ofNat ko)), .unset] [(.int (Int32.ofNat nu)), (.ref g)])) rfl (by rw [hml]; rfl) (Steps.refl _) (argsL := [(.int (Int32.ofNat nu))]) (rest := []) (lenOf own_pd10 rfl) rfl (by show 2 * 0 + _ ≤ _; exact Nat.le_of_eq rfl) (hb hby at_321) (fun _ _ => ⟨rfl, e391, (by decide : 16 + 0 ≤ _), (by decide : 189 + 0 ≤ _)⟩)
  dsimp only [Pt.U, Pt.locs, Pt.cells, Pt.slots] at X393 l393 y393 z393 st393 hQ393
  subst l393 y393 z393
  refine own_tr st393 ?_
  obtain ⟨rfl, N393, e393⟩ := hQ393
  obtain ⟨L393, X393, M393⟩ := own_hide X393 (Fr.app M391 N393)
  show own_Go p e below _ (T393.setTop (mkF m 324 #[.val (.int i0), .val (.int i1), .val (.int i2), .val (.int i3), .val (.int i4), .val (.int (Int32.ofNat de)), .val (.int (Int32.ofNat nu)), .val (.int (Int32.ofNat ep)), .val (.int r1), .val (.int l1), .val (.int v1), .val (.int w1), .val (.int tf), .val (.int ai), .val (.int cp), .val (.int tl), .val (.int tr), .val (.ref g), .val (.int (Int32.ofNat kt)), .val (.int (Int32.ofNat ki)), .val (.int (Int32.ofNat ko)), .unset] [(.int (I nu))]))
  rw [show (I nu) = (-1 : Int32) from hIn]
  show own_Go p e below _ (T393.setTop (mkF m 324 #[.val (.int i0), .val (.int i1), .val (.int i2), .val (.int i3), .val (.int i4), .val (.int (Int32.ofNat de)), .val (.int (Int32.ofNat nu)), .val (.int (Int32.ofNat ep)), .val (.int r1), .val (.int l1), .val (.int v1), .val (.int w1), .val (.int tf), .val (.int ai), .val (.int cp), .val (.int tl), .val (.int tr), .val (.ref g), .val (.int (Int32.ofNat kt)), .val (.int (Int32.ofNat ki)), .val (.int (Int32.ofNat ko)), .unset] [(.int (-1 : Int32))]))
  refine own_by (fun _ kont => XT.iconstV X393.here hx rfl (-1 : Int32) (hb hby at_324) rfl kont) ?_
  show own_Go p e below _ (T393.setTop (mkF m 325 #[.val (.int i0), .val (.int i1), .val (.int i2), .val (.int i3), .val (.int i4), .val (.int (Int32.ofNat de)), .val (.int (Int32.ofNat nu)), .val (.int (Int32.ofNat ep)), .val (.int r1), .val (.int l1), .val (.int v1), .val (.int w1), .val (.int tf), .val (.int ai), .val (.int cp), .val (.int tl), .val (.int tr), .val (.ref g), .val (.int (Int32.ofNat kt)), .val (.int (Int32.ofNat ki)), .val (.int (Int32.ofNat ko)), .unset] [(.int (-1 : Int32)), (.int (-1 : Int32))]))
  refine own_by (fun _ kont => XS.icmpNo X393.here hx rfl (hb hby at_325) rfl (XT.ii_ne_f rfl) kont) ?_
  show own_Go p e below _ (T393.setTop (mkF m 328 #[.val (.int i0), .val (.int i1), .val (.int i2), .val (.int i3), .val (.int i4), .val (.int (Int32.ofNat de)), .val (.int (Int32.ofNat nu)), .val (.int (Int32.ofNat ep)), .val (.int r1), .val (.int l1), .val (.int v1), .val (.int w1), .val (.int tf), .val (.int ai), .val (.int cp), .val (.int tl), .val (.int tr), .val (.ref g), .val (.int (Int32.ofNat kt)), .val (.int (Int32.ofNat ki)), .val (.int (Int32.ofNat ko)), .unset] []))
  refine own_by (fun _ kont => XS.aload X393.here hx rfl (hb hby at_328) rfl rfl kont) ?_
  show own_Go p e below _ (T393.setTop (mkF m 330 #[.val (.int i0), .val (.int i1), .val (.int i2), .val (.int i3), .val (.int i4), .val (.int (Int32.ofNat de)), .val (.int (Int32.ofNat nu)), .val (.int (Int32.ofNat ep)), .val (.int r1), .val (.int l1), .val (.int v1), .val (.int w1), .val (.int tf), .val (.int ai), .val (.int cp), .val (.int tl), .val (.int tr), .val (.ref g), .val (.int (Int32.ofNat kt)), .val (.int (Int32.ofNat ki)), .val (.int (Int32.ofNat ko)), .unset] [(.ref g)]))
  refine own_by (fun _ kont => XS.iload X393.here hx rfl (hb hby at_330) rfl kont) ?_
  show own_Go p e below _ (T393.setTop (mkF m 332 #[.val (.int i0), .val (.int i1), .val (.int i2), .val (.int i3), .val (.int i4), .val (.int (Int32.ofNat de)), .val (.int (Int32.ofNat nu)), .val (.int (Int32.ofNat ep)), .val (.int r1), .val (.int l1), .val (.int v1), .val (.int w1), .val (.int tf), .val (.int ai), .val (.int cp), .val (.int tl), .val (.int tr), .val (.ref g), .val (.int (Int32.ofNat kt)), .val (.int (Int32.ofNat ki)), .val (.int (Int32.ofNat ko)), .unset] [(.int (Int32.ofNat kt)), (.ref g)]))
  obtain ⟨cq396, kq396, qa396, qb396, qc396⟩ := isOf hZ e393 GE382
  obtain ⟨_, _, ⟨T395, L395, k395, n395⟩, -, X395, ⟨Lc395, hQ395, l395, y395, z395⟩, st395⟩ := X393.virtualBack hx (y := (⟨"com/example/lambdalane/lambdalane/NodeGraph", "colour", "(I)I"⟩ : MethodName)) (z := (⟨"com/example/lambdalane/lambdalane/NodeGraph", "colour", "(I)I"⟩ : MethodName)) hown (mvT hZ (hw _ (List.mem_of_getElem? (i := 66) rfl))) (mvT hZ (hw _ (List.mem_of_getElem? (i := 67) rfl))) (notFace_of_selects (args := #[]) (mvT hZ (hw _ (List.mem_of_getElem? (i := 69) rfl)))) (mvT hZ (hw _ (List.mem_of_getElem? (i := 69) rfl))) (mvT hZ (hw _ (List.mem_of_getElem? (i := 68) rfl))) (by decide) (backOf (W := 0) (rmGc l Z a0 hw [] g _ kt 3 cap Lf Rf C2 I O2 h380 n0 G380 (by omega) (by omega) (by omega)) hZ (hw _ (List.mem_of_getElem? (i := 70) rfl)) (hw _ (List.mem_of_getElem? (i := 3) rfl)) (by decide) (by decide)) qa396 qc396 (g := (mkF m 332 #[.val (.int i0), .val (.int i1), .val (.int i2), .val (.int i3), .val (.int i4), .val (.int (Int32.ofNat de)), .val (.int (Int32.ofNat nu)), .val (.int (Int32.ofNat ep)), .val (.int r1), .val (.int l1), .val (.int v1), .val (.int w1), .val (.int tf), .val (.int ai), .val (.int cp), .val (.int tl), .val (.int tr), .val (.ref g), .val (.int (Int32.ofNat kt)), .val (.int (Int32.ofNat ki)), .val (.int (Int32.ofNat ko)), .unset] [(.int (Int32.ofNat kt)), (.ref g)])) rfl (by rw [hml]; rfl) (Steps.refl _) (argsL := [(.int (Int32.ofNat kt))]) (rest := []) (lenOf own_pd10 rfl) rfl (by show 2 * 0 + _ ≤ _; exact Nat.le_of_eq rfl) (hb hby at_332) (fun _ _ => ⟨rfl, e393, (by decide : 16 + 0 ≤ _), (by decide : 189 + 0 ≤ _)⟩)
  dsimp only [Pt.U, Pt.locs, Pt.cells, Pt.slots] at X395 l395 y395 z395 st395 hQ395
  subst l395 y395 z395
  refine own_tr st395 ?_
  obtain ⟨rfl, N395, e395⟩ := hQ395
  obtain ⟨L395, X395, M395⟩ := own_hide X395 (Fr.app M393 N395)
  show own_Go p e below _ (T395.setTop (mkF m 335 #[.val (.int i0), .val (.int i1), .val (.int i2), .val (.int i3), .val (.int i4), .val (.int (Int32.ofNat de)), .val (.int (Int32.ofNat nu)), .val (.int (Int32.ofNat ep)), .val (.int r1), .val (.int l1), .val (.int v1), .val (.int w1), .val (.int tf), .val (.int ai), .val (.int cp), .val (.int tl), .val (.int tr), .val (.ref g), .val (.int (Int32.ofNat kt)), .val (.int (Int32.ofNat ki)), .val (.int (Int32.ofNat ko)), .unset] [(.int (C2 kt))]))
  rw [show (C2 kt) = (Int32.ofNat ep) from (c2 kt hto).trans hCt]
  show own_Go p e below _ (T395.setTop (mkF m 335 #[.val (.int i0), .val (.int i1), .val (.int i2), .val (.int i3), .val (.int i4), .val (.int (Int32.ofNat de)), .val (.int (Int32.ofNat nu)), .val (.int (Int32.ofNat ep)), .val (.int r1), .val (.int l1), .val (.int v1), .val (.int w1), .val (.int tf), .val (.int ai), .val (.int cp), .val (.int tl), .val (.int tr), .val (.ref g), .val (.int (Int32.ofNat kt)), .val (.int (Int32.ofNat ki)), .val (.int (Int32.ofNat ko)), .unset] [(.int (Int32.ofNat ep))]))
  refine own_by (fun _ kont => XS.iload X395.here hx rfl (hb hby at_335) rfl kont) ?_
  show own_Go p e below _ (T395.setTop (mkF m 337 #[.val (.int i0), .val (.int i1), .val (.int i2), .val (.int i3), .val (.int i4), .val (.int (Int32.ofNat de)), .val (.int (Int32.ofNat nu)), .val (.int (Int32.ofNat ep)), .val (.int r1), .val (.int l1), .val (.int v1), .val (.int w1), .val (.int tf), .val (.int ai), .val (.int cp), .val (.int tl), .val (.int tr), .val (.ref g), .val (.int (Int32.ofNat kt)), .val (.int (Int32.ofNat ki)), .val (.int (Int32.ofNat ko)), .unset] [(.int (Int32.ofNat ep)), (.int (Int32.ofNat ep))]))
  refine own_by (fun _ kont => XS.icmpNo X395.here hx rfl (hb hby at_337) rfl (XT.ii_ne_f rfl) kont) ?_
  show own_Go p e below _ (T395.setTop (mkF m 340 #[.val (.int i0), .val (.int i1), .val (.int i2), .val (.int i3), .val (.int i4), .val (.int (Int32.ofNat de)), .val (.int (Int32.ofNat nu)), .val (.int (Int32.ofNat ep)), .val (.int r1), .val (.int l1), .val (.int v1), .val (.int w1), .val (.int tf), .val (.int ai), .val (.int cp), .val (.int tl), .val (.int tr), .val (.ref g), .val (.int (Int32.ofNat kt)), .val (.int (Int32.ofNat ki)), .val (.int (Int32.ofNat ko)), .unset] []))
  refine own_by (fun _ kont => XT.iconstV X395.here hx rfl (1 : Int32) (hb hby at_340) rfl kont) ?_
  show own_Go p e below _ (T395.setTop (mkF m 341 #[.val (.int i0), .val (.int i1), .val (.int i2), .val (.int i3), .val (.int i4), .val (.int (Int32.ofNat de)), .val (.int (Int32.ofNat nu)), .val (.int (Int32.ofNat ep)), .val (.int r1), .val (.int l1), .val (.int v1), .val (.int w1), .val (.int tf), .val (.int ai), .val (.int cp), .val (.int tl), .val (.int tr), .val (.ref g), .val (.int (Int32.ofNat kt)), .val (.int (Int32.ofNat ki)), .val (.int (Int32.ofNat ko)), .unset] [(.int (1 : Int32))]))
  refine own_by (fun _ kont => XS.goto X395.here hx rfl (pc0 := 341) (pc' := 345) rfl (hb hby at_341) (by decide) (by decide) kont) ?_
  show own_Go p e below _ (T395.setTop (mkF m 345 #[.val (.int i0), .val (.int i1), .val (.int i2), .val (.int i3), .val (.int i4), .val (.int (Int32.ofNat de)), .val (.int (Int32.ofNat nu)), .val (.int (Int32.ofNat ep)), .val (.int r1), .val (.int l1), .val (.int v1), .val (.int w1), .val (.int tf), .val (.int ai), .val (.int cp), .val (.int tl), .val (.int tr), .val (.ref g), .val (.int (Int32.ofNat kt)), .val (.int (Int32.ofNat ki)), .val (.int (Int32.ofNat ko)), .unset] [(.int (1 : Int32))]))
  refine own_by (fun _ kont => XS.istore X395.here hx rfl (hb hby at_345) rfl (l' := #[.val (.int i0), .val (.int i1), .val (.int i2), .val (.int i3), .val (.int i4), .val (.int (Int32.ofNat de)), .val (.int (Int32.ofNat nu)), .val (.int (Int32.ofNat ep)), .val (.int r1), .val (.int l1), .val (.int v1), .val (.int w1), .val (.int tf), .val (.int ai), .val (.int cp), .val (.int tl), .val (.int tr), .val (.ref g), .val (.int (Int32.ofNat kt)), .val (.int (Int32.ofNat ki)), .val (.int (Int32.ofNat ko)), .val (.int (1 : Int32))]) rfl kont) ?_
  show own_Go p e below _ (T395.setTop (mkF m 347 #[.val (.int i0), .val (.int i1), .val (.int i2), .val (.int i3), .val (.int i4), .val (.int (Int32.ofNat de)), .val (.int (Int32.ofNat nu)), .val (.int (Int32.ofNat ep)), .val (.int r1), .val (.int l1), .val (.int v1), .val (.int w1), .val (.int tf), .val (.int ai), .val (.int cp), .val (.int tl), .val (.int tr), .val (.ref g), .val (.int (Int32.ofNat kt)), .val (.int (Int32.ofNat ki)), .val (.int (Int32.ofNat ko)), .val (.int (1 : Int32))] []))
  refine own_by (fun _ kont => XS.iload X395.here hx rfl (hb hby at_347) rfl kont) ?_
  show own_Go p e below _ (T395.setTop (mkF m 349 #[.val (.int i0), .val (.int i1), .val (.int i2), .val (.int i3), .val (.int i4), .val (.int (Int32.ofNat de)), .val (.int (Int32.ofNat nu)), .val (.int (Int32.ofNat ep)), .val (.int r1), .val (.int l1), .val (.int v1), .val (.int w1), .val (.int tf), .val (.int ai), .val (.int cp), .val (.int tl), .val (.int tr), .val (.ref g), .val (.int (Int32.ofNat kt)), .val (.int (Int32.ofNat ki)), .val (.int (Int32.ofNat ko)), .val (.int (1 : Int32))] [(.int (Int32.ofNat ep))]))
  rcases hen with he | ⟨he, ha, h1, h2⟩ | ⟨he, ha, h1, h2⟩
  · refine own_by (fun _ kont => XS.ifYes X395.here hx rfl (pc0 := 349) (pc' := 430) rfl (hb hby at_349) rfl (XT.i0_eq_t ((own_inj (b := 0) (by omega) (by omega)).mpr he)) (by decide) (by decide) kont) ?_
    show own_Go p e below _ (T395.setTop (mkF m 430 #[.val (.int i0), .val (.int i1), .val (.int i2), .val (.int i3), .val (.int i4), .val (.int (Int32.ofNat de)), .val (.int (Int32.ofNat nu)), .val (.int (Int32.ofNat ep)), .val (.int r1), .val (.int l1), .val (.int v1), .val (.int w1), .val (.int tf), .val (.int ai), .val (.int cp), .val (.int tl), .val (.int tr), .val (.ref g), .val (.int (Int32.ofNat kt)), .val (.int (Int32.ofNat ki)), .val (.int (Int32.ofNat ko)), .val (.int (1 : Int32))] []))
    refine own_by (fun _ kont => XS.iload X395.here hx rfl (hb hby at_430) rfl kont) ?_
    show own_Go p e below _ (T395.setTop (mkF m 432 #[.val (.int i0), .val (.int i1), .val (.int i2), .val (.int i3), .val (.int i4), .val (.int (Int32.ofNat de)), .val (.int (Int32.ofNat nu)), .val (.int (Int32.ofNat ep)), .val (.int r1), .val (.int l1), .val (.int v1), .val (.int w1), .val (.int tf), .val (.int ai), .val (.int cp), .val (.int tl), .val (.int tr), .val (.ref g), .val (.int (Int32.ofNat kt)), .val (.int (Int32.ofNat ki)), .val (.int (Int32.ofNat ko)), .val (.int (1 : Int32))] [(.int (1 : Int32))]))
    exact own_ret X395 hx hlk hret rfl (Or.inl ⟨rfl, by simp, _, rfl⟩) (hb hby at_432) ⟨rfl, M395⟩ (by decide) (by decide)
  · have ed : ¬ ep = de ∧ ¬ ep = nu := by omega
    refine own_by (fun _ kont => XS.ifNo X395.here hx rfl (hb hby at_349) rfl (XT.i0_eq_f (fun z => absurd ((own_inj (b := 0) (by omega) (by omega)).mp z) (by omega))) kont) ?_
    show own_Go p e below _ (T395.setTop (mkF m 352 #[.val (.int i0), .val (.int i1), .val (.int i2), .val (.int i3), .val (.int i4), .val (.int (Int32.ofNat de)), .val (.int (Int32.ofNat nu)), .val (.int (Int32.ofNat ep)), .val (.int r1), .val (.int l1), .val (.int v1), .val (.int w1), .val (.int tf), .val (.int ai), .val (.int cp), .val (.int tl), .val (.int tr), .val (.ref g), .val (.int (Int32.ofNat kt)), .val (.int (Int32.ofNat ki)), .val (.int (Int32.ofNat ko)), .val (.int (1 : Int32))] []))
    refine own_by (fun _ kont => XS.iload X395.here hx rfl (hb hby at_352) rfl kont) ?_
    show own_Go p e below _ (T395.setTop (mkF m 354 #[.val (.int i0), .val (.int i1), .val (.int i2), .val (.int i3), .val (.int i4), .val (.int (Int32.ofNat de)), .val (.int (Int32.ofNat nu)), .val (.int (Int32.ofNat ep)), .val (.int r1), .val (.int l1), .val (.int v1), .val (.int w1), .val (.int tf), .val (.int ai), .val (.int cp), .val (.int tl), .val (.int tr), .val (.ref g), .val (.int (Int32.ofNat kt)), .val (.int (Int32.ofNat ki)), .val (.int (Int32.ofNat ko)), .val (.int (1 : Int32))] [(.int ai)]))
    refine own_by (fun _ kont => XS.ifNo X395.here hx rfl (hb hby at_354) rfl (XT.i0_eq_f ha) kont) ?_
    show own_Go p e below _ (T395.setTop (mkF m 357 #[.val (.int i0), .val (.int i1), .val (.int i2), .val (.int i3), .val (.int i4), .val (.int (Int32.ofNat de)), .val (.int (Int32.ofNat nu)), .val (.int (Int32.ofNat ep)), .val (.int r1), .val (.int l1), .val (.int v1), .val (.int w1), .val (.int tf), .val (.int ai), .val (.int cp), .val (.int tl), .val (.int tr), .val (.ref g), .val (.int (Int32.ofNat kt)), .val (.int (Int32.ofNat ki)), .val (.int (Int32.ofNat ko)), .val (.int (1 : Int32))] []))
    refine own_by (fun _ kont => XS.iload X395.here hx rfl (hb hby at_357) rfl kont) ?_
    show own_Go p e below _ (T395.setTop (mkF m 359 #[.val (.int i0), .val (.int i1), .val (.int i2), .val (.int i3), .val (.int i4), .val (.int (Int32.ofNat de)), .val (.int (Int32.ofNat nu)), .val (.int (Int32.ofNat ep)), .val (.int r1), .val (.int l1), .val (.int v1), .val (.int w1), .val (.int tf), .val (.int ai), .val (.int cp), .val (.int tl), .val (.int tr), .val (.ref g), .val (.int (Int32.ofNat kt)), .val (.int (Int32.ofNat ki)), .val (.int (Int32.ofNat ko)), .val (.int (1 : Int32))] [(.int (1 : Int32))]))
    refine own_by (fun _ kont => XS.ifNo X395.here hx rfl (hb hby at_359) rfl (XT.i0_eq_f (by decide)) kont) ?_
    show own_Go p e below _ (T395.setTop (mkF m 362 #[.val (.int i0), .val (.int i1), .val (.int i2), .val (.int i3), .val (.int i4), .val (.int (Int32.ofNat de)), .val (.int (Int32.ofNat nu)), .val (.int (Int32.ofNat ep)), .val (.int r1), .val (.int l1), .val (.int v1), .val (.int w1), .val (.int tf), .val (.int ai), .val (.int cp), .val (.int tl), .val (.int tr), .val (.ref g), .val (.int (Int32.ofNat kt)), .val (.int (Int32.ofNat ki)), .val (.int (Int32.ofNat ko)), .val (.int (1 : Int32))] []))
    refine own_by (fun _ kont => XS.aload X395.here hx rfl (hb hby at_362) rfl rfl kont) ?_
    show own_Go p e below _ (T395.setTop (mkF m 364 #[.val (.int i0), .val (.int i1), .val (.int i2), .val (.int i3), .val (.int i4), .val (.int (Int32.ofNat de)), .val (.int (Int32.ofNat nu)), .val (.int (Int32.ofNat ep)), .val (.int r1), .val (.int l1), .val (.int v1), .val (.int w1), .val (.int tf), .val (.int ai), .val (.int cp), .val (.int tl), .val (.int tr), .val (.ref g), .val (.int (Int32.ofNat kt)), .val (.int (Int32.ofNat ki)), .val (.int (Int32.ofNat ko)), .val (.int (1 : Int32))] [(.ref g)]))
    refine own_by (fun _ kont => XS.iload X395.here hx rfl (hb hby at_364) rfl kont) ?_
    show own_Go p e below _ (T395.setTop (mkF m 366 #[.val (.int i0), .val (.int i1), .val (.int i2), .val (.int i3), .val (.int i4), .val (.int (Int32.ofNat de)), .val (.int (Int32.ofNat nu)), .val (.int (Int32.ofNat ep)), .val (.int r1), .val (.int l1), .val (.int v1), .val (.int w1), .val (.int tf), .val (.int ai), .val (.int cp), .val (.int tl), .val (.int tr), .val (.ref g), .val (.int (Int32.ofNat kt)), .val (.int (Int32.ofNat ki)), .val (.int (Int32.ofNat ko)), .val (.int (1 : Int32))] [(.int (Int32.ofNat ep)), (.ref g)]))
    obtain ⟨cq398, kq398, qa398, qb398, qc398⟩ := isOf hZ e395 GE382
    obtain ⟨_, _, ⟨T397, L397, k397, n397⟩, -, X397, ⟨Lc397, hQ397, l397, y397, z397⟩, st397⟩ := X395.virtualBack hx (y := (⟨"com/example/lambdalane/lambdalane/NodeGraph", "inEdgeOf", "(I)I"⟩ : MethodName)) (z := (⟨"com/example/lambdalane/lambdalane/NodeGraph", "inEdgeOf", "(I)I"⟩ : MethodName)) hown (mvT hZ (hw _ (List.mem_of_getElem? (i := 71) rfl))) (mvT hZ (hw _ (List.mem_of_getElem? (i := 72) rfl))) (notFace_of_selects (args := #[]) (mvT hZ (hw _ (List.mem_of_getElem? (i := 74) rfl)))) (mvT hZ (hw _ (List.mem_of_getElem? (i := 74) rfl))) (mvT hZ (hw _ (List.mem_of_getElem? (i := 73) rfl))) (by decide) (backOf (W := 0) (rmGi l Z a0 hw [] g _ ep 3 cap Lf Rf C2 I O2 h380 n0 G380 (by omega) (by omega) (by omega)) hZ (hw _ (List.mem_of_getElem? (i := 75) rfl)) (hw _ (List.mem_of_getElem? (i := 3) rfl)) (by decide) (by decide)) qa398 qc398 (g := (mkF m 366 #[.val (.int i0), .val (.int i1), .val (.int i2), .val (.int i3), .val (.int i4), .val (.int (Int32.ofNat de)), .val (.int (Int32.ofNat nu)), .val (.int (Int32.ofNat ep)), .val (.int r1), .val (.int l1), .val (.int v1), .val (.int w1), .val (.int tf), .val (.int ai), .val (.int cp), .val (.int tl), .val (.int tr), .val (.ref g), .val (.int (Int32.ofNat kt)), .val (.int (Int32.ofNat ki)), .val (.int (Int32.ofNat ko)), .val (.int (1 : Int32))] [(.int (Int32.ofNat ep)), (.ref g)])) rfl (by rw [hml]; rfl) (Steps.refl _) (argsL := [(.int (Int32.ofNat ep))]) (rest := []) (lenOf own_pd10 rfl) rfl (by show 2 * 0 + _ ≤ _; exact Nat.le_of_eq rfl) (hb hby at_366) (fun _ _ => ⟨rfl, e395, (by decide : 16 + 0 ≤ _), (by decide : 189 + 0 ≤ _)⟩)
    dsimp only [Pt.U, Pt.locs, Pt.cells, Pt.slots] at X397 l397 y397 z397 st397 hQ397
    subst l397 y397 z397
    refine own_tr st397 ?_
    obtain ⟨rfl, N397, e397⟩ := hQ397
    obtain ⟨L397, X397, M397⟩ := own_hide X397 (Fr.app M395 N397)
    show own_Go p e below _ (T397.setTop (mkF m 369 #[.val (.int i0), .val (.int i1), .val (.int i2), .val (.int i3), .val (.int i4), .val (.int (Int32.ofNat de)), .val (.int (Int32.ofNat nu)), .val (.int (Int32.ofNat ep)), .val (.int r1), .val (.int l1), .val (.int v1), .val (.int w1), .val (.int tf), .val (.int ai), .val (.int cp), .val (.int tl), .val (.int tr), .val (.ref g), .val (.int (Int32.ofNat kt)), .val (.int (Int32.ofNat ki)), .val (.int (Int32.ofNat ko)), .val (.int (1 : Int32))] [(.int (I ep))]))
    rw [show (I ep) = (Int32.ofNat kt) from h1]
    show own_Go p e below _ (T397.setTop (mkF m 369 #[.val (.int i0), .val (.int i1), .val (.int i2), .val (.int i3), .val (.int i4), .val (.int (Int32.ofNat de)), .val (.int (Int32.ofNat nu)), .val (.int (Int32.ofNat ep)), .val (.int r1), .val (.int l1), .val (.int v1), .val (.int w1), .val (.int tf), .val (.int ai), .val (.int cp), .val (.int tl), .val (.int tr), .val (.ref g), .val (.int (Int32.ofNat kt)), .val (.int (Int32.ofNat ki)), .val (.int (Int32.ofNat ko)), .val (.int (1 : Int32))] [(.int (Int32.ofNat kt))]))
    refine own_by (fun _ kont => XS.iload X397.here hx rfl (hb hby at_369) rfl kont) ?_
    show own_Go p e below _ (T397.setTop (mkF m 371 #[.val (.int i0), .val (.int i1), .val (.int i2), .val (.int i3), .val (.int i4), .val (.int (Int32.ofNat de)), .val (.int (Int32.ofNat nu)), .val (.int (Int32.ofNat ep)), .val (.int r1), .val (.int l1), .val (.int v1), .val (.int w1), .val (.int tf), .val (.int ai), .val (.int cp), .val (.int tl), .val (.int tr), .val (.ref g), .val (.int (Int32.ofNat kt)), .val (.int (Int32.ofNat ki)), .val (.int (Int32.ofNat ko)), .val (.int (1 : Int32))] [(.int (Int32.ofNat kt)), (.int (Int32.ofNat kt))]))
    refine own_by (fun _ kont => XS.icmpNo X397.here hx rfl (hb hby at_371) rfl (XT.ii_ne_f rfl) kont) ?_
    show own_Go p e below _ (T397.setTop (mkF m 374 #[.val (.int i0), .val (.int i1), .val (.int i2), .val (.int i3), .val (.int i4), .val (.int (Int32.ofNat de)), .val (.int (Int32.ofNat nu)), .val (.int (Int32.ofNat ep)), .val (.int r1), .val (.int l1), .val (.int v1), .val (.int w1), .val (.int tf), .val (.int ai), .val (.int cp), .val (.int tl), .val (.int tr), .val (.ref g), .val (.int (Int32.ofNat kt)), .val (.int (Int32.ofNat ki)), .val (.int (Int32.ofNat ko)), .val (.int (1 : Int32))] []))
    refine own_by (fun _ kont => XS.aload X397.here hx rfl (hb hby at_374) rfl rfl kont) ?_
    show own_Go p e below _ (T397.setTop (mkF m 376 #[.val (.int i0), .val (.int i1), .val (.int i2), .val (.int i3), .val (.int i4), .val (.int (Int32.ofNat de)), .val (.int (Int32.ofNat nu)), .val (.int (Int32.ofNat ep)), .val (.int r1), .val (.int l1), .val (.int v1), .val (.int w1), .val (.int tf), .val (.int ai), .val (.int cp), .val (.int tl), .val (.int tr), .val (.ref g), .val (.int (Int32.ofNat kt)), .val (.int (Int32.ofNat ki)), .val (.int (Int32.ofNat ko)), .val (.int (1 : Int32))] [(.ref g)]))
    refine own_by (fun _ kont => XS.iload X397.here hx rfl (hb hby at_376) rfl kont) ?_
    show own_Go p e below _ (T397.setTop (mkF m 378 #[.val (.int i0), .val (.int i1), .val (.int i2), .val (.int i3), .val (.int i4), .val (.int (Int32.ofNat de)), .val (.int (Int32.ofNat nu)), .val (.int (Int32.ofNat ep)), .val (.int r1), .val (.int l1), .val (.int v1), .val (.int w1), .val (.int tf), .val (.int ai), .val (.int cp), .val (.int tl), .val (.int tr), .val (.ref g), .val (.int (Int32.ofNat kt)), .val (.int (Int32.ofNat ki)), .val (.int (Int32.ofNat ko)), .val (.int (1 : Int32))] [(.int (Int32.ofNat ep)), (.ref g)]))
    obtain ⟨cq400, kq400, qa400, qb400, qc400⟩ := isOf hZ e397 GE382
    obtain ⟨_, _, ⟨T399, L399, k399, n399⟩, -, X399, ⟨Lc399, hQ399, l399, y399, z399⟩, st399⟩ := X397.virtualBack hx (y := (⟨"com/example/lambdalane/lambdalane/NodeGraph", "outEdgeOf", "(I)I"⟩ : MethodName)) (z := (⟨"com/example/lambdalane/lambdalane/NodeGraph", "outEdgeOf", "(I)I"⟩ : MethodName)) hown (mvT hZ (hw _ (List.mem_of_getElem? (i := 61) rfl))) (mvT hZ (hw _ (List.mem_of_getElem? (i := 62) rfl))) (notFace_of_selects (args := #[]) (mvT hZ (hw _ (List.mem_of_getElem? (i := 64) rfl)))) (mvT hZ (hw _ (List.mem_of_getElem? (i := 64) rfl))) (mvT hZ (hw _ (List.mem_of_getElem? (i := 63) rfl))) (by decide) (backOf (W := 0) (rmGo l Z a0 hw [] g _ ep 3 cap Lf Rf C2 I O2 h380 n0 G380 (by omega) (by omega) (by omega)) hZ (hw _ (List.mem_of_getElem? (i := 65) rfl)) (hw _ (List.mem_of_getElem? (i := 3) rfl)) (by decide) (by decide)) qa400 qc400 (g := (mkF m 378 #[.val (.int i0), .val (.int i1), .val (.int i2), .val (.int i3), .val (.int i4), .val (.int (Int32.ofNat de)), .val (.int (Int32.ofNat nu)), .val (.int (Int32.ofNat ep)), .val (.int r1), .val (.int l1), .val (.int v1), .val (.int w1), .val (.int tf), .val (.int ai), .val (.int cp), .val (.int tl), .val (.int tr), .val (.ref g), .val (.int (Int32.ofNat kt)), .val (.int (Int32.ofNat ki)), .val (.int (Int32.ofNat ko)), .val (.int (1 : Int32))] [(.int (Int32.ofNat ep)), (.ref g)])) rfl (by rw [hml]; rfl) (Steps.refl _) (argsL := [(.int (Int32.ofNat ep))]) (rest := []) (lenOf own_pd10 rfl) rfl (by show 2 * 0 + _ ≤ _; exact Nat.le_of_eq rfl) (hb hby at_378) (fun _ _ => ⟨rfl, e397, (by decide : 16 + 0 ≤ _), (by decide : 189 + 0 ≤ _)⟩)
    dsimp only [Pt.U, Pt.locs, Pt.cells, Pt.slots] at X399 l399 y399 z399 st399 hQ399
    subst l399 y399 z399
    refine own_tr st399 ?_
    obtain ⟨rfl, N399, e399⟩ := hQ399
    obtain ⟨L399, X399, M399⟩ := own_hide X399 (Fr.app M397 N399)
    show own_Go p e below _ (T399.setTop (mkF m 381 #[.val (.int i0), .val (.int i1), .val (.int i2), .val (.int i3), .val (.int i4), .val (.int (Int32.ofNat de)), .val (.int (Int32.ofNat nu)), .val (.int (Int32.ofNat ep)), .val (.int r1), .val (.int l1), .val (.int v1), .val (.int w1), .val (.int tf), .val (.int ai), .val (.int cp), .val (.int tl), .val (.int tr), .val (.ref g), .val (.int (Int32.ofNat kt)), .val (.int (Int32.ofNat ki)), .val (.int (Int32.ofNat ko)), .val (.int (1 : Int32))] [(.int (O2 ep))]))
    rw [show (O2 ep) = (-1 : Int32) from (o3 ep ed.2 ed.1).trans h2]
    show own_Go p e below _ (T399.setTop (mkF m 381 #[.val (.int i0), .val (.int i1), .val (.int i2), .val (.int i3), .val (.int i4), .val (.int (Int32.ofNat de)), .val (.int (Int32.ofNat nu)), .val (.int (Int32.ofNat ep)), .val (.int r1), .val (.int l1), .val (.int v1), .val (.int w1), .val (.int tf), .val (.int ai), .val (.int cp), .val (.int tl), .val (.int tr), .val (.ref g), .val (.int (Int32.ofNat kt)), .val (.int (Int32.ofNat ki)), .val (.int (Int32.ofNat ko)), .val (.int (1 : Int32))] [(.int (-1 : Int32))]))
    refine own_by (fun _ kont => XT.iconstV X399.here hx rfl (-1 : Int32) (hb hby at_381) rfl kont) ?_
    show own_Go p e below _ (T399.setTop (mkF m 382 #[.val (.int i0), .val (.int i1), .val (.int i2), .val (.int i3), .val (.int i4), .val (.int (Int32.ofNat de)), .val (.int (Int32.ofNat nu)), .val (.int (Int32.ofNat ep)), .val (.int r1), .val (.int l1), .val (.int v1), .val (.int w1), .val (.int tf), .val (.int ai), .val (.int cp), .val (.int tl), .val (.int tr), .val (.ref g), .val (.int (Int32.ofNat kt)), .val (.int (Int32.ofNat ki)), .val (.int (Int32.ofNat ko)), .val (.int (1 : Int32))] [(.int (-1 : Int32)), (.int (-1 : Int32))]))
    refine own_by (fun _ kont => XS.icmpNo X399.here hx rfl (hb hby at_382) rfl (XT.ii_ne_f rfl) kont) ?_
    show own_Go p e below _ (T399.setTop (mkF m 385 #[.val (.int i0), .val (.int i1), .val (.int i2), .val (.int i3), .val (.int i4), .val (.int (Int32.ofNat de)), .val (.int (Int32.ofNat nu)), .val (.int (Int32.ofNat ep)), .val (.int r1), .val (.int l1), .val (.int v1), .val (.int w1), .val (.int tf), .val (.int ai), .val (.int cp), .val (.int tl), .val (.int tr), .val (.ref g), .val (.int (Int32.ofNat kt)), .val (.int (Int32.ofNat ki)), .val (.int (Int32.ofNat ko)), .val (.int (1 : Int32))] []))
    refine own_by (fun _ kont => XT.iconstV X399.here hx rfl (1 : Int32) (hb hby at_385) rfl kont) ?_
    show own_Go p e below _ (T399.setTop (mkF m 386 #[.val (.int i0), .val (.int i1), .val (.int i2), .val (.int i3), .val (.int i4), .val (.int (Int32.ofNat de)), .val (.int (Int32.ofNat nu)), .val (.int (Int32.ofNat ep)), .val (.int r1), .val (.int l1), .val (.int v1), .val (.int w1), .val (.int tf), .val (.int ai), .val (.int cp), .val (.int tl), .val (.int tr), .val (.ref g), .val (.int (Int32.ofNat kt)), .val (.int (Int32.ofNat ki)), .val (.int (Int32.ofNat ko)), .val (.int (1 : Int32))] [(.int (1 : Int32))]))
    refine own_by (fun _ kont => XS.goto X399.here hx rfl (pc0 := 386) (pc' := 390) rfl (hb hby at_386) (by decide) (by decide) kont) ?_
    show own_Go p e below _ (T399.setTop (mkF m 390 #[.val (.int i0), .val (.int i1), .val (.int i2), .val (.int i3), .val (.int i4), .val (.int (Int32.ofNat de)), .val (.int (Int32.ofNat nu)), .val (.int (Int32.ofNat ep)), .val (.int r1), .val (.int l1), .val (.int v1), .val (.int w1), .val (.int tf), .val (.int ai), .val (.int cp), .val (.int tl), .val (.int tr), .val (.ref g), .val (.int (Int32.ofNat kt)), .val (.int (Int32.ofNat ki)), .val (.int (Int32.ofNat ko)), .val (.int (1 : Int32))] [(.int (1 : Int32))]))
    refine own_by (fun _ kont => XS.istore X399.here hx rfl (hb hby at_390) rfl (l' := #[.val (.int i0), .val (.int i1), .val (.int i2), .val (.int i3), .val (.int i4), .val (.int (Int32.ofNat de)), .val (.int (Int32.ofNat nu)), .val (.int (Int32.ofNat ep)), .val (.int r1), .val (.int l1), .val (.int v1), .val (.int w1), .val (.int tf), .val (.int ai), .val (.int cp), .val (.int tl), .val (.int tr), .val (.ref g), .val (.int (Int32.ofNat kt)), .val (.int (Int32.ofNat ki)), .val (.int (Int32.ofNat ko)), .val (.int (1 : Int32))]) rfl kont) ?_
    show own_Go p e below _ (T399.setTop (mkF m 392 #[.val (.int i0), .val (.int i1), .val (.int i2), .val (.int i3), .val (.int i4), .val (.int (Int32.ofNat de)), .val (.int (Int32.ofNat nu)), .val (.int (Int32.ofNat ep)), .val (.int r1), .val (.int l1), .val (.int v1), .val (.int w1), .val (.int tf), .val (.int ai), .val (.int cp), .val (.int tl), .val (.int tr), .val (.ref g), .val (.int (Int32.ofNat kt)), .val (.int (Int32.ofNat ki)), .val (.int (Int32.ofNat ko)), .val (.int (1 : Int32))] []))
    refine own_by (fun _ kont => XS.goto X399.here hx rfl (pc0 := 392) (pc' := 430) rfl (hb hby at_392) (by decide) (by decide) kont) ?_
    show own_Go p e below _ (T399.setTop (mkF m 430 #[.val (.int i0), .val (.int i1), .val (.int i2), .val (.int i3), .val (.int i4), .val (.int (Int32.ofNat de)), .val (.int (Int32.ofNat nu)), .val (.int (Int32.ofNat ep)), .val (.int r1), .val (.int l1), .val (.int v1), .val (.int w1), .val (.int tf), .val (.int ai), .val (.int cp), .val (.int tl), .val (.int tr), .val (.ref g), .val (.int (Int32.ofNat kt)), .val (.int (Int32.ofNat ki)), .val (.int (Int32.ofNat ko)), .val (.int (1 : Int32))] []))
    refine own_by (fun _ kont => XS.iload X399.here hx rfl (hb hby at_430) rfl kont) ?_
    show own_Go p e below _ (T399.setTop (mkF m 432 #[.val (.int i0), .val (.int i1), .val (.int i2), .val (.int i3), .val (.int i4), .val (.int (Int32.ofNat de)), .val (.int (Int32.ofNat nu)), .val (.int (Int32.ofNat ep)), .val (.int r1), .val (.int l1), .val (.int v1), .val (.int w1), .val (.int tf), .val (.int ai), .val (.int cp), .val (.int tl), .val (.int tr), .val (.ref g), .val (.int (Int32.ofNat kt)), .val (.int (Int32.ofNat ki)), .val (.int (Int32.ofNat ko)), .val (.int (1 : Int32))] [(.int (1 : Int32))]))
    exact own_ret X399 hx hlk hret rfl (Or.inl ⟨rfl, by simp, _, rfl⟩) (hb hby at_432) ⟨rfl, M399⟩ (by decide) (by decide)
  · have ed : ¬ ep = de ∧ ¬ ep = nu := by omega
    refine own_by (fun _ kont => XS.ifNo X395.here hx rfl (hb hby at_349) rfl (XT.i0_eq_f (fun z => absurd ((own_inj (b := 0) (by omega) (by omega)).mp z) (by omega))) kont) ?_
    show own_Go p e below _ (T395.setTop (mkF m 352 #[.val (.int i0), .val (.int i1), .val (.int i2), .val (.int i3), .val (.int i4), .val (.int (Int32.ofNat de)), .val (.int (Int32.ofNat nu)), .val (.int (Int32.ofNat ep)), .val (.int r1), .val (.int l1), .val (.int v1), .val (.int w1), .val (.int tf), .val (.int ai), .val (.int cp), .val (.int tl), .val (.int tr), .val (.ref g), .val (.int (Int32.ofNat kt)), .val (.int (Int32.ofNat ki)), .val (.int (Int32.ofNat ko)), .val (.int (1 : Int32))] []))
    refine own_by (fun _ kont => XS.iload X395.here hx rfl (hb hby at_352) rfl kont) ?_
    show own_Go p e below _ (T395.setTop (mkF m 354 #[.val (.int i0), .val (.int i1), .val (.int i2), .val (.int i3), .val (.int i4), .val (.int (Int32.ofNat de)), .val (.int (Int32.ofNat nu)), .val (.int (Int32.ofNat ep)), .val (.int r1), .val (.int l1), .val (.int v1), .val (.int w1), .val (.int tf), .val (.int ai), .val (.int cp), .val (.int tl), .val (.int tr), .val (.ref g), .val (.int (Int32.ofNat kt)), .val (.int (Int32.ofNat ki)), .val (.int (Int32.ofNat ko)), .val (.int (1 : Int32))] [(.int ai)]))
    refine own_by (fun _ kont => XS.ifYes X395.here hx rfl (pc0 := 354) (pc' := 395) rfl (hb hby at_354) rfl (XT.i0_eq_t ha) (by decide) (by decide) kont) ?_
    show own_Go p e below _ (T395.setTop (mkF m 395 #[.val (.int i0), .val (.int i1), .val (.int i2), .val (.int i3), .val (.int i4), .val (.int (Int32.ofNat de)), .val (.int (Int32.ofNat nu)), .val (.int (Int32.ofNat ep)), .val (.int r1), .val (.int l1), .val (.int v1), .val (.int w1), .val (.int tf), .val (.int ai), .val (.int cp), .val (.int tl), .val (.int tr), .val (.ref g), .val (.int (Int32.ofNat kt)), .val (.int (Int32.ofNat ki)), .val (.int (Int32.ofNat ko)), .val (.int (1 : Int32))] []))
    refine own_by (fun _ kont => XS.iload X395.here hx rfl (hb hby at_395) rfl kont) ?_
    show own_Go p e below _ (T395.setTop (mkF m 397 #[.val (.int i0), .val (.int i1), .val (.int i2), .val (.int i3), .val (.int i4), .val (.int (Int32.ofNat de)), .val (.int (Int32.ofNat nu)), .val (.int (Int32.ofNat ep)), .val (.int r1), .val (.int l1), .val (.int v1), .val (.int w1), .val (.int tf), .val (.int ai), .val (.int cp), .val (.int tl), .val (.int tr), .val (.ref g), .val (.int (Int32.ofNat kt)), .val (.int (Int32.ofNat ki)), .val (.int (Int32.ofNat ko)), .val (.int (1 : Int32))] [(.int (1 : Int32))]))
    refine own_by (fun _ kont => XS.ifNo X395.here hx rfl (hb hby at_397) rfl (XT.i0_eq_f (by decide)) kont) ?_
    show own_Go p e below _ (T395.setTop (mkF m 400 #[.val (.int i0), .val (.int i1), .val (.int i2), .val (.int i3), .val (.int i4), .val (.int (Int32.ofNat de)), .val (.int (Int32.ofNat nu)), .val (.int (Int32.ofNat ep)), .val (.int r1), .val (.int l1), .val (.int v1), .val (.int w1), .val (.int tf), .val (.int ai), .val (.int cp), .val (.int tl), .val (.int tr), .val (.ref g), .val (.int (Int32.ofNat kt)), .val (.int (Int32.ofNat ki)), .val (.int (Int32.ofNat ko)), .val (.int (1 : Int32))] []))
    refine own_by (fun _ kont => XS.aload X395.here hx rfl (hb hby at_400) rfl rfl kont) ?_
    show own_Go p e below _ (T395.setTop (mkF m 402 #[.val (.int i0), .val (.int i1), .val (.int i2), .val (.int i3), .val (.int i4), .val (.int (Int32.ofNat de)), .val (.int (Int32.ofNat nu)), .val (.int (Int32.ofNat ep)), .val (.int r1), .val (.int l1), .val (.int v1), .val (.int w1), .val (.int tf), .val (.int ai), .val (.int cp), .val (.int tl), .val (.int tr), .val (.ref g), .val (.int (Int32.ofNat kt)), .val (.int (Int32.ofNat ki)), .val (.int (Int32.ofNat ko)), .val (.int (1 : Int32))] [(.ref g)]))
    refine own_by (fun _ kont => XS.iload X395.here hx rfl (hb hby at_402) rfl kont) ?_
    show own_Go p e below _ (T395.setTop (mkF m 404 #[.val (.int i0), .val (.int i1), .val (.int i2), .val (.int i3), .val (.int i4), .val (.int (Int32.ofNat de)), .val (.int (Int32.ofNat nu)), .val (.int (Int32.ofNat ep)), .val (.int r1), .val (.int l1), .val (.int v1), .val (.int w1), .val (.int tf), .val (.int ai), .val (.int cp), .val (.int tl), .val (.int tr), .val (.ref g), .val (.int (Int32.ofNat kt)), .val (.int (Int32.ofNat ki)), .val (.int (Int32.ofNat ko)), .val (.int (1 : Int32))] [(.int (Int32.ofNat ep)), (.ref g)]))
    obtain ⟨cq402, kq402, qa402, qb402, qc402⟩ := isOf hZ e395 GE382
    obtain ⟨_, _, ⟨T401, L401, k401, n401⟩, -, X401, ⟨Lc401, hQ401, l401, y401, z401⟩, st401⟩ := X395.virtualBack hx (y := (⟨"com/example/lambdalane/lambdalane/NodeGraph", "outEdgeOf", "(I)I"⟩ : MethodName)) (z := (⟨"com/example/lambdalane/lambdalane/NodeGraph", "outEdgeOf", "(I)I"⟩ : MethodName)) hown (mvT hZ (hw _ (List.mem_of_getElem? (i := 61) rfl))) (mvT hZ (hw _ (List.mem_of_getElem? (i := 62) rfl))) (notFace_of_selects (args := #[]) (mvT hZ (hw _ (List.mem_of_getElem? (i := 64) rfl)))) (mvT hZ (hw _ (List.mem_of_getElem? (i := 64) rfl))) (mvT hZ (hw _ (List.mem_of_getElem? (i := 63) rfl))) (by decide) (backOf (W := 0) (rmGo l Z a0 hw [] g _ ep 3 cap Lf Rf C2 I O2 h380 n0 G380 (by omega) (by omega) (by omega)) hZ (hw _ (List.mem_of_getElem? (i := 65) rfl)) (hw _ (List.mem_of_getElem? (i := 3) rfl)) (by decide) (by decide)) qa402 qc402 (g := (mkF m 404 #[.val (.int i0), .val (.int i1), .val (.int i2), .val (.int i3), .val (.int i4), .val (.int (Int32.ofNat de)), .val (.int (Int32.ofNat nu)), .val (.int (Int32.ofNat ep)), .val (.int r1), .val (.int l1), .val (.int v1), .val (.int w1), .val (.int tf), .val (.int ai), .val (.int cp), .val (.int tl), .val (.int tr), .val (.ref g), .val (.int (Int32.ofNat kt)), .val (.int (Int32.ofNat ki)), .val (.int (Int32.ofNat ko)), .val (.int (1 : Int32))] [(.int (Int32.ofNat ep)), (.ref g)])) rfl (by rw [hml]; rfl) (Steps.refl _) (argsL := [(.int (Int32.ofNat ep))]) (rest := []) (lenOf own_pd10 rfl) rfl (by show 2 * 0 + _ ≤ _; exact Nat.le_of_eq rfl) (hb hby at_404) (fun _ _ => ⟨rfl, e395, (by decide : 16 + 0 ≤ _), (by decide : 189 + 0 ≤ _)⟩)
    dsimp only [Pt.U, Pt.locs, Pt.cells, Pt.slots] at X401 l401 y401 z401 st401 hQ401
    subst l401 y401 z401
    refine own_tr st401 ?_
    obtain ⟨rfl, N401, e401⟩ := hQ401
    obtain ⟨L401, X401, M401⟩ := own_hide X401 (Fr.app M395 N401)
    show own_Go p e below _ (T401.setTop (mkF m 407 #[.val (.int i0), .val (.int i1), .val (.int i2), .val (.int i3), .val (.int i4), .val (.int (Int32.ofNat de)), .val (.int (Int32.ofNat nu)), .val (.int (Int32.ofNat ep)), .val (.int r1), .val (.int l1), .val (.int v1), .val (.int w1), .val (.int tf), .val (.int ai), .val (.int cp), .val (.int tl), .val (.int tr), .val (.ref g), .val (.int (Int32.ofNat kt)), .val (.int (Int32.ofNat ki)), .val (.int (Int32.ofNat ko)), .val (.int (1 : Int32))] [(.int (O2 ep))]))
    rw [show (O2 ep) = (Int32.ofNat kt) from (o3 ep ed.2 ed.1).trans h1]
    show own_Go p e below _ (T401.setTop (mkF m 407 #[.val (.int i0), .val (.int i1), .val (.int i2), .val (.int i3), .val (.int i4), .val (.int (Int32.ofNat de)), .val (.int (Int32.ofNat nu)), .val (.int (Int32.ofNat ep)), .val (.int r1), .val (.int l1), .val (.int v1), .val (.int w1), .val (.int tf), .val (.int ai), .val (.int cp), .val (.int tl), .val (.int tr), .val (.ref g), .val (.int (Int32.ofNat kt)), .val (.int (Int32.ofNat ki)), .val (.int (Int32.ofNat ko)), .val (.int (1 : Int32))] [(.int (Int32.ofNat kt))]))
    refine own_by (fun _ kont => XS.iload X401.here hx rfl (hb hby at_407) rfl kont) ?_
    show own_Go p e below _ (T401.setTop (mkF m 409 #[.val (.int i0), .val (.int i1), .val (.int i2), .val (.int i3), .val (.int i4), .val (.int (Int32.ofNat de)), .val (.int (Int32.ofNat nu)), .val (.int (Int32.ofNat ep)), .val (.int r1), .val (.int l1), .val (.int v1), .val (.int w1), .val (.int tf), .val (.int ai), .val (.int cp), .val (.int tl), .val (.int tr), .val (.ref g), .val (.int (Int32.ofNat kt)), .val (.int (Int32.ofNat ki)), .val (.int (Int32.ofNat ko)), .val (.int (1 : Int32))] [(.int (Int32.ofNat kt)), (.int (Int32.ofNat kt))]))
    refine own_by (fun _ kont => XS.icmpNo X401.here hx rfl (hb hby at_409) rfl (XT.ii_ne_f rfl) kont) ?_
    show own_Go p e below _ (T401.setTop (mkF m 412 #[.val (.int i0), .val (.int i1), .val (.int i2), .val (.int i3), .val (.int i4), .val (.int (Int32.ofNat de)), .val (.int (Int32.ofNat nu)), .val (.int (Int32.ofNat ep)), .val (.int r1), .val (.int l1), .val (.int v1), .val (.int w1), .val (.int tf), .val (.int ai), .val (.int cp), .val (.int tl), .val (.int tr), .val (.ref g), .val (.int (Int32.ofNat kt)), .val (.int (Int32.ofNat ki)), .val (.int (Int32.ofNat ko)), .val (.int (1 : Int32))] []))
    refine own_by (fun _ kont => XS.aload X401.here hx rfl (hb hby at_412) rfl rfl kont) ?_
    show own_Go p e below _ (T401.setTop (mkF m 414 #[.val (.int i0), .val (.int i1), .val (.int i2), .val (.int i3), .val (.int i4), .val (.int (Int32.ofNat de)), .val (.int (Int32.ofNat nu)), .val (.int (Int32.ofNat ep)), .val (.int r1), .val (.int l1), .val (.int v1), .val (.int w1), .val (.int tf), .val (.int ai), .val (.int cp), .val (.int tl), .val (.int tr), .val (.ref g), .val (.int (Int32.ofNat kt)), .val (.int (Int32.ofNat ki)), .val (.int (Int32.ofNat ko)), .val (.int (1 : Int32))] [(.ref g)]))
    refine own_by (fun _ kont => XS.iload X401.here hx rfl (hb hby at_414) rfl kont) ?_
    show own_Go p e below _ (T401.setTop (mkF m 416 #[.val (.int i0), .val (.int i1), .val (.int i2), .val (.int i3), .val (.int i4), .val (.int (Int32.ofNat de)), .val (.int (Int32.ofNat nu)), .val (.int (Int32.ofNat ep)), .val (.int r1), .val (.int l1), .val (.int v1), .val (.int w1), .val (.int tf), .val (.int ai), .val (.int cp), .val (.int tl), .val (.int tr), .val (.ref g), .val (.int (Int32.ofNat kt)), .val (.int (Int32.ofNat ki)), .val (.int (Int32.ofNat ko)), .val (.int (1 : Int32))] [(.int (Int32.ofNat ep)), (.ref g)]))
    obtain ⟨cq404, kq404, qa404, qb404, qc404⟩ := isOf hZ e401 GE382
    obtain ⟨_, _, ⟨T403, L403, k403, n403⟩, -, X403, ⟨Lc403, hQ403, l403, y403, z403⟩, st403⟩ := X401.virtualBack hx (y := (⟨"com/example/lambdalane/lambdalane/NodeGraph", "inEdgeOf", "(I)I"⟩ : MethodName)) (z := (⟨"com/example/lambdalane/lambdalane/NodeGraph", "inEdgeOf", "(I)I"⟩ : MethodName)) hown (mvT hZ (hw _ (List.mem_of_getElem? (i := 71) rfl))) (mvT hZ (hw _ (List.mem_of_getElem? (i := 72) rfl))) (notFace_of_selects (args := #[]) (mvT hZ (hw _ (List.mem_of_getElem? (i := 74) rfl)))) (mvT hZ (hw _ (List.mem_of_getElem? (i := 74) rfl))) (mvT hZ (hw _ (List.mem_of_getElem? (i := 73) rfl))) (by decide) (backOf (W := 0) (rmGi l Z a0 hw [] g _ ep 3 cap Lf Rf C2 I O2 h380 n0 G380 (by omega) (by omega) (by omega)) hZ (hw _ (List.mem_of_getElem? (i := 75) rfl)) (hw _ (List.mem_of_getElem? (i := 3) rfl)) (by decide) (by decide)) qa404 qc404 (g := (mkF m 416 #[.val (.int i0), .val (.int i1), .val (.int i2), .val (.int i3), .val (.int i4), .val (.int (Int32.ofNat de)), .val (.int (Int32.ofNat nu)), .val (.int (Int32.ofNat ep)), .val (.int r1), .val (.int l1), .val (.int v1), .val (.int w1), .val (.int tf), .val (.int ai), .val (.int cp), .val (.int tl), .val (.int tr), .val (.ref g), .val (.int (Int32.ofNat kt)), .val (.int (Int32.ofNat ki)), .val (.int (Int32.ofNat ko)), .val (.int (1 : Int32))] [(.int (Int32.ofNat ep)), (.ref g)])) rfl (by rw [hml]; rfl) (Steps.refl _) (argsL := [(.int (Int32.ofNat ep))]) (rest := []) (lenOf own_pd10 rfl) rfl (by show 2 * 0 + _ ≤ _; exact Nat.le_of_eq rfl) (hb hby at_416) (fun _ _ => ⟨rfl, e401, (by decide : 16 + 0 ≤ _), (by decide : 189 + 0 ≤ _)⟩)
    dsimp only [Pt.U, Pt.locs, Pt.cells, Pt.slots] at X403 l403 y403 z403 st403 hQ403
    subst l403 y403 z403
    refine own_tr st403 ?_
    obtain ⟨rfl, N403, e403⟩ := hQ403
    obtain ⟨L403, X403, M403⟩ := own_hide X403 (Fr.app M401 N403)
    show own_Go p e below _ (T403.setTop (mkF m 419 #[.val (.int i0), .val (.int i1), .val (.int i2), .val (.int i3), .val (.int i4), .val (.int (Int32.ofNat de)), .val (.int (Int32.ofNat nu)), .val (.int (Int32.ofNat ep)), .val (.int r1), .val (.int l1), .val (.int v1), .val (.int w1), .val (.int tf), .val (.int ai), .val (.int cp), .val (.int tl), .val (.int tr), .val (.ref g), .val (.int (Int32.ofNat kt)), .val (.int (Int32.ofNat ki)), .val (.int (Int32.ofNat ko)), .val (.int (1 : Int32))] [(.int (I ep))]))
    rw [show (I ep) = (-1 : Int32) from h2]
    show own_Go p e below _ (T403.setTop (mkF m 419 #[.val (.int i0), .val (.int i1), .val (.int i2), .val (.int i3), .val (.int i4), .val (.int (Int32.ofNat de)), .val (.int (Int32.ofNat nu)), .val (.int (Int32.ofNat ep)), .val (.int r1), .val (.int l1), .val (.int v1), .val (.int w1), .val (.int tf), .val (.int ai), .val (.int cp), .val (.int tl), .val (.int tr), .val (.ref g), .val (.int (Int32.ofNat kt)), .val (.int (Int32.ofNat ki)), .val (.int (Int32.ofNat ko)), .val (.int (1 : Int32))] [(.int (-1 : Int32))]))
    refine own_by (fun _ kont => XT.iconstV X403.here hx rfl (-1 : Int32) (hb hby at_419) rfl kont) ?_
    show own_Go p e below _ (T403.setTop (mkF m 420 #[.val (.int i0), .val (.int i1), .val (.int i2), .val (.int i3), .val (.int i4), .val (.int (Int32.ofNat de)), .val (.int (Int32.ofNat nu)), .val (.int (Int32.ofNat ep)), .val (.int r1), .val (.int l1), .val (.int v1), .val (.int w1), .val (.int tf), .val (.int ai), .val (.int cp), .val (.int tl), .val (.int tr), .val (.ref g), .val (.int (Int32.ofNat kt)), .val (.int (Int32.ofNat ki)), .val (.int (Int32.ofNat ko)), .val (.int (1 : Int32))] [(.int (-1 : Int32)), (.int (-1 : Int32))]))
    refine own_by (fun _ kont => XS.icmpNo X403.here hx rfl (hb hby at_420) rfl (XT.ii_ne_f rfl) kont) ?_
    show own_Go p e below _ (T403.setTop (mkF m 423 #[.val (.int i0), .val (.int i1), .val (.int i2), .val (.int i3), .val (.int i4), .val (.int (Int32.ofNat de)), .val (.int (Int32.ofNat nu)), .val (.int (Int32.ofNat ep)), .val (.int r1), .val (.int l1), .val (.int v1), .val (.int w1), .val (.int tf), .val (.int ai), .val (.int cp), .val (.int tl), .val (.int tr), .val (.ref g), .val (.int (Int32.ofNat kt)), .val (.int (Int32.ofNat ki)), .val (.int (Int32.ofNat ko)), .val (.int (1 : Int32))] []))
    refine own_by (fun _ kont => XT.iconstV X403.here hx rfl (1 : Int32) (hb hby at_423) rfl kont) ?_
    show own_Go p e below _ (T403.setTop (mkF m 424 #[.val (.int i0), .val (.int i1), .val (.int i2), .val (.int i3), .val (.int i4), .val (.int (Int32.ofNat de)), .val (.int (Int32.ofNat nu)), .val (.int (Int32.ofNat ep)), .val (.int r1), .val (.int l1), .val (.int v1), .val (.int w1), .val (.int tf), .val (.int ai), .val (.int cp), .val (.int tl), .val (.int tr), .val (.ref g), .val (.int (Int32.ofNat kt)), .val (.int (Int32.ofNat ki)), .val (.int (Int32.ofNat ko)), .val (.int (1 : Int32))] [(.int (1 : Int32))]))
    refine own_by (fun _ kont => XS.goto X403.here hx rfl (pc0 := 424) (pc' := 428) rfl (hb hby at_424) (by decide) (by decide) kont) ?_
    show own_Go p e below _ (T403.setTop (mkF m 428 #[.val (.int i0), .val (.int i1), .val (.int i2), .val (.int i3), .val (.int i4), .val (.int (Int32.ofNat de)), .val (.int (Int32.ofNat nu)), .val (.int (Int32.ofNat ep)), .val (.int r1), .val (.int l1), .val (.int v1), .val (.int w1), .val (.int tf), .val (.int ai), .val (.int cp), .val (.int tl), .val (.int tr), .val (.ref g), .val (.int (Int32.ofNat kt)), .val (.int (Int32.ofNat ki)), .val (.int (Int32.ofNat ko)), .val (.int (1 : Int32))] [(.int (1 : Int32))]))
    refine own_by (fun _ kont => XS.istore X403.here hx rfl (hb hby at_428) rfl (l' := #[.val (.int i0), .val (.int i1), .val (.int i2), .val (.int i3), .val (.int i4), .val (.int (Int32.ofNat de)), .val (.int (Int32.ofNat nu)), .val (.int (Int32.ofNat ep)), .val (.int r1), .val (.int l1), .val (.int v1), .val (.int w1), .val (.int tf), .val (.int ai), .val (.int cp), .val (.int tl), .val (.int tr), .val (.ref g), .val (.int (Int32.ofNat kt)), .val (.int (Int32.ofNat ki)), .val (.int (Int32.ofNat ko)), .val (.int (1 : Int32))]) rfl kont) ?_
    show own_Go p e below _ (T403.setTop (mkF m 430 #[.val (.int i0), .val (.int i1), .val (.int i2), .val (.int i3), .val (.int i4), .val (.int (Int32.ofNat de)), .val (.int (Int32.ofNat nu)), .val (.int (Int32.ofNat ep)), .val (.int r1), .val (.int l1), .val (.int v1), .val (.int w1), .val (.int tf), .val (.int ai), .val (.int cp), .val (.int tl), .val (.int tr), .val (.ref g), .val (.int (Int32.ofNat kt)), .val (.int (Int32.ofNat ki)), .val (.int (Int32.ofNat ko)), .val (.int (1 : Int32))] []))
    refine own_by (fun _ kont => XS.iload X403.here hx rfl (hb hby at_430) rfl kont) ?_
    show own_Go p e below _ (T403.setTop (mkF m 432 #[.val (.int i0), .val (.int i1), .val (.int i2), .val (.int i3), .val (.int i4), .val (.int (Int32.ofNat de)), .val (.int (Int32.ofNat nu)), .val (.int (Int32.ofNat ep)), .val (.int r1), .val (.int l1), .val (.int v1), .val (.int w1), .val (.int tf), .val (.int ai), .val (.int cp), .val (.int tl), .val (.int tr), .val (.ref g), .val (.int (Int32.ofNat kt)), .val (.int (Int32.ofNat ki)), .val (.int (Int32.ofNat ko)), .val (.int (1 : Int32))] [(.int (1 : Int32))]))
    exact own_ret X403 hx hlk hret rfl (Or.inl ⟨rfl, by simp, _, rfl⟩) (hb hby at_432) ⟨rfl, M403⟩ (by decide) (by decide)
def own_kd (ep : Nat) (ai tl tr : Int32) : Prop := ep = 0 ∨ (1 ≤ ep ∧ ¬ ai = 0 ∧ tl = 0 ∧ ¬ tr = 0) ∨ (1 ≤ ep ∧ ai = 0 ∧ ¬ tl = 0 ∧ tr = 0)
theorem own_third {ep sz : Nat} {ai tl tr : Int32} {I O : Nat → Int32} (k : own_kd ep ai tl tr) (e7 : ep ≤ 7) (hI : I ep = -1) (hO : O ep = -1) :
    ∃ I2 O2 : Nat → Int32, ((ep = 0 ∧ I = I2 ∧ O = O2) ∨ (1 ≤ ep ∧ ep ≤ 7 ∧ tl = 0 ∧ ¬ tr = 0 ∧ I ep < 0 ∧ I2 = (fun i => if i = ep then Int32.ofNat sz else I i) ∧ O = O2) ∨ (1 ≤ ep ∧ ep ≤ 7 ∧ ¬ tl = 0 ∧ tr = 0 ∧ O ep < 0 ∧ I = I2 ∧ O2 = (fun i => if i = ep then Int32.ofNat sz else O i))) ∧ (∀ q, ¬ q = ep → I2 q = I q ∧ O2 q = O q) ∧ own_en ep sz ai I2 O2 := by
  rcases k with k | ⟨k1, k2, k3, k4⟩ | ⟨k1, k2, k3, k4⟩
  · exact ⟨I, O, Or.inl ⟨k, rfl, rfl⟩, fun q _ => ⟨rfl, rfl⟩, Or.inl k⟩
  · exact ⟨_, O, Or.inr (Or.inl ⟨k1, e7, k3, k4, by rw [hI]; decide, rfl, rfl⟩), fun q hq => ⟨if_neg hq, rfl⟩, Or.inr (Or.inl ⟨k1, k2, if_pos rfl, hO⟩)⟩
  · exact ⟨I, _, Or.inr (Or.inr ⟨k1, e7, k3, k4, by rw [hO]; decide, rfl, rfl⟩), fun q hq => ⟨rfl, if_neg hq⟩, Or.inr (Or.inr ⟨k1, k2, if_pos rfl, hI⟩)⟩
set_option maxRecDepth 65536 in
set_option maxHeartbeats 40000000 in
theorem own_e171 {p : Program} {l : Launch} {e : Env} {s : State} {m : MethodId} {args : Array Value} {below : List Frame} {meth : Method} {c : Code} {T : State} {locs : List Loc} {Z : State} {a0 : Array Value} {n0 : Nat} {h : Heap} (X : Stand p l e room_1 s m args below meth c T locs 0 0) (hx : p.tables.exec = Jvm.exec) (hby : c.code = code) (hlk : meth.locks = false) (hret : meth.sig.returnType = some .boolean) (hZ : Z.Warmed39 s.vm) (hown : s.vm.findClass "com/example/lambdalane/lambdalane/NodeGraphRecolourOutEdgePinLaw" = some m.cls) (hw : ∀ d ∈ tables_1, d.before a0 Z = true) (hml : c.maxLocals = 22) (N : Fr n0 locs) (eT : T.heap = h) (i0 : Int32) (i1 : Int32) (i2 : Int32) (i3 : Int32) (i4 : Int32) (r1 l1 v1 w1 tf ai cp tl tr : Int32) (de nu ep cap : Nat) (Z0 : n0 ≤ h.size) (hcp : cp.toInt = cap) (hc3 : cap ≤ 3) (hr1 : ¬ r1 = 0) (hl1 : ¬ l1 = 0) (d1 : 1 ≤ de) (d7 : de ≤ 7) (u1 : 1 ≤ nu) (u7 : nu ≤ 7) (e7 : ep ≤ 7) (hdn : ¬ de = nu) (hed : ep = 0 ∨ (¬ ep = de ∧ ¬ ep = nu)) (hkd : own_kd ep ai tl tr) :
    own_Go p e below (own_K s (own_Q_rmL Z  n0) room_1.cells room_1.slots) (T.setTop (mkF m 171 #[.val (.int i0), .val (.int i1), .val (.int i2), .val (.int i3), .val (.int i4), .val (.int (Int32.ofNat de)), .val (.int (Int32.ofNat nu)), .val (.int (Int32.ofNat ep)), .val (.int r1), .val (.int l1), .val (.int v1), .val (.int w1), .val (.int tf), .val (.int ai), .val (.int cp), .val (.int tl), .val (.int tr), .unset, .unset, .unset, .unset, .unset] [])) := by
  obtain ⟨T405, h405, X405, e405, E405, A405, D405, -, st405⟩ := newO X hx hZ hown (hw _ (List.mem_of_getElem? (i := 1) rfl)) (hw _ (List.mem_of_getElem? (i := 2) rfl)) (hw _ (List.mem_of_getElem? (i := 3) rfl)) eT (g := (mkF m 171 #[.val (.int i0), .val (.int i1), .val (.int i2), .val (.int i3), .val (.int i4), .val (.int (Int32.ofNat de)), .val (.int (Int32.ofNat nu)), .val (.int (Int32.ofNat ep)), .val (.int r1), .val (.int l1), .val (.int v1), .val (.int w1), .val (.int tf), .val (.int ai), .val (.int cp), .val (.int tl), .val (.int tr), .unset, .unset, .unset, .unset, .unset] [])) rfl (hb hby at_171) (by decide) (by decide)
  obtain ⟨a405, g405⟩ : ∃ z, z = h.size := ⟨_, rfl⟩
  rw [← g405] at A405 D405 st405
  have ge405 : n0 ≤ a405 := by rw [g405]; exact Z0
  have Z405 : n0 ≤ h405.size := Nat.le_trans Z0 E405.1
  have F406 : Fld Z h405 a405 "com/example/lambdalane/lambdalane/NodeGraph" "nextFresh" "I" (.int (0 : Int32)) := D405 (Or.inl (hw _ (List.mem_of_getElem? (i := 11) rfl))) (ty := .int) (by decide)
  have F407 : Fld Z h405 a405 "com/example/lambdalane/lambdalane/NodeGraph" "side" "I" (.int (0 : Int32)) := D405 (Or.inr (hw _ (List.mem_of_getElem? (i := 13) rfl))) (ty := .int) (by decide)
  have F408 : Fld Z h405 a405 "com/example/lambdalane/lambdalane/NodeGraph" "load" "I" (.int (0 : Int32)) := D405 (Or.inr (hw _ (List.mem_of_getElem? (i := 15) rfl))) (ty := .int) (by decide)
  have F409 : Fld Z h405 a405 "com/example/lambdalane/lambdalane/NodeGraph" "colourLimit" "I" (.int (0 : Int32)) := D405 (Or.inr (hw _ (List.mem_of_getElem? (i := 17) rfl))) (ty := .int) (by decide)
  have F410 : Fld Z h405 a405 "com/example/lambdalane/lambdalane/NodeGraph" "left" "[I" .null := D405 (Or.inl (hw _ (List.mem_of_getElem? (i := 20) rfl))) (ty := (.array .int)) (by decide)
  have F411 : Fld Z h405 a405 "com/example/lambdalane/lambdalane/NodeGraph" "right" "[I" .null := D405 (Or.inl (hw _ (List.mem_of_getElem? (i := 22) rfl))) (ty := (.array .int)) (by decide)
  have F412 : Fld Z h405 a405 "com/example/lambdalane/lambdalane/NodeGraph" "colour" "[I" .null := D405 (Or.inl (hw _ (List.mem_of_getElem? (i := 24) rfl))) (ty := (.array .int)) (by decide)
  have F413 : Fld Z h405 a405 "com/example/lambdalane/lambdalane/NodeGraph" "inEdgeOf" "[I" .null := D405 (Or.inr (hw _ (List.mem_of_getElem? (i := 26) rfl))) (ty := (.array .int)) (by decide)
  have F414 : Fld Z h405 a405 "com/example/lambdalane/lambdalane/NodeGraph" "outEdgeOf" "[I" .null := D405 (Or.inr (hw _ (List.mem_of_getElem? (i := 28) rfl))) (ty := (.array .int)) (by decide)
  have F415 : Fld Z h405 a405 "com/example/lambdalane/lambdalane/NodeGraph" "colourMark" "[I" .null := D405 (Or.inr (hw _ (List.mem_of_getElem? (i := 30) rfl))) (ty := (.array .int)) (by decide)
  have F416 : Fld Z h405 a405 "com/example/lambdalane/lambdalane/NodeGraph" "size" "I" (.int (0 : Int32)) := D405 (Or.inl (hw _ (List.mem_of_getElem? (i := 41) rfl))) (ty := .int) (by decide)
  refine own_by st405 ?_
  show own_Go p e below _ (T405.setTop (mkF m 174 #[.val (.int i0), .val (.int i1), .val (.int i2), .val (.int i3), .val (.int i4), .val (.int (Int32.ofNat de)), .val (.int (Int32.ofNat nu)), .val (.int (Int32.ofNat ep)), .val (.int r1), .val (.int l1), .val (.int v1), .val (.int w1), .val (.int tf), .val (.int ai), .val (.int cp), .val (.int tl), .val (.int tr), .unset, .unset, .unset, .unset, .unset] [(.ref a405)]))
  refine own_by (fun _ kont => XS.dup X405.here hx rfl (hb hby at_174) rfl rfl kont) ?_
  show own_Go p e below _ (T405.setTop (mkF m 175 #[.val (.int i0), .val (.int i1), .val (.int i2), .val (.int i3), .val (.int i4), .val (.int (Int32.ofNat de)), .val (.int (Int32.ofNat nu)), .val (.int (Int32.ofNat ep)), .val (.int r1), .val (.int l1), .val (.int v1), .val (.int w1), .val (.int tf), .val (.int ai), .val (.int cp), .val (.int tl), .val (.int tr), .unset, .unset, .unset, .unset, .unset] [(.ref a405), (.ref a405)]))
  refine own_by (fun _ kont => XT.iconstV X405.here hx rfl (2 : Int32) (hb hby at_175) rfl kont) ?_
  show own_Go p e below _ (T405.setTop (mkF m 176 #[.val (.int i0), .val (.int i1), .val (.int i2), .val (.int i3), .val (.int i4), .val (.int (Int32.ofNat de)), .val (.int (Int32.ofNat nu)), .val (.int (Int32.ofNat ep)), .val (.int r1), .val (.int l1), .val (.int v1), .val (.int w1), .val (.int tf), .val (.int ai), .val (.int cp), .val (.int tl), .val (.int tr), .unset, .unset, .unset, .unset, .unset] [(.int (2 : Int32)), (.ref a405), (.ref a405)]))
  refine own_by (fun _ kont => XT.iconstV X405.here hx rfl (2 : Int32) (hb hby at_176) rfl kont) ?_
  show own_Go p e below _ (T405.setTop (mkF m 177 #[.val (.int i0), .val (.int i1), .val (.int i2), .val (.int i3), .val (.int i4), .val (.int (Int32.ofNat de)), .val (.int (Int32.ofNat nu)), .val (.int (Int32.ofNat ep)), .val (.int r1), .val (.int l1), .val (.int v1), .val (.int w1), .val (.int tf), .val (.int ai), .val (.int cp), .val (.int tl), .val (.int tr), .unset, .unset, .unset, .unset, .unset] [(.int (2 : Int32)), (.int (2 : Int32)), (.ref a405), (.ref a405)]))
  refine own_by (fun _ kont => XT.bipushV X405.here hx rfl (7 : Int32) (hb hby at_177) rfl kont) ?_
  show own_Go p e below _ (T405.setTop (mkF m 179 #[.val (.int i0), .val (.int i1), .val (.int i2), .val (.int i3), .val (.int i4), .val (.int (Int32.ofNat de)), .val (.int (Int32.ofNat nu)), .val (.int (Int32.ofNat ep)), .val (.int r1), .val (.int l1), .val (.int v1), .val (.int w1), .val (.int tf), .val (.int ai), .val (.int cp), .val (.int tl), .val (.int tr), .unset, .unset, .unset, .unset, .unset] [(.int (7 : Int32)), (.int (2 : Int32)), (.int (2 : Int32)), (.ref a405), (.ref a405)]))
  refine own_by (fun _ kont => XS.iload X405.here hx rfl (hb hby at_179) rfl kont) ?_
  show own_Go p e below _ (T405.setTop (mkF m 181 #[.val (.int i0), .val (.int i1), .val (.int i2), .val (.int i3), .val (.int i4), .val (.int (Int32.ofNat de)), .val (.int (Int32.ofNat nu)), .val (.int (Int32.ofNat ep)), .val (.int r1), .val (.int l1), .val (.int v1), .val (.int w1), .val (.int tf), .val (.int ai), .val (.int cp), .val (.int tl), .val (.int tr), .unset, .unset, .unset, .unset, .unset] [(.int cp), (.int (7 : Int32)), (.int (2 : Int32)), (.int (2 : Int32)), (.ref a405), (.ref a405)]))
  obtain ⟨_, _, ⟨T417, L417, k417, n417⟩, -, X417, ⟨Lc417, hQ417, l417, y417, z417⟩, st417⟩ := X405.specialBack hx (y := (⟨"com/example/lambdalane/lambdalane/NodeGraph", "<init>", "(IIII)V"⟩ : MethodName)) rfl hown (mvT hZ (hw _ (List.mem_of_getElem? (i := 4) rfl))) (mvT hZ (hw _ (List.mem_of_getElem? (i := 5) rfl))) (mvT hZ (hw _ (List.mem_of_getElem? (i := 6) rfl))) (by decide) (backOf (W := 1) (rmI l Z a0 hw [] a405 (2 : Int32) (2 : Int32) cp cap h405 n0 A405 F406 F407 F408 F409 F410 F411 F412 F413 F414 F415 F416 ge405 Z405 hcp hc3) hZ (hw _ (List.mem_of_getElem? (i := 6) rfl)) (hw _ (List.mem_of_getElem? (i := 3) rfl)) (by decide) (by decide)) (g := (mkF m 181 #[.val (.int i0), .val (.int i1), .val (.int i2), .val (.int i3), .val (.int i4), .val (.int (Int32.ofNat de)), .val (.int (Int32.ofNat nu)), .val (.int (Int32.ofNat ep)), .val (.int r1), .val (.int l1), .val (.int v1), .val (.int w1), .val (.int tf), .val (.int ai), .val (.int cp), .val (.int tl), .val (.int tr), .unset, .unset, .unset, .unset, .unset] [(.int cp), (.int (7 : Int32)), (.int (2 : Int32)), (.int (2 : Int32)), (.ref a405), (.ref a405)])) rfl (by rw [hml]; rfl) (Steps.refl _) (a := a405) (argsL := [(.int (2 : Int32)), (.int (2 : Int32)), (.int (7 : Int32)), (.int cp)]) (rest := [(.ref a405)]) (lenOf own_pd1 rfl) rfl (by show 2 * 0 + _ ≤ _; exact Nat.le_of_eq rfl) (hb hby at_181) (fun _ _ => ⟨rfl, e405, (by decide : 1 + 6 ≤ _), (by decide : 12 + 33 ≤ _)⟩)
  dsimp only [Pt.U, Pt.locs, Pt.cells, Pt.slots] at X417 l417 y417 z417 st417 hQ417
  subst l417 y417 z417
  refine own_tr st417 ?_
  obtain ⟨rfl, N417, G417⟩ := hQ417
  obtain ⟨L417, X417, M417⟩ := own_hide X417 (Fr.app N N417)
  have GE418 : Exa Z T417.heap a405 "com/example/lambdalane/lambdalane/NodeGraph" := by obtain ⟨_, _, _, _, _, _, _, _, ⟨q, -⟩, -⟩ := G417; exact q
  show own_Go p e below _ (T417.setTop (mkF m 184 #[.val (.int i0), .val (.int i1), .val (.int i2), .val (.int i3), .val (.int i4), .val (.int (Int32.ofNat de)), .val (.int (Int32.ofNat nu)), .val (.int (Int32.ofNat ep)), .val (.int r1), .val (.int l1), .val (.int v1), .val (.int w1), .val (.int tf), .val (.int ai), .val (.int cp), .val (.int tl), .val (.int tr), .unset, .unset, .unset, .unset, .unset] [(.ref a405)]))
  refine own_by (fun _ kont => XS.astore X417.here hx rfl (hb hby at_184) rfl rfl (l' := #[.val (.int i0), .val (.int i1), .val (.int i2), .val (.int i3), .val (.int i4), .val (.int (Int32.ofNat de)), .val (.int (Int32.ofNat nu)), .val (.int (Int32.ofNat ep)), .val (.int r1), .val (.int l1), .val (.int v1), .val (.int w1), .val (.int tf), .val (.int ai), .val (.int cp), .val (.int tl), .val (.int tr), .val (.ref a405), .unset, .unset, .unset, .unset]) rfl kont) ?_
  show own_Go p e below _ (T417.setTop (mkF m 186 #[.val (.int i0), .val (.int i1), .val (.int i2), .val (.int i3), .val (.int i4), .val (.int (Int32.ofNat de)), .val (.int (Int32.ofNat nu)), .val (.int (Int32.ofNat ep)), .val (.int r1), .val (.int l1), .val (.int v1), .val (.int w1), .val (.int tf), .val (.int ai), .val (.int cp), .val (.int tl), .val (.int tr), .val (.ref a405), .unset, .unset, .unset, .unset] []))
  refine own_by (fun _ kont => XT.iconstV X417.here hx rfl (-1 : Int32) (hb hby at_186) rfl kont) ?_
  show own_Go p e below _ (T417.setTop (mkF m 187 #[.val (.int i0), .val (.int i1), .val (.int i2), .val (.int i3), .val (.int i4), .val (.int (Int32.ofNat de)), .val (.int (Int32.ofNat nu)), .val (.int (Int32.ofNat ep)), .val (.int r1), .val (.int l1), .val (.int v1), .val (.int w1), .val (.int tf), .val (.int ai), .val (.int cp), .val (.int tl), .val (.int tr), .val (.ref a405), .unset, .unset, .unset, .unset] [(.int (-1 : Int32))]))
  refine own_by (fun _ kont => XS.istore X417.here hx rfl (hb hby at_187) rfl (l' := #[.val (.int i0), .val (.int i1), .val (.int i2), .val (.int i3), .val (.int i4), .val (.int (Int32.ofNat de)), .val (.int (Int32.ofNat nu)), .val (.int (Int32.ofNat ep)), .val (.int r1), .val (.int l1), .val (.int v1), .val (.int w1), .val (.int tf), .val (.int ai), .val (.int cp), .val (.int tl), .val (.int tr), .val (.ref a405), .val (.int (-1 : Int32)), .unset, .unset, .unset]) rfl kont) ?_
  show own_Go p e below _ (T417.setTop (mkF m 189 #[.val (.int i0), .val (.int i1), .val (.int i2), .val (.int i3), .val (.int i4), .val (.int (Int32.ofNat de)), .val (.int (Int32.ofNat nu)), .val (.int (Int32.ofNat ep)), .val (.int r1), .val (.int l1), .val (.int v1), .val (.int w1), .val (.int tf), .val (.int ai), .val (.int cp), .val (.int tl), .val (.int tr), .val (.ref a405), .val (.int (-1 : Int32)), .unset, .unset, .unset] []))
  refine own_by (fun _ kont => XS.iload X417.here hx rfl (hb hby at_189) rfl kont) ?_
  show own_Go p e below _ (T417.setTop (mkF m 191 #[.val (.int i0), .val (.int i1), .val (.int i2), .val (.int i3), .val (.int i4), .val (.int (Int32.ofNat de)), .val (.int (Int32.ofNat nu)), .val (.int (Int32.ofNat ep)), .val (.int r1), .val (.int l1), .val (.int v1), .val (.int w1), .val (.int tf), .val (.int ai), .val (.int cp), .val (.int tl), .val (.int tr), .val (.ref a405), .val (.int (-1 : Int32)), .unset, .unset, .unset] [(.int tf)]))
  by_cases htf : tf = (0 : Int32)
  · refine own_by (fun _ kont => XS.ifYes X417.here hx rfl (pc0 := 191) (pc' := 207) rfl (hb hby at_191) rfl (XT.i0_eq_t htf) (by decide) (by decide) kont) ?_
    show own_Go p e below _ (T417.setTop (mkF m 207 #[.val (.int i0), .val (.int i1), .val (.int i2), .val (.int i3), .val (.int i4), .val (.int (Int32.ofNat de)), .val (.int (Int32.ofNat nu)), .val (.int (Int32.ofNat ep)), .val (.int r1), .val (.int l1), .val (.int v1), .val (.int w1), .val (.int tf), .val (.int ai), .val (.int cp), .val (.int tl), .val (.int tr), .val (.ref a405), .val (.int (-1 : Int32)), .unset, .unset, .unset] []))
    refine own_by (fun _ kont => XS.aload X417.here hx rfl (hb hby at_207) rfl rfl kont) ?_
    show own_Go p e below _ (T417.setTop (mkF m 209 #[.val (.int i0), .val (.int i1), .val (.int i2), .val (.int i3), .val (.int i4), .val (.int (Int32.ofNat de)), .val (.int (Int32.ofNat nu)), .val (.int (Int32.ofNat ep)), .val (.int r1), .val (.int l1), .val (.int v1), .val (.int w1), .val (.int tf), .val (.int ai), .val (.int cp), .val (.int tl), .val (.int tr), .val (.ref a405), .val (.int (-1 : Int32)), .unset, .unset, .unset] [(.ref a405)]))
    refine own_by (fun _ kont => XT.iconstV X417.here hx rfl (0 : Int32) (hb hby at_209) rfl kont) ?_
    show own_Go p e below _ (T417.setTop (mkF m 210 #[.val (.int i0), .val (.int i1), .val (.int i2), .val (.int i3), .val (.int i4), .val (.int (Int32.ofNat de)), .val (.int (Int32.ofNat nu)), .val (.int (Int32.ofNat ep)), .val (.int r1), .val (.int l1), .val (.int v1), .val (.int w1), .val (.int tf), .val (.int ai), .val (.int cp), .val (.int tl), .val (.int tr), .val (.ref a405), .val (.int (-1 : Int32)), .unset, .unset, .unset] [(.int (0 : Int32)), (.ref a405)]))
    refine own_by (fun _ kont => XS.iload X417.here hx rfl (hb hby at_210) rfl kont) ?_
    show own_Go p e below _ (T417.setTop (mkF m 212 #[.val (.int i0), .val (.int i1), .val (.int i2), .val (.int i3), .val (.int i4), .val (.int (Int32.ofNat de)), .val (.int (Int32.ofNat nu)), .val (.int (Int32.ofNat ep)), .val (.int r1), .val (.int l1), .val (.int v1), .val (.int w1), .val (.int tf), .val (.int ai), .val (.int cp), .val (.int tl), .val (.int tr), .val (.ref a405), .val (.int (-1 : Int32)), .unset, .unset, .unset] [(.int r1), (.int (0 : Int32)), (.ref a405)]))
    refine own_by (fun _ kont => XS.iload X417.here hx rfl (hb hby at_212) rfl kont) ?_
    show own_Go p e below _ (T417.setTop (mkF m 214 #[.val (.int i0), .val (.int i1), .val (.int i2), .val (.int i3), .val (.int i4), .val (.int (Int32.ofNat de)), .val (.int (Int32.ofNat nu)), .val (.int (Int32.ofNat ep)), .val (.int r1), .val (.int l1), .val (.int v1), .val (.int w1), .val (.int tf), .val (.int ai), .val (.int cp), .val (.int tl), .val (.int tr), .val (.ref a405), .val (.int (-1 : Int32)), .unset, .unset, .unset] [(.int (Int32.ofNat de)), (.int r1), (.int (0 : Int32)), (.ref a405)]))
    obtain ⟨cq421, kq421, qa421, qb421, qc421⟩ := isOf hZ (rfl : T417.heap = T417.heap) GE418
    obtain ⟨_, _, ⟨T420, L420, k420, n420⟩, -, X420, ⟨Lc420, hQ420, l420, y420, z420⟩, st420⟩ := X417.virtualBack hx (y := (⟨"com/example/lambdalane/lambdalane/NodeGraph", "add", "(III)I"⟩ : MethodName)) (z := (⟨"com/example/lambdalane/lambdalane/NodeGraph", "add", "(III)I"⟩ : MethodName)) hown (mvT hZ (hw _ (List.mem_of_getElem? (i := 35) rfl))) (mvT hZ (hw _ (List.mem_of_getElem? (i := 36) rfl))) (notFace_of_selects (args := #[]) (mvT hZ (hw _ (List.mem_of_getElem? (i := 38) rfl)))) (mvT hZ (hw _ (List.mem_of_getElem? (i := 38) rfl))) (mvT hZ (hw _ (List.mem_of_getElem? (i := 37) rfl))) (by decide) (backOf (W := 0) (rmA l Z a0 hw [] a405 _ (0 : Int32) r1 de 0 cap (fun _ => 0) (fun _ => 0) (fun _ => 0) (fun _ => (-1 : Int32)) (fun _ => (-1 : Int32)) (fun i => if i = de then Int32.ofNat 0 else (fun _ => (-1 : Int32)) i) (fun _ => (-1 : Int32)) T417.heap n0 G417 (by omega) (by omega) (by omega) (Or.inr (Or.inl ⟨d1, d7, rfl, hr1, (by decide), rfl, rfl⟩))) hZ (hw _ (List.mem_of_getElem? (i := 39) rfl)) (hw _ (List.mem_of_getElem? (i := 3) rfl)) (by decide) (by decide)) qa421 qc421 (g := (mkF m 214 #[.val (.int i0), .val (.int i1), .val (.int i2), .val (.int i3), .val (.int i4), .val (.int (Int32.ofNat de)), .val (.int (Int32.ofNat nu)), .val (.int (Int32.ofNat ep)), .val (.int r1), .val (.int l1), .val (.int v1), .val (.int w1), .val (.int tf), .val (.int ai), .val (.int cp), .val (.int tl), .val (.int tr), .val (.ref a405), .val (.int (-1 : Int32)), .unset, .unset, .unset] [(.int (Int32.ofNat de)), (.int r1), (.int (0 : Int32)), (.ref a405)])) rfl (by rw [hml]; rfl) (Steps.refl _) (argsL := [(.int (0 : Int32)), (.int r1), (.int (Int32.ofNat de))]) (rest := []) (lenOf own_pd4 rfl) rfl (by show 2 * 0 + _ ≤ _; exact Nat.le_of_eq rfl) (hb hby at_214) (fun _ _ => ⟨rfl, (rfl : T417.heap = T417.heap), (by decide : 7 + 3 ≤ _), (by decide : 45 + 48 ≤ _)⟩)
    dsimp only [Pt.U, Pt.locs, Pt.cells, Pt.slots] at X420 l420 y420 z420 st420 hQ420
    subst l420 y420 z420
    refine own_tr st420 ?_
    obtain ⟨rfl, N420, cap420, u420, v420, G420⟩ := hQ420
    obtain ⟨L420, X420, M420⟩ := own_hide X420 (Fr.app M417 N420)
    obtain ⟨lq420, hlq420⟩ : ∃ f : Nat → Int32, f = (fun i => if i = 0 then (0 : Int32) else (fun _ => 0) i) := ⟨_, rfl⟩
    obtain ⟨rq420, hrq420⟩ : ∃ f : Nat → Int32, f = (fun i => if i = 0 then r1 else (fun _ => 0) i) := ⟨_, rfl⟩
    obtain ⟨cq420, hcq420⟩ : ∃ f : Nat → Int32, f = (fun i => if i = 0 then Int32.ofNat de else (fun _ => 0) i) := ⟨_, rfl⟩
    rw [← hlq420, ← hrq420, ← hcq420] at G420
    obtain ⟨iq420, hiq420⟩ : ∃ f : Nat → Int32, f = (fun i => if i = de then Int32.ofNat 0 else (fun _ => (-1 : Int32)) i) := ⟨_, rfl⟩
    rw [← hiq420] at G420
    have iA : iq420 de = Int32.ofNat 0 := by rw [hiq420]; simp only [if_true]
    have iB : ∀ q, ¬ q = de → iq420 q = (fun _ => (-1 : Int32)) q := fun q hq => by rw [hiq420]; simp only [if_neg hq]
    have GE422 : Exa Z T420.heap a405 "com/example/lambdalane/lambdalane/NodeGraph" := by obtain ⟨_, _, _, _, _, _, _, _, ⟨q, -⟩, -⟩ := G420; exact q
    show own_Go p e below _ (T420.setTop (mkF m 217 #[.val (.int i0), .val (.int i1), .val (.int i2), .val (.int i3), .val (.int i4), .val (.int (Int32.ofNat de)), .val (.int (Int32.ofNat nu)), .val (.int (Int32.ofNat ep)), .val (.int r1), .val (.int l1), .val (.int v1), .val (.int w1), .val (.int tf), .val (.int ai), .val (.int cp), .val (.int tl), .val (.int tr), .val (.ref a405), .val (.int (-1 : Int32)), .unset, .unset, .unset] [(.int (Int32.ofNat 0))]))
    refine own_by (fun _ kont => XS.istore X420.here hx rfl (hb hby at_217) rfl (l' := #[.val (.int i0), .val (.int i1), .val (.int i2), .val (.int i3), .val (.int i4), .val (.int (Int32.ofNat de)), .val (.int (Int32.ofNat nu)), .val (.int (Int32.ofNat ep)), .val (.int r1), .val (.int l1), .val (.int v1), .val (.int w1), .val (.int tf), .val (.int ai), .val (.int cp), .val (.int tl), .val (.int tr), .val (.ref a405), .val (.int (-1 : Int32)), .val (.int (Int32.ofNat 0)), .unset, .unset]) rfl kont) ?_
    show own_Go p e below _ (T420.setTop (mkF m 219 #[.val (.int i0), .val (.int i1), .val (.int i2), .val (.int i3), .val (.int i4), .val (.int (Int32.ofNat de)), .val (.int (Int32.ofNat nu)), .val (.int (Int32.ofNat ep)), .val (.int r1), .val (.int l1), .val (.int v1), .val (.int w1), .val (.int tf), .val (.int ai), .val (.int cp), .val (.int tl), .val (.int tr), .val (.ref a405), .val (.int (-1 : Int32)), .val (.int (Int32.ofNat 0)), .unset, .unset] []))
    refine own_by (fun _ kont => XS.aload X420.here hx rfl (hb hby at_219) rfl rfl kont) ?_
    show own_Go p e below _ (T420.setTop (mkF m 221 #[.val (.int i0), .val (.int i1), .val (.int i2), .val (.int i3), .val (.int i4), .val (.int (Int32.ofNat de)), .val (.int (Int32.ofNat nu)), .val (.int (Int32.ofNat ep)), .val (.int r1), .val (.int l1), .val (.int v1), .val (.int w1), .val (.int tf), .val (.int ai), .val (.int cp), .val (.int tl), .val (.int tr), .val (.ref a405), .val (.int (-1 : Int32)), .val (.int (Int32.ofNat 0)), .unset, .unset] [(.ref a405)]))
    refine own_by (fun _ kont => XS.iload X420.here hx rfl (hb hby at_221) rfl kont) ?_
    show own_Go p e below _ (T420.setTop (mkF m 223 #[.val (.int i0), .val (.int i1), .val (.int i2), .val (.int i3), .val (.int i4), .val (.int (Int32.ofNat de)), .val (.int (Int32.ofNat nu)), .val (.int (Int32.ofNat ep)), .val (.int r1), .val (.int l1), .val (.int v1), .val (.int w1), .val (.int tf), .val (.int ai), .val (.int cp), .val (.int tl), .val (.int tr), .val (.ref a405), .val (.int (-1 : Int32)), .val (.int (Int32.ofNat 0)), .unset, .unset] [(.int l1), (.ref a405)]))
    refine own_by (fun _ kont => XT.iconstV X420.here hx rfl (0 : Int32) (hb hby at_223) rfl kont) ?_
    show own_Go p e below _ (T420.setTop (mkF m 224 #[.val (.int i0), .val (.int i1), .val (.int i2), .val (.int i3), .val (.int i4), .val (.int (Int32.ofNat de)), .val (.int (Int32.ofNat nu)), .val (.int (Int32.ofNat ep)), .val (.int r1), .val (.int l1), .val (.int v1), .val (.int w1), .val (.int tf), .val (.int ai), .val (.int cp), .val (.int tl), .val (.int tr), .val (.ref a405), .val (.int (-1 : Int32)), .val (.int (Int32.ofNat 0)), .unset, .unset] [(.int (0 : Int32)), (.int l1), (.ref a405)]))
    refine own_by (fun _ kont => XS.iload X420.here hx rfl (hb hby at_224) rfl kont) ?_
    show own_Go p e below _ (T420.setTop (mkF m 226 #[.val (.int i0), .val (.int i1), .val (.int i2), .val (.int i3), .val (.int i4), .val (.int (Int32.ofNat de)), .val (.int (Int32.ofNat nu)), .val (.int (Int32.ofNat ep)), .val (.int r1), .val (.int l1), .val (.int v1), .val (.int w1), .val (.int tf), .val (.int ai), .val (.int cp), .val (.int tl), .val (.int tr), .val (.ref a405), .val (.int (-1 : Int32)), .val (.int (Int32.ofNat 0)), .unset, .unset] [(.int (Int32.ofNat de)), (.int (0 : Int32)), (.int l1), (.ref a405)]))
    obtain ⟨cq425, kq425, qa425, qb425, qc425⟩ := isOf hZ (rfl : T420.heap = T420.heap) GE422
    obtain ⟨_, _, ⟨T424, L424, k424, n424⟩, -, X424, ⟨Lc424, hQ424, l424, y424, z424⟩, st424⟩ := X420.virtualBack hx (y := (⟨"com/example/lambdalane/lambdalane/NodeGraph", "add", "(III)I"⟩ : MethodName)) (z := (⟨"com/example/lambdalane/lambdalane/NodeGraph", "add", "(III)I"⟩ : MethodName)) hown (mvT hZ (hw _ (List.mem_of_getElem? (i := 35) rfl))) (mvT hZ (hw _ (List.mem_of_getElem? (i := 36) rfl))) (notFace_of_selects (args := #[]) (mvT hZ (hw _ (List.mem_of_getElem? (i := 38) rfl)))) (mvT hZ (hw _ (List.mem_of_getElem? (i := 38) rfl))) (mvT hZ (hw _ (List.mem_of_getElem? (i := 37) rfl))) (by decide) (backOf (W := 0) (rmA l Z a0 hw [] a405 _ l1 (0 : Int32) de 1 cap420 lq420 rq420 cq420 iq420 (fun _ => (-1 : Int32)) iq420 (fun i => if i = de then Int32.ofNat 1 else (fun _ => (-1 : Int32)) i) T420.heap n0 G420 (by omega) (by omega) (by omega) (Or.inr (Or.inr ⟨d1, d7, hl1, rfl, (by decide), rfl, rfl⟩))) hZ (hw _ (List.mem_of_getElem? (i := 39) rfl)) (hw _ (List.mem_of_getElem? (i := 3) rfl)) (by decide) (by decide)) qa425 qc425 (g := (mkF m 226 #[.val (.int i0), .val (.int i1), .val (.int i2), .val (.int i3), .val (.int i4), .val (.int (Int32.ofNat de)), .val (.int (Int32.ofNat nu)), .val (.int (Int32.ofNat ep)), .val (.int r1), .val (.int l1), .val (.int v1), .val (.int w1), .val (.int tf), .val (.int ai), .val (.int cp), .val (.int tl), .val (.int tr), .val (.ref a405), .val (.int (-1 : Int32)), .val (.int (Int32.ofNat 0)), .unset, .unset] [(.int (Int32.ofNat de)), (.int (0 : Int32)), (.int l1), (.ref a405)])) rfl (by rw [hml]; rfl) (Steps.refl _) (argsL := [(.int l1), (.int (0 : Int32)), (.int (Int32.ofNat de))]) (rest := []) (lenOf own_pd4 rfl) rfl (by show 2 * 0 + _ ≤ _; exact Nat.le_of_eq rfl) (hb hby at_226) (fun _ _ => ⟨rfl, (rfl : T420.heap = T420.heap), (by decide : 10 + 3 ≤ _), (by decide : 93 + 48 ≤ _)⟩)
    dsimp only [Pt.U, Pt.locs, Pt.cells, Pt.slots] at X424 l424 y424 z424 st424 hQ424
    subst l424 y424 z424
    refine own_tr st424 ?_
    obtain ⟨rfl, N424, cap424, u424, v424, G424⟩ := hQ424
    obtain ⟨L424, X424, M424⟩ := own_hide X424 (Fr.app M420 N424)
    obtain ⟨lq424, hlq424⟩ : ∃ f : Nat → Int32, f = (fun i => if i = 1 then l1 else lq420 i) := ⟨_, rfl⟩
    obtain ⟨rq424, hrq424⟩ : ∃ f : Nat → Int32, f = (fun i => if i = 1 then (0 : Int32) else rq420 i) := ⟨_, rfl⟩
    obtain ⟨cq424, hcq424⟩ : ∃ f : Nat → Int32, f = (fun i => if i = 1 then Int32.ofNat de else cq420 i) := ⟨_, rfl⟩
    rw [← hlq424, ← hrq424, ← hcq424] at G424
    obtain ⟨oq424, hoq424⟩ : ∃ f : Nat → Int32, f = (fun i => if i = de then Int32.ofNat 1 else (fun _ => (-1 : Int32)) i) := ⟨_, rfl⟩
    rw [← hoq424] at G424
    have oA : oq424 de = Int32.ofNat 1 := by rw [hoq424]; simp only [if_true]
    have oB : ∀ q, ¬ q = de → oq424 q = (fun _ => (-1 : Int32)) q := fun q hq => by rw [hoq424]; simp only [if_neg hq]
    have GE426 : Exa Z T424.heap a405 "com/example/lambdalane/lambdalane/NodeGraph" := by obtain ⟨_, _, _, _, _, _, _, _, ⟨q, -⟩, -⟩ := G424; exact q
    show own_Go p e below _ (T424.setTop (mkF m 229 #[.val (.int i0), .val (.int i1), .val (.int i2), .val (.int i3), .val (.int i4), .val (.int (Int32.ofNat de)), .val (.int (Int32.ofNat nu)), .val (.int (Int32.ofNat ep)), .val (.int r1), .val (.int l1), .val (.int v1), .val (.int w1), .val (.int tf), .val (.int ai), .val (.int cp), .val (.int tl), .val (.int tr), .val (.ref a405), .val (.int (-1 : Int32)), .val (.int (Int32.ofNat 0)), .unset, .unset] [(.int (Int32.ofNat 1))]))
    refine own_by (fun _ kont => XS.istore X424.here hx rfl (hb hby at_229) rfl (l' := #[.val (.int i0), .val (.int i1), .val (.int i2), .val (.int i3), .val (.int i4), .val (.int (Int32.ofNat de)), .val (.int (Int32.ofNat nu)), .val (.int (Int32.ofNat ep)), .val (.int r1), .val (.int l1), .val (.int v1), .val (.int w1), .val (.int tf), .val (.int ai), .val (.int cp), .val (.int tl), .val (.int tr), .val (.ref a405), .val (.int (-1 : Int32)), .val (.int (Int32.ofNat 0)), .val (.int (Int32.ofNat 1)), .unset]) rfl kont) ?_
    show own_Go p e below _ (T424.setTop (mkF m 231 #[.val (.int i0), .val (.int i1), .val (.int i2), .val (.int i3), .val (.int i4), .val (.int (Int32.ofNat de)), .val (.int (Int32.ofNat nu)), .val (.int (Int32.ofNat ep)), .val (.int r1), .val (.int l1), .val (.int v1), .val (.int w1), .val (.int tf), .val (.int ai), .val (.int cp), .val (.int tl), .val (.int tr), .val (.ref a405), .val (.int (-1 : Int32)), .val (.int (Int32.ofNat 0)), .val (.int (Int32.ofNat 1)), .unset] []))
    refine own_by (fun _ kont => XS.iload X424.here hx rfl (hb hby at_231) rfl kont) ?_
    show own_Go p e below _ (T424.setTop (mkF m 233 #[.val (.int i0), .val (.int i1), .val (.int i2), .val (.int i3), .val (.int i4), .val (.int (Int32.ofNat de)), .val (.int (Int32.ofNat nu)), .val (.int (Int32.ofNat ep)), .val (.int r1), .val (.int l1), .val (.int v1), .val (.int w1), .val (.int tf), .val (.int ai), .val (.int cp), .val (.int tl), .val (.int tr), .val (.ref a405), .val (.int (-1 : Int32)), .val (.int (Int32.ofNat 0)), .val (.int (Int32.ofNat 1)), .unset] [(.int tf)]))
    refine own_by (fun _ kont => XS.ifNo X424.here hx rfl (hb hby at_233) rfl (XT.i0_ne_f htf) kont) ?_
    show own_Go p e below _ (T424.setTop (mkF m 236 #[.val (.int i0), .val (.int i1), .val (.int i2), .val (.int i3), .val (.int i4), .val (.int (Int32.ofNat de)), .val (.int (Int32.ofNat nu)), .val (.int (Int32.ofNat ep)), .val (.int r1), .val (.int l1), .val (.int v1), .val (.int w1), .val (.int tf), .val (.int ai), .val (.int cp), .val (.int tl), .val (.int tr), .val (.ref a405), .val (.int (-1 : Int32)), .val (.int (Int32.ofNat 0)), .val (.int (Int32.ofNat 1)), .unset] []))
    refine own_by (fun _ kont => XS.aload X424.here hx rfl (hb hby at_236) rfl rfl kont) ?_
    show own_Go p e below _ (T424.setTop (mkF m 238 #[.val (.int i0), .val (.int i1), .val (.int i2), .val (.int i3), .val (.int i4), .val (.int (Int32.ofNat de)), .val (.int (Int32.ofNat nu)), .val (.int (Int32.ofNat ep)), .val (.int r1), .val (.int l1), .val (.int v1), .val (.int w1), .val (.int tf), .val (.int ai), .val (.int cp), .val (.int tl), .val (.int tr), .val (.ref a405), .val (.int (-1 : Int32)), .val (.int (Int32.ofNat 0)), .val (.int (Int32.ofNat 1)), .unset] [(.ref a405)]))
    refine own_by (fun _ kont => XS.iload X424.here hx rfl (hb hby at_238) rfl kont) ?_
    show own_Go p e below _ (T424.setTop (mkF m 240 #[.val (.int i0), .val (.int i1), .val (.int i2), .val (.int i3), .val (.int i4), .val (.int (Int32.ofNat de)), .val (.int (Int32.ofNat nu)), .val (.int (Int32.ofNat ep)), .val (.int r1), .val (.int l1), .val (.int v1), .val (.int w1), .val (.int tf), .val (.int ai), .val (.int cp), .val (.int tl), .val (.int tr), .val (.ref a405), .val (.int (-1 : Int32)), .val (.int (Int32.ofNat 0)), .val (.int (Int32.ofNat 1)), .unset] [(.int tl), (.ref a405)]))
    refine own_by (fun _ kont => XS.iload X424.here hx rfl (hb hby at_240) rfl kont) ?_
    show own_Go p e below _ (T424.setTop (mkF m 242 #[.val (.int i0), .val (.int i1), .val (.int i2), .val (.int i3), .val (.int i4), .val (.int (Int32.ofNat de)), .val (.int (Int32.ofNat nu)), .val (.int (Int32.ofNat ep)), .val (.int r1), .val (.int l1), .val (.int v1), .val (.int w1), .val (.int tf), .val (.int ai), .val (.int cp), .val (.int tl), .val (.int tr), .val (.ref a405), .val (.int (-1 : Int32)), .val (.int (Int32.ofNat 0)), .val (.int (Int32.ofNat 1)), .unset] [(.int tr), (.int tl), (.ref a405)]))
    refine own_by (fun _ kont => XS.iload X424.here hx rfl (hb hby at_242) rfl kont) ?_
    show own_Go p e below _ (T424.setTop (mkF m 244 #[.val (.int i0), .val (.int i1), .val (.int i2), .val (.int i3), .val (.int i4), .val (.int (Int32.ofNat de)), .val (.int (Int32.ofNat nu)), .val (.int (Int32.ofNat ep)), .val (.int r1), .val (.int l1), .val (.int v1), .val (.int w1), .val (.int tf), .val (.int ai), .val (.int cp), .val (.int tl), .val (.int tr), .val (.ref a405), .val (.int (-1 : Int32)), .val (.int (Int32.ofNat 0)), .val (.int (Int32.ofNat 1)), .unset] [(.int (Int32.ofNat ep)), (.int tr), (.int tl), (.ref a405)]))
    have hIe427 : iq420 ep = -1 := by exact ((iB ep (by omega)).trans rfl)
    have hOe427 : oq424 ep = -1 := by exact ((oB ep (by omega)).trans rfl)
    obtain ⟨I427, O427, hcol427, hoth427, hen427⟩ := own_third (sz := 2) (I := iq420) (O := oq424) hkd e7 hIe427 hOe427
    obtain ⟨cq429, kq429, qa429, qb429, qc429⟩ := isOf hZ (rfl : T424.heap = T424.heap) GE426
    obtain ⟨_, _, ⟨T428, L428, k428, n428⟩, -, X428, ⟨Lc428, hQ428, l428, y428, z428⟩, st428⟩ := X424.virtualBack hx (y := (⟨"com/example/lambdalane/lambdalane/NodeGraph", "add", "(III)I"⟩ : MethodName)) (z := (⟨"com/example/lambdalane/lambdalane/NodeGraph", "add", "(III)I"⟩ : MethodName)) hown (mvT hZ (hw _ (List.mem_of_getElem? (i := 35) rfl))) (mvT hZ (hw _ (List.mem_of_getElem? (i := 36) rfl))) (notFace_of_selects (args := #[]) (mvT hZ (hw _ (List.mem_of_getElem? (i := 38) rfl)))) (mvT hZ (hw _ (List.mem_of_getElem? (i := 38) rfl))) (mvT hZ (hw _ (List.mem_of_getElem? (i := 37) rfl))) (by decide) (backOf (W := 0) (rmA l Z a0 hw [] a405 _ tl tr ep 2 cap424 lq424 rq424 cq424 iq420 oq424 I427 O427 T424.heap n0 G424 (by omega) (by omega) (by omega) hcol427) hZ (hw _ (List.mem_of_getElem? (i := 39) rfl)) (hw _ (List.mem_of_getElem? (i := 3) rfl)) (by decide) (by decide)) qa429 qc429 (g := (mkF m 244 #[.val (.int i0), .val (.int i1), .val (.int i2), .val (.int i3), .val (.int i4), .val (.int (Int32.ofNat de)), .val (.int (Int32.ofNat nu)), .val (.int (Int32.ofNat ep)), .val (.int r1), .val (.int l1), .val (.int v1), .val (.int w1), .val (.int tf), .val (.int ai), .val (.int cp), .val (.int tl), .val (.int tr), .val (.ref a405), .val (.int (-1 : Int32)), .val (.int (Int32.ofNat 0)), .val (.int (Int32.ofNat 1)), .unset] [(.int (Int32.ofNat ep)), (.int tr), (.int tl), (.ref a405)])) rfl (by rw [hml]; rfl) (Steps.refl _) (argsL := [(.int tl), (.int tr), (.int (Int32.ofNat ep))]) (rest := []) (lenOf own_pd4 rfl) rfl (by show 2 * 0 + _ ≤ _; exact Nat.le_of_eq rfl) (hb hby at_244) (fun _ _ => ⟨rfl, (rfl : T424.heap = T424.heap), (by decide : 13 + 3 ≤ _), (by decide : 141 + 48 ≤ _)⟩)
    dsimp only [Pt.U, Pt.locs, Pt.cells, Pt.slots] at X428 l428 y428 z428 st428 hQ428
    subst l428 y428 z428
    refine own_tr st428 ?_
    obtain ⟨rfl, N428, cap428, u428, v428, G428⟩ := hQ428
    obtain ⟨L428, X428, M428⟩ := own_hide X428 (Fr.app M424 N428)
    obtain ⟨lq428, hlq428⟩ : ∃ f : Nat → Int32, f = (fun i => if i = 2 then tl else lq424 i) := ⟨_, rfl⟩
    obtain ⟨rq428, hrq428⟩ : ∃ f : Nat → Int32, f = (fun i => if i = 2 then tr else rq424 i) := ⟨_, rfl⟩
    obtain ⟨cq428, hcq428⟩ : ∃ f : Nat → Int32, f = (fun i => if i = 2 then Int32.ofNat ep else cq424 i) := ⟨_, rfl⟩
    rw [← hlq428, ← hrq428, ← hcq428] at G428
    have GE430 : Exa Z T428.heap a405 "com/example/lambdalane/lambdalane/NodeGraph" := by obtain ⟨_, _, _, _, _, _, _, _, ⟨q, -⟩, -⟩ := G428; exact q
    show own_Go p e below _ (T428.setTop (mkF m 247 #[.val (.int i0), .val (.int i1), .val (.int i2), .val (.int i3), .val (.int i4), .val (.int (Int32.ofNat de)), .val (.int (Int32.ofNat nu)), .val (.int (Int32.ofNat ep)), .val (.int r1), .val (.int l1), .val (.int v1), .val (.int w1), .val (.int tf), .val (.int ai), .val (.int cp), .val (.int tl), .val (.int tr), .val (.ref a405), .val (.int (-1 : Int32)), .val (.int (Int32.ofNat 0)), .val (.int (Int32.ofNat 1)), .unset] [(.int (Int32.ofNat 2))]))
    refine own_by (fun _ kont => XS.istore X428.here hx rfl (hb hby at_247) rfl (l' := #[.val (.int i0), .val (.int i1), .val (.int i2), .val (.int i3), .val (.int i4), .val (.int (Int32.ofNat de)), .val (.int (Int32.ofNat nu)), .val (.int (Int32.ofNat ep)), .val (.int r1), .val (.int l1), .val (.int v1), .val (.int w1), .val (.int tf), .val (.int ai), .val (.int cp), .val (.int tl), .val (.int tr), .val (.ref a405), .val (.int (Int32.ofNat 2)), .val (.int (Int32.ofNat 0)), .val (.int (Int32.ofNat 1)), .unset]) rfl kont) ?_
    show own_Go p e below _ (T428.setTop (mkF m 249 #[.val (.int i0), .val (.int i1), .val (.int i2), .val (.int i3), .val (.int i4), .val (.int (Int32.ofNat de)), .val (.int (Int32.ofNat nu)), .val (.int (Int32.ofNat ep)), .val (.int r1), .val (.int l1), .val (.int v1), .val (.int w1), .val (.int tf), .val (.int ai), .val (.int cp), .val (.int tl), .val (.int tr), .val (.ref a405), .val (.int (Int32.ofNat 2)), .val (.int (Int32.ofNat 0)), .val (.int (Int32.ofNat 1)), .unset] []))
    have hx0 : ¬ de = ep := by omega
    have hx1 : ¬ nu = ep := by omega
    exact own_e249 X428 hx hby hlk hret hZ hown hw hml M428 (rfl : T428.heap = T428.heap) i0 i1 i2 i3 i4 r1 l1 v1 w1 tf ai cp tl tr _ a405 de nu ep 2 0 1 cap428 lq428 rq428 cq428 I427 O427 G428 (by omega) (by omega) d1 d7 u1 u7 e7 hdn hed (by omega) (by omega) (by omega) (by omega) (by omega) (by simp [hcq420, hcq424, hcq428]) (by simp [hcq420, hcq424, hcq428]) ((hoth427 de hx0).1.trans iA) ((hoth427 de hx0).2.trans oA) ((hoth427 nu hx1).1.trans (iB nu (fun z => hdn z.symm))) hen427
  · refine own_by (fun _ kont => XS.ifNo X417.here hx rfl (hb hby at_191) rfl (XT.i0_eq_f htf) kont) ?_
    show own_Go p e below _ (T417.setTop (mkF m 194 #[.val (.int i0), .val (.int i1), .val (.int i2), .val (.int i3), .val (.int i4), .val (.int (Int32.ofNat de)), .val (.int (Int32.ofNat nu)), .val (.int (Int32.ofNat ep)), .val (.int r1), .val (.int l1), .val (.int v1), .val (.int w1), .val (.int tf), .val (.int ai), .val (.int cp), .val (.int tl), .val (.int tr), .val (.ref a405), .val (.int (-1 : Int32)), .unset, .unset, .unset] []))
    have hx0 : ¬ de = ep := by omega
    have hx1 : ¬ nu = ep := by omega
    refine own_by (fun _ kont => XS.aload X417.here hx rfl (hb hby at_194) rfl rfl kont) ?_
    show own_Go p e below _ (T417.setTop (mkF m 196 #[.val (.int i0), .val (.int i1), .val (.int i2), .val (.int i3), .val (.int i4), .val (.int (Int32.ofNat de)), .val (.int (Int32.ofNat nu)), .val (.int (Int32.ofNat ep)), .val (.int r1), .val (.int l1), .val (.int v1), .val (.int w1), .val (.int tf), .val (.int ai), .val (.int cp), .val (.int tl), .val (.int tr), .val (.ref a405), .val (.int (-1 : Int32)), .unset, .unset, .unset] [(.ref a405)]))
    refine own_by (fun _ kont => XS.iload X417.here hx rfl (hb hby at_196) rfl kont) ?_
    show own_Go p e below _ (T417.setTop (mkF m 198 #[.val (.int i0), .val (.int i1), .val (.int i2), .val (.int i3), .val (.int i4), .val (.int (Int32.ofNat de)), .val (.int (Int32.ofNat nu)), .val (.int (Int32.ofNat ep)), .val (.int r1), .val (.int l1), .val (.int v1), .val (.int w1), .val (.int tf), .val (.int ai), .val (.int cp), .val (.int tl), .val (.int tr), .val (.ref a405), .val (.int (-1 : Int32)), .unset, .unset, .unset] [(.int tl), (.ref a405)]))
    refine own_by (fun _ kont => XS.iload X417.here hx rfl (hb hby at_198) rfl kont) ?_
    show own_Go p e below _ (T417.setTop (mkF m 200 #[.val (.int i0), .val (.int i1), .val (.int i2), .val (.int i3), .val (.int i4), .val (.int (Int32.ofNat de)), .val (.int (Int32.ofNat nu)), .val (.int (Int32.ofNat ep)), .val (.int r1), .val (.int l1), .val (.int v1), .val (.int w1), .val (.int tf), .val (.int ai), .val (.int cp), .val (.int tl), .val (.int tr), .val (.ref a405), .val (.int (-1 : Int32)), .unset, .unset, .unset] [(.int tr), (.int tl), (.ref a405)]))
    refine own_by (fun _ kont => XS.iload X417.here hx rfl (hb hby at_200) rfl kont) ?_
    show own_Go p e below _ (T417.setTop (mkF m 202 #[.val (.int i0), .val (.int i1), .val (.int i2), .val (.int i3), .val (.int i4), .val (.int (Int32.ofNat de)), .val (.int (Int32.ofNat nu)), .val (.int (Int32.ofNat ep)), .val (.int r1), .val (.int l1), .val (.int v1), .val (.int w1), .val (.int tf), .val (.int ai), .val (.int cp), .val (.int tl), .val (.int tr), .val (.ref a405), .val (.int (-1 : Int32)), .unset, .unset, .unset] [(.int (Int32.ofNat ep)), (.int tr), (.int tl), (.ref a405)]))
    have hIe431 : (fun _ => (-1 : Int32)) ep = -1 := by rfl
    have hOe431 : (fun _ => (-1 : Int32)) ep = -1 := by rfl
    obtain ⟨I431, O431, hcol431, hoth431, hen431⟩ := own_third (sz := 0) (I := (fun _ => (-1 : Int32))) (O := (fun _ => (-1 : Int32))) hkd e7 hIe431 hOe431
    obtain ⟨cq433, kq433, qa433, qb433, qc433⟩ := isOf hZ (rfl : T417.heap = T417.heap) GE418
    obtain ⟨_, _, ⟨T432, L432, k432, n432⟩, -, X432, ⟨Lc432, hQ432, l432, y432, z432⟩, st432⟩ := X417.virtualBack hx (y := (⟨"com/example/lambdalane/lambdalane/NodeGraph", "add", "(III)I"⟩ : MethodName)) (z := (⟨"com/example/lambdalane/lambdalane/NodeGraph", "add", "(III)I"⟩ : MethodName)) hown (mvT hZ (hw _ (List.mem_of_getElem? (i := 35) rfl))) (mvT hZ (hw _ (List.mem_of_getElem? (i := 36) rfl))) (notFace_of_selects (args := #[]) (mvT hZ (hw _ (List.mem_of_getElem? (i := 38) rfl)))) (mvT hZ (hw _ (List.mem_of_getElem? (i := 38) rfl))) (mvT hZ (hw _ (List.mem_of_getElem? (i := 37) rfl))) (by decide) (backOf (W := 0) (rmA l Z a0 hw [] a405 _ tl tr ep 0 cap (fun _ => 0) (fun _ => 0) (fun _ => 0) (fun _ => (-1 : Int32)) (fun _ => (-1 : Int32)) I431 O431 T417.heap n0 G417 (by omega) (by omega) (by omega) hcol431) hZ (hw _ (List.mem_of_getElem? (i := 39) rfl)) (hw _ (List.mem_of_getElem? (i := 3) rfl)) (by decide) (by decide)) qa433 qc433 (g := (mkF m 202 #[.val (.int i0), .val (.int i1), .val (.int i2), .val (.int i3), .val (.int i4), .val (.int (Int32.ofNat de)), .val (.int (Int32.ofNat nu)), .val (.int (Int32.ofNat ep)), .val (.int r1), .val (.int l1), .val (.int v1), .val (.int w1), .val (.int tf), .val (.int ai), .val (.int cp), .val (.int tl), .val (.int tr), .val (.ref a405), .val (.int (-1 : Int32)), .unset, .unset, .unset] [(.int (Int32.ofNat ep)), (.int tr), (.int tl), (.ref a405)])) rfl (by rw [hml]; rfl) (Steps.refl _) (argsL := [(.int tl), (.int tr), (.int (Int32.ofNat ep))]) (rest := []) (lenOf own_pd4 rfl) rfl (by show 2 * 0 + _ ≤ _; exact Nat.le_of_eq rfl) (hb hby at_202) (fun _ _ => ⟨rfl, (rfl : T417.heap = T417.heap), (by decide : 7 + 3 ≤ _), (by decide : 45 + 48 ≤ _)⟩)
    dsimp only [Pt.U, Pt.locs, Pt.cells, Pt.slots] at X432 l432 y432 z432 st432 hQ432
    subst l432 y432 z432
    refine own_tr st432 ?_
    obtain ⟨rfl, N432, cap432, u432, v432, G432⟩ := hQ432
    obtain ⟨L432, X432, M432⟩ := own_hide X432 (Fr.app M417 N432)
    obtain ⟨lq432, hlq432⟩ : ∃ f : Nat → Int32, f = (fun i => if i = 0 then tl else (fun _ => 0) i) := ⟨_, rfl⟩
    obtain ⟨rq432, hrq432⟩ : ∃ f : Nat → Int32, f = (fun i => if i = 0 then tr else (fun _ => 0) i) := ⟨_, rfl⟩
    obtain ⟨cq432, hcq432⟩ : ∃ f : Nat → Int32, f = (fun i => if i = 0 then Int32.ofNat ep else (fun _ => 0) i) := ⟨_, rfl⟩
    rw [← hlq432, ← hrq432, ← hcq432] at G432
    have GE434 : Exa Z T432.heap a405 "com/example/lambdalane/lambdalane/NodeGraph" := by obtain ⟨_, _, _, _, _, _, _, _, ⟨q, -⟩, -⟩ := G432; exact q
    show own_Go p e below _ (T432.setTop (mkF m 205 #[.val (.int i0), .val (.int i1), .val (.int i2), .val (.int i3), .val (.int i4), .val (.int (Int32.ofNat de)), .val (.int (Int32.ofNat nu)), .val (.int (Int32.ofNat ep)), .val (.int r1), .val (.int l1), .val (.int v1), .val (.int w1), .val (.int tf), .val (.int ai), .val (.int cp), .val (.int tl), .val (.int tr), .val (.ref a405), .val (.int (-1 : Int32)), .unset, .unset, .unset] [(.int (Int32.ofNat 0))]))
    refine own_by (fun _ kont => XS.istore X432.here hx rfl (hb hby at_205) rfl (l' := #[.val (.int i0), .val (.int i1), .val (.int i2), .val (.int i3), .val (.int i4), .val (.int (Int32.ofNat de)), .val (.int (Int32.ofNat nu)), .val (.int (Int32.ofNat ep)), .val (.int r1), .val (.int l1), .val (.int v1), .val (.int w1), .val (.int tf), .val (.int ai), .val (.int cp), .val (.int tl), .val (.int tr), .val (.ref a405), .val (.int (Int32.ofNat 0)), .unset, .unset, .unset]) rfl kont) ?_
    show own_Go p e below _ (T432.setTop (mkF m 207 #[.val (.int i0), .val (.int i1), .val (.int i2), .val (.int i3), .val (.int i4), .val (.int (Int32.ofNat de)), .val (.int (Int32.ofNat nu)), .val (.int (Int32.ofNat ep)), .val (.int r1), .val (.int l1), .val (.int v1), .val (.int w1), .val (.int tf), .val (.int ai), .val (.int cp), .val (.int tl), .val (.int tr), .val (.ref a405), .val (.int (Int32.ofNat 0)), .unset, .unset, .unset] []))
    refine own_by (fun _ kont => XS.aload X432.here hx rfl (hb hby at_207) rfl rfl kont) ?_
    show own_Go p e below _ (T432.setTop (mkF m 209 #[.val (.int i0), .val (.int i1), .val (.int i2), .val (.int i3), .val (.int i4), .val (.int (Int32.ofNat de)), .val (.int (Int32.ofNat nu)), .val (.int (Int32.ofNat ep)), .val (.int r1), .val (.int l1), .val (.int v1), .val (.int w1), .val (.int tf), .val (.int ai), .val (.int cp), .val (.int tl), .val (.int tr), .val (.ref a405), .val (.int (Int32.ofNat 0)), .unset, .unset, .unset] [(.ref a405)]))
    refine own_by (fun _ kont => XT.iconstV X432.here hx rfl (0 : Int32) (hb hby at_209) rfl kont) ?_
    show own_Go p e below _ (T432.setTop (mkF m 210 #[.val (.int i0), .val (.int i1), .val (.int i2), .val (.int i3), .val (.int i4), .val (.int (Int32.ofNat de)), .val (.int (Int32.ofNat nu)), .val (.int (Int32.ofNat ep)), .val (.int r1), .val (.int l1), .val (.int v1), .val (.int w1), .val (.int tf), .val (.int ai), .val (.int cp), .val (.int tl), .val (.int tr), .val (.ref a405), .val (.int (Int32.ofNat 0)), .unset, .unset, .unset] [(.int (0 : Int32)), (.ref a405)]))
    refine own_by (fun _ kont => XS.iload X432.here hx rfl (hb hby at_210) rfl kont) ?_
    show own_Go p e below _ (T432.setTop (mkF m 212 #[.val (.int i0), .val (.int i1), .val (.int i2), .val (.int i3), .val (.int i4), .val (.int (Int32.ofNat de)), .val (.int (Int32.ofNat nu)), .val (.int (Int32.ofNat ep)), .val (.int r1), .val (.int l1), .val (.int v1), .val (.int w1), .val (.int tf), .val (.int ai), .val (.int cp), .val (.int tl), .val (.int tr), .val (.ref a405), .val (.int (Int32.ofNat 0)), .unset, .unset, .unset] [(.int r1), (.int (0 : Int32)), (.ref a405)]))
    refine own_by (fun _ kont => XS.iload X432.here hx rfl (hb hby at_212) rfl kont) ?_
    show own_Go p e below _ (T432.setTop (mkF m 214 #[.val (.int i0), .val (.int i1), .val (.int i2), .val (.int i3), .val (.int i4), .val (.int (Int32.ofNat de)), .val (.int (Int32.ofNat nu)), .val (.int (Int32.ofNat ep)), .val (.int r1), .val (.int l1), .val (.int v1), .val (.int w1), .val (.int tf), .val (.int ai), .val (.int cp), .val (.int tl), .val (.int tr), .val (.ref a405), .val (.int (Int32.ofNat 0)), .unset, .unset, .unset] [(.int (Int32.ofNat de)), (.int r1), (.int (0 : Int32)), (.ref a405)]))
    obtain ⟨cq437, kq437, qa437, qb437, qc437⟩ := isOf hZ (rfl : T432.heap = T432.heap) GE434
    obtain ⟨_, _, ⟨T436, L436, k436, n436⟩, -, X436, ⟨Lc436, hQ436, l436, y436, z436⟩, st436⟩ := X432.virtualBack hx (y := (⟨"com/example/lambdalane/lambdalane/NodeGraph", "add", "(III)I"⟩ : MethodName)) (z := (⟨"com/example/lambdalane/lambdalane/NodeGraph", "add", "(III)I"⟩ : MethodName)) hown (mvT hZ (hw _ (List.mem_of_getElem? (i := 35) rfl))) (mvT hZ (hw _ (List.mem_of_getElem? (i := 36) rfl))) (notFace_of_selects (args := #[]) (mvT hZ (hw _ (List.mem_of_getElem? (i := 38) rfl)))) (mvT hZ (hw _ (List.mem_of_getElem? (i := 38) rfl))) (mvT hZ (hw _ (List.mem_of_getElem? (i := 37) rfl))) (by decide) (backOf (W := 0) (rmA l Z a0 hw [] a405 _ (0 : Int32) r1 de 1 cap432 lq432 rq432 cq432 I431 O431 (fun i => if i = de then Int32.ofNat 1 else I431 i) O431 T432.heap n0 G432 (by omega) (by omega) (by omega) (Or.inr (Or.inl ⟨d1, d7, rfl, hr1, (by rw [(hoth431 de hx0).1]; decide), rfl, rfl⟩))) hZ (hw _ (List.mem_of_getElem? (i := 39) rfl)) (hw _ (List.mem_of_getElem? (i := 3) rfl)) (by decide) (by decide)) qa437 qc437 (g := (mkF m 214 #[.val (.int i0), .val (.int i1), .val (.int i2), .val (.int i3), .val (.int i4), .val (.int (Int32.ofNat de)), .val (.int (Int32.ofNat nu)), .val (.int (Int32.ofNat ep)), .val (.int r1), .val (.int l1), .val (.int v1), .val (.int w1), .val (.int tf), .val (.int ai), .val (.int cp), .val (.int tl), .val (.int tr), .val (.ref a405), .val (.int (Int32.ofNat 0)), .unset, .unset, .unset] [(.int (Int32.ofNat de)), (.int r1), (.int (0 : Int32)), (.ref a405)])) rfl (by rw [hml]; rfl) (Steps.refl _) (argsL := [(.int (0 : Int32)), (.int r1), (.int (Int32.ofNat de))]) (rest := []) (lenOf own_pd4 rfl) rfl (by show 2 * 0 + _ ≤ _; exact Nat.le_of_eq rfl) (hb hby at_214) (fun _ _ => ⟨rfl, (rfl : T432.heap = T432.heap), (by decide : 10 + 3 ≤ _), (by decide : 93 + 48 ≤ _)⟩)
    dsimp only [Pt.U, Pt.locs, Pt.cells, Pt.slots] at X436 l436 y436 z436 st436 hQ436
    subst l436 y436 z436
    refine own_tr st436 ?_
    obtain ⟨rfl, N436, cap436, u436, v436, G436⟩ := hQ436
    obtain ⟨L436, X436, M436⟩ := own_hide X436 (Fr.app M432 N436)
    obtain ⟨lq436, hlq436⟩ : ∃ f : Nat → Int32, f = (fun i => if i = 1 then (0 : Int32) else lq432 i) := ⟨_, rfl⟩
    obtain ⟨rq436, hrq436⟩ : ∃ f : Nat → Int32, f = (fun i => if i = 1 then r1 else rq432 i) := ⟨_, rfl⟩
    obtain ⟨cq436, hcq436⟩ : ∃ f : Nat → Int32, f = (fun i => if i = 1 then Int32.ofNat de else cq432 i) := ⟨_, rfl⟩
    rw [← hlq436, ← hrq436, ← hcq436] at G436
    obtain ⟨iq436, hiq436⟩ : ∃ f : Nat → Int32, f = (fun i => if i = de then Int32.ofNat 1 else I431 i) := ⟨_, rfl⟩
    rw [← hiq436] at G436
    have iA : iq436 de = Int32.ofNat 1 := by rw [hiq436]; simp only [if_true]
    have iB : ∀ q, ¬ q = de → iq436 q = I431 q := fun q hq => by rw [hiq436]; simp only [if_neg hq]
    have GE438 : Exa Z T436.heap a405 "com/example/lambdalane/lambdalane/NodeGraph" := by obtain ⟨_, _, _, _, _, _, _, _, ⟨q, -⟩, -⟩ := G436; exact q
    show own_Go p e below _ (T436.setTop (mkF m 217 #[.val (.int i0), .val (.int i1), .val (.int i2), .val (.int i3), .val (.int i4), .val (.int (Int32.ofNat de)), .val (.int (Int32.ofNat nu)), .val (.int (Int32.ofNat ep)), .val (.int r1), .val (.int l1), .val (.int v1), .val (.int w1), .val (.int tf), .val (.int ai), .val (.int cp), .val (.int tl), .val (.int tr), .val (.ref a405), .val (.int (Int32.ofNat 0)), .unset, .unset, .unset] [(.int (Int32.ofNat 1))]))
    refine own_by (fun _ kont => XS.istore X436.here hx rfl (hb hby at_217) rfl (l' := #[.val (.int i0), .val (.int i1), .val (.int i2), .val (.int i3), .val (.int i4), .val (.int (Int32.ofNat de)), .val (.int (Int32.ofNat nu)), .val (.int (Int32.ofNat ep)), .val (.int r1), .val (.int l1), .val (.int v1), .val (.int w1), .val (.int tf), .val (.int ai), .val (.int cp), .val (.int tl), .val (.int tr), .val (.ref a405), .val (.int (Int32.ofNat 0)), .val (.int (Int32.ofNat 1)), .unset, .unset]) rfl kont) ?_
    show own_Go p e below _ (T436.setTop (mkF m 219 #[.val (.int i0), .val (.int i1), .val (.int i2), .val (.int i3), .val (.int i4), .val (.int (Int32.ofNat de)), .val (.int (Int32.ofNat nu)), .val (.int (Int32.ofNat ep)), .val (.int r1), .val (.int l1), .val (.int v1), .val (.int w1), .val (.int tf), .val (.int ai), .val (.int cp), .val (.int tl), .val (.int tr), .val (.ref a405), .val (.int (Int32.ofNat 0)), .val (.int (Int32.ofNat 1)), .unset, .unset] []))
    refine own_by (fun _ kont => XS.aload X436.here hx rfl (hb hby at_219) rfl rfl kont) ?_
    show own_Go p e below _ (T436.setTop (mkF m 221 #[.val (.int i0), .val (.int i1), .val (.int i2), .val (.int i3), .val (.int i4), .val (.int (Int32.ofNat de)), .val (.int (Int32.ofNat nu)), .val (.int (Int32.ofNat ep)), .val (.int r1), .val (.int l1), .val (.int v1), .val (.int w1), .val (.int tf), .val (.int ai), .val (.int cp), .val (.int tl), .val (.int tr), .val (.ref a405), .val (.int (Int32.ofNat 0)), .val (.int (Int32.ofNat 1)), .unset, .unset] [(.ref a405)]))
    refine own_by (fun _ kont => XS.iload X436.here hx rfl (hb hby at_221) rfl kont) ?_
    show own_Go p e below _ (T436.setTop (mkF m 223 #[.val (.int i0), .val (.int i1), .val (.int i2), .val (.int i3), .val (.int i4), .val (.int (Int32.ofNat de)), .val (.int (Int32.ofNat nu)), .val (.int (Int32.ofNat ep)), .val (.int r1), .val (.int l1), .val (.int v1), .val (.int w1), .val (.int tf), .val (.int ai), .val (.int cp), .val (.int tl), .val (.int tr), .val (.ref a405), .val (.int (Int32.ofNat 0)), .val (.int (Int32.ofNat 1)), .unset, .unset] [(.int l1), (.ref a405)]))
    refine own_by (fun _ kont => XT.iconstV X436.here hx rfl (0 : Int32) (hb hby at_223) rfl kont) ?_
    show own_Go p e below _ (T436.setTop (mkF m 224 #[.val (.int i0), .val (.int i1), .val (.int i2), .val (.int i3), .val (.int i4), .val (.int (Int32.ofNat de)), .val (.int (Int32.ofNat nu)), .val (.int (Int32.ofNat ep)), .val (.int r1), .val (.int l1), .val (.int v1), .val (.int w1), .val (.int tf), .val (.int ai), .val (.int cp), .val (.int tl), .val (.int tr), .val (.ref a405), .val (.int (Int32.ofNat 0)), .val (.int (Int32.ofNat 1)), .unset, .unset] [(.int (0 : Int32)), (.int l1), (.ref a405)]))
    refine own_by (fun _ kont => XS.iload X436.here hx rfl (hb hby at_224) rfl kont) ?_
    show own_Go p e below _ (T436.setTop (mkF m 226 #[.val (.int i0), .val (.int i1), .val (.int i2), .val (.int i3), .val (.int i4), .val (.int (Int32.ofNat de)), .val (.int (Int32.ofNat nu)), .val (.int (Int32.ofNat ep)), .val (.int r1), .val (.int l1), .val (.int v1), .val (.int w1), .val (.int tf), .val (.int ai), .val (.int cp), .val (.int tl), .val (.int tr), .val (.ref a405), .val (.int (Int32.ofNat 0)), .val (.int (Int32.ofNat 1)), .unset, .unset] [(.int (Int32.ofNat de)), (.int (0 : Int32)), (.int l1), (.ref a405)]))
    obtain ⟨cq441, kq441, qa441, qb441, qc441⟩ := isOf hZ (rfl : T436.heap = T436.heap) GE438
    obtain ⟨_, _, ⟨T440, L440, k440, n440⟩, -, X440, ⟨Lc440, hQ440, l440, y440, z440⟩, st440⟩ := X436.virtualBack hx (y := (⟨"com/example/lambdalane/lambdalane/NodeGraph", "add", "(III)I"⟩ : MethodName)) (z := (⟨"com/example/lambdalane/lambdalane/NodeGraph", "add", "(III)I"⟩ : MethodName)) hown (mvT hZ (hw _ (List.mem_of_getElem? (i := 35) rfl))) (mvT hZ (hw _ (List.mem_of_getElem? (i := 36) rfl))) (notFace_of_selects (args := #[]) (mvT hZ (hw _ (List.mem_of_getElem? (i := 38) rfl)))) (mvT hZ (hw _ (List.mem_of_getElem? (i := 38) rfl))) (mvT hZ (hw _ (List.mem_of_getElem? (i := 37) rfl))) (by decide) (backOf (W := 0) (rmA l Z a0 hw [] a405 _ l1 (0 : Int32) de 2 cap436 lq436 rq436 cq436 iq436 O431 iq436 (fun i => if i = de then Int32.ofNat 2 else O431 i) T436.heap n0 G436 (by omega) (by omega) (by omega) (Or.inr (Or.inr ⟨d1, d7, hl1, rfl, (by rw [(hoth431 de hx0).2]; decide), rfl, rfl⟩))) hZ (hw _ (List.mem_of_getElem? (i := 39) rfl)) (hw _ (List.mem_of_getElem? (i := 3) rfl)) (by decide) (by decide)) qa441 qc441 (g := (mkF m 226 #[.val (.int i0), .val (.int i1), .val (.int i2), .val (.int i3), .val (.int i4), .val (.int (Int32.ofNat de)), .val (.int (Int32.ofNat nu)), .val (.int (Int32.ofNat ep)), .val (.int r1), .val (.int l1), .val (.int v1), .val (.int w1), .val (.int tf), .val (.int ai), .val (.int cp), .val (.int tl), .val (.int tr), .val (.ref a405), .val (.int (Int32.ofNat 0)), .val (.int (Int32.ofNat 1)), .unset, .unset] [(.int (Int32.ofNat de)), (.int (0 : Int32)), (.int l1), (.ref a405)])) rfl (by rw [hml]; rfl) (Steps.refl _) (argsL := [(.int l1), (.int (0 : Int32)), (.int (Int32.ofNat de))]) (rest := []) (lenOf own_pd4 rfl) rfl (by show 2 * 0 + _ ≤ _; exact Nat.le_of_eq rfl) (hb hby at_226) (fun _ _ => ⟨rfl, (rfl : T436.heap = T436.heap), (by decide : 13 + 3 ≤ _), (by decide : 141 + 48 ≤ _)⟩)
    dsimp only [Pt.U, Pt.locs, Pt.cells, Pt.slots] at X440 l440 y440 z440 st440 hQ440
    subst l440 y440 z440
    refine own_tr st440 ?_
    obtain ⟨rfl, N440, cap440, u440, v440, G440⟩ := hQ440
    obtain ⟨L440, X440, M440⟩ := own_hide X440 (Fr.app M436 N440)
    obtain ⟨lq440, hlq440⟩ : ∃ f : Nat → Int32, f = (fun i => if i = 2 then l1 else lq436 i) := ⟨_, rfl⟩
    obtain ⟨rq440, hrq440⟩ : ∃ f : Nat → Int32, f = (fun i => if i = 2 then (0 : Int32) else rq436 i) := ⟨_, rfl⟩
    obtain ⟨cq440, hcq440⟩ : ∃ f : Nat → Int32, f = (fun i => if i = 2 then Int32.ofNat de else cq436 i) := ⟨_, rfl⟩
    rw [← hlq440, ← hrq440, ← hcq440] at G440
    obtain ⟨oq440, hoq440⟩ : ∃ f : Nat → Int32, f = (fun i => if i = de then Int32.ofNat 2 else O431 i) := ⟨_, rfl⟩
    rw [← hoq440] at G440
    have oA : oq440 de = Int32.ofNat 2 := by rw [hoq440]; simp only [if_true]
    have oB : ∀ q, ¬ q = de → oq440 q = O431 q := fun q hq => by rw [hoq440]; simp only [if_neg hq]
    have GE442 : Exa Z T440.heap a405 "com/example/lambdalane/lambdalane/NodeGraph" := by obtain ⟨_, _, _, _, _, _, _, _, ⟨q, -⟩, -⟩ := G440; exact q
    show own_Go p e below _ (T440.setTop (mkF m 229 #[.val (.int i0), .val (.int i1), .val (.int i2), .val (.int i3), .val (.int i4), .val (.int (Int32.ofNat de)), .val (.int (Int32.ofNat nu)), .val (.int (Int32.ofNat ep)), .val (.int r1), .val (.int l1), .val (.int v1), .val (.int w1), .val (.int tf), .val (.int ai), .val (.int cp), .val (.int tl), .val (.int tr), .val (.ref a405), .val (.int (Int32.ofNat 0)), .val (.int (Int32.ofNat 1)), .unset, .unset] [(.int (Int32.ofNat 2))]))
    refine own_by (fun _ kont => XS.istore X440.here hx rfl (hb hby at_229) rfl (l' := #[.val (.int i0), .val (.int i1), .val (.int i2), .val (.int i3), .val (.int i4), .val (.int (Int32.ofNat de)), .val (.int (Int32.ofNat nu)), .val (.int (Int32.ofNat ep)), .val (.int r1), .val (.int l1), .val (.int v1), .val (.int w1), .val (.int tf), .val (.int ai), .val (.int cp), .val (.int tl), .val (.int tr), .val (.ref a405), .val (.int (Int32.ofNat 0)), .val (.int (Int32.ofNat 1)), .val (.int (Int32.ofNat 2)), .unset]) rfl kont) ?_
    show own_Go p e below _ (T440.setTop (mkF m 231 #[.val (.int i0), .val (.int i1), .val (.int i2), .val (.int i3), .val (.int i4), .val (.int (Int32.ofNat de)), .val (.int (Int32.ofNat nu)), .val (.int (Int32.ofNat ep)), .val (.int r1), .val (.int l1), .val (.int v1), .val (.int w1), .val (.int tf), .val (.int ai), .val (.int cp), .val (.int tl), .val (.int tr), .val (.ref a405), .val (.int (Int32.ofNat 0)), .val (.int (Int32.ofNat 1)), .val (.int (Int32.ofNat 2)), .unset] []))
    refine own_by (fun _ kont => XS.iload X440.here hx rfl (hb hby at_231) rfl kont) ?_
    show own_Go p e below _ (T440.setTop (mkF m 233 #[.val (.int i0), .val (.int i1), .val (.int i2), .val (.int i3), .val (.int i4), .val (.int (Int32.ofNat de)), .val (.int (Int32.ofNat nu)), .val (.int (Int32.ofNat ep)), .val (.int r1), .val (.int l1), .val (.int v1), .val (.int w1), .val (.int tf), .val (.int ai), .val (.int cp), .val (.int tl), .val (.int tr), .val (.ref a405), .val (.int (Int32.ofNat 0)), .val (.int (Int32.ofNat 1)), .val (.int (Int32.ofNat 2)), .unset] [(.int tf)]))
    refine own_by (fun _ kont => XS.ifYes X440.here hx rfl (pc0 := 233) (pc' := 249) rfl (hb hby at_233) rfl (XT.i0_ne_t htf) (by decide) (by decide) kont) ?_
    show own_Go p e below _ (T440.setTop (mkF m 249 #[.val (.int i0), .val (.int i1), .val (.int i2), .val (.int i3), .val (.int i4), .val (.int (Int32.ofNat de)), .val (.int (Int32.ofNat nu)), .val (.int (Int32.ofNat ep)), .val (.int r1), .val (.int l1), .val (.int v1), .val (.int w1), .val (.int tf), .val (.int ai), .val (.int cp), .val (.int tl), .val (.int tr), .val (.ref a405), .val (.int (Int32.ofNat 0)), .val (.int (Int32.ofNat 1)), .val (.int (Int32.ofNat 2)), .unset] []))
    have hen : own_en ep 0 ai iq436 oq440 := by
      rcases hen431 with q | ⟨q1, q2, q3, q4⟩ | ⟨q1, q2, q3, q4⟩
      · exact Or.inl q
      · exact Or.inr (Or.inl ⟨q1, q2, (iB ep (fun z => hx0 z.symm)).trans q3, (oB ep (fun z => hx0 z.symm)).trans q4⟩)
      · exact Or.inr (Or.inr ⟨q1, q2, (oB ep (fun z => hx0 z.symm)).trans q3, (iB ep (fun z => hx0 z.symm)).trans q4⟩)
    exact own_e249 X440 hx hby hlk hret hZ hown hw hml M440 (rfl : T440.heap = T440.heap) i0 i1 i2 i3 i4 r1 l1 v1 w1 tf ai cp tl tr _ a405 de nu ep 0 1 2 cap440 lq440 rq440 cq440 iq436 oq440 G440 (by omega) (by omega) d1 d7 u1 u7 e7 hdn hed (by omega) (by omega) (by omega) (by omega) (by omega) (by simp [hcq432, hcq436, hcq440]) (by simp [hcq432, hcq436, hcq440]) iA oA ((iB nu (fun z => hdn z.symm)).trans (hoth431 nu hx1).1) hen
theorem own_r7 (a : Int32) : ∃ k : Nat, 1 ≤ k ∧ k ≤ 7 ∧ ((1 : Int32) + ((a &&& (2147483647 : Int32)) - ((a &&& (2147483647 : Int32)) / (7 : Int32)) * (7 : Int32))) = Int32.ofNat k := by
  have h := own_rem (x := a &&& 2147483647) (m := 7) (own_and 2147483647 (by decide) rfl).1 (by decide)
  have h7 : (7 : Int32).toInt = 7 := by decide
  have h1 : (1 : Int32).toInt = 1 := by decide
  rw [h7] at h
  generalize (a &&& (2147483647 : Int32)) - ((a &&& (2147483647 : Int32)) / (7 : Int32)) * (7 : Int32) = z at h
  have e : ((1 : Int32) + z).toInt = 1 + z.toInt := by rw [XT.add32 (by rw [h1]; constructor <;> omega), h1]
  exact ⟨(1 + z.toInt).toNat, by omega, by omega, own_of (by rw [e]; omega)⟩
theorem own_nn (b : Int32) (de : Nat) (d1 : 1 ≤ de) (d7 : de ≤ 7) : ∃ k : Nat, 1 ≤ k ∧ k ≤ 7 ∧ ¬ de = k ∧ ((1 : Int32) + ((Int32.ofNat de + ((b &&& (2147483647 : Int32)) - ((b &&& (2147483647 : Int32)) / (6 : Int32)) * (6 : Int32))) - ((Int32.ofNat de + ((b &&& (2147483647 : Int32)) - ((b &&& (2147483647 : Int32)) / (6 : Int32)) * (6 : Int32))) / (7 : Int32)) * (7 : Int32))) = Int32.ofNat k := by
  have h := own_rem (x := b &&& 2147483647) (m := 6) (own_and 2147483647 (by decide) rfl).1 (by decide)
  have h6 : (6 : Int32).toInt = 6 := by decide
  have h7 : (7 : Int32).toInt = 7 := by decide
  have h1 : (1 : Int32).toInt = 1 := by decide
  rw [h6] at h
  generalize (b &&& (2147483647 : Int32)) - ((b &&& (2147483647 : Int32)) / (6 : Int32)) * (6 : Int32) = y at h
  have hd := own_i (k := de) (by omega)
  have es : (Int32.ofNat de + y).toInt = de + y.toInt := by rw [XT.add32 (by rw [hd]; constructor <;> omega), hd]
  generalize Int32.ofNat de + y = w at es
  have hr := own_rem_eq (x := w) (m := 7) (by omega) (by decide)
  rw [h7, es] at hr
  generalize w - (w / (7 : Int32)) * (7 : Int32) = z at hr
  have e : ((1 : Int32) + z).toInt = 1 + z.toInt := by rw [XT.add32 (by rw [h1]; constructor <;> omega), h1]
  exact ⟨(1 + z.toInt).toNat, by omega, by omega, by omega, own_of (by rw [e]; omega)⟩
theorem own_r8 (a : Int32) : ∃ k : Nat, k ≤ 7 ∧ ((a &&& (2147483647 : Int32)) - ((a &&& (2147483647 : Int32)) / (8 : Int32)) * (8 : Int32)) = Int32.ofNat k := by
  have h := own_rem (x := a &&& 2147483647) (m := 8) (own_and 2147483647 (by decide) rfl).1 (by decide)
  have h8 : (8 : Int32).toInt = 8 := by decide
  rw [h8] at h
  generalize (a &&& (2147483647 : Int32)) - ((a &&& (2147483647 : Int32)) / (8 : Int32)) * (8 : Int32) = z at h
  exact ⟨z.toInt.toNat, by omega, own_of (by omega)⟩
theorem own_r3 (x : Int32) : ¬ ((1 : Int32) + ((x &&& (3 : Int32)) - ((x &&& (3 : Int32)) / (3 : Int32)) * (3 : Int32))) = 0 := fun q => by
  have h := own_rem (x := x &&& 3) (m := 3) (own_and 3 (by decide) rfl).1 (by decide)
  have h3 : (3 : Int32).toInt = 3 := by decide
  have h1 : (1 : Int32).toInt = 1 := by decide
  have h0 : (0 : Int32).toInt = 0 := by decide
  rw [h3] at h
  generalize (x &&& (3 : Int32)) - ((x &&& (3 : Int32)) / (3 : Int32)) * (3 : Int32) = z at h q
  have e : ((1 : Int32) + z).toInt = 1 + z.toInt := by rw [XT.add32 (by rw [h1]; constructor <;> omega), h1]
  rw [q, h0] at e
  omega
theorem own_ef_rmL (m : MethodId) (i0 : Int32) (i1 : Int32) (i2 : Int32) (i3 : Int32) (i4 : Int32) : entryFrame m #[(.int i0), (.int i1), (.int i2), (.int i3), (.int i4)] maxLocals = (mkF m 0 #[.val (.int i0), .val (.int i1), .val (.int i2), .val (.int i3), .val (.int i4), .unset, .unset, .unset, .unset, .unset, .unset, .unset, .unset, .unset, .unset, .unset, .unset, .unset, .unset, .unset, .unset, .unset] []) := by first | (simp [entryFrame, mkF, argsToLocals, Value.category, maxLocals]; done) | rfl
set_option maxRecDepth 65536 in
set_option maxHeartbeats 40000000 in
theorem rmL (l : Launch) (Z : State) (a0 : Array Value) (hw : ∀ d ∈ tables_1, d.before a0 Z = true) (ws : List Jvm.Cond) (i0 : Int32) (i1 : Int32) (i2 : Int32) (i3 : Int32) (i4 : Int32) (h0 : Heap) (n0 : Nat) (Z0 : n0 ≤ h0.size) :
    MetFree l x (head1 (Jvm.Cond.code x code maxLocals ret :: ws) room_1) (fun aR UR => aR = #[(.int i0), (.int i1), (.int i2), (.int i3), (.int i4)] ∧ Z.Warmed39 UR.vm ∧ UR.heap = h0) (fun _ _ _ _ _ => True) (fun _ UR oR UR' => ∃ vR LR, oR = .returned vR ∧ own_Q_rmL Z  n0 vR UR'.heap LR ∧ FrameEnd UR oR UR' LR room_1.cells room_1.slots) := by
  refine MetFree.of_bodySF (plainFor_of_name own_pn11) hisR ?_
  intro p e s m args below meth c s₁ Bd hml0 hP hK
  obtain ⟨rfl, hZ, hh⟩ := hP
  have hx := Bd.exec
  have hby := Bd.bytes
  have hlk := Bd.notSynchronized
  have hret := Bd.returns
  have hml : c.maxLocals = 22 := hml0
  have hown : s.vm.findClass "com/example/lambdalane/lambdalane/NodeGraphRecolourOutEdgePinLaw" = some m.cls := findClass_of_methodNamed Bd.named
  have hnm := (name_of_methodNamed Bd.named Bd.method).1
  have X0 : Stand p l e room_1 s m #[(.int i0), (.int i1), (.int i2), (.int i3), (.int i4)] below meth c s₁ [] 0 0 := Stand.of_body Bd
  have e0 : s₁.heap = h0 := by rw [← hh, Bd.state]; rfl
  have N0 := Fr.nil n0
  show own_Go p e below (own_K s (own_Q_rmL Z  n0) room_1.cells room_1.slots) _
  refine own_by (fun tt kont => castTop (own_ef_rmL m i0 i1 i2 i3 i4) kont) ?_
  show own_Go p e below _ (s₁.setTop (mkF m 0 #[.val (.int i0), .val (.int i1), .val (.int i2), .val (.int i3), .val (.int i4), .unset, .unset, .unset, .unset, .unset, .unset, .unset, .unset, .unset, .unset, .unset, .unset, .unset, .unset, .unset, .unset, .unset] []))
  refine own_by (fun _ kont => XT.iconstV X0.here hx rfl (1 : Int32) (hb hby at_0) rfl kont) ?_
  show own_Go p e below _ (s₁.setTop (mkF m 1 #[.val (.int i0), .val (.int i1), .val (.int i2), .val (.int i3), .val (.int i4), .unset, .unset, .unset, .unset, .unset, .unset, .unset, .unset, .unset, .unset, .unset, .unset, .unset, .unset, .unset, .unset, .unset] [(.int (1 : Int32))]))
  refine own_by (fun _ kont => XS.iloadN X0.here hx rfl (hb hby at_1) rfl kont) ?_
  show own_Go p e below _ (s₁.setTop (mkF m 2 #[.val (.int i0), .val (.int i1), .val (.int i2), .val (.int i3), .val (.int i4), .unset, .unset, .unset, .unset, .unset, .unset, .unset, .unset, .unset, .unset, .unset, .unset, .unset, .unset, .unset, .unset, .unset] [(.int i0), (.int (1 : Int32))]))
  refine own_by (fun _ kont => X0.ldcI hx hown (v := (2147483647 : Int32)) (mvT hZ (hw _ (List.mem_of_getElem? (i := 0) rfl))) rfl (hb hby at_2) kont) ?_
  show own_Go p e below _ (s₁.setTop (mkF m 4 #[.val (.int i0), .val (.int i1), .val (.int i2), .val (.int i3), .val (.int i4), .unset, .unset, .unset, .unset, .unset, .unset, .unset, .unset, .unset, .unset, .unset, .unset, .unset, .unset, .unset, .unset, .unset] [(.int (2147483647 : Int32)), (.int i0), (.int (1 : Int32))]))
  refine own_by (fun _ kont => XS.iand X0.here hx rfl (hb hby at_4) rfl kont) ?_
  show own_Go p e below _ (s₁.setTop (mkF m 5 #[.val (.int i0), .val (.int i1), .val (.int i2), .val (.int i3), .val (.int i4), .unset, .unset, .unset, .unset, .unset, .unset, .unset, .unset, .unset, .unset, .unset, .unset, .unset, .unset, .unset, .unset, .unset] [(.int (i0 &&& (2147483647 : Int32))), (.int (1 : Int32))]))
  refine own_by (fun _ kont => XT.bipushV X0.here hx rfl (7 : Int32) (hb hby at_5) rfl kont) ?_
  show own_Go p e below _ (s₁.setTop (mkF m 7 #[.val (.int i0), .val (.int i1), .val (.int i2), .val (.int i3), .val (.int i4), .unset, .unset, .unset, .unset, .unset, .unset, .unset, .unset, .unset, .unset, .unset, .unset, .unset, .unset, .unset, .unset, .unset] [(.int (7 : Int32)), (.int (i0 &&& (2147483647 : Int32))), (.int (1 : Int32))]))
  refine own_by (fun _ kont => XS.irem X0.here hx rfl (hb hby at_7) rfl (by decide) kont) ?_
  show own_Go p e below _ (s₁.setTop (mkF m 8 #[.val (.int i0), .val (.int i1), .val (.int i2), .val (.int i3), .val (.int i4), .unset, .unset, .unset, .unset, .unset, .unset, .unset, .unset, .unset, .unset, .unset, .unset, .unset, .unset, .unset, .unset, .unset] [(.int ((i0 &&& (2147483647 : Int32)) - ((i0 &&& (2147483647 : Int32)) / (7 : Int32)) * (7 : Int32))), (.int (1 : Int32))]))
  refine own_by (fun _ kont => XS.iadd X0.here hx rfl (hb hby at_8) rfl kont) ?_
  show own_Go p e below _ (s₁.setTop (mkF m 9 #[.val (.int i0), .val (.int i1), .val (.int i2), .val (.int i3), .val (.int i4), .unset, .unset, .unset, .unset, .unset, .unset, .unset, .unset, .unset, .unset, .unset, .unset, .unset, .unset, .unset, .unset, .unset] [(.int ((1 : Int32) + ((i0 &&& (2147483647 : Int32)) - ((i0 &&& (2147483647 : Int32)) / (7 : Int32)) * (7 : Int32))))]))
  obtain ⟨de, d1, d7, hde⟩ := own_r7 i0
  rw [show ((1 : Int32) + ((i0 &&& (2147483647 : Int32)) - ((i0 &&& (2147483647 : Int32)) / (7 : Int32)) * (7 : Int32))) = (Int32.ofNat de) from hde]
  show own_Go p e below _ (s₁.setTop (mkF m 9 #[.val (.int i0), .val (.int i1), .val (.int i2), .val (.int i3), .val (.int i4), .unset, .unset, .unset, .unset, .unset, .unset, .unset, .unset, .unset, .unset, .unset, .unset, .unset, .unset, .unset, .unset, .unset] [(.int (Int32.ofNat de))]))
  refine own_by (fun _ kont => XS.istore X0.here hx rfl (hb hby at_9) rfl (l' := #[.val (.int i0), .val (.int i1), .val (.int i2), .val (.int i3), .val (.int i4), .val (.int (Int32.ofNat de)), .unset, .unset, .unset, .unset, .unset, .unset, .unset, .unset, .unset, .unset, .unset, .unset, .unset, .unset, .unset, .unset]) rfl kont) ?_
  show own_Go p e below _ (s₁.setTop (mkF m 11 #[.val (.int i0), .val (.int i1), .val (.int i2), .val (.int i3), .val (.int i4), .val (.int (Int32.ofNat de)), .unset, .unset, .unset, .unset, .unset, .unset, .unset, .unset, .unset, .unset, .unset, .unset, .unset, .unset, .unset, .unset] []))
  refine own_by (fun _ kont => XT.iconstV X0.here hx rfl (1 : Int32) (hb hby at_11) rfl kont) ?_
  show own_Go p e below _ (s₁.setTop (mkF m 12 #[.val (.int i0), .val (.int i1), .val (.int i2), .val (.int i3), .val (.int i4), .val (.int (Int32.ofNat de)), .unset, .unset, .unset, .unset, .unset, .unset, .unset, .unset, .unset, .unset, .unset, .unset, .unset, .unset, .unset, .unset] [(.int (1 : Int32))]))
  refine own_by (fun _ kont => XS.iload X0.here hx rfl (hb hby at_12) rfl kont) ?_
  show own_Go p e below _ (s₁.setTop (mkF m 14 #[.val (.int i0), .val (.int i1), .val (.int i2), .val (.int i3), .val (.int i4), .val (.int (Int32.ofNat de)), .unset, .unset, .unset, .unset, .unset, .unset, .unset, .unset, .unset, .unset, .unset, .unset, .unset, .unset, .unset, .unset] [(.int (Int32.ofNat de)), (.int (1 : Int32))]))
  refine own_by (fun _ kont => XS.iloadN X0.here hx rfl (hb hby at_14) rfl kont) ?_
  show own_Go p e below _ (s₁.setTop (mkF m 15 #[.val (.int i0), .val (.int i1), .val (.int i2), .val (.int i3), .val (.int i4), .val (.int (Int32.ofNat de)), .unset, .unset, .unset, .unset, .unset, .unset, .unset, .unset, .unset, .unset, .unset, .unset, .unset, .unset, .unset, .unset] [(.int i1), (.int (Int32.ofNat de)), (.int (1 : Int32))]))
  refine own_by (fun _ kont => X0.ldcI hx hown (v := (2147483647 : Int32)) (mvT hZ (hw _ (List.mem_of_getElem? (i := 0) rfl))) rfl (hb hby at_15) kont) ?_
  show own_Go p e below _ (s₁.setTop (mkF m 17 #[.val (.int i0), .val (.int i1), .val (.int i2), .val (.int i3), .val (.int i4), .val (.int (Int32.ofNat de)), .unset, .unset, .unset, .unset, .unset, .unset, .unset, .unset, .unset, .unset, .unset, .unset, .unset, .unset, .unset, .unset] [(.int (2147483647 : Int32)), (.int i1), (.int (Int32.ofNat de)), (.int (1 : Int32))]))
  refine own_by (fun _ kont => XS.iand X0.here hx rfl (hb hby at_17) rfl kont) ?_
  show own_Go p e below _ (s₁.setTop (mkF m 18 #[.val (.int i0), .val (.int i1), .val (.int i2), .val (.int i3), .val (.int i4), .val (.int (Int32.ofNat de)), .unset, .unset, .unset, .unset, .unset, .unset, .unset, .unset, .unset, .unset, .unset, .unset, .unset, .unset, .unset, .unset] [(.int (i1 &&& (2147483647 : Int32))), (.int (Int32.ofNat de)), (.int (1 : Int32))]))
  refine own_by (fun _ kont => XT.bipushV X0.here hx rfl (6 : Int32) (hb hby at_18) rfl kont) ?_
  show own_Go p e below _ (s₁.setTop (mkF m 20 #[.val (.int i0), .val (.int i1), .val (.int i2), .val (.int i3), .val (.int i4), .val (.int (Int32.ofNat de)), .unset, .unset, .unset, .unset, .unset, .unset, .unset, .unset, .unset, .unset, .unset, .unset, .unset, .unset, .unset, .unset] [(.int (6 : Int32)), (.int (i1 &&& (2147483647 : Int32))), (.int (Int32.ofNat de)), (.int (1 : Int32))]))
  refine own_by (fun _ kont => XS.irem X0.here hx rfl (hb hby at_20) rfl (by decide) kont) ?_
  show own_Go p e below _ (s₁.setTop (mkF m 21 #[.val (.int i0), .val (.int i1), .val (.int i2), .val (.int i3), .val (.int i4), .val (.int (Int32.ofNat de)), .unset, .unset, .unset, .unset, .unset, .unset, .unset, .unset, .unset, .unset, .unset, .unset, .unset, .unset, .unset, .unset] [(.int ((i1 &&& (2147483647 : Int32)) - ((i1 &&& (2147483647 : Int32)) / (6 : Int32)) * (6 : Int32))), (.int (Int32.ofNat de)), (.int (1 : Int32))]))
  refine own_by (fun _ kont => XS.iadd X0.here hx rfl (hb hby at_21) rfl kont) ?_
  show own_Go p e below _ (s₁.setTop (mkF m 22 #[.val (.int i0), .val (.int i1), .val (.int i2), .val (.int i3), .val (.int i4), .val (.int (Int32.ofNat de)), .unset, .unset, .unset, .unset, .unset, .unset, .unset, .unset, .unset, .unset, .unset, .unset, .unset, .unset, .unset, .unset] [(.int ((Int32.ofNat de) + ((i1 &&& (2147483647 : Int32)) - ((i1 &&& (2147483647 : Int32)) / (6 : Int32)) * (6 : Int32)))), (.int (1 : Int32))]))
  refine own_by (fun _ kont => XT.bipushV X0.here hx rfl (7 : Int32) (hb hby at_22) rfl kont) ?_
  show own_Go p e below _ (s₁.setTop (mkF m 24 #[.val (.int i0), .val (.int i1), .val (.int i2), .val (.int i3), .val (.int i4), .val (.int (Int32.ofNat de)), .unset, .unset, .unset, .unset, .unset, .unset, .unset, .unset, .unset, .unset, .unset, .unset, .unset, .unset, .unset, .unset] [(.int (7 : Int32)), (.int ((Int32.ofNat de) + ((i1 &&& (2147483647 : Int32)) - ((i1 &&& (2147483647 : Int32)) / (6 : Int32)) * (6 : Int32)))), (.int (1 : Int32))]))
  refine own_by (fun _ kont => XS.irem X0.here hx rfl (hb hby at_24) rfl (by decide) kont) ?_
  show own_Go p e below _ (s₁.setTop (mkF m 25 #[.val (.int i0), .val (.int i1), .val (.int i2), .val (.int i3), .val (.int i4), .val (.int (Int32.ofNat de)), .unset, .unset, .unset, .unset, .unset, .unset, .unset, .unset, .unset, .unset, .unset, .unset, .unset, .unset, .unset, .unset] [(.int (((Int32.ofNat de) + ((i1 &&& (2147483647 : Int32)) - ((i1 &&& (2147483647 : Int32)) / (6 : Int32)) * (6 : Int32))) - (((Int32.ofNat de) + ((i1 &&& (2147483647 : Int32)) - ((i1 &&& (2147483647 : Int32)) / (6 : Int32)) * (6 : Int32))) / (7 : Int32)) * (7 : Int32))), (.int (1 : Int32))]))
  refine own_by (fun _ kont => XS.iadd X0.here hx rfl (hb hby at_25) rfl kont) ?_
  show own_Go p e below _ (s₁.setTop (mkF m 26 #[.val (.int i0), .val (.int i1), .val (.int i2), .val (.int i3), .val (.int i4), .val (.int (Int32.ofNat de)), .unset, .unset, .unset, .unset, .unset, .unset, .unset, .unset, .unset, .unset, .unset, .unset, .unset, .unset, .unset, .unset] [(.int ((1 : Int32) + (((Int32.ofNat de) + ((i1 &&& (2147483647 : Int32)) - ((i1 &&& (2147483647 : Int32)) / (6 : Int32)) * (6 : Int32))) - (((Int32.ofNat de) + ((i1 &&& (2147483647 : Int32)) - ((i1 &&& (2147483647 : Int32)) / (6 : Int32)) * (6 : Int32))) / (7 : Int32)) * (7 : Int32))))]))
  obtain ⟨nu, u1, u7, hdn, hnu⟩ := own_nn i1 de d1 d7
  rw [show ((1 : Int32) + (((Int32.ofNat de) + ((i1 &&& (2147483647 : Int32)) - ((i1 &&& (2147483647 : Int32)) / (6 : Int32)) * (6 : Int32))) - (((Int32.ofNat de) + ((i1 &&& (2147483647 : Int32)) - ((i1 &&& (2147483647 : Int32)) / (6 : Int32)) * (6 : Int32))) / (7 : Int32)) * (7 : Int32))) = (Int32.ofNat nu) from hnu]
  show own_Go p e below _ (s₁.setTop (mkF m 26 #[.val (.int i0), .val (.int i1), .val (.int i2), .val (.int i3), .val (.int i4), .val (.int (Int32.ofNat de)), .unset, .unset, .unset, .unset, .unset, .unset, .unset, .unset, .unset, .unset, .unset, .unset, .unset, .unset, .unset, .unset] [(.int (Int32.ofNat nu))]))
  refine own_by (fun _ kont => XS.istore X0.here hx rfl (hb hby at_26) rfl (l' := #[.val (.int i0), .val (.int i1), .val (.int i2), .val (.int i3), .val (.int i4), .val (.int (Int32.ofNat de)), .val (.int (Int32.ofNat nu)), .unset, .unset, .unset, .unset, .unset, .unset, .unset, .unset, .unset, .unset, .unset, .unset, .unset, .unset, .unset]) rfl kont) ?_
  show own_Go p e below _ (s₁.setTop (mkF m 28 #[.val (.int i0), .val (.int i1), .val (.int i2), .val (.int i3), .val (.int i4), .val (.int (Int32.ofNat de)), .val (.int (Int32.ofNat nu)), .unset, .unset, .unset, .unset, .unset, .unset, .unset, .unset, .unset, .unset, .unset, .unset, .unset, .unset, .unset] []))
  refine own_by (fun _ kont => XS.iloadN X0.here hx rfl (hb hby at_28) rfl kont) ?_
  show own_Go p e below _ (s₁.setTop (mkF m 29 #[.val (.int i0), .val (.int i1), .val (.int i2), .val (.int i3), .val (.int i4), .val (.int (Int32.ofNat de)), .val (.int (Int32.ofNat nu)), .unset, .unset, .unset, .unset, .unset, .unset, .unset, .unset, .unset, .unset, .unset, .unset, .unset, .unset, .unset] [(.int i2)]))
  refine own_by (fun _ kont => X0.ldcI hx hown (v := (2147483647 : Int32)) (mvT hZ (hw _ (List.mem_of_getElem? (i := 0) rfl))) rfl (hb hby at_29) kont) ?_
  show own_Go p e below _ (s₁.setTop (mkF m 31 #[.val (.int i0), .val (.int i1), .val (.int i2), .val (.int i3), .val (.int i4), .val (.int (Int32.ofNat de)), .val (.int (Int32.ofNat nu)), .unset, .unset, .unset, .unset, .unset, .unset, .unset, .unset, .unset, .unset, .unset, .unset, .unset, .unset, .unset] [(.int (2147483647 : Int32)), (.int i2)]))
  refine own_by (fun _ kont => XS.iand X0.here hx rfl (hb hby at_31) rfl kont) ?_
  show own_Go p e below _ (s₁.setTop (mkF m 32 #[.val (.int i0), .val (.int i1), .val (.int i2), .val (.int i3), .val (.int i4), .val (.int (Int32.ofNat de)), .val (.int (Int32.ofNat nu)), .unset, .unset, .unset, .unset, .unset, .unset, .unset, .unset, .unset, .unset, .unset, .unset, .unset, .unset, .unset] [(.int (i2 &&& (2147483647 : Int32)))]))
  refine own_by (fun _ kont => XT.bipushV X0.here hx rfl (8 : Int32) (hb hby at_32) rfl kont) ?_
  show own_Go p e below _ (s₁.setTop (mkF m 34 #[.val (.int i0), .val (.int i1), .val (.int i2), .val (.int i3), .val (.int i4), .val (.int (Int32.ofNat de)), .val (.int (Int32.ofNat nu)), .unset, .unset, .unset, .unset, .unset, .unset, .unset, .unset, .unset, .unset, .unset, .unset, .unset, .unset, .unset] [(.int (8 : Int32)), (.int (i2 &&& (2147483647 : Int32)))]))
  refine own_by (fun _ kont => XS.irem X0.here hx rfl (hb hby at_34) rfl (by decide) kont) ?_
  show own_Go p e below _ (s₁.setTop (mkF m 35 #[.val (.int i0), .val (.int i1), .val (.int i2), .val (.int i3), .val (.int i4), .val (.int (Int32.ofNat de)), .val (.int (Int32.ofNat nu)), .unset, .unset, .unset, .unset, .unset, .unset, .unset, .unset, .unset, .unset, .unset, .unset, .unset, .unset, .unset] [(.int ((i2 &&& (2147483647 : Int32)) - ((i2 &&& (2147483647 : Int32)) / (8 : Int32)) * (8 : Int32)))]))
  obtain ⟨ex, x7, hex⟩ := own_r8 i2
  rw [show ((i2 &&& (2147483647 : Int32)) - ((i2 &&& (2147483647 : Int32)) / (8 : Int32)) * (8 : Int32)) = (Int32.ofNat ex) from hex]
  show own_Go p e below _ (s₁.setTop (mkF m 35 #[.val (.int i0), .val (.int i1), .val (.int i2), .val (.int i3), .val (.int i4), .val (.int (Int32.ofNat de)), .val (.int (Int32.ofNat nu)), .unset, .unset, .unset, .unset, .unset, .unset, .unset, .unset, .unset, .unset, .unset, .unset, .unset, .unset, .unset] [(.int (Int32.ofNat ex))]))
  refine own_by (fun _ kont => XS.istore X0.here hx rfl (hb hby at_35) rfl (l' := #[.val (.int i0), .val (.int i1), .val (.int i2), .val (.int i3), .val (.int i4), .val (.int (Int32.ofNat de)), .val (.int (Int32.ofNat nu)), .val (.int (Int32.ofNat ex)), .unset, .unset, .unset, .unset, .unset, .unset, .unset, .unset, .unset, .unset, .unset, .unset, .unset, .unset]) rfl kont) ?_
  show own_Go p e below _ (s₁.setTop (mkF m 37 #[.val (.int i0), .val (.int i1), .val (.int i2), .val (.int i3), .val (.int i4), .val (.int (Int32.ofNat de)), .val (.int (Int32.ofNat nu)), .val (.int (Int32.ofNat ex)), .unset, .unset, .unset, .unset, .unset, .unset, .unset, .unset, .unset, .unset, .unset, .unset, .unset, .unset] []))
  refine own_by (fun _ kont => XS.iload X0.here hx rfl (hb hby at_37) rfl kont) ?_
  show own_Go p e below _ (s₁.setTop (mkF m 39 #[.val (.int i0), .val (.int i1), .val (.int i2), .val (.int i3), .val (.int i4), .val (.int (Int32.ofNat de)), .val (.int (Int32.ofNat nu)), .val (.int (Int32.ofNat ex)), .unset, .unset, .unset, .unset, .unset, .unset, .unset, .unset, .unset, .unset, .unset, .unset, .unset, .unset] [(.int (Int32.ofNat ex))]))
  refine own_by (fun _ kont => XS.iload X0.here hx rfl (hb hby at_39) rfl kont) ?_
  show own_Go p e below _ (s₁.setTop (mkF m 41 #[.val (.int i0), .val (.int i1), .val (.int i2), .val (.int i3), .val (.int i4), .val (.int (Int32.ofNat de)), .val (.int (Int32.ofNat nu)), .val (.int (Int32.ofNat ex)), .unset, .unset, .unset, .unset, .unset, .unset, .unset, .unset, .unset, .unset, .unset, .unset, .unset, .unset] [(.int (Int32.ofNat de)), (.int (Int32.ofNat ex))]))
  have key : ∀ ep : Nat, ep ≤ 7 → (ep = 0 ∨ (¬ ep = de ∧ ¬ ep = nu)) → own_Go p e below (own_K s (own_Q_rmL Z  n0) room_1.cells room_1.slots) (s₁.setTop (mkF m 54 #[.val (.int i0), .val (.int i1), .val (.int i2), .val (.int i3), .val (.int i4), .val (.int (Int32.ofNat de)), .val (.int (Int32.ofNat nu)), .val (.int (Int32.ofNat ep)), .unset, .unset, .unset, .unset, .unset, .unset, .unset, .unset, .unset, .unset, .unset, .unset, .unset, .unset] [])) := by
    intro ep e7 hed
    refine own_by (fun _ kont => XT.iconstV X0.here hx rfl (1 : Int32) (hb hby at_54) rfl kont) ?_
    show own_Go p e below _ (s₁.setTop (mkF m 55 #[.val (.int i0), .val (.int i1), .val (.int i2), .val (.int i3), .val (.int i4), .val (.int (Int32.ofNat de)), .val (.int (Int32.ofNat nu)), .val (.int (Int32.ofNat ep)), .unset, .unset, .unset, .unset, .unset, .unset, .unset, .unset, .unset, .unset, .unset, .unset, .unset, .unset] [(.int (1 : Int32))]))
    refine own_by (fun _ kont => XS.iloadN X0.here hx rfl (hb hby at_55) rfl kont) ?_
    show own_Go p e below _ (s₁.setTop (mkF m 56 #[.val (.int i0), .val (.int i1), .val (.int i2), .val (.int i3), .val (.int i4), .val (.int (Int32.ofNat de)), .val (.int (Int32.ofNat nu)), .val (.int (Int32.ofNat ep)), .unset, .unset, .unset, .unset, .unset, .unset, .unset, .unset, .unset, .unset, .unset, .unset, .unset, .unset] [(.int i3), (.int (1 : Int32))]))
    refine own_by (fun _ kont => XT.iconstV X0.here hx rfl (3 : Int32) (hb hby at_56) rfl kont) ?_
    show own_Go p e below _ (s₁.setTop (mkF m 57 #[.val (.int i0), .val (.int i1), .val (.int i2), .val (.int i3), .val (.int i4), .val (.int (Int32.ofNat de)), .val (.int (Int32.ofNat nu)), .val (.int (Int32.ofNat ep)), .unset, .unset, .unset, .unset, .unset, .unset, .unset, .unset, .unset, .unset, .unset, .unset, .unset, .unset] [(.int (3 : Int32)), (.int i3), (.int (1 : Int32))]))
    refine own_by (fun _ kont => XS.iand X0.here hx rfl (hb hby at_57) rfl kont) ?_
    show own_Go p e below _ (s₁.setTop (mkF m 58 #[.val (.int i0), .val (.int i1), .val (.int i2), .val (.int i3), .val (.int i4), .val (.int (Int32.ofNat de)), .val (.int (Int32.ofNat nu)), .val (.int (Int32.ofNat ep)), .unset, .unset, .unset, .unset, .unset, .unset, .unset, .unset, .unset, .unset, .unset, .unset, .unset, .unset] [(.int (i3 &&& (3 : Int32))), (.int (1 : Int32))]))
    refine own_by (fun _ kont => XT.iconstV X0.here hx rfl (3 : Int32) (hb hby at_58) rfl kont) ?_
    show own_Go p e below _ (s₁.setTop (mkF m 59 #[.val (.int i0), .val (.int i1), .val (.int i2), .val (.int i3), .val (.int i4), .val (.int (Int32.ofNat de)), .val (.int (Int32.ofNat nu)), .val (.int (Int32.ofNat ep)), .unset, .unset, .unset, .unset, .unset, .unset, .unset, .unset, .unset, .unset, .unset, .unset, .unset, .unset] [(.int (3 : Int32)), (.int (i3 &&& (3 : Int32))), (.int (1 : Int32))]))
    refine own_by (fun _ kont => XS.irem X0.here hx rfl (hb hby at_59) rfl (by decide) kont) ?_
    show own_Go p e below _ (s₁.setTop (mkF m 60 #[.val (.int i0), .val (.int i1), .val (.int i2), .val (.int i3), .val (.int i4), .val (.int (Int32.ofNat de)), .val (.int (Int32.ofNat nu)), .val (.int (Int32.ofNat ep)), .unset, .unset, .unset, .unset, .unset, .unset, .unset, .unset, .unset, .unset, .unset, .unset, .unset, .unset] [(.int ((i3 &&& (3 : Int32)) - ((i3 &&& (3 : Int32)) / (3 : Int32)) * (3 : Int32))), (.int (1 : Int32))]))
    refine own_by (fun _ kont => XS.iadd X0.here hx rfl (hb hby at_60) rfl kont) ?_
    show own_Go p e below _ (s₁.setTop (mkF m 61 #[.val (.int i0), .val (.int i1), .val (.int i2), .val (.int i3), .val (.int i4), .val (.int (Int32.ofNat de)), .val (.int (Int32.ofNat nu)), .val (.int (Int32.ofNat ep)), .unset, .unset, .unset, .unset, .unset, .unset, .unset, .unset, .unset, .unset, .unset, .unset, .unset, .unset] [(.int ((1 : Int32) + ((i3 &&& (3 : Int32)) - ((i3 &&& (3 : Int32)) / (3 : Int32)) * (3 : Int32))))]))
    have hr1 : ¬ ((1 : Int32) + ((i3 &&& (3 : Int32)) - ((i3 &&& (3 : Int32)) / (3 : Int32)) * (3 : Int32))) = 0 := own_r3 _
    generalize ((1 : Int32) + ((i3 &&& (3 : Int32)) - ((i3 &&& (3 : Int32)) / (3 : Int32)) * (3 : Int32))) = r1 at hr1 ⊢
    show own_Go p e below _ (s₁.setTop (mkF m 61 #[.val (.int i0), .val (.int i1), .val (.int i2), .val (.int i3), .val (.int i4), .val (.int (Int32.ofNat de)), .val (.int (Int32.ofNat nu)), .val (.int (Int32.ofNat ep)), .unset, .unset, .unset, .unset, .unset, .unset, .unset, .unset, .unset, .unset, .unset, .unset, .unset, .unset] [(.int r1)]))
    refine own_by (fun _ kont => XS.istore X0.here hx rfl (hb hby at_61) rfl (l' := #[.val (.int i0), .val (.int i1), .val (.int i2), .val (.int i3), .val (.int i4), .val (.int (Int32.ofNat de)), .val (.int (Int32.ofNat nu)), .val (.int (Int32.ofNat ep)), .val (.int r1), .unset, .unset, .unset, .unset, .unset, .unset, .unset, .unset, .unset, .unset, .unset, .unset, .unset]) rfl kont) ?_
    show own_Go p e below _ (s₁.setTop (mkF m 63 #[.val (.int i0), .val (.int i1), .val (.int i2), .val (.int i3), .val (.int i4), .val (.int (Int32.ofNat de)), .val (.int (Int32.ofNat nu)), .val (.int (Int32.ofNat ep)), .val (.int r1), .unset, .unset, .unset, .unset, .unset, .unset, .unset, .unset, .unset, .unset, .unset, .unset, .unset] []))
    refine own_by (fun _ kont => XT.iconstV X0.here hx rfl (1 : Int32) (hb hby at_63) rfl kont) ?_
    show own_Go p e below _ (s₁.setTop (mkF m 64 #[.val (.int i0), .val (.int i1), .val (.int i2), .val (.int i3), .val (.int i4), .val (.int (Int32.ofNat de)), .val (.int (Int32.ofNat nu)), .val (.int (Int32.ofNat ep)), .val (.int r1), .unset, .unset, .unset, .unset, .unset, .unset, .unset, .unset, .unset, .unset, .unset, .unset, .unset] [(.int (1 : Int32))]))
    refine own_by (fun _ kont => XS.iloadN X0.here hx rfl (hb hby at_64) rfl kont) ?_
    show own_Go p e below _ (s₁.setTop (mkF m 65 #[.val (.int i0), .val (.int i1), .val (.int i2), .val (.int i3), .val (.int i4), .val (.int (Int32.ofNat de)), .val (.int (Int32.ofNat nu)), .val (.int (Int32.ofNat ep)), .val (.int r1), .unset, .unset, .unset, .unset, .unset, .unset, .unset, .unset, .unset, .unset, .unset, .unset, .unset] [(.int i3), (.int (1 : Int32))]))
    refine own_by (fun _ kont => XT.iconstV X0.here hx rfl (2 : Int32) (hb hby at_65) rfl kont) ?_
    show own_Go p e below _ (s₁.setTop (mkF m 66 #[.val (.int i0), .val (.int i1), .val (.int i2), .val (.int i3), .val (.int i4), .val (.int (Int32.ofNat de)), .val (.int (Int32.ofNat nu)), .val (.int (Int32.ofNat ep)), .val (.int r1), .unset, .unset, .unset, .unset, .unset, .unset, .unset, .unset, .unset, .unset, .unset, .unset, .unset] [(.int (2 : Int32)), (.int i3), (.int (1 : Int32))]))
    refine own_by (fun _ kont => XT.iushr X0.here hx rfl (hb hby at_66) rfl kont) ?_
    show own_Go p e below _ (s₁.setTop (mkF m 67 #[.val (.int i0), .val (.int i1), .val (.int i2), .val (.int i3), .val (.int i4), .val (.int (Int32.ofNat de)), .val (.int (Int32.ofNat nu)), .val (.int (Int32.ofNat ep)), .val (.int r1), .unset, .unset, .unset, .unset, .unset, .unset, .unset, .unset, .unset, .unset, .unset, .unset, .unset] [(.int (XT.ushr i3 (2 : Int32))), (.int (1 : Int32))]))
    refine own_by (fun _ kont => XT.iconstV X0.here hx rfl (3 : Int32) (hb hby at_67) rfl kont) ?_
    show own_Go p e below _ (s₁.setTop (mkF m 68 #[.val (.int i0), .val (.int i1), .val (.int i2), .val (.int i3), .val (.int i4), .val (.int (Int32.ofNat de)), .val (.int (Int32.ofNat nu)), .val (.int (Int32.ofNat ep)), .val (.int r1), .unset, .unset, .unset, .unset, .unset, .unset, .unset, .unset, .unset, .unset, .unset, .unset, .unset] [(.int (3 : Int32)), (.int (XT.ushr i3 (2 : Int32))), (.int (1 : Int32))]))
    refine own_by (fun _ kont => XS.iand X0.here hx rfl (hb hby at_68) rfl kont) ?_
    show own_Go p e below _ (s₁.setTop (mkF m 69 #[.val (.int i0), .val (.int i1), .val (.int i2), .val (.int i3), .val (.int i4), .val (.int (Int32.ofNat de)), .val (.int (Int32.ofNat nu)), .val (.int (Int32.ofNat ep)), .val (.int r1), .unset, .unset, .unset, .unset, .unset, .unset, .unset, .unset, .unset, .unset, .unset, .unset, .unset] [(.int ((XT.ushr i3 (2 : Int32)) &&& (3 : Int32))), (.int (1 : Int32))]))
    refine own_by (fun _ kont => XT.iconstV X0.here hx rfl (3 : Int32) (hb hby at_69) rfl kont) ?_
    show own_Go p e below _ (s₁.setTop (mkF m 70 #[.val (.int i0), .val (.int i1), .val (.int i2), .val (.int i3), .val (.int i4), .val (.int (Int32.ofNat de)), .val (.int (Int32.ofNat nu)), .val (.int (Int32.ofNat ep)), .val (.int r1), .unset, .unset, .unset, .unset, .unset, .unset, .unset, .unset, .unset, .unset, .unset, .unset, .unset] [(.int (3 : Int32)), (.int ((XT.ushr i3 (2 : Int32)) &&& (3 : Int32))), (.int (1 : Int32))]))
    refine own_by (fun _ kont => XS.irem X0.here hx rfl (hb hby at_70) rfl (by decide) kont) ?_
    show own_Go p e below _ (s₁.setTop (mkF m 71 #[.val (.int i0), .val (.int i1), .val (.int i2), .val (.int i3), .val (.int i4), .val (.int (Int32.ofNat de)), .val (.int (Int32.ofNat nu)), .val (.int (Int32.ofNat ep)), .val (.int r1), .unset, .unset, .unset, .unset, .unset, .unset, .unset, .unset, .unset, .unset, .unset, .unset, .unset] [(.int (((XT.ushr i3 (2 : Int32)) &&& (3 : Int32)) - (((XT.ushr i3 (2 : Int32)) &&& (3 : Int32)) / (3 : Int32)) * (3 : Int32))), (.int (1 : Int32))]))
    refine own_by (fun _ kont => XS.iadd X0.here hx rfl (hb hby at_71) rfl kont) ?_
    show own_Go p e below _ (s₁.setTop (mkF m 72 #[.val (.int i0), .val (.int i1), .val (.int i2), .val (.int i3), .val (.int i4), .val (.int (Int32.ofNat de)), .val (.int (Int32.ofNat nu)), .val (.int (Int32.ofNat ep)), .val (.int r1), .unset, .unset, .unset, .unset, .unset, .unset, .unset, .unset, .unset, .unset, .unset, .unset, .unset] [(.int ((1 : Int32) + (((XT.ushr i3 (2 : Int32)) &&& (3 : Int32)) - (((XT.ushr i3 (2 : Int32)) &&& (3 : Int32)) / (3 : Int32)) * (3 : Int32))))]))
    have hl1 : ¬ ((1 : Int32) + (((XT.ushr i3 (2 : Int32)) &&& (3 : Int32)) - (((XT.ushr i3 (2 : Int32)) &&& (3 : Int32)) / (3 : Int32)) * (3 : Int32))) = 0 := own_r3 _
    generalize ((1 : Int32) + (((XT.ushr i3 (2 : Int32)) &&& (3 : Int32)) - (((XT.ushr i3 (2 : Int32)) &&& (3 : Int32)) / (3 : Int32)) * (3 : Int32))) = l1 at hl1 ⊢
    show own_Go p e below _ (s₁.setTop (mkF m 72 #[.val (.int i0), .val (.int i1), .val (.int i2), .val (.int i3), .val (.int i4), .val (.int (Int32.ofNat de)), .val (.int (Int32.ofNat nu)), .val (.int (Int32.ofNat ep)), .val (.int r1), .unset, .unset, .unset, .unset, .unset, .unset, .unset, .unset, .unset, .unset, .unset, .unset, .unset] [(.int l1)]))
    refine own_by (fun _ kont => XS.istore X0.here hx rfl (hb hby at_72) rfl (l' := #[.val (.int i0), .val (.int i1), .val (.int i2), .val (.int i3), .val (.int i4), .val (.int (Int32.ofNat de)), .val (.int (Int32.ofNat nu)), .val (.int (Int32.ofNat ep)), .val (.int r1), .val (.int l1), .unset, .unset, .unset, .unset, .unset, .unset, .unset, .unset, .unset, .unset, .unset, .unset]) rfl kont) ?_
    show own_Go p e below _ (s₁.setTop (mkF m 74 #[.val (.int i0), .val (.int i1), .val (.int i2), .val (.int i3), .val (.int i4), .val (.int (Int32.ofNat de)), .val (.int (Int32.ofNat nu)), .val (.int (Int32.ofNat ep)), .val (.int r1), .val (.int l1), .unset, .unset, .unset, .unset, .unset, .unset, .unset, .unset, .unset, .unset, .unset, .unset] []))
    refine own_by (fun _ kont => XT.iconstV X0.here hx rfl (1 : Int32) (hb hby at_74) rfl kont) ?_
    show own_Go p e below _ (s₁.setTop (mkF m 75 #[.val (.int i0), .val (.int i1), .val (.int i2), .val (.int i3), .val (.int i4), .val (.int (Int32.ofNat de)), .val (.int (Int32.ofNat nu)), .val (.int (Int32.ofNat ep)), .val (.int r1), .val (.int l1), .unset, .unset, .unset, .unset, .unset, .unset, .unset, .unset, .unset, .unset, .unset, .unset] [(.int (1 : Int32))]))
    refine own_by (fun _ kont => XS.iloadN X0.here hx rfl (hb hby at_75) rfl kont) ?_
    show own_Go p e below _ (s₁.setTop (mkF m 76 #[.val (.int i0), .val (.int i1), .val (.int i2), .val (.int i3), .val (.int i4), .val (.int (Int32.ofNat de)), .val (.int (Int32.ofNat nu)), .val (.int (Int32.ofNat ep)), .val (.int r1), .val (.int l1), .unset, .unset, .unset, .unset, .unset, .unset, .unset, .unset, .unset, .unset, .unset, .unset] [(.int i3), (.int (1 : Int32))]))
    refine own_by (fun _ kont => XT.iconstV X0.here hx rfl (4 : Int32) (hb hby at_76) rfl kont) ?_
    show own_Go p e below _ (s₁.setTop (mkF m 77 #[.val (.int i0), .val (.int i1), .val (.int i2), .val (.int i3), .val (.int i4), .val (.int (Int32.ofNat de)), .val (.int (Int32.ofNat nu)), .val (.int (Int32.ofNat ep)), .val (.int r1), .val (.int l1), .unset, .unset, .unset, .unset, .unset, .unset, .unset, .unset, .unset, .unset, .unset, .unset] [(.int (4 : Int32)), (.int i3), (.int (1 : Int32))]))
    refine own_by (fun _ kont => XT.iushr X0.here hx rfl (hb hby at_77) rfl kont) ?_
    show own_Go p e below _ (s₁.setTop (mkF m 78 #[.val (.int i0), .val (.int i1), .val (.int i2), .val (.int i3), .val (.int i4), .val (.int (Int32.ofNat de)), .val (.int (Int32.ofNat nu)), .val (.int (Int32.ofNat ep)), .val (.int r1), .val (.int l1), .unset, .unset, .unset, .unset, .unset, .unset, .unset, .unset, .unset, .unset, .unset, .unset] [(.int (XT.ushr i3 (4 : Int32))), (.int (1 : Int32))]))
    refine own_by (fun _ kont => XT.iconstV X0.here hx rfl (3 : Int32) (hb hby at_78) rfl kont) ?_
    show own_Go p e below _ (s₁.setTop (mkF m 79 #[.val (.int i0), .val (.int i1), .val (.int i2), .val (.int i3), .val (.int i4), .val (.int (Int32.ofNat de)), .val (.int (Int32.ofNat nu)), .val (.int (Int32.ofNat ep)), .val (.int r1), .val (.int l1), .unset, .unset, .unset, .unset, .unset, .unset, .unset, .unset, .unset, .unset, .unset, .unset] [(.int (3 : Int32)), (.int (XT.ushr i3 (4 : Int32))), (.int (1 : Int32))]))
    refine own_by (fun _ kont => XS.iand X0.here hx rfl (hb hby at_79) rfl kont) ?_
    show own_Go p e below _ (s₁.setTop (mkF m 80 #[.val (.int i0), .val (.int i1), .val (.int i2), .val (.int i3), .val (.int i4), .val (.int (Int32.ofNat de)), .val (.int (Int32.ofNat nu)), .val (.int (Int32.ofNat ep)), .val (.int r1), .val (.int l1), .unset, .unset, .unset, .unset, .unset, .unset, .unset, .unset, .unset, .unset, .unset, .unset] [(.int ((XT.ushr i3 (4 : Int32)) &&& (3 : Int32))), (.int (1 : Int32))]))
    refine own_by (fun _ kont => XT.iconstV X0.here hx rfl (3 : Int32) (hb hby at_80) rfl kont) ?_
    show own_Go p e below _ (s₁.setTop (mkF m 81 #[.val (.int i0), .val (.int i1), .val (.int i2), .val (.int i3), .val (.int i4), .val (.int (Int32.ofNat de)), .val (.int (Int32.ofNat nu)), .val (.int (Int32.ofNat ep)), .val (.int r1), .val (.int l1), .unset, .unset, .unset, .unset, .unset, .unset, .unset, .unset, .unset, .unset, .unset, .unset] [(.int (3 : Int32)), (.int ((XT.ushr i3 (4 : Int32)) &&& (3 : Int32))), (.int (1 : Int32))]))
    refine own_by (fun _ kont => XS.irem X0.here hx rfl (hb hby at_81) rfl (by decide) kont) ?_
    show own_Go p e below _ (s₁.setTop (mkF m 82 #[.val (.int i0), .val (.int i1), .val (.int i2), .val (.int i3), .val (.int i4), .val (.int (Int32.ofNat de)), .val (.int (Int32.ofNat nu)), .val (.int (Int32.ofNat ep)), .val (.int r1), .val (.int l1), .unset, .unset, .unset, .unset, .unset, .unset, .unset, .unset, .unset, .unset, .unset, .unset] [(.int (((XT.ushr i3 (4 : Int32)) &&& (3 : Int32)) - (((XT.ushr i3 (4 : Int32)) &&& (3 : Int32)) / (3 : Int32)) * (3 : Int32))), (.int (1 : Int32))]))
    refine own_by (fun _ kont => XS.iadd X0.here hx rfl (hb hby at_82) rfl kont) ?_
    show own_Go p e below _ (s₁.setTop (mkF m 83 #[.val (.int i0), .val (.int i1), .val (.int i2), .val (.int i3), .val (.int i4), .val (.int (Int32.ofNat de)), .val (.int (Int32.ofNat nu)), .val (.int (Int32.ofNat ep)), .val (.int r1), .val (.int l1), .unset, .unset, .unset, .unset, .unset, .unset, .unset, .unset, .unset, .unset, .unset, .unset] [(.int ((1 : Int32) + (((XT.ushr i3 (4 : Int32)) &&& (3 : Int32)) - (((XT.ushr i3 (4 : Int32)) &&& (3 : Int32)) / (3 : Int32)) * (3 : Int32))))]))
    have hv1 : ¬ ((1 : Int32) + (((XT.ushr i3 (4 : Int32)) &&& (3 : Int32)) - (((XT.ushr i3 (4 : Int32)) &&& (3 : Int32)) / (3 : Int32)) * (3 : Int32))) = 0 := own_r3 _
    generalize ((1 : Int32) + (((XT.ushr i3 (4 : Int32)) &&& (3 : Int32)) - (((XT.ushr i3 (4 : Int32)) &&& (3 : Int32)) / (3 : Int32)) * (3 : Int32))) = v1 at hv1 ⊢
    show own_Go p e below _ (s₁.setTop (mkF m 83 #[.val (.int i0), .val (.int i1), .val (.int i2), .val (.int i3), .val (.int i4), .val (.int (Int32.ofNat de)), .val (.int (Int32.ofNat nu)), .val (.int (Int32.ofNat ep)), .val (.int r1), .val (.int l1), .unset, .unset, .unset, .unset, .unset, .unset, .unset, .unset, .unset, .unset, .unset, .unset] [(.int v1)]))
    refine own_by (fun _ kont => XS.istore X0.here hx rfl (hb hby at_83) rfl (l' := #[.val (.int i0), .val (.int i1), .val (.int i2), .val (.int i3), .val (.int i4), .val (.int (Int32.ofNat de)), .val (.int (Int32.ofNat nu)), .val (.int (Int32.ofNat ep)), .val (.int r1), .val (.int l1), .val (.int v1), .unset, .unset, .unset, .unset, .unset, .unset, .unset, .unset, .unset, .unset, .unset]) rfl kont) ?_
    show own_Go p e below _ (s₁.setTop (mkF m 85 #[.val (.int i0), .val (.int i1), .val (.int i2), .val (.int i3), .val (.int i4), .val (.int (Int32.ofNat de)), .val (.int (Int32.ofNat nu)), .val (.int (Int32.ofNat ep)), .val (.int r1), .val (.int l1), .val (.int v1), .unset, .unset, .unset, .unset, .unset, .unset, .unset, .unset, .unset, .unset, .unset] []))
    refine own_by (fun _ kont => XT.iconstV X0.here hx rfl (1 : Int32) (hb hby at_85) rfl kont) ?_
    show own_Go p e below _ (s₁.setTop (mkF m 86 #[.val (.int i0), .val (.int i1), .val (.int i2), .val (.int i3), .val (.int i4), .val (.int (Int32.ofNat de)), .val (.int (Int32.ofNat nu)), .val (.int (Int32.ofNat ep)), .val (.int r1), .val (.int l1), .val (.int v1), .unset, .unset, .unset, .unset, .unset, .unset, .unset, .unset, .unset, .unset, .unset] [(.int (1 : Int32))]))
    refine own_by (fun _ kont => XS.iloadN X0.here hx rfl (hb hby at_86) rfl kont) ?_
    show own_Go p e below _ (s₁.setTop (mkF m 87 #[.val (.int i0), .val (.int i1), .val (.int i2), .val (.int i3), .val (.int i4), .val (.int (Int32.ofNat de)), .val (.int (Int32.ofNat nu)), .val (.int (Int32.ofNat ep)), .val (.int r1), .val (.int l1), .val (.int v1), .unset, .unset, .unset, .unset, .unset, .unset, .unset, .unset, .unset, .unset, .unset] [(.int i3), (.int (1 : Int32))]))
    refine own_by (fun _ kont => XT.bipushV X0.here hx rfl (6 : Int32) (hb hby at_87) rfl kont) ?_
    show own_Go p e below _ (s₁.setTop (mkF m 89 #[.val (.int i0), .val (.int i1), .val (.int i2), .val (.int i3), .val (.int i4), .val (.int (Int32.ofNat de)), .val (.int (Int32.ofNat nu)), .val (.int (Int32.ofNat ep)), .val (.int r1), .val (.int l1), .val (.int v1), .unset, .unset, .unset, .unset, .unset, .unset, .unset, .unset, .unset, .unset, .unset] [(.int (6 : Int32)), (.int i3), (.int (1 : Int32))]))
    refine own_by (fun _ kont => XT.iushr X0.here hx rfl (hb hby at_89) rfl kont) ?_
    show own_Go p e below _ (s₁.setTop (mkF m 90 #[.val (.int i0), .val (.int i1), .val (.int i2), .val (.int i3), .val (.int i4), .val (.int (Int32.ofNat de)), .val (.int (Int32.ofNat nu)), .val (.int (Int32.ofNat ep)), .val (.int r1), .val (.int l1), .val (.int v1), .unset, .unset, .unset, .unset, .unset, .unset, .unset, .unset, .unset, .unset, .unset] [(.int (XT.ushr i3 (6 : Int32))), (.int (1 : Int32))]))
    refine own_by (fun _ kont => XT.iconstV X0.here hx rfl (3 : Int32) (hb hby at_90) rfl kont) ?_
    show own_Go p e below _ (s₁.setTop (mkF m 91 #[.val (.int i0), .val (.int i1), .val (.int i2), .val (.int i3), .val (.int i4), .val (.int (Int32.ofNat de)), .val (.int (Int32.ofNat nu)), .val (.int (Int32.ofNat ep)), .val (.int r1), .val (.int l1), .val (.int v1), .unset, .unset, .unset, .unset, .unset, .unset, .unset, .unset, .unset, .unset, .unset] [(.int (3 : Int32)), (.int (XT.ushr i3 (6 : Int32))), (.int (1 : Int32))]))
    refine own_by (fun _ kont => XS.iand X0.here hx rfl (hb hby at_91) rfl kont) ?_
    show own_Go p e below _ (s₁.setTop (mkF m 92 #[.val (.int i0), .val (.int i1), .val (.int i2), .val (.int i3), .val (.int i4), .val (.int (Int32.ofNat de)), .val (.int (Int32.ofNat nu)), .val (.int (Int32.ofNat ep)), .val (.int r1), .val (.int l1), .val (.int v1), .unset, .unset, .unset, .unset, .unset, .unset, .unset, .unset, .unset, .unset, .unset] [(.int ((XT.ushr i3 (6 : Int32)) &&& (3 : Int32))), (.int (1 : Int32))]))
    refine own_by (fun _ kont => XT.iconstV X0.here hx rfl (3 : Int32) (hb hby at_92) rfl kont) ?_
    show own_Go p e below _ (s₁.setTop (mkF m 93 #[.val (.int i0), .val (.int i1), .val (.int i2), .val (.int i3), .val (.int i4), .val (.int (Int32.ofNat de)), .val (.int (Int32.ofNat nu)), .val (.int (Int32.ofNat ep)), .val (.int r1), .val (.int l1), .val (.int v1), .unset, .unset, .unset, .unset, .unset, .unset, .unset, .unset, .unset, .unset, .unset] [(.int (3 : Int32)), (.int ((XT.ushr i3 (6 : Int32)) &&& (3 : Int32))), (.int (1 : Int32))]))
    refine own_by (fun _ kont => XS.irem X0.here hx rfl (hb hby at_93) rfl (by decide) kont) ?_
    show own_Go p e below _ (s₁.setTop (mkF m 94 #[.val (.int i0), .val (.int i1), .val (.int i2), .val (.int i3), .val (.int i4), .val (.int (Int32.ofNat de)), .val (.int (Int32.ofNat nu)), .val (.int (Int32.ofNat ep)), .val (.int r1), .val (.int l1), .val (.int v1), .unset, .unset, .unset, .unset, .unset, .unset, .unset, .unset, .unset, .unset, .unset] [(.int (((XT.ushr i3 (6 : Int32)) &&& (3 : Int32)) - (((XT.ushr i3 (6 : Int32)) &&& (3 : Int32)) / (3 : Int32)) * (3 : Int32))), (.int (1 : Int32))]))
    refine own_by (fun _ kont => XS.iadd X0.here hx rfl (hb hby at_94) rfl kont) ?_
    show own_Go p e below _ (s₁.setTop (mkF m 95 #[.val (.int i0), .val (.int i1), .val (.int i2), .val (.int i3), .val (.int i4), .val (.int (Int32.ofNat de)), .val (.int (Int32.ofNat nu)), .val (.int (Int32.ofNat ep)), .val (.int r1), .val (.int l1), .val (.int v1), .unset, .unset, .unset, .unset, .unset, .unset, .unset, .unset, .unset, .unset, .unset] [(.int ((1 : Int32) + (((XT.ushr i3 (6 : Int32)) &&& (3 : Int32)) - (((XT.ushr i3 (6 : Int32)) &&& (3 : Int32)) / (3 : Int32)) * (3 : Int32))))]))
    have hw1 : ¬ ((1 : Int32) + (((XT.ushr i3 (6 : Int32)) &&& (3 : Int32)) - (((XT.ushr i3 (6 : Int32)) &&& (3 : Int32)) / (3 : Int32)) * (3 : Int32))) = 0 := own_r3 _
    generalize ((1 : Int32) + (((XT.ushr i3 (6 : Int32)) &&& (3 : Int32)) - (((XT.ushr i3 (6 : Int32)) &&& (3 : Int32)) / (3 : Int32)) * (3 : Int32))) = w1 at hw1 ⊢
    show own_Go p e below _ (s₁.setTop (mkF m 95 #[.val (.int i0), .val (.int i1), .val (.int i2), .val (.int i3), .val (.int i4), .val (.int (Int32.ofNat de)), .val (.int (Int32.ofNat nu)), .val (.int (Int32.ofNat ep)), .val (.int r1), .val (.int l1), .val (.int v1), .unset, .unset, .unset, .unset, .unset, .unset, .unset, .unset, .unset, .unset, .unset] [(.int w1)]))
    refine own_by (fun _ kont => XS.istore X0.here hx rfl (hb hby at_95) rfl (l' := #[.val (.int i0), .val (.int i1), .val (.int i2), .val (.int i3), .val (.int i4), .val (.int (Int32.ofNat de)), .val (.int (Int32.ofNat nu)), .val (.int (Int32.ofNat ep)), .val (.int r1), .val (.int l1), .val (.int v1), .val (.int w1), .unset, .unset, .unset, .unset, .unset, .unset, .unset, .unset, .unset, .unset]) rfl kont) ?_
    show own_Go p e below _ (s₁.setTop (mkF m 97 #[.val (.int i0), .val (.int i1), .val (.int i2), .val (.int i3), .val (.int i4), .val (.int (Int32.ofNat de)), .val (.int (Int32.ofNat nu)), .val (.int (Int32.ofNat ep)), .val (.int r1), .val (.int l1), .val (.int v1), .val (.int w1), .unset, .unset, .unset, .unset, .unset, .unset, .unset, .unset, .unset, .unset] []))
    refine own_by (fun _ kont => XS.iload X0.here hx rfl (hb hby at_97) rfl kont) ?_
    show own_Go p e below _ (s₁.setTop (mkF m 99 #[.val (.int i0), .val (.int i1), .val (.int i2), .val (.int i3), .val (.int i4), .val (.int (Int32.ofNat de)), .val (.int (Int32.ofNat nu)), .val (.int (Int32.ofNat ep)), .val (.int r1), .val (.int l1), .val (.int v1), .val (.int w1), .unset, .unset, .unset, .unset, .unset, .unset, .unset, .unset, .unset, .unset] [(.int i4)]))
    refine own_by (fun _ kont => XT.iconstV X0.here hx rfl (1 : Int32) (hb hby at_99) rfl kont) ?_
    show own_Go p e below _ (s₁.setTop (mkF m 100 #[.val (.int i0), .val (.int i1), .val (.int i2), .val (.int i3), .val (.int i4), .val (.int (Int32.ofNat de)), .val (.int (Int32.ofNat nu)), .val (.int (Int32.ofNat ep)), .val (.int r1), .val (.int l1), .val (.int v1), .val (.int w1), .unset, .unset, .unset, .unset, .unset, .unset, .unset, .unset, .unset, .unset] [(.int (1 : Int32)), (.int i4)]))
    refine own_by (fun _ kont => XS.iand X0.here hx rfl (hb hby at_100) rfl kont) ?_
    show own_Go p e below _ (s₁.setTop (mkF m 101 #[.val (.int i0), .val (.int i1), .val (.int i2), .val (.int i3), .val (.int i4), .val (.int (Int32.ofNat de)), .val (.int (Int32.ofNat nu)), .val (.int (Int32.ofNat ep)), .val (.int r1), .val (.int l1), .val (.int v1), .val (.int w1), .unset, .unset, .unset, .unset, .unset, .unset, .unset, .unset, .unset, .unset] [(.int (i4 &&& (1 : Int32)))]))
    have key2 : ∀ tf : Int32, own_Go p e below (own_K s (own_Q_rmL Z  n0) room_1.cells room_1.slots) (s₁.setTop (mkF m 109 #[.val (.int i0), .val (.int i1), .val (.int i2), .val (.int i3), .val (.int i4), .val (.int (Int32.ofNat de)), .val (.int (Int32.ofNat nu)), .val (.int (Int32.ofNat ep)), .val (.int r1), .val (.int l1), .val (.int v1), .val (.int w1), .unset, .unset, .unset, .unset, .unset, .unset, .unset, .unset, .unset, .unset] [(.int tf)])) := by
      intro tf
      refine own_by (fun _ kont => XS.istore X0.here hx rfl (hb hby at_109) rfl (l' := #[.val (.int i0), .val (.int i1), .val (.int i2), .val (.int i3), .val (.int i4), .val (.int (Int32.ofNat de)), .val (.int (Int32.ofNat nu)), .val (.int (Int32.ofNat ep)), .val (.int r1), .val (.int l1), .val (.int v1), .val (.int w1), .val (.int tf), .unset, .unset, .unset, .unset, .unset, .unset, .unset, .unset, .unset]) rfl kont) ?_
      show own_Go p e below _ (s₁.setTop (mkF m 111 #[.val (.int i0), .val (.int i1), .val (.int i2), .val (.int i3), .val (.int i4), .val (.int (Int32.ofNat de)), .val (.int (Int32.ofNat nu)), .val (.int (Int32.ofNat ep)), .val (.int r1), .val (.int l1), .val (.int v1), .val (.int w1), .val (.int tf), .unset, .unset, .unset, .unset, .unset, .unset, .unset, .unset, .unset] []))
      refine own_by (fun _ kont => XS.iload X0.here hx rfl (hb hby at_111) rfl kont) ?_
      show own_Go p e below _ (s₁.setTop (mkF m 113 #[.val (.int i0), .val (.int i1), .val (.int i2), .val (.int i3), .val (.int i4), .val (.int (Int32.ofNat de)), .val (.int (Int32.ofNat nu)), .val (.int (Int32.ofNat ep)), .val (.int r1), .val (.int l1), .val (.int v1), .val (.int w1), .val (.int tf), .unset, .unset, .unset, .unset, .unset, .unset, .unset, .unset, .unset] [(.int i4)]))
      refine own_by (fun _ kont => XT.iconstV X0.here hx rfl (2 : Int32) (hb hby at_113) rfl kont) ?_
      show own_Go p e below _ (s₁.setTop (mkF m 114 #[.val (.int i0), .val (.int i1), .val (.int i2), .val (.int i3), .val (.int i4), .val (.int (Int32.ofNat de)), .val (.int (Int32.ofNat nu)), .val (.int (Int32.ofNat ep)), .val (.int r1), .val (.int l1), .val (.int v1), .val (.int w1), .val (.int tf), .unset, .unset, .unset, .unset, .unset, .unset, .unset, .unset, .unset] [(.int (2 : Int32)), (.int i4)]))
      refine own_by (fun _ kont => XS.iand X0.here hx rfl (hb hby at_114) rfl kont) ?_
      show own_Go p e below _ (s₁.setTop (mkF m 115 #[.val (.int i0), .val (.int i1), .val (.int i2), .val (.int i3), .val (.int i4), .val (.int (Int32.ofNat de)), .val (.int (Int32.ofNat nu)), .val (.int (Int32.ofNat ep)), .val (.int r1), .val (.int l1), .val (.int v1), .val (.int w1), .val (.int tf), .unset, .unset, .unset, .unset, .unset, .unset, .unset, .unset, .unset] [(.int (i4 &&& (2 : Int32)))]))
      by_cases h115 : (i4 &&& (2 : Int32)) = (0 : Int32)
      · refine own_by (fun _ kont => XS.ifYes X0.here hx rfl (pc0 := 115) (pc' := 122) rfl (hb hby at_115) rfl (XT.i0_eq_t h115) (by decide) (by decide) kont) ?_
        show own_Go p e below _ (s₁.setTop (mkF m 122 #[.val (.int i0), .val (.int i1), .val (.int i2), .val (.int i3), .val (.int i4), .val (.int (Int32.ofNat de)), .val (.int (Int32.ofNat nu)), .val (.int (Int32.ofNat ep)), .val (.int r1), .val (.int l1), .val (.int v1), .val (.int w1), .val (.int tf), .unset, .unset, .unset, .unset, .unset, .unset, .unset, .unset, .unset] []))
        refine own_by (fun _ kont => XT.iconstV X0.here hx rfl (0 : Int32) (hb hby at_122) rfl kont) ?_
        show own_Go p e below _ (s₁.setTop (mkF m 123 #[.val (.int i0), .val (.int i1), .val (.int i2), .val (.int i3), .val (.int i4), .val (.int (Int32.ofNat de)), .val (.int (Int32.ofNat nu)), .val (.int (Int32.ofNat ep)), .val (.int r1), .val (.int l1), .val (.int v1), .val (.int w1), .val (.int tf), .unset, .unset, .unset, .unset, .unset, .unset, .unset, .unset, .unset] [(.int (0 : Int32))]))
        refine own_by (fun _ kont => XS.istore X0.here hx rfl (hb hby at_123) rfl (l' := #[.val (.int i0), .val (.int i1), .val (.int i2), .val (.int i3), .val (.int i4), .val (.int (Int32.ofNat de)), .val (.int (Int32.ofNat nu)), .val (.int (Int32.ofNat ep)), .val (.int r1), .val (.int l1), .val (.int v1), .val (.int w1), .val (.int tf), .val (.int (0 : Int32)), .unset, .unset, .unset, .unset, .unset, .unset, .unset, .unset]) rfl kont) ?_
        show own_Go p e below _ (s₁.setTop (mkF m 125 #[.val (.int i0), .val (.int i1), .val (.int i2), .val (.int i3), .val (.int i4), .val (.int (Int32.ofNat de)), .val (.int (Int32.ofNat nu)), .val (.int (Int32.ofNat ep)), .val (.int r1), .val (.int l1), .val (.int v1), .val (.int w1), .val (.int tf), .val (.int (0 : Int32)), .unset, .unset, .unset, .unset, .unset, .unset, .unset, .unset] []))
        refine own_by (fun _ kont => XS.iload X0.here hx rfl (hb hby at_125) rfl kont) ?_
        show own_Go p e below _ (s₁.setTop (mkF m 127 #[.val (.int i0), .val (.int i1), .val (.int i2), .val (.int i3), .val (.int i4), .val (.int (Int32.ofNat de)), .val (.int (Int32.ofNat nu)), .val (.int (Int32.ofNat ep)), .val (.int r1), .val (.int l1), .val (.int v1), .val (.int w1), .val (.int tf), .val (.int (0 : Int32)), .unset, .unset, .unset, .unset, .unset, .unset, .unset, .unset] [(.int i4)]))
        refine own_by (fun _ kont => XT.iconstV X0.here hx rfl (2 : Int32) (hb hby at_127) rfl kont) ?_
        show own_Go p e below _ (s₁.setTop (mkF m 128 #[.val (.int i0), .val (.int i1), .val (.int i2), .val (.int i3), .val (.int i4), .val (.int (Int32.ofNat de)), .val (.int (Int32.ofNat nu)), .val (.int (Int32.ofNat ep)), .val (.int r1), .val (.int l1), .val (.int v1), .val (.int w1), .val (.int tf), .val (.int (0 : Int32)), .unset, .unset, .unset, .unset, .unset, .unset, .unset, .unset] [(.int (2 : Int32)), (.int i4)]))
        refine own_by (fun _ kont => XT.iushr X0.here hx rfl (hb hby at_128) rfl kont) ?_
        show own_Go p e below _ (s₁.setTop (mkF m 129 #[.val (.int i0), .val (.int i1), .val (.int i2), .val (.int i3), .val (.int i4), .val (.int (Int32.ofNat de)), .val (.int (Int32.ofNat nu)), .val (.int (Int32.ofNat ep)), .val (.int r1), .val (.int l1), .val (.int v1), .val (.int w1), .val (.int tf), .val (.int (0 : Int32)), .unset, .unset, .unset, .unset, .unset, .unset, .unset, .unset] [(.int (XT.ushr i4 (2 : Int32)))]))
        refine own_by (fun _ kont => XT.iconstV X0.here hx rfl (3 : Int32) (hb hby at_129) rfl kont) ?_
        show own_Go p e below _ (s₁.setTop (mkF m 130 #[.val (.int i0), .val (.int i1), .val (.int i2), .val (.int i3), .val (.int i4), .val (.int (Int32.ofNat de)), .val (.int (Int32.ofNat nu)), .val (.int (Int32.ofNat ep)), .val (.int r1), .val (.int l1), .val (.int v1), .val (.int w1), .val (.int tf), .val (.int (0 : Int32)), .unset, .unset, .unset, .unset, .unset, .unset, .unset, .unset] [(.int (3 : Int32)), (.int (XT.ushr i4 (2 : Int32)))]))
        refine own_by (fun _ kont => XS.iand X0.here hx rfl (hb hby at_130) rfl kont) ?_
        show own_Go p e below _ (s₁.setTop (mkF m 131 #[.val (.int i0), .val (.int i1), .val (.int i2), .val (.int i3), .val (.int i4), .val (.int (Int32.ofNat de)), .val (.int (Int32.ofNat nu)), .val (.int (Int32.ofNat ep)), .val (.int r1), .val (.int l1), .val (.int v1), .val (.int w1), .val (.int tf), .val (.int (0 : Int32)), .unset, .unset, .unset, .unset, .unset, .unset, .unset, .unset] [(.int ((XT.ushr i4 (2 : Int32)) &&& (3 : Int32)))]))
        have bcp := own_and (x := XT.ushr i4 (2 : Int32)) 3 (by decide) (m := 3) rfl
        generalize ((XT.ushr i4 (2 : Int32)) &&& (3 : Int32)) = cp at bcp ⊢
        obtain ⟨cap, hcp⟩ : ∃ k : Nat, cp.toInt = k := ⟨cp.toInt.toNat, by omega⟩
        show own_Go p e below _ (s₁.setTop (mkF m 131 #[.val (.int i0), .val (.int i1), .val (.int i2), .val (.int i3), .val (.int i4), .val (.int (Int32.ofNat de)), .val (.int (Int32.ofNat nu)), .val (.int (Int32.ofNat ep)), .val (.int r1), .val (.int l1), .val (.int v1), .val (.int w1), .val (.int tf), .val (.int (0 : Int32)), .unset, .unset, .unset, .unset, .unset, .unset, .unset, .unset] [(.int cp)]))
        refine own_by (fun _ kont => XS.istore X0.here hx rfl (hb hby at_131) rfl (l' := #[.val (.int i0), .val (.int i1), .val (.int i2), .val (.int i3), .val (.int i4), .val (.int (Int32.ofNat de)), .val (.int (Int32.ofNat nu)), .val (.int (Int32.ofNat ep)), .val (.int r1), .val (.int l1), .val (.int v1), .val (.int w1), .val (.int tf), .val (.int (0 : Int32)), .val (.int cp), .unset, .unset, .unset, .unset, .unset, .unset, .unset]) rfl kont) ?_
        show own_Go p e below _ (s₁.setTop (mkF m 133 #[.val (.int i0), .val (.int i1), .val (.int i2), .val (.int i3), .val (.int i4), .val (.int (Int32.ofNat de)), .val (.int (Int32.ofNat nu)), .val (.int (Int32.ofNat ep)), .val (.int r1), .val (.int l1), .val (.int v1), .val (.int w1), .val (.int tf), .val (.int (0 : Int32)), .val (.int cp), .unset, .unset, .unset, .unset, .unset, .unset, .unset] []))
        refine own_by (fun _ kont => XS.iload X0.here hx rfl (hb hby at_133) rfl kont) ?_
        show own_Go p e below _ (s₁.setTop (mkF m 135 #[.val (.int i0), .val (.int i1), .val (.int i2), .val (.int i3), .val (.int i4), .val (.int (Int32.ofNat de)), .val (.int (Int32.ofNat nu)), .val (.int (Int32.ofNat ep)), .val (.int r1), .val (.int l1), .val (.int v1), .val (.int w1), .val (.int tf), .val (.int (0 : Int32)), .val (.int cp), .unset, .unset, .unset, .unset, .unset, .unset, .unset] [(.int (Int32.ofNat ep))]))
        by_cases hz : ep = 0
        · refine own_by (fun _ kont => XS.ifNo X0.here hx rfl (hb hby at_135) rfl (XT.i0_ne_f ((own_inj (b := 0) (by omega) (by omega)).mpr hz)) kont) ?_
          show own_Go p e below _ (s₁.setTop (mkF m 138 #[.val (.int i0), .val (.int i1), .val (.int i2), .val (.int i3), .val (.int i4), .val (.int (Int32.ofNat de)), .val (.int (Int32.ofNat nu)), .val (.int (Int32.ofNat ep)), .val (.int r1), .val (.int l1), .val (.int v1), .val (.int w1), .val (.int tf), .val (.int (0 : Int32)), .val (.int cp), .unset, .unset, .unset, .unset, .unset, .unset, .unset] []))
          refine own_by (fun _ kont => XS.iload X0.here hx rfl (hb hby at_138) rfl kont) ?_
          show own_Go p e below _ (s₁.setTop (mkF m 140 #[.val (.int i0), .val (.int i1), .val (.int i2), .val (.int i3), .val (.int i4), .val (.int (Int32.ofNat de)), .val (.int (Int32.ofNat nu)), .val (.int (Int32.ofNat ep)), .val (.int r1), .val (.int l1), .val (.int v1), .val (.int w1), .val (.int tf), .val (.int (0 : Int32)), .val (.int cp), .unset, .unset, .unset, .unset, .unset, .unset, .unset] [(.int v1)]))
          refine own_by (fun _ kont => XS.istore X0.here hx rfl (hb hby at_140) rfl (l' := #[.val (.int i0), .val (.int i1), .val (.int i2), .val (.int i3), .val (.int i4), .val (.int (Int32.ofNat de)), .val (.int (Int32.ofNat nu)), .val (.int (Int32.ofNat ep)), .val (.int r1), .val (.int l1), .val (.int v1), .val (.int w1), .val (.int tf), .val (.int (0 : Int32)), .val (.int cp), .val (.int v1), .unset, .unset, .unset, .unset, .unset, .unset]) rfl kont) ?_
          show own_Go p e below _ (s₁.setTop (mkF m 142 #[.val (.int i0), .val (.int i1), .val (.int i2), .val (.int i3), .val (.int i4), .val (.int (Int32.ofNat de)), .val (.int (Int32.ofNat nu)), .val (.int (Int32.ofNat ep)), .val (.int r1), .val (.int l1), .val (.int v1), .val (.int w1), .val (.int tf), .val (.int (0 : Int32)), .val (.int cp), .val (.int v1), .unset, .unset, .unset, .unset, .unset, .unset] []))
          refine own_by (fun _ kont => XS.iload X0.here hx rfl (hb hby at_142) rfl kont) ?_
          show own_Go p e below _ (s₁.setTop (mkF m 144 #[.val (.int i0), .val (.int i1), .val (.int i2), .val (.int i3), .val (.int i4), .val (.int (Int32.ofNat de)), .val (.int (Int32.ofNat nu)), .val (.int (Int32.ofNat ep)), .val (.int r1), .val (.int l1), .val (.int v1), .val (.int w1), .val (.int tf), .val (.int (0 : Int32)), .val (.int cp), .val (.int v1), .unset, .unset, .unset, .unset, .unset, .unset] [(.int w1)]))
          refine own_by (fun _ kont => XS.istore X0.here hx rfl (hb hby at_144) rfl (l' := #[.val (.int i0), .val (.int i1), .val (.int i2), .val (.int i3), .val (.int i4), .val (.int (Int32.ofNat de)), .val (.int (Int32.ofNat nu)), .val (.int (Int32.ofNat ep)), .val (.int r1), .val (.int l1), .val (.int v1), .val (.int w1), .val (.int tf), .val (.int (0 : Int32)), .val (.int cp), .val (.int v1), .val (.int w1), .unset, .unset, .unset, .unset, .unset]) rfl kont) ?_
          show own_Go p e below _ (s₁.setTop (mkF m 146 #[.val (.int i0), .val (.int i1), .val (.int i2), .val (.int i3), .val (.int i4), .val (.int (Int32.ofNat de)), .val (.int (Int32.ofNat nu)), .val (.int (Int32.ofNat ep)), .val (.int r1), .val (.int l1), .val (.int v1), .val (.int w1), .val (.int tf), .val (.int (0 : Int32)), .val (.int cp), .val (.int v1), .val (.int w1), .unset, .unset, .unset, .unset, .unset] []))
          refine own_by (fun _ kont => XS.goto X0.here hx rfl (pc0 := 146) (pc' := 171) rfl (hb hby at_146) (by decide) (by decide) kont) ?_
          show own_Go p e below _ (s₁.setTop (mkF m 171 #[.val (.int i0), .val (.int i1), .val (.int i2), .val (.int i3), .val (.int i4), .val (.int (Int32.ofNat de)), .val (.int (Int32.ofNat nu)), .val (.int (Int32.ofNat ep)), .val (.int r1), .val (.int l1), .val (.int v1), .val (.int w1), .val (.int tf), .val (.int (0 : Int32)), .val (.int cp), .val (.int v1), .val (.int w1), .unset, .unset, .unset, .unset, .unset] []))
          exact own_e171 X0 hx hby hlk hret hZ hown hw hml N0 e0 i0 i1 i2 i3 i4 r1 l1 v1 w1 _ _ cp _ _ de nu ep cap Z0 hcp (by omega) hr1 hl1 d1 d7 u1 u7 e7 hdn hed (Or.inl hz)
        · refine own_by (fun _ kont => XS.ifYes X0.here hx rfl (pc0 := 135) (pc' := 149) rfl (hb hby at_135) rfl (XT.i0_ne_t (fun z => hz ((own_inj (b := 0) (by omega) (by omega)).mp z))) (by decide) (by decide) kont) ?_
          show own_Go p e below _ (s₁.setTop (mkF m 149 #[.val (.int i0), .val (.int i1), .val (.int i2), .val (.int i3), .val (.int i4), .val (.int (Int32.ofNat de)), .val (.int (Int32.ofNat nu)), .val (.int (Int32.ofNat ep)), .val (.int r1), .val (.int l1), .val (.int v1), .val (.int w1), .val (.int tf), .val (.int (0 : Int32)), .val (.int cp), .unset, .unset, .unset, .unset, .unset, .unset, .unset] []))
          refine own_by (fun _ kont => XS.iload X0.here hx rfl (hb hby at_149) rfl kont) ?_
          show own_Go p e below _ (s₁.setTop (mkF m 151 #[.val (.int i0), .val (.int i1), .val (.int i2), .val (.int i3), .val (.int i4), .val (.int (Int32.ofNat de)), .val (.int (Int32.ofNat nu)), .val (.int (Int32.ofNat ep)), .val (.int r1), .val (.int l1), .val (.int v1), .val (.int w1), .val (.int tf), .val (.int (0 : Int32)), .val (.int cp), .unset, .unset, .unset, .unset, .unset, .unset, .unset] [(.int (0 : Int32))]))
          refine own_by (fun _ kont => XS.ifYes X0.here hx rfl (pc0 := 151) (pc' := 164) rfl (hb hby at_151) rfl (XT.i0_eq_t (by decide)) (by decide) (by decide) kont) ?_
          show own_Go p e below _ (s₁.setTop (mkF m 164 #[.val (.int i0), .val (.int i1), .val (.int i2), .val (.int i3), .val (.int i4), .val (.int (Int32.ofNat de)), .val (.int (Int32.ofNat nu)), .val (.int (Int32.ofNat ep)), .val (.int r1), .val (.int l1), .val (.int v1), .val (.int w1), .val (.int tf), .val (.int (0 : Int32)), .val (.int cp), .unset, .unset, .unset, .unset, .unset, .unset, .unset] []))
          refine own_by (fun _ kont => XS.iload X0.here hx rfl (hb hby at_164) rfl kont) ?_
          show own_Go p e below _ (s₁.setTop (mkF m 166 #[.val (.int i0), .val (.int i1), .val (.int i2), .val (.int i3), .val (.int i4), .val (.int (Int32.ofNat de)), .val (.int (Int32.ofNat nu)), .val (.int (Int32.ofNat ep)), .val (.int r1), .val (.int l1), .val (.int v1), .val (.int w1), .val (.int tf), .val (.int (0 : Int32)), .val (.int cp), .unset, .unset, .unset, .unset, .unset, .unset, .unset] [(.int v1)]))
          refine own_by (fun _ kont => XS.istore X0.here hx rfl (hb hby at_166) rfl (l' := #[.val (.int i0), .val (.int i1), .val (.int i2), .val (.int i3), .val (.int i4), .val (.int (Int32.ofNat de)), .val (.int (Int32.ofNat nu)), .val (.int (Int32.ofNat ep)), .val (.int r1), .val (.int l1), .val (.int v1), .val (.int w1), .val (.int tf), .val (.int (0 : Int32)), .val (.int cp), .val (.int v1), .unset, .unset, .unset, .unset, .unset, .unset]) rfl kont) ?_
          show own_Go p e below _ (s₁.setTop (mkF m 168 #[.val (.int i0), .val (.int i1), .val (.int i2), .val (.int i3), .val (.int i4), .val (.int (Int32.ofNat de)), .val (.int (Int32.ofNat nu)), .val (.int (Int32.ofNat ep)), .val (.int r1), .val (.int l1), .val (.int v1), .val (.int w1), .val (.int tf), .val (.int (0 : Int32)), .val (.int cp), .val (.int v1), .unset, .unset, .unset, .unset, .unset, .unset] []))
          refine own_by (fun _ kont => XT.iconstV X0.here hx rfl (0 : Int32) (hb hby at_168) rfl kont) ?_
          show own_Go p e below _ (s₁.setTop (mkF m 169 #[.val (.int i0), .val (.int i1), .val (.int i2), .val (.int i3), .val (.int i4), .val (.int (Int32.ofNat de)), .val (.int (Int32.ofNat nu)), .val (.int (Int32.ofNat ep)), .val (.int r1), .val (.int l1), .val (.int v1), .val (.int w1), .val (.int tf), .val (.int (0 : Int32)), .val (.int cp), .val (.int v1), .unset, .unset, .unset, .unset, .unset, .unset] [(.int (0 : Int32))]))
          refine own_by (fun _ kont => XS.istore X0.here hx rfl (hb hby at_169) rfl (l' := #[.val (.int i0), .val (.int i1), .val (.int i2), .val (.int i3), .val (.int i4), .val (.int (Int32.ofNat de)), .val (.int (Int32.ofNat nu)), .val (.int (Int32.ofNat ep)), .val (.int r1), .val (.int l1), .val (.int v1), .val (.int w1), .val (.int tf), .val (.int (0 : Int32)), .val (.int cp), .val (.int v1), .val (.int (0 : Int32)), .unset, .unset, .unset, .unset, .unset]) rfl kont) ?_
          show own_Go p e below _ (s₁.setTop (mkF m 171 #[.val (.int i0), .val (.int i1), .val (.int i2), .val (.int i3), .val (.int i4), .val (.int (Int32.ofNat de)), .val (.int (Int32.ofNat nu)), .val (.int (Int32.ofNat ep)), .val (.int r1), .val (.int l1), .val (.int v1), .val (.int w1), .val (.int tf), .val (.int (0 : Int32)), .val (.int cp), .val (.int v1), .val (.int (0 : Int32)), .unset, .unset, .unset, .unset, .unset] []))
          exact own_e171 X0 hx hby hlk hret hZ hown hw hml N0 e0 i0 i1 i2 i3 i4 r1 l1 v1 w1 _ _ cp _ _ de nu ep cap Z0 hcp (by omega) hr1 hl1 d1 d7 u1 u7 e7 hdn hed (Or.inr (Or.inr ⟨by omega, rfl, hv1, rfl⟩))
      · refine own_by (fun _ kont => XS.ifNo X0.here hx rfl (hb hby at_115) rfl (XT.i0_eq_f h115) kont) ?_
        show own_Go p e below _ (s₁.setTop (mkF m 118 #[.val (.int i0), .val (.int i1), .val (.int i2), .val (.int i3), .val (.int i4), .val (.int (Int32.ofNat de)), .val (.int (Int32.ofNat nu)), .val (.int (Int32.ofNat ep)), .val (.int r1), .val (.int l1), .val (.int v1), .val (.int w1), .val (.int tf), .unset, .unset, .unset, .unset, .unset, .unset, .unset, .unset, .unset] []))
        refine own_by (fun _ kont => XT.iconstV X0.here hx rfl (1 : Int32) (hb hby at_118) rfl kont) ?_
        show own_Go p e below _ (s₁.setTop (mkF m 119 #[.val (.int i0), .val (.int i1), .val (.int i2), .val (.int i3), .val (.int i4), .val (.int (Int32.ofNat de)), .val (.int (Int32.ofNat nu)), .val (.int (Int32.ofNat ep)), .val (.int r1), .val (.int l1), .val (.int v1), .val (.int w1), .val (.int tf), .unset, .unset, .unset, .unset, .unset, .unset, .unset, .unset, .unset] [(.int (1 : Int32))]))
        refine own_by (fun _ kont => XS.goto X0.here hx rfl (pc0 := 119) (pc' := 123) rfl (hb hby at_119) (by decide) (by decide) kont) ?_
        show own_Go p e below _ (s₁.setTop (mkF m 123 #[.val (.int i0), .val (.int i1), .val (.int i2), .val (.int i3), .val (.int i4), .val (.int (Int32.ofNat de)), .val (.int (Int32.ofNat nu)), .val (.int (Int32.ofNat ep)), .val (.int r1), .val (.int l1), .val (.int v1), .val (.int w1), .val (.int tf), .unset, .unset, .unset, .unset, .unset, .unset, .unset, .unset, .unset] [(.int (1 : Int32))]))
        refine own_by (fun _ kont => XS.istore X0.here hx rfl (hb hby at_123) rfl (l' := #[.val (.int i0), .val (.int i1), .val (.int i2), .val (.int i3), .val (.int i4), .val (.int (Int32.ofNat de)), .val (.int (Int32.ofNat nu)), .val (.int (Int32.ofNat ep)), .val (.int r1), .val (.int l1), .val (.int v1), .val (.int w1), .val (.int tf), .val (.int (1 : Int32)), .unset, .unset, .unset, .unset, .unset, .unset, .unset, .unset]) rfl kont) ?_
        show own_Go p e below _ (s₁.setTop (mkF m 125 #[.val (.int i0), .val (.int i1), .val (.int i2), .val (.int i3), .val (.int i4), .val (.int (Int32.ofNat de)), .val (.int (Int32.ofNat nu)), .val (.int (Int32.ofNat ep)), .val (.int r1), .val (.int l1), .val (.int v1), .val (.int w1), .val (.int tf), .val (.int (1 : Int32)), .unset, .unset, .unset, .unset, .unset, .unset, .unset, .unset] []))
        refine own_by (fun _ kont => XS.iload X0.here hx rfl (hb hby at_125) rfl kont) ?_
        show own_Go p e below _ (s₁.setTop (mkF m 127 #[.val (.int i0), .val (.int i1), .val (.int i2), .val (.int i3), .val (.int i4), .val (.int (Int32.ofNat de)), .val (.int (Int32.ofNat nu)), .val (.int (Int32.ofNat ep)), .val (.int r1), .val (.int l1), .val (.int v1), .val (.int w1), .val (.int tf), .val (.int (1 : Int32)), .unset, .unset, .unset, .unset, .unset, .unset, .unset, .unset] [(.int i4)]))
        refine own_by (fun _ kont => XT.iconstV X0.here hx rfl (2 : Int32) (hb hby at_127) rfl kont) ?_
        show own_Go p e below _ (s₁.setTop (mkF m 128 #[.val (.int i0), .val (.int i1), .val (.int i2), .val (.int i3), .val (.int i4), .val (.int (Int32.ofNat de)), .val (.int (Int32.ofNat nu)), .val (.int (Int32.ofNat ep)), .val (.int r1), .val (.int l1), .val (.int v1), .val (.int w1), .val (.int tf), .val (.int (1 : Int32)), .unset, .unset, .unset, .unset, .unset, .unset, .unset, .unset] [(.int (2 : Int32)), (.int i4)]))
        refine own_by (fun _ kont => XT.iushr X0.here hx rfl (hb hby at_128) rfl kont) ?_
        show own_Go p e below _ (s₁.setTop (mkF m 129 #[.val (.int i0), .val (.int i1), .val (.int i2), .val (.int i3), .val (.int i4), .val (.int (Int32.ofNat de)), .val (.int (Int32.ofNat nu)), .val (.int (Int32.ofNat ep)), .val (.int r1), .val (.int l1), .val (.int v1), .val (.int w1), .val (.int tf), .val (.int (1 : Int32)), .unset, .unset, .unset, .unset, .unset, .unset, .unset, .unset] [(.int (XT.ushr i4 (2 : Int32)))]))
        refine own_by (fun _ kont => XT.iconstV X0.here hx rfl (3 : Int32) (hb hby at_129) rfl kont) ?_
        show own_Go p e below _ (s₁.setTop (mkF m 130 #[.val (.int i0), .val (.int i1), .val (.int i2), .val (.int i3), .val (.int i4), .val (.int (Int32.ofNat de)), .val (.int (Int32.ofNat nu)), .val (.int (Int32.ofNat ep)), .val (.int r1), .val (.int l1), .val (.int v1), .val (.int w1), .val (.int tf), .val (.int (1 : Int32)), .unset, .unset, .unset, .unset, .unset, .unset, .unset, .unset] [(.int (3 : Int32)), (.int (XT.ushr i4 (2 : Int32)))]))
        refine own_by (fun _ kont => XS.iand X0.here hx rfl (hb hby at_130) rfl kont) ?_
        show own_Go p e below _ (s₁.setTop (mkF m 131 #[.val (.int i0), .val (.int i1), .val (.int i2), .val (.int i3), .val (.int i4), .val (.int (Int32.ofNat de)), .val (.int (Int32.ofNat nu)), .val (.int (Int32.ofNat ep)), .val (.int r1), .val (.int l1), .val (.int v1), .val (.int w1), .val (.int tf), .val (.int (1 : Int32)), .unset, .unset, .unset, .unset, .unset, .unset, .unset, .unset] [(.int ((XT.ushr i4 (2 : Int32)) &&& (3 : Int32)))]))
        have bcp := own_and (x := XT.ushr i4 (2 : Int32)) 3 (by decide) (m := 3) rfl
        generalize ((XT.ushr i4 (2 : Int32)) &&& (3 : Int32)) = cp at bcp ⊢
        obtain ⟨cap, hcp⟩ : ∃ k : Nat, cp.toInt = k := ⟨cp.toInt.toNat, by omega⟩
        show own_Go p e below _ (s₁.setTop (mkF m 131 #[.val (.int i0), .val (.int i1), .val (.int i2), .val (.int i3), .val (.int i4), .val (.int (Int32.ofNat de)), .val (.int (Int32.ofNat nu)), .val (.int (Int32.ofNat ep)), .val (.int r1), .val (.int l1), .val (.int v1), .val (.int w1), .val (.int tf), .val (.int (1 : Int32)), .unset, .unset, .unset, .unset, .unset, .unset, .unset, .unset] [(.int cp)]))
        refine own_by (fun _ kont => XS.istore X0.here hx rfl (hb hby at_131) rfl (l' := #[.val (.int i0), .val (.int i1), .val (.int i2), .val (.int i3), .val (.int i4), .val (.int (Int32.ofNat de)), .val (.int (Int32.ofNat nu)), .val (.int (Int32.ofNat ep)), .val (.int r1), .val (.int l1), .val (.int v1), .val (.int w1), .val (.int tf), .val (.int (1 : Int32)), .val (.int cp), .unset, .unset, .unset, .unset, .unset, .unset, .unset]) rfl kont) ?_
        show own_Go p e below _ (s₁.setTop (mkF m 133 #[.val (.int i0), .val (.int i1), .val (.int i2), .val (.int i3), .val (.int i4), .val (.int (Int32.ofNat de)), .val (.int (Int32.ofNat nu)), .val (.int (Int32.ofNat ep)), .val (.int r1), .val (.int l1), .val (.int v1), .val (.int w1), .val (.int tf), .val (.int (1 : Int32)), .val (.int cp), .unset, .unset, .unset, .unset, .unset, .unset, .unset] []))
        refine own_by (fun _ kont => XS.iload X0.here hx rfl (hb hby at_133) rfl kont) ?_
        show own_Go p e below _ (s₁.setTop (mkF m 135 #[.val (.int i0), .val (.int i1), .val (.int i2), .val (.int i3), .val (.int i4), .val (.int (Int32.ofNat de)), .val (.int (Int32.ofNat nu)), .val (.int (Int32.ofNat ep)), .val (.int r1), .val (.int l1), .val (.int v1), .val (.int w1), .val (.int tf), .val (.int (1 : Int32)), .val (.int cp), .unset, .unset, .unset, .unset, .unset, .unset, .unset] [(.int (Int32.ofNat ep))]))
        by_cases hz : ep = 0
        · refine own_by (fun _ kont => XS.ifNo X0.here hx rfl (hb hby at_135) rfl (XT.i0_ne_f ((own_inj (b := 0) (by omega) (by omega)).mpr hz)) kont) ?_
          show own_Go p e below _ (s₁.setTop (mkF m 138 #[.val (.int i0), .val (.int i1), .val (.int i2), .val (.int i3), .val (.int i4), .val (.int (Int32.ofNat de)), .val (.int (Int32.ofNat nu)), .val (.int (Int32.ofNat ep)), .val (.int r1), .val (.int l1), .val (.int v1), .val (.int w1), .val (.int tf), .val (.int (1 : Int32)), .val (.int cp), .unset, .unset, .unset, .unset, .unset, .unset, .unset] []))
          refine own_by (fun _ kont => XS.iload X0.here hx rfl (hb hby at_138) rfl kont) ?_
          show own_Go p e below _ (s₁.setTop (mkF m 140 #[.val (.int i0), .val (.int i1), .val (.int i2), .val (.int i3), .val (.int i4), .val (.int (Int32.ofNat de)), .val (.int (Int32.ofNat nu)), .val (.int (Int32.ofNat ep)), .val (.int r1), .val (.int l1), .val (.int v1), .val (.int w1), .val (.int tf), .val (.int (1 : Int32)), .val (.int cp), .unset, .unset, .unset, .unset, .unset, .unset, .unset] [(.int v1)]))
          refine own_by (fun _ kont => XS.istore X0.here hx rfl (hb hby at_140) rfl (l' := #[.val (.int i0), .val (.int i1), .val (.int i2), .val (.int i3), .val (.int i4), .val (.int (Int32.ofNat de)), .val (.int (Int32.ofNat nu)), .val (.int (Int32.ofNat ep)), .val (.int r1), .val (.int l1), .val (.int v1), .val (.int w1), .val (.int tf), .val (.int (1 : Int32)), .val (.int cp), .val (.int v1), .unset, .unset, .unset, .unset, .unset, .unset]) rfl kont) ?_
          show own_Go p e below _ (s₁.setTop (mkF m 142 #[.val (.int i0), .val (.int i1), .val (.int i2), .val (.int i3), .val (.int i4), .val (.int (Int32.ofNat de)), .val (.int (Int32.ofNat nu)), .val (.int (Int32.ofNat ep)), .val (.int r1), .val (.int l1), .val (.int v1), .val (.int w1), .val (.int tf), .val (.int (1 : Int32)), .val (.int cp), .val (.int v1), .unset, .unset, .unset, .unset, .unset, .unset] []))
          refine own_by (fun _ kont => XS.iload X0.here hx rfl (hb hby at_142) rfl kont) ?_
          show own_Go p e below _ (s₁.setTop (mkF m 144 #[.val (.int i0), .val (.int i1), .val (.int i2), .val (.int i3), .val (.int i4), .val (.int (Int32.ofNat de)), .val (.int (Int32.ofNat nu)), .val (.int (Int32.ofNat ep)), .val (.int r1), .val (.int l1), .val (.int v1), .val (.int w1), .val (.int tf), .val (.int (1 : Int32)), .val (.int cp), .val (.int v1), .unset, .unset, .unset, .unset, .unset, .unset] [(.int w1)]))
          refine own_by (fun _ kont => XS.istore X0.here hx rfl (hb hby at_144) rfl (l' := #[.val (.int i0), .val (.int i1), .val (.int i2), .val (.int i3), .val (.int i4), .val (.int (Int32.ofNat de)), .val (.int (Int32.ofNat nu)), .val (.int (Int32.ofNat ep)), .val (.int r1), .val (.int l1), .val (.int v1), .val (.int w1), .val (.int tf), .val (.int (1 : Int32)), .val (.int cp), .val (.int v1), .val (.int w1), .unset, .unset, .unset, .unset, .unset]) rfl kont) ?_
          show own_Go p e below _ (s₁.setTop (mkF m 146 #[.val (.int i0), .val (.int i1), .val (.int i2), .val (.int i3), .val (.int i4), .val (.int (Int32.ofNat de)), .val (.int (Int32.ofNat nu)), .val (.int (Int32.ofNat ep)), .val (.int r1), .val (.int l1), .val (.int v1), .val (.int w1), .val (.int tf), .val (.int (1 : Int32)), .val (.int cp), .val (.int v1), .val (.int w1), .unset, .unset, .unset, .unset, .unset] []))
          refine own_by (fun _ kont => XS.goto X0.here hx rfl (pc0 := 146) (pc' := 171) rfl (hb hby at_146) (by decide) (by decide) kont) ?_
          show own_Go p e below _ (s₁.setTop (mkF m 171 #[.val (.int i0), .val (.int i1), .val (.int i2), .val (.int i3), .val (.int i4), .val (.int (Int32.ofNat de)), .val (.int (Int32.ofNat nu)), .val (.int (Int32.ofNat ep)), .val (.int r1), .val (.int l1), .val (.int v1), .val (.int w1), .val (.int tf), .val (.int (1 : Int32)), .val (.int cp), .val (.int v1), .val (.int w1), .unset, .unset, .unset, .unset, .unset] []))
          exact own_e171 X0 hx hby hlk hret hZ hown hw hml N0 e0 i0 i1 i2 i3 i4 r1 l1 v1 w1 _ _ cp _ _ de nu ep cap Z0 hcp (by omega) hr1 hl1 d1 d7 u1 u7 e7 hdn hed (Or.inl hz)
        · refine own_by (fun _ kont => XS.ifYes X0.here hx rfl (pc0 := 135) (pc' := 149) rfl (hb hby at_135) rfl (XT.i0_ne_t (fun z => hz ((own_inj (b := 0) (by omega) (by omega)).mp z))) (by decide) (by decide) kont) ?_
          show own_Go p e below _ (s₁.setTop (mkF m 149 #[.val (.int i0), .val (.int i1), .val (.int i2), .val (.int i3), .val (.int i4), .val (.int (Int32.ofNat de)), .val (.int (Int32.ofNat nu)), .val (.int (Int32.ofNat ep)), .val (.int r1), .val (.int l1), .val (.int v1), .val (.int w1), .val (.int tf), .val (.int (1 : Int32)), .val (.int cp), .unset, .unset, .unset, .unset, .unset, .unset, .unset] []))
          refine own_by (fun _ kont => XS.iload X0.here hx rfl (hb hby at_149) rfl kont) ?_
          show own_Go p e below _ (s₁.setTop (mkF m 151 #[.val (.int i0), .val (.int i1), .val (.int i2), .val (.int i3), .val (.int i4), .val (.int (Int32.ofNat de)), .val (.int (Int32.ofNat nu)), .val (.int (Int32.ofNat ep)), .val (.int r1), .val (.int l1), .val (.int v1), .val (.int w1), .val (.int tf), .val (.int (1 : Int32)), .val (.int cp), .unset, .unset, .unset, .unset, .unset, .unset, .unset] [(.int (1 : Int32))]))
          refine own_by (fun _ kont => XS.ifNo X0.here hx rfl (hb hby at_151) rfl (XT.i0_eq_f (by decide)) kont) ?_
          show own_Go p e below _ (s₁.setTop (mkF m 154 #[.val (.int i0), .val (.int i1), .val (.int i2), .val (.int i3), .val (.int i4), .val (.int (Int32.ofNat de)), .val (.int (Int32.ofNat nu)), .val (.int (Int32.ofNat ep)), .val (.int r1), .val (.int l1), .val (.int v1), .val (.int w1), .val (.int tf), .val (.int (1 : Int32)), .val (.int cp), .unset, .unset, .unset, .unset, .unset, .unset, .unset] []))
          refine own_by (fun _ kont => XT.iconstV X0.here hx rfl (0 : Int32) (hb hby at_154) rfl kont) ?_
          show own_Go p e below _ (s₁.setTop (mkF m 155 #[.val (.int i0), .val (.int i1), .val (.int i2), .val (.int i3), .val (.int i4), .val (.int (Int32.ofNat de)), .val (.int (Int32.ofNat nu)), .val (.int (Int32.ofNat ep)), .val (.int r1), .val (.int l1), .val (.int v1), .val (.int w1), .val (.int tf), .val (.int (1 : Int32)), .val (.int cp), .unset, .unset, .unset, .unset, .unset, .unset, .unset] [(.int (0 : Int32))]))
          refine own_by (fun _ kont => XS.istore X0.here hx rfl (hb hby at_155) rfl (l' := #[.val (.int i0), .val (.int i1), .val (.int i2), .val (.int i3), .val (.int i4), .val (.int (Int32.ofNat de)), .val (.int (Int32.ofNat nu)), .val (.int (Int32.ofNat ep)), .val (.int r1), .val (.int l1), .val (.int v1), .val (.int w1), .val (.int tf), .val (.int (1 : Int32)), .val (.int cp), .val (.int (0 : Int32)), .unset, .unset, .unset, .unset, .unset, .unset]) rfl kont) ?_
          show own_Go p e below _ (s₁.setTop (mkF m 157 #[.val (.int i0), .val (.int i1), .val (.int i2), .val (.int i3), .val (.int i4), .val (.int (Int32.ofNat de)), .val (.int (Int32.ofNat nu)), .val (.int (Int32.ofNat ep)), .val (.int r1), .val (.int l1), .val (.int v1), .val (.int w1), .val (.int tf), .val (.int (1 : Int32)), .val (.int cp), .val (.int (0 : Int32)), .unset, .unset, .unset, .unset, .unset, .unset] []))
          refine own_by (fun _ kont => XS.iload X0.here hx rfl (hb hby at_157) rfl kont) ?_
          show own_Go p e below _ (s₁.setTop (mkF m 159 #[.val (.int i0), .val (.int i1), .val (.int i2), .val (.int i3), .val (.int i4), .val (.int (Int32.ofNat de)), .val (.int (Int32.ofNat nu)), .val (.int (Int32.ofNat ep)), .val (.int r1), .val (.int l1), .val (.int v1), .val (.int w1), .val (.int tf), .val (.int (1 : Int32)), .val (.int cp), .val (.int (0 : Int32)), .unset, .unset, .unset, .unset, .unset, .unset] [(.int v1)]))
          refine own_by (fun _ kont => XS.istore X0.here hx rfl (hb hby at_159) rfl (l' := #[.val (.int i0), .val (.int i1), .val (.int i2), .val (.int i3), .val (.int i4), .val (.int (Int32.ofNat de)), .val (.int (Int32.ofNat nu)), .val (.int (Int32.ofNat ep)), .val (.int r1), .val (.int l1), .val (.int v1), .val (.int w1), .val (.int tf), .val (.int (1 : Int32)), .val (.int cp), .val (.int (0 : Int32)), .val (.int v1), .unset, .unset, .unset, .unset, .unset]) rfl kont) ?_
          show own_Go p e below _ (s₁.setTop (mkF m 161 #[.val (.int i0), .val (.int i1), .val (.int i2), .val (.int i3), .val (.int i4), .val (.int (Int32.ofNat de)), .val (.int (Int32.ofNat nu)), .val (.int (Int32.ofNat ep)), .val (.int r1), .val (.int l1), .val (.int v1), .val (.int w1), .val (.int tf), .val (.int (1 : Int32)), .val (.int cp), .val (.int (0 : Int32)), .val (.int v1), .unset, .unset, .unset, .unset, .unset] []))
          refine own_by (fun _ kont => XS.goto X0.here hx rfl (pc0 := 161) (pc' := 171) rfl (hb hby at_161) (by decide) (by decide) kont) ?_
          show own_Go p e below _ (s₁.setTop (mkF m 171 #[.val (.int i0), .val (.int i1), .val (.int i2), .val (.int i3), .val (.int i4), .val (.int (Int32.ofNat de)), .val (.int (Int32.ofNat nu)), .val (.int (Int32.ofNat ep)), .val (.int r1), .val (.int l1), .val (.int v1), .val (.int w1), .val (.int tf), .val (.int (1 : Int32)), .val (.int cp), .val (.int (0 : Int32)), .val (.int v1), .unset, .unset, .unset, .unset, .unset] []))
          exact own_e171 X0 hx hby hlk hret hZ hown hw hml N0 e0 i0 i1 i2 i3 i4 r1 l1 v1 w1 _ _ cp _ _ de nu ep cap Z0 hcp (by omega) hr1 hl1 d1 d7 u1 u7 e7 hdn hed (Or.inr (Or.inl ⟨by omega, by decide, rfl, hv1⟩))
    by_cases h101 : (i4 &&& (1 : Int32)) = (0 : Int32)
    · refine own_by (fun _ kont => XS.ifYes X0.here hx rfl (pc0 := 101) (pc' := 108) rfl (hb hby at_101) rfl (XT.i0_eq_t h101) (by decide) (by decide) kont) ?_
      show own_Go p e below _ (s₁.setTop (mkF m 108 #[.val (.int i0), .val (.int i1), .val (.int i2), .val (.int i3), .val (.int i4), .val (.int (Int32.ofNat de)), .val (.int (Int32.ofNat nu)), .val (.int (Int32.ofNat ep)), .val (.int r1), .val (.int l1), .val (.int v1), .val (.int w1), .unset, .unset, .unset, .unset, .unset, .unset, .unset, .unset, .unset, .unset] []))
      refine own_by (fun _ kont => XT.iconstV X0.here hx rfl (0 : Int32) (hb hby at_108) rfl kont) ?_
      show own_Go p e below _ (s₁.setTop (mkF m 109 #[.val (.int i0), .val (.int i1), .val (.int i2), .val (.int i3), .val (.int i4), .val (.int (Int32.ofNat de)), .val (.int (Int32.ofNat nu)), .val (.int (Int32.ofNat ep)), .val (.int r1), .val (.int l1), .val (.int v1), .val (.int w1), .unset, .unset, .unset, .unset, .unset, .unset, .unset, .unset, .unset, .unset] [(.int (0 : Int32))]))
      exact key2 _
    · refine own_by (fun _ kont => XS.ifNo X0.here hx rfl (hb hby at_101) rfl (XT.i0_eq_f h101) kont) ?_
      show own_Go p e below _ (s₁.setTop (mkF m 104 #[.val (.int i0), .val (.int i1), .val (.int i2), .val (.int i3), .val (.int i4), .val (.int (Int32.ofNat de)), .val (.int (Int32.ofNat nu)), .val (.int (Int32.ofNat ep)), .val (.int r1), .val (.int l1), .val (.int v1), .val (.int w1), .unset, .unset, .unset, .unset, .unset, .unset, .unset, .unset, .unset, .unset] []))
      refine own_by (fun _ kont => XT.iconstV X0.here hx rfl (1 : Int32) (hb hby at_104) rfl kont) ?_
      show own_Go p e below _ (s₁.setTop (mkF m 105 #[.val (.int i0), .val (.int i1), .val (.int i2), .val (.int i3), .val (.int i4), .val (.int (Int32.ofNat de)), .val (.int (Int32.ofNat nu)), .val (.int (Int32.ofNat ep)), .val (.int r1), .val (.int l1), .val (.int v1), .val (.int w1), .unset, .unset, .unset, .unset, .unset, .unset, .unset, .unset, .unset, .unset] [(.int (1 : Int32))]))
      refine own_by (fun _ kont => XS.goto X0.here hx rfl (pc0 := 105) (pc' := 109) rfl (hb hby at_105) (by decide) (by decide) kont) ?_
      show own_Go p e below _ (s₁.setTop (mkF m 109 #[.val (.int i0), .val (.int i1), .val (.int i2), .val (.int i3), .val (.int i4), .val (.int (Int32.ofNat de)), .val (.int (Int32.ofNat nu)), .val (.int (Int32.ofNat ep)), .val (.int r1), .val (.int l1), .val (.int v1), .val (.int w1), .unset, .unset, .unset, .unset, .unset, .unset, .unset, .unset, .unset, .unset] [(.int (1 : Int32))]))
      exact key2 _
  by_cases hA : ex = de
  · refine own_by (fun _ kont => XS.icmpYes X0.here hx rfl (pc0 := 41) (pc' := 51) rfl (hb hby at_41) rfl (XT.ii_eq_t ((own_inj (by omega) (by omega)).mpr hA)) (by decide) (by decide) kont) ?_
    show own_Go p e below _ (s₁.setTop (mkF m 51 #[.val (.int i0), .val (.int i1), .val (.int i2), .val (.int i3), .val (.int i4), .val (.int (Int32.ofNat de)), .val (.int (Int32.ofNat nu)), .val (.int (Int32.ofNat ex)), .unset, .unset, .unset, .unset, .unset, .unset, .unset, .unset, .unset, .unset, .unset, .unset, .unset, .unset] []))
    refine own_by (fun _ kont => XT.iconstV X0.here hx rfl (0 : Int32) (hb hby at_51) rfl kont) ?_
    show own_Go p e below _ (s₁.setTop (mkF m 52 #[.val (.int i0), .val (.int i1), .val (.int i2), .val (.int i3), .val (.int i4), .val (.int (Int32.ofNat de)), .val (.int (Int32.ofNat nu)), .val (.int (Int32.ofNat ex)), .unset, .unset, .unset, .unset, .unset, .unset, .unset, .unset, .unset, .unset, .unset, .unset, .unset, .unset] [(.int (0 : Int32))]))
    refine own_by (fun _ kont => XS.istore X0.here hx rfl (hb hby at_52) rfl (l' := #[.val (.int i0), .val (.int i1), .val (.int i2), .val (.int i3), .val (.int i4), .val (.int (Int32.ofNat de)), .val (.int (Int32.ofNat nu)), .val (.int (0 : Int32)), .unset, .unset, .unset, .unset, .unset, .unset, .unset, .unset, .unset, .unset, .unset, .unset, .unset, .unset]) rfl kont) ?_
    show own_Go p e below _ (s₁.setTop (mkF m 54 #[.val (.int i0), .val (.int i1), .val (.int i2), .val (.int i3), .val (.int i4), .val (.int (Int32.ofNat de)), .val (.int (Int32.ofNat nu)), .val (.int (0 : Int32)), .unset, .unset, .unset, .unset, .unset, .unset, .unset, .unset, .unset, .unset, .unset, .unset, .unset, .unset] []))
    exact key 0 (by omega) (Or.inl rfl)
  refine own_by (fun _ kont => XS.icmpNo X0.here hx rfl (hb hby at_41) rfl (XT.ii_eq_f (fun z => hA ((own_inj (by omega) (by omega)).mp z))) kont) ?_
  show own_Go p e below _ (s₁.setTop (mkF m 44 #[.val (.int i0), .val (.int i1), .val (.int i2), .val (.int i3), .val (.int i4), .val (.int (Int32.ofNat de)), .val (.int (Int32.ofNat nu)), .val (.int (Int32.ofNat ex)), .unset, .unset, .unset, .unset, .unset, .unset, .unset, .unset, .unset, .unset, .unset, .unset, .unset, .unset] []))
  refine own_by (fun _ kont => XS.iload X0.here hx rfl (hb hby at_44) rfl kont) ?_
  show own_Go p e below _ (s₁.setTop (mkF m 46 #[.val (.int i0), .val (.int i1), .val (.int i2), .val (.int i3), .val (.int i4), .val (.int (Int32.ofNat de)), .val (.int (Int32.ofNat nu)), .val (.int (Int32.ofNat ex)), .unset, .unset, .unset, .unset, .unset, .unset, .unset, .unset, .unset, .unset, .unset, .unset, .unset, .unset] [(.int (Int32.ofNat ex))]))
  refine own_by (fun _ kont => XS.iload X0.here hx rfl (hb hby at_46) rfl kont) ?_
  show own_Go p e below _ (s₁.setTop (mkF m 48 #[.val (.int i0), .val (.int i1), .val (.int i2), .val (.int i3), .val (.int i4), .val (.int (Int32.ofNat de)), .val (.int (Int32.ofNat nu)), .val (.int (Int32.ofNat ex)), .unset, .unset, .unset, .unset, .unset, .unset, .unset, .unset, .unset, .unset, .unset, .unset, .unset, .unset] [(.int (Int32.ofNat nu)), (.int (Int32.ofNat ex))]))
  by_cases hB : ex = nu
  · refine own_by (fun _ kont => XS.icmpNo X0.here hx rfl (hb hby at_48) rfl (XT.ii_ne_f ((own_inj (by omega) (by omega)).mpr hB)) kont) ?_
    show own_Go p e below _ (s₁.setTop (mkF m 51 #[.val (.int i0), .val (.int i1), .val (.int i2), .val (.int i3), .val (.int i4), .val (.int (Int32.ofNat de)), .val (.int (Int32.ofNat nu)), .val (.int (Int32.ofNat ex)), .unset, .unset, .unset, .unset, .unset, .unset, .unset, .unset, .unset, .unset, .unset, .unset, .unset, .unset] []))
    refine own_by (fun _ kont => XT.iconstV X0.here hx rfl (0 : Int32) (hb hby at_51) rfl kont) ?_
    show own_Go p e below _ (s₁.setTop (mkF m 52 #[.val (.int i0), .val (.int i1), .val (.int i2), .val (.int i3), .val (.int i4), .val (.int (Int32.ofNat de)), .val (.int (Int32.ofNat nu)), .val (.int (Int32.ofNat ex)), .unset, .unset, .unset, .unset, .unset, .unset, .unset, .unset, .unset, .unset, .unset, .unset, .unset, .unset] [(.int (0 : Int32))]))
    refine own_by (fun _ kont => XS.istore X0.here hx rfl (hb hby at_52) rfl (l' := #[.val (.int i0), .val (.int i1), .val (.int i2), .val (.int i3), .val (.int i4), .val (.int (Int32.ofNat de)), .val (.int (Int32.ofNat nu)), .val (.int (0 : Int32)), .unset, .unset, .unset, .unset, .unset, .unset, .unset, .unset, .unset, .unset, .unset, .unset, .unset, .unset]) rfl kont) ?_
    show own_Go p e below _ (s₁.setTop (mkF m 54 #[.val (.int i0), .val (.int i1), .val (.int i2), .val (.int i3), .val (.int i4), .val (.int (Int32.ofNat de)), .val (.int (Int32.ofNat nu)), .val (.int (0 : Int32)), .unset, .unset, .unset, .unset, .unset, .unset, .unset, .unset, .unset, .unset, .unset, .unset, .unset, .unset] []))
    exact key 0 (by omega) (Or.inl rfl)
  · refine own_by (fun _ kont => XS.icmpYes X0.here hx rfl (pc0 := 48) (pc' := 54) rfl (hb hby at_48) rfl (XT.ii_ne_t (fun z => hB ((own_inj (by omega) (by omega)).mp z))) (by decide) (by decide) kont) ?_
    show own_Go p e below _ (s₁.setTop (mkF m 54 #[.val (.int i0), .val (.int i1), .val (.int i2), .val (.int i3), .val (.int i4), .val (.int (Int32.ofNat de)), .val (.int (Int32.ofNat nu)), .val (.int (Int32.ofNat ex)), .unset, .unset, .unset, .unset, .unset, .unset, .unset, .unset, .unset, .unset, .unset, .unset, .unset, .unset] []))
    exact key ex x7 (Or.inr ⟨hA, hB⟩)
set_option maxRecDepth 65536 in
set_option maxHeartbeats 4000000 in
theorem comes_1 {Post : Tables → Env → Array Value → State → Outcome → State → Prop} (hpost : ∀ tb e args s v u, (limb_1_1.after args s (.returned v) u = true ∧ limb_1_2.after args s (.returned v) u = true ∧ True) → FrameEnd s (.returned v) u (Jvm.fieldLocs frame_1_writes args s ++ Jvm.arrayLocs frame_1_arrays args s ++ Jvm.staticLocs frame_1_statics s) 32 256 → Post tb e args s (.returned v) u) :
    ArmFor flags0 classFile x code maxLocals ret World_1 tables_1 room_1 Calls_1 rest_1 Pre_1 Post := by
  intro l hfl _ _ p e ha hc hk s m args below hf hA hF happ hP
  obtain ⟨hcalls, hrest, hpre⟩ := hP
  obtain ⟨-, -, -, hnamed, -, -, -, hat⟩ := (Spec.applies_iff hf).mp happ
  obtain ⟨hg, hn⟩ := and_e (Cond.before_iff.mp (show (Jvm.Cond.and given_1 narrow_1).before args s = true from hpre))
  obtain ⟨h1, g0⟩ := and_e hg
  obtain ⟨q0, g1⟩ := and_e g0
  obtain ⟨q1, g2⟩ := and_e g1
  obtain ⟨q2, g3⟩ := and_e g2
  obtain ⟨q3, g4⟩ := and_e g3
  obtain ⟨w0, w1, w2, w3, w4, rfl⟩ : ∃ w0 w1 w2 w3 w4 : Value, args = #[w0, w1, w2, w3, w4] := by
    have hs : args.size = 5 := by simpa [Cond.value, given_1] using h1
    obtain ⟨L⟩ := args
    match L, hs with
    | [w0, w1, w2, w3, w4], _ => exact ⟨w0, w1, w2, w3, w4, rfl⟩
  have hw := fun d (hd : d ∈ tables_1) => atoms_spec (ws := Jvm.Cond.code x code maxLocals ret :: tables_1) hat d (List.mem_cons_of_mem _ hd)
  obtain ⟨i0, ei0⟩ := is_v q0
  obtain rfl : w0 = (.int i0) := Option.some.inj ei0
  obtain ⟨i1, ei1⟩ := is_v q1
  obtain rfl : w1 = (.int i1) := Option.some.inj ei1
  obtain ⟨i2, ei2⟩ := is_v q2
  obtain rfl : w2 = (.int i2) := Option.some.inj ei2
  obtain ⟨i3, ei3⟩ := is_v q3
  obtain rfl : w3 = (.int i3) := Option.some.inj ei3
  obtain ⟨i4, ei4⟩ := is_v g4
  obtain rfl : w4 = (.int i4) := Option.some.inj ei4
  obtain ⟨n, o, h1, h2, h3, _, L, rfl, ⟨rfl, N⟩, hq⟩ := rmL l s _ hw tables_1 i0 i1 i2 i3 i4 s.heap s.heap.size (Nat.le_refl _) p e ha hc hk s m _ below hf ((Spec.applies_iff_loose hf).mp happ).1 ⟨rfl, State.Warmed39.refl s, rfl⟩ trivial
  refine ⟨n, _, h1, h2, h3, hpost _ _ _ _ _ _ ⟨Cond.after_iff.mpr rfl, Cond.after_iff.mpr (eq_i res_at (Term.int_eval (1)) rfl), trivial⟩ ⟨hq.1, hq.2.1, (hq.2.2.sift fun y hy => Or.inr (N y hy)).mono (by decide) (by decide)⟩⟩
theorem main_1_1 : Claimed_1_1 := comes_1 fun _ _ _ _ _ _ h hF => ⟨h.1, hF⟩
theorem main_1_2 : Claimed_1_2 := comes_1 fun _ _ _ _ _ _ h hF => ⟨h.2.1, hF⟩
end Jvm.Pilot.@@N@@
namespace Jvm.Pilot.@@N@@
open Jvm Jvm.ClassFile Sem Op Lib Jvm.Free Jvm.Stand Jvm.Pilot.@@N@@.Jvm.D
/-! MADE BY PROGRAM (witnessworld.py) out of the Statement's table words and the real class files: 12 classes; the members and pool entries that the words name. The judged class is class 1, her method 1. -/
namespace start1
open Jvm.ClassFile
def u (s : String) : CpInfo := .utf8 (stringToUtf16 s)
/-- a pool by its gaps: so many unusable entries, then the entry; so many at the end -/
def gap : Nat → List CpInfo → List CpInfo
  | 0, r => r
  | n + 1, r => .unusable :: gap n r
def poolList (es : List (Nat × CpInfo)) (last : Nat) : List CpInfo := es.foldr (fun e r => gap e.1 (e.2 :: r)) (gap last [])
def pool (es : List (Nat × CpInfo)) (last : Nat) : Array CpInfo := ⟨poolList es last⟩
def fileOf (pool : Array CpInfo) (this : Nat) (attrs : Array Attribute := #[]) (ms : Array MethodInfo := #[]) (fl : Nat := 33) (sup : Nat := 0) (ifs : Array Nat := #[]) (fds : Array FieldInfo := #[]) : ClassFile where
  minorVersion := 0
  majorVersion := 65
  constantPool := pool
  accessFlags := fl
  thisClass := this
  superClass := sup
  interfaces := ifs
  fields := fds
  methods := ms
  attributes := attrs
def plain (name : String) (sup : Option ClassId) : Class where
  name := name
  kind := .ordinary
  loader := none
  accessFlags := 33
  super := sup
  interfaces := #[]
  cf := none
  fields := #[]
  methods := #[]
  instanceTypes := #[]
  staticTypes := #[]
  resolved := #[]
  callSites := []
  init := .initialized
  statics := none
  mirror := none

def pool0 : Array CpInfo := pool [(5, u "<init>"), (0, u "()V"), (1, .class_ 10), (1, u "java/lang/Object")] 113

def k0c0 : Code := { maxStack := 0, maxLocals := 1, code := object_method_1_code, exceptionTable := #[], attributes := #[] }
def k0m0 : Method := { name := "<init>", desc := "()V", sig := { parameters := [], returnType := none }, accessFlags := 1, code := some k0c0 }
/-- java/lang/Object -/
def k0 : Class := { plain "java/lang/Object" none with
  accessFlags := 33
  interfaces := #[]
  cf := some (fileOf pool0 8 #[] #[{ accessFlags := 1, nameIndex := 5, descriptorIndex := 6, attributes := #[] }] 33 0 #[] #[])
  fields := #[]
  methods := #[k0m0]
  instanceTypes := #[]
  staticTypes := #[]
  resolved := Array.replicate 124 none
  statics := none }

def pool1 : Array CpInfo := pool [(2, .class_ 4), (1, u "java/lang/Object"), (0, u "<init>"), (0, u "()V"), (0, .integer 2147483647), (0, .class_ 9), (0, u "com/example/lambdalane/lambdalane/NodeGraph"), (0, .methodref 8 11), (0, .nameAndType 5 12), (0, u "(IIII)V"), (0, .methodref 8 14), (0, .nameAndType 15 16), (0, u "add"), (0, u "(III)I"), (0, .methodref 8 18), (0, .nameAndType 19 20), (0, u "recolourOutEdge"), (0, u "(II)V"), (0, .methodref 8 22), (0, .nameAndType 23 24), (0, u "outEdgeOf"), (0, u "(I)I"), (0, .methodref 8 26), (0, .nameAndType 27 24), (0, u "colour"), (0, .methodref 8 29), (0, .nameAndType 30 24), (0, u "inEdgeOf"), (0, .class_ 32), (0, u "com/example/lambdalane/lambdalane/NodeGraphRecolourOutEdgePinLaw"), (2, u "law"), (0, u "(IIIII)Z")] 3

def k1m0 : Method := { name := "<init>", desc := "()V", sig := { parameters := [], returnType := none }, accessFlags := 2, code := none }
def k1c1 : Code := { maxStack := 6, maxLocals := 22, code := code, exceptionTable := #[], attributes := #[] }
def k1m1 : Method := { name := "law", desc := "(IIIII)Z", sig := { parameters := [.int, .int, .int, .int, .int], returnType := some .boolean }, accessFlags := 9, code := some k1c1 }
/-- com/example/lambdalane/lambdalane/NodeGraphRecolourOutEdgePinLaw -/
def k1 : Class := { plain "com/example/lambdalane/lambdalane/NodeGraphRecolourOutEdgePinLaw" (some 0) with
  accessFlags := 49
  interfaces := #[]
  cf := some (fileOf pool1 31 #[] #[{ accessFlags := 2, nameIndex := 5, descriptorIndex := 6, attributes := #[] }, { accessFlags := 9, nameIndex := 35, descriptorIndex := 36, attributes := #[] }] 49 2 #[] #[])
  fields := #[]
  methods := #[k1m0, k1m1]
  instanceTypes := #[]
  staticTypes := #[]
  resolved := Array.replicate 40 none
  statics := none }

def pool2 : Array CpInfo := pool [(1, .methodref 2 3), (0, .class_ 4), (0, .nameAndType 5 6), (0, u "java/lang/Object"), (0, u "<init>"), (0, u "()V"), (0, .fieldref 8 9), (0, .class_ 10), (0, .nameAndType 11 12), (0, u "com/example/lambdalane/lambdalane/NodeGraph"), (0, u "nextFresh"), (0, u "I"), (0, .fieldref 8 14), (0, .nameAndType 15 12), (0, u "side"), (0, .fieldref 8 17), (0, .nameAndType 18 12), (0, u "load"), (0, .fieldref 8 20), (0, .nameAndType 21 12), (0, u "colourLimit"), (0, .fieldref 8 23), (0, .nameAndType 24 25), (0, u "left"), (0, u "[I"), (0, .fieldref 8 27), (0, .nameAndType 28 25), (0, u "right"), (0, .fieldref 8 30), (0, .nameAndType 31 25), (0, u "colour"), (0, .fieldref 8 33), (0, .nameAndType 34 25), (0, u "inEdgeOf"), (0, .fieldref 8 36), (0, .nameAndType 37 25), (0, u "outEdgeOf"), (0, .fieldref 8 39), (0, .nameAndType 40 25), (0, u "colourMark"), (0, .methodref 42 43), (0, .class_ 44), (0, .nameAndType 45 46), (0, u "java/util/Arrays"), (0, u "fill"), (0, u "([II)V"), (0, .fieldref 8 48), (0, .nameAndType 49 12), (0, u "size"), (0, .methodref 51 52), (0, .class_ 53), (0, .nameAndType 54 55), (0, u "java/lang/Math"), (0, u "max"), (0, u "(II)I"), (0, .methodref 42 57), (0, .nameAndType 58 59), (0, u "copyOf"), (0, u "([II)[I"), (12, u "(I)I"), (10, u "add"), (12, u "lastMark"), (7, .class_ 106), (1, u "com/example/lambdalane/lambdalane/NodeGraph$Matching"), (17, u "NONE"), (2, u "(IIII)V"), (2, u "(III)I"), (7, u "(II)V"), (9, u "recolourOutEdge")] 44

def k2c0 : Code := { maxStack := 3, maxLocals := 5, code := prog_42_method_1_code, exceptionTable := #[], attributes := #[] }
def k2m0 : Method := { name := "<init>", desc := "(IIII)V", sig := { parameters := [.int, .int, .int, .int], returnType := none }, accessFlags := 0, code := some k2c0 }
def k2c1 : Code := { maxStack := 4, maxLocals := 5, code := prog_42_method_2_code, exceptionTable := #[], attributes := #[] }
def k2m1 : Method := { name := "add", desc := "(III)I", sig := { parameters := [.int, .int, .int], returnType := some .int }, accessFlags := 0, code := some k2c1 }
def k2c2 : Code := { maxStack := 2, maxLocals := 2, code := prog_42_method_12_code, exceptionTable := #[], attributes := #[] }
def k2m2 : Method := { name := "colour", desc := "(I)I", sig := { parameters := [.int], returnType := some .int }, accessFlags := 0, code := some k2c2 }
def k2c3 : Code := { maxStack := 2, maxLocals := 2, code := prog_42_method_18_code, exceptionTable := #[], attributes := #[] }
def k2m3 : Method := { name := "inEdgeOf", desc := "(I)I", sig := { parameters := [.int], returnType := some .int }, accessFlags := 0, code := some k2c3 }
def k2c4 : Code := { maxStack := 2, maxLocals := 2, code := prog_42_method_19_code, exceptionTable := #[], attributes := #[] }
def k2m4 : Method := { name := "outEdgeOf", desc := "(I)I", sig := { parameters := [.int], returnType := some .int }, accessFlags := 0, code := some k2c4 }
def k2c5 : Code := { maxStack := 3, maxLocals := 4, code := prog_42_method_23_code, exceptionTable := #[], attributes := #[] }
def k2m5 : Method := { name := "recolourOutEdge", desc := "(II)V", sig := { parameters := [.int, .int], returnType := none }, accessFlags := 0, code := some k2c5 }
/-- com/example/lambdalane/lambdalane/NodeGraph -/
def k2 : Class := { plain "com/example/lambdalane/lambdalane/NodeGraph" (some 0) with
  accessFlags := 48
  interfaces := #[]
  cf := some (fileOf pool2 8 #[.nestMembers #[104]] #[{ accessFlags := 0, nameIndex := 5, descriptorIndex := 127, attributes := #[] }, { accessFlags := 0, nameIndex := 83, descriptorIndex := 130, attributes := #[] }, { accessFlags := 0, nameIndex := 31, descriptorIndex := 72, attributes := #[] }, { accessFlags := 0, nameIndex := 34, descriptorIndex := 72, attributes := #[] }, { accessFlags := 0, nameIndex := 37, descriptorIndex := 72, attributes := #[] }, { accessFlags := 0, nameIndex := 148, descriptorIndex := 138, attributes := #[] }] 48 2 #[] #[{ accessFlags := 24, nameIndex := 124, descriptorIndex := 12, attributes := #[] }, { accessFlags := 16, nameIndex := 15, descriptorIndex := 12, attributes := #[] }, { accessFlags := 16, nameIndex := 18, descriptorIndex := 12, attributes := #[] }, { accessFlags := 2, nameIndex := 24, descriptorIndex := 25, attributes := #[] }, { accessFlags := 2, nameIndex := 28, descriptorIndex := 25, attributes := #[] }, { accessFlags := 2, nameIndex := 31, descriptorIndex := 25, attributes := #[] }, { accessFlags := 2, nameIndex := 49, descriptorIndex := 12, attributes := #[] }, { accessFlags := 18, nameIndex := 34, descriptorIndex := 25, attributes := #[] }, { accessFlags := 18, nameIndex := 37, descriptorIndex := 25, attributes := #[] }, { accessFlags := 18, nameIndex := 21, descriptorIndex := 12, attributes := #[] }, { accessFlags := 2, nameIndex := 11, descriptorIndex := 12, attributes := #[] }, { accessFlags := 18, nameIndex := 40, descriptorIndex := 25, attributes := #[] }, { accessFlags := 2, nameIndex := 96, descriptorIndex := 12, attributes := #[] }])
  fields := #[{ name := "NONE", type := .int, accessFlags := 24, slot := 0, constantValue := 0 }, { name := "side", type := .int, accessFlags := 16, slot := 0, constantValue := 0 }, { name := "load", type := .int, accessFlags := 16, slot := 1, constantValue := 0 }, { name := "left", type := (.array .int), accessFlags := 2, slot := 2, constantValue := 0 }, { name := "right", type := (.array .int), accessFlags := 2, slot := 3, constantValue := 0 }, { name := "colour", type := (.array .int), accessFlags := 2, slot := 4, constantValue := 0 }, { name := "size", type := .int, accessFlags := 2, slot := 5, constantValue := 0 }, { name := "inEdgeOf", type := (.array .int), accessFlags := 18, slot := 6, constantValue := 0 }, { name := "outEdgeOf", type := (.array .int), accessFlags := 18, slot := 7, constantValue := 0 }, { name := "colourLimit", type := .int, accessFlags := 18, slot := 8, constantValue := 0 }, { name := "nextFresh", type := .int, accessFlags := 2, slot := 9, constantValue := 0 }, { name := "colourMark", type := (.array .int), accessFlags := 18, slot := 10, constantValue := 0 }, { name := "lastMark", type := .int, accessFlags := 2, slot := 11, constantValue := 0 }]
  methods := #[k2m0, k2m1, k2m2, k2m3, k2m4, k2m5]
  instanceTypes := #[.int, .int, (.array .int), (.array .int), (.array .int), .int, (.array .int), (.array .int), .int, .int, (.array .int), .int]
  staticTypes := #[.int]
  resolved := Array.replicate 193 none
  statics := none }

def pool3 : Array CpInfo := pool [(2, .class_ 4), (1, u "java/lang/Object"), (0, u "<init>"), (0, u "()V"), (7, .class_ 16), (1, u "java/util/Arrays"), (57, .class_ 76), (1, u "java/util/Arrays$NaturalOrder"), (36, .class_ 115), (1, u "java/util/Arrays$LegacyMergeSort"), (1, u "Z"), (32, .methodref 151 152), (0, .class_ 153), (0, .nameAndType 154 155), (0, u "java/lang/System"), (0, u "arraycopy"), (0, u "(Ljava/lang/Object;ILjava/lang/Object;II)V"), (146, u "copyOf"), (1, .methodref 305 306), (0, .class_ 307), (0, .nameAndType 308 309), (0, u "java/lang/Math"), (0, u "min"), (0, u "(II)I"), (65, .class_ 376), (0, u "java/util/Arrays$ArrayList"), (68, u "$assertionsDisabled"), (269, u "MIN_ARRAY_SORT_GRAN"), (0, u "I"), (2, u "INSERTIONSORT_THRESHOLD"), (120, u "fill"), (4, u "([II)V"), (25, u "([II)[I"), (103, .class_ 976), (0, u "java/util/Arrays$ArrayItr")] 52

def k3m0 : Method := { name := "<init>", desc := "()V", sig := { parameters := [], returnType := none }, accessFlags := 2, code := none }
def k3c1 : Code := { maxStack := 3, maxLocals := 4, code := jdk_65_method_103_code, exceptionTable := #[], attributes := #[] }
def k3m1 : Method := { name := "fill", desc := "([II)V", sig := { parameters := [(.array .int), .int], returnType := none }, accessFlags := 9, code := some k3c1 }
def k3c2 : Code := { maxStack := 6, maxLocals := 3, code := jdk_65_method_123_code, exceptionTable := #[], attributes := #[] }
def k3m2 : Method := { name := "copyOf", desc := "([II)[I", sig := { parameters := [(.array .int), .int], returnType := some (.array .int) }, accessFlags := 9, code := some k3c2 }
/-- java/util/Arrays -/
def k3 : Class := { plain "java/util/Arrays" (some 0) with
  accessFlags := 49
  interfaces := #[]
  cf := some (fileOf pool3 14 #[.nestMembers #[975, 375, 113, 74]] #[{ accessFlags := 2, nameIndex := 5, descriptorIndex := 6, attributes := #[] }, { accessFlags := 9, nameIndex := 840, descriptorIndex := 845, attributes := #[] }, { accessFlags := 9, nameIndex := 302, descriptorIndex := 871, attributes := #[] }] 49 2 #[] #[{ accessFlags := 26, nameIndex := 715, descriptorIndex := 716, attributes := #[] }, { accessFlags := 26, nameIndex := 719, descriptorIndex := 716, attributes := #[] }, { accessFlags := 4120, nameIndex := 445, descriptorIndex := 117, attributes := #[] }])
  fields := #[{ name := "MIN_ARRAY_SORT_GRAN", type := .int, accessFlags := 26, slot := 0, constantValue := 0 }, { name := "INSERTIONSORT_THRESHOLD", type := .int, accessFlags := 26, slot := 1, constantValue := 0 }, { name := "$assertionsDisabled", type := .boolean, accessFlags := 4120, slot := 2, constantValue := 0 }]
  methods := #[k3m0, k3m1, k3m2]
  instanceTypes := #[]
  staticTypes := #[.int, .int, .boolean]
  resolved := Array.replicate 1029 none
  statics := none }

def pool4 : Array CpInfo := pool [(1, .class_ 2), (0, u "java/lang/Math"), (1, .class_ 6), (1, u "java/lang/Object"), (0, u "<init>"), (0, u "()V"), (89, .class_ 100), (1, u "java/lang/Math$RandomNumberGeneratorHolder"), (71, u "negativeZeroFloatBits"), (0, u "J"), (2, u "negativeZeroDoubleBits"), (21, u "max"), (2, u "min"), (43, u "$assertionsDisabled"), (0, u "Z"), (88, u "(II)I"), (2, u "twoToTheDoubleScaleDown"), (0, u "D"), (4, u "twoToTheDoubleScaleUp"), (9, u "E"), (3, u "PI"), (2, u "TAU"), (2, u "DEGREES_TO_RADIANS"), (0, u "RADIANS_TO_DEGREES")] 94

def k4m0 : Method := { name := "<init>", desc := "()V", sig := { parameters := [], returnType := none }, accessFlags := 2, code := none }
def k4c1 : Code := { maxStack := 2, maxLocals := 2, code := jdk_29_method_65_code, exceptionTable := #[], attributes := #[] }
def k4m1 : Method := { name := "max", desc := "(II)I", sig := { parameters := [.int, .int], returnType := some .int }, accessFlags := 9, code := some k4c1 }
def k4c2 : Code := { maxStack := 2, maxLocals := 2, code := jdk_29_method_69_code, exceptionTable := #[], attributes := #[] }
def k4m2 : Method := { name := "min", desc := "(II)I", sig := { parameters := [.int, .int], returnType := some .int }, accessFlags := 9, code := some k4c2 }
/-- java/lang/Math -/
def k4 : Class := { plain "java/lang/Math" (some 0) with
  accessFlags := 49
  interfaces := #[]
  cf := some (fileOf pool4 1 #[.nestMembers #[98]] #[{ accessFlags := 2, nameIndex := 7, descriptorIndex := 8, attributes := #[] }, { accessFlags := 9, nameIndex := 198, descriptorIndex := 335, attributes := #[] }, { accessFlags := 9, nameIndex := 201, descriptorIndex := 335, attributes := #[] }] 49 4 #[] #[{ accessFlags := 25, nameIndex := 354, descriptorIndex := 339, attributes := #[] }, { accessFlags := 25, nameIndex := 358, descriptorIndex := 339, attributes := #[] }, { accessFlags := 25, nameIndex := 361, descriptorIndex := 339, attributes := #[] }, { accessFlags := 26, nameIndex := 364, descriptorIndex := 339, attributes := #[] }, { accessFlags := 26, nameIndex := 365, descriptorIndex := 339, attributes := #[] }, { accessFlags := 26, nameIndex := 172, descriptorIndex := 173, attributes := #[] }, { accessFlags := 26, nameIndex := 176, descriptorIndex := 173, attributes := #[] }, { accessFlags := 8, nameIndex := 344, descriptorIndex := 339, attributes := #[] }, { accessFlags := 8, nameIndex := 338, descriptorIndex := 339, attributes := #[] }, { accessFlags := 4120, nameIndex := 245, descriptorIndex := 246, attributes := #[] }])
  fields := #[{ name := "E", type := .double, accessFlags := 25, slot := 0, constantValue := 0 }, { name := "PI", type := .double, accessFlags := 25, slot := 1, constantValue := 0 }, { name := "TAU", type := .double, accessFlags := 25, slot := 2, constantValue := 0 }, { name := "DEGREES_TO_RADIANS", type := .double, accessFlags := 26, slot := 3, constantValue := 0 }, { name := "RADIANS_TO_DEGREES", type := .double, accessFlags := 26, slot := 4, constantValue := 0 }, { name := "negativeZeroFloatBits", type := .long, accessFlags := 26, slot := 5, constantValue := 0 }, { name := "negativeZeroDoubleBits", type := .long, accessFlags := 26, slot := 6, constantValue := 0 }, { name := "twoToTheDoubleScaleUp", type := .double, accessFlags := 8, slot := 7, constantValue := 0 }, { name := "twoToTheDoubleScaleDown", type := .double, accessFlags := 8, slot := 8, constantValue := 0 }, { name := "$assertionsDisabled", type := .boolean, accessFlags := 4120, slot := 9, constantValue := 0 }]
  methods := #[k4m0, k4m1, k4m2]
  instanceTypes := #[]
  staticTypes := #[.double, .double, .double, .double, .double, .long, .long, .double, .double, .boolean]
  resolved := Array.replicate 460 none
  statics := none }

def pool5 : Array CpInfo := pool [(2, .class_ 4), (1, u "java/lang/Object"), (0, u "<init>"), (0, u "()V"), (1, .class_ 10), (1, u "java/lang/System"), (0, u "allowSecurityManager"), (0, u "I"), (16, u "cons"), (0, u "Ljava/io/Console;"), (77, .class_ 110), (1, u "java/lang/System$CallersHolder"), (43, u "initialErrStream"), (0, u "Ljava/io/PrintStream;"), (19, u "security"), (0, u "Ljava/lang/SecurityManager;"), (31, .class_ 209), (0, u "java/lang/System$1"), (7, u "props"), (0, u "Ljava/util/Properties;"), (2, u "lineSeparator"), (0, u "Ljava/lang/String;"), (96, .class_ 321), (1, u "java/lang/System$LoggerFinder"), (5, .class_ 328), (0, u "java/lang/System$Logger"), (67, u "err"), (2, u "out"), (91, u "notSupportedJnuEncoding"), (15, u "in"), (17, u "initialIn"), (0, u "Ljava/io/InputStream;"), (35, u "bootLayer"), (0, u "Ljava/lang/ModuleLayer;"), (99, .class_ 664), (0, u "java/lang/System$2"), (9, u "NEVER"), (2, u "MAYBE"), (49, u "arraycopy"), (0, u "(Ljava/lang/Object;ILjava/lang/Object;II)V"), (72, .class_ 802), (0, u "java/lang/System$Logger$Level")] 31

def k5m0 : Method := { name := "<init>", desc := "()V", sig := { parameters := [], returnType := none }, accessFlags := 2, code := none }
def k5m1 : Method := { name := "arraycopy", desc := "(Ljava/lang/Object;ILjava/lang/Object;II)V", sig := { parameters := [(.object "java/lang/Object"), .int, (.object "java/lang/Object"), .int, .int], returnType := none }, accessFlags := 265, code := none }
/-- java/lang/System -/
def k5 : Class := { plain "java/lang/System" (some 0) with
  accessFlags := 49
  interfaces := #[]
  cf := some (fileOf pool5 8 #[.nestMembers #[319, 327, 801, 108, 663, 208]] #[{ accessFlags := 2, nameIndex := 5, descriptorIndex := 6, attributes := #[] }, { accessFlags := 265, nameIndex := 727, descriptorIndex := 728, attributes := #[] }] 49 2 #[] #[{ accessFlags := 25, nameIndex := 507, descriptorIndex := 526, attributes := #[] }, { accessFlags := 25, nameIndex := 399, descriptorIndex := 155, attributes := #[] }, { accessFlags := 25, nameIndex := 396, descriptorIndex := 155, attributes := #[] }, { accessFlags := 10, nameIndex := 525, descriptorIndex := 526, attributes := #[] }, { accessFlags := 26, nameIndex := 674, descriptorIndex := 12, attributes := #[] }, { accessFlags := 26, nameIndex := 677, descriptorIndex := 12, attributes := #[] }, { accessFlags := 10, nameIndex := 11, descriptorIndex := 12, attributes := #[] }, { accessFlags := 74, nameIndex := 175, descriptorIndex := 176, attributes := #[] }, { accessFlags := 10, nameIndex := 491, descriptorIndex := 222, attributes := #[] }, { accessFlags := 74, nameIndex := 29, descriptorIndex := 30, attributes := #[] }, { accessFlags := 74, nameIndex := 154, descriptorIndex := 155, attributes := #[] }, { accessFlags := 10, nameIndex := 217, descriptorIndex := 218, attributes := #[] }, { accessFlags := 10, nameIndex := 221, descriptorIndex := 222, attributes := #[] }, { accessFlags := 8, nameIndex := 562, descriptorIndex := 563, attributes := #[] }])
  fields := #[{ name := "in", type := (.object "java/io/InputStream"), accessFlags := 25, slot := 0, constantValue := 0 }, { name := "out", type := (.object "java/io/PrintStream"), accessFlags := 25, slot := 1, constantValue := 0 }, { name := "err", type := (.object "java/io/PrintStream"), accessFlags := 25, slot := 2, constantValue := 0 }, { name := "initialIn", type := (.object "java/io/InputStream"), accessFlags := 10, slot := 3, constantValue := 0 }, { name := "NEVER", type := .int, accessFlags := 26, slot := 4, constantValue := 0 }, { name := "MAYBE", type := .int, accessFlags := 26, slot := 5, constantValue := 0 }, { name := "allowSecurityManager", type := .int, accessFlags := 10, slot := 6, constantValue := 0 }, { name := "security", type := (.object "java/lang/SecurityManager"), accessFlags := 74, slot := 7, constantValue := 0 }, { name := "notSupportedJnuEncoding", type := (.object "java/lang/String"), accessFlags := 10, slot := 8, constantValue := 0 }, { name := "cons", type := (.object "java/io/Console"), accessFlags := 74, slot := 9, constantValue := 0 }, { name := "initialErrStream", type := (.object "java/io/PrintStream"), accessFlags := 74, slot := 10, constantValue := 0 }, { name := "props", type := (.object "java/util/Properties"), accessFlags := 10, slot := 11, constantValue := 0 }, { name := "lineSeparator", type := (.object "java/lang/String"), accessFlags := 10, slot := 12, constantValue := 0 }, { name := "bootLayer", type := (.object "java/lang/ModuleLayer"), accessFlags := 8, slot := 13, constantValue := 0 }]
  methods := #[k5m0, k5m1]
  instanceTypes := #[]
  staticTypes := #[(.object "java/io/InputStream"), (.object "java/io/PrintStream"), (.object "java/io/PrintStream"), (.object "java/io/InputStream"), .int, .int, .int, (.object "java/lang/SecurityManager"), (.object "java/lang/String"), (.object "java/io/Console"), (.object "java/io/PrintStream"), (.object "java/util/Properties"), (.object "java/lang/String"), (.object "java/lang/ModuleLayer")]
  resolved := Array.replicate 834 none
  statics := none }

def pool6 : Array CpInfo := pool [(1, u "java/lang/Cloneable"), (0, .class_ 1), (0, u "java/lang/Object"), (0, .class_ 3)] 3

/-- java/lang/Cloneable -/
def k6 : Class := { plain "java/lang/Cloneable" (some 0) with
  accessFlags := 1537
  interfaces := #[]
  cf := some (fileOf pool6 2 #[] #[] 1537 4 #[] #[])
  fields := #[]
  methods := #[]
  instanceTypes := #[]
  staticTypes := #[]
  resolved := Array.replicate 8 none
  statics := none }

def pool7 : Array CpInfo := pool [(1, u "java/io/Serializable"), (0, .class_ 1), (0, u "java/lang/Object"), (0, .class_ 3)] 3

/-- java/io/Serializable -/
def k7 : Class := { plain "java/io/Serializable" (some 0) with
  accessFlags := 1537
  interfaces := #[]
  cf := some (fileOf pool7 2 #[] #[] 1537 4 #[] #[])
  fields := #[]
  methods := #[]
  instanceTypes := #[]
  staticTypes := #[]
  resolved := Array.replicate 8 none
  statics := none }

/-- the primitive byte -/
def k8 : Class := { plain "byte" none with kind := .primitive 'B', accessFlags := 0x411 }
/-- [B -/
def k9 : Class := { plain "[B" (some 0) with kind := .array 8 .byte, interfaces := #[6, 7], accessFlags := 1041 }

/-- the primitive int -/
def k10 : Class := { plain "int" none with kind := .primitive 'I', accessFlags := 0x411 }
/-- [I -/
def k11 : Class := { plain "[I" (some 0) with kind := .array 10 .int, interfaces := #[6, 7], accessFlags := 1041 }

def heap : Heap := #[]
def classes : Array Class := #[k0, k1, k2, k3, k4, k5, k6, k7, k8, k9, k10, k11]
def interned : List (Array UInt16 × Addr) := []
def slotsUsed : Nat := 0
def theMethod : MethodId := ⟨1, 1⟩
def args0 : Array Value := #[.int 0, .int 1, .int 2, .int 3, .int 4]
def aboutOver (below : List Frame) : State where
  vm := { classes := classes, interned := interned.toArray }
  heap := heap
  slotsUsed := slotsUsed
  threads := #[{ frames := .invoking theMethod args0 :: below }]
def below0 : List Frame := [.native { method := ⟨0, 0⟩, args := #[] }]
def about1 : State := aboutOver below0
def p0 : Program := .bare "" "" ""
def e0 : Env := launch0.env 0 0 0
theorem w_frames : about1.frames = Frame.invoking theMethod args0 :: below0 := rfl
set_option maxRecDepth 65536 in
theorem w_args : argsFit about1.vm theMethod args0 = true := by decide +kernel
set_option maxRecDepth 65536 in
theorem w_heap : heapFits about1 = true := by decide +kernel
set_option maxRecDepth 65536 in
theorem w_runnable : about1.curStatus? = some .runnable := by decide +kernel
set_option maxRecDepth 65536 in
theorem w_alone : about1.alone = true := by decide +kernel
set_option maxRecDepth 65536 in
theorem w_named : about1.methodNamed? x = some theMethod := by decide +kernel
set_option maxRecDepth 65536 in
theorem w_hears : about1.hears theMethod below0 = true := by decide +kernel
set_option maxRecDepth 65536 in
theorem w_ripe : about1.ripe theMethod args0 below0 = true := by decide +kernel
theorem w_running : about1.status = .running := rfl
set_option maxRecDepth 65536 in
theorem w_room : about1.hasRoom e0.platform room_1 = true :=
  launch0.hasRoom_least _ room_1 (by decide +kernel) (by decide +kernel) (by decide +kernel) (by decide +kernel) (by decide +kernel) (by decide +kernel)
theorem allAtoms_all (ts : List Jvm.Cond) (a : Array Jvm.Value) (st : Jvm.State) : (allAtoms ts).before a st = ts.all (fun c => c.before a st) := by
  induction ts with
  | nil => rfl
  | cons c t ih =>
    show (Jvm.Cond.and c (allAtoms t)).before a st = _
    rw [Jvm.Cond.before_and, ih, List.all_cons]
def words1 : List Jvm.Cond := Jvm.Cond.code x code maxLocals ret :: tables_1
/-- a 'code' word, met by the world's own term for the bytes: nothing is compared byte by byte -/
theorem code_word {y : MethodName} {bytes : ByteArray} {mx : Nat} {rt : Option FieldType} {a : Array Value} {s : State} {m : MethodId} {meth : Method} {c : Code} (h1 : s.methodNamed? y = some m) (h2 : s.vm.method? m = some meth) (h3 : meth.code = some c) (h4 : c.code = bytes)
    (h5 : (c.maxLocals == mx && c.exceptionTable.isEmpty && decide (c.maxStack ≤ mostOperands) && decide (meth.sig.returnType = rt) && !meth.locks && decide (parseMethodDescriptor y.desc = some meth.sig)) = true) : (Jvm.Cond.code y bytes mx rt).before a s = true := by
  simp only [Bool.and_eq_true, beq_iff_eq, Bool.not_eq_true', decide_eq_true_eq] at h5
  obtain ⟨⟨⟨⟨⟨g1, g2⟩, g3⟩, g4⟩, g5⟩, g6⟩ := h5
  simp [Cond.before, Cond.holds, Cond.value, h1, h2, h3, h4, g1, g2, g3, g4, g5, g6]
def isCode : Jvm.Cond → Bool
  | .code _ _ _ _ => true
  | _ => false
theorem all_split {L : List Jvm.Cond} {P : Jvm.Cond → Bool} (h1 : L.all (fun c => isCode c || P c) = true) (h2 : ∀ c ∈ L.filter isCode, P c = true) : L.all P = true := by
  refine List.all_eq_true.mpr fun c hc => ?_
  have h := List.all_eq_true.mp h1 c hc
  rcases Bool.eq_false_or_eq_true (isCode c) with hi | hi
  · exact h2 c (List.mem_filter.mpr ⟨hc, hi⟩)
  · simpa [hi] using h
set_option maxRecDepth 65536 in
theorem w_c0 : (Jvm.Cond.code x code maxLocals ret).before args0 about1 = true := code_word (m := ⟨1, 1⟩) (meth := k1m1) (c := k1c1) (by decide +kernel) rfl rfl rfl (by decide +kernel)
set_option maxRecDepth 65536 in
theorem w_c1 : (Jvm.Cond.code ({ cls := "com/example/lambdalane/lambdalane/NodeGraph", name := "<init>", desc := "(IIII)V" } : Jvm.MethodName) prog_42_method_1_code (5 : Nat) (Option.none : Option Jvm.ClassFile.FieldType)).before args0 about1 = true := code_word (m := ⟨2, 0⟩) (meth := k2m0) (c := k2c0) (by decide +kernel) rfl rfl rfl (by decide +kernel)
set_option maxRecDepth 65536 in
theorem w_c2 : (Jvm.Cond.code ({ cls := "java/lang/Object", name := "<init>", desc := "()V" } : Jvm.MethodName) object_method_1_code (1 : Nat) (Option.none : Option Jvm.ClassFile.FieldType)).before args0 about1 = true := code_word (m := ⟨0, 0⟩) (meth := k0m0) (c := k0c0) (by decide +kernel) rfl rfl rfl (by decide +kernel)
set_option maxRecDepth 65536 in
theorem w_c3 : (Jvm.Cond.code ({ cls := "java/util/Arrays", name := "fill", desc := "([II)V" } : Jvm.MethodName) jdk_65_method_103_code (4 : Nat) (Option.none : Option Jvm.ClassFile.FieldType)).before args0 about1 = true := code_word (m := ⟨3, 1⟩) (meth := k3m1) (c := k3c1) (by decide +kernel) rfl rfl rfl (by decide +kernel)
set_option maxRecDepth 65536 in
theorem w_c4 : (Jvm.Cond.code ({ cls := "com/example/lambdalane/lambdalane/NodeGraph", name := "add", desc := "(III)I" } : Jvm.MethodName) prog_42_method_2_code (5 : Nat) (Option.some Jvm.ClassFile.FieldType.int)).before args0 about1 = true := code_word (m := ⟨2, 1⟩) (meth := k2m1) (c := k2c1) (by decide +kernel) rfl rfl rfl (by decide +kernel)
set_option maxRecDepth 65536 in
theorem w_c5 : (Jvm.Cond.code ({ cls := "java/lang/Math", name := "max", desc := "(II)I" } : Jvm.MethodName) jdk_29_method_65_code (2 : Nat) (Option.some Jvm.ClassFile.FieldType.int)).before args0 about1 = true := code_word (m := ⟨4, 1⟩) (meth := k4m1) (c := k4c1) (by decide +kernel) rfl rfl rfl (by decide +kernel)
set_option maxRecDepth 65536 in
theorem w_c6 : (Jvm.Cond.code ({ cls := "java/util/Arrays", name := "copyOf", desc := "([II)[I" } : Jvm.MethodName) jdk_65_method_123_code (3 : Nat) (Option.some (Jvm.ClassFile.FieldType.array Jvm.ClassFile.FieldType.int))).before args0 about1 = true := code_word (m := ⟨3, 2⟩) (meth := k3m2) (c := k3c2) (by decide +kernel) rfl rfl rfl (by decide +kernel)
set_option maxRecDepth 65536 in
theorem w_c7 : (Jvm.Cond.code ({ cls := "java/lang/Math", name := "min", desc := "(II)I" } : Jvm.MethodName) jdk_29_method_69_code (2 : Nat) (Option.some Jvm.ClassFile.FieldType.int)).before args0 about1 = true := code_word (m := ⟨4, 2⟩) (meth := k4m2) (c := k4c2) (by decide +kernel) rfl rfl rfl (by decide +kernel)
set_option maxRecDepth 65536 in
theorem w_c8 : (Jvm.Cond.code ({ cls := "com/example/lambdalane/lambdalane/NodeGraph", name := "recolourOutEdge", desc := "(II)V" } : Jvm.MethodName) prog_42_method_23_code (4 : Nat) (Option.none : Option Jvm.ClassFile.FieldType)).before args0 about1 = true := code_word (m := ⟨2, 5⟩) (meth := k2m5) (c := k2c5) (by decide +kernel) rfl rfl rfl (by decide +kernel)
set_option maxRecDepth 65536 in
theorem w_c9 : (Jvm.Cond.code ({ cls := "com/example/lambdalane/lambdalane/NodeGraph", name := "outEdgeOf", desc := "(I)I" } : Jvm.MethodName) prog_42_method_19_code (2 : Nat) (Option.some Jvm.ClassFile.FieldType.int)).before args0 about1 = true := code_word (m := ⟨2, 4⟩) (meth := k2m4) (c := k2c4) (by decide +kernel) rfl rfl rfl (by decide +kernel)
set_option maxRecDepth 65536 in
theorem w_c10 : (Jvm.Cond.code ({ cls := "com/example/lambdalane/lambdalane/NodeGraph", name := "colour", desc := "(I)I" } : Jvm.MethodName) prog_42_method_12_code (2 : Nat) (Option.some Jvm.ClassFile.FieldType.int)).before args0 about1 = true := code_word (m := ⟨2, 2⟩) (meth := k2m2) (c := k2c2) (by decide +kernel) rfl rfl rfl (by decide +kernel)
set_option maxRecDepth 65536 in
theorem w_c11 : (Jvm.Cond.code ({ cls := "com/example/lambdalane/lambdalane/NodeGraph", name := "inEdgeOf", desc := "(I)I" } : Jvm.MethodName) prog_42_method_18_code (2 : Nat) (Option.some Jvm.ClassFile.FieldType.int)).before args0 about1 = true := code_word (m := ⟨2, 3⟩) (meth := k2m3) (c := k2c3) (by decide +kernel) rfl rfl rfl (by decide +kernel)
def codes1 : List Jvm.Cond := [Jvm.Cond.code x code maxLocals ret, Jvm.Cond.code ({ cls := "com/example/lambdalane/lambdalane/NodeGraph", name := "<init>", desc := "(IIII)V" } : Jvm.MethodName) prog_42_method_1_code (5 : Nat) (Option.none : Option Jvm.ClassFile.FieldType), Jvm.Cond.code ({ cls := "java/lang/Object", name := "<init>", desc := "()V" } : Jvm.MethodName) object_method_1_code (1 : Nat) (Option.none : Option Jvm.ClassFile.FieldType), Jvm.Cond.code ({ cls := "java/util/Arrays", name := "fill", desc := "([II)V" } : Jvm.MethodName) jdk_65_method_103_code (4 : Nat) (Option.none : Option Jvm.ClassFile.FieldType), Jvm.Cond.code ({ cls := "com/example/lambdalane/lambdalane/NodeGraph", name := "add", desc := "(III)I" } : Jvm.MethodName) prog_42_method_2_code (5 : Nat) (Option.some Jvm.ClassFile.FieldType.int), Jvm.Cond.code ({ cls := "java/lang/Math", name := "max", desc := "(II)I" } : Jvm.MethodName) jdk_29_method_65_code (2 : Nat) (Option.some Jvm.ClassFile.FieldType.int), Jvm.Cond.code ({ cls := "java/util/Arrays", name := "copyOf", desc := "([II)[I" } : Jvm.MethodName) jdk_65_method_123_code (3 : Nat) (Option.some (Jvm.ClassFile.FieldType.array Jvm.ClassFile.FieldType.int)), Jvm.Cond.code ({ cls := "java/lang/Math", name := "min", desc := "(II)I" } : Jvm.MethodName) jdk_29_method_69_code (2 : Nat) (Option.some Jvm.ClassFile.FieldType.int), Jvm.Cond.code ({ cls := "com/example/lambdalane/lambdalane/NodeGraph", name := "recolourOutEdge", desc := "(II)V" } : Jvm.MethodName) prog_42_method_23_code (4 : Nat) (Option.none : Option Jvm.ClassFile.FieldType), Jvm.Cond.code ({ cls := "com/example/lambdalane/lambdalane/NodeGraph", name := "outEdgeOf", desc := "(I)I" } : Jvm.MethodName) prog_42_method_19_code (2 : Nat) (Option.some Jvm.ClassFile.FieldType.int), Jvm.Cond.code ({ cls := "com/example/lambdalane/lambdalane/NodeGraph", name := "colour", desc := "(I)I" } : Jvm.MethodName) prog_42_method_12_code (2 : Nat) (Option.some Jvm.ClassFile.FieldType.int), Jvm.Cond.code ({ cls := "com/example/lambdalane/lambdalane/NodeGraph", name := "inEdgeOf", desc := "(I)I" } : Jvm.MethodName) prog_42_method_18_code (2 : Nat) (Option.some Jvm.ClassFile.FieldType.int)]
set_option maxRecDepth 65536 in
theorem codes_eq : words1.filter isCode = codes1 := rfl
theorem w_codes : ∀ c ∈ words1.filter isCode, c.before args0 about1 = true := by
  rw [codes_eq]
  intro c hc
  simp only [codes1, List.mem_cons, List.not_mem_nil, or_false] at hc
  rcases hc with rfl | rfl | rfl | rfl | rfl | rfl | rfl | rfl | rfl | rfl | rfl | rfl
  · exact w_c0
  · exact w_c1
  · exact w_c2
  · exact w_c3
  · exact w_c4
  · exact w_c5
  · exact w_c6
  · exact w_c7
  · exact w_c8
  · exact w_c9
  · exact w_c10
  · exact w_c11
set_option maxRecDepth 65536 in
theorem w_t1 : (words1.take 24).all (fun c => isCode c || c.before args0 about1) = true := by decide +kernel
set_option maxRecDepth 65536 in
theorem w_t2 : ((words1.drop 24).take 24).all (fun c => isCode c || c.before args0 about1) = true := by decide +kernel
set_option maxRecDepth 65536 in
theorem w_t3 : (((words1.drop 24).drop 24).take 24).all (fun c => isCode c || c.before args0 about1) = true := by decide +kernel
set_option maxRecDepth 65536 in
theorem w_t4 : (((words1.drop 24).drop 24).drop 24).all (fun c => isCode c || c.before args0 about1) = true := by decide +kernel
theorem w_tables : (allAtoms (Jvm.Cond.code x code maxLocals ret :: tables_1)).before args0 about1 = true := by
  rw [allAtoms_all]
  show words1.all (fun c => c.before args0 about1) = true
  refine all_split ?_ w_codes
  rw [← List.take_append_drop 24 words1, List.all_append, w_t1, ← List.take_append_drop 24 (words1.drop 24), List.all_append, w_t2, ← List.take_append_drop 24 ((words1.drop 24).drop 24), List.all_append, w_t3, w_t4]
  rfl
set_option maxRecDepth 65536 in
theorem w_case : (Jvm.Cond.and given_1 narrow_1).before args0 about1 = true := by decide +kernel
theorem w_applies : (headSpec (Jvm.Cond.code x code maxLocals ret :: tables_1) room_1).applies x e0.platform about1 = true :=
  (Spec.applies_iff w_frames).mpr ⟨w_running, w_runnable, w_alone, w_named, w_hears, w_ripe, w_room, w_tables⟩
theorem atStart : AtStart classFile x code maxLocals ret World_1 tables_1 room_1 Calls_1 rest_1 Pre_1 launch0 p0 e0 about1 theMethod args0 below0 :=
  ⟨lists_1, trivial, launch0.admits_env _ _ _, launch0.least_env, fairChoices_fair.cas, fairChoices_fair.clock, w_frames, w_args, w_heap, w_applies, trivial, trivial, w_case⟩
end start1
theorem witness_1 : WitnessClaimed_1 := ⟨start1.p0, start1.e0, start1.about1, start1.theMethod, start1.args0, start1.below0, start1.atStart⟩
end Jvm.Pilot.@@N@@
