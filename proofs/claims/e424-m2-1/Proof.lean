import JvmDerived
import JvmDerived.Pilot.@@N@@Statement
import JvmDerived.Pilot.@@N@@Code
set_option linter.unusedVariables false
set_option linter.unusedSimpArgs false
namespace Jvm.Pilot.@@N@@
open Jvm Jvm.ClassFile Sem Op Lib Jvm.Free Jvm.Stand Jvm.LawKit Jvm.RoadKit Bundle Jvm.Pilot.@@N@@.Jvm.D
/-- what the end of a body says -/
def own_K (s : State) (Q : Option Value → Heap → List Loc → Prop) (C S : Nat) (o : Outcome) (U : State) : Prop := ∃ v L, o = .returned v ∧ Q v U.heap L ∧ FrameEnd s o U L C S
/-- the run goes from S to a return of which K is true -/
def own_Go (p : Program) (e : Env) (below : List Frame) (K : Outcome → State → Prop) (S : State) : Prop := ∃ s₂ o, Steps p.tables e below S s₂ ∧ s₂.status = .running ∧ Ended s₂ below o ∧ K o s₂
/-- the answer of a body that leaves the heap alone -/
def own_Q (val : Value) (h0 : Heap) (n0 : Nat) (v : Option Value) (h : Heap) (L : List Loc) : Prop := v = some val ∧ Fr n0 L ∧ h = h0
section Own
variable {p : Program} {l : Launch} {e : Env} {R : Room} {s : State} {m : MethodId} {args : Array Value} {below : List Frame} {meth : Method} {c : Code} {T : State} {locs : List Loc} {cells slots : Nat} {K : Outcome → State → Prop} {Q : Option Value → Heap → List Loc → Prop} {C S : Nat}
theorem own_by {S S' : State} (h : ∀ t, Steps p.tables e below S' t → Steps p.tables e below S t) (g : own_Go p e below K S') : own_Go p e below K S := by
  obtain ⟨u, o, st, r⟩ := g
  exact ⟨u, o, h u st, r⟩
theorem own_tr {S S' : State} (h : Steps p.tables e below S S') (g : own_Go p e below K S') : own_Go p e below K S := own_by (fun _ k => h.trans k) g
/-- return of a value that is of its kind -/
theorem own_ret (X : Stand p l e R s m args below meth c T locs cells slots) (hx : p.tables.exec = Jvm.exec) (hlk : meth.locks = false) {pc : Nat} {Ls : Array Slot} {w : Value} {t : FieldType} {i : Instr} {rest : List Value} (hret : meth.sig.returnType = some t) (hn : narrow t w = w)
    (hi : (i = .ireturn ∧ (t = .int ∨ t = .boolean ∨ t = .byte ∨ t = .char ∨ t = .short) ∧ ∃ z, w = .int z) ∨ (i = .lreturn ∧ t = .long ∧ ∃ z, w = .long z) ∨ (i = .dreturn ∧ t = .double ∧ ∃ z, w = .double z) ∨ (i = .freturn ∧ t = .float ∧ ∃ z, w = .float z) ∨ (i = .areturn ∧ t.isReference = true ∧ w.isRef = true))
    (hd : decode c.code pc = .ok (i, 1)) (hQ : Q (some w) T.heap locs) (hc : cells ≤ C) (hs : slots ≤ S) : own_Go p e below (own_K s Q C S) (T.setTop (mkF m pc Ls (w :: rest))) := by
  obtain ⟨fs, hr, hrun, hended, hW, hsame⟩ := X.leave (v := some w) (fun h => by rw [hret] at h; cases h) hlk
  exact ⟨_, _, retOut X hx hret hn hi hd hr, hrun, hended, _, _, rfl, hQ, ⟨_, rfl⟩, hW, hsame.mono hc hs⟩
/-- return of a boolean, byte, char or short, narrowed -/
theorem own_retN (X : Stand p l e R s m args below meth c T locs cells slots) (hx : p.tables.exec = Jvm.exec) (hlk : meth.locks = false) {pc : Nat} {Ls : Array Slot} {z : Int32} {t : FieldType} {rest : List Value} (hret : meth.sig.returnType = some t) (ht : t = .boolean ∨ t = .byte ∨ t = .char ∨ t = .short)
    (hd : decode c.code pc = .ok (.ireturn, 1)) (hQ : Q (some (.int (nar t z))) T.heap locs) (hc : cells ≤ C) (hs : slots ≤ S) : own_Go p e below (own_K s Q C S) (T.setTop (mkF m pc Ls (.int z :: rest))) := by
  obtain ⟨fs, hr, hrun, hended, hW, hsame⟩ := X.leave (v := some (.int (nar t z))) (fun h => by rw [hret] at h; cases h) hlk
  exact ⟨_, _, retN X hx hret ht hd hr, hrun, hended, _, _, rfl, hQ, ⟨_, rfl⟩, hW, hsame.mono hc hs⟩
/-- return of nothing -/
theorem own_retV (X : Stand p l e R s m args below meth c T locs cells slots) (hx : p.tables.exec = Jvm.exec) (hlk : meth.locks = false) {pc : Nat} {Ls : Array Slot} (hret : meth.sig.returnType = none)
    (hd : decode c.code pc = .ok (.return_, 1)) (hQ : Q none T.heap locs) (hc : cells ≤ C) (hs : slots ≤ S) : own_Go p e below (own_K s Q C S) (T.setTop (mkF m pc Ls [])) := by
  obtain ⟨fs, hr, hrun, hended, hW, hsame⟩ := X.leave (v := none) (fun _ => rfl) hlk
  exact ⟨_, _, X.returnOut hx hret hd hr, hrun, hended, _, _, rfl, hQ, ⟨_, rfl⟩, hW, hsame.mono hc hs⟩
end Own
/-- the array at a holds n ints, the i-th is f i -/
def own_IA (Z : State) (h : Heap) (a : Addr) (n : Nat) (f : Nat → Int32) : Prop := ∃ c : Cell, Arr Z h a c .int ∧ c.slots.size = n ∧ ∀ i, i < n → c.slots[i]? = some (.int (f i))
theorem own_clamp (j : Int32) : j.toNatClampNeg = j.toInt.toNat := rfl
theorem own_in {j : Int32} {k n : Nat} (hk : k = n) (h0 : 0 ≤ j.toInt) (h1 : j.toInt < n) : ¬ (j < 0 ∨ k ≤ j.toNatClampNeg) := by
  rw [own_clamp, Int32.lt_iff_toInt_lt]
  have : (0 : Int32).toInt = 0 := by decide
  omega
section OwnA
variable {p : Program} {l : Launch} {e : Env} {R : Room} {s : State} {m : MethodId} {args : Array Value} {below : List Frame} {meth : Method} {c : Code} {T : State} {locs : List Loc} {cells slots : Nat} {Z : State} {a0 : Array Value} {h h' : Heap} {a b : Addr} {n sl : Nat} {f : Nat → Int32} {v : Value} {ws : List Addr}
theorem own_IA_lt (F : own_IA Z h a n f) : a < h.size := by obtain ⟨c, A, -⟩ := F; exact A.lt
theorem own_IA_ext (F : own_IA Z h a n f) (E : Ext h h') : own_IA Z h' a n f := by obtain ⟨c, A, r⟩ := F; exact ⟨c, A.ext E, r⟩
theorem own_IA_other (F : own_IA Z h b n f) (W : Wr h h' a sl v) (q : b ≠ a) : own_IA Z h' b n f := by obtain ⟨c, A, r⟩ := F; exact ⟨c, A.other W q, r⟩
theorem own_IA_keep (F : own_IA Z h a n f) (K : Keep h h' ws) (q : a ∉ ws) : own_IA Z h' a n f := by obtain ⟨c, A, r⟩ := F; exact ⟨c, ⟨K.2.1 a c A.1 q, A.2⟩, r⟩
theorem own_IA_congr {f' : Nat → Int32} (F : own_IA Z h a n f) (q : ∀ i, i < n → f i = f' i) : own_IA Z h a n f' := by obtain ⟨c, A, S, r⟩ := F; exact ⟨c, A, S, fun i hi => by rw [r i hi, q i hi]⟩
theorem own_newIA (X : Stand p l e R s m args below meth c T locs cells slots) (hx : p.tables.exec = Jvm.exec) (hZ : Z.Warmed39 s.vm) (w : (Cond.arrayClass .int).before a0 Z = true) (eT : T.heap = h) {g : JFrame} (hg : g.method = m) (hd : decode c.code g.pc = .ok (.newarray .int, 2)) {z : Int32} {rest : List Value} (hs : g.stack = .int z :: rest)
    (n : Nat) (hn : z.toInt = n) {cap : Nat} (hcap : n ≤ cap) (hb : cap * 8 ≤ 536870912) (hc : cells + 1 ≤ R.cells) (hl : slots + cap ≤ R.slots) :
    ∃ (T' : State) (h' : Heap) (a : Addr), Stand p l e R s m args below meth c T' locs (cells + 1) (slots + cap) ∧ T'.heap = h' ∧ a = h.size ∧ Ext h h' ∧ own_IA Z h' a n (fun _ => 0) ∧
      ∀ target, Steps p.tables e below (T'.setTop { g with pc := g.pc + 2, stack := .ref a :: rest }) target → Steps p.tables e below (T.setTop g) target := by
  have hz : ¬ z < 0 := by
    rw [Int32.lt_iff_toInt_lt]
    have : (0 : Int32).toInt = 0 := by decide
    omega
  have hk : z.toNatClampNeg = n := by rw [own_clamp]; omega
  obtain ⟨T', h', cA, X', e', E', A', st⟩ := newP (aty := .int) X hx hZ w eT hg hd hs hz (cap := cap) (by omega) hb hc hl
  refine ⟨T', h', h.size, X', e', rfl, E', ⟨_, A', ?_, fun i hi => ?_⟩, st⟩
  · rw [sz_new]; exact hk
  · show (Array.replicate z.toNatClampNeg (defaultValue .int))[i]? = _
    rw [hk, Array.getElem?_replicate, if_pos hi]; rfl
theorem own_stIA (X : Stand p l e R s m args below meth c T locs cells slots) (hx : p.tables.exec = Jvm.exec) (hZ : Z.Warmed39 s.vm) (eT : T.heap = h) (F : own_IA Z h a n f) {j x : Int32} (h0 : 0 ≤ j.toInt) (h1 : j.toInt < n) {g : JFrame} (hg : g.method = m) {rest : List Value} (hs : g.stack = .int x :: .int j :: .ref a :: rest) (hd : decode c.code g.pc = .ok (.iastore, 1)) :
    ∃ T' h', Stand p l e R s m args below meth c T' (locs ++ [⟨a, j.toNatClampNeg⟩]) cells slots ∧ T'.heap = h' ∧ Wr h h' a j.toNatClampNeg (.int x) ∧ own_IA Z h' a n (fun i => if (i : Int) = j.toInt then x else f i) ∧ ∀ target, Steps p.tables e below (T'.setTop { g with pc := g.pc + 1, stack := rest }) target → Steps p.tables e below (T.setTop g) target := by
  obtain ⟨cl, A, S, V⟩ := F
  obtain ⟨T', h', X', e', W, st⟩ := stI X hx hZ eT A (own_in S h0 h1) hg hs hd
  refine ⟨T', h', X', e', W, ⟨_, A.same W, ?_, fun i hi => ?_⟩, st⟩
  · rw [sz_set]; exact S
  · show (cl.slots.setIfInBounds j.toNatClampNeg (.int x))[i]? = some (.int (if (i : Int) = j.toInt then x else f i))
    rw [Array.getElem?_setIfInBounds, own_clamp]
    by_cases q : (i : Int) = j.toInt
    · rw [if_pos (by omega), if_pos (by omega), if_pos q]
    · rw [if_neg (by omega), if_neg q, V i hi]
theorem own_ldIA {target : State} (X : Stand p l e R s m args below meth c T locs cells slots) (hx : p.tables.exec = Jvm.exec) (hZ : Z.Warmed39 s.vm) (eT : T.heap = h) (F : own_IA Z h a n f) {j : Int32} (h0 : 0 ≤ j.toInt) (h1 : j.toInt < n) {g : JFrame} (hg : g.method = m) {rest : List Value} (hs : g.stack = .int j :: .ref a :: rest) (hd : decode c.code g.pc = .ok (.iaload, 1))
    (hr : Steps p.tables e below (T.setTop { g with pc := g.pc + 1, stack := .int (f j.toInt.toNat) :: rest }) target) : Steps p.tables e below (T.setTop g) target := by
  obtain ⟨cl, A, S, V⟩ := F
  exact X.iaload hx (by rw [eT]; exact A.1) (State.isArrayOf_alike hZ.alike A.2.1) A.2.2 (own_in S h0 h1) (by rw [own_clamp]; exact V _ (by omega)) hg hs hd target hr
theorem own_stN (X : Stand p l e R s m args below meth c T locs cells slots) (hx : p.tables.exec = Jvm.exec) (hZ : Z.Warmed39 s.vm) (eT : T.heap = h) (F : own_IA Z h a n f) {j x : Int32} (k : Nat) (hj : j.toInt = k) (h1 : k < n) {g : JFrame} (hg : g.method = m) {rest : List Value} (hs : g.stack = .int x :: .int j :: .ref a :: rest) (hd : decode c.code g.pc = .ok (.iastore, 1)) :
    ∃ T' h', Stand p l e R s m args below meth c T' (locs ++ [⟨a, j.toNatClampNeg⟩]) cells slots ∧ T'.heap = h' ∧ Wr h h' a j.toNatClampNeg (.int x) ∧ own_IA Z h' a n (fun i => if i = k then x else f i) ∧ ∀ target, Steps p.tables e below (T'.setTop { g with pc := g.pc + 1, stack := rest }) target → Steps p.tables e below (T.setTop g) target := by
  obtain ⟨T', h', X', e', W, H, st⟩ := own_stIA X hx hZ eT F (j := j) (x := x) (by omega) (by omega) hg hs hd
  refine ⟨T', h', X', e', W, own_IA_congr H fun i hi => ?_, st⟩
  show (if (i : Int) = j.toInt then x else f i) = (if i = k then x else f i)
  by_cases q : i = k
  · rw [if_pos (by omega), if_pos q]
  · rw [if_neg (by omega), if_neg q]
theorem own_ldN {target : State} (X : Stand p l e R s m args below meth c T locs cells slots) (hx : p.tables.exec = Jvm.exec) (hZ : Z.Warmed39 s.vm) (eT : T.heap = h) (F : own_IA Z h a n f) {j : Int32} (k : Nat) (hj : j.toInt = k) (h1 : k < n) {g : JFrame} (hg : g.method = m) {rest : List Value} (hs : g.stack = .int j :: .ref a :: rest) (hd : decode c.code g.pc = .ok (.iaload, 1))
    (hr : Steps p.tables e below (T.setTop { g with pc := g.pc + 1, stack := .int (f k) :: rest }) target) : Steps p.tables e below (T.setTop g) target := by
  refine own_ldIA X hx hZ eT F (j := j) (by omega) (by omega) hg hs hd ?_
  rw [show j.toInt.toNat = k by omega]; exact hr
theorem own_lenIA {target : State} (X : Stand p l e R s m args below meth c T locs cells slots) (hx : p.tables.exec = Jvm.exec) (hZ : Z.Warmed39 s.vm) (eT : T.heap = h) (F : own_IA Z h a n f) {z : Int32} (hz : n.toInt32 = z) {g : JFrame} (hg : g.method = m) {rest : List Value} (hs : g.stack = .ref a :: rest) (hd : decode c.code g.pc = .ok (.arraylength, 1))
    (hr : Steps p.tables e below (T.setTop { g with pc := g.pc + 1, stack := .int z :: rest }) target) : Steps p.tables e below (T.setTop g) target := by
  obtain ⟨cl, A, S, V⟩ := F
  refine X.arraylength hx (by rw [eT]; exact A.1) (State.isArrayOf_alike hZ.alike A.2.1) hg hs hd target ?_
  rw [S, hz]; exact hr
end OwnA
theorem own_rem_eq {x m : Int32} (hx : 0 ≤ x.toInt) (hm : 0 < m.toInt) : (x - (x / m) * m).toInt = x.toInt % m.toInt := by
  have h1 := x.toInt_lt
  have h2 := m.toInt_lt
  have q0 : 0 ≤ x.toInt / m.toInt := Int.ediv_nonneg hx (by omega)
  have q1 : x.toInt / m.toInt ≤ x.toInt := Int.ediv_le_self _ hx
  have e : x.toInt % m.toInt + m.toInt * (x.toInt / m.toInt) = x.toInt := Int.emod_add_mul_ediv ..
  have r0 : 0 ≤ x.toInt % m.toInt := Int.emod_nonneg _ (by omega)
  have r1 : x.toInt % m.toInt < m.toInt := Int.emod_lt_of_pos _ hm
  have hd : (x / m).toInt = x.toInt / m.toInt := by
    rw [Int32.toInt_div, Int.tdiv_eq_ediv_of_nonneg hx]
    exact Int.bmod_eq_of_le (by omega) (by omega)
  have hmul : ((x / m) * m).toInt = m.toInt * (x.toInt / m.toInt) := by
    rw [Int32.toInt_mul, hd, Int.mul_comm]
    exact Int.bmod_eq_of_le (by omega) (by omega)
  rw [Int32.toInt_sub, hmul, show x.toInt - m.toInt * (x.toInt / m.toInt) = x.toInt % m.toInt by omega]
  exact Int.bmod_eq_of_le (by omega) (by omega)
theorem own_rem {x m : Int32} (hx : 0 ≤ x.toInt) (hm : 0 < m.toInt) : 0 ≤ (x - (x / m) * m).toInt ∧ (x - (x / m) * m).toInt < m.toInt := by
  rw [own_rem_eq hx hm]
  exact ⟨Int.emod_nonneg _ (by omega), Int.emod_lt_of_pos _ hm⟩
theorem own_toInt_nonneg {x : Int32} (h : x.toBitVec.toNat < 2 ^ 31) : x.toInt = x.toBitVec.toNat := by
  show x.toBitVec.toInt = _
  rw [BitVec.toInt_eq_toNat_cond, if_pos (by omega)]
theorem own_and {x : Int32} (k : Nat) (hk : k < 2 ^ 31) {m : Int32} (hm : m.toBitVec = BitVec.ofNat 32 k) : 0 ≤ (x &&& m).toInt ∧ (x &&& m).toInt ≤ k := by
  have h : (x &&& m).toBitVec.toNat ≤ k := by
    rw [Int32.toBitVec_and, BitVec.toNat_and, hm, BitVec.toNat_ofNat, Nat.mod_eq_of_lt (by omega)]
    exact Nat.and_le_right
  rw [own_toInt_nonneg (by omega)]
  omega
theorem own_ushr {x y : Int32} (k : Nat) (hk : (y &&& 31).toUInt32.toNat % 32 = k) : (XT.ushr x y).toBitVec.toNat = x.toBitVec.toNat / 2 ^ k := by
  show (x.toUInt32 >>> (y &&& 31).toUInt32).toNat = _
  rw [UInt32.toNat_shiftRight, hk, Nat.shiftRight_eq_div_pow]; rfl
theorem own_ushr1 (x : Int32) : 0 ≤ (XT.ushr x 1).toInt := by
  have h := own_ushr (x := x) (y := 1) 1 (by decide)
  have hx := x.toBitVec.isLt
  rw [own_toInt_nonneg (by omega)]; omega
theorem own_pn0 : plainName "com/example/templates_on_trees/templatesontrees/xml/Characters" = true := by first | (simp [plainName, overriddenIn]; done) | decide +kernel
theorem own_pd1 : parseMethodDescriptor "(I)Z" = some ⟨[.int], some .boolean⟩ := by decide +kernel
theorem d1_0 : decode prog_54_method_2_code 0 = .ok (.iload_n 0, 1) := by decide +kernel
theorem d1_1 : decode prog_54_method_2_code 1 = .ok (.bipush 32, 2) := by decide +kernel
theorem d1_3 : decode prog_54_method_2_code 3 = .ok (.if_icmp .ge 27, 3) := by decide +kernel
theorem d1_6 : decode prog_54_method_2_code 6 = .ok (.iload_n 0, 1) := by decide +kernel
theorem d1_7 : decode prog_54_method_2_code 7 = .ok (.bipush 9, 2) := by decide +kernel
theorem d1_9 : decode prog_54_method_2_code 9 = .ok (.if_icmp .eq 15, 3) := by decide +kernel
theorem d1_12 : decode prog_54_method_2_code 12 = .ok (.iload_n 0, 1) := by decide +kernel
theorem d1_13 : decode prog_54_method_2_code 13 = .ok (.bipush 10, 2) := by decide +kernel
theorem d1_15 : decode prog_54_method_2_code 15 = .ok (.if_icmp .eq 9, 3) := by decide +kernel
theorem d1_18 : decode prog_54_method_2_code 18 = .ok (.iload_n 0, 1) := by decide +kernel
theorem d1_19 : decode prog_54_method_2_code 19 = .ok (.bipush 13, 2) := by decide +kernel
theorem d1_21 : decode prog_54_method_2_code 21 = .ok (.if_icmp .ne 7, 3) := by decide +kernel
theorem d1_24 : decode prog_54_method_2_code 24 = .ok (.iconst 1, 1) := by decide +kernel
theorem d1_25 : decode prog_54_method_2_code 25 = .ok (.goto 4, 3) := by decide +kernel
theorem d1_28 : decode prog_54_method_2_code 28 = .ok (.iconst 0, 1) := by decide +kernel
theorem d1_29 : decode prog_54_method_2_code 29 = .ok (.ireturn, 1) := by decide +kernel
theorem d1_30 : decode prog_54_method_2_code 30 = .ok (.iload_n 0, 1) := by decide +kernel
theorem d1_31 : decode prog_54_method_2_code 31 = .ok (.ldc 7, 2) := by decide +kernel
theorem d1_33 : decode prog_54_method_2_code 33 = .ok (.if_icmp .le 27, 3) := by decide +kernel
theorem d1_36 : decode prog_54_method_2_code 36 = .ok (.iload_n 0, 1) := by decide +kernel
theorem d1_37 : decode prog_54_method_2_code 37 = .ok (.ldc 8, 2) := by decide +kernel
theorem d1_39 : decode prog_54_method_2_code 39 = .ok (.if_icmp .lt 9, 3) := by decide +kernel
theorem d1_42 : decode prog_54_method_2_code 42 = .ok (.iload_n 0, 1) := by decide +kernel
theorem d1_43 : decode prog_54_method_2_code 43 = .ok (.ldc 9, 2) := by decide +kernel
theorem d1_45 : decode prog_54_method_2_code 45 = .ok (.if_icmp .le 15, 3) := by decide +kernel
theorem d1_48 : decode prog_54_method_2_code 48 = .ok (.iload_n 0, 1) := by decide +kernel
theorem d1_49 : decode prog_54_method_2_code 49 = .ok (.ldc 10, 2) := by decide +kernel
theorem d1_51 : decode prog_54_method_2_code 51 = .ok (.if_icmp .lt 13, 3) := by decide +kernel
theorem d1_54 : decode prog_54_method_2_code 54 = .ok (.iload_n 0, 1) := by decide +kernel
theorem d1_55 : decode prog_54_method_2_code 55 = .ok (.ldc 11, 2) := by decide +kernel
theorem d1_57 : decode prog_54_method_2_code 57 = .ok (.if_icmp .gt 7, 3) := by decide +kernel
theorem d1_60 : decode prog_54_method_2_code 60 = .ok (.iconst 1, 1) := by decide +kernel
theorem d1_61 : decode prog_54_method_2_code 61 = .ok (.goto 4, 3) := by decide +kernel
theorem d1_64 : decode prog_54_method_2_code 64 = .ok (.iconst 0, 1) := by decide +kernel
theorem d1_65 : decode prog_54_method_2_code 65 = .ok (.ireturn, 1) := by decide +kernel
def f1_64 (l0 : Int32) : Int32 := (0 : Int32)
set_option maxRecDepth 65536 in
set_option maxHeartbeats 4000000 in
theorem w1_64 {p : Program} {l : Launch} {e : Env} {s : State} {m : MethodId} {args : Array Value} {below : List Frame} {meth : Method} {c : Code} {T : State} {locs : List Loc} {Z : State} {a0 : Array Value} {n0 : Nat} {h0 : Heap} (X : Stand p l e ({ frames := 0, cells := 0, slots := 0, locals := 0 } : Room) s m args below meth c T locs 0 0) (hx : p.tables.exec = Jvm.exec) (hby : c.code = prog_54_method_2_code) (hlk : meth.locks = false) (hret : meth.sig.returnType = some .boolean) (hZ : Z.Warmed39 s.vm) (hown : s.vm.findClass "com/example/templates_on_trees/templatesontrees/xml/Characters" = some m.cls) (hw : ∀ d ∈ tables_1, d.before a0 Z = true) (hml : c.maxLocals = 1) (N : Fr n0 locs) (eT : T.heap = h0) (l0 : Int32) :
    own_Go p e below (own_K s (own_Q (.int (f1_64 l0)) h0 n0) 0 0) (T.setTop (mkF m 64 #[.val (.int l0)] [])) := by
  unfold f1_64
  refine own_by (fun _ kont => XT.iconstV X.here hx rfl (0 : Int32) (hb hby d1_64) rfl kont) ?_
  show own_Go p e below _ (T.setTop (mkF m 65 #[.val (.int l0)] [(.int (0 : Int32))]))
  exact own_ret X hx hlk hret rfl (Or.inl ⟨rfl, by simp, _, rfl⟩) (hb hby d1_65) ⟨rfl, N, eT⟩ (Nat.le_refl _) (Nat.le_refl _)
def f1_60 (l0 : Int32) : Int32 := (1 : Int32)
set_option maxRecDepth 65536 in
set_option maxHeartbeats 4000000 in
theorem w1_60 {p : Program} {l : Launch} {e : Env} {s : State} {m : MethodId} {args : Array Value} {below : List Frame} {meth : Method} {c : Code} {T : State} {locs : List Loc} {Z : State} {a0 : Array Value} {n0 : Nat} {h0 : Heap} (X : Stand p l e ({ frames := 0, cells := 0, slots := 0, locals := 0 } : Room) s m args below meth c T locs 0 0) (hx : p.tables.exec = Jvm.exec) (hby : c.code = prog_54_method_2_code) (hlk : meth.locks = false) (hret : meth.sig.returnType = some .boolean) (hZ : Z.Warmed39 s.vm) (hown : s.vm.findClass "com/example/templates_on_trees/templatesontrees/xml/Characters" = some m.cls) (hw : ∀ d ∈ tables_1, d.before a0 Z = true) (hml : c.maxLocals = 1) (N : Fr n0 locs) (eT : T.heap = h0) (l0 : Int32) :
    own_Go p e below (own_K s (own_Q (.int (f1_60 l0)) h0 n0) 0 0) (T.setTop (mkF m 60 #[.val (.int l0)] [])) := by
  unfold f1_60
  refine own_by (fun _ kont => XT.iconstV X.here hx rfl (1 : Int32) (hb hby d1_60) rfl kont) ?_
  show own_Go p e below _ (T.setTop (mkF m 61 #[.val (.int l0)] [(.int (1 : Int32))]))
  refine own_by (fun _ kont => XS.goto X.here hx rfl (pc0 := 61) (pc' := 65) rfl (hb hby d1_61) (by decide) (by decide) kont) ?_
  show own_Go p e below _ (T.setTop (mkF m 65 #[.val (.int l0)] [(.int (1 : Int32))]))
  exact own_ret X hx hlk hret rfl (Or.inl ⟨rfl, by simp, _, rfl⟩) (hb hby d1_65) ⟨rfl, N, eT⟩ (Nat.le_refl _) (Nat.le_refl _)
def f1_48 (l0 : Int32) : Int32 := (if l0 < (65536 : Int32) then (f1_64 l0) else (if (1114111 : Int32) < l0 then (f1_64 l0) else (f1_60 l0)))
set_option maxRecDepth 65536 in
set_option maxHeartbeats 4000000 in
theorem w1_48 {p : Program} {l : Launch} {e : Env} {s : State} {m : MethodId} {args : Array Value} {below : List Frame} {meth : Method} {c : Code} {T : State} {locs : List Loc} {Z : State} {a0 : Array Value} {n0 : Nat} {h0 : Heap} (X : Stand p l e ({ frames := 0, cells := 0, slots := 0, locals := 0 } : Room) s m args below meth c T locs 0 0) (hx : p.tables.exec = Jvm.exec) (hby : c.code = prog_54_method_2_code) (hlk : meth.locks = false) (hret : meth.sig.returnType = some .boolean) (hZ : Z.Warmed39 s.vm) (hown : s.vm.findClass "com/example/templates_on_trees/templatesontrees/xml/Characters" = some m.cls) (hw : ∀ d ∈ tables_1, d.before a0 Z = true) (hml : c.maxLocals = 1) (N : Fr n0 locs) (eT : T.heap = h0) (l0 : Int32) :
    own_Go p e below (own_K s (own_Q (.int (f1_48 l0)) h0 n0) 0 0) (T.setTop (mkF m 48 #[.val (.int l0)] [])) := by
  unfold f1_48
  refine own_by (fun _ kont => XS.iloadN X.here hx rfl (hb hby d1_48) rfl kont) ?_
  show own_Go p e below _ (T.setTop (mkF m 49 #[.val (.int l0)] [(.int l0)]))
  refine own_by (fun _ kont => X.ldcI hx hown (v := (65536 : Int32)) (mvT hZ (hw _ (List.mem_of_getElem? (i := 21) rfl))) rfl (hb hby d1_49) kont) ?_
  show own_Go p e below _ (T.setTop (mkF m 51 #[.val (.int l0)] [(.int (65536 : Int32)), (.int l0)]))
  by_cases c51 : l0 < (65536 : Int32)
  · rw [if_pos c51]
    refine own_by (fun _ kont => XS.icmpYes X.here hx rfl (pc0 := 51) (pc' := 64) rfl (hb hby d1_51) rfl (XT.ii_lt_t c51) (by decide) (by decide) kont) ?_
    show own_Go p e below _ (T.setTop (mkF m 64 #[.val (.int l0)] []))
    exact w1_64 X hx hby hlk hret hZ hown hw hml N eT l0
  · rw [if_neg c51]
    refine own_by (fun _ kont => XS.icmpNo X.here hx rfl (hb hby d1_51) rfl (XT.ii_lt_f c51) kont) ?_
    show own_Go p e below _ (T.setTop (mkF m 54 #[.val (.int l0)] []))
    refine own_by (fun _ kont => XS.iloadN X.here hx rfl (hb hby d1_54) rfl kont) ?_
    show own_Go p e below _ (T.setTop (mkF m 55 #[.val (.int l0)] [(.int l0)]))
    refine own_by (fun _ kont => X.ldcI hx hown (v := (1114111 : Int32)) (mvT hZ (hw _ (List.mem_of_getElem? (i := 22) rfl))) rfl (hb hby d1_55) kont) ?_
    show own_Go p e below _ (T.setTop (mkF m 57 #[.val (.int l0)] [(.int (1114111 : Int32)), (.int l0)]))
    by_cases c57 : (1114111 : Int32) < l0
    · rw [if_pos c57]
      refine own_by (fun _ kont => XS.icmpYes X.here hx rfl (pc0 := 57) (pc' := 64) rfl (hb hby d1_57) rfl (XT.ii_gt_t c57) (by decide) (by decide) kont) ?_
      show own_Go p e below _ (T.setTop (mkF m 64 #[.val (.int l0)] []))
      exact w1_64 X hx hby hlk hret hZ hown hw hml N eT l0
    · rw [if_neg c57]
      refine own_by (fun _ kont => XS.icmpNo X.here hx rfl (hb hby d1_57) rfl (XT.ii_gt_f c57) kont) ?_
      show own_Go p e below _ (T.setTop (mkF m 60 #[.val (.int l0)] []))
      exact w1_60 X hx hby hlk hret hZ hown hw hml N eT l0
def f1_30 (l0 : Int32) : Int32 := (if (55295 : Int32) < l0 then (if l0 < (57344 : Int32) then (f1_48 l0) else (if (65533 : Int32) < l0 then (f1_48 l0) else (f1_60 l0))) else (f1_60 l0))
set_option maxRecDepth 65536 in
set_option maxHeartbeats 4000000 in
theorem w1_30 {p : Program} {l : Launch} {e : Env} {s : State} {m : MethodId} {args : Array Value} {below : List Frame} {meth : Method} {c : Code} {T : State} {locs : List Loc} {Z : State} {a0 : Array Value} {n0 : Nat} {h0 : Heap} (X : Stand p l e ({ frames := 0, cells := 0, slots := 0, locals := 0 } : Room) s m args below meth c T locs 0 0) (hx : p.tables.exec = Jvm.exec) (hby : c.code = prog_54_method_2_code) (hlk : meth.locks = false) (hret : meth.sig.returnType = some .boolean) (hZ : Z.Warmed39 s.vm) (hown : s.vm.findClass "com/example/templates_on_trees/templatesontrees/xml/Characters" = some m.cls) (hw : ∀ d ∈ tables_1, d.before a0 Z = true) (hml : c.maxLocals = 1) (N : Fr n0 locs) (eT : T.heap = h0) (l0 : Int32) :
    own_Go p e below (own_K s (own_Q (.int (f1_30 l0)) h0 n0) 0 0) (T.setTop (mkF m 30 #[.val (.int l0)] [])) := by
  unfold f1_30
  refine own_by (fun _ kont => XS.iloadN X.here hx rfl (hb hby d1_30) rfl kont) ?_
  show own_Go p e below _ (T.setTop (mkF m 31 #[.val (.int l0)] [(.int l0)]))
  refine own_by (fun _ kont => X.ldcI hx hown (v := (55295 : Int32)) (mvT hZ (hw _ (List.mem_of_getElem? (i := 18) rfl))) rfl (hb hby d1_31) kont) ?_
  show own_Go p e below _ (T.setTop (mkF m 33 #[.val (.int l0)] [(.int (55295 : Int32)), (.int l0)]))
  by_cases c33 : (55295 : Int32) < l0
  · rw [if_pos c33]
    refine own_by (fun _ kont => XS.icmpNo X.here hx rfl (hb hby d1_33) rfl (XT.ii_le_f c33) kont) ?_
    show own_Go p e below _ (T.setTop (mkF m 36 #[.val (.int l0)] []))
    refine own_by (fun _ kont => XS.iloadN X.here hx rfl (hb hby d1_36) rfl kont) ?_
    show own_Go p e below _ (T.setTop (mkF m 37 #[.val (.int l0)] [(.int l0)]))
    refine own_by (fun _ kont => X.ldcI hx hown (v := (57344 : Int32)) (mvT hZ (hw _ (List.mem_of_getElem? (i := 19) rfl))) rfl (hb hby d1_37) kont) ?_
    show own_Go p e below _ (T.setTop (mkF m 39 #[.val (.int l0)] [(.int (57344 : Int32)), (.int l0)]))
    by_cases c39 : l0 < (57344 : Int32)
    · rw [if_pos c39]
      refine own_by (fun _ kont => XS.icmpYes X.here hx rfl (pc0 := 39) (pc' := 48) rfl (hb hby d1_39) rfl (XT.ii_lt_t c39) (by decide) (by decide) kont) ?_
      show own_Go p e below _ (T.setTop (mkF m 48 #[.val (.int l0)] []))
      exact w1_48 X hx hby hlk hret hZ hown hw hml N eT l0
    · rw [if_neg c39]
      refine own_by (fun _ kont => XS.icmpNo X.here hx rfl (hb hby d1_39) rfl (XT.ii_lt_f c39) kont) ?_
      show own_Go p e below _ (T.setTop (mkF m 42 #[.val (.int l0)] []))
      refine own_by (fun _ kont => XS.iloadN X.here hx rfl (hb hby d1_42) rfl kont) ?_
      show own_Go p e below _ (T.setTop (mkF m 43 #[.val (.int l0)] [(.int l0)]))
      refine own_by (fun _ kont => X.ldcI hx hown (v := (65533 : Int32)) (mvT hZ (hw _ (List.mem_of_getElem? (i := 20) rfl))) rfl (hb hby d1_43) kont) ?_
      show own_Go p e below _ (T.setTop (mkF m 45 #[.val (.int l0)] [(.int (65533 : Int32)), (.int l0)]))
      by_cases c45 : (65533 : Int32) < l0
      · rw [if_pos c45]
        refine own_by (fun _ kont => XS.icmpNo X.here hx rfl (hb hby d1_45) rfl (XT.ii_le_f c45) kont) ?_
        show own_Go p e below _ (T.setTop (mkF m 48 #[.val (.int l0)] []))
        exact w1_48 X hx hby hlk hret hZ hown hw hml N eT l0
      · rw [if_neg c45]
        refine own_by (fun _ kont => XS.icmpYes X.here hx rfl (pc0 := 45) (pc' := 60) rfl (hb hby d1_45) rfl (XT.ii_le_t c45) (by decide) (by decide) kont) ?_
        show own_Go p e below _ (T.setTop (mkF m 60 #[.val (.int l0)] []))
        exact w1_60 X hx hby hlk hret hZ hown hw hml N eT l0
  · rw [if_neg c33]
    refine own_by (fun _ kont => XS.icmpYes X.here hx rfl (pc0 := 33) (pc' := 60) rfl (hb hby d1_33) rfl (XT.ii_le_t c33) (by decide) (by decide) kont) ?_
    show own_Go p e below _ (T.setTop (mkF m 60 #[.val (.int l0)] []))
    exact w1_60 X hx hby hlk hret hZ hown hw hml N eT l0
def f1_28 (l0 : Int32) : Int32 := (0 : Int32)
set_option maxRecDepth 65536 in
set_option maxHeartbeats 4000000 in
theorem w1_28 {p : Program} {l : Launch} {e : Env} {s : State} {m : MethodId} {args : Array Value} {below : List Frame} {meth : Method} {c : Code} {T : State} {locs : List Loc} {Z : State} {a0 : Array Value} {n0 : Nat} {h0 : Heap} (X : Stand p l e ({ frames := 0, cells := 0, slots := 0, locals := 0 } : Room) s m args below meth c T locs 0 0) (hx : p.tables.exec = Jvm.exec) (hby : c.code = prog_54_method_2_code) (hlk : meth.locks = false) (hret : meth.sig.returnType = some .boolean) (hZ : Z.Warmed39 s.vm) (hown : s.vm.findClass "com/example/templates_on_trees/templatesontrees/xml/Characters" = some m.cls) (hw : ∀ d ∈ tables_1, d.before a0 Z = true) (hml : c.maxLocals = 1) (N : Fr n0 locs) (eT : T.heap = h0) (l0 : Int32) :
    own_Go p e below (own_K s (own_Q (.int (f1_28 l0)) h0 n0) 0 0) (T.setTop (mkF m 28 #[.val (.int l0)] [])) := by
  unfold f1_28
  refine own_by (fun _ kont => XT.iconstV X.here hx rfl (0 : Int32) (hb hby d1_28) rfl kont) ?_
  show own_Go p e below _ (T.setTop (mkF m 29 #[.val (.int l0)] [(.int (0 : Int32))]))
  exact own_ret X hx hlk hret rfl (Or.inl ⟨rfl, by simp, _, rfl⟩) (hb hby d1_29) ⟨rfl, N, eT⟩ (Nat.le_refl _) (Nat.le_refl _)
def f1_24 (l0 : Int32) : Int32 := (1 : Int32)
set_option maxRecDepth 65536 in
set_option maxHeartbeats 4000000 in
theorem w1_24 {p : Program} {l : Launch} {e : Env} {s : State} {m : MethodId} {args : Array Value} {below : List Frame} {meth : Method} {c : Code} {T : State} {locs : List Loc} {Z : State} {a0 : Array Value} {n0 : Nat} {h0 : Heap} (X : Stand p l e ({ frames := 0, cells := 0, slots := 0, locals := 0 } : Room) s m args below meth c T locs 0 0) (hx : p.tables.exec = Jvm.exec) (hby : c.code = prog_54_method_2_code) (hlk : meth.locks = false) (hret : meth.sig.returnType = some .boolean) (hZ : Z.Warmed39 s.vm) (hown : s.vm.findClass "com/example/templates_on_trees/templatesontrees/xml/Characters" = some m.cls) (hw : ∀ d ∈ tables_1, d.before a0 Z = true) (hml : c.maxLocals = 1) (N : Fr n0 locs) (eT : T.heap = h0) (l0 : Int32) :
    own_Go p e below (own_K s (own_Q (.int (f1_24 l0)) h0 n0) 0 0) (T.setTop (mkF m 24 #[.val (.int l0)] [])) := by
  unfold f1_24
  refine own_by (fun _ kont => XT.iconstV X.here hx rfl (1 : Int32) (hb hby d1_24) rfl kont) ?_
  show own_Go p e below _ (T.setTop (mkF m 25 #[.val (.int l0)] [(.int (1 : Int32))]))
  refine own_by (fun _ kont => XS.goto X.here hx rfl (pc0 := 25) (pc' := 29) rfl (hb hby d1_25) (by decide) (by decide) kont) ?_
  show own_Go p e below _ (T.setTop (mkF m 29 #[.val (.int l0)] [(.int (1 : Int32))]))
  exact own_ret X hx hlk hret rfl (Or.inl ⟨rfl, by simp, _, rfl⟩) (hb hby d1_29) ⟨rfl, N, eT⟩ (Nat.le_refl _) (Nat.le_refl _)
def f1_0 (l0 : Int32) : Int32 := (if l0 < (32 : Int32) then (if l0 = (9 : Int32) then (f1_24 l0) else (if l0 = (10 : Int32) then (f1_24 l0) else (if l0 = (13 : Int32) then (f1_24 l0) else (f1_28 l0)))) else (f1_30 l0))
set_option maxRecDepth 65536 in
set_option maxHeartbeats 4000000 in
theorem w1_0 {p : Program} {l : Launch} {e : Env} {s : State} {m : MethodId} {args : Array Value} {below : List Frame} {meth : Method} {c : Code} {T : State} {locs : List Loc} {Z : State} {a0 : Array Value} {n0 : Nat} {h0 : Heap} (X : Stand p l e ({ frames := 0, cells := 0, slots := 0, locals := 0 } : Room) s m args below meth c T locs 0 0) (hx : p.tables.exec = Jvm.exec) (hby : c.code = prog_54_method_2_code) (hlk : meth.locks = false) (hret : meth.sig.returnType = some .boolean) (hZ : Z.Warmed39 s.vm) (hown : s.vm.findClass "com/example/templates_on_trees/templatesontrees/xml/Characters" = some m.cls) (hw : ∀ d ∈ tables_1, d.before a0 Z = true) (hml : c.maxLocals = 1) (N : Fr n0 locs) (eT : T.heap = h0) (l0 : Int32) :
    own_Go p e below (own_K s (own_Q (.int (f1_0 l0)) h0 n0) 0 0) (T.setTop (mkF m 0 #[.val (.int l0)] [])) := by
  unfold f1_0
  refine own_by (fun _ kont => XS.iloadN X.here hx rfl (hb hby d1_0) rfl kont) ?_
  show own_Go p e below _ (T.setTop (mkF m 1 #[.val (.int l0)] [(.int l0)]))
  refine own_by (fun _ kont => XT.bipushV X.here hx rfl (32 : Int32) (hb hby d1_1) rfl kont) ?_
  show own_Go p e below _ (T.setTop (mkF m 3 #[.val (.int l0)] [(.int (32 : Int32)), (.int l0)]))
  by_cases c3 : l0 < (32 : Int32)
  · rw [if_pos c3]
    refine own_by (fun _ kont => XS.icmpNo X.here hx rfl (hb hby d1_3) rfl (XT.ii_ge_f c3) kont) ?_
    show own_Go p e below _ (T.setTop (mkF m 6 #[.val (.int l0)] []))
    refine own_by (fun _ kont => XS.iloadN X.here hx rfl (hb hby d1_6) rfl kont) ?_
    show own_Go p e below _ (T.setTop (mkF m 7 #[.val (.int l0)] [(.int l0)]))
    refine own_by (fun _ kont => XT.bipushV X.here hx rfl (9 : Int32) (hb hby d1_7) rfl kont) ?_
    show own_Go p e below _ (T.setTop (mkF m 9 #[.val (.int l0)] [(.int (9 : Int32)), (.int l0)]))
    by_cases c9 : l0 = (9 : Int32)
    · rw [if_pos c9]
      refine own_by (fun _ kont => XS.icmpYes X.here hx rfl (pc0 := 9) (pc' := 24) rfl (hb hby d1_9) rfl (XT.ii_eq_t c9) (by decide) (by decide) kont) ?_
      show own_Go p e below _ (T.setTop (mkF m 24 #[.val (.int l0)] []))
      exact w1_24 X hx hby hlk hret hZ hown hw hml N eT l0
    · rw [if_neg c9]
      refine own_by (fun _ kont => XS.icmpNo X.here hx rfl (hb hby d1_9) rfl (XT.ii_eq_f c9) kont) ?_
      show own_Go p e below _ (T.setTop (mkF m 12 #[.val (.int l0)] []))
      refine own_by (fun _ kont => XS.iloadN X.here hx rfl (hb hby d1_12) rfl kont) ?_
      show own_Go p e below _ (T.setTop (mkF m 13 #[.val (.int l0)] [(.int l0)]))
      refine own_by (fun _ kont => XT.bipushV X.here hx rfl (10 : Int32) (hb hby d1_13) rfl kont) ?_
      show own_Go p e below _ (T.setTop (mkF m 15 #[.val (.int l0)] [(.int (10 : Int32)), (.int l0)]))
      by_cases c15 : l0 = (10 : Int32)
      · rw [if_pos c15]
        refine own_by (fun _ kont => XS.icmpYes X.here hx rfl (pc0 := 15) (pc' := 24) rfl (hb hby d1_15) rfl (XT.ii_eq_t c15) (by decide) (by decide) kont) ?_
        show own_Go p e below _ (T.setTop (mkF m 24 #[.val (.int l0)] []))
        exact w1_24 X hx hby hlk hret hZ hown hw hml N eT l0
      · rw [if_neg c15]
        refine own_by (fun _ kont => XS.icmpNo X.here hx rfl (hb hby d1_15) rfl (XT.ii_eq_f c15) kont) ?_
        show own_Go p e below _ (T.setTop (mkF m 18 #[.val (.int l0)] []))
        refine own_by (fun _ kont => XS.iloadN X.here hx rfl (hb hby d1_18) rfl kont) ?_
        show own_Go p e below _ (T.setTop (mkF m 19 #[.val (.int l0)] [(.int l0)]))
        refine own_by (fun _ kont => XT.bipushV X.here hx rfl (13 : Int32) (hb hby d1_19) rfl kont) ?_
        show own_Go p e below _ (T.setTop (mkF m 21 #[.val (.int l0)] [(.int (13 : Int32)), (.int l0)]))
        by_cases c21 : l0 = (13 : Int32)
        · rw [if_pos c21]
          refine own_by (fun _ kont => XS.icmpNo X.here hx rfl (hb hby d1_21) rfl (XT.ii_ne_f c21) kont) ?_
          show own_Go p e below _ (T.setTop (mkF m 24 #[.val (.int l0)] []))
          exact w1_24 X hx hby hlk hret hZ hown hw hml N eT l0
        · rw [if_neg c21]
          refine own_by (fun _ kont => XS.icmpYes X.here hx rfl (pc0 := 21) (pc' := 28) rfl (hb hby d1_21) rfl (XT.ii_ne_t c21) (by decide) (by decide) kont) ?_
          show own_Go p e below _ (T.setTop (mkF m 28 #[.val (.int l0)] []))
          exact w1_28 X hx hby hlk hret hZ hown hw hml N eT l0
  · rw [if_neg c3]
    refine own_by (fun _ kont => XS.icmpYes X.here hx rfl (pc0 := 3) (pc' := 30) rfl (hb hby d1_3) rfl (XT.ii_ge_t c3) (by decide) (by decide) kont) ?_
    show own_Go p e below _ (T.setTop (mkF m 30 #[.val (.int l0)] []))
    exact w1_30 X hx hby hlk hret hZ hown hw hml N eT l0
theorem own_ef1 (m : MethodId) (l0 : Int32) : entryFrame m #[(.int l0)] 1 = (mkF m 0 #[.val (.int l0)] []) := by first | (simp [entryFrame, mkF, argsToLocals, Value.category, maxLocals]; done) | rfl
set_option maxRecDepth 65536 in
set_option maxHeartbeats 4000000 in
theorem rm1 (l : Launch) (Z : State) (a0 : Array Value) (hw : ∀ d ∈ tables_1, d.before a0 Z = true) (ws : List Jvm.Cond) (l0 : Int32) (h0 : Heap) (n0 : Nat) :
    MetFree l (⟨"com/example/templates_on_trees/templatesontrees/xml/Characters", "isChar", "(I)Z"⟩ : MethodName) (head1 (Jvm.Cond.code (⟨"com/example/templates_on_trees/templatesontrees/xml/Characters", "isChar", "(I)Z"⟩ : MethodName) prog_54_method_2_code 1 (some .boolean) :: ws) ({ frames := 0, cells := 0, slots := 0, locals := 0 } : Room)) (fun a U => a = #[(.int l0)] ∧ Z.Warmed39 U.vm ∧ U.heap = h0) (fun _ _ _ _ _ => True) (fun _ U o U' => ∃ v L, o = .returned v ∧ own_Q (.int (f1_0 l0)) h0 n0 v U'.heap L ∧ FrameEnd U o U' L ({ frames := 0, cells := 0, slots := 0, locals := 0 } : Room).cells ({ frames := 0, cells := 0, slots := 0, locals := 0 } : Room).slots) := by
  refine MetFree.of_bodySF (plainFor_of_name own_pn0) hisR ?_
  intro p e s m args below meth c s₁ Bd hml0 hP hK
  obtain ⟨rfl, hZ, hh⟩ := hP
  have hx := Bd.exec
  have hby := Bd.bytes
  have hml : c.maxLocals = 1 := hml0
  have hown : s.vm.findClass "com/example/templates_on_trees/templatesontrees/xml/Characters" = some m.cls := findClass_of_methodNamed Bd.named
  have X0 : Stand p l e ({ frames := 0, cells := 0, slots := 0, locals := 0 } : Room) s m #[(.int l0)] below meth c s₁ [] 0 0 := Stand.of_body Bd
  have e0 : s₁.heap = h0 := by rw [← hh, Bd.state]; rfl
  have N0 := Fr.nil n0
  exact own_by (fun t k => castTop (own_ef1 m l0) k) (w1_0 X0 hx hby Bd.notSynchronized Bd.returns hZ hown hw hml N0 e0 l0)
theorem own_pn2 : plainName "com/example/templates_on_trees/templatesontrees/xml/CharactersIsCharPinLaw" = true := by first | (simp [plainName, overriddenIn]; done) | decide +kernel
theorem d2_0 : decode method_3_code 0 = .ok (.iload_n 0, 1) := by decide +kernel
theorem d2_1 : decode method_3_code 1 = .ok (.bipush 32, 2) := by decide +kernel
theorem d2_3 : decode method_3_code 3 = .ok (.if_icmp .ge 25, 3) := by decide +kernel
theorem d2_6 : decode method_3_code 6 = .ok (.iload_n 0, 1) := by decide +kernel
theorem d2_7 : decode method_3_code 7 = .ok (.bipush 9, 2) := by decide +kernel
theorem d2_9 : decode method_3_code 9 = .ok (.if_icmp .eq 19, 3) := by decide +kernel
theorem d2_12 : decode method_3_code 12 = .ok (.iload_n 0, 1) := by decide +kernel
theorem d2_13 : decode method_3_code 13 = .ok (.bipush 10, 2) := by decide +kernel
theorem d2_15 : decode method_3_code 15 = .ok (.if_icmp .eq 13, 3) := by decide +kernel
theorem d2_18 : decode method_3_code 18 = .ok (.iload_n 0, 1) := by decide +kernel
theorem d2_19 : decode method_3_code 19 = .ok (.bipush 13, 2) := by decide +kernel
theorem d2_21 : decode method_3_code 21 = .ok (.if_icmp .eq 7, 3) := by decide +kernel
theorem d2_24 : decode method_3_code 24 = .ok (.iconst 1, 1) := by decide +kernel
theorem d2_25 : decode method_3_code 25 = .ok (.goto 4, 3) := by decide +kernel
theorem d2_28 : decode method_3_code 28 = .ok (.iconst 0, 1) := by decide +kernel
theorem d2_29 : decode method_3_code 29 = .ok (.istore_n 1, 1) := by decide +kernel
theorem d2_30 : decode method_3_code 30 = .ok (.iload_n 0, 1) := by decide +kernel
theorem d2_31 : decode method_3_code 31 = .ok (.ldc 7, 2) := by decide +kernel
theorem d2_33 : decode method_3_code 33 = .ok (.if_icmp .lt 13, 3) := by decide +kernel
theorem d2_36 : decode method_3_code 36 = .ok (.iload_n 0, 1) := by decide +kernel
theorem d2_37 : decode method_3_code 37 = .ok (.ldc 27, 2) := by decide +kernel
theorem d2_39 : decode method_3_code 39 = .ok (.if_icmp .gt 7, 3) := by decide +kernel
theorem d2_42 : decode method_3_code 42 = .ok (.iconst 1, 1) := by decide +kernel
theorem d2_43 : decode method_3_code 43 = .ok (.goto 4, 3) := by decide +kernel
theorem d2_46 : decode method_3_code 46 = .ok (.iconst 0, 1) := by decide +kernel
theorem d2_47 : decode method_3_code 47 = .ok (.istore_n 2, 1) := by decide +kernel
theorem d2_48 : decode method_3_code 48 = .ok (.iload_n 0, 1) := by decide +kernel
theorem d2_49 : decode method_3_code 49 = .ok (.ldc 9, 2) := by decide +kernel
theorem d2_51 : decode method_3_code 51 = .ok (.if_icmp .eq 9, 3) := by decide +kernel
theorem d2_54 : decode method_3_code 54 = .ok (.iload_n 0, 1) := by decide +kernel
theorem d2_55 : decode method_3_code 55 = .ok (.ldc 28, 2) := by decide +kernel
theorem d2_57 : decode method_3_code 57 = .ok (.if_icmp .ne 7, 3) := by decide +kernel
theorem d2_60 : decode method_3_code 60 = .ok (.iconst 1, 1) := by decide +kernel
theorem d2_61 : decode method_3_code 61 = .ok (.goto 4, 3) := by decide +kernel
theorem d2_64 : decode method_3_code 64 = .ok (.iconst 0, 1) := by decide +kernel
theorem d2_65 : decode method_3_code 65 = .ok (.istore_n 3, 1) := by decide +kernel
theorem d2_66 : decode method_3_code 66 = .ok (.iload_n 0, 1) := by decide +kernel
theorem d2_67 : decode method_3_code 67 = .ok (.ldc 29, 2) := by decide +kernel
theorem d2_69 : decode method_3_code 69 = .ok (.if_icmp .le 7, 3) := by decide +kernel
theorem d2_72 : decode method_3_code 72 = .ok (.iconst 1, 1) := by decide +kernel
theorem d2_73 : decode method_3_code 73 = .ok (.goto 4, 3) := by decide +kernel
theorem d2_76 : decode method_3_code 76 = .ok (.iconst 0, 1) := by decide +kernel
theorem d2_77 : decode method_3_code 77 = .ok (.istore 4, 2) := by decide +kernel
theorem d2_79 : decode method_3_code 79 = .ok (.iload_n 1, 1) := by decide +kernel
theorem d2_80 : decode method_3_code 80 = .ok (.ifCond .ne 20, 3) := by decide +kernel
theorem d2_83 : decode method_3_code 83 = .ok (.iload_n 2, 1) := by decide +kernel
theorem d2_84 : decode method_3_code 84 = .ok (.ifCond .ne 16, 3) := by decide +kernel
theorem d2_87 : decode method_3_code 87 = .ok (.iload_n 3, 1) := by decide +kernel
theorem d2_88 : decode method_3_code 88 = .ok (.ifCond .ne 12, 3) := by decide +kernel
theorem d2_91 : decode method_3_code 91 = .ok (.iload 4, 2) := by decide +kernel
theorem d2_93 : decode method_3_code 93 = .ok (.ifCond .ne 7, 3) := by decide +kernel
theorem d2_96 : decode method_3_code 96 = .ok (.iconst 1, 1) := by decide +kernel
theorem d2_97 : decode method_3_code 97 = .ok (.goto 4, 3) := by decide +kernel
theorem d2_100 : decode method_3_code 100 = .ok (.iconst 0, 1) := by decide +kernel
theorem d2_101 : decode method_3_code 101 = .ok (.ireturn, 1) := by decide +kernel
def f2_100 (l0 : Int32) (l1 : Int32) (l2 : Int32) (l3 : Int32) (l4 : Int32) : Int32 := (0 : Int32)
set_option maxRecDepth 65536 in
set_option maxHeartbeats 4000000 in
theorem w2_100 {p : Program} {l : Launch} {e : Env} {s : State} {m : MethodId} {args : Array Value} {below : List Frame} {meth : Method} {c : Code} {T : State} {locs : List Loc} {Z : State} {a0 : Array Value} {n0 : Nat} {h0 : Heap} (X : Stand p l e ({ frames := 0, cells := 0, slots := 0, locals := 0 } : Room) s m args below meth c T locs 0 0) (hx : p.tables.exec = Jvm.exec) (hby : c.code = method_3_code) (hlk : meth.locks = false) (hret : meth.sig.returnType = some .boolean) (hZ : Z.Warmed39 s.vm) (hown : s.vm.findClass "com/example/templates_on_trees/templatesontrees/xml/CharactersIsCharPinLaw" = some m.cls) (hw : ∀ d ∈ tables_1, d.before a0 Z = true) (hml : c.maxLocals = 5) (N : Fr n0 locs) (eT : T.heap = h0) (l0 : Int32) (l1 : Int32) (l2 : Int32) (l3 : Int32) (l4 : Int32) :
    own_Go p e below (own_K s (own_Q (.int (f2_100 l0 l1 l2 l3 l4)) h0 n0) 0 0) (T.setTop (mkF m 100 #[.val (.int l0), .val (.int l1), .val (.int l2), .val (.int l3), .val (.int l4)] [])) := by
  unfold f2_100
  refine own_by (fun _ kont => XT.iconstV X.here hx rfl (0 : Int32) (hb hby d2_100) rfl kont) ?_
  show own_Go p e below _ (T.setTop (mkF m 101 #[.val (.int l0), .val (.int l1), .val (.int l2), .val (.int l3), .val (.int l4)] [(.int (0 : Int32))]))
  exact own_ret X hx hlk hret rfl (Or.inl ⟨rfl, by simp, _, rfl⟩) (hb hby d2_101) ⟨rfl, N, eT⟩ (Nat.le_refl _) (Nat.le_refl _)
def f2_77 (l0 : Int32) (l1 : Int32) (l2 : Int32) (l3 : Int32) (s0 : Int32) : Int32 := (if l1 = (0 : Int32) then (if l2 = (0 : Int32) then (if l3 = (0 : Int32) then (if s0 = (0 : Int32) then (1 : Int32) else (f2_100 l0 l1 l2 l3 s0)) else (f2_100 l0 l1 l2 l3 s0)) else (f2_100 l0 l1 l2 l3 s0)) else (f2_100 l0 l1 l2 l3 s0))
set_option maxRecDepth 65536 in
set_option maxHeartbeats 4000000 in
theorem w2_77 {p : Program} {l : Launch} {e : Env} {s : State} {m : MethodId} {args : Array Value} {below : List Frame} {meth : Method} {c : Code} {T : State} {locs : List Loc} {Z : State} {a0 : Array Value} {n0 : Nat} {h0 : Heap} (X : Stand p l e ({ frames := 0, cells := 0, slots := 0, locals := 0 } : Room) s m args below meth c T locs 0 0) (hx : p.tables.exec = Jvm.exec) (hby : c.code = method_3_code) (hlk : meth.locks = false) (hret : meth.sig.returnType = some .boolean) (hZ : Z.Warmed39 s.vm) (hown : s.vm.findClass "com/example/templates_on_trees/templatesontrees/xml/CharactersIsCharPinLaw" = some m.cls) (hw : ∀ d ∈ tables_1, d.before a0 Z = true) (hml : c.maxLocals = 5) (N : Fr n0 locs) (eT : T.heap = h0) (l0 : Int32) (l1 : Int32) (l2 : Int32) (l3 : Int32) (s0 : Int32) :
    own_Go p e below (own_K s (own_Q (.int (f2_77 l0 l1 l2 l3 s0)) h0 n0) 0 0) (T.setTop (mkF m 77 #[.val (.int l0), .val (.int l1), .val (.int l2), .val (.int l3), .unset] [(.int s0)])) := by
  unfold f2_77
  refine own_by (fun _ kont => XS.istore X.here hx rfl (hb hby d2_77) rfl (l' := #[.val (.int l0), .val (.int l1), .val (.int l2), .val (.int l3), .val (.int s0)]) rfl kont) ?_
  show own_Go p e below _ (T.setTop (mkF m 79 #[.val (.int l0), .val (.int l1), .val (.int l2), .val (.int l3), .val (.int s0)] []))
  refine own_by (fun _ kont => XS.iloadN X.here hx rfl (hb hby d2_79) rfl kont) ?_
  show own_Go p e below _ (T.setTop (mkF m 80 #[.val (.int l0), .val (.int l1), .val (.int l2), .val (.int l3), .val (.int s0)] [(.int l1)]))
  by_cases c80 : l1 = (0 : Int32)
  · rw [if_pos c80]
    refine own_by (fun _ kont => XS.ifNo X.here hx rfl (hb hby d2_80) rfl (XT.i0_ne_f c80) kont) ?_
    show own_Go p e below _ (T.setTop (mkF m 83 #[.val (.int l0), .val (.int l1), .val (.int l2), .val (.int l3), .val (.int s0)] []))
    refine own_by (fun _ kont => XS.iloadN X.here hx rfl (hb hby d2_83) rfl kont) ?_
    show own_Go p e below _ (T.setTop (mkF m 84 #[.val (.int l0), .val (.int l1), .val (.int l2), .val (.int l3), .val (.int s0)] [(.int l2)]))
    by_cases c84 : l2 = (0 : Int32)
    · rw [if_pos c84]
      refine own_by (fun _ kont => XS.ifNo X.here hx rfl (hb hby d2_84) rfl (XT.i0_ne_f c84) kont) ?_
      show own_Go p e below _ (T.setTop (mkF m 87 #[.val (.int l0), .val (.int l1), .val (.int l2), .val (.int l3), .val (.int s0)] []))
      refine own_by (fun _ kont => XS.iloadN X.here hx rfl (hb hby d2_87) rfl kont) ?_
      show own_Go p e below _ (T.setTop (mkF m 88 #[.val (.int l0), .val (.int l1), .val (.int l2), .val (.int l3), .val (.int s0)] [(.int l3)]))
      by_cases c88 : l3 = (0 : Int32)
      · rw [if_pos c88]
        refine own_by (fun _ kont => XS.ifNo X.here hx rfl (hb hby d2_88) rfl (XT.i0_ne_f c88) kont) ?_
        show own_Go p e below _ (T.setTop (mkF m 91 #[.val (.int l0), .val (.int l1), .val (.int l2), .val (.int l3), .val (.int s0)] []))
        refine own_by (fun _ kont => XS.iload X.here hx rfl (hb hby d2_91) rfl kont) ?_
        show own_Go p e below _ (T.setTop (mkF m 93 #[.val (.int l0), .val (.int l1), .val (.int l2), .val (.int l3), .val (.int s0)] [(.int s0)]))
        by_cases c93 : s0 = (0 : Int32)
        · rw [if_pos c93]
          refine own_by (fun _ kont => XS.ifNo X.here hx rfl (hb hby d2_93) rfl (XT.i0_ne_f c93) kont) ?_
          show own_Go p e below _ (T.setTop (mkF m 96 #[.val (.int l0), .val (.int l1), .val (.int l2), .val (.int l3), .val (.int s0)] []))
          refine own_by (fun _ kont => XT.iconstV X.here hx rfl (1 : Int32) (hb hby d2_96) rfl kont) ?_
          show own_Go p e below _ (T.setTop (mkF m 97 #[.val (.int l0), .val (.int l1), .val (.int l2), .val (.int l3), .val (.int s0)] [(.int (1 : Int32))]))
          refine own_by (fun _ kont => XS.goto X.here hx rfl (pc0 := 97) (pc' := 101) rfl (hb hby d2_97) (by decide) (by decide) kont) ?_
          show own_Go p e below _ (T.setTop (mkF m 101 #[.val (.int l0), .val (.int l1), .val (.int l2), .val (.int l3), .val (.int s0)] [(.int (1 : Int32))]))
          exact own_ret X hx hlk hret rfl (Or.inl ⟨rfl, by simp, _, rfl⟩) (hb hby d2_101) ⟨rfl, N, eT⟩ (Nat.le_refl _) (Nat.le_refl _)
        · rw [if_neg c93]
          refine own_by (fun _ kont => XS.ifYes X.here hx rfl (pc0 := 93) (pc' := 100) rfl (hb hby d2_93) rfl (XT.i0_ne_t c93) (by decide) (by decide) kont) ?_
          show own_Go p e below _ (T.setTop (mkF m 100 #[.val (.int l0), .val (.int l1), .val (.int l2), .val (.int l3), .val (.int s0)] []))
          exact w2_100 X hx hby hlk hret hZ hown hw hml N eT l0 l1 l2 l3 s0
      · rw [if_neg c88]
        refine own_by (fun _ kont => XS.ifYes X.here hx rfl (pc0 := 88) (pc' := 100) rfl (hb hby d2_88) rfl (XT.i0_ne_t c88) (by decide) (by decide) kont) ?_
        show own_Go p e below _ (T.setTop (mkF m 100 #[.val (.int l0), .val (.int l1), .val (.int l2), .val (.int l3), .val (.int s0)] []))
        exact w2_100 X hx hby hlk hret hZ hown hw hml N eT l0 l1 l2 l3 s0
    · rw [if_neg c84]
      refine own_by (fun _ kont => XS.ifYes X.here hx rfl (pc0 := 84) (pc' := 100) rfl (hb hby d2_84) rfl (XT.i0_ne_t c84) (by decide) (by decide) kont) ?_
      show own_Go p e below _ (T.setTop (mkF m 100 #[.val (.int l0), .val (.int l1), .val (.int l2), .val (.int l3), .val (.int s0)] []))
      exact w2_100 X hx hby hlk hret hZ hown hw hml N eT l0 l1 l2 l3 s0
  · rw [if_neg c80]
    refine own_by (fun _ kont => XS.ifYes X.here hx rfl (pc0 := 80) (pc' := 100) rfl (hb hby d2_80) rfl (XT.i0_ne_t c80) (by decide) (by decide) kont) ?_
    show own_Go p e below _ (T.setTop (mkF m 100 #[.val (.int l0), .val (.int l1), .val (.int l2), .val (.int l3), .val (.int s0)] []))
    exact w2_100 X hx hby hlk hret hZ hown hw hml N eT l0 l1 l2 l3 s0
def f2_76 (l0 : Int32) (l1 : Int32) (l2 : Int32) (l3 : Int32) : Int32 := (f2_77 l0 l1 l2 l3 (0 : Int32))
set_option maxRecDepth 65536 in
set_option maxHeartbeats 4000000 in
theorem w2_76 {p : Program} {l : Launch} {e : Env} {s : State} {m : MethodId} {args : Array Value} {below : List Frame} {meth : Method} {c : Code} {T : State} {locs : List Loc} {Z : State} {a0 : Array Value} {n0 : Nat} {h0 : Heap} (X : Stand p l e ({ frames := 0, cells := 0, slots := 0, locals := 0 } : Room) s m args below meth c T locs 0 0) (hx : p.tables.exec = Jvm.exec) (hby : c.code = method_3_code) (hlk : meth.locks = false) (hret : meth.sig.returnType = some .boolean) (hZ : Z.Warmed39 s.vm) (hown : s.vm.findClass "com/example/templates_on_trees/templatesontrees/xml/CharactersIsCharPinLaw" = some m.cls) (hw : ∀ d ∈ tables_1, d.before a0 Z = true) (hml : c.maxLocals = 5) (N : Fr n0 locs) (eT : T.heap = h0) (l0 : Int32) (l1 : Int32) (l2 : Int32) (l3 : Int32) :
    own_Go p e below (own_K s (own_Q (.int (f2_76 l0 l1 l2 l3)) h0 n0) 0 0) (T.setTop (mkF m 76 #[.val (.int l0), .val (.int l1), .val (.int l2), .val (.int l3), .unset] [])) := by
  unfold f2_76
  refine own_by (fun _ kont => XT.iconstV X.here hx rfl (0 : Int32) (hb hby d2_76) rfl kont) ?_
  show own_Go p e below _ (T.setTop (mkF m 77 #[.val (.int l0), .val (.int l1), .val (.int l2), .val (.int l3), .unset] [(.int (0 : Int32))]))
  exact w2_77 X hx hby hlk hret hZ hown hw hml N eT l0 l1 l2 l3 (0 : Int32)
def f2_65 (l0 : Int32) (l1 : Int32) (l2 : Int32) (s0 : Int32) : Int32 := (if (1114111 : Int32) < l0 then (f2_77 l0 l1 l2 s0 (1 : Int32)) else (f2_76 l0 l1 l2 s0))
set_option maxRecDepth 65536 in
set_option maxHeartbeats 4000000 in
theorem w2_65 {p : Program} {l : Launch} {e : Env} {s : State} {m : MethodId} {args : Array Value} {below : List Frame} {meth : Method} {c : Code} {T : State} {locs : List Loc} {Z : State} {a0 : Array Value} {n0 : Nat} {h0 : Heap} (X : Stand p l e ({ frames := 0, cells := 0, slots := 0, locals := 0 } : Room) s m args below meth c T locs 0 0) (hx : p.tables.exec = Jvm.exec) (hby : c.code = method_3_code) (hlk : meth.locks = false) (hret : meth.sig.returnType = some .boolean) (hZ : Z.Warmed39 s.vm) (hown : s.vm.findClass "com/example/templates_on_trees/templatesontrees/xml/CharactersIsCharPinLaw" = some m.cls) (hw : ∀ d ∈ tables_1, d.before a0 Z = true) (hml : c.maxLocals = 5) (N : Fr n0 locs) (eT : T.heap = h0) (l0 : Int32) (l1 : Int32) (l2 : Int32) (s0 : Int32) :
    own_Go p e below (own_K s (own_Q (.int (f2_65 l0 l1 l2 s0)) h0 n0) 0 0) (T.setTop (mkF m 65 #[.val (.int l0), .val (.int l1), .val (.int l2), .unset, .unset] [(.int s0)])) := by
  unfold f2_65
  refine own_by (fun _ kont => XS.istoreN X.here hx rfl (hb hby d2_65) rfl (l' := #[.val (.int l0), .val (.int l1), .val (.int l2), .val (.int s0), .unset]) rfl kont) ?_
  show own_Go p e below _ (T.setTop (mkF m 66 #[.val (.int l0), .val (.int l1), .val (.int l2), .val (.int s0), .unset] []))
  refine own_by (fun _ kont => XS.iloadN X.here hx rfl (hb hby d2_66) rfl kont) ?_
  show own_Go p e below _ (T.setTop (mkF m 67 #[.val (.int l0), .val (.int l1), .val (.int l2), .val (.int s0), .unset] [(.int l0)]))
  refine own_by (fun _ kont => X.ldcI hx hown (v := (1114111 : Int32)) (mvT hZ (hw _ (List.mem_of_getElem? (i := 17) rfl))) rfl (hb hby d2_67) kont) ?_
  show own_Go p e below _ (T.setTop (mkF m 69 #[.val (.int l0), .val (.int l1), .val (.int l2), .val (.int s0), .unset] [(.int (1114111 : Int32)), (.int l0)]))
  by_cases c69 : (1114111 : Int32) < l0
  · rw [if_pos c69]
    refine own_by (fun _ kont => XS.icmpNo X.here hx rfl (hb hby d2_69) rfl (XT.ii_le_f c69) kont) ?_
    show own_Go p e below _ (T.setTop (mkF m 72 #[.val (.int l0), .val (.int l1), .val (.int l2), .val (.int s0), .unset] []))
    refine own_by (fun _ kont => XT.iconstV X.here hx rfl (1 : Int32) (hb hby d2_72) rfl kont) ?_
    show own_Go p e below _ (T.setTop (mkF m 73 #[.val (.int l0), .val (.int l1), .val (.int l2), .val (.int s0), .unset] [(.int (1 : Int32))]))
    refine own_by (fun _ kont => XS.goto X.here hx rfl (pc0 := 73) (pc' := 77) rfl (hb hby d2_73) (by decide) (by decide) kont) ?_
    show own_Go p e below _ (T.setTop (mkF m 77 #[.val (.int l0), .val (.int l1), .val (.int l2), .val (.int s0), .unset] [(.int (1 : Int32))]))
    exact w2_77 X hx hby hlk hret hZ hown hw hml N eT l0 l1 l2 s0 (1 : Int32)
  · rw [if_neg c69]
    refine own_by (fun _ kont => XS.icmpYes X.here hx rfl (pc0 := 69) (pc' := 76) rfl (hb hby d2_69) rfl (XT.ii_le_t c69) (by decide) (by decide) kont) ?_
    show own_Go p e below _ (T.setTop (mkF m 76 #[.val (.int l0), .val (.int l1), .val (.int l2), .val (.int s0), .unset] []))
    exact w2_76 X hx hby hlk hret hZ hown hw hml N eT l0 l1 l2 s0
def f2_64 (l0 : Int32) (l1 : Int32) (l2 : Int32) : Int32 := (f2_65 l0 l1 l2 (0 : Int32))
set_option maxRecDepth 65536 in
set_option maxHeartbeats 4000000 in
theorem w2_64 {p : Program} {l : Launch} {e : Env} {s : State} {m : MethodId} {args : Array Value} {below : List Frame} {meth : Method} {c : Code} {T : State} {locs : List Loc} {Z : State} {a0 : Array Value} {n0 : Nat} {h0 : Heap} (X : Stand p l e ({ frames := 0, cells := 0, slots := 0, locals := 0 } : Room) s m args below meth c T locs 0 0) (hx : p.tables.exec = Jvm.exec) (hby : c.code = method_3_code) (hlk : meth.locks = false) (hret : meth.sig.returnType = some .boolean) (hZ : Z.Warmed39 s.vm) (hown : s.vm.findClass "com/example/templates_on_trees/templatesontrees/xml/CharactersIsCharPinLaw" = some m.cls) (hw : ∀ d ∈ tables_1, d.before a0 Z = true) (hml : c.maxLocals = 5) (N : Fr n0 locs) (eT : T.heap = h0) (l0 : Int32) (l1 : Int32) (l2 : Int32) :
    own_Go p e below (own_K s (own_Q (.int (f2_64 l0 l1 l2)) h0 n0) 0 0) (T.setTop (mkF m 64 #[.val (.int l0), .val (.int l1), .val (.int l2), .unset, .unset] [])) := by
  unfold f2_64
  refine own_by (fun _ kont => XT.iconstV X.here hx rfl (0 : Int32) (hb hby d2_64) rfl kont) ?_
  show own_Go p e below _ (T.setTop (mkF m 65 #[.val (.int l0), .val (.int l1), .val (.int l2), .unset, .unset] [(.int (0 : Int32))]))
  exact w2_65 X hx hby hlk hret hZ hown hw hml N eT l0 l1 l2 (0 : Int32)
def f2_60 (l0 : Int32) (l1 : Int32) (l2 : Int32) : Int32 := (f2_65 l0 l1 l2 (1 : Int32))
set_option maxRecDepth 65536 in
set_option maxHeartbeats 4000000 in
theorem w2_60 {p : Program} {l : Launch} {e : Env} {s : State} {m : MethodId} {args : Array Value} {below : List Frame} {meth : Method} {c : Code} {T : State} {locs : List Loc} {Z : State} {a0 : Array Value} {n0 : Nat} {h0 : Heap} (X : Stand p l e ({ frames := 0, cells := 0, slots := 0, locals := 0 } : Room) s m args below meth c T locs 0 0) (hx : p.tables.exec = Jvm.exec) (hby : c.code = method_3_code) (hlk : meth.locks = false) (hret : meth.sig.returnType = some .boolean) (hZ : Z.Warmed39 s.vm) (hown : s.vm.findClass "com/example/templates_on_trees/templatesontrees/xml/CharactersIsCharPinLaw" = some m.cls) (hw : ∀ d ∈ tables_1, d.before a0 Z = true) (hml : c.maxLocals = 5) (N : Fr n0 locs) (eT : T.heap = h0) (l0 : Int32) (l1 : Int32) (l2 : Int32) :
    own_Go p e below (own_K s (own_Q (.int (f2_60 l0 l1 l2)) h0 n0) 0 0) (T.setTop (mkF m 60 #[.val (.int l0), .val (.int l1), .val (.int l2), .unset, .unset] [])) := by
  unfold f2_60
  refine own_by (fun _ kont => XT.iconstV X.here hx rfl (1 : Int32) (hb hby d2_60) rfl kont) ?_
  show own_Go p e below _ (T.setTop (mkF m 61 #[.val (.int l0), .val (.int l1), .val (.int l2), .unset, .unset] [(.int (1 : Int32))]))
  refine own_by (fun _ kont => XS.goto X.here hx rfl (pc0 := 61) (pc' := 65) rfl (hb hby d2_61) (by decide) (by decide) kont) ?_
  show own_Go p e below _ (T.setTop (mkF m 65 #[.val (.int l0), .val (.int l1), .val (.int l2), .unset, .unset] [(.int (1 : Int32))]))
  exact w2_65 X hx hby hlk hret hZ hown hw hml N eT l0 l1 l2 (1 : Int32)
def f2_47 (l0 : Int32) (l1 : Int32) (s0 : Int32) : Int32 := (if l0 = (65534 : Int32) then (f2_60 l0 l1 s0) else (if l0 = (65535 : Int32) then (f2_60 l0 l1 s0) else (f2_64 l0 l1 s0)))
set_option maxRecDepth 65536 in
set_option maxHeartbeats 4000000 in
theorem w2_47 {p : Program} {l : Launch} {e : Env} {s : State} {m : MethodId} {args : Array Value} {below : List Frame} {meth : Method} {c : Code} {T : State} {locs : List Loc} {Z : State} {a0 : Array Value} {n0 : Nat} {h0 : Heap} (X : Stand p l e ({ frames := 0, cells := 0, slots := 0, locals := 0 } : Room) s m args below meth c T locs 0 0) (hx : p.tables.exec = Jvm.exec) (hby : c.code = method_3_code) (hlk : meth.locks = false) (hret : meth.sig.returnType = some .boolean) (hZ : Z.Warmed39 s.vm) (hown : s.vm.findClass "com/example/templates_on_trees/templatesontrees/xml/CharactersIsCharPinLaw" = some m.cls) (hw : ∀ d ∈ tables_1, d.before a0 Z = true) (hml : c.maxLocals = 5) (N : Fr n0 locs) (eT : T.heap = h0) (l0 : Int32) (l1 : Int32) (s0 : Int32) :
    own_Go p e below (own_K s (own_Q (.int (f2_47 l0 l1 s0)) h0 n0) 0 0) (T.setTop (mkF m 47 #[.val (.int l0), .val (.int l1), .unset, .unset, .unset] [(.int s0)])) := by
  unfold f2_47
  refine own_by (fun _ kont => XS.istoreN X.here hx rfl (hb hby d2_47) rfl (l' := #[.val (.int l0), .val (.int l1), .val (.int s0), .unset, .unset]) rfl kont) ?_
  show own_Go p e below _ (T.setTop (mkF m 48 #[.val (.int l0), .val (.int l1), .val (.int s0), .unset, .unset] []))
  refine own_by (fun _ kont => XS.iloadN X.here hx rfl (hb hby d2_48) rfl kont) ?_
  show own_Go p e below _ (T.setTop (mkF m 49 #[.val (.int l0), .val (.int l1), .val (.int s0), .unset, .unset] [(.int l0)]))
  refine own_by (fun _ kont => X.ldcI hx hown (v := (65534 : Int32)) (mvT hZ (hw _ (List.mem_of_getElem? (i := 3) rfl))) rfl (hb hby d2_49) kont) ?_
  show own_Go p e below _ (T.setTop (mkF m 51 #[.val (.int l0), .val (.int l1), .val (.int s0), .unset, .unset] [(.int (65534 : Int32)), (.int l0)]))
  by_cases c51 : l0 = (65534 : Int32)
  · rw [if_pos c51]
    refine own_by (fun _ kont => XS.icmpYes X.here hx rfl (pc0 := 51) (pc' := 60) rfl (hb hby d2_51) rfl (XT.ii_eq_t c51) (by decide) (by decide) kont) ?_
    show own_Go p e below _ (T.setTop (mkF m 60 #[.val (.int l0), .val (.int l1), .val (.int s0), .unset, .unset] []))
    exact w2_60 X hx hby hlk hret hZ hown hw hml N eT l0 l1 s0
  · rw [if_neg c51]
    refine own_by (fun _ kont => XS.icmpNo X.here hx rfl (hb hby d2_51) rfl (XT.ii_eq_f c51) kont) ?_
    show own_Go p e below _ (T.setTop (mkF m 54 #[.val (.int l0), .val (.int l1), .val (.int s0), .unset, .unset] []))
    refine own_by (fun _ kont => XS.iloadN X.here hx rfl (hb hby d2_54) rfl kont) ?_
    show own_Go p e below _ (T.setTop (mkF m 55 #[.val (.int l0), .val (.int l1), .val (.int s0), .unset, .unset] [(.int l0)]))
    refine own_by (fun _ kont => X.ldcI hx hown (v := (65535 : Int32)) (mvT hZ (hw _ (List.mem_of_getElem? (i := 16) rfl))) rfl (hb hby d2_55) kont) ?_
    show own_Go p e below _ (T.setTop (mkF m 57 #[.val (.int l0), .val (.int l1), .val (.int s0), .unset, .unset] [(.int (65535 : Int32)), (.int l0)]))
    by_cases c57 : l0 = (65535 : Int32)
    · rw [if_pos c57]
      refine own_by (fun _ kont => XS.icmpNo X.here hx rfl (hb hby d2_57) rfl (XT.ii_ne_f c57) kont) ?_
      show own_Go p e below _ (T.setTop (mkF m 60 #[.val (.int l0), .val (.int l1), .val (.int s0), .unset, .unset] []))
      exact w2_60 X hx hby hlk hret hZ hown hw hml N eT l0 l1 s0
    · rw [if_neg c57]
      refine own_by (fun _ kont => XS.icmpYes X.here hx rfl (pc0 := 57) (pc' := 64) rfl (hb hby d2_57) rfl (XT.ii_ne_t c57) (by decide) (by decide) kont) ?_
      show own_Go p e below _ (T.setTop (mkF m 64 #[.val (.int l0), .val (.int l1), .val (.int s0), .unset, .unset] []))
      exact w2_64 X hx hby hlk hret hZ hown hw hml N eT l0 l1 s0
def f2_46 (l0 : Int32) (l1 : Int32) : Int32 := (f2_47 l0 l1 (0 : Int32))
set_option maxRecDepth 65536 in
set_option maxHeartbeats 4000000 in
theorem w2_46 {p : Program} {l : Launch} {e : Env} {s : State} {m : MethodId} {args : Array Value} {below : List Frame} {meth : Method} {c : Code} {T : State} {locs : List Loc} {Z : State} {a0 : Array Value} {n0 : Nat} {h0 : Heap} (X : Stand p l e ({ frames := 0, cells := 0, slots := 0, locals := 0 } : Room) s m args below meth c T locs 0 0) (hx : p.tables.exec = Jvm.exec) (hby : c.code = method_3_code) (hlk : meth.locks = false) (hret : meth.sig.returnType = some .boolean) (hZ : Z.Warmed39 s.vm) (hown : s.vm.findClass "com/example/templates_on_trees/templatesontrees/xml/CharactersIsCharPinLaw" = some m.cls) (hw : ∀ d ∈ tables_1, d.before a0 Z = true) (hml : c.maxLocals = 5) (N : Fr n0 locs) (eT : T.heap = h0) (l0 : Int32) (l1 : Int32) :
    own_Go p e below (own_K s (own_Q (.int (f2_46 l0 l1)) h0 n0) 0 0) (T.setTop (mkF m 46 #[.val (.int l0), .val (.int l1), .unset, .unset, .unset] [])) := by
  unfold f2_46
  refine own_by (fun _ kont => XT.iconstV X.here hx rfl (0 : Int32) (hb hby d2_46) rfl kont) ?_
  show own_Go p e below _ (T.setTop (mkF m 47 #[.val (.int l0), .val (.int l1), .unset, .unset, .unset] [(.int (0 : Int32))]))
  exact w2_47 X hx hby hlk hret hZ hown hw hml N eT l0 l1 (0 : Int32)
def f2_29 (l0 : Int32) (s0 : Int32) : Int32 := (if l0 < (55296 : Int32) then (f2_46 l0 s0) else (if (57343 : Int32) < l0 then (f2_46 l0 s0) else (f2_47 l0 s0 (1 : Int32))))
set_option maxRecDepth 65536 in
set_option maxHeartbeats 4000000 in
theorem w2_29 {p : Program} {l : Launch} {e : Env} {s : State} {m : MethodId} {args : Array Value} {below : List Frame} {meth : Method} {c : Code} {T : State} {locs : List Loc} {Z : State} {a0 : Array Value} {n0 : Nat} {h0 : Heap} (X : Stand p l e ({ frames := 0, cells := 0, slots := 0, locals := 0 } : Room) s m args below meth c T locs 0 0) (hx : p.tables.exec = Jvm.exec) (hby : c.code = method_3_code) (hlk : meth.locks = false) (hret : meth.sig.returnType = some .boolean) (hZ : Z.Warmed39 s.vm) (hown : s.vm.findClass "com/example/templates_on_trees/templatesontrees/xml/CharactersIsCharPinLaw" = some m.cls) (hw : ∀ d ∈ tables_1, d.before a0 Z = true) (hml : c.maxLocals = 5) (N : Fr n0 locs) (eT : T.heap = h0) (l0 : Int32) (s0 : Int32) :
    own_Go p e below (own_K s (own_Q (.int (f2_29 l0 s0)) h0 n0) 0 0) (T.setTop (mkF m 29 #[.val (.int l0), .unset, .unset, .unset, .unset] [(.int s0)])) := by
  unfold f2_29
  refine own_by (fun _ kont => XS.istoreN X.here hx rfl (hb hby d2_29) rfl (l' := #[.val (.int l0), .val (.int s0), .unset, .unset, .unset]) rfl kont) ?_
  show own_Go p e below _ (T.setTop (mkF m 30 #[.val (.int l0), .val (.int s0), .unset, .unset, .unset] []))
  refine own_by (fun _ kont => XS.iloadN X.here hx rfl (hb hby d2_30) rfl kont) ?_
  show own_Go p e below _ (T.setTop (mkF m 31 #[.val (.int l0), .val (.int s0), .unset, .unset, .unset] [(.int l0)]))
  refine own_by (fun _ kont => X.ldcI hx hown (v := (55296 : Int32)) (mvT hZ (hw _ (List.mem_of_getElem? (i := 1) rfl))) rfl (hb hby d2_31) kont) ?_
  show own_Go p e below _ (T.setTop (mkF m 33 #[.val (.int l0), .val (.int s0), .unset, .unset, .unset] [(.int (55296 : Int32)), (.int l0)]))
  by_cases c33 : l0 < (55296 : Int32)
  · rw [if_pos c33]
    refine own_by (fun _ kont => XS.icmpYes X.here hx rfl (pc0 := 33) (pc' := 46) rfl (hb hby d2_33) rfl (XT.ii_lt_t c33) (by decide) (by decide) kont) ?_
    show own_Go p e below _ (T.setTop (mkF m 46 #[.val (.int l0), .val (.int s0), .unset, .unset, .unset] []))
    exact w2_46 X hx hby hlk hret hZ hown hw hml N eT l0 s0
  · rw [if_neg c33]
    refine own_by (fun _ kont => XS.icmpNo X.here hx rfl (hb hby d2_33) rfl (XT.ii_lt_f c33) kont) ?_
    show own_Go p e below _ (T.setTop (mkF m 36 #[.val (.int l0), .val (.int s0), .unset, .unset, .unset] []))
    refine own_by (fun _ kont => XS.iloadN X.here hx rfl (hb hby d2_36) rfl kont) ?_
    show own_Go p e below _ (T.setTop (mkF m 37 #[.val (.int l0), .val (.int s0), .unset, .unset, .unset] [(.int l0)]))
    refine own_by (fun _ kont => X.ldcI hx hown (v := (57343 : Int32)) (mvT hZ (hw _ (List.mem_of_getElem? (i := 23) rfl))) rfl (hb hby d2_37) kont) ?_
    show own_Go p e below _ (T.setTop (mkF m 39 #[.val (.int l0), .val (.int s0), .unset, .unset, .unset] [(.int (57343 : Int32)), (.int l0)]))
    by_cases c39 : (57343 : Int32) < l0
    · rw [if_pos c39]
      refine own_by (fun _ kont => XS.icmpYes X.here hx rfl (pc0 := 39) (pc' := 46) rfl (hb hby d2_39) rfl (XT.ii_gt_t c39) (by decide) (by decide) kont) ?_
      show own_Go p e below _ (T.setTop (mkF m 46 #[.val (.int l0), .val (.int s0), .unset, .unset, .unset] []))
      exact w2_46 X hx hby hlk hret hZ hown hw hml N eT l0 s0
    · rw [if_neg c39]
      refine own_by (fun _ kont => XS.icmpNo X.here hx rfl (hb hby d2_39) rfl (XT.ii_gt_f c39) kont) ?_
      show own_Go p e below _ (T.setTop (mkF m 42 #[.val (.int l0), .val (.int s0), .unset, .unset, .unset] []))
      refine own_by (fun _ kont => XT.iconstV X.here hx rfl (1 : Int32) (hb hby d2_42) rfl kont) ?_
      show own_Go p e below _ (T.setTop (mkF m 43 #[.val (.int l0), .val (.int s0), .unset, .unset, .unset] [(.int (1 : Int32))]))
      refine own_by (fun _ kont => XS.goto X.here hx rfl (pc0 := 43) (pc' := 47) rfl (hb hby d2_43) (by decide) (by decide) kont) ?_
      show own_Go p e below _ (T.setTop (mkF m 47 #[.val (.int l0), .val (.int s0), .unset, .unset, .unset] [(.int (1 : Int32))]))
      exact w2_47 X hx hby hlk hret hZ hown hw hml N eT l0 s0 (1 : Int32)
def f2_28 (l0 : Int32) : Int32 := (f2_29 l0 (0 : Int32))
set_option maxRecDepth 65536 in
set_option maxHeartbeats 4000000 in
theorem w2_28 {p : Program} {l : Launch} {e : Env} {s : State} {m : MethodId} {args : Array Value} {below : List Frame} {meth : Method} {c : Code} {T : State} {locs : List Loc} {Z : State} {a0 : Array Value} {n0 : Nat} {h0 : Heap} (X : Stand p l e ({ frames := 0, cells := 0, slots := 0, locals := 0 } : Room) s m args below meth c T locs 0 0) (hx : p.tables.exec = Jvm.exec) (hby : c.code = method_3_code) (hlk : meth.locks = false) (hret : meth.sig.returnType = some .boolean) (hZ : Z.Warmed39 s.vm) (hown : s.vm.findClass "com/example/templates_on_trees/templatesontrees/xml/CharactersIsCharPinLaw" = some m.cls) (hw : ∀ d ∈ tables_1, d.before a0 Z = true) (hml : c.maxLocals = 5) (N : Fr n0 locs) (eT : T.heap = h0) (l0 : Int32) :
    own_Go p e below (own_K s (own_Q (.int (f2_28 l0)) h0 n0) 0 0) (T.setTop (mkF m 28 #[.val (.int l0), .unset, .unset, .unset, .unset] [])) := by
  unfold f2_28
  refine own_by (fun _ kont => XT.iconstV X.here hx rfl (0 : Int32) (hb hby d2_28) rfl kont) ?_
  show own_Go p e below _ (T.setTop (mkF m 29 #[.val (.int l0), .unset, .unset, .unset, .unset] [(.int (0 : Int32))]))
  exact w2_29 X hx hby hlk hret hZ hown hw hml N eT l0 (0 : Int32)
def f2_0 (l0 : Int32) : Int32 := (if l0 < (32 : Int32) then (if l0 = (9 : Int32) then (f2_28 l0) else (if l0 = (10 : Int32) then (f2_28 l0) else (if l0 = (13 : Int32) then (f2_28 l0) else (f2_29 l0 (1 : Int32))))) else (f2_28 l0))
set_option maxRecDepth 65536 in
set_option maxHeartbeats 4000000 in
theorem w2_0 {p : Program} {l : Launch} {e : Env} {s : State} {m : MethodId} {args : Array Value} {below : List Frame} {meth : Method} {c : Code} {T : State} {locs : List Loc} {Z : State} {a0 : Array Value} {n0 : Nat} {h0 : Heap} (X : Stand p l e ({ frames := 0, cells := 0, slots := 0, locals := 0 } : Room) s m args below meth c T locs 0 0) (hx : p.tables.exec = Jvm.exec) (hby : c.code = method_3_code) (hlk : meth.locks = false) (hret : meth.sig.returnType = some .boolean) (hZ : Z.Warmed39 s.vm) (hown : s.vm.findClass "com/example/templates_on_trees/templatesontrees/xml/CharactersIsCharPinLaw" = some m.cls) (hw : ∀ d ∈ tables_1, d.before a0 Z = true) (hml : c.maxLocals = 5) (N : Fr n0 locs) (eT : T.heap = h0) (l0 : Int32) :
    own_Go p e below (own_K s (own_Q (.int (f2_0 l0)) h0 n0) 0 0) (T.setTop (mkF m 0 #[.val (.int l0), .unset, .unset, .unset, .unset] [])) := by
  unfold f2_0
  refine own_by (fun _ kont => XS.iloadN X.here hx rfl (hb hby d2_0) rfl kont) ?_
  show own_Go p e below _ (T.setTop (mkF m 1 #[.val (.int l0), .unset, .unset, .unset, .unset] [(.int l0)]))
  refine own_by (fun _ kont => XT.bipushV X.here hx rfl (32 : Int32) (hb hby d2_1) rfl kont) ?_
  show own_Go p e below _ (T.setTop (mkF m 3 #[.val (.int l0), .unset, .unset, .unset, .unset] [(.int (32 : Int32)), (.int l0)]))
  by_cases c3 : l0 < (32 : Int32)
  · rw [if_pos c3]
    refine own_by (fun _ kont => XS.icmpNo X.here hx rfl (hb hby d2_3) rfl (XT.ii_ge_f c3) kont) ?_
    show own_Go p e below _ (T.setTop (mkF m 6 #[.val (.int l0), .unset, .unset, .unset, .unset] []))
    refine own_by (fun _ kont => XS.iloadN X.here hx rfl (hb hby d2_6) rfl kont) ?_
    show own_Go p e below _ (T.setTop (mkF m 7 #[.val (.int l0), .unset, .unset, .unset, .unset] [(.int l0)]))
    refine own_by (fun _ kont => XT.bipushV X.here hx rfl (9 : Int32) (hb hby d2_7) rfl kont) ?_
    show own_Go p e below _ (T.setTop (mkF m 9 #[.val (.int l0), .unset, .unset, .unset, .unset] [(.int (9 : Int32)), (.int l0)]))
    by_cases c9 : l0 = (9 : Int32)
    · rw [if_pos c9]
      refine own_by (fun _ kont => XS.icmpYes X.here hx rfl (pc0 := 9) (pc' := 28) rfl (hb hby d2_9) rfl (XT.ii_eq_t c9) (by decide) (by decide) kont) ?_
      show own_Go p e below _ (T.setTop (mkF m 28 #[.val (.int l0), .unset, .unset, .unset, .unset] []))
      exact w2_28 X hx hby hlk hret hZ hown hw hml N eT l0
    · rw [if_neg c9]
      refine own_by (fun _ kont => XS.icmpNo X.here hx rfl (hb hby d2_9) rfl (XT.ii_eq_f c9) kont) ?_
      show own_Go p e below _ (T.setTop (mkF m 12 #[.val (.int l0), .unset, .unset, .unset, .unset] []))
      refine own_by (fun _ kont => XS.iloadN X.here hx rfl (hb hby d2_12) rfl kont) ?_
      show own_Go p e below _ (T.setTop (mkF m 13 #[.val (.int l0), .unset, .unset, .unset, .unset] [(.int l0)]))
      refine own_by (fun _ kont => XT.bipushV X.here hx rfl (10 : Int32) (hb hby d2_13) rfl kont) ?_
      show own_Go p e below _ (T.setTop (mkF m 15 #[.val (.int l0), .unset, .unset, .unset, .unset] [(.int (10 : Int32)), (.int l0)]))
      by_cases c15 : l0 = (10 : Int32)
      · rw [if_pos c15]
        refine own_by (fun _ kont => XS.icmpYes X.here hx rfl (pc0 := 15) (pc' := 28) rfl (hb hby d2_15) rfl (XT.ii_eq_t c15) (by decide) (by decide) kont) ?_
        show own_Go p e below _ (T.setTop (mkF m 28 #[.val (.int l0), .unset, .unset, .unset, .unset] []))
        exact w2_28 X hx hby hlk hret hZ hown hw hml N eT l0
      · rw [if_neg c15]
        refine own_by (fun _ kont => XS.icmpNo X.here hx rfl (hb hby d2_15) rfl (XT.ii_eq_f c15) kont) ?_
        show own_Go p e below _ (T.setTop (mkF m 18 #[.val (.int l0), .unset, .unset, .unset, .unset] []))
        refine own_by (fun _ kont => XS.iloadN X.here hx rfl (hb hby d2_18) rfl kont) ?_
        show own_Go p e below _ (T.setTop (mkF m 19 #[.val (.int l0), .unset, .unset, .unset, .unset] [(.int l0)]))
        refine own_by (fun _ kont => XT.bipushV X.here hx rfl (13 : Int32) (hb hby d2_19) rfl kont) ?_
        show own_Go p e below _ (T.setTop (mkF m 21 #[.val (.int l0), .unset, .unset, .unset, .unset] [(.int (13 : Int32)), (.int l0)]))
        by_cases c21 : l0 = (13 : Int32)
        · rw [if_pos c21]
          refine own_by (fun _ kont => XS.icmpYes X.here hx rfl (pc0 := 21) (pc' := 28) rfl (hb hby d2_21) rfl (XT.ii_eq_t c21) (by decide) (by decide) kont) ?_
          show own_Go p e below _ (T.setTop (mkF m 28 #[.val (.int l0), .unset, .unset, .unset, .unset] []))
          exact w2_28 X hx hby hlk hret hZ hown hw hml N eT l0
        · rw [if_neg c21]
          refine own_by (fun _ kont => XS.icmpNo X.here hx rfl (hb hby d2_21) rfl (XT.ii_eq_f c21) kont) ?_
          show own_Go p e below _ (T.setTop (mkF m 24 #[.val (.int l0), .unset, .unset, .unset, .unset] []))
          refine own_by (fun _ kont => XT.iconstV X.here hx rfl (1 : Int32) (hb hby d2_24) rfl kont) ?_
          show own_Go p e below _ (T.setTop (mkF m 25 #[.val (.int l0), .unset, .unset, .unset, .unset] [(.int (1 : Int32))]))
          refine own_by (fun _ kont => XS.goto X.here hx rfl (pc0 := 25) (pc' := 29) rfl (hb hby d2_25) (by decide) (by decide) kont) ?_
          show own_Go p e below _ (T.setTop (mkF m 29 #[.val (.int l0), .unset, .unset, .unset, .unset] [(.int (1 : Int32))]))
          exact w2_29 X hx hby hlk hret hZ hown hw hml N eT l0 (1 : Int32)
  · rw [if_neg c3]
    refine own_by (fun _ kont => XS.icmpYes X.here hx rfl (pc0 := 3) (pc' := 28) rfl (hb hby d2_3) rfl (XT.ii_ge_t c3) (by decide) (by decide) kont) ?_
    show own_Go p e below _ (T.setTop (mkF m 28 #[.val (.int l0), .unset, .unset, .unset, .unset] []))
    exact w2_28 X hx hby hlk hret hZ hown hw hml N eT l0
theorem own_ef2 (m : MethodId) (l0 : Int32) : entryFrame m #[(.int l0)] 5 = (mkF m 0 #[.val (.int l0), .unset, .unset, .unset, .unset] []) := by first | (simp [entryFrame, mkF, argsToLocals, Value.category, maxLocals]; done) | rfl
set_option maxRecDepth 65536 in
set_option maxHeartbeats 4000000 in
theorem rm2 (l : Launch) (Z : State) (a0 : Array Value) (hw : ∀ d ∈ tables_1, d.before a0 Z = true) (ws : List Jvm.Cond) (l0 : Int32) (h0 : Heap) (n0 : Nat) :
    MetFree l (⟨"com/example/templates_on_trees/templatesontrees/xml/CharactersIsCharPinLaw", "expected", "(I)Z"⟩ : MethodName) (head1 (Jvm.Cond.code (⟨"com/example/templates_on_trees/templatesontrees/xml/CharactersIsCharPinLaw", "expected", "(I)Z"⟩ : MethodName) method_3_code 5 (some .boolean) :: ws) ({ frames := 0, cells := 0, slots := 0, locals := 0 } : Room)) (fun a U => a = #[(.int l0)] ∧ Z.Warmed39 U.vm ∧ U.heap = h0) (fun _ _ _ _ _ => True) (fun _ U o U' => ∃ v L, o = .returned v ∧ own_Q (.int (f2_0 l0)) h0 n0 v U'.heap L ∧ FrameEnd U o U' L ({ frames := 0, cells := 0, slots := 0, locals := 0 } : Room).cells ({ frames := 0, cells := 0, slots := 0, locals := 0 } : Room).slots) := by
  refine MetFree.of_bodySF (plainFor_of_name own_pn2) hisR ?_
  intro p e s m args below meth c s₁ Bd hml0 hP hK
  obtain ⟨rfl, hZ, hh⟩ := hP
  have hx := Bd.exec
  have hby := Bd.bytes
  have hml : c.maxLocals = 5 := hml0
  have hown : s.vm.findClass "com/example/templates_on_trees/templatesontrees/xml/CharactersIsCharPinLaw" = some m.cls := findClass_of_methodNamed Bd.named
  have X0 : Stand p l e ({ frames := 0, cells := 0, slots := 0, locals := 0 } : Room) s m #[(.int l0)] below meth c s₁ [] 0 0 := Stand.of_body Bd
  have e0 : s₁.heap = h0 := by rw [← hh, Bd.state]; rfl
  have N0 := Fr.nil n0
  exact own_by (fun t k => castTop (own_ef2 m l0) k) (w2_0 X0 hx hby Bd.notSynchronized Bd.returns hZ hown hw hml N0 e0 l0)
theorem own_lt {c k : Int32} {n : Int} (hk : k.toInt = n) (h : c.toInt < n) : c < k := by rw [Int32.lt_iff_toInt_lt, hk]; exact h
theorem own_nlt {c k : Int32} {n : Int} (hk : k.toInt = n) (h : ¬ c.toInt < n) : ¬ c < k := by rw [Int32.lt_iff_toInt_lt, hk]; exact h
theorem own_gt {c k : Int32} {n : Int} (hk : k.toInt = n) (h : n < c.toInt) : k < c := by rw [Int32.lt_iff_toInt_lt, hk]; exact h
theorem own_ngt {c k : Int32} {n : Int} (hk : k.toInt = n) (h : ¬ n < c.toInt) : ¬ k < c := by rw [Int32.lt_iff_toInt_lt, hk]; exact h
theorem own_eq {c k : Int32} {n : Int} (hk : k.toInt = n) (h : c.toInt = n) : c = k := Int32.toInt_inj.mp (h.trans hk.symm)
theorem own_ne {c k : Int32} {n : Int} (hk : k.toInt = n) (h : ¬ c.toInt = n) : ¬ c = k := fun q => h (by rw [q, hk])
theorem own_val_0 (c : Int32) (h1 : c.toInt < 9) : f1_0 c = 0 ∧ f2_0 c = 0 := by
  constructor
  · unfold f1_0
    rw [if_pos (own_lt (n := 32) (by decide) (by omega))]
    rw [if_neg (own_ne (n := 9) (by decide) (by omega))]
    rw [if_neg (own_ne (n := 10) (by decide) (by omega))]
    rw [if_neg (own_ne (n := 13) (by decide) (by omega))]
    unfold f1_28
    all_goals rfl
  · unfold f2_0
    rw [if_pos (own_lt (n := 32) (by decide) (by omega))]
    rw [if_neg (own_ne (n := 9) (by decide) (by omega))]
    rw [if_neg (own_ne (n := 10) (by decide) (by omega))]
    rw [if_neg (own_ne (n := 13) (by decide) (by omega))]
    unfold f2_29
    rw [if_pos (own_lt (n := 55296) (by decide) (by omega))]
    unfold f2_46
    unfold f2_47
    rw [if_neg (own_ne (n := 65534) (by decide) (by omega))]
    rw [if_neg (own_ne (n := 65535) (by decide) (by omega))]
    unfold f2_64
    unfold f2_65
    rw [if_neg (own_ngt (n := 1114111) (by decide) (by omega))]
    unfold f2_76
    unfold f2_77
    rw [if_neg (by decide)]
    unfold f2_100
    all_goals rfl
theorem own_val_1 (c : Int32) (h0 : 9 ≤ c.toInt) (h1 : c.toInt < 10) : f1_0 c = 1 ∧ f2_0 c = 1 := by
  constructor
  · unfold f1_0
    rw [if_pos (own_lt (n := 32) (by decide) (by omega))]
    rw [if_pos (own_eq (n := 9) (by decide) (by omega))]
    unfold f1_24
    all_goals rfl
  · unfold f2_0
    rw [if_pos (own_lt (n := 32) (by decide) (by omega))]
    rw [if_pos (own_eq (n := 9) (by decide) (by omega))]
    unfold f2_28
    unfold f2_29
    rw [if_pos (own_lt (n := 55296) (by decide) (by omega))]
    unfold f2_46
    unfold f2_47
    rw [if_neg (own_ne (n := 65534) (by decide) (by omega))]
    rw [if_neg (own_ne (n := 65535) (by decide) (by omega))]
    unfold f2_64
    unfold f2_65
    rw [if_neg (own_ngt (n := 1114111) (by decide) (by omega))]
    unfold f2_76
    unfold f2_77
    rw [if_pos (by decide)]
    rw [if_pos (by decide)]
    rw [if_pos (by decide)]
    rw [if_pos (by decide)]
    all_goals rfl
theorem own_val_2 (c : Int32) (h0 : 10 ≤ c.toInt) (h1 : c.toInt < 11) : f1_0 c = 1 ∧ f2_0 c = 1 := by
  constructor
  · unfold f1_0
    rw [if_pos (own_lt (n := 32) (by decide) (by omega))]
    rw [if_neg (own_ne (n := 9) (by decide) (by omega))]
    rw [if_pos (own_eq (n := 10) (by decide) (by omega))]
    unfold f1_24
    all_goals rfl
  · unfold f2_0
    rw [if_pos (own_lt (n := 32) (by decide) (by omega))]
    rw [if_neg (own_ne (n := 9) (by decide) (by omega))]
    rw [if_pos (own_eq (n := 10) (by decide) (by omega))]
    unfold f2_28
    unfold f2_29
    rw [if_pos (own_lt (n := 55296) (by decide) (by omega))]
    unfold f2_46
    unfold f2_47
    rw [if_neg (own_ne (n := 65534) (by decide) (by omega))]
    rw [if_neg (own_ne (n := 65535) (by decide) (by omega))]
    unfold f2_64
    unfold f2_65
    rw [if_neg (own_ngt (n := 1114111) (by decide) (by omega))]
    unfold f2_76
    unfold f2_77
    rw [if_pos (by decide)]
    rw [if_pos (by decide)]
    rw [if_pos (by decide)]
    rw [if_pos (by decide)]
    all_goals rfl
theorem own_val_3 (c : Int32) (h0 : 11 ≤ c.toInt) (h1 : c.toInt < 13) : f1_0 c = 0 ∧ f2_0 c = 0 := by
  constructor
  · unfold f1_0
    rw [if_pos (own_lt (n := 32) (by decide) (by omega))]
    rw [if_neg (own_ne (n := 9) (by decide) (by omega))]
    rw [if_neg (own_ne (n := 10) (by decide) (by omega))]
    rw [if_neg (own_ne (n := 13) (by decide) (by omega))]
    unfold f1_28
    all_goals rfl
  · unfold f2_0
    rw [if_pos (own_lt (n := 32) (by decide) (by omega))]
    rw [if_neg (own_ne (n := 9) (by decide) (by omega))]
    rw [if_neg (own_ne (n := 10) (by decide) (by omega))]
    rw [if_neg (own_ne (n := 13) (by decide) (by omega))]
    unfold f2_29
    rw [if_pos (own_lt (n := 55296) (by decide) (by omega))]
    unfold f2_46
    unfold f2_47
    rw [if_neg (own_ne (n := 65534) (by decide) (by omega))]
    rw [if_neg (own_ne (n := 65535) (by decide) (by omega))]
    unfold f2_64
    unfold f2_65
    rw [if_neg (own_ngt (n := 1114111) (by decide) (by omega))]
    unfold f2_76
    unfold f2_77
    rw [if_neg (by decide)]
    unfold f2_100
    all_goals rfl
theorem own_val_4 (c : Int32) (h0 : 13 ≤ c.toInt) (h1 : c.toInt < 14) : f1_0 c = 1 ∧ f2_0 c = 1 := by
  constructor
  · unfold f1_0
    rw [if_pos (own_lt (n := 32) (by decide) (by omega))]
    rw [if_neg (own_ne (n := 9) (by decide) (by omega))]
    rw [if_neg (own_ne (n := 10) (by decide) (by omega))]
    rw [if_pos (own_eq (n := 13) (by decide) (by omega))]
    unfold f1_24
    all_goals rfl
  · unfold f2_0
    rw [if_pos (own_lt (n := 32) (by decide) (by omega))]
    rw [if_neg (own_ne (n := 9) (by decide) (by omega))]
    rw [if_neg (own_ne (n := 10) (by decide) (by omega))]
    rw [if_pos (own_eq (n := 13) (by decide) (by omega))]
    unfold f2_28
    unfold f2_29
    rw [if_pos (own_lt (n := 55296) (by decide) (by omega))]
    unfold f2_46
    unfold f2_47
    rw [if_neg (own_ne (n := 65534) (by decide) (by omega))]
    rw [if_neg (own_ne (n := 65535) (by decide) (by omega))]
    unfold f2_64
    unfold f2_65
    rw [if_neg (own_ngt (n := 1114111) (by decide) (by omega))]
    unfold f2_76
    unfold f2_77
    rw [if_pos (by decide)]
    rw [if_pos (by decide)]
    rw [if_pos (by decide)]
    rw [if_pos (by decide)]
    all_goals rfl
theorem own_val_5 (c : Int32) (h0 : 14 ≤ c.toInt) (h1 : c.toInt < 32) : f1_0 c = 0 ∧ f2_0 c = 0 := by
  constructor
  · unfold f1_0
    rw [if_pos (own_lt (n := 32) (by decide) (by omega))]
    rw [if_neg (own_ne (n := 9) (by decide) (by omega))]
    rw [if_neg (own_ne (n := 10) (by decide) (by omega))]
    rw [if_neg (own_ne (n := 13) (by decide) (by omega))]
    unfold f1_28
    all_goals rfl
  · unfold f2_0
    rw [if_pos (own_lt (n := 32) (by decide) (by omega))]
    rw [if_neg (own_ne (n := 9) (by decide) (by omega))]
    rw [if_neg (own_ne (n := 10) (by decide) (by omega))]
    rw [if_neg (own_ne (n := 13) (by decide) (by omega))]
    unfold f2_29
    rw [if_pos (own_lt (n := 55296) (by decide) (by omega))]
    unfold f2_46
    unfold f2_47
    rw [if_neg (own_ne (n := 65534) (by decide) (by omega))]
    rw [if_neg (own_ne (n := 65535) (by decide) (by omega))]
    unfold f2_64
    unfold f2_65
    rw [if_neg (own_ngt (n := 1114111) (by decide) (by omega))]
    unfold f2_76
    unfold f2_77
    rw [if_neg (by decide)]
    unfold f2_100
    all_goals rfl
theorem own_val_6 (c : Int32) (h0 : 32 ≤ c.toInt) (h1 : c.toInt < 55296) : f1_0 c = 1 ∧ f2_0 c = 1 := by
  constructor
  · unfold f1_0
    rw [if_neg (own_nlt (n := 32) (by decide) (by omega))]
    unfold f1_30
    rw [if_neg (own_ngt (n := 55295) (by decide) (by omega))]
    unfold f1_60
    all_goals rfl
  · unfold f2_0
    rw [if_neg (own_nlt (n := 32) (by decide) (by omega))]
    unfold f2_28
    unfold f2_29
    rw [if_pos (own_lt (n := 55296) (by decide) (by omega))]
    unfold f2_46
    unfold f2_47
    rw [if_neg (own_ne (n := 65534) (by decide) (by omega))]
    rw [if_neg (own_ne (n := 65535) (by decide) (by omega))]
    unfold f2_64
    unfold f2_65
    rw [if_neg (own_ngt (n := 1114111) (by decide) (by omega))]
    unfold f2_76
    unfold f2_77
    rw [if_pos (by decide)]
    rw [if_pos (by decide)]
    rw [if_pos (by decide)]
    rw [if_pos (by decide)]
    all_goals rfl
theorem own_val_7 (c : Int32) (h0 : 55296 ≤ c.toInt) (h1 : c.toInt < 57344) : f1_0 c = 0 ∧ f2_0 c = 0 := by
  constructor
  · unfold f1_0
    rw [if_neg (own_nlt (n := 32) (by decide) (by omega))]
    unfold f1_30
    rw [if_pos (own_gt (n := 55295) (by decide) (by omega))]
    rw [if_pos (own_lt (n := 57344) (by decide) (by omega))]
    unfold f1_48
    rw [if_pos (own_lt (n := 65536) (by decide) (by omega))]
    unfold f1_64
    all_goals rfl
  · unfold f2_0
    rw [if_neg (own_nlt (n := 32) (by decide) (by omega))]
    unfold f2_28
    unfold f2_29
    rw [if_neg (own_nlt (n := 55296) (by decide) (by omega))]
    rw [if_neg (own_ngt (n := 57343) (by decide) (by omega))]
    unfold f2_47
    rw [if_neg (own_ne (n := 65534) (by decide) (by omega))]
    rw [if_neg (own_ne (n := 65535) (by decide) (by omega))]
    unfold f2_64
    unfold f2_65
    rw [if_neg (own_ngt (n := 1114111) (by decide) (by omega))]
    unfold f2_76
    unfold f2_77
    rw [if_pos (by decide)]
    rw [if_neg (by decide)]
    unfold f2_100
    all_goals rfl
theorem own_val_8 (c : Int32) (h0 : 57344 ≤ c.toInt) (h1 : c.toInt < 65534) : f1_0 c = 1 ∧ f2_0 c = 1 := by
  constructor
  · unfold f1_0
    rw [if_neg (own_nlt (n := 32) (by decide) (by omega))]
    unfold f1_30
    rw [if_pos (own_gt (n := 55295) (by decide) (by omega))]
    rw [if_neg (own_nlt (n := 57344) (by decide) (by omega))]
    rw [if_neg (own_ngt (n := 65533) (by decide) (by omega))]
    unfold f1_60
    all_goals rfl
  · unfold f2_0
    rw [if_neg (own_nlt (n := 32) (by decide) (by omega))]
    unfold f2_28
    unfold f2_29
    rw [if_neg (own_nlt (n := 55296) (by decide) (by omega))]
    rw [if_pos (own_gt (n := 57343) (by decide) (by omega))]
    unfold f2_46
    unfold f2_47
    rw [if_neg (own_ne (n := 65534) (by decide) (by omega))]
    rw [if_neg (own_ne (n := 65535) (by decide) (by omega))]
    unfold f2_64
    unfold f2_65
    rw [if_neg (own_ngt (n := 1114111) (by decide) (by omega))]
    unfold f2_76
    unfold f2_77
    rw [if_pos (by decide)]
    rw [if_pos (by decide)]
    rw [if_pos (by decide)]
    rw [if_pos (by decide)]
    all_goals rfl
theorem own_val_9 (c : Int32) (h0 : 65534 ≤ c.toInt) (h1 : c.toInt < 65535) : f1_0 c = 0 ∧ f2_0 c = 0 := by
  constructor
  · unfold f1_0
    rw [if_neg (own_nlt (n := 32) (by decide) (by omega))]
    unfold f1_30
    rw [if_pos (own_gt (n := 55295) (by decide) (by omega))]
    rw [if_neg (own_nlt (n := 57344) (by decide) (by omega))]
    rw [if_pos (own_gt (n := 65533) (by decide) (by omega))]
    unfold f1_48
    rw [if_pos (own_lt (n := 65536) (by decide) (by omega))]
    unfold f1_64
    all_goals rfl
  · unfold f2_0
    rw [if_neg (own_nlt (n := 32) (by decide) (by omega))]
    unfold f2_28
    unfold f2_29
    rw [if_neg (own_nlt (n := 55296) (by decide) (by omega))]
    rw [if_pos (own_gt (n := 57343) (by decide) (by omega))]
    unfold f2_46
    unfold f2_47
    rw [if_pos (own_eq (n := 65534) (by decide) (by omega))]
    unfold f2_60
    unfold f2_65
    rw [if_neg (own_ngt (n := 1114111) (by decide) (by omega))]
    unfold f2_76
    unfold f2_77
    rw [if_pos (by decide)]
    rw [if_pos (by decide)]
    rw [if_neg (by decide)]
    unfold f2_100
    all_goals rfl
theorem own_val_10 (c : Int32) (h0 : 65535 ≤ c.toInt) (h1 : c.toInt < 65536) : f1_0 c = 0 ∧ f2_0 c = 0 := by
  constructor
  · unfold f1_0
    rw [if_neg (own_nlt (n := 32) (by decide) (by omega))]
    unfold f1_30
    rw [if_pos (own_gt (n := 55295) (by decide) (by omega))]
    rw [if_neg (own_nlt (n := 57344) (by decide) (by omega))]
    rw [if_pos (own_gt (n := 65533) (by decide) (by omega))]
    unfold f1_48
    rw [if_pos (own_lt (n := 65536) (by decide) (by omega))]
    unfold f1_64
    all_goals rfl
  · unfold f2_0
    rw [if_neg (own_nlt (n := 32) (by decide) (by omega))]
    unfold f2_28
    unfold f2_29
    rw [if_neg (own_nlt (n := 55296) (by decide) (by omega))]
    rw [if_pos (own_gt (n := 57343) (by decide) (by omega))]
    unfold f2_46
    unfold f2_47
    rw [if_neg (own_ne (n := 65534) (by decide) (by omega))]
    rw [if_pos (own_eq (n := 65535) (by decide) (by omega))]
    unfold f2_60
    unfold f2_65
    rw [if_neg (own_ngt (n := 1114111) (by decide) (by omega))]
    unfold f2_76
    unfold f2_77
    rw [if_pos (by decide)]
    rw [if_pos (by decide)]
    rw [if_neg (by decide)]
    unfold f2_100
    all_goals rfl
theorem own_val_11 (c : Int32) (h0 : 65536 ≤ c.toInt) (h1 : c.toInt < 1114112) : f1_0 c = 1 ∧ f2_0 c = 1 := by
  constructor
  · unfold f1_0
    rw [if_neg (own_nlt (n := 32) (by decide) (by omega))]
    unfold f1_30
    rw [if_pos (own_gt (n := 55295) (by decide) (by omega))]
    rw [if_neg (own_nlt (n := 57344) (by decide) (by omega))]
    rw [if_pos (own_gt (n := 65533) (by decide) (by omega))]
    unfold f1_48
    rw [if_neg (own_nlt (n := 65536) (by decide) (by omega))]
    rw [if_neg (own_ngt (n := 1114111) (by decide) (by omega))]
    unfold f1_60
    all_goals rfl
  · unfold f2_0
    rw [if_neg (own_nlt (n := 32) (by decide) (by omega))]
    unfold f2_28
    unfold f2_29
    rw [if_neg (own_nlt (n := 55296) (by decide) (by omega))]
    rw [if_pos (own_gt (n := 57343) (by decide) (by omega))]
    unfold f2_46
    unfold f2_47
    rw [if_neg (own_ne (n := 65534) (by decide) (by omega))]
    rw [if_neg (own_ne (n := 65535) (by decide) (by omega))]
    unfold f2_64
    unfold f2_65
    rw [if_neg (own_ngt (n := 1114111) (by decide) (by omega))]
    unfold f2_76
    unfold f2_77
    rw [if_pos (by decide)]
    rw [if_pos (by decide)]
    rw [if_pos (by decide)]
    rw [if_pos (by decide)]
    all_goals rfl
theorem own_val_12 (c : Int32) (h0 : 1114112 ≤ c.toInt) : f1_0 c = 0 ∧ f2_0 c = 0 := by
  constructor
  · unfold f1_0
    rw [if_neg (own_nlt (n := 32) (by decide) (by omega))]
    unfold f1_30
    rw [if_pos (own_gt (n := 55295) (by decide) (by omega))]
    rw [if_neg (own_nlt (n := 57344) (by decide) (by omega))]
    rw [if_pos (own_gt (n := 65533) (by decide) (by omega))]
    unfold f1_48
    rw [if_neg (own_nlt (n := 65536) (by decide) (by omega))]
    rw [if_pos (own_gt (n := 1114111) (by decide) (by omega))]
    unfold f1_64
    all_goals rfl
  · unfold f2_0
    rw [if_neg (own_nlt (n := 32) (by decide) (by omega))]
    unfold f2_28
    unfold f2_29
    rw [if_neg (own_nlt (n := 55296) (by decide) (by omega))]
    rw [if_pos (own_gt (n := 57343) (by decide) (by omega))]
    unfold f2_46
    unfold f2_47
    rw [if_neg (own_ne (n := 65534) (by decide) (by omega))]
    rw [if_neg (own_ne (n := 65535) (by decide) (by omega))]
    unfold f2_64
    unfold f2_65
    rw [if_pos (own_gt (n := 1114111) (by decide) (by omega))]
    unfold f2_77
    rw [if_pos (by decide)]
    rw [if_pos (by decide)]
    rw [if_pos (by decide)]
    rw [if_neg (by decide)]
    unfold f2_100
    all_goals rfl
theorem own_val (c : Int32) : (f1_0 c = 1 ∧ f2_0 c = 1) ∨ (f1_0 c = 0 ∧ f2_0 c = 0) := by
  by_cases k0 : c.toInt < 9
  · exact Or.inr (own_val_0 c  k0)
  by_cases k1 : c.toInt < 10
  · exact Or.inl (own_val_1 c (by omega) k1)
  clear k0
  by_cases k2 : c.toInt < 11
  · exact Or.inl (own_val_2 c (by omega) k2)
  clear k1
  by_cases k3 : c.toInt < 13
  · exact Or.inr (own_val_3 c (by omega) k3)
  clear k2
  by_cases k4 : c.toInt < 14
  · exact Or.inl (own_val_4 c (by omega) k4)
  clear k3
  by_cases k5 : c.toInt < 32
  · exact Or.inr (own_val_5 c (by omega) k5)
  clear k4
  by_cases k6 : c.toInt < 55296
  · exact Or.inl (own_val_6 c (by omega) k6)
  clear k5
  by_cases k7 : c.toInt < 57344
  · exact Or.inr (own_val_7 c (by omega) k7)
  clear k6
  by_cases k8 : c.toInt < 65534
  · exact Or.inl (own_val_8 c (by omega) k8)
  clear k7
  by_cases k9 : c.toInt < 65535
  · exact Or.inr (own_val_9 c (by omega) k9)
  clear k8
  by_cases k10 : c.toInt < 65536
  · exact Or.inr (own_val_10 c (by omega) k10)
  clear k9
  by_cases k11 : c.toInt < 1114112
  · exact Or.inl (own_val_11 c (by omega) k11)
  clear k10
  exact Or.inr (own_val_12 c (by omega))
theorem own_same (c : Int32) : f1_0 c = f2_0 c := by rcases own_val c with ⟨a, b⟩ | ⟨a, b⟩ <;> rw [a, b]
theorem own_ef0 (m : MethodId) (i0 : Int32) (i1 : Int32) : entryFrame m #[(.int i0), (.int i1)] maxLocals = (mkF m 0 #[.val (.int i0), .val (.int i1), .unset, .unset, .unset] []) := by first | (simp [entryFrame, mkF, argsToLocals, Value.category, maxLocals]; done) | rfl
set_option maxRecDepth 65536 in
set_option maxHeartbeats 40000000 in
theorem rmL (l : Launch) (Z : State) (a0 : Array Value) (hw : ∀ d ∈ tables_1, d.before a0 Z = true) (ws : List Jvm.Cond) (i0 : Int32) (i1 : Int32) (h0 : Heap) (n0 : Nat) (Z0 : n0 ≤ h0.size) :
    MetFree l x (head1 (Jvm.Cond.code x code maxLocals ret :: ws) room_1) (fun a U => a = #[(.int i0), (.int i1)] ∧ Z.Warmed39 U.vm ∧ U.heap = h0) (fun _ _ _ _ _ => True) (fun _ U o U' => ∃ v L, o = .returned v ∧ (v = some (.int 1) ∧ Fr n0 L) ∧ FrameEnd U o U' L 1 12) := by
  refine MetFree.of_bodySF (plainFor_of_name own_pn2) hisR ?_
  intro p e s m args below meth c s₁ Bd hml0 hP hK
  obtain ⟨rfl, hZ, hh⟩ := hP
  have hx := Bd.exec
  have hby := Bd.bytes
  have hlk := Bd.notSynchronized
  have hret := Bd.returns
  have hml : c.maxLocals = 5 := hml0
  have hown : s.vm.findClass "com/example/templates_on_trees/templatesontrees/xml/CharactersIsCharPinLaw" = some m.cls := findClass_of_methodNamed Bd.named
  have X0 : Stand p l e room_1 s m #[(.int i0), (.int i1)] below meth c s₁ [] 0 0 := Stand.of_body Bd
  have e0 : s₁.heap = h0 := by rw [← hh, Bd.state]; rfl
  have N0 := Fr.nil n0
  show own_Go p e below (own_K s (fun v h L => v = some (.int 1) ∧ Fr n0 L) 1 12) _
  refine own_by (fun t k => castTop (own_ef0 m i0 i1) k) ?_
  show own_Go p e below _ (s₁.setTop (mkF m 0 #[.val (.int i0), .val (.int i1), .unset, .unset, .unset] []))
  refine own_by (fun _ kont => XT.bipushV X0.here hx rfl (12 : Int32) (hb hby at_0) rfl kont) ?_
  show own_Go p e below _ (s₁.setTop (mkF m 2 #[.val (.int i0), .val (.int i1), .unset, .unset, .unset] [(.int (12 : Int32))]))
  obtain ⟨T101, h101, a101, X101, e101, g101, E101, H101, st101⟩ := own_newIA X0 hx hZ (hw _ (List.mem_of_getElem? (i := 0) rfl)) e0 (g := (mkF m 2 #[.val (.int i0), .val (.int i1), .unset, .unset, .unset] [(.int (12 : Int32))])) rfl (hb hby at_2) rfl 12 (by decide) (cap := 12) (by decide) (by decide) (by decide) (by decide)
  have Z101 : n0 ≤ a101 := by rw [g101]; exact Z0
  refine own_by st101 ?_
  show own_Go p e below _ (T101.setTop (mkF m 4 #[.val (.int i0), .val (.int i1), .unset, .unset, .unset] [(.ref a101)]))
  refine own_by (fun _ kont => XS.dup X101.here hx rfl (hb hby at_4) rfl rfl kont) ?_
  show own_Go p e below _ (T101.setTop (mkF m 5 #[.val (.int i0), .val (.int i1), .unset, .unset, .unset] [(.ref a101), (.ref a101)]))
  refine own_by (fun _ kont => XT.iconstV X101.here hx rfl (0 : Int32) (hb hby at_5) rfl kont) ?_
  show own_Go p e below _ (T101.setTop (mkF m 6 #[.val (.int i0), .val (.int i1), .unset, .unset, .unset] [(.int (0 : Int32)), (.ref a101), (.ref a101)]))
  refine own_by (fun _ kont => XT.iconstV X101.here hx rfl (0 : Int32) (hb hby at_6) rfl kont) ?_
  show own_Go p e below _ (T101.setTop (mkF m 7 #[.val (.int i0), .val (.int i1), .unset, .unset, .unset] [(.int (0 : Int32)), (.int (0 : Int32)), (.ref a101), (.ref a101)]))
  obtain ⟨T102, h102, X102, e102, W102, G102, st102⟩ := own_stIA X101 hx hZ e101 H101 (j := (0 : Int32)) (by decide) (by decide) (g := (mkF m 7 #[.val (.int i0), .val (.int i1), .unset, .unset, .unset] [(.int (0 : Int32)), (.int (0 : Int32)), (.ref a101), (.ref a101)])) rfl rfl (hb hby at_7)
  obtain ⟨f102, H102⟩ : ∃ f, own_IA Z h102 a101 12 f := ⟨_, G102⟩
  have M102 := Fr.snoc X102 N0 Z101
  clear G102 W102
  refine own_by st102 ?_
  show own_Go p e below _ (T102.setTop (mkF m 8 #[.val (.int i0), .val (.int i1), .unset, .unset, .unset] [(.ref a101)]))
  refine own_by (fun _ kont => XS.dup X102.here hx rfl (hb hby at_8) rfl rfl kont) ?_
  show own_Go p e below _ (T102.setTop (mkF m 9 #[.val (.int i0), .val (.int i1), .unset, .unset, .unset] [(.ref a101), (.ref a101)]))
  refine own_by (fun _ kont => XT.iconstV X102.here hx rfl (1 : Int32) (hb hby at_9) rfl kont) ?_
  show own_Go p e below _ (T102.setTop (mkF m 10 #[.val (.int i0), .val (.int i1), .unset, .unset, .unset] [(.int (1 : Int32)), (.ref a101), (.ref a101)]))
  refine own_by (fun _ kont => XT.bipushV X102.here hx rfl (9 : Int32) (hb hby at_10) rfl kont) ?_
  show own_Go p e below _ (T102.setTop (mkF m 12 #[.val (.int i0), .val (.int i1), .unset, .unset, .unset] [(.int (9 : Int32)), (.int (1 : Int32)), (.ref a101), (.ref a101)]))
  obtain ⟨T103, h103, X103, e103, W103, G103, st103⟩ := own_stIA X102 hx hZ e102 H102 (j := (1 : Int32)) (by decide) (by decide) (g := (mkF m 12 #[.val (.int i0), .val (.int i1), .unset, .unset, .unset] [(.int (9 : Int32)), (.int (1 : Int32)), (.ref a101), (.ref a101)])) rfl rfl (hb hby at_12)
  obtain ⟨f103, H103⟩ : ∃ f, own_IA Z h103 a101 12 f := ⟨_, G103⟩
  have M103 := Fr.snoc X103 M102 Z101
  clear G103 W103
  refine own_by st103 ?_
  show own_Go p e below _ (T103.setTop (mkF m 13 #[.val (.int i0), .val (.int i1), .unset, .unset, .unset] [(.ref a101)]))
  refine own_by (fun _ kont => XS.dup X103.here hx rfl (hb hby at_13) rfl rfl kont) ?_
  show own_Go p e below _ (T103.setTop (mkF m 14 #[.val (.int i0), .val (.int i1), .unset, .unset, .unset] [(.ref a101), (.ref a101)]))
  refine own_by (fun _ kont => XT.iconstV X103.here hx rfl (2 : Int32) (hb hby at_14) rfl kont) ?_
  show own_Go p e below _ (T103.setTop (mkF m 15 #[.val (.int i0), .val (.int i1), .unset, .unset, .unset] [(.int (2 : Int32)), (.ref a101), (.ref a101)]))
  refine own_by (fun _ kont => XT.bipushV X103.here hx rfl (10 : Int32) (hb hby at_15) rfl kont) ?_
  show own_Go p e below _ (T103.setTop (mkF m 17 #[.val (.int i0), .val (.int i1), .unset, .unset, .unset] [(.int (10 : Int32)), (.int (2 : Int32)), (.ref a101), (.ref a101)]))
  obtain ⟨T104, h104, X104, e104, W104, G104, st104⟩ := own_stIA X103 hx hZ e103 H103 (j := (2 : Int32)) (by decide) (by decide) (g := (mkF m 17 #[.val (.int i0), .val (.int i1), .unset, .unset, .unset] [(.int (10 : Int32)), (.int (2 : Int32)), (.ref a101), (.ref a101)])) rfl rfl (hb hby at_17)
  obtain ⟨f104, H104⟩ : ∃ f, own_IA Z h104 a101 12 f := ⟨_, G104⟩
  have M104 := Fr.snoc X104 M103 Z101
  clear G104 W104
  refine own_by st104 ?_
  show own_Go p e below _ (T104.setTop (mkF m 18 #[.val (.int i0), .val (.int i1), .unset, .unset, .unset] [(.ref a101)]))
  refine own_by (fun _ kont => XS.dup X104.here hx rfl (hb hby at_18) rfl rfl kont) ?_
  show own_Go p e below _ (T104.setTop (mkF m 19 #[.val (.int i0), .val (.int i1), .unset, .unset, .unset] [(.ref a101), (.ref a101)]))
  refine own_by (fun _ kont => XT.iconstV X104.here hx rfl (3 : Int32) (hb hby at_19) rfl kont) ?_
  show own_Go p e below _ (T104.setTop (mkF m 20 #[.val (.int i0), .val (.int i1), .unset, .unset, .unset] [(.int (3 : Int32)), (.ref a101), (.ref a101)]))
  refine own_by (fun _ kont => XT.bipushV X104.here hx rfl (13 : Int32) (hb hby at_20) rfl kont) ?_
  show own_Go p e below _ (T104.setTop (mkF m 22 #[.val (.int i0), .val (.int i1), .unset, .unset, .unset] [(.int (13 : Int32)), (.int (3 : Int32)), (.ref a101), (.ref a101)]))
  obtain ⟨T105, h105, X105, e105, W105, G105, st105⟩ := own_stIA X104 hx hZ e104 H104 (j := (3 : Int32)) (by decide) (by decide) (g := (mkF m 22 #[.val (.int i0), .val (.int i1), .unset, .unset, .unset] [(.int (13 : Int32)), (.int (3 : Int32)), (.ref a101), (.ref a101)])) rfl rfl (hb hby at_22)
  obtain ⟨f105, H105⟩ : ∃ f, own_IA Z h105 a101 12 f := ⟨_, G105⟩
  have M105 := Fr.snoc X105 M104 Z101
  clear G105 W105
  refine own_by st105 ?_
  show own_Go p e below _ (T105.setTop (mkF m 23 #[.val (.int i0), .val (.int i1), .unset, .unset, .unset] [(.ref a101)]))
  refine own_by (fun _ kont => XS.dup X105.here hx rfl (hb hby at_23) rfl rfl kont) ?_
  show own_Go p e below _ (T105.setTop (mkF m 24 #[.val (.int i0), .val (.int i1), .unset, .unset, .unset] [(.ref a101), (.ref a101)]))
  refine own_by (fun _ kont => XT.iconstV X105.here hx rfl (4 : Int32) (hb hby at_24) rfl kont) ?_
  show own_Go p e below _ (T105.setTop (mkF m 25 #[.val (.int i0), .val (.int i1), .unset, .unset, .unset] [(.int (4 : Int32)), (.ref a101), (.ref a101)]))
  refine own_by (fun _ kont => XT.bipushV X105.here hx rfl (32 : Int32) (hb hby at_25) rfl kont) ?_
  show own_Go p e below _ (T105.setTop (mkF m 27 #[.val (.int i0), .val (.int i1), .unset, .unset, .unset] [(.int (32 : Int32)), (.int (4 : Int32)), (.ref a101), (.ref a101)]))
  obtain ⟨T106, h106, X106, e106, W106, G106, st106⟩ := own_stIA X105 hx hZ e105 H105 (j := (4 : Int32)) (by decide) (by decide) (g := (mkF m 27 #[.val (.int i0), .val (.int i1), .unset, .unset, .unset] [(.int (32 : Int32)), (.int (4 : Int32)), (.ref a101), (.ref a101)])) rfl rfl (hb hby at_27)
  obtain ⟨f106, H106⟩ : ∃ f, own_IA Z h106 a101 12 f := ⟨_, G106⟩
  have M106 := Fr.snoc X106 M105 Z101
  clear G106 W106
  refine own_by st106 ?_
  show own_Go p e below _ (T106.setTop (mkF m 28 #[.val (.int i0), .val (.int i1), .unset, .unset, .unset] [(.ref a101)]))
  refine own_by (fun _ kont => XS.dup X106.here hx rfl (hb hby at_28) rfl rfl kont) ?_
  show own_Go p e below _ (T106.setTop (mkF m 29 #[.val (.int i0), .val (.int i1), .unset, .unset, .unset] [(.ref a101), (.ref a101)]))
  refine own_by (fun _ kont => XT.iconstV X106.here hx rfl (5 : Int32) (hb hby at_29) rfl kont) ?_
  show own_Go p e below _ (T106.setTop (mkF m 30 #[.val (.int i0), .val (.int i1), .unset, .unset, .unset] [(.int (5 : Int32)), (.ref a101), (.ref a101)]))
  refine own_by (fun _ kont => X106.ldcI hx hown (v := (55296 : Int32)) (mvT hZ (hw _ (List.mem_of_getElem? (i := 1) rfl))) rfl (hb hby at_30) kont) ?_
  show own_Go p e below _ (T106.setTop (mkF m 32 #[.val (.int i0), .val (.int i1), .unset, .unset, .unset] [(.int (55296 : Int32)), (.int (5 : Int32)), (.ref a101), (.ref a101)]))
  obtain ⟨T107, h107, X107, e107, W107, G107, st107⟩ := own_stIA X106 hx hZ e106 H106 (j := (5 : Int32)) (by decide) (by decide) (g := (mkF m 32 #[.val (.int i0), .val (.int i1), .unset, .unset, .unset] [(.int (55296 : Int32)), (.int (5 : Int32)), (.ref a101), (.ref a101)])) rfl rfl (hb hby at_32)
  obtain ⟨f107, H107⟩ : ∃ f, own_IA Z h107 a101 12 f := ⟨_, G107⟩
  have M107 := Fr.snoc X107 M106 Z101
  clear G107 W107
  refine own_by st107 ?_
  show own_Go p e below _ (T107.setTop (mkF m 33 #[.val (.int i0), .val (.int i1), .unset, .unset, .unset] [(.ref a101)]))
  refine own_by (fun _ kont => XS.dup X107.here hx rfl (hb hby at_33) rfl rfl kont) ?_
  show own_Go p e below _ (T107.setTop (mkF m 34 #[.val (.int i0), .val (.int i1), .unset, .unset, .unset] [(.ref a101), (.ref a101)]))
  refine own_by (fun _ kont => XT.bipushV X107.here hx rfl (6 : Int32) (hb hby at_34) rfl kont) ?_
  show own_Go p e below _ (T107.setTop (mkF m 36 #[.val (.int i0), .val (.int i1), .unset, .unset, .unset] [(.int (6 : Int32)), (.ref a101), (.ref a101)]))
  refine own_by (fun _ kont => X107.ldcI hx hown (v := (57344 : Int32)) (mvT hZ (hw _ (List.mem_of_getElem? (i := 2) rfl))) rfl (hb hby at_36) kont) ?_
  show own_Go p e below _ (T107.setTop (mkF m 38 #[.val (.int i0), .val (.int i1), .unset, .unset, .unset] [(.int (57344 : Int32)), (.int (6 : Int32)), (.ref a101), (.ref a101)]))
  obtain ⟨T108, h108, X108, e108, W108, G108, st108⟩ := own_stIA X107 hx hZ e107 H107 (j := (6 : Int32)) (by decide) (by decide) (g := (mkF m 38 #[.val (.int i0), .val (.int i1), .unset, .unset, .unset] [(.int (57344 : Int32)), (.int (6 : Int32)), (.ref a101), (.ref a101)])) rfl rfl (hb hby at_38)
  obtain ⟨f108, H108⟩ : ∃ f, own_IA Z h108 a101 12 f := ⟨_, G108⟩
  have M108 := Fr.snoc X108 M107 Z101
  clear G108 W108
  refine own_by st108 ?_
  show own_Go p e below _ (T108.setTop (mkF m 39 #[.val (.int i0), .val (.int i1), .unset, .unset, .unset] [(.ref a101)]))
  refine own_by (fun _ kont => XS.dup X108.here hx rfl (hb hby at_39) rfl rfl kont) ?_
  show own_Go p e below _ (T108.setTop (mkF m 40 #[.val (.int i0), .val (.int i1), .unset, .unset, .unset] [(.ref a101), (.ref a101)]))
  refine own_by (fun _ kont => XT.bipushV X108.here hx rfl (7 : Int32) (hb hby at_40) rfl kont) ?_
  show own_Go p e below _ (T108.setTop (mkF m 42 #[.val (.int i0), .val (.int i1), .unset, .unset, .unset] [(.int (7 : Int32)), (.ref a101), (.ref a101)]))
  refine own_by (fun _ kont => X108.ldcI hx hown (v := (65534 : Int32)) (mvT hZ (hw _ (List.mem_of_getElem? (i := 3) rfl))) rfl (hb hby at_42) kont) ?_
  show own_Go p e below _ (T108.setTop (mkF m 44 #[.val (.int i0), .val (.int i1), .unset, .unset, .unset] [(.int (65534 : Int32)), (.int (7 : Int32)), (.ref a101), (.ref a101)]))
  obtain ⟨T109, h109, X109, e109, W109, G109, st109⟩ := own_stIA X108 hx hZ e108 H108 (j := (7 : Int32)) (by decide) (by decide) (g := (mkF m 44 #[.val (.int i0), .val (.int i1), .unset, .unset, .unset] [(.int (65534 : Int32)), (.int (7 : Int32)), (.ref a101), (.ref a101)])) rfl rfl (hb hby at_44)
  obtain ⟨f109, H109⟩ : ∃ f, own_IA Z h109 a101 12 f := ⟨_, G109⟩
  have M109 := Fr.snoc X109 M108 Z101
  clear G109 W109
  refine own_by st109 ?_
  show own_Go p e below _ (T109.setTop (mkF m 45 #[.val (.int i0), .val (.int i1), .unset, .unset, .unset] [(.ref a101)]))
  refine own_by (fun _ kont => XS.dup X109.here hx rfl (hb hby at_45) rfl rfl kont) ?_
  show own_Go p e below _ (T109.setTop (mkF m 46 #[.val (.int i0), .val (.int i1), .unset, .unset, .unset] [(.ref a101), (.ref a101)]))
  refine own_by (fun _ kont => XT.bipushV X109.here hx rfl (8 : Int32) (hb hby at_46) rfl kont) ?_
  show own_Go p e below _ (T109.setTop (mkF m 48 #[.val (.int i0), .val (.int i1), .unset, .unset, .unset] [(.int (8 : Int32)), (.ref a101), (.ref a101)]))
  refine own_by (fun _ kont => X109.ldcI hx hown (v := (65536 : Int32)) (mvT hZ (hw _ (List.mem_of_getElem? (i := 4) rfl))) rfl (hb hby at_48) kont) ?_
  show own_Go p e below _ (T109.setTop (mkF m 50 #[.val (.int i0), .val (.int i1), .unset, .unset, .unset] [(.int (65536 : Int32)), (.int (8 : Int32)), (.ref a101), (.ref a101)]))
  obtain ⟨T110, h110, X110, e110, W110, G110, st110⟩ := own_stIA X109 hx hZ e109 H109 (j := (8 : Int32)) (by decide) (by decide) (g := (mkF m 50 #[.val (.int i0), .val (.int i1), .unset, .unset, .unset] [(.int (65536 : Int32)), (.int (8 : Int32)), (.ref a101), (.ref a101)])) rfl rfl (hb hby at_50)
  obtain ⟨f110, H110⟩ : ∃ f, own_IA Z h110 a101 12 f := ⟨_, G110⟩
  have M110 := Fr.snoc X110 M109 Z101
  clear G110 W110
  refine own_by st110 ?_
  show own_Go p e below _ (T110.setTop (mkF m 51 #[.val (.int i0), .val (.int i1), .unset, .unset, .unset] [(.ref a101)]))
  refine own_by (fun _ kont => XS.dup X110.here hx rfl (hb hby at_51) rfl rfl kont) ?_
  show own_Go p e below _ (T110.setTop (mkF m 52 #[.val (.int i0), .val (.int i1), .unset, .unset, .unset] [(.ref a101), (.ref a101)]))
  refine own_by (fun _ kont => XT.bipushV X110.here hx rfl (9 : Int32) (hb hby at_52) rfl kont) ?_
  show own_Go p e below _ (T110.setTop (mkF m 54 #[.val (.int i0), .val (.int i1), .unset, .unset, .unset] [(.int (9 : Int32)), (.ref a101), (.ref a101)]))
  refine own_by (fun _ kont => X110.ldcI hx hown (v := (1114112 : Int32)) (mvT hZ (hw _ (List.mem_of_getElem? (i := 5) rfl))) rfl (hb hby at_54) kont) ?_
  show own_Go p e below _ (T110.setTop (mkF m 56 #[.val (.int i0), .val (.int i1), .unset, .unset, .unset] [(.int (1114112 : Int32)), (.int (9 : Int32)), (.ref a101), (.ref a101)]))
  obtain ⟨T111, h111, X111, e111, W111, G111, st111⟩ := own_stIA X110 hx hZ e110 H110 (j := (9 : Int32)) (by decide) (by decide) (g := (mkF m 56 #[.val (.int i0), .val (.int i1), .unset, .unset, .unset] [(.int (1114112 : Int32)), (.int (9 : Int32)), (.ref a101), (.ref a101)])) rfl rfl (hb hby at_56)
  obtain ⟨f111, H111⟩ : ∃ f, own_IA Z h111 a101 12 f := ⟨_, G111⟩
  have M111 := Fr.snoc X111 M110 Z101
  clear G111 W111
  refine own_by st111 ?_
  show own_Go p e below _ (T111.setTop (mkF m 57 #[.val (.int i0), .val (.int i1), .unset, .unset, .unset] [(.ref a101)]))
  refine own_by (fun _ kont => XS.dup X111.here hx rfl (hb hby at_57) rfl rfl kont) ?_
  show own_Go p e below _ (T111.setTop (mkF m 58 #[.val (.int i0), .val (.int i1), .unset, .unset, .unset] [(.ref a101), (.ref a101)]))
  refine own_by (fun _ kont => XT.bipushV X111.here hx rfl (10 : Int32) (hb hby at_58) rfl kont) ?_
  show own_Go p e below _ (T111.setTop (mkF m 60 #[.val (.int i0), .val (.int i1), .unset, .unset, .unset] [(.int (10 : Int32)), (.ref a101), (.ref a101)]))
  refine own_by (fun _ kont => X111.ldcI hx hown (v := (-2147483648 : Int32)) (mvT hZ (hw _ (List.mem_of_getElem? (i := 6) rfl))) rfl (hb hby at_60) kont) ?_
  show own_Go p e below _ (T111.setTop (mkF m 62 #[.val (.int i0), .val (.int i1), .unset, .unset, .unset] [(.int (-2147483648 : Int32)), (.int (10 : Int32)), (.ref a101), (.ref a101)]))
  obtain ⟨T112, h112, X112, e112, W112, G112, st112⟩ := own_stIA X111 hx hZ e111 H111 (j := (10 : Int32)) (by decide) (by decide) (g := (mkF m 62 #[.val (.int i0), .val (.int i1), .unset, .unset, .unset] [(.int (-2147483648 : Int32)), (.int (10 : Int32)), (.ref a101), (.ref a101)])) rfl rfl (hb hby at_62)
  obtain ⟨f112, H112⟩ : ∃ f, own_IA Z h112 a101 12 f := ⟨_, G112⟩
  have M112 := Fr.snoc X112 M111 Z101
  clear G112 W112
  refine own_by st112 ?_
  show own_Go p e below _ (T112.setTop (mkF m 63 #[.val (.int i0), .val (.int i1), .unset, .unset, .unset] [(.ref a101)]))
  refine own_by (fun _ kont => XS.dup X112.here hx rfl (hb hby at_63) rfl rfl kont) ?_
  show own_Go p e below _ (T112.setTop (mkF m 64 #[.val (.int i0), .val (.int i1), .unset, .unset, .unset] [(.ref a101), (.ref a101)]))
  refine own_by (fun _ kont => XT.bipushV X112.here hx rfl (11 : Int32) (hb hby at_64) rfl kont) ?_
  show own_Go p e below _ (T112.setTop (mkF m 66 #[.val (.int i0), .val (.int i1), .unset, .unset, .unset] [(.int (11 : Int32)), (.ref a101), (.ref a101)]))
  refine own_by (fun _ kont => X112.ldcI hx hown (v := (2147483647 : Int32)) (mvT hZ (hw _ (List.mem_of_getElem? (i := 7) rfl))) rfl (hb hby at_66) kont) ?_
  show own_Go p e below _ (T112.setTop (mkF m 68 #[.val (.int i0), .val (.int i1), .unset, .unset, .unset] [(.int (2147483647 : Int32)), (.int (11 : Int32)), (.ref a101), (.ref a101)]))
  obtain ⟨T113, h113, X113, e113, W113, G113, st113⟩ := own_stIA X112 hx hZ e112 H112 (j := (11 : Int32)) (by decide) (by decide) (g := (mkF m 68 #[.val (.int i0), .val (.int i1), .unset, .unset, .unset] [(.int (2147483647 : Int32)), (.int (11 : Int32)), (.ref a101), (.ref a101)])) rfl rfl (hb hby at_68)
  obtain ⟨f113, H113⟩ : ∃ f, own_IA Z h113 a101 12 f := ⟨_, G113⟩
  have M113 := Fr.snoc X113 M112 Z101
  clear G113 W113
  refine own_by st113 ?_
  show own_Go p e below _ (T113.setTop (mkF m 69 #[.val (.int i0), .val (.int i1), .unset, .unset, .unset] [(.ref a101)]))
  refine own_by (fun _ kont => XS.astoreN X113.here hx rfl (hb hby at_69) rfl rfl (l' := #[.val (.int i0), .val (.int i1), .val (.ref a101), .unset, .unset]) rfl kont) ?_
  show own_Go p e below _ (T113.setTop (mkF m 70 #[.val (.int i0), .val (.int i1), .val (.ref a101), .unset, .unset] []))
  refine own_by (fun _ kont => XS.iloadN X113.here hx rfl (hb hby at_70) rfl kont) ?_
  show own_Go p e below _ (T113.setTop (mkF m 71 #[.val (.int i0), .val (.int i1), .val (.ref a101), .unset, .unset] [(.int i1)]))
  refine own_by (fun _ kont => XT.iconstV X113.here hx rfl (1 : Int32) (hb hby at_71) rfl kont) ?_
  show own_Go p e below _ (T113.setTop (mkF m 72 #[.val (.int i0), .val (.int i1), .val (.ref a101), .unset, .unset] [(.int (1 : Int32)), (.int i1)]))
  refine own_by (fun _ kont => XS.iand X113.here hx rfl (hb hby at_72) rfl kont) ?_
  show own_Go p e below _ (T113.setTop (mkF m 73 #[.val (.int i0), .val (.int i1), .val (.ref a101), .unset, .unset] [(.int (i1 &&& (1 : Int32)))]))
  by_cases hp : (i1 &&& (1 : Int32)) = (0 : Int32)
  · refine own_by (fun _ kont => XS.ifNo X113.here hx rfl (hb hby at_73) rfl (XT.i0_ne_f hp) kont) ?_
    show own_Go p e below _ (T113.setTop (mkF m 76 #[.val (.int i0), .val (.int i1), .val (.ref a101), .unset, .unset] []))
    refine own_by (fun _ kont => XS.iloadN X113.here hx rfl (hb hby at_76) rfl kont) ?_
    show own_Go p e below _ (T113.setTop (mkF m 77 #[.val (.int i0), .val (.int i1), .val (.ref a101), .unset, .unset] [(.int i0)]))
    refine own_by (fun _ kont => XS.istoreN X113.here hx rfl (hb hby at_77) rfl (l' := #[.val (.int i0), .val (.int i1), .val (.ref a101), .val (.int i0), .unset]) rfl kont) ?_
    show own_Go p e below _ (T113.setTop (mkF m 78 #[.val (.int i0), .val (.int i1), .val (.ref a101), .val (.int i0), .unset] []))
    refine own_by (fun _ kont => XS.goto X113.here hx rfl (pc0 := 78) (pc' := 97) rfl (hb hby at_78) (by decide) (by decide) kont) ?_
    show own_Go p e below _ (T113.setTop (mkF m 97 #[.val (.int i0), .val (.int i1), .val (.ref a101), .val (.int i0), .unset] []))
    refine own_by (fun _ kont => XS.iloadN X113.here hx rfl (hb hby at_97) rfl kont) ?_
    show own_Go p e below _ (T113.setTop (mkF m 98 #[.val (.int i0), .val (.int i1), .val (.ref a101), .val (.int i0), .unset] [(.int i0)]))
    obtain ⟨_, _, ⟨T114, L114, k114, n114⟩, -, X114, ⟨Lc114, hQ114, l114, y114, z114⟩, st114⟩ := Jvm.LawKit.callS X113 hx (y := (⟨"com/example/templates_on_trees/templatesontrees/xml/Characters", "isChar", "(I)Z"⟩ : MethodName)) hown (mvT hZ (hw _ (List.mem_of_getElem? (i := 8) rfl))) (mvT hZ (hw _ (List.mem_of_getElem? (i := 9) rfl))) (mvT hZ (hw _ (List.mem_of_getElem? (i := 10) rfl))) (mvT hZ (hw _ (List.mem_of_getElem? (i := 11) rfl))) (by decide) (backOf (W := 0) (rm1 l Z a0 hw [] i0 h113 n0) hZ (hw _ (List.mem_of_getElem? (i := 11) rfl)) (hw _ (List.mem_of_getElem? (i := 10) rfl)) (by decide) (by decide)) (g := (mkF m 98 #[.val (.int i0), .val (.int i1), .val (.ref a101), .val (.int i0), .unset] [(.int i0)])) rfl (by rw [hml]; rfl) (argsL := [(.int i0)]) (rest := []) (lenOf own_pd1 rfl) rfl (by show 2 * 0 + _ ≤ _; exact Nat.le_of_eq rfl) (hb hby at_98) (fun _ _ => ⟨rfl, e113, (by decide : 1 + 0 ≤ _), (by decide : 12 + 0 ≤ _)⟩)
    dsimp only [Pt.U, Pt.locs, Pt.cells, Pt.slots] at X114 l114 y114 z114 st114 hQ114
    subst l114 y114 z114
    obtain ⟨rfl, N114, e114⟩ := hQ114
    have M114 := Fr.app M113 N114
    refine own_by st114 ?_
    show own_Go p e below _ (T114.setTop (mkF m 101 #[.val (.int i0), .val (.int i1), .val (.ref a101), .val (.int i0), .unset] [(.int (f1_0 i0))]))
    refine own_by (fun _ kont => XS.istore X114.here hx rfl (hb hby at_101) rfl (l' := #[.val (.int i0), .val (.int i1), .val (.ref a101), .val (.int i0), .val (.int (f1_0 i0))]) rfl kont) ?_
    show own_Go p e below _ (T114.setTop (mkF m 103 #[.val (.int i0), .val (.int i1), .val (.ref a101), .val (.int i0), .val (.int (f1_0 i0))] []))
    refine own_by (fun _ kont => XS.iload X114.here hx rfl (hb hby at_103) rfl kont) ?_
    show own_Go p e below _ (T114.setTop (mkF m 105 #[.val (.int i0), .val (.int i1), .val (.ref a101), .val (.int i0), .val (.int (f1_0 i0))] [(.int (f1_0 i0))]))
    refine own_by (fun _ kont => XS.iloadN X114.here hx rfl (hb hby at_105) rfl kont) ?_
    show own_Go p e below _ (T114.setTop (mkF m 106 #[.val (.int i0), .val (.int i1), .val (.ref a101), .val (.int i0), .val (.int (f1_0 i0))] [(.int i0), (.int (f1_0 i0))]))
    obtain ⟨_, _, ⟨T115, L115, k115, n115⟩, -, X115, ⟨Lc115, hQ115, l115, y115, z115⟩, st115⟩ := Jvm.LawKit.callS X114 hx (y := (⟨"com/example/templates_on_trees/templatesontrees/xml/CharactersIsCharPinLaw", "expected", "(I)Z"⟩ : MethodName)) hown (mvT hZ (hw _ (List.mem_of_getElem? (i := 12) rfl))) (mvT hZ (hw _ (List.mem_of_getElem? (i := 13) rfl))) (mvT hZ (hw _ (List.mem_of_getElem? (i := 14) rfl))) (mvT hZ (hw _ (List.mem_of_getElem? (i := 15) rfl))) (by decide) (backOf (W := 1) (rm2 l Z a0 hw [] i0 h113 n0) hZ (hw _ (List.mem_of_getElem? (i := 15) rfl)) (hw _ (List.mem_of_getElem? (i := 14) rfl)) (by decide) (by decide)) (g := (mkF m 106 #[.val (.int i0), .val (.int i1), .val (.ref a101), .val (.int i0), .val (.int (f1_0 i0))] [(.int i0), (.int (f1_0 i0))])) rfl (by rw [hml]; rfl) (argsL := [(.int i0)]) (rest := [(.int (f1_0 i0))]) (lenOf own_pd1 rfl) rfl (by show 2 * 0 + _ ≤ _; exact Nat.le_of_eq rfl) (hb hby at_106) (fun _ _ => ⟨rfl, e114, (by decide : 1 + 0 ≤ _), (by decide : 12 + 0 ≤ _)⟩)
    dsimp only [Pt.U, Pt.locs, Pt.cells, Pt.slots] at X115 l115 y115 z115 st115 hQ115
    subst l115 y115 z115
    obtain ⟨rfl, N115, e115⟩ := hQ115
    have M115 := Fr.app M114 N115
    refine own_by st115 ?_
    show own_Go p e below _ (T115.setTop (mkF m 109 #[.val (.int i0), .val (.int i1), .val (.ref a101), .val (.int i0), .val (.int (f1_0 i0))] [(.int (f2_0 i0)), (.int (f1_0 i0))]))
    refine own_by (fun _ kont => XS.icmpNo X115.here hx rfl (hb hby at_109) rfl (XT.ii_ne_f (own_same _)) kont) ?_
    show own_Go p e below _ (T115.setTop (mkF m 112 #[.val (.int i0), .val (.int i1), .val (.ref a101), .val (.int i0), .val (.int (f1_0 i0))] []))
    refine own_by (fun _ kont => XT.iconstV X115.here hx rfl (1 : Int32) (hb hby at_112) rfl kont) ?_
    show own_Go p e below _ (T115.setTop (mkF m 113 #[.val (.int i0), .val (.int i1), .val (.ref a101), .val (.int i0), .val (.int (f1_0 i0))] [(.int (1 : Int32))]))
    refine own_by (fun _ kont => XS.goto X115.here hx rfl (pc0 := 113) (pc' := 117) rfl (hb hby at_113) (by decide) (by decide) kont) ?_
    show own_Go p e below _ (T115.setTop (mkF m 117 #[.val (.int i0), .val (.int i1), .val (.ref a101), .val (.int i0), .val (.int (f1_0 i0))] [(.int (1 : Int32))]))
    exact own_ret X115 hx hlk hret rfl (Or.inl ⟨rfl, by simp, _, rfl⟩) (hb hby at_117) ⟨rfl, M115⟩ (by decide) (by decide)
  · refine own_by (fun _ kont => XS.ifYes X113.here hx rfl (pc0 := 73) (pc' := 81) rfl (hb hby at_73) rfl (XT.i0_ne_t hp) (by decide) (by decide) kont) ?_
    show own_Go p e below _ (T113.setTop (mkF m 81 #[.val (.int i0), .val (.int i1), .val (.ref a101), .unset, .unset] []))
    refine own_by (fun _ kont => XS.aloadN X113.here hx rfl (hb hby at_81) rfl rfl kont) ?_
    show own_Go p e below _ (T113.setTop (mkF m 82 #[.val (.int i0), .val (.int i1), .val (.ref a101), .unset, .unset] [(.ref a101)]))
    refine own_by (fun _ kont => XS.iloadN X113.here hx rfl (hb hby at_82) rfl kont) ?_
    show own_Go p e below _ (T113.setTop (mkF m 83 #[.val (.int i0), .val (.int i1), .val (.ref a101), .unset, .unset] [(.int i0), (.ref a101)]))
    refine own_by (fun _ kont => X113.ldcI hx hown (v := (2147483647 : Int32)) (mvT hZ (hw _ (List.mem_of_getElem? (i := 7) rfl))) rfl (hb hby at_83) kont) ?_
    show own_Go p e below _ (T113.setTop (mkF m 85 #[.val (.int i0), .val (.int i1), .val (.ref a101), .unset, .unset] [(.int (2147483647 : Int32)), (.int i0), (.ref a101)]))
    refine own_by (fun _ kont => XS.iand X113.here hx rfl (hb hby at_85) rfl kont) ?_
    show own_Go p e below _ (T113.setTop (mkF m 86 #[.val (.int i0), .val (.int i1), .val (.ref a101), .unset, .unset] [(.int (i0 &&& (2147483647 : Int32))), (.ref a101)]))
    refine own_by (fun _ kont => XT.bipushV X113.here hx rfl (12 : Int32) (hb hby at_86) rfl kont) ?_
    show own_Go p e below _ (T113.setTop (mkF m 88 #[.val (.int i0), .val (.int i1), .val (.ref a101), .unset, .unset] [(.int (12 : Int32)), (.int (i0 &&& (2147483647 : Int32))), (.ref a101)]))
    refine own_by (fun _ kont => XS.irem X113.here hx rfl (hb hby at_88) rfl (by decide) kont) ?_
    show own_Go p e below _ (T113.setTop (mkF m 89 #[.val (.int i0), .val (.int i1), .val (.ref a101), .unset, .unset] [(.int ((i0 &&& (2147483647 : Int32)) - ((i0 &&& (2147483647 : Int32)) / (12 : Int32)) * (12 : Int32))), (.ref a101)]))
    refine own_by (fun _ kont => own_ldIA X113 hx hZ e113 H113 (j := ((i0 &&& (2147483647 : Int32)) - ((i0 &&& (2147483647 : Int32)) / (12 : Int32)) * (12 : Int32))) ((own_rem (own_and 2147483647 (by decide) rfl).1 (by decide)).1) (Int.lt_of_lt_of_le (own_rem (own_and 2147483647 (by decide) rfl).1 (by decide)).2 (by decide)) rfl rfl (hb hby at_89) kont) ?_
    show own_Go p e below _ (T113.setTop (mkF m 90 #[.val (.int i0), .val (.int i1), .val (.ref a101), .unset, .unset] [(.int (f113 ((i0 &&& (2147483647 : Int32)) - ((i0 &&& (2147483647 : Int32)) / (12 : Int32)) * (12 : Int32)).toInt.toNat))]))
    generalize (f113 ((i0 &&& (2147483647 : Int32)) - ((i0 &&& (2147483647 : Int32)) / (12 : Int32)) * (12 : Int32)).toInt.toNat) = w116
    show own_Go p e below _ (T113.setTop (mkF m 90 #[.val (.int i0), .val (.int i1), .val (.ref a101), .unset, .unset] [(.int w116)]))
    refine own_by (fun _ kont => XS.iloadN X113.here hx rfl (hb hby at_90) rfl kont) ?_
    show own_Go p e below _ (T113.setTop (mkF m 91 #[.val (.int i0), .val (.int i1), .val (.ref a101), .unset, .unset] [(.int i1), (.int w116)]))
    refine own_by (fun _ kont => XT.iconstV X113.here hx rfl (1 : Int32) (hb hby at_91) rfl kont) ?_
    show own_Go p e below _ (T113.setTop (mkF m 92 #[.val (.int i0), .val (.int i1), .val (.ref a101), .unset, .unset] [(.int (1 : Int32)), (.int i1), (.int w116)]))
    refine own_by (fun _ kont => XT.ishr X113.here hx rfl (hb hby at_92) rfl kont) ?_
    show own_Go p e below _ (T113.setTop (mkF m 93 #[.val (.int i0), .val (.int i1), .val (.ref a101), .unset, .unset] [(.int (i1 >>> ((1 : Int32) &&& 31))), (.int w116)]))
    refine own_by (fun _ kont => XT.iconstV X113.here hx rfl (3 : Int32) (hb hby at_93) rfl kont) ?_
    show own_Go p e below _ (T113.setTop (mkF m 94 #[.val (.int i0), .val (.int i1), .val (.ref a101), .unset, .unset] [(.int (3 : Int32)), (.int (i1 >>> ((1 : Int32) &&& 31))), (.int w116)]))
    refine own_by (fun _ kont => XS.irem X113.here hx rfl (hb hby at_94) rfl (by decide) kont) ?_
    show own_Go p e below _ (T113.setTop (mkF m 95 #[.val (.int i0), .val (.int i1), .val (.ref a101), .unset, .unset] [(.int ((i1 >>> ((1 : Int32) &&& 31)) - ((i1 >>> ((1 : Int32) &&& 31)) / (3 : Int32)) * (3 : Int32))), (.int w116)]))
    refine own_by (fun _ kont => XS.iadd X113.here hx rfl (hb hby at_95) rfl kont) ?_
    show own_Go p e below _ (T113.setTop (mkF m 96 #[.val (.int i0), .val (.int i1), .val (.ref a101), .unset, .unset] [(.int (w116 + ((i1 >>> ((1 : Int32) &&& 31)) - ((i1 >>> ((1 : Int32) &&& 31)) / (3 : Int32)) * (3 : Int32))))]))
    refine own_by (fun _ kont => XS.istoreN X113.here hx rfl (hb hby at_96) rfl (l' := #[.val (.int i0), .val (.int i1), .val (.ref a101), .val (.int (w116 + ((i1 >>> ((1 : Int32) &&& 31)) - ((i1 >>> ((1 : Int32) &&& 31)) / (3 : Int32)) * (3 : Int32)))), .unset]) rfl kont) ?_
    show own_Go p e below _ (T113.setTop (mkF m 97 #[.val (.int i0), .val (.int i1), .val (.ref a101), .val (.int (w116 + ((i1 >>> ((1 : Int32) &&& 31)) - ((i1 >>> ((1 : Int32) &&& 31)) / (3 : Int32)) * (3 : Int32)))), .unset] []))
    refine own_by (fun _ kont => XS.iloadN X113.here hx rfl (hb hby at_97) rfl kont) ?_
    show own_Go p e below _ (T113.setTop (mkF m 98 #[.val (.int i0), .val (.int i1), .val (.ref a101), .val (.int (w116 + ((i1 >>> ((1 : Int32) &&& 31)) - ((i1 >>> ((1 : Int32) &&& 31)) / (3 : Int32)) * (3 : Int32)))), .unset] [(.int (w116 + ((i1 >>> ((1 : Int32) &&& 31)) - ((i1 >>> ((1 : Int32) &&& 31)) / (3 : Int32)) * (3 : Int32))))]))
    obtain ⟨_, _, ⟨T117, L117, k117, n117⟩, -, X117, ⟨Lc117, hQ117, l117, y117, z117⟩, st117⟩ := Jvm.LawKit.callS X113 hx (y := (⟨"com/example/templates_on_trees/templatesontrees/xml/Characters", "isChar", "(I)Z"⟩ : MethodName)) hown (mvT hZ (hw _ (List.mem_of_getElem? (i := 8) rfl))) (mvT hZ (hw _ (List.mem_of_getElem? (i := 9) rfl))) (mvT hZ (hw _ (List.mem_of_getElem? (i := 10) rfl))) (mvT hZ (hw _ (List.mem_of_getElem? (i := 11) rfl))) (by decide) (backOf (W := 0) (rm1 l Z a0 hw [] (w116 + ((i1 >>> ((1 : Int32) &&& 31)) - ((i1 >>> ((1 : Int32) &&& 31)) / (3 : Int32)) * (3 : Int32))) h113 n0) hZ (hw _ (List.mem_of_getElem? (i := 11) rfl)) (hw _ (List.mem_of_getElem? (i := 10) rfl)) (by decide) (by decide)) (g := (mkF m 98 #[.val (.int i0), .val (.int i1), .val (.ref a101), .val (.int (w116 + ((i1 >>> ((1 : Int32) &&& 31)) - ((i1 >>> ((1 : Int32) &&& 31)) / (3 : Int32)) * (3 : Int32)))), .unset] [(.int (w116 + ((i1 >>> ((1 : Int32) &&& 31)) - ((i1 >>> ((1 : Int32) &&& 31)) / (3 : Int32)) * (3 : Int32))))])) rfl (by rw [hml]; rfl) (argsL := [(.int (w116 + ((i1 >>> ((1 : Int32) &&& 31)) - ((i1 >>> ((1 : Int32) &&& 31)) / (3 : Int32)) * (3 : Int32))))]) (rest := []) (lenOf own_pd1 rfl) rfl (by show 2 * 0 + _ ≤ _; exact Nat.le_of_eq rfl) (hb hby at_98) (fun _ _ => ⟨rfl, e113, (by decide : 1 + 0 ≤ _), (by decide : 12 + 0 ≤ _)⟩)
    dsimp only [Pt.U, Pt.locs, Pt.cells, Pt.slots] at X117 l117 y117 z117 st117 hQ117
    subst l117 y117 z117
    obtain ⟨rfl, N117, e117⟩ := hQ117
    have M117 := Fr.app M113 N117
    refine own_by st117 ?_
    show own_Go p e below _ (T117.setTop (mkF m 101 #[.val (.int i0), .val (.int i1), .val (.ref a101), .val (.int (w116 + ((i1 >>> ((1 : Int32) &&& 31)) - ((i1 >>> ((1 : Int32) &&& 31)) / (3 : Int32)) * (3 : Int32)))), .unset] [(.int (f1_0 (w116 + ((i1 >>> ((1 : Int32) &&& 31)) - ((i1 >>> ((1 : Int32) &&& 31)) / (3 : Int32)) * (3 : Int32)))))]))
    refine own_by (fun _ kont => XS.istore X117.here hx rfl (hb hby at_101) rfl (l' := #[.val (.int i0), .val (.int i1), .val (.ref a101), .val (.int (w116 + ((i1 >>> ((1 : Int32) &&& 31)) - ((i1 >>> ((1 : Int32) &&& 31)) / (3 : Int32)) * (3 : Int32)))), .val (.int (f1_0 (w116 + ((i1 >>> ((1 : Int32) &&& 31)) - ((i1 >>> ((1 : Int32) &&& 31)) / (3 : Int32)) * (3 : Int32)))))]) rfl kont) ?_
    show own_Go p e below _ (T117.setTop (mkF m 103 #[.val (.int i0), .val (.int i1), .val (.ref a101), .val (.int (w116 + ((i1 >>> ((1 : Int32) &&& 31)) - ((i1 >>> ((1 : Int32) &&& 31)) / (3 : Int32)) * (3 : Int32)))), .val (.int (f1_0 (w116 + ((i1 >>> ((1 : Int32) &&& 31)) - ((i1 >>> ((1 : Int32) &&& 31)) / (3 : Int32)) * (3 : Int32)))))] []))
    refine own_by (fun _ kont => XS.iload X117.here hx rfl (hb hby at_103) rfl kont) ?_
    show own_Go p e below _ (T117.setTop (mkF m 105 #[.val (.int i0), .val (.int i1), .val (.ref a101), .val (.int (w116 + ((i1 >>> ((1 : Int32) &&& 31)) - ((i1 >>> ((1 : Int32) &&& 31)) / (3 : Int32)) * (3 : Int32)))), .val (.int (f1_0 (w116 + ((i1 >>> ((1 : Int32) &&& 31)) - ((i1 >>> ((1 : Int32) &&& 31)) / (3 : Int32)) * (3 : Int32)))))] [(.int (f1_0 (w116 + ((i1 >>> ((1 : Int32) &&& 31)) - ((i1 >>> ((1 : Int32) &&& 31)) / (3 : Int32)) * (3 : Int32)))))]))
    refine own_by (fun _ kont => XS.iloadN X117.here hx rfl (hb hby at_105) rfl kont) ?_
    show own_Go p e below _ (T117.setTop (mkF m 106 #[.val (.int i0), .val (.int i1), .val (.ref a101), .val (.int (w116 + ((i1 >>> ((1 : Int32) &&& 31)) - ((i1 >>> ((1 : Int32) &&& 31)) / (3 : Int32)) * (3 : Int32)))), .val (.int (f1_0 (w116 + ((i1 >>> ((1 : Int32) &&& 31)) - ((i1 >>> ((1 : Int32) &&& 31)) / (3 : Int32)) * (3 : Int32)))))] [(.int (w116 + ((i1 >>> ((1 : Int32) &&& 31)) - ((i1 >>> ((1 : Int32) &&& 31)) / (3 : Int32)) * (3 : Int32)))), (.int (f1_0 (w116 + ((i1 >>> ((1 : Int32) &&& 31)) - ((i1 >>> ((1 : Int32) &&& 31)) / (3 : Int32)) * (3 : Int32)))))]))
    obtain ⟨_, _, ⟨T118, L118, k118, n118⟩, -, X118, ⟨Lc118, hQ118, l118, y118, z118⟩, st118⟩ := Jvm.LawKit.callS X117 hx (y := (⟨"com/example/templates_on_trees/templatesontrees/xml/CharactersIsCharPinLaw", "expected", "(I)Z"⟩ : MethodName)) hown (mvT hZ (hw _ (List.mem_of_getElem? (i := 12) rfl))) (mvT hZ (hw _ (List.mem_of_getElem? (i := 13) rfl))) (mvT hZ (hw _ (List.mem_of_getElem? (i := 14) rfl))) (mvT hZ (hw _ (List.mem_of_getElem? (i := 15) rfl))) (by decide) (backOf (W := 1) (rm2 l Z a0 hw [] (w116 + ((i1 >>> ((1 : Int32) &&& 31)) - ((i1 >>> ((1 : Int32) &&& 31)) / (3 : Int32)) * (3 : Int32))) h113 n0) hZ (hw _ (List.mem_of_getElem? (i := 15) rfl)) (hw _ (List.mem_of_getElem? (i := 14) rfl)) (by decide) (by decide)) (g := (mkF m 106 #[.val (.int i0), .val (.int i1), .val (.ref a101), .val (.int (w116 + ((i1 >>> ((1 : Int32) &&& 31)) - ((i1 >>> ((1 : Int32) &&& 31)) / (3 : Int32)) * (3 : Int32)))), .val (.int (f1_0 (w116 + ((i1 >>> ((1 : Int32) &&& 31)) - ((i1 >>> ((1 : Int32) &&& 31)) / (3 : Int32)) * (3 : Int32)))))] [(.int (w116 + ((i1 >>> ((1 : Int32) &&& 31)) - ((i1 >>> ((1 : Int32) &&& 31)) / (3 : Int32)) * (3 : Int32)))), (.int (f1_0 (w116 + ((i1 >>> ((1 : Int32) &&& 31)) - ((i1 >>> ((1 : Int32) &&& 31)) / (3 : Int32)) * (3 : Int32)))))])) rfl (by rw [hml]; rfl) (argsL := [(.int (w116 + ((i1 >>> ((1 : Int32) &&& 31)) - ((i1 >>> ((1 : Int32) &&& 31)) / (3 : Int32)) * (3 : Int32))))]) (rest := [(.int (f1_0 (w116 + ((i1 >>> ((1 : Int32) &&& 31)) - ((i1 >>> ((1 : Int32) &&& 31)) / (3 : Int32)) * (3 : Int32)))))]) (lenOf own_pd1 rfl) rfl (by show 2 * 0 + _ ≤ _; exact Nat.le_of_eq rfl) (hb hby at_106) (fun _ _ => ⟨rfl, e117, (by decide : 1 + 0 ≤ _), (by decide : 12 + 0 ≤ _)⟩)
    dsimp only [Pt.U, Pt.locs, Pt.cells, Pt.slots] at X118 l118 y118 z118 st118 hQ118
    subst l118 y118 z118
    obtain ⟨rfl, N118, e118⟩ := hQ118
    have M118 := Fr.app M117 N118
    refine own_by st118 ?_
    show own_Go p e below _ (T118.setTop (mkF m 109 #[.val (.int i0), .val (.int i1), .val (.ref a101), .val (.int (w116 + ((i1 >>> ((1 : Int32) &&& 31)) - ((i1 >>> ((1 : Int32) &&& 31)) / (3 : Int32)) * (3 : Int32)))), .val (.int (f1_0 (w116 + ((i1 >>> ((1 : Int32) &&& 31)) - ((i1 >>> ((1 : Int32) &&& 31)) / (3 : Int32)) * (3 : Int32)))))] [(.int (f2_0 (w116 + ((i1 >>> ((1 : Int32) &&& 31)) - ((i1 >>> ((1 : Int32) &&& 31)) / (3 : Int32)) * (3 : Int32))))), (.int (f1_0 (w116 + ((i1 >>> ((1 : Int32) &&& 31)) - ((i1 >>> ((1 : Int32) &&& 31)) / (3 : Int32)) * (3 : Int32)))))]))
    refine own_by (fun _ kont => XS.icmpNo X118.here hx rfl (hb hby at_109) rfl (XT.ii_ne_f (own_same _)) kont) ?_
    show own_Go p e below _ (T118.setTop (mkF m 112 #[.val (.int i0), .val (.int i1), .val (.ref a101), .val (.int (w116 + ((i1 >>> ((1 : Int32) &&& 31)) - ((i1 >>> ((1 : Int32) &&& 31)) / (3 : Int32)) * (3 : Int32)))), .val (.int (f1_0 (w116 + ((i1 >>> ((1 : Int32) &&& 31)) - ((i1 >>> ((1 : Int32) &&& 31)) / (3 : Int32)) * (3 : Int32)))))] []))
    refine own_by (fun _ kont => XT.iconstV X118.here hx rfl (1 : Int32) (hb hby at_112) rfl kont) ?_
    show own_Go p e below _ (T118.setTop (mkF m 113 #[.val (.int i0), .val (.int i1), .val (.ref a101), .val (.int (w116 + ((i1 >>> ((1 : Int32) &&& 31)) - ((i1 >>> ((1 : Int32) &&& 31)) / (3 : Int32)) * (3 : Int32)))), .val (.int (f1_0 (w116 + ((i1 >>> ((1 : Int32) &&& 31)) - ((i1 >>> ((1 : Int32) &&& 31)) / (3 : Int32)) * (3 : Int32)))))] [(.int (1 : Int32))]))
    refine own_by (fun _ kont => XS.goto X118.here hx rfl (pc0 := 113) (pc' := 117) rfl (hb hby at_113) (by decide) (by decide) kont) ?_
    show own_Go p e below _ (T118.setTop (mkF m 117 #[.val (.int i0), .val (.int i1), .val (.ref a101), .val (.int (w116 + ((i1 >>> ((1 : Int32) &&& 31)) - ((i1 >>> ((1 : Int32) &&& 31)) / (3 : Int32)) * (3 : Int32)))), .val (.int (f1_0 (w116 + ((i1 >>> ((1 : Int32) &&& 31)) - ((i1 >>> ((1 : Int32) &&& 31)) / (3 : Int32)) * (3 : Int32)))))] [(.int (1 : Int32))]))
    exact own_ret X118 hx hlk hret rfl (Or.inl ⟨rfl, by simp, _, rfl⟩) (hb hby at_117) ⟨rfl, M118⟩ (by decide) (by decide)
set_option maxRecDepth 65536 in
set_option maxHeartbeats 4000000 in
theorem comes_1 {Post : Tables → Env → Array Value → State → Outcome → State → Prop} (hpost : ∀ tb e args s v u, (limb_1_1.after args s (.returned v) u = true ∧ limb_1_2.after args s (.returned v) u = true ∧ True) → FrameEnd s (.returned v) u (Jvm.fieldLocs frame_1_writes args s ++ Jvm.arrayLocs frame_1_arrays args s ++ Jvm.staticLocs frame_1_statics s) 16 128 → Post tb e args s (.returned v) u) :
    ArmFor flags0 classFile x code maxLocals ret World_1 tables_1 room_1 Calls_1 rest_1 Pre_1 Post := by
  intro l hfl _ _ p e ha hc hk s m args below hf hA hF happ hP
  obtain ⟨hcalls, hrest, hpre⟩ := hP
  obtain ⟨-, -, -, hnamed, -, -, -, hat⟩ := (Spec.applies_iff hf).mp happ
  obtain ⟨hg, hn⟩ := and_e (Cond.before_iff.mp (show (Jvm.Cond.and given_1 narrow_1).before args s = true from hpre))
  obtain ⟨h1, g0⟩ := and_e hg
  obtain ⟨q0, g1⟩ := and_e g0
  obtain ⟨w0, w1, rfl⟩ : ∃ w0 w1 : Value, args = #[w0, w1] := by
    have hs : args.size = 2 := by simpa [Cond.value, given_1] using h1
    obtain ⟨L⟩ := args
    match L, hs with
    | [w0, w1], _ => exact ⟨w0, w1, rfl⟩
  have hw := fun d (hd : d ∈ tables_1) => atoms_spec (ws := Jvm.Cond.code x code maxLocals ret :: tables_1) hat d (List.mem_cons_of_mem _ hd)
  obtain ⟨i0, ei0⟩ := is_v q0
  obtain rfl : w0 = (.int i0) := Option.some.inj ei0
  obtain ⟨i1, ei1⟩ := is_v g1
  obtain rfl : w1 = (.int i1) := Option.some.inj ei1
  obtain ⟨n, o, h1, h2, h3, _, L, rfl, ⟨rfl, N⟩, hq⟩ := rmL l s _ hw tables_1 i0 i1 s.heap s.heap.size (Nat.le_refl _) p e ha hc hk s m _ below hf ((Spec.applies_iff_loose hf).mp happ).1 ⟨rfl, State.Warmed39.refl s, rfl⟩ trivial
  refine ⟨n, _, h1, h2, h3, hpost _ _ _ _ _ _ ⟨Cond.after_iff.mpr rfl, Cond.after_iff.mpr (eq_i res_at (Term.int_eval (1)) rfl), trivial⟩ ⟨hq.1, hq.2.1, (hq.2.2.sift fun y hy => Or.inr (N y hy)).mono (by decide) (by decide)⟩⟩
theorem main_1_1 : Claimed_1_1 := comes_1 fun _ _ _ _ _ _ h hF => ⟨h.1, hF⟩
theorem main_1_2 : Claimed_1_2 := comes_1 fun _ _ _ _ _ _ h hF => ⟨h.2.1, hF⟩
end Jvm.Pilot.@@N@@
namespace Jvm.Pilot.@@N@@
open Jvm Jvm.ClassFile Sem Op Lib Jvm.Free Jvm.Stand Jvm.Pilot.@@N@@.Jvm.D
/-! MADE BY PROGRAM (witnessworld.py) out of the Statement's table words and the real class files: 9 classes; the members and pool entries that the words name. The judged class is class 1, her method 1. -/
namespace start1
open Jvm.ClassFile
def u (s : String) : CpInfo := .utf8 (stringToUtf16 s)
/-- a pool by its gaps: so many unusable entries, then the entry; so many at the end -/
def gap : Nat → List CpInfo → List CpInfo
  | 0, r => r
  | n + 1, r => .unusable :: gap n r
def poolList (es : List (Nat × CpInfo)) (last : Nat) : List CpInfo := es.foldr (fun e r => gap e.1 (e.2 :: r)) (gap last [])
def pool (es : List (Nat × CpInfo)) (last : Nat) : Array CpInfo := ⟨poolList es last⟩
def fileOf (pool : Array CpInfo) (this : Nat) (attrs : Array Attribute := #[]) (ms : Array MethodInfo := #[]) (fl : Nat := 33) (sup : Nat := 0) (ifs : Array Nat := #[]) (fds : Array FieldInfo := #[]) : ClassFile where
  minorVersion := 0
  majorVersion := 65
  constantPool := pool
  accessFlags := fl
  thisClass := this
  superClass := sup
  interfaces := ifs
  fields := fds
  methods := ms
  attributes := attrs
def plain (name : String) (sup : Option ClassId) : Class where
  name := name
  kind := .ordinary
  loader := none
  accessFlags := 33
  super := sup
  interfaces := #[]
  cf := none
  fields := #[]
  methods := #[]
  instanceTypes := #[]
  staticTypes := #[]
  resolved := #[]
  callSites := []
  init := .initialized
  statics := none
  mirror := none

def pool0 : Array CpInfo := pool [(5, u "<init>"), (0, u "()V"), (1, .class_ 10), (1, u "java/lang/Object")] 113

def k0m0 : Method := { name := "<init>", desc := "()V", sig := { parameters := [], returnType := none }, accessFlags := 1, code := none }
/-- java/lang/Object -/
def k0 : Class := { plain "java/lang/Object" none with
  accessFlags := 33
  interfaces := #[]
  cf := some (fileOf pool0 8 #[] #[{ accessFlags := 1, nameIndex := 5, descriptorIndex := 6, attributes := #[] }] 33 0 #[] #[])
  fields := #[]
  methods := #[k0m0]
  instanceTypes := #[]
  staticTypes := #[]
  resolved := Array.replicate 124 none
  statics := none }

def pool1 : Array CpInfo := pool [(2, .class_ 4), (1, u "java/lang/Object"), (0, u "<init>"), (0, u "()V"), (0, .integer 55296), (0, .integer 57344), (0, .integer 65534), (0, .integer 65536), (0, .integer 1114112), (2, .integer 2147483648), (0, .integer 2147483647), (0, .methodref 17 18), (0, .class_ 19), (0, .nameAndType 20 21), (0, u "com/example/templates_on_trees/templatesontrees/xml/Characters"), (0, u "isChar"), (0, u "(I)Z"), (0, .methodref 23 24), (0, .class_ 25), (0, .nameAndType 26 21), (0, u "com/example/templates_on_trees/templatesontrees/xml/CharactersIsCharPinLaw"), (0, u "expected"), (0, .integer 57343), (0, .integer 65535), (0, .integer 1114111), (2, u "law"), (0, u "(II)Z")] 5

def k1m0 : Method := { name := "<init>", desc := "()V", sig := { parameters := [], returnType := none }, accessFlags := 2, code := none }
def k1c1 : Code := { maxStack := 4, maxLocals := 5, code := code, exceptionTable := #[], attributes := #[] }
def k1m1 : Method := { name := "law", desc := "(II)Z", sig := { parameters := [.int, .int], returnType := some .boolean }, accessFlags := 9, code := some k1c1 }
def k1c2 : Code := { maxStack := 2, maxLocals := 5, code := method_3_code, exceptionTable := #[], attributes := #[] }
def k1m2 : Method := { name := "expected", desc := "(I)Z", sig := { parameters := [.int], returnType := some .boolean }, accessFlags := 10, code := some k1c2 }
/-- com/example/templates_on_trees/templatesontrees/xml/CharactersIsCharPinLaw -/
def k1 : Class := { plain "com/example/templates_on_trees/templatesontrees/xml/CharactersIsCharPinLaw" (some 0) with
  accessFlags := 49
  interfaces := #[]
  cf := some (fileOf pool1 23 #[] #[{ accessFlags := 2, nameIndex := 5, descriptorIndex := 6, attributes := #[] }, { accessFlags := 9, nameIndex := 32, descriptorIndex := 33, attributes := #[] }, { accessFlags := 10, nameIndex := 26, descriptorIndex := 21, attributes := #[] }] 49 2 #[] #[])
  fields := #[]
  methods := #[k1m0, k1m1, k1m2]
  instanceTypes := #[]
  staticTypes := #[]
  resolved := Array.replicate 39 none
  statics := none }

def pool2 : Array CpInfo := pool [(2, .class_ 4), (1, u "java/lang/Object"), (0, u "<init>"), (0, u "()V"), (0, .integer 55295), (0, .integer 57344), (0, .integer 65533), (0, .integer 65536), (0, .integer 1114111), (11, .class_ 25), (1, u "com/example/templates_on_trees/templatesontrees/xml/Characters"), (1, u "(I)Z"), (76, u "isChar")] 9

def k2m0 : Method := { name := "<init>", desc := "()V", sig := { parameters := [], returnType := none }, accessFlags := 2, code := none }
def k2c1 : Code := { maxStack := 2, maxLocals := 1, code := prog_54_method_2_code, exceptionTable := #[], attributes := #[] }
def k2m1 : Method := { name := "isChar", desc := "(I)Z", sig := { parameters := [.int], returnType := some .boolean }, accessFlags := 9, code := some k2c1 }
/-- com/example/templates_on_trees/templatesontrees/xml/Characters -/
def k2 : Class := { plain "com/example/templates_on_trees/templatesontrees/xml/Characters" (some 0) with
  accessFlags := 49
  interfaces := #[]
  cf := some (fileOf pool2 23 #[] #[{ accessFlags := 2, nameIndex := 5, descriptorIndex := 6, attributes := #[] }, { accessFlags := 9, nameIndex := 104, descriptorIndex := 27, attributes := #[] }] 49 2 #[] #[])
  fields := #[]
  methods := #[k2m0, k2m1]
  instanceTypes := #[]
  staticTypes := #[]
  resolved := Array.replicate 114 none
  statics := none }

def pool3 : Array CpInfo := pool [(1, u "java/lang/Cloneable"), (0, .class_ 1), (0, u "java/lang/Object"), (0, .class_ 3)] 3

/-- java/lang/Cloneable -/
def k3 : Class := { plain "java/lang/Cloneable" (some 0) with
  accessFlags := 1537
  interfaces := #[]
  cf := some (fileOf pool3 2 #[] #[] 1537 4 #[] #[])
  fields := #[]
  methods := #[]
  instanceTypes := #[]
  staticTypes := #[]
  resolved := Array.replicate 8 none
  statics := none }

def pool4 : Array CpInfo := pool [(1, u "java/io/Serializable"), (0, .class_ 1), (0, u "java/lang/Object"), (0, .class_ 3)] 3

/-- java/io/Serializable -/
def k4 : Class := { plain "java/io/Serializable" (some 0) with
  accessFlags := 1537
  interfaces := #[]
  cf := some (fileOf pool4 2 #[] #[] 1537 4 #[] #[])
  fields := #[]
  methods := #[]
  instanceTypes := #[]
  staticTypes := #[]
  resolved := Array.replicate 8 none
  statics := none }

/-- the primitive byte -/
def k5 : Class := { plain "byte" none with kind := .primitive 'B', accessFlags := 0x411 }
/-- [B -/
def k6 : Class := { plain "[B" (some 0) with kind := .array 5 .byte, interfaces := #[3, 4], accessFlags := 1041 }

/-- the primitive int -/
def k7 : Class := { plain "int" none with kind := .primitive 'I', accessFlags := 0x411 }
/-- [I -/
def k8 : Class := { plain "[I" (some 0) with kind := .array 7 .int, interfaces := #[3, 4], accessFlags := 1041 }

def heap : Heap := #[]
def classes : Array Class := #[k0, k1, k2, k3, k4, k5, k6, k7, k8]
def interned : List (Array UInt16 × Addr) := []
def slotsUsed : Nat := 0
def theMethod : MethodId := ⟨1, 1⟩
def args0 : Array Value := #[.int 5, .int 6]
def aboutOver (below : List Frame) : State where
  vm := { classes := classes, interned := interned.toArray }
  heap := heap
  slotsUsed := slotsUsed
  threads := #[{ frames := .invoking theMethod args0 :: below }]
def below0 : List Frame := [.native { method := ⟨0, 0⟩, args := #[] }]
def about1 : State := aboutOver below0
def p0 : Program := .bare "" "" ""
def e0 : Env := launch0.env 0 0 0
theorem w_frames : about1.frames = Frame.invoking theMethod args0 :: below0 := rfl
set_option maxRecDepth 65536 in
theorem w_args : argsFit about1.vm theMethod args0 = true := by decide +kernel
set_option maxRecDepth 65536 in
theorem w_heap : heapFits about1 = true := by decide +kernel
set_option maxRecDepth 65536 in
theorem w_runnable : about1.curStatus? = some .runnable := by decide +kernel
set_option maxRecDepth 65536 in
theorem w_alone : about1.alone = true := by decide +kernel
set_option maxRecDepth 65536 in
theorem w_named : about1.methodNamed? x = some theMethod := by decide +kernel
set_option maxRecDepth 65536 in
theorem w_hears : about1.hears theMethod below0 = true := by decide +kernel
set_option maxRecDepth 65536 in
theorem w_ripe : about1.ripe theMethod args0 below0 = true := by decide +kernel
theorem w_running : about1.status = .running := rfl
set_option maxRecDepth 65536 in
theorem w_room : about1.hasRoom e0.platform room_1 = true :=
  launch0.hasRoom_least _ room_1 (by decide +kernel) (by decide +kernel) (by decide +kernel) (by decide +kernel) (by decide +kernel) (by decide +kernel)
theorem allAtoms_all (ts : List Jvm.Cond) (a : Array Jvm.Value) (st : Jvm.State) : (allAtoms ts).before a st = ts.all (fun c => c.before a st) := by
  induction ts with
  | nil => rfl
  | cons c t ih =>
    show (Jvm.Cond.and c (allAtoms t)).before a st = _
    rw [Jvm.Cond.before_and, ih, List.all_cons]
def words1 : List Jvm.Cond := Jvm.Cond.code x code maxLocals ret :: tables_1
/-- a 'code' word, met by the world's own term for the bytes: nothing is compared byte by byte -/
theorem code_word {y : MethodName} {bytes : ByteArray} {mx : Nat} {rt : Option FieldType} {a : Array Value} {s : State} {m : MethodId} {meth : Method} {c : Code} (h1 : s.methodNamed? y = some m) (h2 : s.vm.method? m = some meth) (h3 : meth.code = some c) (h4 : c.code = bytes)
    (h5 : (c.maxLocals == mx && c.exceptionTable.isEmpty && decide (c.maxStack ≤ mostOperands) && decide (meth.sig.returnType = rt) && !meth.locks && decide (parseMethodDescriptor y.desc = some meth.sig)) = true) : (Jvm.Cond.code y bytes mx rt).before a s = true := by
  simp only [Bool.and_eq_true, beq_iff_eq, Bool.not_eq_true', decide_eq_true_eq] at h5
  obtain ⟨⟨⟨⟨⟨g1, g2⟩, g3⟩, g4⟩, g5⟩, g6⟩ := h5
  simp [Cond.before, Cond.holds, Cond.value, h1, h2, h3, h4, g1, g2, g3, g4, g5, g6]
def isCode : Jvm.Cond → Bool
  | .code _ _ _ _ => true
  | _ => false
theorem all_split {L : List Jvm.Cond} {P : Jvm.Cond → Bool} (h1 : L.all (fun c => isCode c || P c) = true) (h2 : ∀ c ∈ L.filter isCode, P c = true) : L.all P = true := by
  refine List.all_eq_true.mpr fun c hc => ?_
  have h := List.all_eq_true.mp h1 c hc
  rcases Bool.eq_false_or_eq_true (isCode c) with hi | hi
  · exact h2 c (List.mem_filter.mpr ⟨hc, hi⟩)
  · simpa [hi] using h
set_option maxRecDepth 65536 in
theorem w_c0 : (Jvm.Cond.code x code maxLocals ret).before args0 about1 = true := code_word (m := ⟨1, 1⟩) (meth := k1m1) (c := k1c1) (by decide +kernel) rfl rfl rfl (by decide +kernel)
set_option maxRecDepth 65536 in
theorem w_c1 : (Jvm.Cond.code ({ cls := "com/example/templates_on_trees/templatesontrees/xml/Characters", name := "isChar", desc := "(I)Z" } : Jvm.MethodName) prog_54_method_2_code (1 : Nat) (Option.some Jvm.ClassFile.FieldType.boolean)).before args0 about1 = true := code_word (m := ⟨2, 1⟩) (meth := k2m1) (c := k2c1) (by decide +kernel) rfl rfl rfl (by decide +kernel)
set_option maxRecDepth 65536 in
theorem w_c2 : (Jvm.Cond.code ({ cls := "com/example/templates_on_trees/templatesontrees/xml/CharactersIsCharPinLaw", name := "expected", desc := "(I)Z" } : Jvm.MethodName) method_3_code (5 : Nat) (Option.some Jvm.ClassFile.FieldType.boolean)).before args0 about1 = true := code_word (m := ⟨1, 2⟩) (meth := k1m2) (c := k1c2) (by decide +kernel) rfl rfl rfl (by decide +kernel)
def codes1 : List Jvm.Cond := [Jvm.Cond.code x code maxLocals ret, Jvm.Cond.code ({ cls := "com/example/templates_on_trees/templatesontrees/xml/Characters", name := "isChar", desc := "(I)Z" } : Jvm.MethodName) prog_54_method_2_code (1 : Nat) (Option.some Jvm.ClassFile.FieldType.boolean), Jvm.Cond.code ({ cls := "com/example/templates_on_trees/templatesontrees/xml/CharactersIsCharPinLaw", name := "expected", desc := "(I)Z" } : Jvm.MethodName) method_3_code (5 : Nat) (Option.some Jvm.ClassFile.FieldType.boolean)]
set_option maxRecDepth 65536 in
theorem codes_eq : words1.filter isCode = codes1 := rfl
theorem w_codes : ∀ c ∈ words1.filter isCode, c.before args0 about1 = true := by
  rw [codes_eq]
  intro c hc
  simp only [codes1, List.mem_cons, List.not_mem_nil, or_false] at hc
  rcases hc with rfl | rfl | rfl
  · exact w_c0
  · exact w_c1
  · exact w_c2
set_option maxRecDepth 65536 in
theorem w_t1 : (words1.take 24).all (fun c => isCode c || c.before args0 about1) = true := by decide +kernel
set_option maxRecDepth 65536 in
theorem w_t2 : (words1.drop 24).all (fun c => isCode c || c.before args0 about1) = true := by decide +kernel
theorem w_tables : (allAtoms (Jvm.Cond.code x code maxLocals ret :: tables_1)).before args0 about1 = true := by
  rw [allAtoms_all]
  show words1.all (fun c => c.before args0 about1) = true
  refine all_split ?_ w_codes
  rw [← List.take_append_drop 24 words1, List.all_append, w_t1, w_t2]
  rfl
set_option maxRecDepth 65536 in
theorem w_case : (Jvm.Cond.and given_1 narrow_1).before args0 about1 = true := by decide +kernel
theorem w_applies : (headSpec (Jvm.Cond.code x code maxLocals ret :: tables_1) room_1).applies x e0.platform about1 = true :=
  (Spec.applies_iff w_frames).mpr ⟨w_running, w_runnable, w_alone, w_named, w_hears, w_ripe, w_room, w_tables⟩
theorem atStart : AtStart classFile x code maxLocals ret World_1 tables_1 room_1 Calls_1 rest_1 Pre_1 launch0 p0 e0 about1 theMethod args0 below0 :=
  ⟨lists_1, trivial, launch0.admits_env _ _ _, launch0.least_env, fairChoices_fair.cas, fairChoices_fair.clock, w_frames, w_args, w_heap, w_applies, trivial, trivial, w_case⟩
end start1
theorem witness_1 : WitnessClaimed_1 := ⟨start1.p0, start1.e0, start1.about1, start1.theMethod, start1.args0, start1.below0, start1.atStart⟩
end Jvm.Pilot.@@N@@
