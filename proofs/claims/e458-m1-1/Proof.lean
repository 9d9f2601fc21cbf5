import JvmDerived
import JvmDerived.Pilot.@@N@@Statement
import JvmDerived.Pilot.@@N@@Code
set_option linter.unusedVariables false
set_option linter.unusedSimpArgs false
namespace Jvm.Pilot.@@N@@
open Jvm Jvm.ClassFile Sem Op Lib Jvm.Free Jvm.Stand Jvm.LawKit Jvm.RoadKit Bundle Jvm.Pilot.@@N@@.Jvm.D
/-- what the end of a body says -/
def own_K (s : State) (Q : Option Value → Heap → List Loc → Prop) (C S : Nat) (o : Outcome) (U : State) : Prop := ∃ v L, o = .returned v ∧ Q v U.heap L ∧ FrameEnd s o U L C S
/-- the run goes from S to a return of which K is true -/
def own_Go (p : Program) (e : Env) (below : List Frame) (K : Outcome → State → Prop) (S : State) : Prop := ∃ s₂ o, Steps p.tables e below S s₂ ∧ s₂.status = .running ∧ Ended s₂ below o ∧ K o s₂
/-- the answer of a body that leaves the heap alone -/
def own_Q (val : Value) (h0 : Heap) (n0 : Nat) (v : Option Value) (h : Heap) (L : List Loc) : Prop := v = some val ∧ Fr n0 L ∧ h = h0
section Own
variable {p : Program} {l : Launch} {e : Env} {R : Room} {s : State} {m : MethodId} {args : Array Value} {below : List Frame} {meth : Method} {c : Code} {T : State} {locs : List Loc} {cells slots : Nat} {K : Outcome → State → Prop} {Q : Option Value → Heap → List Loc → Prop} {C S : Nat}
theorem own_by {S S' : State} (h : ∀ t, Steps p.tables e below S' t → Steps p.tables e below S t) (g : own_Go p e below K S') : own_Go p e below K S := by
  obtain ⟨u, o, st, r⟩ := g
  exact ⟨u, o, h u st, r⟩
theorem own_tr {S S' : State} (h : Steps p.tables e below S S') (g : own_Go p e below K S') : own_Go p e below K S := own_by (fun _ k => h.trans k) g
theorem own_hide {n0 : Nat} (X : Stand p l e R s m args below meth c T locs cells slots) (N : Fr n0 locs) : ∃ L, Stand p l e R s m args below meth c T L cells slots ∧ Fr n0 L := ⟨_, X, N⟩
/-- return of a value that is of its kind -/
theorem own_ret (X : Stand p l e R s m args below meth c T locs cells slots) (hx : p.tables.exec = Jvm.exec) (hlk : meth.locks = false) {pc : Nat} {Ls : Array Slot} {w : Value} {t : FieldType} {i : Instr} {rest : List Value} (hret : meth.sig.returnType = some t) (hn : narrow t w = w)
    (hi : (i = .ireturn ∧ (t = .int ∨ t = .boolean ∨ t = .byte ∨ t = .char ∨ t = .short) ∧ ∃ z, w = .int z) ∨ (i = .lreturn ∧ t = .long ∧ ∃ z, w = .long z) ∨ (i = .dreturn ∧ t = .double ∧ ∃ z, w = .double z) ∨ (i = .freturn ∧ t = .float ∧ ∃ z, w = .float z) ∨ (i = .areturn ∧ t.isReference = true ∧ w.isRef = true))
    (hd : decode c.code pc = .ok (i, 1)) (hQ : Q (some w) T.heap locs) (hc : cells ≤ C) (hs : slots ≤ S) : own_Go p e below (own_K s Q C S) (T.setTop (mkF m pc Ls (w :: rest))) := by
  obtain ⟨fs, hr, hrun, hended, hW, hsame⟩ := X.leave (v := some w) (fun h => by rw [hret] at h; cases h) hlk
  exact ⟨_, _, retOut X hx hret hn hi hd hr, hrun, hended, _, _, rfl, hQ, ⟨_, rfl⟩, hW, hsame.mono hc hs⟩
/-- return of a boolean, byte, char or short, narrowed -/
theorem own_retN (X : Stand p l e R s m args below meth c T locs cells slots) (hx : p.tables.exec = Jvm.exec) (hlk : meth.locks = false) {pc : Nat} {Ls : Array Slot} {z : Int32} {t : FieldType} {rest : List Value} (hret : meth.sig.returnType = some t) (ht : t = .boolean ∨ t = .byte ∨ t = .char ∨ t = .short)
    (hd : decode c.code pc = .ok (.ireturn, 1)) (hQ : Q (some (.int (nar t z))) T.heap locs) (hc : cells ≤ C) (hs : slots ≤ S) : own_Go p e below (own_K s Q C S) (T.setTop (mkF m pc Ls (.int z :: rest))) := by
  obtain ⟨fs, hr, hrun, hended, hW, hsame⟩ := X.leave (v := some (.int (nar t z))) (fun h => by rw [hret] at h; cases h) hlk
  exact ⟨_, _, retN X hx hret ht hd hr, hrun, hended, _, _, rfl, hQ, ⟨_, rfl⟩, hW, hsame.mono hc hs⟩
/-- return of nothing -/
theorem own_retV (X : Stand p l e R s m args below meth c T locs cells slots) (hx : p.tables.exec = Jvm.exec) (hlk : meth.locks = false) {pc : Nat} {Ls : Array Slot} (hret : meth.sig.returnType = none)
    (hd : decode c.code pc = .ok (.return_, 1)) (hQ : Q none T.heap locs) (hc : cells ≤ C) (hs : slots ≤ S) : own_Go p e below (own_K s Q C S) (T.setTop (mkF m pc Ls [])) := by
  obtain ⟨fs, hr, hrun, hended, hW, hsame⟩ := X.leave (v := none) (fun _ => rfl) hlk
  exact ⟨_, _, X.returnOut hx hret hd hr, hrun, hended, _, _, rfl, hQ, ⟨_, rfl⟩, hW, hsame.mono hc hs⟩
end Own
/-- the array at a holds n ints, the i-th is f i -/
def own_IA (Z : State) (h : Heap) (a : Addr) (n : Nat) (f : Nat → Int32) : Prop := ∃ c : Cell, Arr Z h a c .int ∧ c.slots.size = n ∧ ∀ i, i < n → c.slots[i]? = some (.int (f i))
theorem own_clamp (j : Int32) : j.toNatClampNeg = j.toInt.toNat := rfl
theorem own_in {j : Int32} {k n : Nat} (hk : k = n) (h0 : 0 ≤ j.toInt) (h1 : j.toInt < n) : ¬ (j < 0 ∨ k ≤ j.toNatClampNeg) := by
  rw [own_clamp, Int32.lt_iff_toInt_lt]
  have : (0 : Int32).toInt = 0 := by decide
  omega
section OwnA
variable {p : Program} {l : Launch} {e : Env} {R : Room} {s : State} {m : MethodId} {args : Array Value} {below : List Frame} {meth : Method} {c : Code} {T : State} {locs : List Loc} {cells slots : Nat} {Z : State} {a0 : Array Value} {h h' : Heap} {a b : Addr} {n sl : Nat} {f : Nat → Int32} {v : Value} {ws : List Addr}
theorem own_IA_lt (F : own_IA Z h a n f) : a < h.size := by obtain ⟨c, A, -⟩ := F; exact A.lt
theorem own_IA_ext (F : own_IA Z h a n f) (E : Ext h h') : own_IA Z h' a n f := by obtain ⟨c, A, r⟩ := F; exact ⟨c, A.ext E, r⟩
theorem own_IA_other (F : own_IA Z h b n f) (W : Wr h h' a sl v) (q : b ≠ a) : own_IA Z h' b n f := by obtain ⟨c, A, r⟩ := F; exact ⟨c, A.other W q, r⟩
theorem own_IA_keep (F : own_IA Z h a n f) (K : Keep h h' ws) (q : a ∉ ws) : own_IA Z h' a n f := by obtain ⟨c, A, r⟩ := F; exact ⟨c, ⟨K.2.1 a c A.1 q, A.2⟩, r⟩
theorem own_IA_congr {f' : Nat → Int32} (F : own_IA Z h a n f) (q : ∀ i, i < n → f i = f' i) : own_IA Z h a n f' := by obtain ⟨c, A, S, r⟩ := F; exact ⟨c, A, S, fun i hi => by rw [r i hi, q i hi]⟩
theorem own_newIA (X : Stand p l e R s m args below meth c T locs cells slots) (hx : p.tables.exec = Jvm.exec) (hZ : Z.Warmed39 s.vm) (w : (Cond.arrayClass .int).before a0 Z = true) (eT : T.heap = h) {g : JFrame} (hg : g.method = m) (hd : decode c.code g.pc = .ok (.newarray .int, 2)) {z : Int32} {rest : List Value} (hs : g.stack = .int z :: rest)
    (n : Nat) (hn : z.toInt = n) {cap : Nat} (hcap : n ≤ cap) (hb : cap * 8 ≤ 536870912) (hc : cells + 1 ≤ R.cells) (hl : slots + cap ≤ R.slots) :
    ∃ (T' : State) (h' : Heap) (a : Addr), Stand p l e R s m args below meth c T' locs (cells + 1) (slots + cap) ∧ T'.heap = h' ∧ a = h.size ∧ Ext h h' ∧ own_IA Z h' a n (fun _ => 0) ∧
      ∀ target, Steps p.tables e below (T'.setTop { g with pc := g.pc + 2, stack := .ref a :: rest }) target → Steps p.tables e below (T.setTop g) target := by
  have hz : ¬ z < 0 := by
    rw [Int32.lt_iff_toInt_lt]
    have : (0 : Int32).toInt = 0 := by decide
    omega
  have hk : z.toNatClampNeg = n := by rw [own_clamp]; omega
  obtain ⟨T', h', cA, X', e', E', A', st⟩ := newP (aty := .int) X hx hZ w eT hg hd hs hz (cap := cap) (by omega) hb hc hl
  refine ⟨T', h', h.size, X', e', rfl, E', ⟨_, A', ?_, fun i hi => ?_⟩, st⟩
  · rw [sz_new]; exact hk
  · show (Array.replicate z.toNatClampNeg (defaultValue .int))[i]? = _
    rw [hk, Array.getElem?_replicate, if_pos hi]; rfl
theorem own_stIA (X : Stand p l e R s m args below meth c T locs cells slots) (hx : p.tables.exec = Jvm.exec) (hZ : Z.Warmed39 s.vm) (eT : T.heap = h) (F : own_IA Z h a n f) {j x : Int32} (h0 : 0 ≤ j.toInt) (h1 : j.toInt < n) {g : JFrame} (hg : g.method = m) {rest : List Value} (hs : g.stack = .int x :: .int j :: .ref a :: rest) (hd : decode c.code g.pc = .ok (.iastore, 1)) :
    ∃ T' h', Stand p l e R s m args below meth c T' (locs ++ [⟨a, j.toNatClampNeg⟩]) cells slots ∧ T'.heap = h' ∧ Wr h h' a j.toNatClampNeg (.int x) ∧ own_IA Z h' a n (fun i => if (i : Int) = j.toInt then x else f i) ∧ ∀ target, Steps p.tables e below (T'.setTop { g with pc := g.pc + 1, stack := rest }) target → Steps p.tables e below (T.setTop g) target := by
  obtain ⟨cl, A, S, V⟩ := F
  obtain ⟨T', h', X', e', W, st⟩ := stI X hx hZ eT A (own_in S h0 h1) hg hs hd
  refine ⟨T', h', X', e', W, ⟨_, A.same W, ?_, fun i hi => ?_⟩, st⟩
  · rw [sz_set]; exact S
  · show (cl.slots.setIfInBounds j.toNatClampNeg (.int x))[i]? = some (.int (if (i : Int) = j.toInt then x else f i))
    rw [Array.getElem?_setIfInBounds, own_clamp]
    by_cases q : (i : Int) = j.toInt
    · rw [if_pos (by omega), if_pos (by omega), if_pos q]
    · rw [if_neg (by omega), if_neg q, V i hi]
theorem own_ldIA {target : State} (X : Stand p l e R s m args below meth c T locs cells slots) (hx : p.tables.exec = Jvm.exec) (hZ : Z.Warmed39 s.vm) (eT : T.heap = h) (F : own_IA Z h a n f) {j : Int32} (h0 : 0 ≤ j.toInt) (h1 : j.toInt < n) {g : JFrame} (hg : g.method = m) {rest : List Value} (hs : g.stack = .int j :: .ref a :: rest) (hd : decode c.code g.pc = .ok (.iaload, 1))
    (hr : Steps p.tables e below (T.setTop { g with pc := g.pc + 1, stack := .int (f j.toInt.toNat) :: rest }) target) : Steps p.tables e below (T.setTop g) target := by
  obtain ⟨cl, A, S, V⟩ := F
  exact X.iaload hx (by rw [eT]; exact A.1) (State.isArrayOf_alike hZ.alike A.2.1) A.2.2 (own_in S h0 h1) (by rw [own_clamp]; exact V _ (by omega)) hg hs hd target hr
theorem own_stN (X : Stand p l e R s m args below meth c T locs cells slots) (hx : p.tables.exec = Jvm.exec) (hZ : Z.Warmed39 s.vm) (eT : T.heap = h) (F : own_IA Z h a n f) {j x : Int32} (k : Nat) (hj : j.toInt = k) (h1 : k < n) {g : JFrame} (hg : g.method = m) {rest : List Value} (hs : g.stack = .int x :: .int j :: .ref a :: rest) (hd : decode c.code g.pc = .ok (.iastore, 1)) :
    ∃ T' h', Stand p l e R s m args below meth c T' (locs ++ [⟨a, j.toNatClampNeg⟩]) cells slots ∧ T'.heap = h' ∧ Wr h h' a j.toNatClampNeg (.int x) ∧ own_IA Z h' a n (fun i => if i = k then x else f i) ∧ ∀ target, Steps p.tables e below (T'.setTop { g with pc := g.pc + 1, stack := rest }) target → Steps p.tables e below (T.setTop g) target := by
  obtain ⟨T', h', X', e', W, H, st⟩ := own_stIA X hx hZ eT F (j := j) (x := x) (by omega) (by omega) hg hs hd
  refine ⟨T', h', X', e', W, own_IA_congr H fun i hi => ?_, st⟩
  show (if (i : Int) = j.toInt then x else f i) = (if i = k then x else f i)
  by_cases q : i = k
  · rw [if_pos (by omega), if_pos q]
  · rw [if_neg (by omega), if_neg q]
theorem own_ldN {target : State} (X : Stand p l e R s m args below meth c T locs cells slots) (hx : p.tables.exec = Jvm.exec) (hZ : Z.Warmed39 s.vm) (eT : T.heap = h) (F : own_IA Z h a n f) {j : Int32} (k : Nat) (hj : j.toInt = k) (h1 : k < n) {g : JFrame} (hg : g.method = m) {rest : List Value} (hs : g.stack = .int j :: .ref a :: rest) (hd : decode c.code g.pc = .ok (.iaload, 1))
    (hr : Steps p.tables e below (T.setTop { g with pc := g.pc + 1, stack := .int (f k) :: rest }) target) : Steps p.tables e below (T.setTop g) target := by
  refine own_ldIA X hx hZ eT F (j := j) (by omega) (by omega) hg hs hd ?_
  rw [show j.toInt.toNat = k by omega]; exact hr
theorem own_lenIA {target : State} (X : Stand p l e R s m args below meth c T locs cells slots) (hx : p.tables.exec = Jvm.exec) (hZ : Z.Warmed39 s.vm) (eT : T.heap = h) (F : own_IA Z h a n f) {z : Int32} (hz : n.toInt32 = z) {g : JFrame} (hg : g.method = m) {rest : List Value} (hs : g.stack = .ref a :: rest) (hd : decode c.code g.pc = .ok (.arraylength, 1))
    (hr : Steps p.tables e below (T.setTop { g with pc := g.pc + 1, stack := .int z :: rest }) target) : Steps p.tables e below (T.setTop g) target := by
  obtain ⟨cl, A, S, V⟩ := F
  refine X.arraylength hx (by rw [eT]; exact A.1) (State.isArrayOf_alike hZ.alike A.2.1) hg hs hd target ?_
  rw [S, hz]; exact hr
end OwnA
theorem own_rem_eq {x m : Int32} (hx : 0 ≤ x.toInt) (hm : 0 < m.toInt) : (x - (x / m) * m).toInt = x.toInt % m.toInt := by
  have h1 := x.toInt_lt
  have h2 := m.toInt_lt
  have q0 : 0 ≤ x.toInt / m.toInt := Int.ediv_nonneg hx (by omega)
  have q1 : x.toInt / m.toInt ≤ x.toInt := Int.ediv_le_self _ hx
  have e : x.toInt % m.toInt + m.toInt * (x.toInt / m.toInt) = x.toInt := Int.emod_add_mul_ediv ..
  have r0 : 0 ≤ x.toInt % m.toInt := Int.emod_nonneg _ (by omega)
  have r1 : x.toInt % m.toInt < m.toInt := Int.emod_lt_of_pos _ hm
  have hd : (x / m).toInt = x.toInt / m.toInt := by
    rw [Int32.toInt_div, Int.tdiv_eq_ediv_of_nonneg hx]
    exact Int.bmod_eq_of_le (by omega) (by omega)
  have hmul : ((x / m) * m).toInt = m.toInt * (x.toInt / m.toInt) := by
    rw [Int32.toInt_mul, hd, Int.mul_comm]
    exact Int.bmod_eq_of_le (by omega) (by omega)
  rw [Int32.toInt_sub, hmul, show x.toInt - m.toInt * (x.toInt / m.toInt) = x.toInt % m.toInt by omega]
  exact Int.bmod_eq_of_le (by omega) (by omega)
theorem own_rem {x m : Int32} (hx : 0 ≤ x.toInt) (hm : 0 < m.toInt) : 0 ≤ (x - (x / m) * m).toInt ∧ (x - (x / m) * m).toInt < m.toInt := by
  rw [own_rem_eq hx hm]
  exact ⟨Int.emod_nonneg _ (by omega), Int.emod_lt_of_pos _ hm⟩
theorem own_toInt_nonneg {x : Int32} (h : x.toBitVec.toNat < 2 ^ 31) : x.toInt = x.toBitVec.toNat := by
  show x.toBitVec.toInt = _
  rw [BitVec.toInt_eq_toNat_cond, if_pos (by omega)]
theorem own_and {x : Int32} (k : Nat) (hk : k < 2 ^ 31) {m : Int32} (hm : m.toBitVec = BitVec.ofNat 32 k) : 0 ≤ (x &&& m).toInt ∧ (x &&& m).toInt ≤ k := by
  have h : (x &&& m).toBitVec.toNat ≤ k := by
    rw [Int32.toBitVec_and, BitVec.toNat_and, hm, BitVec.toNat_ofNat, Nat.mod_eq_of_lt (by omega)]
    exact Nat.and_le_right
  rw [own_toInt_nonneg (by omega)]
  omega
theorem own_ushr {x y : Int32} (k : Nat) (hk : (y &&& 31).toUInt32.toNat % 32 = k) : (XT.ushr x y).toBitVec.toNat = x.toBitVec.toNat / 2 ^ k := by
  show (x.toUInt32 >>> (y &&& 31).toUInt32).toNat = _
  rw [UInt32.toNat_shiftRight, hk, Nat.shiftRight_eq_div_pow]; rfl
theorem own_ushr1 (x : Int32) : 0 ≤ (XT.ushr x 1).toInt := by
  have h := own_ushr (x := x) (y := 1) 1 (by decide)
  have hx := x.toBitVec.isLt
  rw [own_toInt_nonneg (by omega)]; omega
theorem own_pn0 : plainName "com/example/penelope/penelope/XmlChars" = true := by first | (simp [plainName, overriddenIn]; done) | decide +kernel
theorem own_pd1 : parseMethodDescriptor "(I)Z" = some ⟨[.int], some .boolean⟩ := by decide +kernel
theorem d2_0 : decode prog_29_method_8_code 0 = .ok (.iload_n 0, 1) := by decide +kernel
theorem d2_1 : decode prog_29_method_8_code 1 = .ok (.sipush 128, 3) := by decide +kernel
theorem d2_4 : decode prog_29_method_8_code 4 = .ok (.if_icmp .ge 45, 3) := by decide +kernel
theorem d2_7 : decode prog_29_method_8_code 7 = .ok (.iload_n 0, 1) := by decide +kernel
theorem d2_8 : decode prog_29_method_8_code 8 = .ok (.bipush 97, 2) := by decide +kernel
theorem d2_10 : decode prog_29_method_8_code 10 = .ok (.if_icmp .lt 9, 3) := by decide +kernel
theorem d2_13 : decode prog_29_method_8_code 13 = .ok (.iload_n 0, 1) := by decide +kernel
theorem d2_14 : decode prog_29_method_8_code 14 = .ok (.bipush 122, 2) := by decide +kernel
theorem d2_16 : decode prog_29_method_8_code 16 = .ok (.if_icmp .le 27, 3) := by decide +kernel
theorem d2_19 : decode prog_29_method_8_code 19 = .ok (.iload_n 0, 1) := by decide +kernel
theorem d2_20 : decode prog_29_method_8_code 20 = .ok (.bipush 65, 2) := by decide +kernel
theorem d2_22 : decode prog_29_method_8_code 22 = .ok (.if_icmp .lt 9, 3) := by decide +kernel
theorem d2_25 : decode prog_29_method_8_code 25 = .ok (.iload_n 0, 1) := by decide +kernel
theorem d2_26 : decode prog_29_method_8_code 26 = .ok (.bipush 90, 2) := by decide +kernel
theorem d2_28 : decode prog_29_method_8_code 28 = .ok (.if_icmp .le 15, 3) := by decide +kernel
theorem d2_31 : decode prog_29_method_8_code 31 = .ok (.iload_n 0, 1) := by decide +kernel
theorem d2_32 : decode prog_29_method_8_code 32 = .ok (.bipush 95, 2) := by decide +kernel
theorem d2_34 : decode prog_29_method_8_code 34 = .ok (.if_icmp .eq 9, 3) := by decide +kernel
theorem d2_37 : decode prog_29_method_8_code 37 = .ok (.iload_n 0, 1) := by decide +kernel
theorem d2_38 : decode prog_29_method_8_code 38 = .ok (.bipush 58, 2) := by decide +kernel
theorem d2_40 : decode prog_29_method_8_code 40 = .ok (.if_icmp .ne 7, 3) := by decide +kernel
theorem d2_43 : decode prog_29_method_8_code 43 = .ok (.iconst 1, 1) := by decide +kernel
theorem d2_44 : decode prog_29_method_8_code 44 = .ok (.goto 4, 3) := by decide +kernel
theorem d2_47 : decode prog_29_method_8_code 47 = .ok (.iconst 0, 1) := by decide +kernel
theorem d2_48 : decode prog_29_method_8_code 48 = .ok (.ireturn, 1) := by decide +kernel
theorem d2_49 : decode prog_29_method_8_code 49 = .ok (.iload_n 0, 1) := by decide +kernel
theorem d2_50 : decode prog_29_method_8_code 50 = .ok (.sipush 192, 3) := by decide +kernel
theorem d2_53 : decode prog_29_method_8_code 53 = .ok (.if_icmp .lt 10, 3) := by decide +kernel
theorem d2_56 : decode prog_29_method_8_code 56 = .ok (.iload_n 0, 1) := by decide +kernel
theorem d2_57 : decode prog_29_method_8_code 57 = .ok (.sipush 214, 3) := by decide +kernel
theorem d2_60 : decode prog_29_method_8_code 60 = .ok (.if_icmp .le 150, 3) := by decide +kernel
theorem d2_63 : decode prog_29_method_8_code 63 = .ok (.iload_n 0, 1) := by decide +kernel
theorem d2_64 : decode prog_29_method_8_code 64 = .ok (.sipush 216, 3) := by decide +kernel
theorem d2_67 : decode prog_29_method_8_code 67 = .ok (.if_icmp .lt 10, 3) := by decide +kernel
theorem d2_70 : decode prog_29_method_8_code 70 = .ok (.iload_n 0, 1) := by decide +kernel
theorem d2_71 : decode prog_29_method_8_code 71 = .ok (.sipush 246, 3) := by decide +kernel
theorem d2_74 : decode prog_29_method_8_code 74 = .ok (.if_icmp .le 136, 3) := by decide +kernel
theorem d2_77 : decode prog_29_method_8_code 77 = .ok (.iload_n 0, 1) := by decide +kernel
theorem d2_78 : decode prog_29_method_8_code 78 = .ok (.sipush 248, 3) := by decide +kernel
theorem d2_81 : decode prog_29_method_8_code 81 = .ok (.if_icmp .lt 10, 3) := by decide +kernel
theorem d2_84 : decode prog_29_method_8_code 84 = .ok (.iload_n 0, 1) := by decide +kernel
theorem d2_85 : decode prog_29_method_8_code 85 = .ok (.sipush 767, 3) := by decide +kernel
theorem d2_88 : decode prog_29_method_8_code 88 = .ok (.if_icmp .le 122, 3) := by decide +kernel
theorem d2_91 : decode prog_29_method_8_code 91 = .ok (.iload_n 0, 1) := by decide +kernel
theorem d2_92 : decode prog_29_method_8_code 92 = .ok (.sipush 880, 3) := by decide +kernel
theorem d2_95 : decode prog_29_method_8_code 95 = .ok (.if_icmp .lt 10, 3) := by decide +kernel
theorem d2_98 : decode prog_29_method_8_code 98 = .ok (.iload_n 0, 1) := by decide +kernel
theorem d2_99 : decode prog_29_method_8_code 99 = .ok (.sipush 893, 3) := by decide +kernel
theorem d2_102 : decode prog_29_method_8_code 102 = .ok (.if_icmp .le 108, 3) := by decide +kernel
theorem d2_105 : decode prog_29_method_8_code 105 = .ok (.iload_n 0, 1) := by decide +kernel
theorem d2_106 : decode prog_29_method_8_code 106 = .ok (.sipush 895, 3) := by decide +kernel
theorem d2_109 : decode prog_29_method_8_code 109 = .ok (.if_icmp .lt 10, 3) := by decide +kernel
theorem d2_112 : decode prog_29_method_8_code 112 = .ok (.iload_n 0, 1) := by decide +kernel
theorem d2_113 : decode prog_29_method_8_code 113 = .ok (.sipush 8191, 3) := by decide +kernel
theorem d2_116 : decode prog_29_method_8_code 116 = .ok (.if_icmp .le 94, 3) := by decide +kernel
theorem d2_119 : decode prog_29_method_8_code 119 = .ok (.iload_n 0, 1) := by decide +kernel
theorem d2_120 : decode prog_29_method_8_code 120 = .ok (.sipush 8204, 3) := by decide +kernel
theorem d2_123 : decode prog_29_method_8_code 123 = .ok (.if_icmp .lt 10, 3) := by decide +kernel
theorem d2_126 : decode prog_29_method_8_code 126 = .ok (.iload_n 0, 1) := by decide +kernel
theorem d2_127 : decode prog_29_method_8_code 127 = .ok (.sipush 8205, 3) := by decide +kernel
theorem d2_130 : decode prog_29_method_8_code 130 = .ok (.if_icmp .le 80, 3) := by decide +kernel
theorem d2_133 : decode prog_29_method_8_code 133 = .ok (.iload_n 0, 1) := by decide +kernel
theorem d2_134 : decode prog_29_method_8_code 134 = .ok (.sipush 8304, 3) := by decide +kernel
theorem d2_137 : decode prog_29_method_8_code 137 = .ok (.if_icmp .lt 10, 3) := by decide +kernel
theorem d2_140 : decode prog_29_method_8_code 140 = .ok (.iload_n 0, 1) := by decide +kernel
theorem d2_141 : decode prog_29_method_8_code 141 = .ok (.sipush 8591, 3) := by decide +kernel
theorem d2_144 : decode prog_29_method_8_code 144 = .ok (.if_icmp .le 66, 3) := by decide +kernel
theorem d2_147 : decode prog_29_method_8_code 147 = .ok (.iload_n 0, 1) := by decide +kernel
theorem d2_148 : decode prog_29_method_8_code 148 = .ok (.sipush 11264, 3) := by decide +kernel
theorem d2_151 : decode prog_29_method_8_code 151 = .ok (.if_icmp .lt 10, 3) := by decide +kernel
theorem d2_154 : decode prog_29_method_8_code 154 = .ok (.iload_n 0, 1) := by decide +kernel
theorem d2_155 : decode prog_29_method_8_code 155 = .ok (.sipush 12271, 3) := by decide +kernel
theorem d2_158 : decode prog_29_method_8_code 158 = .ok (.if_icmp .le 52, 3) := by decide +kernel
theorem d2_161 : decode prog_29_method_8_code 161 = .ok (.iload_n 0, 1) := by decide +kernel
theorem d2_162 : decode prog_29_method_8_code 162 = .ok (.sipush 12289, 3) := by decide +kernel
theorem d2_165 : decode prog_29_method_8_code 165 = .ok (.if_icmp .lt 9, 3) := by decide +kernel
theorem d2_168 : decode prog_29_method_8_code 168 = .ok (.iload_n 0, 1) := by decide +kernel
theorem d2_169 : decode prog_29_method_8_code 169 = .ok (.ldc 7, 2) := by decide +kernel
theorem d2_171 : decode prog_29_method_8_code 171 = .ok (.if_icmp .le 39, 3) := by decide +kernel
theorem d2_174 : decode prog_29_method_8_code 174 = .ok (.iload_n 0, 1) := by decide +kernel
theorem d2_175 : decode prog_29_method_8_code 175 = .ok (.ldc 95, 2) := by decide +kernel
theorem d2_177 : decode prog_29_method_8_code 177 = .ok (.if_icmp .lt 9, 3) := by decide +kernel
theorem d2_180 : decode prog_29_method_8_code 180 = .ok (.iload_n 0, 1) := by decide +kernel
theorem d2_181 : decode prog_29_method_8_code 181 = .ok (.ldc 96, 2) := by decide +kernel
theorem d2_183 : decode prog_29_method_8_code 183 = .ok (.if_icmp .le 27, 3) := by decide +kernel
theorem d2_186 : decode prog_29_method_8_code 186 = .ok (.iload_n 0, 1) := by decide +kernel
theorem d2_187 : decode prog_29_method_8_code 187 = .ok (.ldc 97, 2) := by decide +kernel
theorem d2_189 : decode prog_29_method_8_code 189 = .ok (.if_icmp .lt 9, 3) := by decide +kernel
theorem d2_192 : decode prog_29_method_8_code 192 = .ok (.iload_n 0, 1) := by decide +kernel
theorem d2_193 : decode prog_29_method_8_code 193 = .ok (.ldc 9, 2) := by decide +kernel
theorem d2_195 : decode prog_29_method_8_code 195 = .ok (.if_icmp .le 15, 3) := by decide +kernel
theorem d2_198 : decode prog_29_method_8_code 198 = .ok (.iload_n 0, 1) := by decide +kernel
theorem d2_199 : decode prog_29_method_8_code 199 = .ok (.ldc 10, 2) := by decide +kernel
theorem d2_201 : decode prog_29_method_8_code 201 = .ok (.if_icmp .lt 13, 3) := by decide +kernel
theorem d2_204 : decode prog_29_method_8_code 204 = .ok (.iload_n 0, 1) := by decide +kernel
theorem d2_205 : decode prog_29_method_8_code 205 = .ok (.ldc 98, 2) := by decide +kernel
theorem d2_207 : decode prog_29_method_8_code 207 = .ok (.if_icmp .gt 7, 3) := by decide +kernel
theorem d2_210 : decode prog_29_method_8_code 210 = .ok (.iconst 1, 1) := by decide +kernel
theorem d2_211 : decode prog_29_method_8_code 211 = .ok (.goto 4, 3) := by decide +kernel
theorem d2_214 : decode prog_29_method_8_code 214 = .ok (.iconst 0, 1) := by decide +kernel
theorem d2_215 : decode prog_29_method_8_code 215 = .ok (.ireturn, 1) := by decide +kernel
def f2_214 (l0 : Int32) : Int32 := (0 : Int32)
set_option maxRecDepth 65536 in
set_option maxHeartbeats 4000000 in
theorem w2_214 {p : Program} {l : Launch} {e : Env} {s : State} {m : MethodId} {args : Array Value} {below : List Frame} {meth : Method} {c : Code} {T : State} {locs : List Loc} {Z : State} {a0 : Array Value} {n0 : Nat} {h0 : Heap} (X : Stand p l e ({ frames := 0, cells := 0, slots := 0, locals := 0 } : Room) s m args below meth c T locs 0 0) (hx : p.tables.exec = Jvm.exec) (hby : c.code = prog_29_method_8_code) (hlk : meth.locks = false) (hret : meth.sig.returnType = some .boolean) (hZ : Z.Warmed39 s.vm) (hown : s.vm.findClass "com/example/penelope/penelope/XmlChars" = some m.cls) (hw : ∀ d ∈ tables_1, d.before a0 Z = true) (hml : c.maxLocals = 1) (N : Fr n0 locs) (eT : T.heap = h0) (l0 : Int32) :
    own_Go p e below (own_K s (own_Q (.int (f2_214 l0)) h0 n0) 0 0) (T.setTop (mkF m 214 #[.val (.int l0)] [])) := by
  unfold f2_214
  refine own_by (fun _ kont => XT.iconstV X.here hx rfl (0 : Int32) (hb hby d2_214) rfl kont) ?_
  show own_Go p e below _ (T.setTop (mkF m 215 #[.val (.int l0)] [(.int (0 : Int32))]))
  exact own_ret X hx hlk hret rfl (Or.inl ⟨rfl, by simp, _, rfl⟩) (hb hby d2_215) ⟨rfl, N, eT⟩ (Nat.le_refl _) (Nat.le_refl _)
def f2_210 (l0 : Int32) : Int32 := (1 : Int32)
set_option maxRecDepth 65536 in
set_option maxHeartbeats 4000000 in
theorem w2_210 {p : Program} {l : Launch} {e : Env} {s : State} {m : MethodId} {args : Array Value} {below : List Frame} {meth : Method} {c : Code} {T : State} {locs : List Loc} {Z : State} {a0 : Array Value} {n0 : Nat} {h0 : Heap} (X : Stand p l e ({ frames := 0, cells := 0, slots := 0, locals := 0 } : Room) s m args below meth c T locs 0 0) (hx : p.tables.exec = Jvm.exec) (hby : c.code = prog_29_method_8_code) (hlk : meth.locks = false) (hret : meth.sig.returnType = some .boolean) (hZ : Z.Warmed39 s.vm) (hown : s.vm.findClass "com/example/penelope/penelope/XmlChars" = some m.cls) (hw : ∀ d ∈ tables_1, d.before a0 Z = true) (hml : c.maxLocals = 1) (N : Fr n0 locs) (eT : T.heap = h0) (l0 : Int32) :
    own_Go p e below (own_K s (own_Q (.int (f2_210 l0)) h0 n0) 0 0) (T.setTop (mkF m 210 #[.val (.int l0)] [])) := by
  unfold f2_210
  refine own_by (fun _ kont => XT.iconstV X.here hx rfl (1 : Int32) (hb hby d2_210) rfl kont) ?_
  show own_Go p e below _ (T.setTop (mkF m 211 #[.val (.int l0)] [(.int (1 : Int32))]))
  refine own_by (fun _ kont => XS.goto X.here hx rfl (pc0 := 211) (pc' := 215) rfl (hb hby d2_211) (by decide) (by decide) kont) ?_
  show own_Go p e below _ (T.setTop (mkF m 215 #[.val (.int l0)] [(.int (1 : Int32))]))
  exact own_ret X hx hlk hret rfl (Or.inl ⟨rfl, by simp, _, rfl⟩) (hb hby d2_215) ⟨rfl, N, eT⟩ (Nat.le_refl _) (Nat.le_refl _)
def f2_198 (l0 : Int32) : Int32 := (if l0 < (65536 : Int32) then (f2_214 l0) else (if (983039 : Int32) < l0 then (f2_214 l0) else (f2_210 l0)))
set_option maxRecDepth 65536 in
set_option maxHeartbeats 4000000 in
theorem w2_198 {p : Program} {l : Launch} {e : Env} {s : State} {m : MethodId} {args : Array Value} {below : List Frame} {meth : Method} {c : Code} {T : State} {locs : List Loc} {Z : State} {a0 : Array Value} {n0 : Nat} {h0 : Heap} (X : Stand p l e ({ frames := 0, cells := 0, slots := 0, locals := 0 } : Room) s m args below meth c T locs 0 0) (hx : p.tables.exec = Jvm.exec) (hby : c.code = prog_29_method_8_code) (hlk : meth.locks = false) (hret : meth.sig.returnType = some .boolean) (hZ : Z.Warmed39 s.vm) (hown : s.vm.findClass "com/example/penelope/penelope/XmlChars" = some m.cls) (hw : ∀ d ∈ tables_1, d.before a0 Z = true) (hml : c.maxLocals = 1) (N : Fr n0 locs) (eT : T.heap = h0) (l0 : Int32) :
    own_Go p e below (own_K s (own_Q (.int (f2_198 l0)) h0 n0) 0 0) (T.setTop (mkF m 198 #[.val (.int l0)] [])) := by
  unfold f2_198
  refine own_by (fun _ kont => XS.iloadN X.here hx rfl (hb hby d2_198) rfl kont) ?_
  show own_Go p e below _ (T.setTop (mkF m 199 #[.val (.int l0)] [(.int l0)]))
  refine own_by (fun _ kont => X.ldcI hx hown (v := (65536 : Int32)) (mvT hZ (hw _ (List.mem_of_getElem? (i := 20) rfl))) rfl (hb hby d2_199) kont) ?_
  show own_Go p e below _ (T.setTop (mkF m 201 #[.val (.int l0)] [(.int (65536 : Int32)), (.int l0)]))
  by_cases c201 : l0 < (65536 : Int32)
  · rw [if_pos c201]
    refine own_by (fun _ kont => XS.icmpYes X.here hx rfl (pc0 := 201) (pc' := 214) rfl (hb hby d2_201) rfl (XT.ii_lt_t c201) (by decide) (by decide) kont) ?_
    show own_Go p e below _ (T.setTop (mkF m 214 #[.val (.int l0)] []))
    exact w2_214 X hx hby hlk hret hZ hown hw hml N eT l0
  · rw [if_neg c201]
    refine own_by (fun _ kont => XS.icmpNo X.here hx rfl (hb hby d2_201) rfl (XT.ii_lt_f c201) kont) ?_
    show own_Go p e below _ (T.setTop (mkF m 204 #[.val (.int l0)] []))
    refine own_by (fun _ kont => XS.iloadN X.here hx rfl (hb hby d2_204) rfl kont) ?_
    show own_Go p e below _ (T.setTop (mkF m 205 #[.val (.int l0)] [(.int l0)]))
    refine own_by (fun _ kont => X.ldcI hx hown (v := (983039 : Int32)) (mvT hZ (hw _ (List.mem_of_getElem? (i := 24) rfl))) rfl (hb hby d2_205) kont) ?_
    show own_Go p e below _ (T.setTop (mkF m 207 #[.val (.int l0)] [(.int (983039 : Int32)), (.int l0)]))
    by_cases c207 : (983039 : Int32) < l0
    · rw [if_pos c207]
      refine own_by (fun _ kont => XS.icmpYes X.here hx rfl (pc0 := 207) (pc' := 214) rfl (hb hby d2_207) rfl (XT.ii_gt_t c207) (by decide) (by decide) kont) ?_
      show own_Go p e below _ (T.setTop (mkF m 214 #[.val (.int l0)] []))
      exact w2_214 X hx hby hlk hret hZ hown hw hml N eT l0
    · rw [if_neg c207]
      refine own_by (fun _ kont => XS.icmpNo X.here hx rfl (hb hby d2_207) rfl (XT.ii_gt_f c207) kont) ?_
      show own_Go p e below _ (T.setTop (mkF m 210 #[.val (.int l0)] []))
      exact w2_210 X hx hby hlk hret hZ hown hw hml N eT l0
def f2_186 (l0 : Int32) : Int32 := (if l0 < (65008 : Int32) then (f2_198 l0) else (if (65533 : Int32) < l0 then (f2_198 l0) else (f2_210 l0)))
set_option maxRecDepth 65536 in
set_option maxHeartbeats 4000000 in
theorem w2_186 {p : Program} {l : Launch} {e : Env} {s : State} {m : MethodId} {args : Array Value} {below : List Frame} {meth : Method} {c : Code} {T : State} {locs : List Loc} {Z : State} {a0 : Array Value} {n0 : Nat} {h0 : Heap} (X : Stand p l e ({ frames := 0, cells := 0, slots := 0, locals := 0 } : Room) s m args below meth c T locs 0 0) (hx : p.tables.exec = Jvm.exec) (hby : c.code = prog_29_method_8_code) (hlk : meth.locks = false) (hret : meth.sig.returnType = some .boolean) (hZ : Z.Warmed39 s.vm) (hown : s.vm.findClass "com/example/penelope/penelope/XmlChars" = some m.cls) (hw : ∀ d ∈ tables_1, d.before a0 Z = true) (hml : c.maxLocals = 1) (N : Fr n0 locs) (eT : T.heap = h0) (l0 : Int32) :
    own_Go p e below (own_K s (own_Q (.int (f2_186 l0)) h0 n0) 0 0) (T.setTop (mkF m 186 #[.val (.int l0)] [])) := by
  unfold f2_186
  refine own_by (fun _ kont => XS.iloadN X.here hx rfl (hb hby d2_186) rfl kont) ?_
  show own_Go p e below _ (T.setTop (mkF m 187 #[.val (.int l0)] [(.int l0)]))
  refine own_by (fun _ kont => X.ldcI hx hown (v := (65008 : Int32)) (mvT hZ (hw _ (List.mem_of_getElem? (i := 19) rfl))) rfl (hb hby d2_187) kont) ?_
  show own_Go p e below _ (T.setTop (mkF m 189 #[.val (.int l0)] [(.int (65008 : Int32)), (.int l0)]))
  by_cases c189 : l0 < (65008 : Int32)
  · rw [if_pos c189]
    refine own_by (fun _ kont => XS.icmpYes X.here hx rfl (pc0 := 189) (pc' := 198) rfl (hb hby d2_189) rfl (XT.ii_lt_t c189) (by decide) (by decide) kont) ?_
    show own_Go p e below _ (T.setTop (mkF m 198 #[.val (.int l0)] []))
    exact w2_198 X hx hby hlk hret hZ hown hw hml N eT l0
  · rw [if_neg c189]
    refine own_by (fun _ kont => XS.icmpNo X.here hx rfl (hb hby d2_189) rfl (XT.ii_lt_f c189) kont) ?_
    show own_Go p e below _ (T.setTop (mkF m 192 #[.val (.int l0)] []))
    refine own_by (fun _ kont => XS.iloadN X.here hx rfl (hb hby d2_192) rfl kont) ?_
    show own_Go p e below _ (T.setTop (mkF m 193 #[.val (.int l0)] [(.int l0)]))
    refine own_by (fun _ kont => X.ldcI hx hown (v := (65533 : Int32)) (mvT hZ (hw _ (List.mem_of_getElem? (i := 23) rfl))) rfl (hb hby d2_193) kont) ?_
    show own_Go p e below _ (T.setTop (mkF m 195 #[.val (.int l0)] [(.int (65533 : Int32)), (.int l0)]))
    by_cases c195 : (65533 : Int32) < l0
    · rw [if_pos c195]
      refine own_by (fun _ kont => XS.icmpNo X.here hx rfl (hb hby d2_195) rfl (XT.ii_le_f c195) kont) ?_
      show own_Go p e below _ (T.setTop (mkF m 198 #[.val (.int l0)] []))
      exact w2_198 X hx hby hlk hret hZ hown hw hml N eT l0
    · rw [if_neg c195]
      refine own_by (fun _ kont => XS.icmpYes X.here hx rfl (pc0 := 195) (pc' := 210) rfl (hb hby d2_195) rfl (XT.ii_le_t c195) (by decide) (by decide) kont) ?_
      show own_Go p e below _ (T.setTop (mkF m 210 #[.val (.int l0)] []))
      exact w2_210 X hx hby hlk hret hZ hown hw hml N eT l0
def f2_174 (l0 : Int32) : Int32 := (if l0 < (63744 : Int32) then (f2_186 l0) else (if (64975 : Int32) < l0 then (f2_186 l0) else (f2_210 l0)))
set_option maxRecDepth 65536 in
set_option maxHeartbeats 4000000 in
theorem w2_174 {p : Program} {l : Launch} {e : Env} {s : State} {m : MethodId} {args : Array Value} {below : List Frame} {meth : Method} {c : Code} {T : State} {locs : List Loc} {Z : State} {a0 : Array Value} {n0 : Nat} {h0 : Heap} (X : Stand p l e ({ frames := 0, cells := 0, slots := 0, locals := 0 } : Room) s m args below meth c T locs 0 0) (hx : p.tables.exec = Jvm.exec) (hby : c.code = prog_29_method_8_code) (hlk : meth.locks = false) (hret : meth.sig.returnType = some .boolean) (hZ : Z.Warmed39 s.vm) (hown : s.vm.findClass "com/example/penelope/penelope/XmlChars" = some m.cls) (hw : ∀ d ∈ tables_1, d.before a0 Z = true) (hml : c.maxLocals = 1) (N : Fr n0 locs) (eT : T.heap = h0) (l0 : Int32) :
    own_Go p e below (own_K s (own_Q (.int (f2_174 l0)) h0 n0) 0 0) (T.setTop (mkF m 174 #[.val (.int l0)] [])) := by
  unfold f2_174
  refine own_by (fun _ kont => XS.iloadN X.here hx rfl (hb hby d2_174) rfl kont) ?_
  show own_Go p e below _ (T.setTop (mkF m 175 #[.val (.int l0)] [(.int l0)]))
  refine own_by (fun _ kont => X.ldcI hx hown (v := (63744 : Int32)) (mvT hZ (hw _ (List.mem_of_getElem? (i := 18) rfl))) rfl (hb hby d2_175) kont) ?_
  show own_Go p e below _ (T.setTop (mkF m 177 #[.val (.int l0)] [(.int (63744 : Int32)), (.int l0)]))
  by_cases c177 : l0 < (63744 : Int32)
  · rw [if_pos c177]
    refine own_by (fun _ kont => XS.icmpYes X.here hx rfl (pc0 := 177) (pc' := 186) rfl (hb hby d2_177) rfl (XT.ii_lt_t c177) (by decide) (by decide) kont) ?_
    show own_Go p e below _ (T.setTop (mkF m 186 #[.val (.int l0)] []))
    exact w2_186 X hx hby hlk hret hZ hown hw hml N eT l0
  · rw [if_neg c177]
    refine own_by (fun _ kont => XS.icmpNo X.here hx rfl (hb hby d2_177) rfl (XT.ii_lt_f c177) kont) ?_
    show own_Go p e below _ (T.setTop (mkF m 180 #[.val (.int l0)] []))
    refine own_by (fun _ kont => XS.iloadN X.here hx rfl (hb hby d2_180) rfl kont) ?_
    show own_Go p e below _ (T.setTop (mkF m 181 #[.val (.int l0)] [(.int l0)]))
    refine own_by (fun _ kont => X.ldcI hx hown (v := (64975 : Int32)) (mvT hZ (hw _ (List.mem_of_getElem? (i := 22) rfl))) rfl (hb hby d2_181) kont) ?_
    show own_Go p e below _ (T.setTop (mkF m 183 #[.val (.int l0)] [(.int (64975 : Int32)), (.int l0)]))
    by_cases c183 : (64975 : Int32) < l0
    · rw [if_pos c183]
      refine own_by (fun _ kont => XS.icmpNo X.here hx rfl (hb hby d2_183) rfl (XT.ii_le_f c183) kont) ?_
      show own_Go p e below _ (T.setTop (mkF m 186 #[.val (.int l0)] []))
      exact w2_186 X hx hby hlk hret hZ hown hw hml N eT l0
    · rw [if_neg c183]
      refine own_by (fun _ kont => XS.icmpYes X.here hx rfl (pc0 := 183) (pc' := 210) rfl (hb hby d2_183) rfl (XT.ii_le_t c183) (by decide) (by decide) kont) ?_
      show own_Go p e below _ (T.setTop (mkF m 210 #[.val (.int l0)] []))
      exact w2_210 X hx hby hlk hret hZ hown hw hml N eT l0
def f2_161 (l0 : Int32) : Int32 := (if l0 < (12289 : Int32) then (f2_174 l0) else (if (55295 : Int32) < l0 then (f2_174 l0) else (f2_210 l0)))
set_option maxRecDepth 65536 in
set_option maxHeartbeats 4000000 in
theorem w2_161 {p : Program} {l : Launch} {e : Env} {s : State} {m : MethodId} {args : Array Value} {below : List Frame} {meth : Method} {c : Code} {T : State} {locs : List Loc} {Z : State} {a0 : Array Value} {n0 : Nat} {h0 : Heap} (X : Stand p l e ({ frames := 0, cells := 0, slots := 0, locals := 0 } : Room) s m args below meth c T locs 0 0) (hx : p.tables.exec = Jvm.exec) (hby : c.code = prog_29_method_8_code) (hlk : meth.locks = false) (hret : meth.sig.returnType = some .boolean) (hZ : Z.Warmed39 s.vm) (hown : s.vm.findClass "com/example/penelope/penelope/XmlChars" = some m.cls) (hw : ∀ d ∈ tables_1, d.before a0 Z = true) (hml : c.maxLocals = 1) (N : Fr n0 locs) (eT : T.heap = h0) (l0 : Int32) :
    own_Go p e below (own_K s (own_Q (.int (f2_161 l0)) h0 n0) 0 0) (T.setTop (mkF m 161 #[.val (.int l0)] [])) := by
  unfold f2_161
  refine own_by (fun _ kont => XS.iloadN X.here hx rfl (hb hby d2_161) rfl kont) ?_
  show own_Go p e below _ (T.setTop (mkF m 162 #[.val (.int l0)] [(.int l0)]))
  refine own_by (fun _ kont => XT.sipushV X.here hx rfl (12289 : Int32) (hb hby d2_162) rfl kont) ?_
  show own_Go p e below _ (T.setTop (mkF m 165 #[.val (.int l0)] [(.int (12289 : Int32)), (.int l0)]))
  by_cases c165 : l0 < (12289 : Int32)
  · rw [if_pos c165]
    refine own_by (fun _ kont => XS.icmpYes X.here hx rfl (pc0 := 165) (pc' := 174) rfl (hb hby d2_165) rfl (XT.ii_lt_t c165) (by decide) (by decide) kont) ?_
    show own_Go p e below _ (T.setTop (mkF m 174 #[.val (.int l0)] []))
    exact w2_174 X hx hby hlk hret hZ hown hw hml N eT l0
  · rw [if_neg c165]
    refine own_by (fun _ kont => XS.icmpNo X.here hx rfl (hb hby d2_165) rfl (XT.ii_lt_f c165) kont) ?_
    show own_Go p e below _ (T.setTop (mkF m 168 #[.val (.int l0)] []))
    refine own_by (fun _ kont => XS.iloadN X.here hx rfl (hb hby d2_168) rfl kont) ?_
    show own_Go p e below _ (T.setTop (mkF m 169 #[.val (.int l0)] [(.int l0)]))
    refine own_by (fun _ kont => X.ldcI hx hown (v := (55295 : Int32)) (mvT hZ (hw _ (List.mem_of_getElem? (i := 21) rfl))) rfl (hb hby d2_169) kont) ?_
    show own_Go p e below _ (T.setTop (mkF m 171 #[.val (.int l0)] [(.int (55295 : Int32)), (.int l0)]))
    by_cases c171 : (55295 : Int32) < l0
    · rw [if_pos c171]
      refine own_by (fun _ kont => XS.icmpNo X.here hx rfl (hb hby d2_171) rfl (XT.ii_le_f c171) kont) ?_
      show own_Go p e below _ (T.setTop (mkF m 174 #[.val (.int l0)] []))
      exact w2_174 X hx hby hlk hret hZ hown hw hml N eT l0
    · rw [if_neg c171]
      refine own_by (fun _ kont => XS.icmpYes X.here hx rfl (pc0 := 171) (pc' := 210) rfl (hb hby d2_171) rfl (XT.ii_le_t c171) (by decide) (by decide) kont) ?_
      show own_Go p e below _ (T.setTop (mkF m 210 #[.val (.int l0)] []))
      exact w2_210 X hx hby hlk hret hZ hown hw hml N eT l0
def f2_147 (l0 : Int32) : Int32 := (if l0 < (11264 : Int32) then (f2_161 l0) else (if (12271 : Int32) < l0 then (f2_161 l0) else (f2_210 l0)))
set_option maxRecDepth 65536 in
set_option maxHeartbeats 4000000 in
theorem w2_147 {p : Program} {l : Launch} {e : Env} {s : State} {m : MethodId} {args : Array Value} {below : List Frame} {meth : Method} {c : Code} {T : State} {locs : List Loc} {Z : State} {a0 : Array Value} {n0 : Nat} {h0 : Heap} (X : Stand p l e ({ frames := 0, cells := 0, slots := 0, locals := 0 } : Room) s m args below meth c T locs 0 0) (hx : p.tables.exec = Jvm.exec) (hby : c.code = prog_29_method_8_code) (hlk : meth.locks = false) (hret : meth.sig.returnType = some .boolean) (hZ : Z.Warmed39 s.vm) (hown : s.vm.findClass "com/example/penelope/penelope/XmlChars" = some m.cls) (hw : ∀ d ∈ tables_1, d.before a0 Z = true) (hml : c.maxLocals = 1) (N : Fr n0 locs) (eT : T.heap = h0) (l0 : Int32) :
    own_Go p e below (own_K s (own_Q (.int (f2_147 l0)) h0 n0) 0 0) (T.setTop (mkF m 147 #[.val (.int l0)] [])) := by
  unfold f2_147
  refine own_by (fun _ kont => XS.iloadN X.here hx rfl (hb hby d2_147) rfl kont) ?_
  show own_Go p e below _ (T.setTop (mkF m 148 #[.val (.int l0)] [(.int l0)]))
  refine own_by (fun _ kont => XT.sipushV X.here hx rfl (11264 : Int32) (hb hby d2_148) rfl kont) ?_
  show own_Go p e below _ (T.setTop (mkF m 151 #[.val (.int l0)] [(.int (11264 : Int32)), (.int l0)]))
  by_cases c151 : l0 < (11264 : Int32)
  · rw [if_pos c151]
    refine own_by (fun _ kont => XS.icmpYes X.here hx rfl (pc0 := 151) (pc' := 161) rfl (hb hby d2_151) rfl (XT.ii_lt_t c151) (by decide) (by decide) kont) ?_
    show own_Go p e below _ (T.setTop (mkF m 161 #[.val (.int l0)] []))
    exact w2_161 X hx hby hlk hret hZ hown hw hml N eT l0
  · rw [if_neg c151]
    refine own_by (fun _ kont => XS.icmpNo X.here hx rfl (hb hby d2_151) rfl (XT.ii_lt_f c151) kont) ?_
    show own_Go p e below _ (T.setTop (mkF m 154 #[.val (.int l0)] []))
    refine own_by (fun _ kont => XS.iloadN X.here hx rfl (hb hby d2_154) rfl kont) ?_
    show own_Go p e below _ (T.setTop (mkF m 155 #[.val (.int l0)] [(.int l0)]))
    refine own_by (fun _ kont => XT.sipushV X.here hx rfl (12271 : Int32) (hb hby d2_155) rfl kont) ?_
    show own_Go p e below _ (T.setTop (mkF m 158 #[.val (.int l0)] [(.int (12271 : Int32)), (.int l0)]))
    by_cases c158 : (12271 : Int32) < l0
    · rw [if_pos c158]
      refine own_by (fun _ kont => XS.icmpNo X.here hx rfl (hb hby d2_158) rfl (XT.ii_le_f c158) kont) ?_
      show own_Go p e below _ (T.setTop (mkF m 161 #[.val (.int l0)] []))
      exact w2_161 X hx hby hlk hret hZ hown hw hml N eT l0
    · rw [if_neg c158]
      refine own_by (fun _ kont => XS.icmpYes X.here hx rfl (pc0 := 158) (pc' := 210) rfl (hb hby d2_158) rfl (XT.ii_le_t c158) (by decide) (by decide) kont) ?_
      show own_Go p e below _ (T.setTop (mkF m 210 #[.val (.int l0)] []))
      exact w2_210 X hx hby hlk hret hZ hown hw hml N eT l0
def f2_133 (l0 : Int32) : Int32 := (if l0 < (8304 : Int32) then (f2_147 l0) else (if (8591 : Int32) < l0 then (f2_147 l0) else (f2_210 l0)))
set_option maxRecDepth 65536 in
set_option maxHeartbeats 4000000 in
theorem w2_133 {p : Program} {l : Launch} {e : Env} {s : State} {m : MethodId} {args : Array Value} {below : List Frame} {meth : Method} {c : Code} {T : State} {locs : List Loc} {Z : State} {a0 : Array Value} {n0 : Nat} {h0 : Heap} (X : Stand p l e ({ frames := 0, cells := 0, slots := 0, locals := 0 } : Room) s m args below meth c T locs 0 0) (hx : p.tables.exec = Jvm.exec) (hby : c.code = prog_29_method_8_code) (hlk : meth.locks = false) (hret : meth.sig.returnType = some .boolean) (hZ : Z.Warmed39 s.vm) (hown : s.vm.findClass "com/example/penelope/penelope/XmlChars" = some m.cls) (hw : ∀ d ∈ tables_1, d.before a0 Z = true) (hml : c.maxLocals = 1) (N : Fr n0 locs) (eT : T.heap = h0) (l0 : Int32) :
    own_Go p e below (own_K s (own_Q (.int (f2_133 l0)) h0 n0) 0 0) (T.setTop (mkF m 133 #[.val (.int l0)] [])) := by
  unfold f2_133
  refine own_by (fun _ kont => XS.iloadN X.here hx rfl (hb hby d2_133) rfl kont) ?_
  show own_Go p e below _ (T.setTop (mkF m 134 #[.val (.int l0)] [(.int l0)]))
  refine own_by (fun _ kont => XT.sipushV X.here hx rfl (8304 : Int32) (hb hby d2_134) rfl kont) ?_
  show own_Go p e below _ (T.setTop (mkF m 137 #[.val (.int l0)] [(.int (8304 : Int32)), (.int l0)]))
  by_cases c137 : l0 < (8304 : Int32)
  · rw [if_pos c137]
    refine own_by (fun _ kont => XS.icmpYes X.here hx rfl (pc0 := 137) (pc' := 147) rfl (hb hby d2_137) rfl (XT.ii_lt_t c137) (by decide) (by decide) kont) ?_
    show own_Go p e below _ (T.setTop (mkF m 147 #[.val (.int l0)] []))
    exact w2_147 X hx hby hlk hret hZ hown hw hml N eT l0
  · rw [if_neg c137]
    refine own_by (fun _ kont => XS.icmpNo X.here hx rfl (hb hby d2_137) rfl (XT.ii_lt_f c137) kont) ?_
    show own_Go p e below _ (T.setTop (mkF m 140 #[.val (.int l0)] []))
    refine own_by (fun _ kont => XS.iloadN X.here hx rfl (hb hby d2_140) rfl kont) ?_
    show own_Go p e below _ (T.setTop (mkF m 141 #[.val (.int l0)] [(.int l0)]))
    refine own_by (fun _ kont => XT.sipushV X.here hx rfl (8591 : Int32) (hb hby d2_141) rfl kont) ?_
    show own_Go p e below _ (T.setTop (mkF m 144 #[.val (.int l0)] [(.int (8591 : Int32)), (.int l0)]))
    by_cases c144 : (8591 : Int32) < l0
    · rw [if_pos c144]
      refine own_by (fun _ kont => XS.icmpNo X.here hx rfl (hb hby d2_144) rfl (XT.ii_le_f c144) kont) ?_
      show own_Go p e below _ (T.setTop (mkF m 147 #[.val (.int l0)] []))
      exact w2_147 X hx hby hlk hret hZ hown hw hml N eT l0
    · rw [if_neg c144]
      refine own_by (fun _ kont => XS.icmpYes X.here hx rfl (pc0 := 144) (pc' := 210) rfl (hb hby d2_144) rfl (XT.ii_le_t c144) (by decide) (by decide) kont) ?_
      show own_Go p e below _ (T.setTop (mkF m 210 #[.val (.int l0)] []))
      exact w2_210 X hx hby hlk hret hZ hown hw hml N eT l0
def f2_119 (l0 : Int32) : Int32 := (if l0 < (8204 : Int32) then (f2_133 l0) else (if (8205 : Int32) < l0 then (f2_133 l0) else (f2_210 l0)))
set_option maxRecDepth 65536 in
set_option maxHeartbeats 4000000 in
theorem w2_119 {p : Program} {l : Launch} {e : Env} {s : State} {m : MethodId} {args : Array Value} {below : List Frame} {meth : Method} {c : Code} {T : State} {locs : List Loc} {Z : State} {a0 : Array Value} {n0 : Nat} {h0 : Heap} (X : Stand p l e ({ frames := 0, cells := 0, slots := 0, locals := 0 } : Room) s m args below meth c T locs 0 0) (hx : p.tables.exec = Jvm.exec) (hby : c.code = prog_29_method_8_code) (hlk : meth.locks = false) (hret : meth.sig.returnType = some .boolean) (hZ : Z.Warmed39 s.vm) (hown : s.vm.findClass "com/example/penelope/penelope/XmlChars" = some m.cls) (hw : ∀ d ∈ tables_1, d.before a0 Z = true) (hml : c.maxLocals = 1) (N : Fr n0 locs) (eT : T.heap = h0) (l0 : Int32) :
    own_Go p e below (own_K s (own_Q (.int (f2_119 l0)) h0 n0) 0 0) (T.setTop (mkF m 119 #[.val (.int l0)] [])) := by
  unfold f2_119
  refine own_by (fun _ kont => XS.iloadN X.here hx rfl (hb hby d2_119) rfl kont) ?_
  show own_Go p e below _ (T.setTop (mkF m 120 #[.val (.int l0)] [(.int l0)]))
  refine own_by (fun _ kont => XT.sipushV X.here hx rfl (8204 : Int32) (hb hby d2_120) rfl kont) ?_
  show own_Go p e below _ (T.setTop (mkF m 123 #[.val (.int l0)] [(.int (8204 : Int32)), (.int l0)]))
  by_cases c123 : l0 < (8204 : Int32)
  · rw [if_pos c123]
    refine own_by (fun _ kont => XS.icmpYes X.here hx rfl (pc0 := 123) (pc' := 133) rfl (hb hby d2_123) rfl (XT.ii_lt_t c123) (by decide) (by decide) kont) ?_
    show own_Go p e below _ (T.setTop (mkF m 133 #[.val (.int l0)] []))
    exact w2_133 X hx hby hlk hret hZ hown hw hml N eT l0
  · rw [if_neg c123]
    refine own_by (fun _ kont => XS.icmpNo X.here hx rfl (hb hby d2_123) rfl (XT.ii_lt_f c123) kont) ?_
    show own_Go p e below _ (T.setTop (mkF m 126 #[.val (.int l0)] []))
    refine own_by (fun _ kont => XS.iloadN X.here hx rfl (hb hby d2_126) rfl kont) ?_
    show own_Go p e below _ (T.setTop (mkF m 127 #[.val (.int l0)] [(.int l0)]))
    refine own_by (fun _ kont => XT.sipushV X.here hx rfl (8205 : Int32) (hb hby d2_127) rfl kont) ?_
    show own_Go p e below _ (T.setTop (mkF m 130 #[.val (.int l0)] [(.int (8205 : Int32)), (.int l0)]))
    by_cases c130 : (8205 : Int32) < l0
    · rw [if_pos c130]
      refine own_by (fun _ kont => XS.icmpNo X.here hx rfl (hb hby d2_130) rfl (XT.ii_le_f c130) kont) ?_
      show own_Go p e below _ (T.setTop (mkF m 133 #[.val (.int l0)] []))
      exact w2_133 X hx hby hlk hret hZ hown hw hml N eT l0
    · rw [if_neg c130]
      refine own_by (fun _ kont => XS.icmpYes X.here hx rfl (pc0 := 130) (pc' := 210) rfl (hb hby d2_130) rfl (XT.ii_le_t c130) (by decide) (by decide) kont) ?_
      show own_Go p e below _ (T.setTop (mkF m 210 #[.val (.int l0)] []))
      exact w2_210 X hx hby hlk hret hZ hown hw hml N eT l0
def f2_105 (l0 : Int32) : Int32 := (if l0 < (895 : Int32) then (f2_119 l0) else (if (8191 : Int32) < l0 then (f2_119 l0) else (f2_210 l0)))
set_option maxRecDepth 65536 in
set_option maxHeartbeats 4000000 in
theorem w2_105 {p : Program} {l : Launch} {e : Env} {s : State} {m : MethodId} {args : Array Value} {below : List Frame} {meth : Method} {c : Code} {T : State} {locs : List Loc} {Z : State} {a0 : Array Value} {n0 : Nat} {h0 : Heap} (X : Stand p l e ({ frames := 0, cells := 0, slots := 0, locals := 0 } : Room) s m args below meth c T locs 0 0) (hx : p.tables.exec = Jvm.exec) (hby : c.code = prog_29_method_8_code) (hlk : meth.locks = false) (hret : meth.sig.returnType = some .boolean) (hZ : Z.Warmed39 s.vm) (hown : s.vm.findClass "com/example/penelope/penelope/XmlChars" = some m.cls) (hw : ∀ d ∈ tables_1, d.before a0 Z = true) (hml : c.maxLocals = 1) (N : Fr n0 locs) (eT : T.heap = h0) (l0 : Int32) :
    own_Go p e below (own_K s (own_Q (.int (f2_105 l0)) h0 n0) 0 0) (T.setTop (mkF m 105 #[.val (.int l0)] [])) := by
  unfold f2_105
  refine own_by (fun _ kont => XS.iloadN X.here hx rfl (hb hby d2_105) rfl kont) ?_
  show own_Go p e below _ (T.setTop (mkF m 106 #[.val (.int l0)] [(.int l0)]))
  refine own_by (fun _ kont => XT.sipushV X.here hx rfl (895 : Int32) (hb hby d2_106) rfl kont) ?_
  show own_Go p e below _ (T.setTop (mkF m 109 #[.val (.int l0)] [(.int (895 : Int32)), (.int l0)]))
  by_cases c109 : l0 < (895 : Int32)
  · rw [if_pos c109]
    refine own_by (fun _ kont => XS.icmpYes X.here hx rfl (pc0 := 109) (pc' := 119) rfl (hb hby d2_109) rfl (XT.ii_lt_t c109) (by decide) (by decide) kont) ?_
    show own_Go p e below _ (T.setTop (mkF m 119 #[.val (.int l0)] []))
    exact w2_119 X hx hby hlk hret hZ hown hw hml N eT l0
  · rw [if_neg c109]
    refine own_by (fun _ kont => XS.icmpNo X.here hx rfl (hb hby d2_109) rfl (XT.ii_lt_f c109) kont) ?_
    show own_Go p e below _ (T.setTop (mkF m 112 #[.val (.int l0)] []))
    refine own_by (fun _ kont => XS.iloadN X.here hx rfl (hb hby d2_112) rfl kont) ?_
    show own_Go p e below _ (T.setTop (mkF m 113 #[.val (.int l0)] [(.int l0)]))
    refine own_by (fun _ kont => XT.sipushV X.here hx rfl (8191 : Int32) (hb hby d2_113) rfl kont) ?_
    show own_Go p e below _ (T.setTop (mkF m 116 #[.val (.int l0)] [(.int (8191 : Int32)), (.int l0)]))
    by_cases c116 : (8191 : Int32) < l0
    · rw [if_pos c116]
      refine own_by (fun _ kont => XS.icmpNo X.here hx rfl (hb hby d2_116) rfl (XT.ii_le_f c116) kont) ?_
      show own_Go p e below _ (T.setTop (mkF m 119 #[.val (.int l0)] []))
      exact w2_119 X hx hby hlk hret hZ hown hw hml N eT l0
    · rw [if_neg c116]
      refine own_by (fun _ kont => XS.icmpYes X.here hx rfl (pc0 := 116) (pc' := 210) rfl (hb hby d2_116) rfl (XT.ii_le_t c116) (by decide) (by decide) kont) ?_
      show own_Go p e below _ (T.setTop (mkF m 210 #[.val (.int l0)] []))
      exact w2_210 X hx hby hlk hret hZ hown hw hml N eT l0
def f2_91 (l0 : Int32) : Int32 := (if l0 < (880 : Int32) then (f2_105 l0) else (if (893 : Int32) < l0 then (f2_105 l0) else (f2_210 l0)))
set_option maxRecDepth 65536 in
set_option maxHeartbeats 4000000 in
theorem w2_91 {p : Program} {l : Launch} {e : Env} {s : State} {m : MethodId} {args : Array Value} {below : List Frame} {meth : Method} {c : Code} {T : State} {locs : List Loc} {Z : State} {a0 : Array Value} {n0 : Nat} {h0 : Heap} (X : Stand p l e ({ frames := 0, cells := 0, slots := 0, locals := 0 } : Room) s m args below meth c T locs 0 0) (hx : p.tables.exec = Jvm.exec) (hby : c.code = prog_29_method_8_code) (hlk : meth.locks = false) (hret : meth.sig.returnType = some .boolean) (hZ : Z.Warmed39 s.vm) (hown : s.vm.findClass "com/example/penelope/penelope/XmlChars" = some m.cls) (hw : ∀ d ∈ tables_1, d.before a0 Z = true) (hml : c.maxLocals = 1) (N : Fr n0 locs) (eT : T.heap = h0) (l0 : Int32) :
    own_Go p e below (own_K s (own_Q (.int (f2_91 l0)) h0 n0) 0 0) (T.setTop (mkF m 91 #[.val (.int l0)] [])) := by
  unfold f2_91
  refine own_by (fun _ kont => XS.iloadN X.here hx rfl (hb hby d2_91) rfl kont) ?_
  show own_Go p e below _ (T.setTop (mkF m 92 #[.val (.int l0)] [(.int l0)]))
  refine own_by (fun _ kont => XT.sipushV X.here hx rfl (880 : Int32) (hb hby d2_92) rfl kont) ?_
  show own_Go p e below _ (T.setTop (mkF m 95 #[.val (.int l0)] [(.int (880 : Int32)), (.int l0)]))
  by_cases c95 : l0 < (880 : Int32)
  · rw [if_pos c95]
    refine own_by (fun _ kont => XS.icmpYes X.here hx rfl (pc0 := 95) (pc' := 105) rfl (hb hby d2_95) rfl (XT.ii_lt_t c95) (by decide) (by decide) kont) ?_
    show own_Go p e below _ (T.setTop (mkF m 105 #[.val (.int l0)] []))
    exact w2_105 X hx hby hlk hret hZ hown hw hml N eT l0
  · rw [if_neg c95]
    refine own_by (fun _ kont => XS.icmpNo X.here hx rfl (hb hby d2_95) rfl (XT.ii_lt_f c95) kont) ?_
    show own_Go p e below _ (T.setTop (mkF m 98 #[.val (.int l0)] []))
    refine own_by (fun _ kont => XS.iloadN X.here hx rfl (hb hby d2_98) rfl kont) ?_
    show own_Go p e below _ (T.setTop (mkF m 99 #[.val (.int l0)] [(.int l0)]))
    refine own_by (fun _ kont => XT.sipushV X.here hx rfl (893 : Int32) (hb hby d2_99) rfl kont) ?_
    show own_Go p e below _ (T.setTop (mkF m 102 #[.val (.int l0)] [(.int (893 : Int32)), (.int l0)]))
    by_cases c102 : (893 : Int32) < l0
    · rw [if_pos c102]
      refine own_by (fun _ kont => XS.icmpNo X.here hx rfl (hb hby d2_102) rfl (XT.ii_le_f c102) kont) ?_
      show own_Go p e below _ (T.setTop (mkF m 105 #[.val (.int l0)] []))
      exact w2_105 X hx hby hlk hret hZ hown hw hml N eT l0
    · rw [if_neg c102]
      refine own_by (fun _ kont => XS.icmpYes X.here hx rfl (pc0 := 102) (pc' := 210) rfl (hb hby d2_102) rfl (XT.ii_le_t c102) (by decide) (by decide) kont) ?_
      show own_Go p e below _ (T.setTop (mkF m 210 #[.val (.int l0)] []))
      exact w2_210 X hx hby hlk hret hZ hown hw hml N eT l0
def f2_77 (l0 : Int32) : Int32 := (if l0 < (248 : Int32) then (f2_91 l0) else (if (767 : Int32) < l0 then (f2_91 l0) else (f2_210 l0)))
set_option maxRecDepth 65536 in
set_option maxHeartbeats 4000000 in
theorem w2_77 {p : Program} {l : Launch} {e : Env} {s : State} {m : MethodId} {args : Array Value} {below : List Frame} {meth : Method} {c : Code} {T : State} {locs : List Loc} {Z : State} {a0 : Array Value} {n0 : Nat} {h0 : Heap} (X : Stand p l e ({ frames := 0, cells := 0, slots := 0, locals := 0 } : Room) s m args below meth c T locs 0 0) (hx : p.tables.exec = Jvm.exec) (hby : c.code = prog_29_method_8_code) (hlk : meth.locks = false) (hret : meth.sig.returnType = some .boolean) (hZ : Z.Warmed39 s.vm) (hown : s.vm.findClass "com/example/penelope/penelope/XmlChars" = some m.cls) (hw : ∀ d ∈ tables_1, d.before a0 Z = true) (hml : c.maxLocals = 1) (N : Fr n0 locs) (eT : T.heap = h0) (l0 : Int32) :
    own_Go p e below (own_K s (own_Q (.int (f2_77 l0)) h0 n0) 0 0) (T.setTop (mkF m 77 #[.val (.int l0)] [])) := by
  unfold f2_77
  refine own_by (fun _ kont => XS.iloadN X.here hx rfl (hb hby d2_77) rfl kont) ?_
  show own_Go p e below _ (T.setTop (mkF m 78 #[.val (.int l0)] [(.int l0)]))
  refine own_by (fun _ kont => XT.sipushV X.here hx rfl (248 : Int32) (hb hby d2_78) rfl kont) ?_
  show own_Go p e below _ (T.setTop (mkF m 81 #[.val (.int l0)] [(.int (248 : Int32)), (.int l0)]))
  by_cases c81 : l0 < (248 : Int32)
  · rw [if_pos c81]
    refine own_by (fun _ kont => XS.icmpYes X.here hx rfl (pc0 := 81) (pc' := 91) rfl (hb hby d2_81) rfl (XT.ii_lt_t c81) (by decide) (by decide) kont) ?_
    show own_Go p e below _ (T.setTop (mkF m 91 #[.val (.int l0)] []))
    exact w2_91 X hx hby hlk hret hZ hown hw hml N eT l0
  · rw [if_neg c81]
    refine own_by (fun _ kont => XS.icmpNo X.here hx rfl (hb hby d2_81) rfl (XT.ii_lt_f c81) kont) ?_
    show own_Go p e below _ (T.setTop (mkF m 84 #[.val (.int l0)] []))
    refine own_by (fun _ kont => XS.iloadN X.here hx rfl (hb hby d2_84) rfl kont) ?_
    show own_Go p e below _ (T.setTop (mkF m 85 #[.val (.int l0)] [(.int l0)]))
    refine own_by (fun _ kont => XT.sipushV X.here hx rfl (767 : Int32) (hb hby d2_85) rfl kont) ?_
    show own_Go p e below _ (T.setTop (mkF m 88 #[.val (.int l0)] [(.int (767 : Int32)), (.int l0)]))
    by_cases c88 : (767 : Int32) < l0
    · rw [if_pos c88]
      refine own_by (fun _ kont => XS.icmpNo X.here hx rfl (hb hby d2_88) rfl (XT.ii_le_f c88) kont) ?_
      show own_Go p e below _ (T.setTop (mkF m 91 #[.val (.int l0)] []))
      exact w2_91 X hx hby hlk hret hZ hown hw hml N eT l0
    · rw [if_neg c88]
      refine own_by (fun _ kont => XS.icmpYes X.here hx rfl (pc0 := 88) (pc' := 210) rfl (hb hby d2_88) rfl (XT.ii_le_t c88) (by decide) (by decide) kont) ?_
      show own_Go p e below _ (T.setTop (mkF m 210 #[.val (.int l0)] []))
      exact w2_210 X hx hby hlk hret hZ hown hw hml N eT l0
def f2_63 (l0 : Int32) : Int32 := (if l0 < (216 : Int32) then (f2_77 l0) else (if (246 : Int32) < l0 then (f2_77 l0) else (f2_210 l0)))
set_option maxRecDepth 65536 in
set_option maxHeartbeats 4000000 in
theorem w2_63 {p : Program} {l : Launch} {e : Env} {s : State} {m : MethodId} {args : Array Value} {below : List Frame} {meth : Method} {c : Code} {T : State} {locs : List Loc} {Z : State} {a0 : Array Value} {n0 : Nat} {h0 : Heap} (X : Stand p l e ({ frames := 0, cells := 0, slots := 0, locals := 0 } : Room) s m args below meth c T locs 0 0) (hx : p.tables.exec = Jvm.exec) (hby : c.code = prog_29_method_8_code) (hlk : meth.locks = false) (hret : meth.sig.returnType = some .boolean) (hZ : Z.Warmed39 s.vm) (hown : s.vm.findClass "com/example/penelope/penelope/XmlChars" = some m.cls) (hw : ∀ d ∈ tables_1, d.before a0 Z = true) (hml : c.maxLocals = 1) (N : Fr n0 locs) (eT : T.heap = h0) (l0 : Int32) :
    own_Go p e below (own_K s (own_Q (.int (f2_63 l0)) h0 n0) 0 0) (T.setTop (mkF m 63 #[.val (.int l0)] [])) := by
  unfold f2_63
  refine own_by (fun _ kont => XS.iloadN X.here hx rfl (hb hby d2_63) rfl kont) ?_
  show own_Go p e below _ (T.setTop (mkF m 64 #[.val (.int l0)] [(.int l0)]))
  refine own_by (fun _ kont => XT.sipushV X.here hx rfl (216 : Int32) (hb hby d2_64) rfl kont) ?_
  show own_Go p e below _ (T.setTop (mkF m 67 #[.val (.int l0)] [(.int (216 : Int32)), (.int l0)]))
  by_cases c67 : l0 < (216 : Int32)
  · rw [if_pos c67]
    refine own_by (fun _ kont => XS.icmpYes X.here hx rfl (pc0 := 67) (pc' := 77) rfl (hb hby d2_67) rfl (XT.ii_lt_t c67) (by decide) (by decide) kont) ?_
    show own_Go p e below _ (T.setTop (mkF m 77 #[.val (.int l0)] []))
    exact w2_77 X hx hby hlk hret hZ hown hw hml N eT l0
  · rw [if_neg c67]
    refine own_by (fun _ kont => XS.icmpNo X.here hx rfl (hb hby d2_67) rfl (XT.ii_lt_f c67) kont) ?_
    show own_Go p e below _ (T.setTop (mkF m 70 #[.val (.int l0)] []))
    refine own_by (fun _ kont => XS.iloadN X.here hx rfl (hb hby d2_70) rfl kont) ?_
    show own_Go p e below _ (T.setTop (mkF m 71 #[.val (.int l0)] [(.int l0)]))
    refine own_by (fun _ kont => XT.sipushV X.here hx rfl (246 : Int32) (hb hby d2_71) rfl kont) ?_
    show own_Go p e below _ (T.setTop (mkF m 74 #[.val (.int l0)] [(.int (246 : Int32)), (.int l0)]))
    by_cases c74 : (246 : Int32) < l0
    · rw [if_pos c74]
      refine own_by (fun _ kont => XS.icmpNo X.here hx rfl (hb hby d2_74) rfl (XT.ii_le_f c74) kont) ?_
      show own_Go p e below _ (T.setTop (mkF m 77 #[.val (.int l0)] []))
      exact w2_77 X hx hby hlk hret hZ hown hw hml N eT l0
    · rw [if_neg c74]
      refine own_by (fun _ kont => XS.icmpYes X.here hx rfl (pc0 := 74) (pc' := 210) rfl (hb hby d2_74) rfl (XT.ii_le_t c74) (by decide) (by decide) kont) ?_
      show own_Go p e below _ (T.setTop (mkF m 210 #[.val (.int l0)] []))
      exact w2_210 X hx hby hlk hret hZ hown hw hml N eT l0
def f2_49 (l0 : Int32) : Int32 := (if l0 < (192 : Int32) then (f2_63 l0) else (if (214 : Int32) < l0 then (f2_63 l0) else (f2_210 l0)))
set_option maxRecDepth 65536 in
set_option maxHeartbeats 4000000 in
theorem w2_49 {p : Program} {l : Launch} {e : Env} {s : State} {m : MethodId} {args : Array Value} {below : List Frame} {meth : Method} {c : Code} {T : State} {locs : List Loc} {Z : State} {a0 : Array Value} {n0 : Nat} {h0 : Heap} (X : Stand p l e ({ frames := 0, cells := 0, slots := 0, locals := 0 } : Room) s m args below meth c T locs 0 0) (hx : p.tables.exec = Jvm.exec) (hby : c.code = prog_29_method_8_code) (hlk : meth.locks = false) (hret : meth.sig.returnType = some .boolean) (hZ : Z.Warmed39 s.vm) (hown : s.vm.findClass "com/example/penelope/penelope/XmlChars" = some m.cls) (hw : ∀ d ∈ tables_1, d.before a0 Z = true) (hml : c.maxLocals = 1) (N : Fr n0 locs) (eT : T.heap = h0) (l0 : Int32) :
    own_Go p e below (own_K s (own_Q (.int (f2_49 l0)) h0 n0) 0 0) (T.setTop (mkF m 49 #[.val (.int l0)] [])) := by
  unfold f2_49
  refine own_by (fun _ kont => XS.iloadN X.here hx rfl (hb hby d2_49) rfl kont) ?_
  show own_Go p e below _ (T.setTop (mkF m 50 #[.val (.int l0)] [(.int l0)]))
  refine own_by (fun _ kont => XT.sipushV X.here hx rfl (192 : Int32) (hb hby d2_50) rfl kont) ?_
  show own_Go p e below _ (T.setTop (mkF m 53 #[.val (.int l0)] [(.int (192 : Int32)), (.int l0)]))
  by_cases c53 : l0 < (192 : Int32)
  · rw [if_pos c53]
    refine own_by (fun _ kont => XS.icmpYes X.here hx rfl (pc0 := 53) (pc' := 63) rfl (hb hby d2_53) rfl (XT.ii_lt_t c53) (by decide) (by decide) kont) ?_
    show own_Go p e below _ (T.setTop (mkF m 63 #[.val (.int l0)] []))
    exact w2_63 X hx hby hlk hret hZ hown hw hml N eT l0
  · rw [if_neg c53]
    refine own_by (fun _ kont => XS.icmpNo X.here hx rfl (hb hby d2_53) rfl (XT.ii_lt_f c53) kont) ?_
    show own_Go p e below _ (T.setTop (mkF m 56 #[.val (.int l0)] []))
    refine own_by (fun _ kont => XS.iloadN X.here hx rfl (hb hby d2_56) rfl kont) ?_
    show own_Go p e below _ (T.setTop (mkF m 57 #[.val (.int l0)] [(.int l0)]))
    refine own_by (fun _ kont => XT.sipushV X.here hx rfl (214 : Int32) (hb hby d2_57) rfl kont) ?_
    show own_Go p e below _ (T.setTop (mkF m 60 #[.val (.int l0)] [(.int (214 : Int32)), (.int l0)]))
    by_cases c60 : (214 : Int32) < l0
    · rw [if_pos c60]
      refine own_by (fun _ kont => XS.icmpNo X.here hx rfl (hb hby d2_60) rfl (XT.ii_le_f c60) kont) ?_
      show own_Go p e below _ (T.setTop (mkF m 63 #[.val (.int l0)] []))
      exact w2_63 X hx hby hlk hret hZ hown hw hml N eT l0
    · rw [if_neg c60]
      refine own_by (fun _ kont => XS.icmpYes X.here hx rfl (pc0 := 60) (pc' := 210) rfl (hb hby d2_60) rfl (XT.ii_le_t c60) (by decide) (by decide) kont) ?_
      show own_Go p e below _ (T.setTop (mkF m 210 #[.val (.int l0)] []))
      exact w2_210 X hx hby hlk hret hZ hown hw hml N eT l0
def f2_47 (l0 : Int32) : Int32 := (0 : Int32)
set_option maxRecDepth 65536 in
set_option maxHeartbeats 4000000 in
theorem w2_47 {p : Program} {l : Launch} {e : Env} {s : State} {m : MethodId} {args : Array Value} {below : List Frame} {meth : Method} {c : Code} {T : State} {locs : List Loc} {Z : State} {a0 : Array Value} {n0 : Nat} {h0 : Heap} (X : Stand p l e ({ frames := 0, cells := 0, slots := 0, locals := 0 } : Room) s m args below meth c T locs 0 0) (hx : p.tables.exec = Jvm.exec) (hby : c.code = prog_29_method_8_code) (hlk : meth.locks = false) (hret : meth.sig.returnType = some .boolean) (hZ : Z.Warmed39 s.vm) (hown : s.vm.findClass "com/example/penelope/penelope/XmlChars" = some m.cls) (hw : ∀ d ∈ tables_1, d.before a0 Z = true) (hml : c.maxLocals = 1) (N : Fr n0 locs) (eT : T.heap = h0) (l0 : Int32) :
    own_Go p e below (own_K s (own_Q (.int (f2_47 l0)) h0 n0) 0 0) (T.setTop (mkF m 47 #[.val (.int l0)] [])) := by
  unfold f2_47
  refine own_by (fun _ kont => XT.iconstV X.here hx rfl (0 : Int32) (hb hby d2_47) rfl kont) ?_
  show own_Go p e below _ (T.setTop (mkF m 48 #[.val (.int l0)] [(.int (0 : Int32))]))
  exact own_ret X hx hlk hret rfl (Or.inl ⟨rfl, by simp, _, rfl⟩) (hb hby d2_48) ⟨rfl, N, eT⟩ (Nat.le_refl _) (Nat.le_refl _)
def f2_43 (l0 : Int32) : Int32 := (1 : Int32)
set_option maxRecDepth 65536 in
set_option maxHeartbeats 4000000 in
theorem w2_43 {p : Program} {l : Launch} {e : Env} {s : State} {m : MethodId} {args : Array Value} {below : List Frame} {meth : Method} {c : Code} {T : State} {locs : List Loc} {Z : State} {a0 : Array Value} {n0 : Nat} {h0 : Heap} (X : Stand p l e ({ frames := 0, cells := 0, slots := 0, locals := 0 } : Room) s m args below meth c T locs 0 0) (hx : p.tables.exec = Jvm.exec) (hby : c.code = prog_29_method_8_code) (hlk : meth.locks = false) (hret : meth.sig.returnType = some .boolean) (hZ : Z.Warmed39 s.vm) (hown : s.vm.findClass "com/example/penelope/penelope/XmlChars" = some m.cls) (hw : ∀ d ∈ tables_1, d.before a0 Z = true) (hml : c.maxLocals = 1) (N : Fr n0 locs) (eT : T.heap = h0) (l0 : Int32) :
    own_Go p e below (own_K s (own_Q (.int (f2_43 l0)) h0 n0) 0 0) (T.setTop (mkF m 43 #[.val (.int l0)] [])) := by
  unfold f2_43
  refine own_by (fun _ kont => XT.iconstV X.here hx rfl (1 : Int32) (hb hby d2_43) rfl kont) ?_
  show own_Go p e below _ (T.setTop (mkF m 44 #[.val (.int l0)] [(.int (1 : Int32))]))
  refine own_by (fun _ kont => XS.goto X.here hx rfl (pc0 := 44) (pc' := 48) rfl (hb hby d2_44) (by decide) (by decide) kont) ?_
  show own_Go p e below _ (T.setTop (mkF m 48 #[.val (.int l0)] [(.int (1 : Int32))]))
  exact own_ret X hx hlk hret rfl (Or.inl ⟨rfl, by simp, _, rfl⟩) (hb hby d2_48) ⟨rfl, N, eT⟩ (Nat.le_refl _) (Nat.le_refl _)
def f2_31 (l0 : Int32) : Int32 := (if l0 = (95 : Int32) then (f2_43 l0) else (if l0 = (58 : Int32) then (f2_43 l0) else (f2_47 l0)))
set_option maxRecDepth 65536 in
set_option maxHeartbeats 4000000 in
theorem w2_31 {p : Program} {l : Launch} {e : Env} {s : State} {m : MethodId} {args : Array Value} {below : List Frame} {meth : Method} {c : Code} {T : State} {locs : List Loc} {Z : State} {a0 : Array Value} {n0 : Nat} {h0 : Heap} (X : Stand p l e ({ frames := 0, cells := 0, slots := 0, locals := 0 } : Room) s m args below meth c T locs 0 0) (hx : p.tables.exec = Jvm.exec) (hby : c.code = prog_29_method_8_code) (hlk : meth.locks = false) (hret : meth.sig.returnType = some .boolean) (hZ : Z.Warmed39 s.vm) (hown : s.vm.findClass "com/example/penelope/penelope/XmlChars" = some m.cls) (hw : ∀ d ∈ tables_1, d.before a0 Z = true) (hml : c.maxLocals = 1) (N : Fr n0 locs) (eT : T.heap = h0) (l0 : Int32) :
    own_Go p e below (own_K s (own_Q (.int (f2_31 l0)) h0 n0) 0 0) (T.setTop (mkF m 31 #[.val (.int l0)] [])) := by
  unfold f2_31
  refine own_by (fun _ kont => XS.iloadN X.here hx rfl (hb hby d2_31) rfl kont) ?_
  show own_Go p e below _ (T.setTop (mkF m 32 #[.val (.int l0)] [(.int l0)]))
  refine own_by (fun _ kont => XT.bipushV X.here hx rfl (95 : Int32) (hb hby d2_32) rfl kont) ?_
  show own_Go p e below _ (T.setTop (mkF m 34 #[.val (.int l0)] [(.int (95 : Int32)), (.int l0)]))
  by_cases c34 : l0 = (95 : Int32)
  · rw [if_pos c34]
    refine own_by (fun _ kont => XS.icmpYes X.here hx rfl (pc0 := 34) (pc' := 43) rfl (hb hby d2_34) rfl (XT.ii_eq_t c34) (by decide) (by decide) kont) ?_
    show own_Go p e below _ (T.setTop (mkF m 43 #[.val (.int l0)] []))
    exact w2_43 X hx hby hlk hret hZ hown hw hml N eT l0
  · rw [if_neg c34]
    refine own_by (fun _ kont => XS.icmpNo X.here hx rfl (hb hby d2_34) rfl (XT.ii_eq_f c34) kont) ?_
    show own_Go p e below _ (T.setTop (mkF m 37 #[.val (.int l0)] []))
    refine own_by (fun _ kont => XS.iloadN X.here hx rfl (hb hby d2_37) rfl kont) ?_
    show own_Go p e below _ (T.setTop (mkF m 38 #[.val (.int l0)] [(.int l0)]))
    refine own_by (fun _ kont => XT.bipushV X.here hx rfl (58 : Int32) (hb hby d2_38) rfl kont) ?_
    show own_Go p e below _ (T.setTop (mkF m 40 #[.val (.int l0)] [(.int (58 : Int32)), (.int l0)]))
    by_cases c40 : l0 = (58 : Int32)
    · rw [if_pos c40]
      refine own_by (fun _ kont => XS.icmpNo X.here hx rfl (hb hby d2_40) rfl (XT.ii_ne_f c40) kont) ?_
      show own_Go p e below _ (T.setTop (mkF m 43 #[.val (.int l0)] []))
      exact w2_43 X hx hby hlk hret hZ hown hw hml N eT l0
    · rw [if_neg c40]
      refine own_by (fun _ kont => XS.icmpYes X.here hx rfl (pc0 := 40) (pc' := 47) rfl (hb hby d2_40) rfl (XT.ii_ne_t c40) (by decide) (by decide) kont) ?_
      show own_Go p e below _ (T.setTop (mkF m 47 #[.val (.int l0)] []))
      exact w2_47 X hx hby hlk hret hZ hown hw hml N eT l0
def f2_19 (l0 : Int32) : Int32 := (if l0 < (65 : Int32) then (f2_31 l0) else (if (90 : Int32) < l0 then (f2_31 l0) else (f2_43 l0)))
set_option maxRecDepth 65536 in
set_option maxHeartbeats 4000000 in
theorem w2_19 {p : Program} {l : Launch} {e : Env} {s : State} {m : MethodId} {args : Array Value} {below : List Frame} {meth : Method} {c : Code} {T : State} {locs : List Loc} {Z : State} {a0 : Array Value} {n0 : Nat} {h0 : Heap} (X : Stand p l e ({ frames := 0, cells := 0, slots := 0, locals := 0 } : Room) s m args below meth c T locs 0 0) (hx : p.tables.exec = Jvm.exec) (hby : c.code = prog_29_method_8_code) (hlk : meth.locks = false) (hret : meth.sig.returnType = some .boolean) (hZ : Z.Warmed39 s.vm) (hown : s.vm.findClass "com/example/penelope/penelope/XmlChars" = some m.cls) (hw : ∀ d ∈ tables_1, d.before a0 Z = true) (hml : c.maxLocals = 1) (N : Fr n0 locs) (eT : T.heap = h0) (l0 : Int32) :
    own_Go p e below (own_K s (own_Q (.int (f2_19 l0)) h0 n0) 0 0) (T.setTop (mkF m 19 #[.val (.int l0)] [])) := by
  unfold f2_19
  refine own_by (fun _ kont => XS.iloadN X.here hx rfl (hb hby d2_19) rfl kont) ?_
  show own_Go p e below _ (T.setTop (mkF m 20 #[.val (.int l0)] [(.int l0)]))
  refine own_by (fun _ kont => XT.bipushV X.here hx rfl (65 : Int32) (hb hby d2_20) rfl kont) ?_
  show own_Go p e below _ (T.setTop (mkF m 22 #[.val (.int l0)] [(.int (65 : Int32)), (.int l0)]))
  by_cases c22 : l0 < (65 : Int32)
  · rw [if_pos c22]
    refine own_by (fun _ kont => XS.icmpYes X.here hx rfl (pc0 := 22) (pc' := 31) rfl (hb hby d2_22) rfl (XT.ii_lt_t c22) (by decide) (by decide) kont) ?_
    show own_Go p e below _ (T.setTop (mkF m 31 #[.val (.int l0)] []))
    exact w2_31 X hx hby hlk hret hZ hown hw hml N eT l0
  · rw [if_neg c22]
    refine own_by (fun _ kont => XS.icmpNo X.here hx rfl (hb hby d2_22) rfl (XT.ii_lt_f c22) kont) ?_
    show own_Go p e below _ (T.setTop (mkF m 25 #[.val (.int l0)] []))
    refine own_by (fun _ kont => XS.iloadN X.here hx rfl (hb hby d2_25) rfl kont) ?_
    show own_Go p e below _ (T.setTop (mkF m 26 #[.val (.int l0)] [(.int l0)]))
    refine own_by (fun _ kont => XT.bipushV X.here hx rfl (90 : Int32) (hb hby d2_26) rfl kont) ?_
    show own_Go p e below _ (T.setTop (mkF m 28 #[.val (.int l0)] [(.int (90 : Int32)), (.int l0)]))
    by_cases c28 : (90 : Int32) < l0
    · rw [if_pos c28]
      refine own_by (fun _ kont => XS.icmpNo X.here hx rfl (hb hby d2_28) rfl (XT.ii_le_f c28) kont) ?_
      show own_Go p e below _ (T.setTop (mkF m 31 #[.val (.int l0)] []))
      exact w2_31 X hx hby hlk hret hZ hown hw hml N eT l0
    · rw [if_neg c28]
      refine own_by (fun _ kont => XS.icmpYes X.here hx rfl (pc0 := 28) (pc' := 43) rfl (hb hby d2_28) rfl (XT.ii_le_t c28) (by decide) (by decide) kont) ?_
      show own_Go p e below _ (T.setTop (mkF m 43 #[.val (.int l0)] []))
      exact w2_43 X hx hby hlk hret hZ hown hw hml N eT l0
def f2_0 (l0 : Int32) : Int32 := (if l0 < (128 : Int32) then (if l0 < (97 : Int32) then (f2_19 l0) else (if (122 : Int32) < l0 then (f2_19 l0) else (f2_43 l0))) else (f2_49 l0))
set_option maxRecDepth 65536 in
set_option maxHeartbeats 4000000 in
theorem w2_0 {p : Program} {l : Launch} {e : Env} {s : State} {m : MethodId} {args : Array Value} {below : List Frame} {meth : Method} {c : Code} {T : State} {locs : List Loc} {Z : State} {a0 : Array Value} {n0 : Nat} {h0 : Heap} (X : Stand p l e ({ frames := 0, cells := 0, slots := 0, locals := 0 } : Room) s m args below meth c T locs 0 0) (hx : p.tables.exec = Jvm.exec) (hby : c.code = prog_29_method_8_code) (hlk : meth.locks = false) (hret : meth.sig.returnType = some .boolean) (hZ : Z.Warmed39 s.vm) (hown : s.vm.findClass "com/example/penelope/penelope/XmlChars" = some m.cls) (hw : ∀ d ∈ tables_1, d.before a0 Z = true) (hml : c.maxLocals = 1) (N : Fr n0 locs) (eT : T.heap = h0) (l0 : Int32) :
    own_Go p e below (own_K s (own_Q (.int (f2_0 l0)) h0 n0) 0 0) (T.setTop (mkF m 0 #[.val (.int l0)] [])) := by
  unfold f2_0
  refine own_by (fun _ kont => XS.iloadN X.here hx rfl (hb hby d2_0) rfl kont) ?_
  show own_Go p e below _ (T.setTop (mkF m 1 #[.val (.int l0)] [(.int l0)]))
  refine own_by (fun _ kont => XT.sipushV X.here hx rfl (128 : Int32) (hb hby d2_1) rfl kont) ?_
  show own_Go p e below _ (T.setTop (mkF m 4 #[.val (.int l0)] [(.int (128 : Int32)), (.int l0)]))
  by_cases c4 : l0 < (128 : Int32)
  · rw [if_pos c4]
    refine own_by (fun _ kont => XS.icmpNo X.here hx rfl (hb hby d2_4) rfl (XT.ii_ge_f c4) kont) ?_
    show own_Go p e below _ (T.setTop (mkF m 7 #[.val (.int l0)] []))
    refine own_by (fun _ kont => XS.iloadN X.here hx rfl (hb hby d2_7) rfl kont) ?_
    show own_Go p e below _ (T.setTop (mkF m 8 #[.val (.int l0)] [(.int l0)]))
    refine own_by (fun _ kont => XT.bipushV X.here hx rfl (97 : Int32) (hb hby d2_8) rfl kont) ?_
    show own_Go p e below _ (T.setTop (mkF m 10 #[.val (.int l0)] [(.int (97 : Int32)), (.int l0)]))
    by_cases c10 : l0 < (97 : Int32)
    · rw [if_pos c10]
      refine own_by (fun _ kont => XS.icmpYes X.here hx rfl (pc0 := 10) (pc' := 19) rfl (hb hby d2_10) rfl (XT.ii_lt_t c10) (by decide) (by decide) kont) ?_
      show own_Go p e below _ (T.setTop (mkF m 19 #[.val (.int l0)] []))
      exact w2_19 X hx hby hlk hret hZ hown hw hml N eT l0
    · rw [if_neg c10]
      refine own_by (fun _ kont => XS.icmpNo X.here hx rfl (hb hby d2_10) rfl (XT.ii_lt_f c10) kont) ?_
      show own_Go p e below _ (T.setTop (mkF m 13 #[.val (.int l0)] []))
      refine own_by (fun _ kont => XS.iloadN X.here hx rfl (hb hby d2_13) rfl kont) ?_
      show own_Go p e below _ (T.setTop (mkF m 14 #[.val (.int l0)] [(.int l0)]))
      refine own_by (fun _ kont => XT.bipushV X.here hx rfl (122 : Int32) (hb hby d2_14) rfl kont) ?_
      show own_Go p e below _ (T.setTop (mkF m 16 #[.val (.int l0)] [(.int (122 : Int32)), (.int l0)]))
      by_cases c16 : (122 : Int32) < l0
      · rw [if_pos c16]
        refine own_by (fun _ kont => XS.icmpNo X.here hx rfl (hb hby d2_16) rfl (XT.ii_le_f c16) kont) ?_
        show own_Go p e below _ (T.setTop (mkF m 19 #[.val (.int l0)] []))
        exact w2_19 X hx hby hlk hret hZ hown hw hml N eT l0
      · rw [if_neg c16]
        refine own_by (fun _ kont => XS.icmpYes X.here hx rfl (pc0 := 16) (pc' := 43) rfl (hb hby d2_16) rfl (XT.ii_le_t c16) (by decide) (by decide) kont) ?_
        show own_Go p e below _ (T.setTop (mkF m 43 #[.val (.int l0)] []))
        exact w2_43 X hx hby hlk hret hZ hown hw hml N eT l0
  · rw [if_neg c4]
    refine own_by (fun _ kont => XS.icmpYes X.here hx rfl (pc0 := 4) (pc' := 49) rfl (hb hby d2_4) rfl (XT.ii_ge_t c4) (by decide) (by decide) kont) ?_
    show own_Go p e below _ (T.setTop (mkF m 49 #[.val (.int l0)] []))
    exact w2_49 X hx hby hlk hret hZ hown hw hml N eT l0
theorem own_ef2 (m : MethodId) (l0 : Int32) : entryFrame m #[(.int l0)] 1 = (mkF m 0 #[.val (.int l0)] []) := by first | (simp [entryFrame, mkF, argsToLocals, Value.category, maxLocals]; done) | rfl
set_option maxRecDepth 65536 in
set_option maxHeartbeats 4000000 in
theorem rm2 (l : Launch) (Z : State) (a0 : Array Value) (hw : ∀ d ∈ tables_1, d.before a0 Z = true) (ws : List Jvm.Cond) (l0 : Int32) (h0 : Heap) (n0 : Nat) :
    MetFree l (⟨"com/example/penelope/penelope/XmlChars", "isNameStartChar", "(I)Z"⟩ : MethodName) (head1 (Jvm.Cond.code (⟨"com/example/penelope/penelope/XmlChars", "isNameStartChar", "(I)Z"⟩ : MethodName) prog_29_method_8_code 1 (some .boolean) :: ws) ({ frames := 0, cells := 0, slots := 0, locals := 0 } : Room)) (fun a U => a = #[(.int l0)] ∧ Z.Warmed39 U.vm ∧ U.heap = h0) (fun _ _ _ _ _ => True) (fun _ U o U' => ∃ v L, o = .returned v ∧ own_Q (.int (f2_0 l0)) h0 n0 v U'.heap L ∧ FrameEnd U o U' L ({ frames := 0, cells := 0, slots := 0, locals := 0 } : Room).cells ({ frames := 0, cells := 0, slots := 0, locals := 0 } : Room).slots) := by
  refine MetFree.of_bodySF (plainFor_of_name own_pn0) hisR ?_
  intro p e s m args below meth c s₁ Bd hml0 hP hK
  obtain ⟨rfl, hZ, hh⟩ := hP
  have hx := Bd.exec
  have hby := Bd.bytes
  have hml : c.maxLocals = 1 := hml0
  have hown : s.vm.findClass "com/example/penelope/penelope/XmlChars" = some m.cls := findClass_of_methodNamed Bd.named
  have X0 : Stand p l e ({ frames := 0, cells := 0, slots := 0, locals := 0 } : Room) s m #[(.int l0)] below meth c s₁ [] 0 0 := Stand.of_body Bd
  have e0 : s₁.heap = h0 := by rw [← hh, Bd.state]; rfl
  have N0 := Fr.nil n0
  exact own_by (fun t k => castTop (own_ef2 m l0) k) (w2_0 X0 hx hby Bd.notSynchronized Bd.returns hZ hown hw hml N0 e0 l0)
theorem own_pn2 : plainName "com/example/penelope/penelope/XmlCharsIsNameStartCharPinLaw" = true := by first | (simp [plainName, overriddenIn]; done) | decide +kernel
theorem d1_0 : decode method_2_code 0 = .ok (.iload_n 0, 1) := by decide +kernel
theorem d1_1 : decode method_2_code 1 = .ok (.ifCond .lt 185, 3) := by decide +kernel
theorem d1_4 : decode method_2_code 4 = .ok (.iload_n 0, 1) := by decide +kernel
theorem d1_5 : decode method_2_code 5 = .ok (.ldc 7, 2) := by decide +kernel
theorem d1_7 : decode method_2_code 7 = .ok (.if_icmp .gt 179, 3) := by decide +kernel
theorem d1_10 : decode method_2_code 10 = .ok (.iload_n 0, 1) := by decide +kernel
theorem d1_11 : decode method_2_code 11 = .ok (.bipush 57, 2) := by decide +kernel
theorem d1_13 : decode method_2_code 13 = .ok (.if_icmp .le 173, 3) := by decide +kernel
theorem d1_16 : decode method_2_code 16 = .ok (.iload_n 0, 1) := by decide +kernel
theorem d1_17 : decode method_2_code 17 = .ok (.bipush 59, 2) := by decide +kernel
theorem d1_19 : decode method_2_code 19 = .ok (.if_icmp .lt 9, 3) := by decide +kernel
theorem d1_22 : decode method_2_code 22 = .ok (.iload_n 0, 1) := by decide +kernel
theorem d1_23 : decode method_2_code 23 = .ok (.bipush 64, 2) := by decide +kernel
theorem d1_25 : decode method_2_code 25 = .ok (.if_icmp .le 161, 3) := by decide +kernel
theorem d1_28 : decode method_2_code 28 = .ok (.iload_n 0, 1) := by decide +kernel
theorem d1_29 : decode method_2_code 29 = .ok (.bipush 91, 2) := by decide +kernel
theorem d1_31 : decode method_2_code 31 = .ok (.if_icmp .lt 9, 3) := by decide +kernel
theorem d1_34 : decode method_2_code 34 = .ok (.iload_n 0, 1) := by decide +kernel
theorem d1_35 : decode method_2_code 35 = .ok (.bipush 94, 2) := by decide +kernel
theorem d1_37 : decode method_2_code 37 = .ok (.if_icmp .le 149, 3) := by decide +kernel
theorem d1_40 : decode method_2_code 40 = .ok (.iload_n 0, 1) := by decide +kernel
theorem d1_41 : decode method_2_code 41 = .ok (.bipush 96, 2) := by decide +kernel
theorem d1_43 : decode method_2_code 43 = .ok (.if_icmp .eq 143, 3) := by decide +kernel
theorem d1_46 : decode method_2_code 46 = .ok (.iload_n 0, 1) := by decide +kernel
theorem d1_47 : decode method_2_code 47 = .ok (.bipush 123, 2) := by decide +kernel
theorem d1_49 : decode method_2_code 49 = .ok (.if_icmp .lt 10, 3) := by decide +kernel
theorem d1_52 : decode method_2_code 52 = .ok (.iload_n 0, 1) := by decide +kernel
theorem d1_53 : decode method_2_code 53 = .ok (.sipush 191, 3) := by decide +kernel
theorem d1_56 : decode method_2_code 56 = .ok (.if_icmp .le 130, 3) := by decide +kernel
theorem d1_59 : decode method_2_code 59 = .ok (.iload_n 0, 1) := by decide +kernel
theorem d1_60 : decode method_2_code 60 = .ok (.sipush 215, 3) := by decide +kernel
theorem d1_63 : decode method_2_code 63 = .ok (.if_icmp .eq 123, 3) := by decide +kernel
theorem d1_66 : decode method_2_code 66 = .ok (.iload_n 0, 1) := by decide +kernel
theorem d1_67 : decode method_2_code 67 = .ok (.sipush 247, 3) := by decide +kernel
theorem d1_70 : decode method_2_code 70 = .ok (.if_icmp .eq 116, 3) := by decide +kernel
theorem d1_73 : decode method_2_code 73 = .ok (.iload_n 0, 1) := by decide +kernel
theorem d1_74 : decode method_2_code 74 = .ok (.sipush 768, 3) := by decide +kernel
theorem d1_77 : decode method_2_code 77 = .ok (.if_icmp .lt 10, 3) := by decide +kernel
theorem d1_80 : decode method_2_code 80 = .ok (.iload_n 0, 1) := by decide +kernel
theorem d1_81 : decode method_2_code 81 = .ok (.sipush 879, 3) := by decide +kernel
theorem d1_84 : decode method_2_code 84 = .ok (.if_icmp .le 102, 3) := by decide +kernel
theorem d1_87 : decode method_2_code 87 = .ok (.iload_n 0, 1) := by decide +kernel
theorem d1_88 : decode method_2_code 88 = .ok (.sipush 894, 3) := by decide +kernel
theorem d1_91 : decode method_2_code 91 = .ok (.if_icmp .eq 95, 3) := by decide +kernel
theorem d1_94 : decode method_2_code 94 = .ok (.iload_n 0, 1) := by decide +kernel
theorem d1_95 : decode method_2_code 95 = .ok (.sipush 8192, 3) := by decide +kernel
theorem d1_98 : decode method_2_code 98 = .ok (.if_icmp .lt 10, 3) := by decide +kernel
theorem d1_101 : decode method_2_code 101 = .ok (.iload_n 0, 1) := by decide +kernel
theorem d1_102 : decode method_2_code 102 = .ok (.sipush 8203, 3) := by decide +kernel
theorem d1_105 : decode method_2_code 105 = .ok (.if_icmp .le 81, 3) := by decide +kernel
theorem d1_108 : decode method_2_code 108 = .ok (.iload_n 0, 1) := by decide +kernel
theorem d1_109 : decode method_2_code 109 = .ok (.sipush 8206, 3) := by decide +kernel
theorem d1_112 : decode method_2_code 112 = .ok (.if_icmp .lt 10, 3) := by decide +kernel
theorem d1_115 : decode method_2_code 115 = .ok (.iload_n 0, 1) := by decide +kernel
theorem d1_116 : decode method_2_code 116 = .ok (.sipush 8303, 3) := by decide +kernel
theorem d1_119 : decode method_2_code 119 = .ok (.if_icmp .le 67, 3) := by decide +kernel
theorem d1_122 : decode method_2_code 122 = .ok (.iload_n 0, 1) := by decide +kernel
theorem d1_123 : decode method_2_code 123 = .ok (.sipush 8592, 3) := by decide +kernel
theorem d1_126 : decode method_2_code 126 = .ok (.if_icmp .lt 10, 3) := by decide +kernel
theorem d1_129 : decode method_2_code 129 = .ok (.iload_n 0, 1) := by decide +kernel
theorem d1_130 : decode method_2_code 130 = .ok (.sipush 11263, 3) := by decide +kernel
theorem d1_133 : decode method_2_code 133 = .ok (.if_icmp .le 53, 3) := by decide +kernel
theorem d1_136 : decode method_2_code 136 = .ok (.iload_n 0, 1) := by decide +kernel
theorem d1_137 : decode method_2_code 137 = .ok (.sipush 12272, 3) := by decide +kernel
theorem d1_140 : decode method_2_code 140 = .ok (.if_icmp .lt 10, 3) := by decide +kernel
theorem d1_143 : decode method_2_code 143 = .ok (.iload_n 0, 1) := by decide +kernel
theorem d1_144 : decode method_2_code 144 = .ok (.sipush 12288, 3) := by decide +kernel
theorem d1_147 : decode method_2_code 147 = .ok (.if_icmp .le 39, 3) := by decide +kernel
theorem d1_150 : decode method_2_code 150 = .ok (.iload_n 0, 1) := by decide +kernel
theorem d1_151 : decode method_2_code 151 = .ok (.ldc 8, 2) := by decide +kernel
theorem d1_153 : decode method_2_code 153 = .ok (.if_icmp .lt 9, 3) := by decide +kernel
theorem d1_156 : decode method_2_code 156 = .ok (.iload_n 0, 1) := by decide +kernel
theorem d1_157 : decode method_2_code 157 = .ok (.ldc 9, 2) := by decide +kernel
theorem d1_159 : decode method_2_code 159 = .ok (.if_icmp .le 27, 3) := by decide +kernel
theorem d1_162 : decode method_2_code 162 = .ok (.iload_n 0, 1) := by decide +kernel
theorem d1_163 : decode method_2_code 163 = .ok (.ldc 10, 2) := by decide +kernel
theorem d1_165 : decode method_2_code 165 = .ok (.if_icmp .lt 9, 3) := by decide +kernel
theorem d1_168 : decode method_2_code 168 = .ok (.iload_n 0, 1) := by decide +kernel
theorem d1_169 : decode method_2_code 169 = .ok (.ldc 11, 2) := by decide +kernel
theorem d1_171 : decode method_2_code 171 = .ok (.if_icmp .le 15, 3) := by decide +kernel
theorem d1_174 : decode method_2_code 174 = .ok (.iload_n 0, 1) := by decide +kernel
theorem d1_175 : decode method_2_code 175 = .ok (.ldc 12, 2) := by decide +kernel
theorem d1_177 : decode method_2_code 177 = .ok (.if_icmp .eq 9, 3) := by decide +kernel
theorem d1_180 : decode method_2_code 180 = .ok (.iload_n 0, 1) := by decide +kernel
theorem d1_181 : decode method_2_code 181 = .ok (.ldc 13, 2) := by decide +kernel
theorem d1_183 : decode method_2_code 183 = .ok (.if_icmp .ne 7, 3) := by decide +kernel
theorem d1_186 : decode method_2_code 186 = .ok (.iconst 1, 1) := by decide +kernel
theorem d1_187 : decode method_2_code 187 = .ok (.goto 4, 3) := by decide +kernel
theorem d1_190 : decode method_2_code 190 = .ok (.iconst 0, 1) := by decide +kernel
theorem d1_191 : decode method_2_code 191 = .ok (.ireturn, 1) := by decide +kernel
def f1_190 (l0 : Int32) : Int32 := (0 : Int32)
set_option maxRecDepth 65536 in
set_option maxHeartbeats 4000000 in
theorem w1_190 {p : Program} {l : Launch} {e : Env} {s : State} {m : MethodId} {args : Array Value} {below : List Frame} {meth : Method} {c : Code} {T : State} {locs : List Loc} {Z : State} {a0 : Array Value} {n0 : Nat} {h0 : Heap} (X : Stand p l e ({ frames := 0, cells := 0, slots := 0, locals := 0 } : Room) s m args below meth c T locs 0 0) (hx : p.tables.exec = Jvm.exec) (hby : c.code = method_2_code) (hlk : meth.locks = false) (hret : meth.sig.returnType = some .boolean) (hZ : Z.Warmed39 s.vm) (hown : s.vm.findClass "com/example/penelope/penelope/XmlCharsIsNameStartCharPinLaw" = some m.cls) (hw : ∀ d ∈ tables_1, d.before a0 Z = true) (hml : c.maxLocals = 1) (N : Fr n0 locs) (eT : T.heap = h0) (l0 : Int32) :
    own_Go p e below (own_K s (own_Q (.int (f1_190 l0)) h0 n0) 0 0) (T.setTop (mkF m 190 #[.val (.int l0)] [])) := by
  unfold f1_190
  refine own_by (fun _ kont => XT.iconstV X.here hx rfl (0 : Int32) (hb hby d1_190) rfl kont) ?_
  show own_Go p e below _ (T.setTop (mkF m 191 #[.val (.int l0)] [(.int (0 : Int32))]))
  exact own_ret X hx hlk hret rfl (Or.inl ⟨rfl, by simp, _, rfl⟩) (hb hby d1_191) ⟨rfl, N, eT⟩ (Nat.le_refl _) (Nat.le_refl _)
def f1_186 (l0 : Int32) : Int32 := (1 : Int32)
set_option maxRecDepth 65536 in
set_option maxHeartbeats 4000000 in
theorem w1_186 {p : Program} {l : Launch} {e : Env} {s : State} {m : MethodId} {args : Array Value} {below : List Frame} {meth : Method} {c : Code} {T : State} {locs : List Loc} {Z : State} {a0 : Array Value} {n0 : Nat} {h0 : Heap} (X : Stand p l e ({ frames := 0, cells := 0, slots := 0, locals := 0 } : Room) s m args below meth c T locs 0 0) (hx : p.tables.exec = Jvm.exec) (hby : c.code = method_2_code) (hlk : meth.locks = false) (hret : meth.sig.returnType = some .boolean) (hZ : Z.Warmed39 s.vm) (hown : s.vm.findClass "com/example/penelope/penelope/XmlCharsIsNameStartCharPinLaw" = some m.cls) (hw : ∀ d ∈ tables_1, d.before a0 Z = true) (hml : c.maxLocals = 1) (N : Fr n0 locs) (eT : T.heap = h0) (l0 : Int32) :
    own_Go p e below (own_K s (own_Q (.int (f1_186 l0)) h0 n0) 0 0) (T.setTop (mkF m 186 #[.val (.int l0)] [])) := by
  unfold f1_186
  refine own_by (fun _ kont => XT.iconstV X.here hx rfl (1 : Int32) (hb hby d1_186) rfl kont) ?_
  show own_Go p e below _ (T.setTop (mkF m 187 #[.val (.int l0)] [(.int (1 : Int32))]))
  refine own_by (fun _ kont => XS.goto X.here hx rfl (pc0 := 187) (pc' := 191) rfl (hb hby d1_187) (by decide) (by decide) kont) ?_
  show own_Go p e below _ (T.setTop (mkF m 191 #[.val (.int l0)] [(.int (1 : Int32))]))
  exact own_ret X hx hlk hret rfl (Or.inl ⟨rfl, by simp, _, rfl⟩) (hb hby d1_191) ⟨rfl, N, eT⟩ (Nat.le_refl _) (Nat.le_refl _)
def f1_174 (l0 : Int32) : Int32 := (if l0 = (65534 : Int32) then (f1_186 l0) else (if l0 = (65535 : Int32) then (f1_186 l0) else (f1_190 l0)))
set_option maxRecDepth 65536 in
set_option maxHeartbeats 4000000 in
theorem w1_174 {p : Program} {l : Launch} {e : Env} {s : State} {m : MethodId} {args : Array Value} {below : List Frame} {meth : Method} {c : Code} {T : State} {locs : List Loc} {Z : State} {a0 : Array Value} {n0 : Nat} {h0 : Heap} (X : Stand p l e ({ frames := 0, cells := 0, slots := 0, locals := 0 } : Room) s m args below meth c T locs 0 0) (hx : p.tables.exec = Jvm.exec) (hby : c.code = method_2_code) (hlk : meth.locks = false) (hret : meth.sig.returnType = some .boolean) (hZ : Z.Warmed39 s.vm) (hown : s.vm.findClass "com/example/penelope/penelope/XmlCharsIsNameStartCharPinLaw" = some m.cls) (hw : ∀ d ∈ tables_1, d.before a0 Z = true) (hml : c.maxLocals = 1) (N : Fr n0 locs) (eT : T.heap = h0) (l0 : Int32) :
    own_Go p e below (own_K s (own_Q (.int (f1_174 l0)) h0 n0) 0 0) (T.setTop (mkF m 174 #[.val (.int l0)] [])) := by
  unfold f1_174
  refine own_by (fun _ kont => XS.iloadN X.here hx rfl (hb hby d1_174) rfl kont) ?_
  show own_Go p e below _ (T.setTop (mkF m 175 #[.val (.int l0)] [(.int l0)]))
  refine own_by (fun _ kont => X.ldcI hx hown (v := (65534 : Int32)) (mvT hZ (hw _ (List.mem_of_getElem? (i := 27) rfl))) rfl (hb hby d1_175) kont) ?_
  show own_Go p e below _ (T.setTop (mkF m 177 #[.val (.int l0)] [(.int (65534 : Int32)), (.int l0)]))
  by_cases c177 : l0 = (65534 : Int32)
  · rw [if_pos c177]
    refine own_by (fun _ kont => XS.icmpYes X.here hx rfl (pc0 := 177) (pc' := 186) rfl (hb hby d1_177) rfl (XT.ii_eq_t c177) (by decide) (by decide) kont) ?_
    show own_Go p e below _ (T.setTop (mkF m 186 #[.val (.int l0)] []))
    exact w1_186 X hx hby hlk hret hZ hown hw hml N eT l0
  · rw [if_neg c177]
    refine own_by (fun _ kont => XS.icmpNo X.here hx rfl (hb hby d1_177) rfl (XT.ii_eq_f c177) kont) ?_
    show own_Go p e below _ (T.setTop (mkF m 180 #[.val (.int l0)] []))
    refine own_by (fun _ kont => XS.iloadN X.here hx rfl (hb hby d1_180) rfl kont) ?_
    show own_Go p e below _ (T.setTop (mkF m 181 #[.val (.int l0)] [(.int l0)]))
    refine own_by (fun _ kont => X.ldcI hx hown (v := (65535 : Int32)) (mvT hZ (hw _ (List.mem_of_getElem? (i := 28) rfl))) rfl (hb hby d1_181) kont) ?_
    show own_Go p e below _ (T.setTop (mkF m 183 #[.val (.int l0)] [(.int (65535 : Int32)), (.int l0)]))
    by_cases c183 : l0 = (65535 : Int32)
    · rw [if_pos c183]
      refine own_by (fun _ kont => XS.icmpNo X.here hx rfl (hb hby d1_183) rfl (XT.ii_ne_f c183) kont) ?_
      show own_Go p e below _ (T.setTop (mkF m 186 #[.val (.int l0)] []))
      exact w1_186 X hx hby hlk hret hZ hown hw hml N eT l0
    · rw [if_neg c183]
      refine own_by (fun _ kont => XS.icmpYes X.here hx rfl (pc0 := 183) (pc' := 190) rfl (hb hby d1_183) rfl (XT.ii_ne_t c183) (by decide) (by decide) kont) ?_
      show own_Go p e below _ (T.setTop (mkF m 190 #[.val (.int l0)] []))
      exact w1_190 X hx hby hlk hret hZ hown hw hml N eT l0
def f1_162 (l0 : Int32) : Int32 := (if l0 < (64976 : Int32) then (f1_174 l0) else (if (65007 : Int32) < l0 then (f1_174 l0) else (f1_186 l0)))
set_option maxRecDepth 65536 in
set_option maxHeartbeats 4000000 in
theorem w1_162 {p : Program} {l : Launch} {e : Env} {s : State} {m : MethodId} {args : Array Value} {below : List Frame} {meth : Method} {c : Code} {T : State} {locs : List Loc} {Z : State} {a0 : Array Value} {n0 : Nat} {h0 : Heap} (X : Stand p l e ({ frames := 0, cells := 0, slots := 0, locals := 0 } : Room) s m args below meth c T locs 0 0) (hx : p.tables.exec = Jvm.exec) (hby : c.code = method_2_code) (hlk : meth.locks = false) (hret : meth.sig.returnType = some .boolean) (hZ : Z.Warmed39 s.vm) (hown : s.vm.findClass "com/example/penelope/penelope/XmlCharsIsNameStartCharPinLaw" = some m.cls) (hw : ∀ d ∈ tables_1, d.before a0 Z = true) (hml : c.maxLocals = 1) (N : Fr n0 locs) (eT : T.heap = h0) (l0 : Int32) :
    own_Go p e below (own_K s (own_Q (.int (f1_162 l0)) h0 n0) 0 0) (T.setTop (mkF m 162 #[.val (.int l0)] [])) := by
  unfold f1_162
  refine own_by (fun _ kont => XS.iloadN X.here hx rfl (hb hby d1_162) rfl kont) ?_
  show own_Go p e below _ (T.setTop (mkF m 163 #[.val (.int l0)] [(.int l0)]))
  refine own_by (fun _ kont => X.ldcI hx hown (v := (64976 : Int32)) (mvT hZ (hw _ (List.mem_of_getElem? (i := 26) rfl))) rfl (hb hby d1_163) kont) ?_
  show own_Go p e below _ (T.setTop (mkF m 165 #[.val (.int l0)] [(.int (64976 : Int32)), (.int l0)]))
  by_cases c165 : l0 < (64976 : Int32)
  · rw [if_pos c165]
    refine own_by (fun _ kont => XS.icmpYes X.here hx rfl (pc0 := 165) (pc' := 174) rfl (hb hby d1_165) rfl (XT.ii_lt_t c165) (by decide) (by decide) kont) ?_
    show own_Go p e below _ (T.setTop (mkF m 174 #[.val (.int l0)] []))
    exact w1_174 X hx hby hlk hret hZ hown hw hml N eT l0
  · rw [if_neg c165]
    refine own_by (fun _ kont => XS.icmpNo X.here hx rfl (hb hby d1_165) rfl (XT.ii_lt_f c165) kont) ?_
    show own_Go p e below _ (T.setTop (mkF m 168 #[.val (.int l0)] []))
    refine own_by (fun _ kont => XS.iloadN X.here hx rfl (hb hby d1_168) rfl kont) ?_
    show own_Go p e below _ (T.setTop (mkF m 169 #[.val (.int l0)] [(.int l0)]))
    refine own_by (fun _ kont => X.ldcI hx hown (v := (65007 : Int32)) (mvT hZ (hw _ (List.mem_of_getElem? (i := 30) rfl))) rfl (hb hby d1_169) kont) ?_
    show own_Go p e below _ (T.setTop (mkF m 171 #[.val (.int l0)] [(.int (65007 : Int32)), (.int l0)]))
    by_cases c171 : (65007 : Int32) < l0
    · rw [if_pos c171]
      refine own_by (fun _ kont => XS.icmpNo X.here hx rfl (hb hby d1_171) rfl (XT.ii_le_f c171) kont) ?_
      show own_Go p e below _ (T.setTop (mkF m 174 #[.val (.int l0)] []))
      exact w1_174 X hx hby hlk hret hZ hown hw hml N eT l0
    · rw [if_neg c171]
      refine own_by (fun _ kont => XS.icmpYes X.here hx rfl (pc0 := 171) (pc' := 186) rfl (hb hby d1_171) rfl (XT.ii_le_t c171) (by decide) (by decide) kont) ?_
      show own_Go p e below _ (T.setTop (mkF m 186 #[.val (.int l0)] []))
      exact w1_186 X hx hby hlk hret hZ hown hw hml N eT l0
def f1_150 (l0 : Int32) : Int32 := (if l0 < (55296 : Int32) then (f1_162 l0) else (if (63743 : Int32) < l0 then (f1_162 l0) else (f1_186 l0)))
set_option maxRecDepth 65536 in
set_option maxHeartbeats 4000000 in
theorem w1_150 {p : Program} {l : Launch} {e : Env} {s : State} {m : MethodId} {args : Array Value} {below : List Frame} {meth : Method} {c : Code} {T : State} {locs : List Loc} {Z : State} {a0 : Array Value} {n0 : Nat} {h0 : Heap} (X : Stand p l e ({ frames := 0, cells := 0, slots := 0, locals := 0 } : Room) s m args below meth c T locs 0 0) (hx : p.tables.exec = Jvm.exec) (hby : c.code = method_2_code) (hlk : meth.locks = false) (hret : meth.sig.returnType = some .boolean) (hZ : Z.Warmed39 s.vm) (hown : s.vm.findClass "com/example/penelope/penelope/XmlCharsIsNameStartCharPinLaw" = some m.cls) (hw : ∀ d ∈ tables_1, d.before a0 Z = true) (hml : c.maxLocals = 1) (N : Fr n0 locs) (eT : T.heap = h0) (l0 : Int32) :
    own_Go p e below (own_K s (own_Q (.int (f1_150 l0)) h0 n0) 0 0) (T.setTop (mkF m 150 #[.val (.int l0)] [])) := by
  unfold f1_150
  refine own_by (fun _ kont => XS.iloadN X.here hx rfl (hb hby d1_150) rfl kont) ?_
  show own_Go p e below _ (T.setTop (mkF m 151 #[.val (.int l0)] [(.int l0)]))
  refine own_by (fun _ kont => X.ldcI hx hown (v := (55296 : Int32)) (mvT hZ (hw _ (List.mem_of_getElem? (i := 25) rfl))) rfl (hb hby d1_151) kont) ?_
  show own_Go p e below _ (T.setTop (mkF m 153 #[.val (.int l0)] [(.int (55296 : Int32)), (.int l0)]))
  by_cases c153 : l0 < (55296 : Int32)
  · rw [if_pos c153]
    refine own_by (fun _ kont => XS.icmpYes X.here hx rfl (pc0 := 153) (pc' := 162) rfl (hb hby d1_153) rfl (XT.ii_lt_t c153) (by decide) (by decide) kont) ?_
    show own_Go p e below _ (T.setTop (mkF m 162 #[.val (.int l0)] []))
    exact w1_162 X hx hby hlk hret hZ hown hw hml N eT l0
  · rw [if_neg c153]
    refine own_by (fun _ kont => XS.icmpNo X.here hx rfl (hb hby d1_153) rfl (XT.ii_lt_f c153) kont) ?_
    show own_Go p e below _ (T.setTop (mkF m 156 #[.val (.int l0)] []))
    refine own_by (fun _ kont => XS.iloadN X.here hx rfl (hb hby d1_156) rfl kont) ?_
    show own_Go p e below _ (T.setTop (mkF m 157 #[.val (.int l0)] [(.int l0)]))
    refine own_by (fun _ kont => X.ldcI hx hown (v := (63743 : Int32)) (mvT hZ (hw _ (List.mem_of_getElem? (i := 29) rfl))) rfl (hb hby d1_157) kont) ?_
    show own_Go p e below _ (T.setTop (mkF m 159 #[.val (.int l0)] [(.int (63743 : Int32)), (.int l0)]))
    by_cases c159 : (63743 : Int32) < l0
    · rw [if_pos c159]
      refine own_by (fun _ kont => XS.icmpNo X.here hx rfl (hb hby d1_159) rfl (XT.ii_le_f c159) kont) ?_
      show own_Go p e below _ (T.setTop (mkF m 162 #[.val (.int l0)] []))
      exact w1_162 X hx hby hlk hret hZ hown hw hml N eT l0
    · rw [if_neg c159]
      refine own_by (fun _ kont => XS.icmpYes X.here hx rfl (pc0 := 159) (pc' := 186) rfl (hb hby d1_159) rfl (XT.ii_le_t c159) (by decide) (by decide) kont) ?_
      show own_Go p e below _ (T.setTop (mkF m 186 #[.val (.int l0)] []))
      exact w1_186 X hx hby hlk hret hZ hown hw hml N eT l0
def f1_136 (l0 : Int32) : Int32 := (if l0 < (12272 : Int32) then (f1_150 l0) else (if (12288 : Int32) < l0 then (f1_150 l0) else (f1_186 l0)))
set_option maxRecDepth 65536 in
set_option maxHeartbeats 4000000 in
theorem w1_136 {p : Program} {l : Launch} {e : Env} {s : State} {m : MethodId} {args : Array Value} {below : List Frame} {meth : Method} {c : Code} {T : State} {locs : List Loc} {Z : State} {a0 : Array Value} {n0 : Nat} {h0 : Heap} (X : Stand p l e ({ frames := 0, cells := 0, slots := 0, locals := 0 } : Room) s m args below meth c T locs 0 0) (hx : p.tables.exec = Jvm.exec) (hby : c.code = method_2_code) (hlk : meth.locks = false) (hret : meth.sig.returnType = some .boolean) (hZ : Z.Warmed39 s.vm) (hown : s.vm.findClass "com/example/penelope/penelope/XmlCharsIsNameStartCharPinLaw" = some m.cls) (hw : ∀ d ∈ tables_1, d.before a0 Z = true) (hml : c.maxLocals = 1) (N : Fr n0 locs) (eT : T.heap = h0) (l0 : Int32) :
    own_Go p e below (own_K s (own_Q (.int (f1_136 l0)) h0 n0) 0 0) (T.setTop (mkF m 136 #[.val (.int l0)] [])) := by
  unfold f1_136
  refine own_by (fun _ kont => XS.iloadN X.here hx rfl (hb hby d1_136) rfl kont) ?_
  show own_Go p e below _ (T.setTop (mkF m 137 #[.val (.int l0)] [(.int l0)]))
  refine own_by (fun _ kont => XT.sipushV X.here hx rfl (12272 : Int32) (hb hby d1_137) rfl kont) ?_
  show own_Go p e below _ (T.setTop (mkF m 140 #[.val (.int l0)] [(.int (12272 : Int32)), (.int l0)]))
  by_cases c140 : l0 < (12272 : Int32)
  · rw [if_pos c140]
    refine own_by (fun _ kont => XS.icmpYes X.here hx rfl (pc0 := 140) (pc' := 150) rfl (hb hby d1_140) rfl (XT.ii_lt_t c140) (by decide) (by decide) kont) ?_
    show own_Go p e below _ (T.setTop (mkF m 150 #[.val (.int l0)] []))
    exact w1_150 X hx hby hlk hret hZ hown hw hml N eT l0
  · rw [if_neg c140]
    refine own_by (fun _ kont => XS.icmpNo X.here hx rfl (hb hby d1_140) rfl (XT.ii_lt_f c140) kont) ?_
    show own_Go p e below _ (T.setTop (mkF m 143 #[.val (.int l0)] []))
    refine own_by (fun _ kont => XS.iloadN X.here hx rfl (hb hby d1_143) rfl kont) ?_
    show own_Go p e below _ (T.setTop (mkF m 144 #[.val (.int l0)] [(.int l0)]))
    refine own_by (fun _ kont => XT.sipushV X.here hx rfl (12288 : Int32) (hb hby d1_144) rfl kont) ?_
    show own_Go p e below _ (T.setTop (mkF m 147 #[.val (.int l0)] [(.int (12288 : Int32)), (.int l0)]))
    by_cases c147 : (12288 : Int32) < l0
    · rw [if_pos c147]
      refine own_by (fun _ kont => XS.icmpNo X.here hx rfl (hb hby d1_147) rfl (XT.ii_le_f c147) kont) ?_
      show own_Go p e below _ (T.setTop (mkF m 150 #[.val (.int l0)] []))
      exact w1_150 X hx hby hlk hret hZ hown hw hml N eT l0
    · rw [if_neg c147]
      refine own_by (fun _ kont => XS.icmpYes X.here hx rfl (pc0 := 147) (pc' := 186) rfl (hb hby d1_147) rfl (XT.ii_le_t c147) (by decide) (by decide) kont) ?_
      show own_Go p e below _ (T.setTop (mkF m 186 #[.val (.int l0)] []))
      exact w1_186 X hx hby hlk hret hZ hown hw hml N eT l0
def f1_122 (l0 : Int32) : Int32 := (if l0 < (8592 : Int32) then (f1_136 l0) else (if (11263 : Int32) < l0 then (f1_136 l0) else (f1_186 l0)))
set_option maxRecDepth 65536 in
set_option maxHeartbeats 4000000 in
theorem w1_122 {p : Program} {l : Launch} {e : Env} {s : State} {m : MethodId} {args : Array Value} {below : List Frame} {meth : Method} {c : Code} {T : State} {locs : List Loc} {Z : State} {a0 : Array Value} {n0 : Nat} {h0 : Heap} (X : Stand p l e ({ frames := 0, cells := 0, slots := 0, locals := 0 } : Room) s m args below meth c T locs 0 0) (hx : p.tables.exec = Jvm.exec) (hby : c.code = method_2_code) (hlk : meth.locks = false) (hret : meth.sig.returnType = some .boolean) (hZ : Z.Warmed39 s.vm) (hown : s.vm.findClass "com/example/penelope/penelope/XmlCharsIsNameStartCharPinLaw" = some m.cls) (hw : ∀ d ∈ tables_1, d.before a0 Z = true) (hml : c.maxLocals = 1) (N : Fr n0 locs) (eT : T.heap = h0) (l0 : Int32) :
    own_Go p e below (own_K s (own_Q (.int (f1_122 l0)) h0 n0) 0 0) (T.setTop (mkF m 122 #[.val (.int l0)] [])) := by
  unfold f1_122
  refine own_by (fun _ kont => XS.iloadN X.here hx rfl (hb hby d1_122) rfl kont) ?_
  show own_Go p e below _ (T.setTop (mkF m 123 #[.val (.int l0)] [(.int l0)]))
  refine own_by (fun _ kont => XT.sipushV X.here hx rfl (8592 : Int32) (hb hby d1_123) rfl kont) ?_
  show own_Go p e below _ (T.setTop (mkF m 126 #[.val (.int l0)] [(.int (8592 : Int32)), (.int l0)]))
  by_cases c126 : l0 < (8592 : Int32)
  · rw [if_pos c126]
    refine own_by (fun _ kont => XS.icmpYes X.here hx rfl (pc0 := 126) (pc' := 136) rfl (hb hby d1_126) rfl (XT.ii_lt_t c126) (by decide) (by decide) kont) ?_
    show own_Go p e below _ (T.setTop (mkF m 136 #[.val (.int l0)] []))
    exact w1_136 X hx hby hlk hret hZ hown hw hml N eT l0
  · rw [if_neg c126]
    refine own_by (fun _ kont => XS.icmpNo X.here hx rfl (hb hby d1_126) rfl (XT.ii_lt_f c126) kont) ?_
    show own_Go p e below _ (T.setTop (mkF m 129 #[.val (.int l0)] []))
    refine own_by (fun _ kont => XS.iloadN X.here hx rfl (hb hby d1_129) rfl kont) ?_
    show own_Go p e below _ (T.setTop (mkF m 130 #[.val (.int l0)] [(.int l0)]))
    refine own_by (fun _ kont => XT.sipushV X.here hx rfl (11263 : Int32) (hb hby d1_130) rfl kont) ?_
    show own_Go p e below _ (T.setTop (mkF m 133 #[.val (.int l0)] [(.int (11263 : Int32)), (.int l0)]))
    by_cases c133 : (11263 : Int32) < l0
    · rw [if_pos c133]
      refine own_by (fun _ kont => XS.icmpNo X.here hx rfl (hb hby d1_133) rfl (XT.ii_le_f c133) kont) ?_
      show own_Go p e below _ (T.setTop (mkF m 136 #[.val (.int l0)] []))
      exact w1_136 X hx hby hlk hret hZ hown hw hml N eT l0
    · rw [if_neg c133]
      refine own_by (fun _ kont => XS.icmpYes X.here hx rfl (pc0 := 133) (pc' := 186) rfl (hb hby d1_133) rfl (XT.ii_le_t c133) (by decide) (by decide) kont) ?_
      show own_Go p e below _ (T.setTop (mkF m 186 #[.val (.int l0)] []))
      exact w1_186 X hx hby hlk hret hZ hown hw hml N eT l0
def f1_108 (l0 : Int32) : Int32 := (if l0 < (8206 : Int32) then (f1_122 l0) else (if (8303 : Int32) < l0 then (f1_122 l0) else (f1_186 l0)))
set_option maxRecDepth 65536 in
set_option maxHeartbeats 4000000 in
theorem w1_108 {p : Program} {l : Launch} {e : Env} {s : State} {m : MethodId} {args : Array Value} {below : List Frame} {meth : Method} {c : Code} {T : State} {locs : List Loc} {Z : State} {a0 : Array Value} {n0 : Nat} {h0 : Heap} (X : Stand p l e ({ frames := 0, cells := 0, slots := 0, locals := 0 } : Room) s m args below meth c T locs 0 0) (hx : p.tables.exec = Jvm.exec) (hby : c.code = method_2_code) (hlk : meth.locks = false) (hret : meth.sig.returnType = some .boolean) (hZ : Z.Warmed39 s.vm) (hown : s.vm.findClass "com/example/penelope/penelope/XmlCharsIsNameStartCharPinLaw" = some m.cls) (hw : ∀ d ∈ tables_1, d.before a0 Z = true) (hml : c.maxLocals = 1) (N : Fr n0 locs) (eT : T.heap = h0) (l0 : Int32) :
    own_Go p e below (own_K s (own_Q (.int (f1_108 l0)) h0 n0) 0 0) (T.setTop (mkF m 108 #[.val (.int l0)] [])) := by
  unfold f1_108
  refine own_by (fun _ kont => XS.iloadN X.here hx rfl (hb hby d1_108) rfl kont) ?_
  show own_Go p e below _ (T.setTop (mkF m 109 #[.val (.int l0)] [(.int l0)]))
  refine own_by (fun _ kont => XT.sipushV X.here hx rfl (8206 : Int32) (hb hby d1_109) rfl kont) ?_
  show own_Go p e below _ (T.setTop (mkF m 112 #[.val (.int l0)] [(.int (8206 : Int32)), (.int l0)]))
  by_cases c112 : l0 < (8206 : Int32)
  · rw [if_pos c112]
    refine own_by (fun _ kont => XS.icmpYes X.here hx rfl (pc0 := 112) (pc' := 122) rfl (hb hby d1_112) rfl (XT.ii_lt_t c112) (by decide) (by decide) kont) ?_
    show own_Go p e below _ (T.setTop (mkF m 122 #[.val (.int l0)] []))
    exact w1_122 X hx hby hlk hret hZ hown hw hml N eT l0
  · rw [if_neg c112]
    refine own_by (fun _ kont => XS.icmpNo X.here hx rfl (hb hby d1_112) rfl (XT.ii_lt_f c112) kont) ?_
    show own_Go p e below _ (T.setTop (mkF m 115 #[.val (.int l0)] []))
    refine own_by (fun _ kont => XS.iloadN X.here hx rfl (hb hby d1_115) rfl kont) ?_
    show own_Go p e below _ (T.setTop (mkF m 116 #[.val (.int l0)] [(.int l0)]))
    refine own_by (fun _ kont => XT.sipushV X.here hx rfl (8303 : Int32) (hb hby d1_116) rfl kont) ?_
    show own_Go p e below _ (T.setTop (mkF m 119 #[.val (.int l0)] [(.int (8303 : Int32)), (.int l0)]))
    by_cases c119 : (8303 : Int32) < l0
    · rw [if_pos c119]
      refine own_by (fun _ kont => XS.icmpNo X.here hx rfl (hb hby d1_119) rfl (XT.ii_le_f c119) kont) ?_
      show own_Go p e below _ (T.setTop (mkF m 122 #[.val (.int l0)] []))
      exact w1_122 X hx hby hlk hret hZ hown hw hml N eT l0
    · rw [if_neg c119]
      refine own_by (fun _ kont => XS.icmpYes X.here hx rfl (pc0 := 119) (pc' := 186) rfl (hb hby d1_119) rfl (XT.ii_le_t c119) (by decide) (by decide) kont) ?_
      show own_Go p e below _ (T.setTop (mkF m 186 #[.val (.int l0)] []))
      exact w1_186 X hx hby hlk hret hZ hown hw hml N eT l0
def f1_87 (l0 : Int32) : Int32 := (if l0 = (894 : Int32) then (f1_186 l0) else (if l0 < (8192 : Int32) then (f1_108 l0) else (if (8203 : Int32) < l0 then (f1_108 l0) else (f1_186 l0))))
set_option maxRecDepth 65536 in
set_option maxHeartbeats 4000000 in
theorem w1_87 {p : Program} {l : Launch} {e : Env} {s : State} {m : MethodId} {args : Array Value} {below : List Frame} {meth : Method} {c : Code} {T : State} {locs : List Loc} {Z : State} {a0 : Array Value} {n0 : Nat} {h0 : Heap} (X : Stand p l e ({ frames := 0, cells := 0, slots := 0, locals := 0 } : Room) s m args below meth c T locs 0 0) (hx : p.tables.exec = Jvm.exec) (hby : c.code = method_2_code) (hlk : meth.locks = false) (hret : meth.sig.returnType = some .boolean) (hZ : Z.Warmed39 s.vm) (hown : s.vm.findClass "com/example/penelope/penelope/XmlCharsIsNameStartCharPinLaw" = some m.cls) (hw : ∀ d ∈ tables_1, d.before a0 Z = true) (hml : c.maxLocals = 1) (N : Fr n0 locs) (eT : T.heap = h0) (l0 : Int32) :
    own_Go p e below (own_K s (own_Q (.int (f1_87 l0)) h0 n0) 0 0) (T.setTop (mkF m 87 #[.val (.int l0)] [])) := by
  unfold f1_87
  refine own_by (fun _ kont => XS.iloadN X.here hx rfl (hb hby d1_87) rfl kont) ?_
  show own_Go p e below _ (T.setTop (mkF m 88 #[.val (.int l0)] [(.int l0)]))
  refine own_by (fun _ kont => XT.sipushV X.here hx rfl (894 : Int32) (hb hby d1_88) rfl kont) ?_
  show own_Go p e below _ (T.setTop (mkF m 91 #[.val (.int l0)] [(.int (894 : Int32)), (.int l0)]))
  by_cases c91 : l0 = (894 : Int32)
  · rw [if_pos c91]
    refine own_by (fun _ kont => XS.icmpYes X.here hx rfl (pc0 := 91) (pc' := 186) rfl (hb hby d1_91) rfl (XT.ii_eq_t c91) (by decide) (by decide) kont) ?_
    show own_Go p e below _ (T.setTop (mkF m 186 #[.val (.int l0)] []))
    exact w1_186 X hx hby hlk hret hZ hown hw hml N eT l0
  · rw [if_neg c91]
    refine own_by (fun _ kont => XS.icmpNo X.here hx rfl (hb hby d1_91) rfl (XT.ii_eq_f c91) kont) ?_
    show own_Go p e below _ (T.setTop (mkF m 94 #[.val (.int l0)] []))
    refine own_by (fun _ kont => XS.iloadN X.here hx rfl (hb hby d1_94) rfl kont) ?_
    show own_Go p e below _ (T.setTop (mkF m 95 #[.val (.int l0)] [(.int l0)]))
    refine own_by (fun _ kont => XT.sipushV X.here hx rfl (8192 : Int32) (hb hby d1_95) rfl kont) ?_
    show own_Go p e below _ (T.setTop (mkF m 98 #[.val (.int l0)] [(.int (8192 : Int32)), (.int l0)]))
    by_cases c98 : l0 < (8192 : Int32)
    · rw [if_pos c98]
      refine own_by (fun _ kont => XS.icmpYes X.here hx rfl (pc0 := 98) (pc' := 108) rfl (hb hby d1_98) rfl (XT.ii_lt_t c98) (by decide) (by decide) kont) ?_
      show own_Go p e below _ (T.setTop (mkF m 108 #[.val (.int l0)] []))
      exact w1_108 X hx hby hlk hret hZ hown hw hml N eT l0
    · rw [if_neg c98]
      refine own_by (fun _ kont => XS.icmpNo X.here hx rfl (hb hby d1_98) rfl (XT.ii_lt_f c98) kont) ?_
      show own_Go p e below _ (T.setTop (mkF m 101 #[.val (.int l0)] []))
      refine own_by (fun _ kont => XS.iloadN X.here hx rfl (hb hby d1_101) rfl kont) ?_
      show own_Go p e below _ (T.setTop (mkF m 102 #[.val (.int l0)] [(.int l0)]))
      refine own_by (fun _ kont => XT.sipushV X.here hx rfl (8203 : Int32) (hb hby d1_102) rfl kont) ?_
      show own_Go p e below _ (T.setTop (mkF m 105 #[.val (.int l0)] [(.int (8203 : Int32)), (.int l0)]))
      by_cases c105 : (8203 : Int32) < l0
      · rw [if_pos c105]
        refine own_by (fun _ kont => XS.icmpNo X.here hx rfl (hb hby d1_105) rfl (XT.ii_le_f c105) kont) ?_
        show own_Go p e below _ (T.setTop (mkF m 108 #[.val (.int l0)] []))
        exact w1_108 X hx hby hlk hret hZ hown hw hml N eT l0
      · rw [if_neg c105]
        refine own_by (fun _ kont => XS.icmpYes X.here hx rfl (pc0 := 105) (pc' := 186) rfl (hb hby d1_105) rfl (XT.ii_le_t c105) (by decide) (by decide) kont) ?_
        show own_Go p e below _ (T.setTop (mkF m 186 #[.val (.int l0)] []))
        exact w1_186 X hx hby hlk hret hZ hown hw hml N eT l0
def f1_59 (l0 : Int32) : Int32 := (if l0 = (215 : Int32) then (f1_186 l0) else (if l0 = (247 : Int32) then (f1_186 l0) else (if l0 < (768 : Int32) then (f1_87 l0) else (if (879 : Int32) < l0 then (f1_87 l0) else (f1_186 l0)))))
set_option maxRecDepth 65536 in
set_option maxHeartbeats 4000000 in
theorem w1_59 {p : Program} {l : Launch} {e : Env} {s : State} {m : MethodId} {args : Array Value} {below : List Frame} {meth : Method} {c : Code} {T : State} {locs : List Loc} {Z : State} {a0 : Array Value} {n0 : Nat} {h0 : Heap} (X : Stand p l e ({ frames := 0, cells := 0, slots := 0, locals := 0 } : Room) s m args below meth c T locs 0 0) (hx : p.tables.exec = Jvm.exec) (hby : c.code = method_2_code) (hlk : meth.locks = false) (hret : meth.sig.returnType = some .boolean) (hZ : Z.Warmed39 s.vm) (hown : s.vm.findClass "com/example/penelope/penelope/XmlCharsIsNameStartCharPinLaw" = some m.cls) (hw : ∀ d ∈ tables_1, d.before a0 Z = true) (hml : c.maxLocals = 1) (N : Fr n0 locs) (eT : T.heap = h0) (l0 : Int32) :
    own_Go p e below (own_K s (own_Q (.int (f1_59 l0)) h0 n0) 0 0) (T.setTop (mkF m 59 #[.val (.int l0)] [])) := by
  unfold f1_59
  refine own_by (fun _ kont => XS.iloadN X.here hx rfl (hb hby d1_59) rfl kont) ?_
  show own_Go p e below _ (T.setTop (mkF m 60 #[.val (.int l0)] [(.int l0)]))
  refine own_by (fun _ kont => XT.sipushV X.here hx rfl (215 : Int32) (hb hby d1_60) rfl kont) ?_
  show own_Go p e below _ (T.setTop (mkF m 63 #[.val (.int l0)] [(.int (215 : Int32)), (.int l0)]))
  by_cases c63 : l0 = (215 : Int32)
  · rw [if_pos c63]
    refine own_by (fun _ kont => XS.icmpYes X.here hx rfl (pc0 := 63) (pc' := 186) rfl (hb hby d1_63) rfl (XT.ii_eq_t c63) (by decide) (by decide) kont) ?_
    show own_Go p e below _ (T.setTop (mkF m 186 #[.val (.int l0)] []))
    exact w1_186 X hx hby hlk hret hZ hown hw hml N eT l0
  · rw [if_neg c63]
    refine own_by (fun _ kont => XS.icmpNo X.here hx rfl (hb hby d1_63) rfl (XT.ii_eq_f c63) kont) ?_
    show own_Go p e below _ (T.setTop (mkF m 66 #[.val (.int l0)] []))
    refine own_by (fun _ kont => XS.iloadN X.here hx rfl (hb hby d1_66) rfl kont) ?_
    show own_Go p e below _ (T.setTop (mkF m 67 #[.val (.int l0)] [(.int l0)]))
    refine own_by (fun _ kont => XT.sipushV X.here hx rfl (247 : Int32) (hb hby d1_67) rfl kont) ?_
    show own_Go p e below _ (T.setTop (mkF m 70 #[.val (.int l0)] [(.int (247 : Int32)), (.int l0)]))
    by_cases c70 : l0 = (247 : Int32)
    · rw [if_pos c70]
      refine own_by (fun _ kont => XS.icmpYes X.here hx rfl (pc0 := 70) (pc' := 186) rfl (hb hby d1_70) rfl (XT.ii_eq_t c70) (by decide) (by decide) kont) ?_
      show own_Go p e below _ (T.setTop (mkF m 186 #[.val (.int l0)] []))
      exact w1_186 X hx hby hlk hret hZ hown hw hml N eT l0
    · rw [if_neg c70]
      refine own_by (fun _ kont => XS.icmpNo X.here hx rfl (hb hby d1_70) rfl (XT.ii_eq_f c70) kont) ?_
      show own_Go p e below _ (T.setTop (mkF m 73 #[.val (.int l0)] []))
      refine own_by (fun _ kont => XS.iloadN X.here hx rfl (hb hby d1_73) rfl kont) ?_
      show own_Go p e below _ (T.setTop (mkF m 74 #[.val (.int l0)] [(.int l0)]))
      refine own_by (fun _ kont => XT.sipushV X.here hx rfl (768 : Int32) (hb hby d1_74) rfl kont) ?_
      show own_Go p e below _ (T.setTop (mkF m 77 #[.val (.int l0)] [(.int (768 : Int32)), (.int l0)]))
      by_cases c77 : l0 < (768 : Int32)
      · rw [if_pos c77]
        refine own_by (fun _ kont => XS.icmpYes X.here hx rfl (pc0 := 77) (pc' := 87) rfl (hb hby d1_77) rfl (XT.ii_lt_t c77) (by decide) (by decide) kont) ?_
        show own_Go p e below _ (T.setTop (mkF m 87 #[.val (.int l0)] []))
        exact w1_87 X hx hby hlk hret hZ hown hw hml N eT l0
      · rw [if_neg c77]
        refine own_by (fun _ kont => XS.icmpNo X.here hx rfl (hb hby d1_77) rfl (XT.ii_lt_f c77) kont) ?_
        show own_Go p e below _ (T.setTop (mkF m 80 #[.val (.int l0)] []))
        refine own_by (fun _ kont => XS.iloadN X.here hx rfl (hb hby d1_80) rfl kont) ?_
        show own_Go p e below _ (T.setTop (mkF m 81 #[.val (.int l0)] [(.int l0)]))
        refine own_by (fun _ kont => XT.sipushV X.here hx rfl (879 : Int32) (hb hby d1_81) rfl kont) ?_
        show own_Go p e below _ (T.setTop (mkF m 84 #[.val (.int l0)] [(.int (879 : Int32)), (.int l0)]))
        by_cases c84 : (879 : Int32) < l0
        · rw [if_pos c84]
          refine own_by (fun _ kont => XS.icmpNo X.here hx rfl (hb hby d1_84) rfl (XT.ii_le_f c84) kont) ?_
          show own_Go p e below _ (T.setTop (mkF m 87 #[.val (.int l0)] []))
          exact w1_87 X hx hby hlk hret hZ hown hw hml N eT l0
        · rw [if_neg c84]
          refine own_by (fun _ kont => XS.icmpYes X.here hx rfl (pc0 := 84) (pc' := 186) rfl (hb hby d1_84) rfl (XT.ii_le_t c84) (by decide) (by decide) kont) ?_
          show own_Go p e below _ (T.setTop (mkF m 186 #[.val (.int l0)] []))
          exact w1_186 X hx hby hlk hret hZ hown hw hml N eT l0
def f1_40 (l0 : Int32) : Int32 := (if l0 = (96 : Int32) then (f1_186 l0) else (if l0 < (123 : Int32) then (f1_59 l0) else (if (191 : Int32) < l0 then (f1_59 l0) else (f1_186 l0))))
set_option maxRecDepth 65536 in
set_option maxHeartbeats 4000000 in
theorem w1_40 {p : Program} {l : Launch} {e : Env} {s : State} {m : MethodId} {args : Array Value} {below : List Frame} {meth : Method} {c : Code} {T : State} {locs : List Loc} {Z : State} {a0 : Array Value} {n0 : Nat} {h0 : Heap} (X : Stand p l e ({ frames := 0, cells := 0, slots := 0, locals := 0 } : Room) s m args below meth c T locs 0 0) (hx : p.tables.exec = Jvm.exec) (hby : c.code = method_2_code) (hlk : meth.locks = false) (hret : meth.sig.returnType = some .boolean) (hZ : Z.Warmed39 s.vm) (hown : s.vm.findClass "com/example/penelope/penelope/XmlCharsIsNameStartCharPinLaw" = some m.cls) (hw : ∀ d ∈ tables_1, d.before a0 Z = true) (hml : c.maxLocals = 1) (N : Fr n0 locs) (eT : T.heap = h0) (l0 : Int32) :
    own_Go p e below (own_K s (own_Q (.int (f1_40 l0)) h0 n0) 0 0) (T.setTop (mkF m 40 #[.val (.int l0)] [])) := by
  unfold f1_40
  refine own_by (fun _ kont => XS.iloadN X.here hx rfl (hb hby d1_40) rfl kont) ?_
  show own_Go p e below _ (T.setTop (mkF m 41 #[.val (.int l0)] [(.int l0)]))
  refine own_by (fun _ kont => XT.bipushV X.here hx rfl (96 : Int32) (hb hby d1_41) rfl kont) ?_
  show own_Go p e below _ (T.setTop (mkF m 43 #[.val (.int l0)] [(.int (96 : Int32)), (.int l0)]))
  by_cases c43 : l0 = (96 : Int32)
  · rw [if_pos c43]
    refine own_by (fun _ kont => XS.icmpYes X.here hx rfl (pc0 := 43) (pc' := 186) rfl (hb hby d1_43) rfl (XT.ii_eq_t c43) (by decide) (by decide) kont) ?_
    show own_Go p e below _ (T.setTop (mkF m 186 #[.val (.int l0)] []))
    exact w1_186 X hx hby hlk hret hZ hown hw hml N eT l0
  · rw [if_neg c43]
    refine own_by (fun _ kont => XS.icmpNo X.here hx rfl (hb hby d1_43) rfl (XT.ii_eq_f c43) kont) ?_
    show own_Go p e below _ (T.setTop (mkF m 46 #[.val (.int l0)] []))
    refine own_by (fun _ kont => XS.iloadN X.here hx rfl (hb hby d1_46) rfl kont) ?_
    show own_Go p e below _ (T.setTop (mkF m 47 #[.val (.int l0)] [(.int l0)]))
    refine own_by (fun _ kont => XT.bipushV X.here hx rfl (123 : Int32) (hb hby d1_47) rfl kont) ?_
    show own_Go p e below _ (T.setTop (mkF m 49 #[.val (.int l0)] [(.int (123 : Int32)), (.int l0)]))
    by_cases c49 : l0 < (123 : Int32)
    · rw [if_pos c49]
      refine own_by (fun _ kont => XS.icmpYes X.here hx rfl (pc0 := 49) (pc' := 59) rfl (hb hby d1_49) rfl (XT.ii_lt_t c49) (by decide) (by decide) kont) ?_
      show own_Go p e below _ (T.setTop (mkF m 59 #[.val (.int l0)] []))
      exact w1_59 X hx hby hlk hret hZ hown hw hml N eT l0
    · rw [if_neg c49]
      refine own_by (fun _ kont => XS.icmpNo X.here hx rfl (hb hby d1_49) rfl (XT.ii_lt_f c49) kont) ?_
      show own_Go p e below _ (T.setTop (mkF m 52 #[.val (.int l0)] []))
      refine own_by (fun _ kont => XS.iloadN X.here hx rfl (hb hby d1_52) rfl kont) ?_
      show own_Go p e below _ (T.setTop (mkF m 53 #[.val (.int l0)] [(.int l0)]))
      refine own_by (fun _ kont => XT.sipushV X.here hx rfl (191 : Int32) (hb hby d1_53) rfl kont) ?_
      show own_Go p e below _ (T.setTop (mkF m 56 #[.val (.int l0)] [(.int (191 : Int32)), (.int l0)]))
      by_cases c56 : (191 : Int32) < l0
      · rw [if_pos c56]
        refine own_by (fun _ kont => XS.icmpNo X.here hx rfl (hb hby d1_56) rfl (XT.ii_le_f c56) kont) ?_
        show own_Go p e below _ (T.setTop (mkF m 59 #[.val (.int l0)] []))
        exact w1_59 X hx hby hlk hret hZ hown hw hml N eT l0
      · rw [if_neg c56]
        refine own_by (fun _ kont => XS.icmpYes X.here hx rfl (pc0 := 56) (pc' := 186) rfl (hb hby d1_56) rfl (XT.ii_le_t c56) (by decide) (by decide) kont) ?_
        show own_Go p e below _ (T.setTop (mkF m 186 #[.val (.int l0)] []))
        exact w1_186 X hx hby hlk hret hZ hown hw hml N eT l0
def f1_28 (l0 : Int32) : Int32 := (if l0 < (91 : Int32) then (f1_40 l0) else (if (94 : Int32) < l0 then (f1_40 l0) else (f1_186 l0)))
set_option maxRecDepth 65536 in
set_option maxHeartbeats 4000000 in
theorem w1_28 {p : Program} {l : Launch} {e : Env} {s : State} {m : MethodId} {args : Array Value} {below : List Frame} {meth : Method} {c : Code} {T : State} {locs : List Loc} {Z : State} {a0 : Array Value} {n0 : Nat} {h0 : Heap} (X : Stand p l e ({ frames := 0, cells := 0, slots := 0, locals := 0 } : Room) s m args below meth c T locs 0 0) (hx : p.tables.exec = Jvm.exec) (hby : c.code = method_2_code) (hlk : meth.locks = false) (hret : meth.sig.returnType = some .boolean) (hZ : Z.Warmed39 s.vm) (hown : s.vm.findClass "com/example/penelope/penelope/XmlCharsIsNameStartCharPinLaw" = some m.cls) (hw : ∀ d ∈ tables_1, d.before a0 Z = true) (hml : c.maxLocals = 1) (N : Fr n0 locs) (eT : T.heap = h0) (l0 : Int32) :
    own_Go p e below (own_K s (own_Q (.int (f1_28 l0)) h0 n0) 0 0) (T.setTop (mkF m 28 #[.val (.int l0)] [])) := by
  unfold f1_28
  refine own_by (fun _ kont => XS.iloadN X.here hx rfl (hb hby d1_28) rfl kont) ?_
  show own_Go p e below _ (T.setTop (mkF m 29 #[.val (.int l0)] [(.int l0)]))
  refine own_by (fun _ kont => XT.bipushV X.here hx rfl (91 : Int32) (hb hby d1_29) rfl kont) ?_
  show own_Go p e below _ (T.setTop (mkF m 31 #[.val (.int l0)] [(.int (91 : Int32)), (.int l0)]))
  by_cases c31 : l0 < (91 : Int32)
  · rw [if_pos c31]
    refine own_by (fun _ kont => XS.icmpYes X.here hx rfl (pc0 := 31) (pc' := 40) rfl (hb hby d1_31) rfl (XT.ii_lt_t c31) (by decide) (by decide) kont) ?_
    show own_Go p e below _ (T.setTop (mkF m 40 #[.val (.int l0)] []))
    exact w1_40 X hx hby hlk hret hZ hown hw hml N eT l0
  · rw [if_neg c31]
    refine own_by (fun _ kont => XS.icmpNo X.here hx rfl (hb hby d1_31) rfl (XT.ii_lt_f c31) kont) ?_
    show own_Go p e below _ (T.setTop (mkF m 34 #[.val (.int l0)] []))
    refine own_by (fun _ kont => XS.iloadN X.here hx rfl (hb hby d1_34) rfl kont) ?_
    show own_Go p e below _ (T.setTop (mkF m 35 #[.val (.int l0)] [(.int l0)]))
    refine own_by (fun _ kont => XT.bipushV X.here hx rfl (94 : Int32) (hb hby d1_35) rfl kont) ?_
    show own_Go p e below _ (T.setTop (mkF m 37 #[.val (.int l0)] [(.int (94 : Int32)), (.int l0)]))
    by_cases c37 : (94 : Int32) < l0
    · rw [if_pos c37]
      refine own_by (fun _ kont => XS.icmpNo X.here hx rfl (hb hby d1_37) rfl (XT.ii_le_f c37) kont) ?_
      show own_Go p e below _ (T.setTop (mkF m 40 #[.val (.int l0)] []))
      exact w1_40 X hx hby hlk hret hZ hown hw hml N eT l0
    · rw [if_neg c37]
      refine own_by (fun _ kont => XS.icmpYes X.here hx rfl (pc0 := 37) (pc' := 186) rfl (hb hby d1_37) rfl (XT.ii_le_t c37) (by decide) (by decide) kont) ?_
      show own_Go p e below _ (T.setTop (mkF m 186 #[.val (.int l0)] []))
      exact w1_186 X hx hby hlk hret hZ hown hw hml N eT l0
def f1_0 (l0 : Int32) : Int32 := (if l0 < (0 : Int32) then (f1_186 l0) else (if (983039 : Int32) < l0 then (f1_186 l0) else (if (57 : Int32) < l0 then (if l0 < (59 : Int32) then (f1_28 l0) else (if (64 : Int32) < l0 then (f1_28 l0) else (f1_186 l0))) else (f1_186 l0))))
set_option maxRecDepth 65536 in
set_option maxHeartbeats 4000000 in
theorem w1_0 {p : Program} {l : Launch} {e : Env} {s : State} {m : MethodId} {args : Array Value} {below : List Frame} {meth : Method} {c : Code} {T : State} {locs : List Loc} {Z : State} {a0 : Array Value} {n0 : Nat} {h0 : Heap} (X : Stand p l e ({ frames := 0, cells := 0, slots := 0, locals := 0 } : Room) s m args below meth c T locs 0 0) (hx : p.tables.exec = Jvm.exec) (hby : c.code = method_2_code) (hlk : meth.locks = false) (hret : meth.sig.returnType = some .boolean) (hZ : Z.Warmed39 s.vm) (hown : s.vm.findClass "com/example/penelope/penelope/XmlCharsIsNameStartCharPinLaw" = some m.cls) (hw : ∀ d ∈ tables_1, d.before a0 Z = true) (hml : c.maxLocals = 1) (N : Fr n0 locs) (eT : T.heap = h0) (l0 : Int32) :
    own_Go p e below (own_K s (own_Q (.int (f1_0 l0)) h0 n0) 0 0) (T.setTop (mkF m 0 #[.val (.int l0)] [])) := by
  unfold f1_0
  refine own_by (fun _ kont => XS.iloadN X.here hx rfl (hb hby d1_0) rfl kont) ?_
  show own_Go p e below _ (T.setTop (mkF m 1 #[.val (.int l0)] [(.int l0)]))
  by_cases c1 : l0 < (0 : Int32)
  · rw [if_pos c1]
    refine own_by (fun _ kont => XS.ifYes X.here hx rfl (pc0 := 1) (pc' := 186) rfl (hb hby d1_1) rfl (XT.i0_lt_t c1) (by decide) (by decide) kont) ?_
    show own_Go p e below _ (T.setTop (mkF m 186 #[.val (.int l0)] []))
    exact w1_186 X hx hby hlk hret hZ hown hw hml N eT l0
  · rw [if_neg c1]
    refine own_by (fun _ kont => XS.ifNo X.here hx rfl (hb hby d1_1) rfl (XT.i0_lt_f c1) kont) ?_
    show own_Go p e below _ (T.setTop (mkF m 4 #[.val (.int l0)] []))
    refine own_by (fun _ kont => XS.iloadN X.here hx rfl (hb hby d1_4) rfl kont) ?_
    show own_Go p e below _ (T.setTop (mkF m 5 #[.val (.int l0)] [(.int l0)]))
    refine own_by (fun _ kont => X.ldcI hx hown (v := (983039 : Int32)) (mvT hZ (hw _ (List.mem_of_getElem? (i := 7) rfl))) rfl (hb hby d1_5) kont) ?_
    show own_Go p e below _ (T.setTop (mkF m 7 #[.val (.int l0)] [(.int (983039 : Int32)), (.int l0)]))
    by_cases c7 : (983039 : Int32) < l0
    · rw [if_pos c7]
      refine own_by (fun _ kont => XS.icmpYes X.here hx rfl (pc0 := 7) (pc' := 186) rfl (hb hby d1_7) rfl (XT.ii_gt_t c7) (by decide) (by decide) kont) ?_
      show own_Go p e below _ (T.setTop (mkF m 186 #[.val (.int l0)] []))
      exact w1_186 X hx hby hlk hret hZ hown hw hml N eT l0
    · rw [if_neg c7]
      refine own_by (fun _ kont => XS.icmpNo X.here hx rfl (hb hby d1_7) rfl (XT.ii_gt_f c7) kont) ?_
      show own_Go p e below _ (T.setTop (mkF m 10 #[.val (.int l0)] []))
      refine own_by (fun _ kont => XS.iloadN X.here hx rfl (hb hby d1_10) rfl kont) ?_
      show own_Go p e below _ (T.setTop (mkF m 11 #[.val (.int l0)] [(.int l0)]))
      refine own_by (fun _ kont => XT.bipushV X.here hx rfl (57 : Int32) (hb hby d1_11) rfl kont) ?_
      show own_Go p e below _ (T.setTop (mkF m 13 #[.val (.int l0)] [(.int (57 : Int32)), (.int l0)]))
      by_cases c13 : (57 : Int32) < l0
      · rw [if_pos c13]
        refine own_by (fun _ kont => XS.icmpNo X.here hx rfl (hb hby d1_13) rfl (XT.ii_le_f c13) kont) ?_
        show own_Go p e below _ (T.setTop (mkF m 16 #[.val (.int l0)] []))
        refine own_by (fun _ kont => XS.iloadN X.here hx rfl (hb hby d1_16) rfl kont) ?_
        show own_Go p e below _ (T.setTop (mkF m 17 #[.val (.int l0)] [(.int l0)]))
        refine own_by (fun _ kont => XT.bipushV X.here hx rfl (59 : Int32) (hb hby d1_17) rfl kont) ?_
        show own_Go p e below _ (T.setTop (mkF m 19 #[.val (.int l0)] [(.int (59 : Int32)), (.int l0)]))
        by_cases c19 : l0 < (59 : Int32)
        · rw [if_pos c19]
          refine own_by (fun _ kont => XS.icmpYes X.here hx rfl (pc0 := 19) (pc' := 28) rfl (hb hby d1_19) rfl (XT.ii_lt_t c19) (by decide) (by decide) kont) ?_
          show own_Go p e below _ (T.setTop (mkF m 28 #[.val (.int l0)] []))
          exact w1_28 X hx hby hlk hret hZ hown hw hml N eT l0
        · rw [if_neg c19]
          refine own_by (fun _ kont => XS.icmpNo X.here hx rfl (hb hby d1_19) rfl (XT.ii_lt_f c19) kont) ?_
          show own_Go p e below _ (T.setTop (mkF m 22 #[.val (.int l0)] []))
          refine own_by (fun _ kont => XS.iloadN X.here hx rfl (hb hby d1_22) rfl kont) ?_
          show own_Go p e below _ (T.setTop (mkF m 23 #[.val (.int l0)] [(.int l0)]))
          refine own_by (fun _ kont => XT.bipushV X.here hx rfl (64 : Int32) (hb hby d1_23) rfl kont) ?_
          show own_Go p e below _ (T.setTop (mkF m 25 #[.val (.int l0)] [(.int (64 : Int32)), (.int l0)]))
          by_cases c25 : (64 : Int32) < l0
          · rw [if_pos c25]
            refine own_by (fun _ kont => XS.icmpNo X.here hx rfl (hb hby d1_25) rfl (XT.ii_le_f c25) kont) ?_
            show own_Go p e below _ (T.setTop (mkF m 28 #[.val (.int l0)] []))
            exact w1_28 X hx hby hlk hret hZ hown hw hml N eT l0
          · rw [if_neg c25]
            refine own_by (fun _ kont => XS.icmpYes X.here hx rfl (pc0 := 25) (pc' := 186) rfl (hb hby d1_25) rfl (XT.ii_le_t c25) (by decide) (by decide) kont) ?_
            show own_Go p e below _ (T.setTop (mkF m 186 #[.val (.int l0)] []))
            exact w1_186 X hx hby hlk hret hZ hown hw hml N eT l0
      · rw [if_neg c13]
        refine own_by (fun _ kont => XS.icmpYes X.here hx rfl (pc0 := 13) (pc' := 186) rfl (hb hby d1_13) rfl (XT.ii_le_t c13) (by decide) (by decide) kont) ?_
        show own_Go p e below _ (T.setTop (mkF m 186 #[.val (.int l0)] []))
        exact w1_186 X hx hby hlk hret hZ hown hw hml N eT l0
theorem own_ef1 (m : MethodId) (l0 : Int32) : entryFrame m #[(.int l0)] 1 = (mkF m 0 #[.val (.int l0)] []) := by first | (simp [entryFrame, mkF, argsToLocals, Value.category, maxLocals]; done) | rfl
set_option maxRecDepth 65536 in
set_option maxHeartbeats 4000000 in
theorem rm1 (l : Launch) (Z : State) (a0 : Array Value) (hw : ∀ d ∈ tables_1, d.before a0 Z = true) (ws : List Jvm.Cond) (l0 : Int32) (h0 : Heap) (n0 : Nat) :
    MetFree l (⟨"com/example/penelope/penelope/XmlCharsIsNameStartCharPinLaw", "excluded", "(I)Z"⟩ : MethodName) (head1 (Jvm.Cond.code (⟨"com/example/penelope/penelope/XmlCharsIsNameStartCharPinLaw", "excluded", "(I)Z"⟩ : MethodName) method_2_code 1 (some .boolean) :: ws) ({ frames := 0, cells := 0, slots := 0, locals := 0 } : Room)) (fun a U => a = #[(.int l0)] ∧ Z.Warmed39 U.vm ∧ U.heap = h0) (fun _ _ _ _ _ => True) (fun _ U o U' => ∃ v L, o = .returned v ∧ own_Q (.int (f1_0 l0)) h0 n0 v U'.heap L ∧ FrameEnd U o U' L ({ frames := 0, cells := 0, slots := 0, locals := 0 } : Room).cells ({ frames := 0, cells := 0, slots := 0, locals := 0 } : Room).slots) := by
  refine MetFree.of_bodySF (plainFor_of_name own_pn2) hisR ?_
  intro p e s m args below meth c s₁ Bd hml0 hP hK
  obtain ⟨rfl, hZ, hh⟩ := hP
  have hx := Bd.exec
  have hby := Bd.bytes
  have hml : c.maxLocals = 1 := hml0
  have hown : s.vm.findClass "com/example/penelope/penelope/XmlCharsIsNameStartCharPinLaw" = some m.cls := findClass_of_methodNamed Bd.named
  have X0 : Stand p l e ({ frames := 0, cells := 0, slots := 0, locals := 0 } : Room) s m #[(.int l0)] below meth c s₁ [] 0 0 := Stand.of_body Bd
  have e0 : s₁.heap = h0 := by rw [← hh, Bd.state]; rfl
  have N0 := Fr.nil n0
  exact own_by (fun t k => castTop (own_ef1 m l0) k) (w1_0 X0 hx hby Bd.notSynchronized Bd.returns hZ hown hw hml N0 e0 l0)
theorem own_lt {c k : Int32} {n : Int} (hk : k.toInt = n) (h : c.toInt < n) : c < k := by rw [Int32.lt_iff_toInt_lt, hk]; exact h
theorem own_nlt {c k : Int32} {n : Int} (hk : k.toInt = n) (h : ¬ c.toInt < n) : ¬ c < k := by rw [Int32.lt_iff_toInt_lt, hk]; exact h
theorem own_gt {c k : Int32} {n : Int} (hk : k.toInt = n) (h : n < c.toInt) : k < c := by rw [Int32.lt_iff_toInt_lt, hk]; exact h
theorem own_ngt {c k : Int32} {n : Int} (hk : k.toInt = n) (h : ¬ n < c.toInt) : ¬ k < c := by rw [Int32.lt_iff_toInt_lt, hk]; exact h
theorem own_eq {c k : Int32} {n : Int} (hk : k.toInt = n) (h : c.toInt = n) : c = k := Int32.toInt_inj.mp (h.trans hk.symm)
theorem own_ne {c k : Int32} {n : Int} (hk : k.toInt = n) (h : ¬ c.toInt = n) : ¬ c = k := fun q => h (by rw [q, hk])
theorem own_val_0 (c : Int32) (h1 : c.toInt < 0) : f2_0 c = 0 ∧ f1_0 c = 1 := by
  constructor
  · unfold f2_0
    rw [if_pos (own_lt (n := 128) (by decide) (by omega))]
    rw [if_pos (own_lt (n := 97) (by decide) (by omega))]
    unfold f2_19
    rw [if_pos (own_lt (n := 65) (by decide) (by omega))]
    unfold f2_31
    rw [if_neg (own_ne (n := 95) (by decide) (by omega))]
    rw [if_neg (own_ne (n := 58) (by decide) (by omega))]
    unfold f2_47
    all_goals rfl
  · unfold f1_0
    rw [if_pos (own_lt (n := 0) (by decide) (by omega))]
    unfold f1_186
    all_goals rfl
theorem own_val_1 (c : Int32) (h0 : 0 ≤ c.toInt) (h1 : c.toInt < 58) : f2_0 c = 0 ∧ f1_0 c = 1 := by
  constructor
  · unfold f2_0
    rw [if_pos (own_lt (n := 128) (by decide) (by omega))]
    rw [if_pos (own_lt (n := 97) (by decide) (by omega))]
    unfold f2_19
    rw [if_pos (own_lt (n := 65) (by decide) (by omega))]
    unfold f2_31
    rw [if_neg (own_ne (n := 95) (by decide) (by omega))]
    rw [if_neg (own_ne (n := 58) (by decide) (by omega))]
    unfold f2_47
    all_goals rfl
  · unfold f1_0
    rw [if_neg (own_nlt (n := 0) (by decide) (by omega))]
    rw [if_neg (own_ngt (n := 983039) (by decide) (by omega))]
    rw [if_neg (own_ngt (n := 57) (by decide) (by omega))]
    unfold f1_186
    all_goals rfl
theorem own_val_2 (c : Int32) (h0 : 58 ≤ c.toInt) (h1 : c.toInt < 59) : f2_0 c = 1 ∧ f1_0 c = 0 := by
  constructor
  · unfold f2_0
    rw [if_pos (own_lt (n := 128) (by decide) (by omega))]
    rw [if_pos (own_lt (n := 97) (by decide) (by omega))]
    unfold f2_19
    rw [if_pos (own_lt (n := 65) (by decide) (by omega))]
    unfold f2_31
    rw [if_neg (own_ne (n := 95) (by decide) (by omega))]
    rw [if_pos (own_eq (n := 58) (by decide) (by omega))]
    unfold f2_43
    all_goals rfl
  · unfold f1_0
    rw [if_neg (own_nlt (n := 0) (by decide) (by omega))]
    rw [if_neg (own_ngt (n := 983039) (by decide) (by omega))]
    rw [if_pos (own_gt (n := 57) (by decide) (by omega))]
    rw [if_pos (own_lt (n := 59) (by decide) (by omega))]
    unfold f1_28
    rw [if_pos (own_lt (n := 91) (by decide) (by omega))]
    unfold f1_40
    rw [if_neg (own_ne (n := 96) (by decide) (by omega))]
    rw [if_pos (own_lt (n := 123) (by decide) (by omega))]
    unfold f1_59
    rw [if_neg (own_ne (n := 215) (by decide) (by omega))]
    rw [if_neg (own_ne (n := 247) (by decide) (by omega))]
    rw [if_pos (own_lt (n := 768) (by decide) (by omega))]
    unfold f1_87
    rw [if_neg (own_ne (n := 894) (by decide) (by omega))]
    rw [if_pos (own_lt (n := 8192) (by decide) (by omega))]
    unfold f1_108
    rw [if_pos (own_lt (n := 8206) (by decide) (by omega))]
    unfold f1_122
    rw [if_pos (own_lt (n := 8592) (by decide) (by omega))]
    unfold f1_136
    rw [if_pos (own_lt (n := 12272) (by decide) (by omega))]
    unfold f1_150
    rw [if_pos (own_lt (n := 55296) (by decide) (by omega))]
    unfold f1_162
    rw [if_pos (own_lt (n := 64976) (by decide) (by omega))]
    unfold f1_174
    rw [if_neg (own_ne (n := 65534) (by decide) (by omega))]
    rw [if_neg (own_ne (n := 65535) (by decide) (by omega))]
    unfold f1_190
    all_goals rfl
theorem own_val_3 (c : Int32) (h0 : 59 ≤ c.toInt) (h1 : c.toInt < 65) : f2_0 c = 0 ∧ f1_0 c = 1 := by
  constructor
  · unfold f2_0
    rw [if_pos (own_lt (n := 128) (by decide) (by omega))]
    rw [if_pos (own_lt (n := 97) (by decide) (by omega))]
    unfold f2_19
    rw [if_pos (own_lt (n := 65) (by decide) (by omega))]
    unfold f2_31
    rw [if_neg (own_ne (n := 95) (by decide) (by omega))]
    rw [if_neg (own_ne (n := 58) (by decide) (by omega))]
    unfold f2_47
    all_goals rfl
  · unfold f1_0
    rw [if_neg (own_nlt (n := 0) (by decide) (by omega))]
    rw [if_neg (own_ngt (n := 983039) (by decide) (by omega))]
    rw [if_pos (own_gt (n := 57) (by decide) (by omega))]
    rw [if_neg (own_nlt (n := 59) (by decide) (by omega))]
    rw [if_neg (own_ngt (n := 64) (by decide) (by omega))]
    unfold f1_186
    all_goals rfl
theorem own_val_4 (c : Int32) (h0 : 65 ≤ c.toInt) (h1 : c.toInt < 91) : f2_0 c = 1 ∧ f1_0 c = 0 := by
  constructor
  · unfold f2_0
    rw [if_pos (own_lt (n := 128) (by decide) (by omega))]
    rw [if_pos (own_lt (n := 97) (by decide) (by omega))]
    unfold f2_19
    rw [if_neg (own_nlt (n := 65) (by decide) (by omega))]
    rw [if_neg (own_ngt (n := 90) (by decide) (by omega))]
    unfold f2_43
    all_goals rfl
  · unfold f1_0
    rw [if_neg (own_nlt (n := 0) (by decide) (by omega))]
    rw [if_neg (own_ngt (n := 983039) (by decide) (by omega))]
    rw [if_pos (own_gt (n := 57) (by decide) (by omega))]
    rw [if_neg (own_nlt (n := 59) (by decide) (by omega))]
    rw [if_pos (own_gt (n := 64) (by decide) (by omega))]
    unfold f1_28
    rw [if_pos (own_lt (n := 91) (by decide) (by omega))]
    unfold f1_40
    rw [if_neg (own_ne (n := 96) (by decide) (by omega))]
    rw [if_pos (own_lt (n := 123) (by decide) (by omega))]
    unfold f1_59
    rw [if_neg (own_ne (n := 215) (by decide) (by omega))]
    rw [if_neg (own_ne (n := 247) (by decide) (by omega))]
    rw [if_pos (own_lt (n := 768) (by decide) (by omega))]
    unfold f1_87
    rw [if_neg (own_ne (n := 894) (by decide) (by omega))]
    rw [if_pos (own_lt (n := 8192) (by decide) (by omega))]
    unfold f1_108
    rw [if_pos (own_lt (n := 8206) (by decide) (by omega))]
    unfold f1_122
    rw [if_pos (own_lt (n := 8592) (by decide) (by omega))]
    unfold f1_136
    rw [if_pos (own_lt (n := 12272) (by decide) (by omega))]
    unfold f1_150
    rw [if_pos (own_lt (n := 55296) (by decide) (by omega))]
    unfold f1_162
    rw [if_pos (own_lt (n := 64976) (by decide) (by omega))]
    unfold f1_174
    rw [if_neg (own_ne (n := 65534) (by decide) (by omega))]
    rw [if_neg (own_ne (n := 65535) (by decide) (by omega))]
    unfold f1_190
    all_goals rfl
theorem own_val_5 (c : Int32) (h0 : 91 ≤ c.toInt) (h1 : c.toInt < 95) : f2_0 c = 0 ∧ f1_0 c = 1 := by
  constructor
  · unfold f2_0
    rw [if_pos (own_lt (n := 128) (by decide) (by omega))]
    rw [if_pos (own_lt (n := 97) (by decide) (by omega))]
    unfold f2_19
    rw [if_neg (own_nlt (n := 65) (by decide) (by omega))]
    rw [if_pos (own_gt (n := 90) (by decide) (by omega))]
    unfold f2_31
    rw [if_neg (own_ne (n := 95) (by decide) (by omega))]
    rw [if_neg (own_ne (n := 58) (by decide) (by omega))]
    unfold f2_47
    all_goals rfl
  · unfold f1_0
    rw [if_neg (own_nlt (n := 0) (by decide) (by omega))]
    rw [if_neg (own_ngt (n := 983039) (by decide) (by omega))]
    rw [if_pos (own_gt (n := 57) (by decide) (by omega))]
    rw [if_neg (own_nlt (n := 59) (by decide) (by omega))]
    rw [if_pos (own_gt (n := 64) (by decide) (by omega))]
    unfold f1_28
    rw [if_neg (own_nlt (n := 91) (by decide) (by omega))]
    rw [if_neg (own_ngt (n := 94) (by decide) (by omega))]
    unfold f1_186
    all_goals rfl
theorem own_val_6 (c : Int32) (h0 : 95 ≤ c.toInt) (h1 : c.toInt < 96) : f2_0 c = 1 ∧ f1_0 c = 0 := by
  constructor
  · unfold f2_0
    rw [if_pos (own_lt (n := 128) (by decide) (by omega))]
    rw [if_pos (own_lt (n := 97) (by decide) (by omega))]
    unfold f2_19
    rw [if_neg (own_nlt (n := 65) (by decide) (by omega))]
    rw [if_pos (own_gt (n := 90) (by decide) (by omega))]
    unfold f2_31
    rw [if_pos (own_eq (n := 95) (by decide) (by omega))]
    unfold f2_43
    all_goals rfl
  · unfold f1_0
    rw [if_neg (own_nlt (n := 0) (by decide) (by omega))]
    rw [if_neg (own_ngt (n := 983039) (by decide) (by omega))]
    rw [if_pos (own_gt (n := 57) (by decide) (by omega))]
    rw [if_neg (own_nlt (n := 59) (by decide) (by omega))]
    rw [if_pos (own_gt (n := 64) (by decide) (by omega))]
    unfold f1_28
    rw [if_neg (own_nlt (n := 91) (by decide) (by omega))]
    rw [if_pos (own_gt (n := 94) (by decide) (by omega))]
    unfold f1_40
    rw [if_neg (own_ne (n := 96) (by decide) (by omega))]
    rw [if_pos (own_lt (n := 123) (by decide) (by omega))]
    unfold f1_59
    rw [if_neg (own_ne (n := 215) (by decide) (by omega))]
    rw [if_neg (own_ne (n := 247) (by decide) (by omega))]
    rw [if_pos (own_lt (n := 768) (by decide) (by omega))]
    unfold f1_87
    rw [if_neg (own_ne (n := 894) (by decide) (by omega))]
    rw [if_pos (own_lt (n := 8192) (by decide) (by omega))]
    unfold f1_108
    rw [if_pos (own_lt (n := 8206) (by decide) (by omega))]
    unfold f1_122
    rw [if_pos (own_lt (n := 8592) (by decide) (by omega))]
    unfold f1_136
    rw [if_pos (own_lt (n := 12272) (by decide) (by omega))]
    unfold f1_150
    rw [if_pos (own_lt (n := 55296) (by decide) (by omega))]
    unfold f1_162
    rw [if_pos (own_lt (n := 64976) (by decide) (by omega))]
    unfold f1_174
    rw [if_neg (own_ne (n := 65534) (by decide) (by omega))]
    rw [if_neg (own_ne (n := 65535) (by decide) (by omega))]
    unfold f1_190
    all_goals rfl
theorem own_val_7 (c : Int32) (h0 : 96 ≤ c.toInt) (h1 : c.toInt < 97) : f2_0 c = 0 ∧ f1_0 c = 1 := by
  constructor
  · unfold f2_0
    rw [if_pos (own_lt (n := 128) (by decide) (by omega))]
    rw [if_pos (own_lt (n := 97) (by decide) (by omega))]
    unfold f2_19
    rw [if_neg (own_nlt (n := 65) (by decide) (by omega))]
    rw [if_pos (own_gt (n := 90) (by decide) (by omega))]
    unfold f2_31
    rw [if_neg (own_ne (n := 95) (by decide) (by omega))]
    rw [if_neg (own_ne (n := 58) (by decide) (by omega))]
    unfold f2_47
    all_goals rfl
  · unfold f1_0
    rw [if_neg (own_nlt (n := 0) (by decide) (by omega))]
    rw [if_neg (own_ngt (n := 983039) (by decide) (by omega))]
    rw [if_pos (own_gt (n := 57) (by decide) (by omega))]
    rw [if_neg (own_nlt (n := 59) (by decide) (by omega))]
    rw [if_pos (own_gt (n := 64) (by decide) (by omega))]
    unfold f1_28
    rw [if_neg (own_nlt (n := 91) (by decide) (by omega))]
    rw [if_pos (own_gt (n := 94) (by decide) (by omega))]
    unfold f1_40
    rw [if_pos (own_eq (n := 96) (by decide) (by omega))]
    unfold f1_186
    all_goals rfl
theorem own_val_8 (c : Int32) (h0 : 97 ≤ c.toInt) (h1 : c.toInt < 123) : f2_0 c = 1 ∧ f1_0 c = 0 := by
  constructor
  · unfold f2_0
    rw [if_pos (own_lt (n := 128) (by decide) (by omega))]
    rw [if_neg (own_nlt (n := 97) (by decide) (by omega))]
    rw [if_neg (own_ngt (n := 122) (by decide) (by omega))]
    unfold f2_43
    all_goals rfl
  · unfold f1_0
    rw [if_neg (own_nlt (n := 0) (by decide) (by omega))]
    rw [if_neg (own_ngt (n := 983039) (by decide) (by omega))]
    rw [if_pos (own_gt (n := 57) (by decide) (by omega))]
    rw [if_neg (own_nlt (n := 59) (by decide) (by omega))]
    rw [if_pos (own_gt (n := 64) (by decide) (by omega))]
    unfold f1_28
    rw [if_neg (own_nlt (n := 91) (by decide) (by omega))]
    rw [if_pos (own_gt (n := 94) (by decide) (by omega))]
    unfold f1_40
    rw [if_neg (own_ne (n := 96) (by decide) (by omega))]
    rw [if_pos (own_lt (n := 123) (by decide) (by omega))]
    unfold f1_59
    rw [if_neg (own_ne (n := 215) (by decide) (by omega))]
    rw [if_neg (own_ne (n := 247) (by decide) (by omega))]
    rw [if_pos (own_lt (n := 768) (by decide) (by omega))]
    unfold f1_87
    rw [if_neg (own_ne (n := 894) (by decide) (by omega))]
    rw [if_pos (own_lt (n := 8192) (by decide) (by omega))]
    unfold f1_108
    rw [if_pos (own_lt (n := 8206) (by decide) (by omega))]
    unfold f1_122
    rw [if_pos (own_lt (n := 8592) (by decide) (by omega))]
    unfold f1_136
    rw [if_pos (own_lt (n := 12272) (by decide) (by omega))]
    unfold f1_150
    rw [if_pos (own_lt (n := 55296) (by decide) (by omega))]
    unfold f1_162
    rw [if_pos (own_lt (n := 64976) (by decide) (by omega))]
    unfold f1_174
    rw [if_neg (own_ne (n := 65534) (by decide) (by omega))]
    rw [if_neg (own_ne (n := 65535) (by decide) (by omega))]
    unfold f1_190
    all_goals rfl
theorem own_val_9 (c : Int32) (h0 : 123 ≤ c.toInt) (h1 : c.toInt < 128) : f2_0 c = 0 ∧ f1_0 c = 1 := by
  constructor
  · unfold f2_0
    rw [if_pos (own_lt (n := 128) (by decide) (by omega))]
    rw [if_neg (own_nlt (n := 97) (by decide) (by omega))]
    rw [if_pos (own_gt (n := 122) (by decide) (by omega))]
    unfold f2_19
    rw [if_neg (own_nlt (n := 65) (by decide) (by omega))]
    rw [if_pos (own_gt (n := 90) (by decide) (by omega))]
    unfold f2_31
    rw [if_neg (own_ne (n := 95) (by decide) (by omega))]
    rw [if_neg (own_ne (n := 58) (by decide) (by omega))]
    unfold f2_47
    all_goals rfl
  · unfold f1_0
    rw [if_neg (own_nlt (n := 0) (by decide) (by omega))]
    rw [if_neg (own_ngt (n := 983039) (by decide) (by omega))]
    rw [if_pos (own_gt (n := 57) (by decide) (by omega))]
    rw [if_neg (own_nlt (n := 59) (by decide) (by omega))]
    rw [if_pos (own_gt (n := 64) (by decide) (by omega))]
    unfold f1_28
    rw [if_neg (own_nlt (n := 91) (by decide) (by omega))]
    rw [if_pos (own_gt (n := 94) (by decide) (by omega))]
    unfold f1_40
    rw [if_neg (own_ne (n := 96) (by decide) (by omega))]
    rw [if_neg (own_nlt (n := 123) (by decide) (by omega))]
    rw [if_neg (own_ngt (n := 191) (by decide) (by omega))]
    unfold f1_186
    all_goals rfl
theorem own_val_10 (c : Int32) (h0 : 128 ≤ c.toInt) (h1 : c.toInt < 192) : f2_0 c = 0 ∧ f1_0 c = 1 := by
  constructor
  · unfold f2_0
    rw [if_neg (own_nlt (n := 128) (by decide) (by omega))]
    unfold f2_49
    rw [if_pos (own_lt (n := 192) (by decide) (by omega))]
    unfold f2_63
    rw [if_pos (own_lt (n := 216) (by decide) (by omega))]
    unfold f2_77
    rw [if_pos (own_lt (n := 248) (by decide) (by omega))]
    unfold f2_91
    rw [if_pos (own_lt (n := 880) (by decide) (by omega))]
    unfold f2_105
    rw [if_pos (own_lt (n := 895) (by decide) (by omega))]
    unfold f2_119
    rw [if_pos (own_lt (n := 8204) (by decide) (by omega))]
    unfold f2_133
    rw [if_pos (own_lt (n := 8304) (by decide) (by omega))]
    unfold f2_147
    rw [if_pos (own_lt (n := 11264) (by decide) (by omega))]
    unfold f2_161
    rw [if_pos (own_lt (n := 12289) (by decide) (by omega))]
    unfold f2_174
    rw [if_pos (own_lt (n := 63744) (by decide) (by omega))]
    unfold f2_186
    rw [if_pos (own_lt (n := 65008) (by decide) (by omega))]
    unfold f2_198
    rw [if_pos (own_lt (n := 65536) (by decide) (by omega))]
    unfold f2_214
    all_goals rfl
  · unfold f1_0
    rw [if_neg (own_nlt (n := 0) (by decide) (by omega))]
    rw [if_neg (own_ngt (n := 983039) (by decide) (by omega))]
    rw [if_pos (own_gt (n := 57) (by decide) (by omega))]
    rw [if_neg (own_nlt (n := 59) (by decide) (by omega))]
    rw [if_pos (own_gt (n := 64) (by decide) (by omega))]
    unfold f1_28
    rw [if_neg (own_nlt (n := 91) (by decide) (by omega))]
    rw [if_pos (own_gt (n := 94) (by decide) (by omega))]
    unfold f1_40
    rw [if_neg (own_ne (n := 96) (by decide) (by omega))]
    rw [if_neg (own_nlt (n := 123) (by decide) (by omega))]
    rw [if_neg (own_ngt (n := 191) (by decide) (by omega))]
    unfold f1_186
    all_goals rfl
theorem own_val_11 (c : Int32) (h0 : 192 ≤ c.toInt) (h1 : c.toInt < 215) : f2_0 c = 1 ∧ f1_0 c = 0 := by
  constructor
  · unfold f2_0
    rw [if_neg (own_nlt (n := 128) (by decide) (by omega))]
    unfold f2_49
    rw [if_neg (own_nlt (n := 192) (by decide) (by omega))]
    rw [if_neg (own_ngt (n := 214) (by decide) (by omega))]
    unfold f2_210
    all_goals rfl
  · unfold f1_0
    rw [if_neg (own_nlt (n := 0) (by decide) (by omega))]
    rw [if_neg (own_ngt (n := 983039) (by decide) (by omega))]
    rw [if_pos (own_gt (n := 57) (by decide) (by omega))]
    rw [if_neg (own_nlt (n := 59) (by decide) (by omega))]
    rw [if_pos (own_gt (n := 64) (by decide) (by omega))]
    unfold f1_28
    rw [if_neg (own_nlt (n := 91) (by decide) (by omega))]
    rw [if_pos (own_gt (n := 94) (by decide) (by omega))]
    unfold f1_40
    rw [if_neg (own_ne (n := 96) (by decide) (by omega))]
    rw [if_neg (own_nlt (n := 123) (by decide) (by omega))]
    rw [if_pos (own_gt (n := 191) (by decide) (by omega))]
    unfold f1_59
    rw [if_neg (own_ne (n := 215) (by decide) (by omega))]
    rw [if_neg (own_ne (n := 247) (by decide) (by omega))]
    rw [if_pos (own_lt (n := 768) (by decide) (by omega))]
    unfold f1_87
    rw [if_neg (own_ne (n := 894) (by decide) (by omega))]
    rw [if_pos (own_lt (n := 8192) (by decide) (by omega))]
    unfold f1_108
    rw [if_pos (own_lt (n := 8206) (by decide) (by omega))]
    unfold f1_122
    rw [if_pos (own_lt (n := 8592) (by decide) (by omega))]
    unfold f1_136
    rw [if_pos (own_lt (n := 12272) (by decide) (by omega))]
    unfold f1_150
    rw [if_pos (own_lt (n := 55296) (by decide) (by omega))]
    unfold f1_162
    rw [if_pos (own_lt (n := 64976) (by decide) (by omega))]
    unfold f1_174
    rw [if_neg (own_ne (n := 65534) (by decide) (by omega))]
    rw [if_neg (own_ne (n := 65535) (by decide) (by omega))]
    unfold f1_190
    all_goals rfl
theorem own_val_12 (c : Int32) (h0 : 215 ≤ c.toInt) (h1 : c.toInt < 216) : f2_0 c = 0 ∧ f1_0 c = 1 := by
  constructor
  · unfold f2_0
    rw [if_neg (own_nlt (n := 128) (by decide) (by omega))]
    unfold f2_49
    rw [if_neg (own_nlt (n := 192) (by decide) (by omega))]
    rw [if_pos (own_gt (n := 214) (by decide) (by omega))]
    unfold f2_63
    rw [if_pos (own_lt (n := 216) (by decide) (by omega))]
    unfold f2_77
    rw [if_pos (own_lt (n := 248) (by decide) (by omega))]
    unfold f2_91
    rw [if_pos (own_lt (n := 880) (by decide) (by omega))]
    unfold f2_105
    rw [if_pos (own_lt (n := 895) (by decide) (by omega))]
    unfold f2_119
    rw [if_pos (own_lt (n := 8204) (by decide) (by omega))]
    unfold f2_133
    rw [if_pos (own_lt (n := 8304) (by decide) (by omega))]
    unfold f2_147
    rw [if_pos (own_lt (n := 11264) (by decide) (by omega))]
    unfold f2_161
    rw [if_pos (own_lt (n := 12289) (by decide) (by omega))]
    unfold f2_174
    rw [if_pos (own_lt (n := 63744) (by decide) (by omega))]
    unfold f2_186
    rw [if_pos (own_lt (n := 65008) (by decide) (by omega))]
    unfold f2_198
    rw [if_pos (own_lt (n := 65536) (by decide) (by omega))]
    unfold f2_214
    all_goals rfl
  · unfold f1_0
    rw [if_neg (own_nlt (n := 0) (by decide) (by omega))]
    rw [if_neg (own_ngt (n := 983039) (by decide) (by omega))]
    rw [if_pos (own_gt (n := 57) (by decide) (by omega))]
    rw [if_neg (own_nlt (n := 59) (by decide) (by omega))]
    rw [if_pos (own_gt (n := 64) (by decide) (by omega))]
    unfold f1_28
    rw [if_neg (own_nlt (n := 91) (by decide) (by omega))]
    rw [if_pos (own_gt (n := 94) (by decide) (by omega))]
    unfold f1_40
    rw [if_neg (own_ne (n := 96) (by decide) (by omega))]
    rw [if_neg (own_nlt (n := 123) (by decide) (by omega))]
    rw [if_pos (own_gt (n := 191) (by decide) (by omega))]
    unfold f1_59
    rw [if_pos (own_eq (n := 215) (by decide) (by omega))]
    unfold f1_186
    all_goals rfl
theorem own_val_13 (c : Int32) (h0 : 216 ≤ c.toInt) (h1 : c.toInt < 247) : f2_0 c = 1 ∧ f1_0 c = 0 := by
  constructor
  · unfold f2_0
    rw [if_neg (own_nlt (n := 128) (by decide) (by omega))]
    unfold f2_49
    rw [if_neg (own_nlt (n := 192) (by decide) (by omega))]
    rw [if_pos (own_gt (n := 214) (by decide) (by omega))]
    unfold f2_63
    rw [if_neg (own_nlt (n := 216) (by decide) (by omega))]
    rw [if_neg (own_ngt (n := 246) (by decide) (by omega))]
    unfold f2_210
    all_goals rfl
  · unfold f1_0
    rw [if_neg (own_nlt (n := 0) (by decide) (by omega))]
    rw [if_neg (own_ngt (n := 983039) (by decide) (by omega))]
    rw [if_pos (own_gt (n := 57) (by decide) (by omega))]
    rw [if_neg (own_nlt (n := 59) (by decide) (by omega))]
    rw [if_pos (own_gt (n := 64) (by decide) (by omega))]
    unfold f1_28
    rw [if_neg (own_nlt (n := 91) (by decide) (by omega))]
    rw [if_pos (own_gt (n := 94) (by decide) (by omega))]
    unfold f1_40
    rw [if_neg (own_ne (n := 96) (by decide) (by omega))]
    rw [if_neg (own_nlt (n := 123) (by decide) (by omega))]
    rw [if_pos (own_gt (n := 191) (by decide) (by omega))]
    unfold f1_59
    rw [if_neg (own_ne (n := 215) (by decide) (by omega))]
    rw [if_neg (own_ne (n := 247) (by decide) (by omega))]
    rw [if_pos (own_lt (n := 768) (by decide) (by omega))]
    unfold f1_87
    rw [if_neg (own_ne (n := 894) (by decide) (by omega))]
    rw [if_pos (own_lt (n := 8192) (by decide) (by omega))]
    unfold f1_108
    rw [if_pos (own_lt (n := 8206) (by decide) (by omega))]
    unfold f1_122
    rw [if_pos (own_lt (n := 8592) (by decide) (by omega))]
    unfold f1_136
    rw [if_pos (own_lt (n := 12272) (by decide) (by omega))]
    unfold f1_150
    rw [if_pos (own_lt (n := 55296) (by decide) (by omega))]
    unfold f1_162
    rw [if_pos (own_lt (n := 64976) (by decide) (by omega))]
    unfold f1_174
    rw [if_neg (own_ne (n := 65534) (by decide) (by omega))]
    rw [if_neg (own_ne (n := 65535) (by decide) (by omega))]
    unfold f1_190
    all_goals rfl
theorem own_val_14 (c : Int32) (h0 : 247 ≤ c.toInt) (h1 : c.toInt < 248) : f2_0 c = 0 ∧ f1_0 c = 1 := by
  constructor
  · unfold f2_0
    rw [if_neg (own_nlt (n := 128) (by decide) (by omega))]
    unfold f2_49
    rw [if_neg (own_nlt (n := 192) (by decide) (by omega))]
    rw [if_pos (own_gt (n := 214) (by decide) (by omega))]
    unfold f2_63
    rw [if_neg (own_nlt (n := 216) (by decide) (by omega))]
    rw [if_pos (own_gt (n := 246) (by decide) (by omega))]
    unfold f2_77
    rw [if_pos (own_lt (n := 248) (by decide) (by omega))]
    unfold f2_91
    rw [if_pos (own_lt (n := 880) (by decide) (by omega))]
    unfold f2_105
    rw [if_pos (own_lt (n := 895) (by decide) (by omega))]
    unfold f2_119
    rw [if_pos (own_lt (n := 8204) (by decide) (by omega))]
    unfold f2_133
    rw [if_pos (own_lt (n := 8304) (by decide) (by omega))]
    unfold f2_147
    rw [if_pos (own_lt (n := 11264) (by decide) (by omega))]
    unfold f2_161
    rw [if_pos (own_lt (n := 12289) (by decide) (by omega))]
    unfold f2_174
    rw [if_pos (own_lt (n := 63744) (by decide) (by omega))]
    unfold f2_186
    rw [if_pos (own_lt (n := 65008) (by decide) (by omega))]
    unfold f2_198
    rw [if_pos (own_lt (n := 65536) (by decide) (by omega))]
    unfold f2_214
    all_goals rfl
  · unfold f1_0
    rw [if_neg (own_nlt (n := 0) (by decide) (by omega))]
    rw [if_neg (own_ngt (n := 983039) (by decide) (by omega))]
    rw [if_pos (own_gt (n := 57) (by decide) (by omega))]
    rw [if_neg (own_nlt (n := 59) (by decide) (by omega))]
    rw [if_pos (own_gt (n := 64) (by decide) (by omega))]
    unfold f1_28
    rw [if_neg (own_nlt (n := 91) (by decide) (by omega))]
    rw [if_pos (own_gt (n := 94) (by decide) (by omega))]
    unfold f1_40
    rw [if_neg (own_ne (n := 96) (by decide) (by omega))]
    rw [if_neg (own_nlt (n := 123) (by decide) (by omega))]
    rw [if_pos (own_gt (n := 191) (by decide) (by omega))]
    unfold f1_59
    rw [if_neg (own_ne (n := 215) (by decide) (by omega))]
    rw [if_pos (own_eq (n := 247) (by decide) (by omega))]
    unfold f1_186
    all_goals rfl
theorem own_val_15 (c : Int32) (h0 : 248 ≤ c.toInt) (h1 : c.toInt < 768) : f2_0 c = 1 ∧ f1_0 c = 0 := by
  constructor
  · unfold f2_0
    rw [if_neg (own_nlt (n := 128) (by decide) (by omega))]
    unfold f2_49
    rw [if_neg (own_nlt (n := 192) (by decide) (by omega))]
    rw [if_pos (own_gt (n := 214) (by decide) (by omega))]
    unfold f2_63
    rw [if_neg (own_nlt (n := 216) (by decide) (by omega))]
    rw [if_pos (own_gt (n := 246) (by decide) (by omega))]
    unfold f2_77
    rw [if_neg (own_nlt (n := 248) (by decide) (by omega))]
    rw [if_neg (own_ngt (n := 767) (by decide) (by omega))]
    unfold f2_210
    all_goals rfl
  · unfold f1_0
    rw [if_neg (own_nlt (n := 0) (by decide) (by omega))]
    rw [if_neg (own_ngt (n := 983039) (by decide) (by omega))]
    rw [if_pos (own_gt (n := 57) (by decide) (by omega))]
    rw [if_neg (own_nlt (n := 59) (by decide) (by omega))]
    rw [if_pos (own_gt (n := 64) (by decide) (by omega))]
    unfold f1_28
    rw [if_neg (own_nlt (n := 91) (by decide) (by omega))]
    rw [if_pos (own_gt (n := 94) (by decide) (by omega))]
    unfold f1_40
    rw [if_neg (own_ne (n := 96) (by decide) (by omega))]
    rw [if_neg (own_nlt (n := 123) (by decide) (by omega))]
    rw [if_pos (own_gt (n := 191) (by decide) (by omega))]
    unfold f1_59
    rw [if_neg (own_ne (n := 215) (by decide) (by omega))]
    rw [if_neg (own_ne (n := 247) (by decide) (by omega))]
    rw [if_pos (own_lt (n := 768) (by decide) (by omega))]
    unfold f1_87
    rw [if_neg (own_ne (n := 894) (by decide) (by omega))]
    rw [if_pos (own_lt (n := 8192) (by decide) (by omega))]
    unfold f1_108
    rw [if_pos (own_lt (n := 8206) (by decide) (by omega))]
    unfold f1_122
    rw [if_pos (own_lt (n := 8592) (by decide) (by omega))]
    unfold f1_136
    rw [if_pos (own_lt (n := 12272) (by decide) (by omega))]
    unfold f1_150
    rw [if_pos (own_lt (n := 55296) (by decide) (by omega))]
    unfold f1_162
    rw [if_pos (own_lt (n := 64976) (by decide) (by omega))]
    unfold f1_174
    rw [if_neg (own_ne (n := 65534) (by decide) (by omega))]
    rw [if_neg (own_ne (n := 65535) (by decide) (by omega))]
    unfold f1_190
    all_goals rfl
theorem own_val_16 (c : Int32) (h0 : 768 ≤ c.toInt) (h1 : c.toInt < 880) : f2_0 c = 0 ∧ f1_0 c = 1 := by
  constructor
  · unfold f2_0
    rw [if_neg (own_nlt (n := 128) (by decide) (by omega))]
    unfold f2_49
    rw [if_neg (own_nlt (n := 192) (by decide) (by omega))]
    rw [if_pos (own_gt (n := 214) (by decide) (by omega))]
    unfold f2_63
    rw [if_neg (own_nlt (n := 216) (by decide) (by omega))]
    rw [if_pos (own_gt (n := 246) (by decide) (by omega))]
    unfold f2_77
    rw [if_neg (own_nlt (n := 248) (by decide) (by omega))]
    rw [if_pos (own_gt (n := 767) (by decide) (by omega))]
    unfold f2_91
    rw [if_pos (own_lt (n := 880) (by decide) (by omega))]
    unfold f2_105
    rw [if_pos (own_lt (n := 895) (by decide) (by omega))]
    unfold f2_119
    rw [if_pos (own_lt (n := 8204) (by decide) (by omega))]
    unfold f2_133
    rw [if_pos (own_lt (n := 8304) (by decide) (by omega))]
    unfold f2_147
    rw [if_pos (own_lt (n := 11264) (by decide) (by omega))]
    unfold f2_161
    rw [if_pos (own_lt (n := 12289) (by decide) (by omega))]
    unfold f2_174
    rw [if_pos (own_lt (n := 63744) (by decide) (by omega))]
    unfold f2_186
    rw [if_pos (own_lt (n := 65008) (by decide) (by omega))]
    unfold f2_198
    rw [if_pos (own_lt (n := 65536) (by decide) (by omega))]
    unfold f2_214
    all_goals rfl
  · unfold f1_0
    rw [if_neg (own_nlt (n := 0) (by decide) (by omega))]
    rw [if_neg (own_ngt (n := 983039) (by decide) (by omega))]
    rw [if_pos (own_gt (n := 57) (by decide) (by omega))]
    rw [if_neg (own_nlt (n := 59) (by decide) (by omega))]
    rw [if_pos (own_gt (n := 64) (by decide) (by omega))]
    unfold f1_28
    rw [if_neg (own_nlt (n := 91) (by decide) (by omega))]
    rw [if_pos (own_gt (n := 94) (by decide) (by omega))]
    unfold f1_40
    rw [if_neg (own_ne (n := 96) (by decide) (by omega))]
    rw [if_neg (own_nlt (n := 123) (by decide) (by omega))]
    rw [if_pos (own_gt (n := 191) (by decide) (by omega))]
    unfold f1_59
    rw [if_neg (own_ne (n := 215) (by decide) (by omega))]
    rw [if_neg (own_ne (n := 247) (by decide) (by omega))]
    rw [if_neg (own_nlt (n := 768) (by decide) (by omega))]
    rw [if_neg (own_ngt (n := 879) (by decide) (by omega))]
    unfold f1_186
    all_goals rfl
theorem own_val_17 (c : Int32) (h0 : 880 ≤ c.toInt) (h1 : c.toInt < 894) : f2_0 c = 1 ∧ f1_0 c = 0 := by
  constructor
  · unfold f2_0
    rw [if_neg (own_nlt (n := 128) (by decide) (by omega))]
    unfold f2_49
    rw [if_neg (own_nlt (n := 192) (by decide) (by omega))]
    rw [if_pos (own_gt (n := 214) (by decide) (by omega))]
    unfold f2_63
    rw [if_neg (own_nlt (n := 216) (by decide) (by omega))]
    rw [if_pos (own_gt (n := 246) (by decide) (by omega))]
    unfold f2_77
    rw [if_neg (own_nlt (n := 248) (by decide) (by omega))]
    rw [if_pos (own_gt (n := 767) (by decide) (by omega))]
    unfold f2_91
    rw [if_neg (own_nlt (n := 880) (by decide) (by omega))]
    rw [if_neg (own_ngt (n := 893) (by decide) (by omega))]
    unfold f2_210
    all_goals rfl
  · unfold f1_0
    rw [if_neg (own_nlt (n := 0) (by decide) (by omega))]
    rw [if_neg (own_ngt (n := 983039) (by decide) (by omega))]
    rw [if_pos (own_gt (n := 57) (by decide) (by omega))]
    rw [if_neg (own_nlt (n := 59) (by decide) (by omega))]
    rw [if_pos (own_gt (n := 64) (by decide) (by omega))]
    unfold f1_28
    rw [if_neg (own_nlt (n := 91) (by decide) (by omega))]
    rw [if_pos (own_gt (n := 94) (by decide) (by omega))]
    unfold f1_40
    rw [if_neg (own_ne (n := 96) (by decide) (by omega))]
    rw [if_neg (own_nlt (n := 123) (by decide) (by omega))]
    rw [if_pos (own_gt (n := 191) (by decide) (by omega))]
    unfold f1_59
    rw [if_neg (own_ne (n := 215) (by decide) (by omega))]
    rw [if_neg (own_ne (n := 247) (by decide) (by omega))]
    rw [if_neg (own_nlt (n := 768) (by decide) (by omega))]
    rw [if_pos (own_gt (n := 879) (by decide) (by omega))]
    unfold f1_87
    rw [if_neg (own_ne (n := 894) (by decide) (by omega))]
    rw [if_pos (own_lt (n := 8192) (by decide) (by omega))]
    unfold f1_108
    rw [if_pos (own_lt (n := 8206) (by decide) (by omega))]
    unfold f1_122
    rw [if_pos (own_lt (n := 8592) (by decide) (by omega))]
    unfold f1_136
    rw [if_pos (own_lt (n := 12272) (by decide) (by omega))]
    unfold f1_150
    rw [if_pos (own_lt (n := 55296) (by decide) (by omega))]
    unfold f1_162
    rw [if_pos (own_lt (n := 64976) (by decide) (by omega))]
    unfold f1_174
    rw [if_neg (own_ne (n := 65534) (by decide) (by omega))]
    rw [if_neg (own_ne (n := 65535) (by decide) (by omega))]
    unfold f1_190
    all_goals rfl
theorem own_val_18 (c : Int32) (h0 : 894 ≤ c.toInt) (h1 : c.toInt < 895) : f2_0 c = 0 ∧ f1_0 c = 1 := by
  constructor
  · unfold f2_0
    rw [if_neg (own_nlt (n := 128) (by decide) (by omega))]
    unfold f2_49
    rw [if_neg (own_nlt (n := 192) (by decide) (by omega))]
    rw [if_pos (own_gt (n := 214) (by decide) (by omega))]
    unfold f2_63
    rw [if_neg (own_nlt (n := 216) (by decide) (by omega))]
    rw [if_pos (own_gt (n := 246) (by decide) (by omega))]
    unfold f2_77
    rw [if_neg (own_nlt (n := 248) (by decide) (by omega))]
    rw [if_pos (own_gt (n := 767) (by decide) (by omega))]
    unfold f2_91
    rw [if_neg (own_nlt (n := 880) (by decide) (by omega))]
    rw [if_pos (own_gt (n := 893) (by decide) (by omega))]
    unfold f2_105
    rw [if_pos (own_lt (n := 895) (by decide) (by omega))]
    unfold f2_119
    rw [if_pos (own_lt (n := 8204) (by decide) (by omega))]
    unfold f2_133
    rw [if_pos (own_lt (n := 8304) (by decide) (by omega))]
    unfold f2_147
    rw [if_pos (own_lt (n := 11264) (by decide) (by omega))]
    unfold f2_161
    rw [if_pos (own_lt (n := 12289) (by decide) (by omega))]
    unfold f2_174
    rw [if_pos (own_lt (n := 63744) (by decide) (by omega))]
    unfold f2_186
    rw [if_pos (own_lt (n := 65008) (by decide) (by omega))]
    unfold f2_198
    rw [if_pos (own_lt (n := 65536) (by decide) (by omega))]
    unfold f2_214
    all_goals rfl
  · unfold f1_0
    rw [if_neg (own_nlt (n := 0) (by decide) (by omega))]
    rw [if_neg (own_ngt (n := 983039) (by decide) (by omega))]
    rw [if_pos (own_gt (n := 57) (by decide) (by omega))]
    rw [if_neg (own_nlt (n := 59) (by decide) (by omega))]
    rw [if_pos (own_gt (n := 64) (by decide) (by omega))]
    unfold f1_28
    rw [if_neg (own_nlt (n := 91) (by decide) (by omega))]
    rw [if_pos (own_gt (n := 94) (by decide) (by omega))]
    unfold f1_40
    rw [if_neg (own_ne (n := 96) (by decide) (by omega))]
    rw [if_neg (own_nlt (n := 123) (by decide) (by omega))]
    rw [if_pos (own_gt (n := 191) (by decide) (by omega))]
    unfold f1_59
    rw [if_neg (own_ne (n := 215) (by decide) (by omega))]
    rw [if_neg (own_ne (n := 247) (by decide) (by omega))]
    rw [if_neg (own_nlt (n := 768) (by decide) (by omega))]
    rw [if_pos (own_gt (n := 879) (by decide) (by omega))]
    unfold f1_87
    rw [if_pos (own_eq (n := 894) (by decide) (by omega))]
    unfold f1_186
    all_goals rfl
theorem own_val_19 (c : Int32) (h0 : 895 ≤ c.toInt) (h1 : c.toInt < 8192) : f2_0 c = 1 ∧ f1_0 c = 0 := by
  constructor
  · unfold f2_0
    rw [if_neg (own_nlt (n := 128) (by decide) (by omega))]
    unfold f2_49
    rw [if_neg (own_nlt (n := 192) (by decide) (by omega))]
    rw [if_pos (own_gt (n := 214) (by decide) (by omega))]
    unfold f2_63
    rw [if_neg (own_nlt (n := 216) (by decide) (by omega))]
    rw [if_pos (own_gt (n := 246) (by decide) (by omega))]
    unfold f2_77
    rw [if_neg (own_nlt (n := 248) (by decide) (by omega))]
    rw [if_pos (own_gt (n := 767) (by decide) (by omega))]
    unfold f2_91
    rw [if_neg (own_nlt (n := 880) (by decide) (by omega))]
    rw [if_pos (own_gt (n := 893) (by decide) (by omega))]
    unfold f2_105
    rw [if_neg (own_nlt (n := 895) (by decide) (by omega))]
    rw [if_neg (own_ngt (n := 8191) (by decide) (by omega))]
    unfold f2_210
    all_goals rfl
  · unfold f1_0
    rw [if_neg (own_nlt (n := 0) (by decide) (by omega))]
    rw [if_neg (own_ngt (n := 983039) (by decide) (by omega))]
    rw [if_pos (own_gt (n := 57) (by decide) (by omega))]
    rw [if_neg (own_nlt (n := 59) (by decide) (by omega))]
    rw [if_pos (own_gt (n := 64) (by decide) (by omega))]
    unfold f1_28
    rw [if_neg (own_nlt (n := 91) (by decide) (by omega))]
    rw [if_pos (own_gt (n := 94) (by decide) (by omega))]
    unfold f1_40
    rw [if_neg (own_ne (n := 96) (by decide) (by omega))]
    rw [if_neg (own_nlt (n := 123) (by decide) (by omega))]
    rw [if_pos (own_gt (n := 191) (by decide) (by omega))]
    unfold f1_59
    rw [if_neg (own_ne (n := 215) (by decide) (by omega))]
    rw [if_neg (own_ne (n := 247) (by decide) (by omega))]
    rw [if_neg (own_nlt (n := 768) (by decide) (by omega))]
    rw [if_pos (own_gt (n := 879) (by decide) (by omega))]
    unfold f1_87
    rw [if_neg (own_ne (n := 894) (by decide) (by omega))]
    rw [if_pos (own_lt (n := 8192) (by decide) (by omega))]
    unfold f1_108
    rw [if_pos (own_lt (n := 8206) (by decide) (by omega))]
    unfold f1_122
    rw [if_pos (own_lt (n := 8592) (by decide) (by omega))]
    unfold f1_136
    rw [if_pos (own_lt (n := 12272) (by decide) (by omega))]
    unfold f1_150
    rw [if_pos (own_lt (n := 55296) (by decide) (by omega))]
    unfold f1_162
    rw [if_pos (own_lt (n := 64976) (by decide) (by omega))]
    unfold f1_174
    rw [if_neg (own_ne (n := 65534) (by decide) (by omega))]
    rw [if_neg (own_ne (n := 65535) (by decide) (by omega))]
    unfold f1_190
    all_goals rfl
theorem own_val_20 (c : Int32) (h0 : 8192 ≤ c.toInt) (h1 : c.toInt < 8204) : f2_0 c = 0 ∧ f1_0 c = 1 := by
  constructor
  · unfold f2_0
    rw [if_neg (own_nlt (n := 128) (by decide) (by omega))]
    unfold f2_49
    rw [if_neg (own_nlt (n := 192) (by decide) (by omega))]
    rw [if_pos (own_gt (n := 214) (by decide) (by omega))]
    unfold f2_63
    rw [if_neg (own_nlt (n := 216) (by decide) (by omega))]
    rw [if_pos (own_gt (n := 246) (by decide) (by omega))]
    unfold f2_77
    rw [if_neg (own_nlt (n := 248) (by decide) (by omega))]
    rw [if_pos (own_gt (n := 767) (by decide) (by omega))]
    unfold f2_91
    rw [if_neg (own_nlt (n := 880) (by decide) (by omega))]
    rw [if_pos (own_gt (n := 893) (by decide) (by omega))]
    unfold f2_105
    rw [if_neg (own_nlt (n := 895) (by decide) (by omega))]
    rw [if_pos (own_gt (n := 8191) (by decide) (by omega))]
    unfold f2_119
    rw [if_pos (own_lt (n := 8204) (by decide) (by omega))]
    unfold f2_133
    rw [if_pos (own_lt (n := 8304) (by decide) (by omega))]
    unfold f2_147
    rw [if_pos (own_lt (n := 11264) (by decide) (by omega))]
    unfold f2_161
    rw [if_pos (own_lt (n := 12289) (by decide) (by omega))]
    unfold f2_174
    rw [if_pos (own_lt (n := 63744) (by decide) (by omega))]
    unfold f2_186
    rw [if_pos (own_lt (n := 65008) (by decide) (by omega))]
    unfold f2_198
    rw [if_pos (own_lt (n := 65536) (by decide) (by omega))]
    unfold f2_214
    all_goals rfl
  · unfold f1_0
    rw [if_neg (own_nlt (n := 0) (by decide) (by omega))]
    rw [if_neg (own_ngt (n := 983039) (by decide) (by omega))]
    rw [if_pos (own_gt (n := 57) (by decide) (by omega))]
    rw [if_neg (own_nlt (n := 59) (by decide) (by omega))]
    rw [if_pos (own_gt (n := 64) (by decide) (by omega))]
    unfold f1_28
    rw [if_neg (own_nlt (n := 91) (by decide) (by omega))]
    rw [if_pos (own_gt (n := 94) (by decide) (by omega))]
    unfold f1_40
    rw [if_neg (own_ne (n := 96) (by decide) (by omega))]
    rw [if_neg (own_nlt (n := 123) (by decide) (by omega))]
    rw [if_pos (own_gt (n := 191) (by decide) (by omega))]
    unfold f1_59
    rw [if_neg (own_ne (n := 215) (by decide) (by omega))]
    rw [if_neg (own_ne (n := 247) (by decide) (by omega))]
    rw [if_neg (own_nlt (n := 768) (by decide) (by omega))]
    rw [if_pos (own_gt (n := 879) (by decide) (by omega))]
    unfold f1_87
    rw [if_neg (own_ne (n := 894) (by decide) (by omega))]
    rw [if_neg (own_nlt (n := 8192) (by decide) (by omega))]
    rw [if_neg (own_ngt (n := 8203) (by decide) (by omega))]
    unfold f1_186
    all_goals rfl
theorem own_val_21 (c : Int32) (h0 : 8204 ≤ c.toInt) (h1 : c.toInt < 8206) : f2_0 c = 1 ∧ f1_0 c = 0 := by
  constructor
  · unfold f2_0
    rw [if_neg (own_nlt (n := 128) (by decide) (by omega))]
    unfold f2_49
    rw [if_neg (own_nlt (n := 192) (by decide) (by omega))]
    rw [if_pos (own_gt (n := 214) (by decide) (by omega))]
    unfold f2_63
    rw [if_neg (own_nlt (n := 216) (by decide) (by omega))]
    rw [if_pos (own_gt (n := 246) (by decide) (by omega))]
    unfold f2_77
    rw [if_neg (own_nlt (n := 248) (by decide) (by omega))]
    rw [if_pos (own_gt (n := 767) (by decide) (by omega))]
    unfold f2_91
    rw [if_neg (own_nlt (n := 880) (by decide) (by omega))]
    rw [if_pos (own_gt (n := 893) (by decide) (by omega))]
    unfold f2_105
    rw [if_neg (own_nlt (n := 895) (by decide) (by omega))]
    rw [if_pos (own_gt (n := 8191) (by decide) (by omega))]
    unfold f2_119
    rw [if_neg (own_nlt (n := 8204) (by decide) (by omega))]
    rw [if_neg (own_ngt (n := 8205) (by decide) (by omega))]
    unfold f2_210
    all_goals rfl
  · unfold f1_0
    rw [if_neg (own_nlt (n := 0) (by decide) (by omega))]
    rw [if_neg (own_ngt (n := 983039) (by decide) (by omega))]
    rw [if_pos (own_gt (n := 57) (by decide) (by omega))]
    rw [if_neg (own_nlt (n := 59) (by decide) (by omega))]
    rw [if_pos (own_gt (n := 64) (by decide) (by omega))]
    unfold f1_28
    rw [if_neg (own_nlt (n := 91) (by decide) (by omega))]
    rw [if_pos (own_gt (n := 94) (by decide) (by omega))]
    unfold f1_40
    rw [if_neg (own_ne (n := 96) (by decide) (by omega))]
    rw [if_neg (own_nlt (n := 123) (by decide) (by omega))]
    rw [if_pos (own_gt (n := 191) (by decide) (by omega))]
    unfold f1_59
    rw [if_neg (own_ne (n := 215) (by decide) (by omega))]
    rw [if_neg (own_ne (n := 247) (by decide) (by omega))]
    rw [if_neg (own_nlt (n := 768) (by decide) (by omega))]
    rw [if_pos (own_gt (n := 879) (by decide) (by omega))]
    unfold f1_87
    rw [if_neg (own_ne (n := 894) (by decide) (by omega))]
    rw [if_neg (own_nlt (n := 8192) (by decide) (by omega))]
    rw [if_pos (own_gt (n := 8203) (by decide) (by omega))]
    unfold f1_108
    rw [if_pos (own_lt (n := 8206) (by decide) (by omega))]
    unfold f1_122
    rw [if_pos (own_lt (n := 8592) (by decide) (by omega))]
    unfold f1_136
    rw [if_pos (own_lt (n := 12272) (by decide) (by omega))]
    unfold f1_150
    rw [if_pos (own_lt (n := 55296) (by decide) (by omega))]
    unfold f1_162
    rw [if_pos (own_lt (n := 64976) (by decide) (by omega))]
    unfold f1_174
    rw [if_neg (own_ne (n := 65534) (by decide) (by omega))]
    rw [if_neg (own_ne (n := 65535) (by decide) (by omega))]
    unfold f1_190
    all_goals rfl
theorem own_val_22 (c : Int32) (h0 : 8206 ≤ c.toInt) (h1 : c.toInt < 8304) : f2_0 c = 0 ∧ f1_0 c = 1 := by
  constructor
  · unfold f2_0
    rw [if_neg (own_nlt (n := 128) (by decide) (by omega))]
    unfold f2_49
    rw [if_neg (own_nlt (n := 192) (by decide) (by omega))]
    rw [if_pos (own_gt (n := 214) (by decide) (by omega))]
    unfold f2_63
    rw [if_neg (own_nlt (n := 216) (by decide) (by omega))]
    rw [if_pos (own_gt (n := 246) (by decide) (by omega))]
    unfold f2_77
    rw [if_neg (own_nlt (n := 248) (by decide) (by omega))]
    rw [if_pos (own_gt (n := 767) (by decide) (by omega))]
    unfold f2_91
    rw [if_neg (own_nlt (n := 880) (by decide) (by omega))]
    rw [if_pos (own_gt (n := 893) (by decide) (by omega))]
    unfold f2_105
    rw [if_neg (own_nlt (n := 895) (by decide) (by omega))]
    rw [if_pos (own_gt (n := 8191) (by decide) (by omega))]
    unfold f2_119
    rw [if_neg (own_nlt (n := 8204) (by decide) (by omega))]
    rw [if_pos (own_gt (n := 8205) (by decide) (by omega))]
    unfold f2_133
    rw [if_pos (own_lt (n := 8304) (by decide) (by omega))]
    unfold f2_147
    rw [if_pos (own_lt (n := 11264) (by decide) (by omega))]
    unfold f2_161
    rw [if_pos (own_lt (n := 12289) (by decide) (by omega))]
    unfold f2_174
    rw [if_pos (own_lt (n := 63744) (by decide) (by omega))]
    unfold f2_186
    rw [if_pos (own_lt (n := 65008) (by decide) (by omega))]
    unfold f2_198
    rw [if_pos (own_lt (n := 65536) (by decide) (by omega))]
    unfold f2_214
    all_goals rfl
  · unfold f1_0
    rw [if_neg (own_nlt (n := 0) (by decide) (by omega))]
    rw [if_neg (own_ngt (n := 983039) (by decide) (by omega))]
    rw [if_pos (own_gt (n := 57) (by decide) (by omega))]
    rw [if_neg (own_nlt (n := 59) (by decide) (by omega))]
    rw [if_pos (own_gt (n := 64) (by decide) (by omega))]
    unfold f1_28
    rw [if_neg (own_nlt (n := 91) (by decide) (by omega))]
    rw [if_pos (own_gt (n := 94) (by decide) (by omega))]
    unfold f1_40
    rw [if_neg (own_ne (n := 96) (by decide) (by omega))]
    rw [if_neg (own_nlt (n := 123) (by decide) (by omega))]
    rw [if_pos (own_gt (n := 191) (by decide) (by omega))]
    unfold f1_59
    rw [if_neg (own_ne (n := 215) (by decide) (by omega))]
    rw [if_neg (own_ne (n := 247) (by decide) (by omega))]
    rw [if_neg (own_nlt (n := 768) (by decide) (by omega))]
    rw [if_pos (own_gt (n := 879) (by decide) (by omega))]
    unfold f1_87
    rw [if_neg (own_ne (n := 894) (by decide) (by omega))]
    rw [if_neg (own_nlt (n := 8192) (by decide) (by omega))]
    rw [if_pos (own_gt (n := 8203) (by decide) (by omega))]
    unfold f1_108
    rw [if_neg (own_nlt (n := 8206) (by decide) (by omega))]
    rw [if_neg (own_ngt (n := 8303) (by decide) (by omega))]
    unfold f1_186
    all_goals rfl
theorem own_val_23 (c : Int32) (h0 : 8304 ≤ c.toInt) (h1 : c.toInt < 8592) : f2_0 c = 1 ∧ f1_0 c = 0 := by
  constructor
  · unfold f2_0
    rw [if_neg (own_nlt (n := 128) (by decide) (by omega))]
    unfold f2_49
    rw [if_neg (own_nlt (n := 192) (by decide) (by omega))]
    rw [if_pos (own_gt (n := 214) (by decide) (by omega))]
    unfold f2_63
    rw [if_neg (own_nlt (n := 216) (by decide) (by omega))]
    rw [if_pos (own_gt (n := 246) (by decide) (by omega))]
    unfold f2_77
    rw [if_neg (own_nlt (n := 248) (by decide) (by omega))]
    rw [if_pos (own_gt (n := 767) (by decide) (by omega))]
    unfold f2_91
    rw [if_neg (own_nlt (n := 880) (by decide) (by omega))]
    rw [if_pos (own_gt (n := 893) (by decide) (by omega))]
    unfold f2_105
    rw [if_neg (own_nlt (n := 895) (by decide) (by omega))]
    rw [if_pos (own_gt (n := 8191) (by decide) (by omega))]
    unfold f2_119
    rw [if_neg (own_nlt (n := 8204) (by decide) (by omega))]
    rw [if_pos (own_gt (n := 8205) (by decide) (by omega))]
    unfold f2_133
    rw [if_neg (own_nlt (n := 8304) (by decide) (by omega))]
    rw [if_neg (own_ngt (n := 8591) (by decide) (by omega))]
    unfold f2_210
    all_goals rfl
  · unfold f1_0
    rw [if_neg (own_nlt (n := 0) (by decide) (by omega))]
    rw [if_neg (own_ngt (n := 983039) (by decide) (by omega))]
    rw [if_pos (own_gt (n := 57) (by decide) (by omega))]
    rw [if_neg (own_nlt (n := 59) (by decide) (by omega))]
    rw [if_pos (own_gt (n := 64) (by decide) (by omega))]
    unfold f1_28
    rw [if_neg (own_nlt (n := 91) (by decide) (by omega))]
    rw [if_pos (own_gt (n := 94) (by decide) (by omega))]
    unfold f1_40
    rw [if_neg (own_ne (n := 96) (by decide) (by omega))]
    rw [if_neg (own_nlt (n := 123) (by decide) (by omega))]
    rw [if_pos (own_gt (n := 191) (by decide) (by omega))]
    unfold f1_59
    rw [if_neg (own_ne (n := 215) (by decide) (by omega))]
    rw [if_neg (own_ne (n := 247) (by decide) (by omega))]
    rw [if_neg (own_nlt (n := 768) (by decide) (by omega))]
    rw [if_pos (own_gt (n := 879) (by decide) (by omega))]
    unfold f1_87
    rw [if_neg (own_ne (n := 894) (by decide) (by omega))]
    rw [if_neg (own_nlt (n := 8192) (by decide) (by omega))]
    rw [if_pos (own_gt (n := 8203) (by decide) (by omega))]
    unfold f1_108
    rw [if_neg (own_nlt (n := 8206) (by decide) (by omega))]
    rw [if_pos (own_gt (n := 8303) (by decide) (by omega))]
    unfold f1_122
    rw [if_pos (own_lt (n := 8592) (by decide) (by omega))]
    unfold f1_136
    rw [if_pos (own_lt (n := 12272) (by decide) (by omega))]
    unfold f1_150
    rw [if_pos (own_lt (n := 55296) (by decide) (by omega))]
    unfold f1_162
    rw [if_pos (own_lt (n := 64976) (by decide) (by omega))]
    unfold f1_174
    rw [if_neg (own_ne (n := 65534) (by decide) (by omega))]
    rw [if_neg (own_ne (n := 65535) (by decide) (by omega))]
    unfold f1_190
    all_goals rfl
theorem own_val_24 (c : Int32) (h0 : 8592 ≤ c.toInt) (h1 : c.toInt < 11264) : f2_0 c = 0 ∧ f1_0 c = 1 := by
  constructor
  · unfold f2_0
    rw [if_neg (own_nlt (n := 128) (by decide) (by omega))]
    unfold f2_49
    rw [if_neg (own_nlt (n := 192) (by decide) (by omega))]
    rw [if_pos (own_gt (n := 214) (by decide) (by omega))]
    unfold f2_63
    rw [if_neg (own_nlt (n := 216) (by decide) (by omega))]
    rw [if_pos (own_gt (n := 246) (by decide) (by omega))]
    unfold f2_77
    rw [if_neg (own_nlt (n := 248) (by decide) (by omega))]
    rw [if_pos (own_gt (n := 767) (by decide) (by omega))]
    unfold f2_91
    rw [if_neg (own_nlt (n := 880) (by decide) (by omega))]
    rw [if_pos (own_gt (n := 893) (by decide) (by omega))]
    unfold f2_105
    rw [if_neg (own_nlt (n := 895) (by decide) (by omega))]
    rw [if_pos (own_gt (n := 8191) (by decide) (by omega))]
    unfold f2_119
    rw [if_neg (own_nlt (n := 8204) (by decide) (by omega))]
    rw [if_pos (own_gt (n := 8205) (by decide) (by omega))]
    unfold f2_133
    rw [if_neg (own_nlt (n := 8304) (by decide) (by omega))]
    rw [if_pos (own_gt (n := 8591) (by decide) (by omega))]
    unfold f2_147
    rw [if_pos (own_lt (n := 11264) (by decide) (by omega))]
    unfold f2_161
    rw [if_pos (own_lt (n := 12289) (by decide) (by omega))]
    unfold f2_174
    rw [if_pos (own_lt (n := 63744) (by decide) (by omega))]
    unfold f2_186
    rw [if_pos (own_lt (n := 65008) (by decide) (by omega))]
    unfold f2_198
    rw [if_pos (own_lt (n := 65536) (by decide) (by omega))]
    unfold f2_214
    all_goals rfl
  · unfold f1_0
    rw [if_neg (own_nlt (n := 0) (by decide) (by omega))]
    rw [if_neg (own_ngt (n := 983039) (by decide) (by omega))]
    rw [if_pos (own_gt (n := 57) (by decide) (by omega))]
    rw [if_neg (own_nlt (n := 59) (by decide) (by omega))]
    rw [if_pos (own_gt (n := 64) (by decide) (by omega))]
    unfold f1_28
    rw [if_neg (own_nlt (n := 91) (by decide) (by omega))]
    rw [if_pos (own_gt (n := 94) (by decide) (by omega))]
    unfold f1_40
    rw [if_neg (own_ne (n := 96) (by decide) (by omega))]
    rw [if_neg (own_nlt (n := 123) (by decide) (by omega))]
    rw [if_pos (own_gt (n := 191) (by decide) (by omega))]
    unfold f1_59
    rw [if_neg (own_ne (n := 215) (by decide) (by omega))]
    rw [if_neg (own_ne (n := 247) (by decide) (by omega))]
    rw [if_neg (own_nlt (n := 768) (by decide) (by omega))]
    rw [if_pos (own_gt (n := 879) (by decide) (by omega))]
    unfold f1_87
    rw [if_neg (own_ne (n := 894) (by decide) (by omega))]
    rw [if_neg (own_nlt (n := 8192) (by decide) (by omega))]
    rw [if_pos (own_gt (n := 8203) (by decide) (by omega))]
    unfold f1_108
    rw [if_neg (own_nlt (n := 8206) (by decide) (by omega))]
    rw [if_pos (own_gt (n := 8303) (by decide) (by omega))]
    unfold f1_122
    rw [if_neg (own_nlt (n := 8592) (by decide) (by omega))]
    rw [if_neg (own_ngt (n := 11263) (by decide) (by omega))]
    unfold f1_186
    all_goals rfl
theorem own_val_25 (c : Int32) (h0 : 11264 ≤ c.toInt) (h1 : c.toInt < 12272) : f2_0 c = 1 ∧ f1_0 c = 0 := by
  constructor
  · unfold f2_0
    rw [if_neg (own_nlt (n := 128) (by decide) (by omega))]
    unfold f2_49
    rw [if_neg (own_nlt (n := 192) (by decide) (by omega))]
    rw [if_pos (own_gt (n := 214) (by decide) (by omega))]
    unfold f2_63
    rw [if_neg (own_nlt (n := 216) (by decide) (by omega))]
    rw [if_pos (own_gt (n := 246) (by decide) (by omega))]
    unfold f2_77
    rw [if_neg (own_nlt (n := 248) (by decide) (by omega))]
    rw [if_pos (own_gt (n := 767) (by decide) (by omega))]
    unfold f2_91
    rw [if_neg (own_nlt (n := 880) (by decide) (by omega))]
    rw [if_pos (own_gt (n := 893) (by decide) (by omega))]
    unfold f2_105
    rw [if_neg (own_nlt (n := 895) (by decide) (by omega))]
    rw [if_pos (own_gt (n := 8191) (by decide) (by omega))]
    unfold f2_119
    rw [if_neg (own_nlt (n := 8204) (by decide) (by omega))]
    rw [if_pos (own_gt (n := 8205) (by decide) (by omega))]
    unfold f2_133
    rw [if_neg (own_nlt (n := 8304) (by decide) (by omega))]
    rw [if_pos (own_gt (n := 8591) (by decide) (by omega))]
    unfold f2_147
    rw [if_neg (own_nlt (n := 11264) (by decide) (by omega))]
    rw [if_neg (own_ngt (n := 12271) (by decide) (by omega))]
    unfold f2_210
    all_goals rfl
  · unfold f1_0
    rw [if_neg (own_nlt (n := 0) (by decide) (by omega))]
    rw [if_neg (own_ngt (n := 983039) (by decide) (by omega))]
    rw [if_pos (own_gt (n := 57) (by decide) (by omega))]
    rw [if_neg (own_nlt (n := 59) (by decide) (by omega))]
    rw [if_pos (own_gt (n := 64) (by decide) (by omega))]
    unfold f1_28
    rw [if_neg (own_nlt (n := 91) (by decide) (by omega))]
    rw [if_pos (own_gt (n := 94) (by decide) (by omega))]
    unfold f1_40
    rw [if_neg (own_ne (n := 96) (by decide) (by omega))]
    rw [if_neg (own_nlt (n := 123) (by decide) (by omega))]
    rw [if_pos (own_gt (n := 191) (by decide) (by omega))]
    unfold f1_59
    rw [if_neg (own_ne (n := 215) (by decide) (by omega))]
    rw [if_neg (own_ne (n := 247) (by decide) (by omega))]
    rw [if_neg (own_nlt (n := 768) (by decide) (by omega))]
    rw [if_pos (own_gt (n := 879) (by decide) (by omega))]
    unfold f1_87
    rw [if_neg (own_ne (n := 894) (by decide) (by omega))]
    rw [if_neg (own_nlt (n := 8192) (by decide) (by omega))]
    rw [if_pos (own_gt (n := 8203) (by decide) (by omega))]
    unfold f1_108
    rw [if_neg (own_nlt (n := 8206) (by decide) (by omega))]
    rw [if_pos (own_gt (n := 8303) (by decide) (by omega))]
    unfold f1_122
    rw [if_neg (own_nlt (n := 8592) (by decide) (by omega))]
    rw [if_pos (own_gt (n := 11263) (by decide) (by omega))]
    unfold f1_136
    rw [if_pos (own_lt (n := 12272) (by decide) (by omega))]
    unfold f1_150
    rw [if_pos (own_lt (n := 55296) (by decide) (by omega))]
    unfold f1_162
    rw [if_pos (own_lt (n := 64976) (by decide) (by omega))]
    unfold f1_174
    rw [if_neg (own_ne (n := 65534) (by decide) (by omega))]
    rw [if_neg (own_ne (n := 65535) (by decide) (by omega))]
    unfold f1_190
    all_goals rfl
theorem own_val_26 (c : Int32) (h0 : 12272 ≤ c.toInt) (h1 : c.toInt < 12289) : f2_0 c = 0 ∧ f1_0 c = 1 := by
  constructor
  · unfold f2_0
    rw [if_neg (own_nlt (n := 128) (by decide) (by omega))]
    unfold f2_49
    rw [if_neg (own_nlt (n := 192) (by decide) (by omega))]
    rw [if_pos (own_gt (n := 214) (by decide) (by omega))]
    unfold f2_63
    rw [if_neg (own_nlt (n := 216) (by decide) (by omega))]
    rw [if_pos (own_gt (n := 246) (by decide) (by omega))]
    unfold f2_77
    rw [if_neg (own_nlt (n := 248) (by decide) (by omega))]
    rw [if_pos (own_gt (n := 767) (by decide) (by omega))]
    unfold f2_91
    rw [if_neg (own_nlt (n := 880) (by decide) (by omega))]
    rw [if_pos (own_gt (n := 893) (by decide) (by omega))]
    unfold f2_105
    rw [if_neg (own_nlt (n := 895) (by decide) (by omega))]
    rw [if_pos (own_gt (n := 8191) (by decide) (by omega))]
    unfold f2_119
    rw [if_neg (own_nlt (n := 8204) (by decide) (by omega))]
    rw [if_pos (own_gt (n := 8205) (by decide) (by omega))]
    unfold f2_133
    rw [if_neg (own_nlt (n := 8304) (by decide) (by omega))]
    rw [if_pos (own_gt (n := 8591) (by decide) (by omega))]
    unfold f2_147
    rw [if_neg (own_nlt (n := 11264) (by decide) (by omega))]
    rw [if_pos (own_gt (n := 12271) (by decide) (by omega))]
    unfold f2_161
    rw [if_pos (own_lt (n := 12289) (by decide) (by omega))]
    unfold f2_174
    rw [if_pos (own_lt (n := 63744) (by decide) (by omega))]
    unfold f2_186
    rw [if_pos (own_lt (n := 65008) (by decide) (by omega))]
    unfold f2_198
    rw [if_pos (own_lt (n := 65536) (by decide) (by omega))]
    unfold f2_214
    all_goals rfl
  · unfold f1_0
    rw [if_neg (own_nlt (n := 0) (by decide) (by omega))]
    rw [if_neg (own_ngt (n := 983039) (by decide) (by omega))]
    rw [if_pos (own_gt (n := 57) (by decide) (by omega))]
    rw [if_neg (own_nlt (n := 59) (by decide) (by omega))]
    rw [if_pos (own_gt (n := 64) (by decide) (by omega))]
    unfold f1_28
    rw [if_neg (own_nlt (n := 91) (by decide) (by omega))]
    rw [if_pos (own_gt (n := 94) (by decide) (by omega))]
    unfold f1_40
    rw [if_neg (own_ne (n := 96) (by decide) (by omega))]
    rw [if_neg (own_nlt (n := 123) (by decide) (by omega))]
    rw [if_pos (own_gt (n := 191) (by decide) (by omega))]
    unfold f1_59
    rw [if_neg (own_ne (n := 215) (by decide) (by omega))]
    rw [if_neg (own_ne (n := 247) (by decide) (by omega))]
    rw [if_neg (own_nlt (n := 768) (by decide) (by omega))]
    rw [if_pos (own_gt (n := 879) (by decide) (by omega))]
    unfold f1_87
    rw [if_neg (own_ne (n := 894) (by decide) (by omega))]
    rw [if_neg (own_nlt (n := 8192) (by decide) (by omega))]
    rw [if_pos (own_gt (n := 8203) (by decide) (by omega))]
    unfold f1_108
    rw [if_neg (own_nlt (n := 8206) (by decide) (by omega))]
    rw [if_pos (own_gt (n := 8303) (by decide) (by omega))]
    unfold f1_122
    rw [if_neg (own_nlt (n := 8592) (by decide) (by omega))]
    rw [if_pos (own_gt (n := 11263) (by decide) (by omega))]
    unfold f1_136
    rw [if_neg (own_nlt (n := 12272) (by decide) (by omega))]
    rw [if_neg (own_ngt (n := 12288) (by decide) (by omega))]
    unfold f1_186
    all_goals rfl
theorem own_val_27 (c : Int32) (h0 : 12289 ≤ c.toInt) (h1 : c.toInt < 55296) : f2_0 c = 1 ∧ f1_0 c = 0 := by
  constructor
  · unfold f2_0
    rw [if_neg (own_nlt (n := 128) (by decide) (by omega))]
    unfold f2_49
    rw [if_neg (own_nlt (n := 192) (by decide) (by omega))]
    rw [if_pos (own_gt (n := 214) (by decide) (by omega))]
    unfold f2_63
    rw [if_neg (own_nlt (n := 216) (by decide) (by omega))]
    rw [if_pos (own_gt (n := 246) (by decide) (by omega))]
    unfold f2_77
    rw [if_neg (own_nlt (n := 248) (by decide) (by omega))]
    rw [if_pos (own_gt (n := 767) (by decide) (by omega))]
    unfold f2_91
    rw [if_neg (own_nlt (n := 880) (by decide) (by omega))]
    rw [if_pos (own_gt (n := 893) (by decide) (by omega))]
    unfold f2_105
    rw [if_neg (own_nlt (n := 895) (by decide) (by omega))]
    rw [if_pos (own_gt (n := 8191) (by decide) (by omega))]
    unfold f2_119
    rw [if_neg (own_nlt (n := 8204) (by decide) (by omega))]
    rw [if_pos (own_gt (n := 8205) (by decide) (by omega))]
    unfold f2_133
    rw [if_neg (own_nlt (n := 8304) (by decide) (by omega))]
    rw [if_pos (own_gt (n := 8591) (by decide) (by omega))]
    unfold f2_147
    rw [if_neg (own_nlt (n := 11264) (by decide) (by omega))]
    rw [if_pos (own_gt (n := 12271) (by decide) (by omega))]
    unfold f2_161
    rw [if_neg (own_nlt (n := 12289) (by decide) (by omega))]
    rw [if_neg (own_ngt (n := 55295) (by decide) (by omega))]
    unfold f2_210
    all_goals rfl
  · unfold f1_0
    rw [if_neg (own_nlt (n := 0) (by decide) (by omega))]
    rw [if_neg (own_ngt (n := 983039) (by decide) (by omega))]
    rw [if_pos (own_gt (n := 57) (by decide) (by omega))]
    rw [if_neg (own_nlt (n := 59) (by decide) (by omega))]
    rw [if_pos (own_gt (n := 64) (by decide) (by omega))]
    unfold f1_28
    rw [if_neg (own_nlt (n := 91) (by decide) (by omega))]
    rw [if_pos (own_gt (n := 94) (by decide) (by omega))]
    unfold f1_40
    rw [if_neg (own_ne (n := 96) (by decide) (by omega))]
    rw [if_neg (own_nlt (n := 123) (by decide) (by omega))]
    rw [if_pos (own_gt (n := 191) (by decide) (by omega))]
    unfold f1_59
    rw [if_neg (own_ne (n := 215) (by decide) (by omega))]
    rw [if_neg (own_ne (n := 247) (by decide) (by omega))]
    rw [if_neg (own_nlt (n := 768) (by decide) (by omega))]
    rw [if_pos (own_gt (n := 879) (by decide) (by omega))]
    unfold f1_87
    rw [if_neg (own_ne (n := 894) (by decide) (by omega))]
    rw [if_neg (own_nlt (n := 8192) (by decide) (by omega))]
    rw [if_pos (own_gt (n := 8203) (by decide) (by omega))]
    unfold f1_108
    rw [if_neg (own_nlt (n := 8206) (by decide) (by omega))]
    rw [if_pos (own_gt (n := 8303) (by decide) (by omega))]
    unfold f1_122
    rw [if_neg (own_nlt (n := 8592) (by decide) (by omega))]
    rw [if_pos (own_gt (n := 11263) (by decide) (by omega))]
    unfold f1_136
    rw [if_neg (own_nlt (n := 12272) (by decide) (by omega))]
    rw [if_pos (own_gt (n := 12288) (by decide) (by omega))]
    unfold f1_150
    rw [if_pos (own_lt (n := 55296) (by decide) (by omega))]
    unfold f1_162
    rw [if_pos (own_lt (n := 64976) (by decide) (by omega))]
    unfold f1_174
    rw [if_neg (own_ne (n := 65534) (by decide) (by omega))]
    rw [if_neg (own_ne (n := 65535) (by decide) (by omega))]
    unfold f1_190
    all_goals rfl
theorem own_val_28 (c : Int32) (h0 : 55296 ≤ c.toInt) (h1 : c.toInt < 63744) : f2_0 c = 0 ∧ f1_0 c = 1 := by
  constructor
  · unfold f2_0
    rw [if_neg (own_nlt (n := 128) (by decide) (by omega))]
    unfold f2_49
    rw [if_neg (own_nlt (n := 192) (by decide) (by omega))]
    rw [if_pos (own_gt (n := 214) (by decide) (by omega))]
    unfold f2_63
    rw [if_neg (own_nlt (n := 216) (by decide) (by omega))]
    rw [if_pos (own_gt (n := 246) (by decide) (by omega))]
    unfold f2_77
    rw [if_neg (own_nlt (n := 248) (by decide) (by omega))]
    rw [if_pos (own_gt (n := 767) (by decide) (by omega))]
    unfold f2_91
    rw [if_neg (own_nlt (n := 880) (by decide) (by omega))]
    rw [if_pos (own_gt (n := 893) (by decide) (by omega))]
    unfold f2_105
    rw [if_neg (own_nlt (n := 895) (by decide) (by omega))]
    rw [if_pos (own_gt (n := 8191) (by decide) (by omega))]
    unfold f2_119
    rw [if_neg (own_nlt (n := 8204) (by decide) (by omega))]
    rw [if_pos (own_gt (n := 8205) (by decide) (by omega))]
    unfold f2_133
    rw [if_neg (own_nlt (n := 8304) (by decide) (by omega))]
    rw [if_pos (own_gt (n := 8591) (by decide) (by omega))]
    unfold f2_147
    rw [if_neg (own_nlt (n := 11264) (by decide) (by omega))]
    rw [if_pos (own_gt (n := 12271) (by decide) (by omega))]
    unfold f2_161
    rw [if_neg (own_nlt (n := 12289) (by decide) (by omega))]
    rw [if_pos (own_gt (n := 55295) (by decide) (by omega))]
    unfold f2_174
    rw [if_pos (own_lt (n := 63744) (by decide) (by omega))]
    unfold f2_186
    rw [if_pos (own_lt (n := 65008) (by decide) (by omega))]
    unfold f2_198
    rw [if_pos (own_lt (n := 65536) (by decide) (by omega))]
    unfold f2_214
    all_goals rfl
  · unfold f1_0
    rw [if_neg (own_nlt (n := 0) (by decide) (by omega))]
    rw [if_neg (own_ngt (n := 983039) (by decide) (by omega))]
    rw [if_pos (own_gt (n := 57) (by decide) (by omega))]
    rw [if_neg (own_nlt (n := 59) (by decide) (by omega))]
    rw [if_pos (own_gt (n := 64) (by decide) (by omega))]
    unfold f1_28
    rw [if_neg (own_nlt (n := 91) (by decide) (by omega))]
    rw [if_pos (own_gt (n := 94) (by decide) (by omega))]
    unfold f1_40
    rw [if_neg (own_ne (n := 96) (by decide) (by omega))]
    rw [if_neg (own_nlt (n := 123) (by decide) (by omega))]
    rw [if_pos (own_gt (n := 191) (by decide) (by omega))]
    unfold f1_59
    rw [if_neg (own_ne (n := 215) (by decide) (by omega))]
    rw [if_neg (own_ne (n := 247) (by decide) (by omega))]
    rw [if_neg (own_nlt (n := 768) (by decide) (by omega))]
    rw [if_pos (own_gt (n := 879) (by decide) (by omega))]
    unfold f1_87
    rw [if_neg (own_ne (n := 894) (by decide) (by omega))]
    rw [if_neg (own_nlt (n := 8192) (by decide) (by omega))]
    rw [if_pos (own_gt (n := 8203) (by decide) (by omega))]
    unfold f1_108
    rw [if_neg (own_nlt (n := 8206) (by decide) (by omega))]
    rw [if_pos (own_gt (n := 8303) (by decide) (by omega))]
    unfold f1_122
    rw [if_neg (own_nlt (n := 8592) (by decide) (by omega))]
    rw [if_pos (own_gt (n := 11263) (by decide) (by omega))]
    unfold f1_136
    rw [if_neg (own_nlt (n := 12272) (by decide) (by omega))]
    rw [if_pos (own_gt (n := 12288) (by decide) (by omega))]
    unfold f1_150
    rw [if_neg (own_nlt (n := 55296) (by decide) (by omega))]
    rw [if_neg (own_ngt (n := 63743) (by decide) (by omega))]
    unfold f1_186
    all_goals rfl
theorem own_val_29 (c : Int32) (h0 : 63744 ≤ c.toInt) (h1 : c.toInt < 64976) : f2_0 c = 1 ∧ f1_0 c = 0 := by
  constructor
  · unfold f2_0
    rw [if_neg (own_nlt (n := 128) (by decide) (by omega))]
    unfold f2_49
    rw [if_neg (own_nlt (n := 192) (by decide) (by omega))]
    rw [if_pos (own_gt (n := 214) (by decide) (by omega))]
    unfold f2_63
    rw [if_neg (own_nlt (n := 216) (by decide) (by omega))]
    rw [if_pos (own_gt (n := 246) (by decide) (by omega))]
    unfold f2_77
    rw [if_neg (own_nlt (n := 248) (by decide) (by omega))]
    rw [if_pos (own_gt (n := 767) (by decide) (by omega))]
    unfold f2_91
    rw [if_neg (own_nlt (n := 880) (by decide) (by omega))]
    rw [if_pos (own_gt (n := 893) (by decide) (by omega))]
    unfold f2_105
    rw [if_neg (own_nlt (n := 895) (by decide) (by omega))]
    rw [if_pos (own_gt (n := 8191) (by decide) (by omega))]
    unfold f2_119
    rw [if_neg (own_nlt (n := 8204) (by decide) (by omega))]
    rw [if_pos (own_gt (n := 8205) (by decide) (by omega))]
    unfold f2_133
    rw [if_neg (own_nlt (n := 8304) (by decide) (by omega))]
    rw [if_pos (own_gt (n := 8591) (by decide) (by omega))]
    unfold f2_147
    rw [if_neg (own_nlt (n := 11264) (by decide) (by omega))]
    rw [if_pos (own_gt (n := 12271) (by decide) (by omega))]
    unfold f2_161
    rw [if_neg (own_nlt (n := 12289) (by decide) (by omega))]
    rw [if_pos (own_gt (n := 55295) (by decide) (by omega))]
    unfold f2_174
    rw [if_neg (own_nlt (n := 63744) (by decide) (by omega))]
    rw [if_neg (own_ngt (n := 64975) (by decide) (by omega))]
    unfold f2_210
    all_goals rfl
  · unfold f1_0
    rw [if_neg (own_nlt (n := 0) (by decide) (by omega))]
    rw [if_neg (own_ngt (n := 983039) (by decide) (by omega))]
    rw [if_pos (own_gt (n := 57) (by decide) (by omega))]
    rw [if_neg (own_nlt (n := 59) (by decide) (by omega))]
    rw [if_pos (own_gt (n := 64) (by decide) (by omega))]
    unfold f1_28
    rw [if_neg (own_nlt (n := 91) (by decide) (by omega))]
    rw [if_pos (own_gt (n := 94) (by decide) (by omega))]
    unfold f1_40
    rw [if_neg (own_ne (n := 96) (by decide) (by omega))]
    rw [if_neg (own_nlt (n := 123) (by decide) (by omega))]
    rw [if_pos (own_gt (n := 191) (by decide) (by omega))]
    unfold f1_59
    rw [if_neg (own_ne (n := 215) (by decide) (by omega))]
    rw [if_neg (own_ne (n := 247) (by decide) (by omega))]
    rw [if_neg (own_nlt (n := 768) (by decide) (by omega))]
    rw [if_pos (own_gt (n := 879) (by decide) (by omega))]
    unfold f1_87
    rw [if_neg (own_ne (n := 894) (by decide) (by omega))]
    rw [if_neg (own_nlt (n := 8192) (by decide) (by omega))]
    rw [if_pos (own_gt (n := 8203) (by decide) (by omega))]
    unfold f1_108
    rw [if_neg (own_nlt (n := 8206) (by decide) (by omega))]
    rw [if_pos (own_gt (n := 8303) (by decide) (by omega))]
    unfold f1_122
    rw [if_neg (own_nlt (n := 8592) (by decide) (by omega))]
    rw [if_pos (own_gt (n := 11263) (by decide) (by omega))]
    unfold f1_136
    rw [if_neg (own_nlt (n := 12272) (by decide) (by omega))]
    rw [if_pos (own_gt (n := 12288) (by decide) (by omega))]
    unfold f1_150
    rw [if_neg (own_nlt (n := 55296) (by decide) (by omega))]
    rw [if_pos (own_gt (n := 63743) (by decide) (by omega))]
    unfold f1_162
    rw [if_pos (own_lt (n := 64976) (by decide) (by omega))]
    unfold f1_174
    rw [if_neg (own_ne (n := 65534) (by decide) (by omega))]
    rw [if_neg (own_ne (n := 65535) (by decide) (by omega))]
    unfold f1_190
    all_goals rfl
theorem own_val_30 (c : Int32) (h0 : 64976 ≤ c.toInt) (h1 : c.toInt < 65008) : f2_0 c = 0 ∧ f1_0 c = 1 := by
  constructor
  · unfold f2_0
    rw [if_neg (own_nlt (n := 128) (by decide) (by omega))]
    unfold f2_49
    rw [if_neg (own_nlt (n := 192) (by decide) (by omega))]
    rw [if_pos (own_gt (n := 214) (by decide) (by omega))]
    unfold f2_63
    rw [if_neg (own_nlt (n := 216) (by decide) (by omega))]
    rw [if_pos (own_gt (n := 246) (by decide) (by omega))]
    unfold f2_77
    rw [if_neg (own_nlt (n := 248) (by decide) (by omega))]
    rw [if_pos (own_gt (n := 767) (by decide) (by omega))]
    unfold f2_91
    rw [if_neg (own_nlt (n := 880) (by decide) (by omega))]
    rw [if_pos (own_gt (n := 893) (by decide) (by omega))]
    unfold f2_105
    rw [if_neg (own_nlt (n := 895) (by decide) (by omega))]
    rw [if_pos (own_gt (n := 8191) (by decide) (by omega))]
    unfold f2_119
    rw [if_neg (own_nlt (n := 8204) (by decide) (by omega))]
    rw [if_pos (own_gt (n := 8205) (by decide) (by omega))]
    unfold f2_133
    rw [if_neg (own_nlt (n := 8304) (by decide) (by omega))]
    rw [if_pos (own_gt (n := 8591) (by decide) (by omega))]
    unfold f2_147
    rw [if_neg (own_nlt (n := 11264) (by decide) (by omega))]
    rw [if_pos (own_gt (n := 12271) (by decide) (by omega))]
    unfold f2_161
    rw [if_neg (own_nlt (n := 12289) (by decide) (by omega))]
    rw [if_pos (own_gt (n := 55295) (by decide) (by omega))]
    unfold f2_174
    rw [if_neg (own_nlt (n := 63744) (by decide) (by omega))]
    rw [if_pos (own_gt (n := 64975) (by decide) (by omega))]
    unfold f2_186
    rw [if_pos (own_lt (n := 65008) (by decide) (by omega))]
    unfold f2_198
    rw [if_pos (own_lt (n := 65536) (by decide) (by omega))]
    unfold f2_214
    all_goals rfl
  · unfold f1_0
    rw [if_neg (own_nlt (n := 0) (by decide) (by omega))]
    rw [if_neg (own_ngt (n := 983039) (by decide) (by omega))]
    rw [if_pos (own_gt (n := 57) (by decide) (by omega))]
    rw [if_neg (own_nlt (n := 59) (by decide) (by omega))]
    rw [if_pos (own_gt (n := 64) (by decide) (by omega))]
    unfold f1_28
    rw [if_neg (own_nlt (n := 91) (by decide) (by omega))]
    rw [if_pos (own_gt (n := 94) (by decide) (by omega))]
    unfold f1_40
    rw [if_neg (own_ne (n := 96) (by decide) (by omega))]
    rw [if_neg (own_nlt (n := 123) (by decide) (by omega))]
    rw [if_pos (own_gt (n := 191) (by decide) (by omega))]
    unfold f1_59
    rw [if_neg (own_ne (n := 215) (by decide) (by omega))]
    rw [if_neg (own_ne (n := 247) (by decide) (by omega))]
    rw [if_neg (own_nlt (n := 768) (by decide) (by omega))]
    rw [if_pos (own_gt (n := 879) (by decide) (by omega))]
    unfold f1_87
    rw [if_neg (own_ne (n := 894) (by decide) (by omega))]
    rw [if_neg (own_nlt (n := 8192) (by decide) (by omega))]
    rw [if_pos (own_gt (n := 8203) (by decide) (by omega))]
    unfold f1_108
    rw [if_neg (own_nlt (n := 8206) (by decide) (by omega))]
    rw [if_pos (own_gt (n := 8303) (by decide) (by omega))]
    unfold f1_122
    rw [if_neg (own_nlt (n := 8592) (by decide) (by omega))]
    rw [if_pos (own_gt (n := 11263) (by decide) (by omega))]
    unfold f1_136
    rw [if_neg (own_nlt (n := 12272) (by decide) (by omega))]
    rw [if_pos (own_gt (n := 12288) (by decide) (by omega))]
    unfold f1_150
    rw [if_neg (own_nlt (n := 55296) (by decide) (by omega))]
    rw [if_pos (own_gt (n := 63743) (by decide) (by omega))]
    unfold f1_162
    rw [if_neg (own_nlt (n := 64976) (by decide) (by omega))]
    rw [if_neg (own_ngt (n := 65007) (by decide) (by omega))]
    unfold f1_186
    all_goals rfl
theorem own_val_31 (c : Int32) (h0 : 65008 ≤ c.toInt) (h1 : c.toInt < 65534) : f2_0 c = 1 ∧ f1_0 c = 0 := by
  constructor
  · unfold f2_0
    rw [if_neg (own_nlt (n := 128) (by decide) (by omega))]
    unfold f2_49
    rw [if_neg (own_nlt (n := 192) (by decide) (by omega))]
    rw [if_pos (own_gt (n := 214) (by decide) (by omega))]
    unfold f2_63
    rw [if_neg (own_nlt (n := 216) (by decide) (by omega))]
    rw [if_pos (own_gt (n := 246) (by decide) (by omega))]
    unfold f2_77
    rw [if_neg (own_nlt (n := 248) (by decide) (by omega))]
    rw [if_pos (own_gt (n := 767) (by decide) (by omega))]
    unfold f2_91
    rw [if_neg (own_nlt (n := 880) (by decide) (by omega))]
    rw [if_pos (own_gt (n := 893) (by decide) (by omega))]
    unfold f2_105
    rw [if_neg (own_nlt (n := 895) (by decide) (by omega))]
    rw [if_pos (own_gt (n := 8191) (by decide) (by omega))]
    unfold f2_119
    rw [if_neg (own_nlt (n := 8204) (by decide) (by omega))]
    rw [if_pos (own_gt (n := 8205) (by decide) (by omega))]
    unfold f2_133
    rw [if_neg (own_nlt (n := 8304) (by decide) (by omega))]
    rw [if_pos (own_gt (n := 8591) (by decide) (by omega))]
    unfold f2_147
    rw [if_neg (own_nlt (n := 11264) (by decide) (by omega))]
    rw [if_pos (own_gt (n := 12271) (by decide) (by omega))]
    unfold f2_161
    rw [if_neg (own_nlt (n := 12289) (by decide) (by omega))]
    rw [if_pos (own_gt (n := 55295) (by decide) (by omega))]
    unfold f2_174
    rw [if_neg (own_nlt (n := 63744) (by decide) (by omega))]
    rw [if_pos (own_gt (n := 64975) (by decide) (by omega))]
    unfold f2_186
    rw [if_neg (own_nlt (n := 65008) (by decide) (by omega))]
    rw [if_neg (own_ngt (n := 65533) (by decide) (by omega))]
    unfold f2_210
    all_goals rfl
  · unfold f1_0
    rw [if_neg (own_nlt (n := 0) (by decide) (by omega))]
    rw [if_neg (own_ngt (n := 983039) (by decide) (by omega))]
    rw [if_pos (own_gt (n := 57) (by decide) (by omega))]
    rw [if_neg (own_nlt (n := 59) (by decide) (by omega))]
    rw [if_pos (own_gt (n := 64) (by decide) (by omega))]
    unfold f1_28
    rw [if_neg (own_nlt (n := 91) (by decide) (by omega))]
    rw [if_pos (own_gt (n := 94) (by decide) (by omega))]
    unfold f1_40
    rw [if_neg (own_ne (n := 96) (by decide) (by omega))]
    rw [if_neg (own_nlt (n := 123) (by decide) (by omega))]
    rw [if_pos (own_gt (n := 191) (by decide) (by omega))]
    unfold f1_59
    rw [if_neg (own_ne (n := 215) (by decide) (by omega))]
    rw [if_neg (own_ne (n := 247) (by decide) (by omega))]
    rw [if_neg (own_nlt (n := 768) (by decide) (by omega))]
    rw [if_pos (own_gt (n := 879) (by decide) (by omega))]
    unfold f1_87
    rw [if_neg (own_ne (n := 894) (by decide) (by omega))]
    rw [if_neg (own_nlt (n := 8192) (by decide) (by omega))]
    rw [if_pos (own_gt (n := 8203) (by decide) (by omega))]
    unfold f1_108
    rw [if_neg (own_nlt (n := 8206) (by decide) (by omega))]
    rw [if_pos (own_gt (n := 8303) (by decide) (by omega))]
    unfold f1_122
    rw [if_neg (own_nlt (n := 8592) (by decide) (by omega))]
    rw [if_pos (own_gt (n := 11263) (by decide) (by omega))]
    unfold f1_136
    rw [if_neg (own_nlt (n := 12272) (by decide) (by omega))]
    rw [if_pos (own_gt (n := 12288) (by decide) (by omega))]
    unfold f1_150
    rw [if_neg (own_nlt (n := 55296) (by decide) (by omega))]
    rw [if_pos (own_gt (n := 63743) (by decide) (by omega))]
    unfold f1_162
    rw [if_neg (own_nlt (n := 64976) (by decide) (by omega))]
    rw [if_pos (own_gt (n := 65007) (by decide) (by omega))]
    unfold f1_174
    rw [if_neg (own_ne (n := 65534) (by decide) (by omega))]
    rw [if_neg (own_ne (n := 65535) (by decide) (by omega))]
    unfold f1_190
    all_goals rfl
theorem own_val_32 (c : Int32) (h0 : 65534 ≤ c.toInt) (h1 : c.toInt < 65535) : f2_0 c = 0 ∧ f1_0 c = 1 := by
  constructor
  · unfold f2_0
    rw [if_neg (own_nlt (n := 128) (by decide) (by omega))]
    unfold f2_49
    rw [if_neg (own_nlt (n := 192) (by decide) (by omega))]
    rw [if_pos (own_gt (n := 214) (by decide) (by omega))]
    unfold f2_63
    rw [if_neg (own_nlt (n := 216) (by decide) (by omega))]
    rw [if_pos (own_gt (n := 246) (by decide) (by omega))]
    unfold f2_77
    rw [if_neg (own_nlt (n := 248) (by decide) (by omega))]
    rw [if_pos (own_gt (n := 767) (by decide) (by omega))]
    unfold f2_91
    rw [if_neg (own_nlt (n := 880) (by decide) (by omega))]
    rw [if_pos (own_gt (n := 893) (by decide) (by omega))]
    unfold f2_105
    rw [if_neg (own_nlt (n := 895) (by decide) (by omega))]
    rw [if_pos (own_gt (n := 8191) (by decide) (by omega))]
    unfold f2_119
    rw [if_neg (own_nlt (n := 8204) (by decide) (by omega))]
    rw [if_pos (own_gt (n := 8205) (by decide) (by omega))]
    unfold f2_133
    rw [if_neg (own_nlt (n := 8304) (by decide) (by omega))]
    rw [if_pos (own_gt (n := 8591) (by decide) (by omega))]
    unfold f2_147
    rw [if_neg (own_nlt (n := 11264) (by decide) (by omega))]
    rw [if_pos (own_gt (n := 12271) (by decide) (by omega))]
    unfold f2_161
    rw [if_neg (own_nlt (n := 12289) (by decide) (by omega))]
    rw [if_pos (own_gt (n := 55295) (by decide) (by omega))]
    unfold f2_174
    rw [if_neg (own_nlt (n := 63744) (by decide) (by omega))]
    rw [if_pos (own_gt (n := 64975) (by decide) (by omega))]
    unfold f2_186
    rw [if_neg (own_nlt (n := 65008) (by decide) (by omega))]
    rw [if_pos (own_gt (n := 65533) (by decide) (by omega))]
    unfold f2_198
    rw [if_pos (own_lt (n := 65536) (by decide) (by omega))]
    unfold f2_214
    all_goals rfl
  · unfold f1_0
    rw [if_neg (own_nlt (n := 0) (by decide) (by omega))]
    rw [if_neg (own_ngt (n := 983039) (by decide) (by omega))]
    rw [if_pos (own_gt (n := 57) (by decide) (by omega))]
    rw [if_neg (own_nlt (n := 59) (by decide) (by omega))]
    rw [if_pos (own_gt (n := 64) (by decide) (by omega))]
    unfold f1_28
    rw [if_neg (own_nlt (n := 91) (by decide) (by omega))]
    rw [if_pos (own_gt (n := 94) (by decide) (by omega))]
    unfold f1_40
    rw [if_neg (own_ne (n := 96) (by decide) (by omega))]
    rw [if_neg (own_nlt (n := 123) (by decide) (by omega))]
    rw [if_pos (own_gt (n := 191) (by decide) (by omega))]
    unfold f1_59
    rw [if_neg (own_ne (n := 215) (by decide) (by omega))]
    rw [if_neg (own_ne (n := 247) (by decide) (by omega))]
    rw [if_neg (own_nlt (n := 768) (by decide) (by omega))]
    rw [if_pos (own_gt (n := 879) (by decide) (by omega))]
    unfold f1_87
    rw [if_neg (own_ne (n := 894) (by decide) (by omega))]
    rw [if_neg (own_nlt (n := 8192) (by decide) (by omega))]
    rw [if_pos (own_gt (n := 8203) (by decide) (by omega))]
    unfold f1_108
    rw [if_neg (own_nlt (n := 8206) (by decide) (by omega))]
    rw [if_pos (own_gt (n := 8303) (by decide) (by omega))]
    unfold f1_122
    rw [if_neg (own_nlt (n := 8592) (by decide) (by omega))]
    rw [if_pos (own_gt (n := 11263) (by decide) (by omega))]
    unfold f1_136
    rw [if_neg (own_nlt (n := 12272) (by decide) (by omega))]
    rw [if_pos (own_gt (n := 12288) (by decide) (by omega))]
    unfold f1_150
    rw [if_neg (own_nlt (n := 55296) (by decide) (by omega))]
    rw [if_pos (own_gt (n := 63743) (by decide) (by omega))]
    unfold f1_162
    rw [if_neg (own_nlt (n := 64976) (by decide) (by omega))]
    rw [if_pos (own_gt (n := 65007) (by decide) (by omega))]
    unfold f1_174
    rw [if_pos (own_eq (n := 65534) (by decide) (by omega))]
    unfold f1_186
    all_goals rfl
theorem own_val_33 (c : Int32) (h0 : 65535 ≤ c.toInt) (h1 : c.toInt < 65536) : f2_0 c = 0 ∧ f1_0 c = 1 := by
  constructor
  · unfold f2_0
    rw [if_neg (own_nlt (n := 128) (by decide) (by omega))]
    unfold f2_49
    rw [if_neg (own_nlt (n := 192) (by decide) (by omega))]
    rw [if_pos (own_gt (n := 214) (by decide) (by omega))]
    unfold f2_63
    rw [if_neg (own_nlt (n := 216) (by decide) (by omega))]
    rw [if_pos (own_gt (n := 246) (by decide) (by omega))]
    unfold f2_77
    rw [if_neg (own_nlt (n := 248) (by decide) (by omega))]
    rw [if_pos (own_gt (n := 767) (by decide) (by omega))]
    unfold f2_91
    rw [if_neg (own_nlt (n := 880) (by decide) (by omega))]
    rw [if_pos (own_gt (n := 893) (by decide) (by omega))]
    unfold f2_105
    rw [if_neg (own_nlt (n := 895) (by decide) (by omega))]
    rw [if_pos (own_gt (n := 8191) (by decide) (by omega))]
    unfold f2_119
    rw [if_neg (own_nlt (n := 8204) (by decide) (by omega))]
    rw [if_pos (own_gt (n := 8205) (by decide) (by omega))]
    unfold f2_133
    rw [if_neg (own_nlt (n := 8304) (by decide) (by omega))]
    rw [if_pos (own_gt (n := 8591) (by decide) (by omega))]
    unfold f2_147
    rw [if_neg (own_nlt (n := 11264) (by decide) (by omega))]
    rw [if_pos (own_gt (n := 12271) (by decide) (by omega))]
    unfold f2_161
    rw [if_neg (own_nlt (n := 12289) (by decide) (by omega))]
    rw [if_pos (own_gt (n := 55295) (by decide) (by omega))]
    unfold f2_174
    rw [if_neg (own_nlt (n := 63744) (by decide) (by omega))]
    rw [if_pos (own_gt (n := 64975) (by decide) (by omega))]
    unfold f2_186
    rw [if_neg (own_nlt (n := 65008) (by decide) (by omega))]
    rw [if_pos (own_gt (n := 65533) (by decide) (by omega))]
    unfold f2_198
    rw [if_pos (own_lt (n := 65536) (by decide) (by omega))]
    unfold f2_214
    all_goals rfl
  · unfold f1_0
    rw [if_neg (own_nlt (n := 0) (by decide) (by omega))]
    rw [if_neg (own_ngt (n := 983039) (by decide) (by omega))]
    rw [if_pos (own_gt (n := 57) (by decide) (by omega))]
    rw [if_neg (own_nlt (n := 59) (by decide) (by omega))]
    rw [if_pos (own_gt (n := 64) (by decide) (by omega))]
    unfold f1_28
    rw [if_neg (own_nlt (n := 91) (by decide) (by omega))]
    rw [if_pos (own_gt (n := 94) (by decide) (by omega))]
    unfold f1_40
    rw [if_neg (own_ne (n := 96) (by decide) (by omega))]
    rw [if_neg (own_nlt (n := 123) (by decide) (by omega))]
    rw [if_pos (own_gt (n := 191) (by decide) (by omega))]
    unfold f1_59
    rw [if_neg (own_ne (n := 215) (by decide) (by omega))]
    rw [if_neg (own_ne (n := 247) (by decide) (by omega))]
    rw [if_neg (own_nlt (n := 768) (by decide) (by omega))]
    rw [if_pos (own_gt (n := 879) (by decide) (by omega))]
    unfold f1_87
    rw [if_neg (own_ne (n := 894) (by decide) (by omega))]
    rw [if_neg (own_nlt (n := 8192) (by decide) (by omega))]
    rw [if_pos (own_gt (n := 8203) (by decide) (by omega))]
    unfold f1_108
    rw [if_neg (own_nlt (n := 8206) (by decide) (by omega))]
    rw [if_pos (own_gt (n := 8303) (by decide) (by omega))]
    unfold f1_122
    rw [if_neg (own_nlt (n := 8592) (by decide) (by omega))]
    rw [if_pos (own_gt (n := 11263) (by decide) (by omega))]
    unfold f1_136
    rw [if_neg (own_nlt (n := 12272) (by decide) (by omega))]
    rw [if_pos (own_gt (n := 12288) (by decide) (by omega))]
    unfold f1_150
    rw [if_neg (own_nlt (n := 55296) (by decide) (by omega))]
    rw [if_pos (own_gt (n := 63743) (by decide) (by omega))]
    unfold f1_162
    rw [if_neg (own_nlt (n := 64976) (by decide) (by omega))]
    rw [if_pos (own_gt (n := 65007) (by decide) (by omega))]
    unfold f1_174
    rw [if_neg (own_ne (n := 65534) (by decide) (by omega))]
    rw [if_pos (own_eq (n := 65535) (by decide) (by omega))]
    unfold f1_186
    all_goals rfl
theorem own_val_34 (c : Int32) (h0 : 65536 ≤ c.toInt) (h1 : c.toInt < 983040) : f2_0 c = 1 ∧ f1_0 c = 0 := by
  constructor
  · unfold f2_0
    rw [if_neg (own_nlt (n := 128) (by decide) (by omega))]
    unfold f2_49
    rw [if_neg (own_nlt (n := 192) (by decide) (by omega))]
    rw [if_pos (own_gt (n := 214) (by decide) (by omega))]
    unfold f2_63
    rw [if_neg (own_nlt (n := 216) (by decide) (by omega))]
    rw [if_pos (own_gt (n := 246) (by decide) (by omega))]
    unfold f2_77
    rw [if_neg (own_nlt (n := 248) (by decide) (by omega))]
    rw [if_pos (own_gt (n := 767) (by decide) (by omega))]
    unfold f2_91
    rw [if_neg (own_nlt (n := 880) (by decide) (by omega))]
    rw [if_pos (own_gt (n := 893) (by decide) (by omega))]
    unfold f2_105
    rw [if_neg (own_nlt (n := 895) (by decide) (by omega))]
    rw [if_pos (own_gt (n := 8191) (by decide) (by omega))]
    unfold f2_119
    rw [if_neg (own_nlt (n := 8204) (by decide) (by omega))]
    rw [if_pos (own_gt (n := 8205) (by decide) (by omega))]
    unfold f2_133
    rw [if_neg (own_nlt (n := 8304) (by decide) (by omega))]
    rw [if_pos (own_gt (n := 8591) (by decide) (by omega))]
    unfold f2_147
    rw [if_neg (own_nlt (n := 11264) (by decide) (by omega))]
    rw [if_pos (own_gt (n := 12271) (by decide) (by omega))]
    unfold f2_161
    rw [if_neg (own_nlt (n := 12289) (by decide) (by omega))]
    rw [if_pos (own_gt (n := 55295) (by decide) (by omega))]
    unfold f2_174
    rw [if_neg (own_nlt (n := 63744) (by decide) (by omega))]
    rw [if_pos (own_gt (n := 64975) (by decide) (by omega))]
    unfold f2_186
    rw [if_neg (own_nlt (n := 65008) (by decide) (by omega))]
    rw [if_pos (own_gt (n := 65533) (by decide) (by omega))]
    unfold f2_198
    rw [if_neg (own_nlt (n := 65536) (by decide) (by omega))]
    rw [if_neg (own_ngt (n := 983039) (by decide) (by omega))]
    unfold f2_210
    all_goals rfl
  · unfold f1_0
    rw [if_neg (own_nlt (n := 0) (by decide) (by omega))]
    rw [if_neg (own_ngt (n := 983039) (by decide) (by omega))]
    rw [if_pos (own_gt (n := 57) (by decide) (by omega))]
    rw [if_neg (own_nlt (n := 59) (by decide) (by omega))]
    rw [if_pos (own_gt (n := 64) (by decide) (by omega))]
    unfold f1_28
    rw [if_neg (own_nlt (n := 91) (by decide) (by omega))]
    rw [if_pos (own_gt (n := 94) (by decide) (by omega))]
    unfold f1_40
    rw [if_neg (own_ne (n := 96) (by decide) (by omega))]
    rw [if_neg (own_nlt (n := 123) (by decide) (by omega))]
    rw [if_pos (own_gt (n := 191) (by decide) (by omega))]
    unfold f1_59
    rw [if_neg (own_ne (n := 215) (by decide) (by omega))]
    rw [if_neg (own_ne (n := 247) (by decide) (by omega))]
    rw [if_neg (own_nlt (n := 768) (by decide) (by omega))]
    rw [if_pos (own_gt (n := 879) (by decide) (by omega))]
    unfold f1_87
    rw [if_neg (own_ne (n := 894) (by decide) (by omega))]
    rw [if_neg (own_nlt (n := 8192) (by decide) (by omega))]
    rw [if_pos (own_gt (n := 8203) (by decide) (by omega))]
    unfold f1_108
    rw [if_neg (own_nlt (n := 8206) (by decide) (by omega))]
    rw [if_pos (own_gt (n := 8303) (by decide) (by omega))]
    unfold f1_122
    rw [if_neg (own_nlt (n := 8592) (by decide) (by omega))]
    rw [if_pos (own_gt (n := 11263) (by decide) (by omega))]
    unfold f1_136
    rw [if_neg (own_nlt (n := 12272) (by decide) (by omega))]
    rw [if_pos (own_gt (n := 12288) (by decide) (by omega))]
    unfold f1_150
    rw [if_neg (own_nlt (n := 55296) (by decide) (by omega))]
    rw [if_pos (own_gt (n := 63743) (by decide) (by omega))]
    unfold f1_162
    rw [if_neg (own_nlt (n := 64976) (by decide) (by omega))]
    rw [if_pos (own_gt (n := 65007) (by decide) (by omega))]
    unfold f1_174
    rw [if_neg (own_ne (n := 65534) (by decide) (by omega))]
    rw [if_neg (own_ne (n := 65535) (by decide) (by omega))]
    unfold f1_190
    all_goals rfl
theorem own_val_35 (c : Int32) (h0 : 983040 ≤ c.toInt) : f2_0 c = 0 ∧ f1_0 c = 1 := by
  constructor
  · unfold f2_0
    rw [if_neg (own_nlt (n := 128) (by decide) (by omega))]
    unfold f2_49
    rw [if_neg (own_nlt (n := 192) (by decide) (by omega))]
    rw [if_pos (own_gt (n := 214) (by decide) (by omega))]
    unfold f2_63
    rw [if_neg (own_nlt (n := 216) (by decide) (by omega))]
    rw [if_pos (own_gt (n := 246) (by decide) (by omega))]
    unfold f2_77
    rw [if_neg (own_nlt (n := 248) (by decide) (by omega))]
    rw [if_pos (own_gt (n := 767) (by decide) (by omega))]
    unfold f2_91
    rw [if_neg (own_nlt (n := 880) (by decide) (by omega))]
    rw [if_pos (own_gt (n := 893) (by decide) (by omega))]
    unfold f2_105
    rw [if_neg (own_nlt (n := 895) (by decide) (by omega))]
    rw [if_pos (own_gt (n := 8191) (by decide) (by omega))]
    unfold f2_119
    rw [if_neg (own_nlt (n := 8204) (by decide) (by omega))]
    rw [if_pos (own_gt (n := 8205) (by decide) (by omega))]
    unfold f2_133
    rw [if_neg (own_nlt (n := 8304) (by decide) (by omega))]
    rw [if_pos (own_gt (n := 8591) (by decide) (by omega))]
    unfold f2_147
    rw [if_neg (own_nlt (n := 11264) (by decide) (by omega))]
    rw [if_pos (own_gt (n := 12271) (by decide) (by omega))]
    unfold f2_161
    rw [if_neg (own_nlt (n := 12289) (by decide) (by omega))]
    rw [if_pos (own_gt (n := 55295) (by decide) (by omega))]
    unfold f2_174
    rw [if_neg (own_nlt (n := 63744) (by decide) (by omega))]
    rw [if_pos (own_gt (n := 64975) (by decide) (by omega))]
    unfold f2_186
    rw [if_neg (own_nlt (n := 65008) (by decide) (by omega))]
    rw [if_pos (own_gt (n := 65533) (by decide) (by omega))]
    unfold f2_198
    rw [if_neg (own_nlt (n := 65536) (by decide) (by omega))]
    rw [if_pos (own_gt (n := 983039) (by decide) (by omega))]
    unfold f2_214
    all_goals rfl
  · unfold f1_0
    rw [if_neg (own_nlt (n := 0) (by decide) (by omega))]
    rw [if_pos (own_gt (n := 983039) (by decide) (by omega))]
    unfold f1_186
    all_goals rfl
theorem own_val (c : Int32) : (f2_0 c = 1 ∧ f1_0 c = 0) ∨ (f2_0 c = 0 ∧ f1_0 c = 1) := by
  by_cases k0 : c.toInt < 0
  · exact Or.inr (own_val_0 c  k0)
  by_cases k1 : c.toInt < 58
  · exact Or.inr (own_val_1 c (by omega) k1)
  clear k0
  by_cases k2 : c.toInt < 59
  · exact Or.inl (own_val_2 c (by omega) k2)
  clear k1
  by_cases k3 : c.toInt < 65
  · exact Or.inr (own_val_3 c (by omega) k3)
  clear k2
  by_cases k4 : c.toInt < 91
  · exact Or.inl (own_val_4 c (by omega) k4)
  clear k3
  by_cases k5 : c.toInt < 95
  · exact Or.inr (own_val_5 c (by omega) k5)
  clear k4
  by_cases k6 : c.toInt < 96
  · exact Or.inl (own_val_6 c (by omega) k6)
  clear k5
  by_cases k7 : c.toInt < 97
  · exact Or.inr (own_val_7 c (by omega) k7)
  clear k6
  by_cases k8 : c.toInt < 123
  · exact Or.inl (own_val_8 c (by omega) k8)
  clear k7
  by_cases k9 : c.toInt < 128
  · exact Or.inr (own_val_9 c (by omega) k9)
  clear k8
  by_cases k10 : c.toInt < 192
  · exact Or.inr (own_val_10 c (by omega) k10)
  clear k9
  by_cases k11 : c.toInt < 215
  · exact Or.inl (own_val_11 c (by omega) k11)
  clear k10
  by_cases k12 : c.toInt < 216
  · exact Or.inr (own_val_12 c (by omega) k12)
  clear k11
  by_cases k13 : c.toInt < 247
  · exact Or.inl (own_val_13 c (by omega) k13)
  clear k12
  by_cases k14 : c.toInt < 248
  · exact Or.inr (own_val_14 c (by omega) k14)
  clear k13
  by_cases k15 : c.toInt < 768
  · exact Or.inl (own_val_15 c (by omega) k15)
  clear k14
  by_cases k16 : c.toInt < 880
  · exact Or.inr (own_val_16 c (by omega) k16)
  clear k15
  by_cases k17 : c.toInt < 894
  · exact Or.inl (own_val_17 c (by omega) k17)
  clear k16
  by_cases k18 : c.toInt < 895
  · exact Or.inr (own_val_18 c (by omega) k18)
  clear k17
  by_cases k19 : c.toInt < 8192
  · exact Or.inl (own_val_19 c (by omega) k19)
  clear k18
  by_cases k20 : c.toInt < 8204
  · exact Or.inr (own_val_20 c (by omega) k20)
  clear k19
  by_cases k21 : c.toInt < 8206
  · exact Or.inl (own_val_21 c (by omega) k21)
  clear k20
  by_cases k22 : c.toInt < 8304
  · exact Or.inr (own_val_22 c (by omega) k22)
  clear k21
  by_cases k23 : c.toInt < 8592
  · exact Or.inl (own_val_23 c (by omega) k23)
  clear k22
  by_cases k24 : c.toInt < 11264
  · exact Or.inr (own_val_24 c (by omega) k24)
  clear k23
  by_cases k25 : c.toInt < 12272
  · exact Or.inl (own_val_25 c (by omega) k25)
  clear k24
  by_cases k26 : c.toInt < 12289
  · exact Or.inr (own_val_26 c (by omega) k26)
  clear k25
  by_cases k27 : c.toInt < 55296
  · exact Or.inl (own_val_27 c (by omega) k27)
  clear k26
  by_cases k28 : c.toInt < 63744
  · exact Or.inr (own_val_28 c (by omega) k28)
  clear k27
  by_cases k29 : c.toInt < 64976
  · exact Or.inl (own_val_29 c (by omega) k29)
  clear k28
  by_cases k30 : c.toInt < 65008
  · exact Or.inr (own_val_30 c (by omega) k30)
  clear k29
  by_cases k31 : c.toInt < 65534
  · exact Or.inl (own_val_31 c (by omega) k31)
  clear k30
  by_cases k32 : c.toInt < 65535
  · exact Or.inr (own_val_32 c (by omega) k32)
  clear k31
  by_cases k33 : c.toInt < 65536
  · exact Or.inr (own_val_33 c (by omega) k33)
  clear k32
  by_cases k34 : c.toInt < 983040
  · exact Or.inl (own_val_34 c (by omega) k34)
  clear k33
  exact Or.inr (own_val_35 c (by omega))
theorem own_yes {c : Int32} (h : f1_0 c = 0) : f2_0 c = 1 := by rcases own_val c with ⟨a, b⟩ | ⟨a, b⟩; exact a; rw [h] at b; exact absurd b (by decide)
theorem own_no {c : Int32} (h : ¬ f1_0 c = 0) : f2_0 c = 0 := by rcases own_val c with ⟨a, b⟩ | ⟨a, b⟩; exact absurd b h; exact a
theorem own_ef0 (m : MethodId) (i0 : Int32) (i1 : Int32) (i2 : Int32) : entryFrame m #[(.int i0), (.int i1), (.int i2)] maxLocals = (mkF m 0 #[.val (.int i0), .val (.int i1), .val (.int i2), .unset, .unset, .unset] []) := by first | (simp [entryFrame, mkF, argsToLocals, Value.category, maxLocals]; done) | rfl
set_option maxRecDepth 65536 in
set_option maxHeartbeats 40000000 in
theorem rmL (l : Launch) (Z : State) (a0 : Array Value) (hw : ∀ d ∈ tables_1, d.before a0 Z = true) (ws : List Jvm.Cond) (i0 : Int32) (i1 : Int32) (i2 : Int32) (h0 : Heap) (n0 : Nat) (Z0 : n0 ≤ h0.size) :
    MetFree l x (head1 (Jvm.Cond.code x code maxLocals ret :: ws) room_1) (fun a U => a = #[(.int i0), (.int i1), (.int i2)] ∧ Z.Warmed39 U.vm ∧ U.heap = h0) (fun _ _ _ _ _ => True) (fun _ U o U' => ∃ v L, o = .returned v ∧ (v = some (.int 1) ∧ Fr n0 L) ∧ FrameEnd U o U' L 1 34) := by
  refine MetFree.of_bodySF (plainFor_of_name own_pn2) hisR ?_
  intro p e s m args below meth c s₁ Bd hml0 hP hK
  obtain ⟨rfl, hZ, hh⟩ := hP
  have hx := Bd.exec
  have hby := Bd.bytes
  have hlk := Bd.notSynchronized
  have hret := Bd.returns
  have hml : c.maxLocals = 6 := hml0
  have hown : s.vm.findClass "com/example/penelope/penelope/XmlCharsIsNameStartCharPinLaw" = some m.cls := findClass_of_methodNamed Bd.named
  have X0 : Stand p l e room_1 s m #[(.int i0), (.int i1), (.int i2)] below meth c s₁ [] 0 0 := Stand.of_body Bd
  have e0 : s₁.heap = h0 := by rw [← hh, Bd.state]; rfl
  have N0 := Fr.nil n0
  show own_Go p e below (own_K s (fun v h L => v = some (.int 1) ∧ Fr n0 L) 1 34) _
  refine own_by (fun t k => castTop (own_ef0 m i0 i1 i2) k) ?_
  show own_Go p e below _ (s₁.setTop (mkF m 0 #[.val (.int i0), .val (.int i1), .val (.int i2), .unset, .unset, .unset] []))
  refine own_by (fun _ kont => XT.bipushV X0.here hx rfl (34 : Int32) (hb hby at_0) rfl kont) ?_
  show own_Go p e below _ (s₁.setTop (mkF m 2 #[.val (.int i0), .val (.int i1), .val (.int i2), .unset, .unset, .unset] [(.int (34 : Int32))]))
  obtain ⟨T101, h101, a101, X101, e101, g101, E101, H101, st101⟩ := own_newIA X0 hx hZ (hw _ (List.mem_of_getElem? (i := 0) rfl)) e0 (g := (mkF m 2 #[.val (.int i0), .val (.int i1), .val (.int i2), .unset, .unset, .unset] [(.int (34 : Int32))])) rfl (hb hby at_2) rfl 34 (by decide) (cap := 34) (by decide) (by decide) (by decide) (by decide)
  have Z101 : n0 ≤ a101 := by rw [g101]; exact Z0
  refine own_by st101 ?_
  show own_Go p e below _ (T101.setTop (mkF m 4 #[.val (.int i0), .val (.int i1), .val (.int i2), .unset, .unset, .unset] [(.ref a101)]))
  refine own_by (fun _ kont => XS.dup X101.here hx rfl (hb hby at_4) rfl rfl kont) ?_
  show own_Go p e below _ (T101.setTop (mkF m 5 #[.val (.int i0), .val (.int i1), .val (.int i2), .unset, .unset, .unset] [(.ref a101), (.ref a101)]))
  refine own_by (fun _ kont => XT.iconstV X101.here hx rfl (0 : Int32) (hb hby at_5) rfl kont) ?_
  show own_Go p e below _ (T101.setTop (mkF m 6 #[.val (.int i0), .val (.int i1), .val (.int i2), .unset, .unset, .unset] [(.int (0 : Int32)), (.ref a101), (.ref a101)]))
  refine own_by (fun _ kont => XT.iconstV X101.here hx rfl (0 : Int32) (hb hby at_6) rfl kont) ?_
  show own_Go p e below _ (T101.setTop (mkF m 7 #[.val (.int i0), .val (.int i1), .val (.int i2), .unset, .unset, .unset] [(.int (0 : Int32)), (.int (0 : Int32)), (.ref a101), (.ref a101)]))
  obtain ⟨T102, h102, X102, e102, W102, G102, st102⟩ := own_stIA X101 hx hZ e101 H101 (j := (0 : Int32)) (by decide) (by decide) (g := (mkF m 7 #[.val (.int i0), .val (.int i1), .val (.int i2), .unset, .unset, .unset] [(.int (0 : Int32)), (.int (0 : Int32)), (.ref a101), (.ref a101)])) rfl rfl (hb hby at_7)
  obtain ⟨f102, H102⟩ : ∃ f, own_IA Z h102 a101 34 f := ⟨_, G102⟩
  obtain ⟨L102, X102, M102⟩ := own_hide X102 (Fr.snoc X102 N0 Z101)
  clear G102 W102
  refine own_by st102 ?_
  show own_Go p e below _ (T102.setTop (mkF m 8 #[.val (.int i0), .val (.int i1), .val (.int i2), .unset, .unset, .unset] [(.ref a101)]))
  refine own_by (fun _ kont => XS.dup X102.here hx rfl (hb hby at_8) rfl rfl kont) ?_
  show own_Go p e below _ (T102.setTop (mkF m 9 #[.val (.int i0), .val (.int i1), .val (.int i2), .unset, .unset, .unset] [(.ref a101), (.ref a101)]))
  refine own_by (fun _ kont => XT.iconstV X102.here hx rfl (1 : Int32) (hb hby at_9) rfl kont) ?_
  show own_Go p e below _ (T102.setTop (mkF m 10 #[.val (.int i0), .val (.int i1), .val (.int i2), .unset, .unset, .unset] [(.int (1 : Int32)), (.ref a101), (.ref a101)]))
  refine own_by (fun _ kont => XT.bipushV X102.here hx rfl (58 : Int32) (hb hby at_10) rfl kont) ?_
  show own_Go p e below _ (T102.setTop (mkF m 12 #[.val (.int i0), .val (.int i1), .val (.int i2), .unset, .unset, .unset] [(.int (58 : Int32)), (.int (1 : Int32)), (.ref a101), (.ref a101)]))
  obtain ⟨T103, h103, X103, e103, W103, G103, st103⟩ := own_stIA X102 hx hZ e102 H102 (j := (1 : Int32)) (by decide) (by decide) (g := (mkF m 12 #[.val (.int i0), .val (.int i1), .val (.int i2), .unset, .unset, .unset] [(.int (58 : Int32)), (.int (1 : Int32)), (.ref a101), (.ref a101)])) rfl rfl (hb hby at_12)
  obtain ⟨f103, H103⟩ : ∃ f, own_IA Z h103 a101 34 f := ⟨_, G103⟩
  obtain ⟨L103, X103, M103⟩ := own_hide X103 (Fr.snoc X103 M102 Z101)
  clear G103 W103
  refine own_by st103 ?_
  show own_Go p e below _ (T103.setTop (mkF m 13 #[.val (.int i0), .val (.int i1), .val (.int i2), .unset, .unset, .unset] [(.ref a101)]))
  refine own_by (fun _ kont => XS.dup X103.here hx rfl (hb hby at_13) rfl rfl kont) ?_
  show own_Go p e below _ (T103.setTop (mkF m 14 #[.val (.int i0), .val (.int i1), .val (.int i2), .unset, .unset, .unset] [(.ref a101), (.ref a101)]))
  refine own_by (fun _ kont => XT.iconstV X103.here hx rfl (2 : Int32) (hb hby at_14) rfl kont) ?_
  show own_Go p e below _ (T103.setTop (mkF m 15 #[.val (.int i0), .val (.int i1), .val (.int i2), .unset, .unset, .unset] [(.int (2 : Int32)), (.ref a101), (.ref a101)]))
  refine own_by (fun _ kont => XT.bipushV X103.here hx rfl (65 : Int32) (hb hby at_15) rfl kont) ?_
  show own_Go p e below _ (T103.setTop (mkF m 17 #[.val (.int i0), .val (.int i1), .val (.int i2), .unset, .unset, .unset] [(.int (65 : Int32)), (.int (2 : Int32)), (.ref a101), (.ref a101)]))
  obtain ⟨T104, h104, X104, e104, W104, G104, st104⟩ := own_stIA X103 hx hZ e103 H103 (j := (2 : Int32)) (by decide) (by decide) (g := (mkF m 17 #[.val (.int i0), .val (.int i1), .val (.int i2), .unset, .unset, .unset] [(.int (65 : Int32)), (.int (2 : Int32)), (.ref a101), (.ref a101)])) rfl rfl (hb hby at_17)
  obtain ⟨f104, H104⟩ : ∃ f, own_IA Z h104 a101 34 f := ⟨_, G104⟩
  obtain ⟨L104, X104, M104⟩ := own_hide X104 (Fr.snoc X104 M103 Z101)
  clear G104 W104
  refine own_by st104 ?_
  show own_Go p e below _ (T104.setTop (mkF m 18 #[.val (.int i0), .val (.int i1), .val (.int i2), .unset, .unset, .unset] [(.ref a101)]))
  refine own_by (fun _ kont => XS.dup X104.here hx rfl (hb hby at_18) rfl rfl kont) ?_
  show own_Go p e below _ (T104.setTop (mkF m 19 #[.val (.int i0), .val (.int i1), .val (.int i2), .unset, .unset, .unset] [(.ref a101), (.ref a101)]))
  refine own_by (fun _ kont => XT.iconstV X104.here hx rfl (3 : Int32) (hb hby at_19) rfl kont) ?_
  show own_Go p e below _ (T104.setTop (mkF m 20 #[.val (.int i0), .val (.int i1), .val (.int i2), .unset, .unset, .unset] [(.int (3 : Int32)), (.ref a101), (.ref a101)]))
  refine own_by (fun _ kont => XT.bipushV X104.here hx rfl (90 : Int32) (hb hby at_20) rfl kont) ?_
  show own_Go p e below _ (T104.setTop (mkF m 22 #[.val (.int i0), .val (.int i1), .val (.int i2), .unset, .unset, .unset] [(.int (90 : Int32)), (.int (3 : Int32)), (.ref a101), (.ref a101)]))
  obtain ⟨T105, h105, X105, e105, W105, G105, st105⟩ := own_stIA X104 hx hZ e104 H104 (j := (3 : Int32)) (by decide) (by decide) (g := (mkF m 22 #[.val (.int i0), .val (.int i1), .val (.int i2), .unset, .unset, .unset] [(.int (90 : Int32)), (.int (3 : Int32)), (.ref a101), (.ref a101)])) rfl rfl (hb hby at_22)
  obtain ⟨f105, H105⟩ : ∃ f, own_IA Z h105 a101 34 f := ⟨_, G105⟩
  obtain ⟨L105, X105, M105⟩ := own_hide X105 (Fr.snoc X105 M104 Z101)
  clear G105 W105
  refine own_by st105 ?_
  show own_Go p e below _ (T105.setTop (mkF m 23 #[.val (.int i0), .val (.int i1), .val (.int i2), .unset, .unset, .unset] [(.ref a101)]))
  refine own_by (fun _ kont => XS.dup X105.here hx rfl (hb hby at_23) rfl rfl kont) ?_
  show own_Go p e below _ (T105.setTop (mkF m 24 #[.val (.int i0), .val (.int i1), .val (.int i2), .unset, .unset, .unset] [(.ref a101), (.ref a101)]))
  refine own_by (fun _ kont => XT.iconstV X105.here hx rfl (4 : Int32) (hb hby at_24) rfl kont) ?_
  show own_Go p e below _ (T105.setTop (mkF m 25 #[.val (.int i0), .val (.int i1), .val (.int i2), .unset, .unset, .unset] [(.int (4 : Int32)), (.ref a101), (.ref a101)]))
  refine own_by (fun _ kont => XT.bipushV X105.here hx rfl (95 : Int32) (hb hby at_25) rfl kont) ?_
  show own_Go p e below _ (T105.setTop (mkF m 27 #[.val (.int i0), .val (.int i1), .val (.int i2), .unset, .unset, .unset] [(.int (95 : Int32)), (.int (4 : Int32)), (.ref a101), (.ref a101)]))
  obtain ⟨T106, h106, X106, e106, W106, G106, st106⟩ := own_stIA X105 hx hZ e105 H105 (j := (4 : Int32)) (by decide) (by decide) (g := (mkF m 27 #[.val (.int i0), .val (.int i1), .val (.int i2), .unset, .unset, .unset] [(.int (95 : Int32)), (.int (4 : Int32)), (.ref a101), (.ref a101)])) rfl rfl (hb hby at_27)
  obtain ⟨f106, H106⟩ : ∃ f, own_IA Z h106 a101 34 f := ⟨_, G106⟩
  obtain ⟨L106, X106, M106⟩ := own_hide X106 (Fr.snoc X106 M105 Z101)
  clear G106 W106
  refine own_by st106 ?_
  show own_Go p e below _ (T106.setTop (mkF m 28 #[.val (.int i0), .val (.int i1), .val (.int i2), .unset, .unset, .unset] [(.ref a101)]))
  refine own_by (fun _ kont => XS.dup X106.here hx rfl (hb hby at_28) rfl rfl kont) ?_
  show own_Go p e below _ (T106.setTop (mkF m 29 #[.val (.int i0), .val (.int i1), .val (.int i2), .unset, .unset, .unset] [(.ref a101), (.ref a101)]))
  refine own_by (fun _ kont => XT.iconstV X106.here hx rfl (5 : Int32) (hb hby at_29) rfl kont) ?_
  show own_Go p e below _ (T106.setTop (mkF m 30 #[.val (.int i0), .val (.int i1), .val (.int i2), .unset, .unset, .unset] [(.int (5 : Int32)), (.ref a101), (.ref a101)]))
  refine own_by (fun _ kont => XT.bipushV X106.here hx rfl (97 : Int32) (hb hby at_30) rfl kont) ?_
  show own_Go p e below _ (T106.setTop (mkF m 32 #[.val (.int i0), .val (.int i1), .val (.int i2), .unset, .unset, .unset] [(.int (97 : Int32)), (.int (5 : Int32)), (.ref a101), (.ref a101)]))
  obtain ⟨T107, h107, X107, e107, W107, G107, st107⟩ := own_stIA X106 hx hZ e106 H106 (j := (5 : Int32)) (by decide) (by decide) (g := (mkF m 32 #[.val (.int i0), .val (.int i1), .val (.int i2), .unset, .unset, .unset] [(.int (97 : Int32)), (.int (5 : Int32)), (.ref a101), (.ref a101)])) rfl rfl (hb hby at_32)
  obtain ⟨f107, H107⟩ : ∃ f, own_IA Z h107 a101 34 f := ⟨_, G107⟩
  obtain ⟨L107, X107, M107⟩ := own_hide X107 (Fr.snoc X107 M106 Z101)
  clear G107 W107
  refine own_by st107 ?_
  show own_Go p e below _ (T107.setTop (mkF m 33 #[.val (.int i0), .val (.int i1), .val (.int i2), .unset, .unset, .unset] [(.ref a101)]))
  refine own_by (fun _ kont => XS.dup X107.here hx rfl (hb hby at_33) rfl rfl kont) ?_
  show own_Go p e below _ (T107.setTop (mkF m 34 #[.val (.int i0), .val (.int i1), .val (.int i2), .unset, .unset, .unset] [(.ref a101), (.ref a101)]))
  refine own_by (fun _ kont => XT.bipushV X107.here hx rfl (6 : Int32) (hb hby at_34) rfl kont) ?_
  show own_Go p e below _ (T107.setTop (mkF m 36 #[.val (.int i0), .val (.int i1), .val (.int i2), .unset, .unset, .unset] [(.int (6 : Int32)), (.ref a101), (.ref a101)]))
  refine own_by (fun _ kont => XT.bipushV X107.here hx rfl (122 : Int32) (hb hby at_36) rfl kont) ?_
  show own_Go p e below _ (T107.setTop (mkF m 38 #[.val (.int i0), .val (.int i1), .val (.int i2), .unset, .unset, .unset] [(.int (122 : Int32)), (.int (6 : Int32)), (.ref a101), (.ref a101)]))
  obtain ⟨T108, h108, X108, e108, W108, G108, st108⟩ := own_stIA X107 hx hZ e107 H107 (j := (6 : Int32)) (by decide) (by decide) (g := (mkF m 38 #[.val (.int i0), .val (.int i1), .val (.int i2), .unset, .unset, .unset] [(.int (122 : Int32)), (.int (6 : Int32)), (.ref a101), (.ref a101)])) rfl rfl (hb hby at_38)
  obtain ⟨f108, H108⟩ : ∃ f, own_IA Z h108 a101 34 f := ⟨_, G108⟩
  obtain ⟨L108, X108, M108⟩ := own_hide X108 (Fr.snoc X108 M107 Z101)
  clear G108 W108
  refine own_by st108 ?_
  show own_Go p e below _ (T108.setTop (mkF m 39 #[.val (.int i0), .val (.int i1), .val (.int i2), .unset, .unset, .unset] [(.ref a101)]))
  refine own_by (fun _ kont => XS.dup X108.here hx rfl (hb hby at_39) rfl rfl kont) ?_
  show own_Go p e below _ (T108.setTop (mkF m 40 #[.val (.int i0), .val (.int i1), .val (.int i2), .unset, .unset, .unset] [(.ref a101), (.ref a101)]))
  refine own_by (fun _ kont => XT.bipushV X108.here hx rfl (7 : Int32) (hb hby at_40) rfl kont) ?_
  show own_Go p e below _ (T108.setTop (mkF m 42 #[.val (.int i0), .val (.int i1), .val (.int i2), .unset, .unset, .unset] [(.int (7 : Int32)), (.ref a101), (.ref a101)]))
  refine own_by (fun _ kont => XT.sipushV X108.here hx rfl (128 : Int32) (hb hby at_42) rfl kont) ?_
  show own_Go p e below _ (T108.setTop (mkF m 45 #[.val (.int i0), .val (.int i1), .val (.int i2), .unset, .unset, .unset] [(.int (128 : Int32)), (.int (7 : Int32)), (.ref a101), (.ref a101)]))
  obtain ⟨T109, h109, X109, e109, W109, G109, st109⟩ := own_stIA X108 hx hZ e108 H108 (j := (7 : Int32)) (by decide) (by decide) (g := (mkF m 45 #[.val (.int i0), .val (.int i1), .val (.int i2), .unset, .unset, .unset] [(.int (128 : Int32)), (.int (7 : Int32)), (.ref a101), (.ref a101)])) rfl rfl (hb hby at_45)
  obtain ⟨f109, H109⟩ : ∃ f, own_IA Z h109 a101 34 f := ⟨_, G109⟩
  obtain ⟨L109, X109, M109⟩ := own_hide X109 (Fr.snoc X109 M108 Z101)
  clear G109 W109
  refine own_by st109 ?_
  show own_Go p e below _ (T109.setTop (mkF m 46 #[.val (.int i0), .val (.int i1), .val (.int i2), .unset, .unset, .unset] [(.ref a101)]))
  refine own_by (fun _ kont => XS.dup X109.here hx rfl (hb hby at_46) rfl rfl kont) ?_
  show own_Go p e below _ (T109.setTop (mkF m 47 #[.val (.int i0), .val (.int i1), .val (.int i2), .unset, .unset, .unset] [(.ref a101), (.ref a101)]))
  refine own_by (fun _ kont => XT.bipushV X109.here hx rfl (8 : Int32) (hb hby at_47) rfl kont) ?_
  show own_Go p e below _ (T109.setTop (mkF m 49 #[.val (.int i0), .val (.int i1), .val (.int i2), .unset, .unset, .unset] [(.int (8 : Int32)), (.ref a101), (.ref a101)]))
  refine own_by (fun _ kont => XT.sipushV X109.here hx rfl (192 : Int32) (hb hby at_49) rfl kont) ?_
  show own_Go p e below _ (T109.setTop (mkF m 52 #[.val (.int i0), .val (.int i1), .val (.int i2), .unset, .unset, .unset] [(.int (192 : Int32)), (.int (8 : Int32)), (.ref a101), (.ref a101)]))
  obtain ⟨T110, h110, X110, e110, W110, G110, st110⟩ := own_stIA X109 hx hZ e109 H109 (j := (8 : Int32)) (by decide) (by decide) (g := (mkF m 52 #[.val (.int i0), .val (.int i1), .val (.int i2), .unset, .unset, .unset] [(.int (192 : Int32)), (.int (8 : Int32)), (.ref a101), (.ref a101)])) rfl rfl (hb hby at_52)
  obtain ⟨f110, H110⟩ : ∃ f, own_IA Z h110 a101 34 f := ⟨_, G110⟩
  obtain ⟨L110, X110, M110⟩ := own_hide X110 (Fr.snoc X110 M109 Z101)
  clear G110 W110
  refine own_by st110 ?_
  show own_Go p e below _ (T110.setTop (mkF m 53 #[.val (.int i0), .val (.int i1), .val (.int i2), .unset, .unset, .unset] [(.ref a101)]))
  refine own_by (fun _ kont => XS.dup X110.here hx rfl (hb hby at_53) rfl rfl kont) ?_
  show own_Go p e below _ (T110.setTop (mkF m 54 #[.val (.int i0), .val (.int i1), .val (.int i2), .unset, .unset, .unset] [(.ref a101), (.ref a101)]))
  refine own_by (fun _ kont => XT.bipushV X110.here hx rfl (9 : Int32) (hb hby at_54) rfl kont) ?_
  show own_Go p e below _ (T110.setTop (mkF m 56 #[.val (.int i0), .val (.int i1), .val (.int i2), .unset, .unset, .unset] [(.int (9 : Int32)), (.ref a101), (.ref a101)]))
  refine own_by (fun _ kont => XT.sipushV X110.here hx rfl (214 : Int32) (hb hby at_56) rfl kont) ?_
  show own_Go p e below _ (T110.setTop (mkF m 59 #[.val (.int i0), .val (.int i1), .val (.int i2), .unset, .unset, .unset] [(.int (214 : Int32)), (.int (9 : Int32)), (.ref a101), (.ref a101)]))
  obtain ⟨T111, h111, X111, e111, W111, G111, st111⟩ := own_stIA X110 hx hZ e110 H110 (j := (9 : Int32)) (by decide) (by decide) (g := (mkF m 59 #[.val (.int i0), .val (.int i1), .val (.int i2), .unset, .unset, .unset] [(.int (214 : Int32)), (.int (9 : Int32)), (.ref a101), (.ref a101)])) rfl rfl (hb hby at_59)
  obtain ⟨f111, H111⟩ : ∃ f, own_IA Z h111 a101 34 f := ⟨_, G111⟩
  obtain ⟨L111, X111, M111⟩ := own_hide X111 (Fr.snoc X111 M110 Z101)
  clear G111 W111
  refine own_by st111 ?_
  show own_Go p e below _ (T111.setTop (mkF m 60 #[.val (.int i0), .val (.int i1), .val (.int i2), .unset, .unset, .unset] [(.ref a101)]))
  refine own_by (fun _ kont => XS.dup X111.here hx rfl (hb hby at_60) rfl rfl kont) ?_
  show own_Go p e below _ (T111.setTop (mkF m 61 #[.val (.int i0), .val (.int i1), .val (.int i2), .unset, .unset, .unset] [(.ref a101), (.ref a101)]))
  refine own_by (fun _ kont => XT.bipushV X111.here hx rfl (10 : Int32) (hb hby at_61) rfl kont) ?_
  show own_Go p e below _ (T111.setTop (mkF m 63 #[.val (.int i0), .val (.int i1), .val (.int i2), .unset, .unset, .unset] [(.int (10 : Int32)), (.ref a101), (.ref a101)]))
  refine own_by (fun _ kont => XT.sipushV X111.here hx rfl (216 : Int32) (hb hby at_63) rfl kont) ?_
  show own_Go p e below _ (T111.setTop (mkF m 66 #[.val (.int i0), .val (.int i1), .val (.int i2), .unset, .unset, .unset] [(.int (216 : Int32)), (.int (10 : Int32)), (.ref a101), (.ref a101)]))
  obtain ⟨T112, h112, X112, e112, W112, G112, st112⟩ := own_stIA X111 hx hZ e111 H111 (j := (10 : Int32)) (by decide) (by decide) (g := (mkF m 66 #[.val (.int i0), .val (.int i1), .val (.int i2), .unset, .unset, .unset] [(.int (216 : Int32)), (.int (10 : Int32)), (.ref a101), (.ref a101)])) rfl rfl (hb hby at_66)
  obtain ⟨f112, H112⟩ : ∃ f, own_IA Z h112 a101 34 f := ⟨_, G112⟩
  obtain ⟨L112, X112, M112⟩ := own_hide X112 (Fr.snoc X112 M111 Z101)
  clear G112 W112
  refine own_by st112 ?_
  show own_Go p e below _ (T112.setTop (mkF m 67 #[.val (.int i0), .val (.int i1), .val (.int i2), .unset, .unset, .unset] [(.ref a101)]))
  refine own_by (fun _ kont => XS.dup X112.here hx rfl (hb hby at_67) rfl rfl kont) ?_
  show own_Go p e below _ (T112.setTop (mkF m 68 #[.val (.int i0), .val (.int i1), .val (.int i2), .unset, .unset, .unset] [(.ref a101), (.ref a101)]))
  refine own_by (fun _ kont => XT.bipushV X112.here hx rfl (11 : Int32) (hb hby at_68) rfl kont) ?_
  show own_Go p e below _ (T112.setTop (mkF m 70 #[.val (.int i0), .val (.int i1), .val (.int i2), .unset, .unset, .unset] [(.int (11 : Int32)), (.ref a101), (.ref a101)]))
  refine own_by (fun _ kont => XT.sipushV X112.here hx rfl (246 : Int32) (hb hby at_70) rfl kont) ?_
  show own_Go p e below _ (T112.setTop (mkF m 73 #[.val (.int i0), .val (.int i1), .val (.int i2), .unset, .unset, .unset] [(.int (246 : Int32)), (.int (11 : Int32)), (.ref a101), (.ref a101)]))
  obtain ⟨T113, h113, X113, e113, W113, G113, st113⟩ := own_stIA X112 hx hZ e112 H112 (j := (11 : Int32)) (by decide) (by decide) (g := (mkF m 73 #[.val (.int i0), .val (.int i1), .val (.int i2), .unset, .unset, .unset] [(.int (246 : Int32)), (.int (11 : Int32)), (.ref a101), (.ref a101)])) rfl rfl (hb hby at_73)
  obtain ⟨f113, H113⟩ : ∃ f, own_IA Z h113 a101 34 f := ⟨_, G113⟩
  obtain ⟨L113, X113, M113⟩ := own_hide X113 (Fr.snoc X113 M112 Z101)
  clear G113 W113
  refine own_by st113 ?_
  show own_Go p e below _ (T113.setTop (mkF m 74 #[.val (.int i0), .val (.int i1), .val (.int i2), .unset, .unset, .unset] [(.ref a101)]))
  refine own_by (fun _ kont => XS.dup X113.here hx rfl (hb hby at_74) rfl rfl kont) ?_
  show own_Go p e below _ (T113.setTop (mkF m 75 #[.val (.int i0), .val (.int i1), .val (.int i2), .unset, .unset, .unset] [(.ref a101), (.ref a101)]))
  refine own_by (fun _ kont => XT.bipushV X113.here hx rfl (12 : Int32) (hb hby at_75) rfl kont) ?_
  show own_Go p e below _ (T113.setTop (mkF m 77 #[.val (.int i0), .val (.int i1), .val (.int i2), .unset, .unset, .unset] [(.int (12 : Int32)), (.ref a101), (.ref a101)]))
  refine own_by (fun _ kont => XT.sipushV X113.here hx rfl (248 : Int32) (hb hby at_77) rfl kont) ?_
  show own_Go p e below _ (T113.setTop (mkF m 80 #[.val (.int i0), .val (.int i1), .val (.int i2), .unset, .unset, .unset] [(.int (248 : Int32)), (.int (12 : Int32)), (.ref a101), (.ref a101)]))
  obtain ⟨T114, h114, X114, e114, W114, G114, st114⟩ := own_stIA X113 hx hZ e113 H113 (j := (12 : Int32)) (by decide) (by decide) (g := (mkF m 80 #[.val (.int i0), .val (.int i1), .val (.int i2), .unset, .unset, .unset] [(.int (248 : Int32)), (.int (12 : Int32)), (.ref a101), (.ref a101)])) rfl rfl (hb hby at_80)
  obtain ⟨f114, H114⟩ : ∃ f, own_IA Z h114 a101 34 f := ⟨_, G114⟩
  obtain ⟨L114, X114, M114⟩ := own_hide X114 (Fr.snoc X114 M113 Z101)
  clear G114 W114
  refine own_by st114 ?_
  show own_Go p e below _ (T114.setTop (mkF m 81 #[.val (.int i0), .val (.int i1), .val (.int i2), .unset, .unset, .unset] [(.ref a101)]))
  refine own_by (fun _ kont => XS.dup X114.here hx rfl (hb hby at_81) rfl rfl kont) ?_
  show own_Go p e below _ (T114.setTop (mkF m 82 #[.val (.int i0), .val (.int i1), .val (.int i2), .unset, .unset, .unset] [(.ref a101), (.ref a101)]))
  refine own_by (fun _ kont => XT.bipushV X114.here hx rfl (13 : Int32) (hb hby at_82) rfl kont) ?_
  show own_Go p e below _ (T114.setTop (mkF m 84 #[.val (.int i0), .val (.int i1), .val (.int i2), .unset, .unset, .unset] [(.int (13 : Int32)), (.ref a101), (.ref a101)]))
  refine own_by (fun _ kont => XT.sipushV X114.here hx rfl (767 : Int32) (hb hby at_84) rfl kont) ?_
  show own_Go p e below _ (T114.setTop (mkF m 87 #[.val (.int i0), .val (.int i1), .val (.int i2), .unset, .unset, .unset] [(.int (767 : Int32)), (.int (13 : Int32)), (.ref a101), (.ref a101)]))
  obtain ⟨T115, h115, X115, e115, W115, G115, st115⟩ := own_stIA X114 hx hZ e114 H114 (j := (13 : Int32)) (by decide) (by decide) (g := (mkF m 87 #[.val (.int i0), .val (.int i1), .val (.int i2), .unset, .unset, .unset] [(.int (767 : Int32)), (.int (13 : Int32)), (.ref a101), (.ref a101)])) rfl rfl (hb hby at_87)
  obtain ⟨f115, H115⟩ : ∃ f, own_IA Z h115 a101 34 f := ⟨_, G115⟩
  obtain ⟨L115, X115, M115⟩ := own_hide X115 (Fr.snoc X115 M114 Z101)
  clear G115 W115
  refine own_by st115 ?_
  show own_Go p e below _ (T115.setTop (mkF m 88 #[.val (.int i0), .val (.int i1), .val (.int i2), .unset, .unset, .unset] [(.ref a101)]))
  refine own_by (fun _ kont => XS.dup X115.here hx rfl (hb hby at_88) rfl rfl kont) ?_
  show own_Go p e below _ (T115.setTop (mkF m 89 #[.val (.int i0), .val (.int i1), .val (.int i2), .unset, .unset, .unset] [(.ref a101), (.ref a101)]))
  refine own_by (fun _ kont => XT.bipushV X115.here hx rfl (14 : Int32) (hb hby at_89) rfl kont) ?_
  show own_Go p e below _ (T115.setTop (mkF m 91 #[.val (.int i0), .val (.int i1), .val (.int i2), .unset, .unset, .unset] [(.int (14 : Int32)), (.ref a101), (.ref a101)]))
  refine own_by (fun _ kont => XT.sipushV X115.here hx rfl (880 : Int32) (hb hby at_91) rfl kont) ?_
  show own_Go p e below _ (T115.setTop (mkF m 94 #[.val (.int i0), .val (.int i1), .val (.int i2), .unset, .unset, .unset] [(.int (880 : Int32)), (.int (14 : Int32)), (.ref a101), (.ref a101)]))
  obtain ⟨T116, h116, X116, e116, W116, G116, st116⟩ := own_stIA X115 hx hZ e115 H115 (j := (14 : Int32)) (by decide) (by decide) (g := (mkF m 94 #[.val (.int i0), .val (.int i1), .val (.int i2), .unset, .unset, .unset] [(.int (880 : Int32)), (.int (14 : Int32)), (.ref a101), (.ref a101)])) rfl rfl (hb hby at_94)
  obtain ⟨f116, H116⟩ : ∃ f, own_IA Z h116 a101 34 f := ⟨_, G116⟩
  obtain ⟨L116, X116, M116⟩ := own_hide X116 (Fr.snoc X116 M115 Z101)
  clear G116 W116
  refine own_by st116 ?_
  show own_Go p e below _ (T116.setTop (mkF m 95 #[.val (.int i0), .val (.int i1), .val (.int i2), .unset, .unset, .unset] [(.ref a101)]))
  refine own_by (fun _ kont => XS.dup X116.here hx rfl (hb hby at_95) rfl rfl kont) ?_
  show own_Go p e below _ (T116.setTop (mkF m 96 #[.val (.int i0), .val (.int i1), .val (.int i2), .unset, .unset, .unset] [(.ref a101), (.ref a101)]))
  refine own_by (fun _ kont => XT.bipushV X116.here hx rfl (15 : Int32) (hb hby at_96) rfl kont) ?_
  show own_Go p e below _ (T116.setTop (mkF m 98 #[.val (.int i0), .val (.int i1), .val (.int i2), .unset, .unset, .unset] [(.int (15 : Int32)), (.ref a101), (.ref a101)]))
  refine own_by (fun _ kont => XT.sipushV X116.here hx rfl (893 : Int32) (hb hby at_98) rfl kont) ?_
  show own_Go p e below _ (T116.setTop (mkF m 101 #[.val (.int i0), .val (.int i1), .val (.int i2), .unset, .unset, .unset] [(.int (893 : Int32)), (.int (15 : Int32)), (.ref a101), (.ref a101)]))
  obtain ⟨T117, h117, X117, e117, W117, G117, st117⟩ := own_stIA X116 hx hZ e116 H116 (j := (15 : Int32)) (by decide) (by decide) (g := (mkF m 101 #[.val (.int i0), .val (.int i1), .val (.int i2), .unset, .unset, .unset] [(.int (893 : Int32)), (.int (15 : Int32)), (.ref a101), (.ref a101)])) rfl rfl (hb hby at_101)
  obtain ⟨f117, H117⟩ : ∃ f, own_IA Z h117 a101 34 f := ⟨_, G117⟩
  obtain ⟨L117, X117, M117⟩ := own_hide X117 (Fr.snoc X117 M116 Z101)
  clear G117 W117
  refine own_by st117 ?_
  show own_Go p e below _ (T117.setTop (mkF m 102 #[.val (.int i0), .val (.int i1), .val (.int i2), .unset, .unset, .unset] [(.ref a101)]))
  refine own_by (fun _ kont => XS.dup X117.here hx rfl (hb hby at_102) rfl rfl kont) ?_
  show own_Go p e below _ (T117.setTop (mkF m 103 #[.val (.int i0), .val (.int i1), .val (.int i2), .unset, .unset, .unset] [(.ref a101), (.ref a101)]))
  refine own_by (fun _ kont => XT.bipushV X117.here hx rfl (16 : Int32) (hb hby at_103) rfl kont) ?_
  show own_Go p e below _ (T117.setTop (mkF m 105 #[.val (.int i0), .val (.int i1), .val (.int i2), .unset, .unset, .unset] [(.int (16 : Int32)), (.ref a101), (.ref a101)]))
  refine own_by (fun _ kont => XT.sipushV X117.here hx rfl (895 : Int32) (hb hby at_105) rfl kont) ?_
  show own_Go p e below _ (T117.setTop (mkF m 108 #[.val (.int i0), .val (.int i1), .val (.int i2), .unset, .unset, .unset] [(.int (895 : Int32)), (.int (16 : Int32)), (.ref a101), (.ref a101)]))
  obtain ⟨T118, h118, X118, e118, W118, G118, st118⟩ := own_stIA X117 hx hZ e117 H117 (j := (16 : Int32)) (by decide) (by decide) (g := (mkF m 108 #[.val (.int i0), .val (.int i1), .val (.int i2), .unset, .unset, .unset] [(.int (895 : Int32)), (.int (16 : Int32)), (.ref a101), (.ref a101)])) rfl rfl (hb hby at_108)
  obtain ⟨f118, H118⟩ : ∃ f, own_IA Z h118 a101 34 f := ⟨_, G118⟩
  obtain ⟨L118, X118, M118⟩ := own_hide X118 (Fr.snoc X118 M117 Z101)
  clear G118 W118
  refine own_by st118 ?_
  show own_Go p e below _ (T118.setTop (mkF m 109 #[.val (.int i0), .val (.int i1), .val (.int i2), .unset, .unset, .unset] [(.ref a101)]))
  refine own_by (fun _ kont => XS.dup X118.here hx rfl (hb hby at_109) rfl rfl kont) ?_
  show own_Go p e below _ (T118.setTop (mkF m 110 #[.val (.int i0), .val (.int i1), .val (.int i2), .unset, .unset, .unset] [(.ref a101), (.ref a101)]))
  refine own_by (fun _ kont => XT.bipushV X118.here hx rfl (17 : Int32) (hb hby at_110) rfl kont) ?_
  show own_Go p e below _ (T118.setTop (mkF m 112 #[.val (.int i0), .val (.int i1), .val (.int i2), .unset, .unset, .unset] [(.int (17 : Int32)), (.ref a101), (.ref a101)]))
  refine own_by (fun _ kont => XT.sipushV X118.here hx rfl (8191 : Int32) (hb hby at_112) rfl kont) ?_
  show own_Go p e below _ (T118.setTop (mkF m 115 #[.val (.int i0), .val (.int i1), .val (.int i2), .unset, .unset, .unset] [(.int (8191 : Int32)), (.int (17 : Int32)), (.ref a101), (.ref a101)]))
  obtain ⟨T119, h119, X119, e119, W119, G119, st119⟩ := own_stIA X118 hx hZ e118 H118 (j := (17 : Int32)) (by decide) (by decide) (g := (mkF m 115 #[.val (.int i0), .val (.int i1), .val (.int i2), .unset, .unset, .unset] [(.int (8191 : Int32)), (.int (17 : Int32)), (.ref a101), (.ref a101)])) rfl rfl (hb hby at_115)
  obtain ⟨f119, H119⟩ : ∃ f, own_IA Z h119 a101 34 f := ⟨_, G119⟩
  obtain ⟨L119, X119, M119⟩ := own_hide X119 (Fr.snoc X119 M118 Z101)
  clear G119 W119
  refine own_by st119 ?_
  show own_Go p e below _ (T119.setTop (mkF m 116 #[.val (.int i0), .val (.int i1), .val (.int i2), .unset, .unset, .unset] [(.ref a101)]))
  refine own_by (fun _ kont => XS.dup X119.here hx rfl (hb hby at_116) rfl rfl kont) ?_
  show own_Go p e below _ (T119.setTop (mkF m 117 #[.val (.int i0), .val (.int i1), .val (.int i2), .unset, .unset, .unset] [(.ref a101), (.ref a101)]))
  refine own_by (fun _ kont => XT.bipushV X119.here hx rfl (18 : Int32) (hb hby at_117) rfl kont) ?_
  show own_Go p e below _ (T119.setTop (mkF m 119 #[.val (.int i0), .val (.int i1), .val (.int i2), .unset, .unset, .unset] [(.int (18 : Int32)), (.ref a101), (.ref a101)]))
  refine own_by (fun _ kont => XT.sipushV X119.here hx rfl (8204 : Int32) (hb hby at_119) rfl kont) ?_
  show own_Go p e below _ (T119.setTop (mkF m 122 #[.val (.int i0), .val (.int i1), .val (.int i2), .unset, .unset, .unset] [(.int (8204 : Int32)), (.int (18 : Int32)), (.ref a101), (.ref a101)]))
  obtain ⟨T120, h120, X120, e120, W120, G120, st120⟩ := own_stIA X119 hx hZ e119 H119 (j := (18 : Int32)) (by decide) (by decide) (g := (mkF m 122 #[.val (.int i0), .val (.int i1), .val (.int i2), .unset, .unset, .unset] [(.int (8204 : Int32)), (.int (18 : Int32)), (.ref a101), (.ref a101)])) rfl rfl (hb hby at_122)
  obtain ⟨f120, H120⟩ : ∃ f, own_IA Z h120 a101 34 f := ⟨_, G120⟩
  obtain ⟨L120, X120, M120⟩ := own_hide X120 (Fr.snoc X120 M119 Z101)
  clear G120 W120
  refine own_by st120 ?_
  show own_Go p e below _ (T120.setTop (mkF m 123 #[.val (.int i0), .val (.int i1), .val (.int i2), .unset, .unset, .unset] [(.ref a101)]))
  refine own_by (fun _ kont => XS.dup X120.here hx rfl (hb hby at_123) rfl rfl kont) ?_
  show own_Go p e below _ (T120.setTop (mkF m 124 #[.val (.int i0), .val (.int i1), .val (.int i2), .unset, .unset, .unset] [(.ref a101), (.ref a101)]))
  refine own_by (fun _ kont => XT.bipushV X120.here hx rfl (19 : Int32) (hb hby at_124) rfl kont) ?_
  show own_Go p e below _ (T120.setTop (mkF m 126 #[.val (.int i0), .val (.int i1), .val (.int i2), .unset, .unset, .unset] [(.int (19 : Int32)), (.ref a101), (.ref a101)]))
  refine own_by (fun _ kont => XT.sipushV X120.here hx rfl (8205 : Int32) (hb hby at_126) rfl kont) ?_
  show own_Go p e below _ (T120.setTop (mkF m 129 #[.val (.int i0), .val (.int i1), .val (.int i2), .unset, .unset, .unset] [(.int (8205 : Int32)), (.int (19 : Int32)), (.ref a101), (.ref a101)]))
  obtain ⟨T121, h121, X121, e121, W121, G121, st121⟩ := own_stIA X120 hx hZ e120 H120 (j := (19 : Int32)) (by decide) (by decide) (g := (mkF m 129 #[.val (.int i0), .val (.int i1), .val (.int i2), .unset, .unset, .unset] [(.int (8205 : Int32)), (.int (19 : Int32)), (.ref a101), (.ref a101)])) rfl rfl (hb hby at_129)
  obtain ⟨f121, H121⟩ : ∃ f, own_IA Z h121 a101 34 f := ⟨_, G121⟩
  obtain ⟨L121, X121, M121⟩ := own_hide X121 (Fr.snoc X121 M120 Z101)
  clear G121 W121
  refine own_by st121 ?_
  show own_Go p e below _ (T121.setTop (mkF m 130 #[.val (.int i0), .val (.int i1), .val (.int i2), .unset, .unset, .unset] [(.ref a101)]))
  refine own_by (fun _ kont => XS.dup X121.here hx rfl (hb hby at_130) rfl rfl kont) ?_
  show own_Go p e below _ (T121.setTop (mkF m 131 #[.val (.int i0), .val (.int i1), .val (.int i2), .unset, .unset, .unset] [(.ref a101), (.ref a101)]))
  refine own_by (fun _ kont => XT.bipushV X121.here hx rfl (20 : Int32) (hb hby at_131) rfl kont) ?_
  show own_Go p e below _ (T121.setTop (mkF m 133 #[.val (.int i0), .val (.int i1), .val (.int i2), .unset, .unset, .unset] [(.int (20 : Int32)), (.ref a101), (.ref a101)]))
  refine own_by (fun _ kont => XT.sipushV X121.here hx rfl (8304 : Int32) (hb hby at_133) rfl kont) ?_
  show own_Go p e below _ (T121.setTop (mkF m 136 #[.val (.int i0), .val (.int i1), .val (.int i2), .unset, .unset, .unset] [(.int (8304 : Int32)), (.int (20 : Int32)), (.ref a101), (.ref a101)]))
  obtain ⟨T122, h122, X122, e122, W122, G122, st122⟩ := own_stIA X121 hx hZ e121 H121 (j := (20 : Int32)) (by decide) (by decide) (g := (mkF m 136 #[.val (.int i0), .val (.int i1), .val (.int i2), .unset, .unset, .unset] [(.int (8304 : Int32)), (.int (20 : Int32)), (.ref a101), (.ref a101)])) rfl rfl (hb hby at_136)
  obtain ⟨f122, H122⟩ : ∃ f, own_IA Z h122 a101 34 f := ⟨_, G122⟩
  obtain ⟨L122, X122, M122⟩ := own_hide X122 (Fr.snoc X122 M121 Z101)
  clear G122 W122
  refine own_by st122 ?_
  show own_Go p e below _ (T122.setTop (mkF m 137 #[.val (.int i0), .val (.int i1), .val (.int i2), .unset, .unset, .unset] [(.ref a101)]))
  refine own_by (fun _ kont => XS.dup X122.here hx rfl (hb hby at_137) rfl rfl kont) ?_
  show own_Go p e below _ (T122.setTop (mkF m 138 #[.val (.int i0), .val (.int i1), .val (.int i2), .unset, .unset, .unset] [(.ref a101), (.ref a101)]))
  refine own_by (fun _ kont => XT.bipushV X122.here hx rfl (21 : Int32) (hb hby at_138) rfl kont) ?_
  show own_Go p e below _ (T122.setTop (mkF m 140 #[.val (.int i0), .val (.int i1), .val (.int i2), .unset, .unset, .unset] [(.int (21 : Int32)), (.ref a101), (.ref a101)]))
  refine own_by (fun _ kont => XT.sipushV X122.here hx rfl (8591 : Int32) (hb hby at_140) rfl kont) ?_
  show own_Go p e below _ (T122.setTop (mkF m 143 #[.val (.int i0), .val (.int i1), .val (.int i2), .unset, .unset, .unset] [(.int (8591 : Int32)), (.int (21 : Int32)), (.ref a101), (.ref a101)]))
  obtain ⟨T123, h123, X123, e123, W123, G123, st123⟩ := own_stIA X122 hx hZ e122 H122 (j := (21 : Int32)) (by decide) (by decide) (g := (mkF m 143 #[.val (.int i0), .val (.int i1), .val (.int i2), .unset, .unset, .unset] [(.int (8591 : Int32)), (.int (21 : Int32)), (.ref a101), (.ref a101)])) rfl rfl (hb hby at_143)
  obtain ⟨f123, H123⟩ : ∃ f, own_IA Z h123 a101 34 f := ⟨_, G123⟩
  obtain ⟨L123, X123, M123⟩ := own_hide X123 (Fr.snoc X123 M122 Z101)
  clear G123 W123
  refine own_by st123 ?_
  show own_Go p e below _ (T123.setTop (mkF m 144 #[.val (.int i0), .val (.int i1), .val (.int i2), .unset, .unset, .unset] [(.ref a101)]))
  refine own_by (fun _ kont => XS.dup X123.here hx rfl (hb hby at_144) rfl rfl kont) ?_
  show own_Go p e below _ (T123.setTop (mkF m 145 #[.val (.int i0), .val (.int i1), .val (.int i2), .unset, .unset, .unset] [(.ref a101), (.ref a101)]))
  refine own_by (fun _ kont => XT.bipushV X123.here hx rfl (22 : Int32) (hb hby at_145) rfl kont) ?_
  show own_Go p e below _ (T123.setTop (mkF m 147 #[.val (.int i0), .val (.int i1), .val (.int i2), .unset, .unset, .unset] [(.int (22 : Int32)), (.ref a101), (.ref a101)]))
  refine own_by (fun _ kont => XT.sipushV X123.here hx rfl (11264 : Int32) (hb hby at_147) rfl kont) ?_
  show own_Go p e below _ (T123.setTop (mkF m 150 #[.val (.int i0), .val (.int i1), .val (.int i2), .unset, .unset, .unset] [(.int (11264 : Int32)), (.int (22 : Int32)), (.ref a101), (.ref a101)]))
  obtain ⟨T124, h124, X124, e124, W124, G124, st124⟩ := own_stIA X123 hx hZ e123 H123 (j := (22 : Int32)) (by decide) (by decide) (g := (mkF m 150 #[.val (.int i0), .val (.int i1), .val (.int i2), .unset, .unset, .unset] [(.int (11264 : Int32)), (.int (22 : Int32)), (.ref a101), (.ref a101)])) rfl rfl (hb hby at_150)
  obtain ⟨f124, H124⟩ : ∃ f, own_IA Z h124 a101 34 f := ⟨_, G124⟩
  obtain ⟨L124, X124, M124⟩ := own_hide X124 (Fr.snoc X124 M123 Z101)
  clear G124 W124
  refine own_by st124 ?_
  show own_Go p e below _ (T124.setTop (mkF m 151 #[.val (.int i0), .val (.int i1), .val (.int i2), .unset, .unset, .unset] [(.ref a101)]))
  refine own_by (fun _ kont => XS.dup X124.here hx rfl (hb hby at_151) rfl rfl kont) ?_
  show own_Go p e below _ (T124.setTop (mkF m 152 #[.val (.int i0), .val (.int i1), .val (.int i2), .unset, .unset, .unset] [(.ref a101), (.ref a101)]))
  refine own_by (fun _ kont => XT.bipushV X124.here hx rfl (23 : Int32) (hb hby at_152) rfl kont) ?_
  show own_Go p e below _ (T124.setTop (mkF m 154 #[.val (.int i0), .val (.int i1), .val (.int i2), .unset, .unset, .unset] [(.int (23 : Int32)), (.ref a101), (.ref a101)]))
  refine own_by (fun _ kont => XT.sipushV X124.here hx rfl (12271 : Int32) (hb hby at_154) rfl kont) ?_
  show own_Go p e below _ (T124.setTop (mkF m 157 #[.val (.int i0), .val (.int i1), .val (.int i2), .unset, .unset, .unset] [(.int (12271 : Int32)), (.int (23 : Int32)), (.ref a101), (.ref a101)]))
  obtain ⟨T125, h125, X125, e125, W125, G125, st125⟩ := own_stIA X124 hx hZ e124 H124 (j := (23 : Int32)) (by decide) (by decide) (g := (mkF m 157 #[.val (.int i0), .val (.int i1), .val (.int i2), .unset, .unset, .unset] [(.int (12271 : Int32)), (.int (23 : Int32)), (.ref a101), (.ref a101)])) rfl rfl (hb hby at_157)
  obtain ⟨f125, H125⟩ : ∃ f, own_IA Z h125 a101 34 f := ⟨_, G125⟩
  obtain ⟨L125, X125, M125⟩ := own_hide X125 (Fr.snoc X125 M124 Z101)
  clear G125 W125
  refine own_by st125 ?_
  show own_Go p e below _ (T125.setTop (mkF m 158 #[.val (.int i0), .val (.int i1), .val (.int i2), .unset, .unset, .unset] [(.ref a101)]))
  refine own_by (fun _ kont => XS.dup X125.here hx rfl (hb hby at_158) rfl rfl kont) ?_
  show own_Go p e below _ (T125.setTop (mkF m 159 #[.val (.int i0), .val (.int i1), .val (.int i2), .unset, .unset, .unset] [(.ref a101), (.ref a101)]))
  refine own_by (fun _ kont => XT.bipushV X125.here hx rfl (24 : Int32) (hb hby at_159) rfl kont) ?_
  show own_Go p e below _ (T125.setTop (mkF m 161 #[.val (.int i0), .val (.int i1), .val (.int i2), .unset, .unset, .unset] [(.int (24 : Int32)), (.ref a101), (.ref a101)]))
  refine own_by (fun _ kont => XT.sipushV X125.here hx rfl (12289 : Int32) (hb hby at_161) rfl kont) ?_
  show own_Go p e below _ (T125.setTop (mkF m 164 #[.val (.int i0), .val (.int i1), .val (.int i2), .unset, .unset, .unset] [(.int (12289 : Int32)), (.int (24 : Int32)), (.ref a101), (.ref a101)]))
  obtain ⟨T126, h126, X126, e126, W126, G126, st126⟩ := own_stIA X125 hx hZ e125 H125 (j := (24 : Int32)) (by decide) (by decide) (g := (mkF m 164 #[.val (.int i0), .val (.int i1), .val (.int i2), .unset, .unset, .unset] [(.int (12289 : Int32)), (.int (24 : Int32)), (.ref a101), (.ref a101)])) rfl rfl (hb hby at_164)
  obtain ⟨f126, H126⟩ : ∃ f, own_IA Z h126 a101 34 f := ⟨_, G126⟩
  obtain ⟨L126, X126, M126⟩ := own_hide X126 (Fr.snoc X126 M125 Z101)
  clear G126 W126
  refine own_by st126 ?_
  show own_Go p e below _ (T126.setTop (mkF m 165 #[.val (.int i0), .val (.int i1), .val (.int i2), .unset, .unset, .unset] [(.ref a101)]))
  refine own_by (fun _ kont => XS.dup X126.here hx rfl (hb hby at_165) rfl rfl kont) ?_
  show own_Go p e below _ (T126.setTop (mkF m 166 #[.val (.int i0), .val (.int i1), .val (.int i2), .unset, .unset, .unset] [(.ref a101), (.ref a101)]))
  refine own_by (fun _ kont => XT.bipushV X126.here hx rfl (25 : Int32) (hb hby at_166) rfl kont) ?_
  show own_Go p e below _ (T126.setTop (mkF m 168 #[.val (.int i0), .val (.int i1), .val (.int i2), .unset, .unset, .unset] [(.int (25 : Int32)), (.ref a101), (.ref a101)]))
  refine own_by (fun _ kont => X126.ldcI hx hown (v := (55295 : Int32)) (mvT hZ (hw _ (List.mem_of_getElem? (i := 1) rfl))) rfl (hb hby at_168) kont) ?_
  show own_Go p e below _ (T126.setTop (mkF m 170 #[.val (.int i0), .val (.int i1), .val (.int i2), .unset, .unset, .unset] [(.int (55295 : Int32)), (.int (25 : Int32)), (.ref a101), (.ref a101)]))
  obtain ⟨T127, h127, X127, e127, W127, G127, st127⟩ := own_stIA X126 hx hZ e126 H126 (j := (25 : Int32)) (by decide) (by decide) (g := (mkF m 170 #[.val (.int i0), .val (.int i1), .val (.int i2), .unset, .unset, .unset] [(.int (55295 : Int32)), (.int (25 : Int32)), (.ref a101), (.ref a101)])) rfl rfl (hb hby at_170)
  obtain ⟨f127, H127⟩ : ∃ f, own_IA Z h127 a101 34 f := ⟨_, G127⟩
  obtain ⟨L127, X127, M127⟩ := own_hide X127 (Fr.snoc X127 M126 Z101)
  clear G127 W127
  refine own_by st127 ?_
  show own_Go p e below _ (T127.setTop (mkF m 171 #[.val (.int i0), .val (.int i1), .val (.int i2), .unset, .unset, .unset] [(.ref a101)]))
  refine own_by (fun _ kont => XS.dup X127.here hx rfl (hb hby at_171) rfl rfl kont) ?_
  show own_Go p e below _ (T127.setTop (mkF m 172 #[.val (.int i0), .val (.int i1), .val (.int i2), .unset, .unset, .unset] [(.ref a101), (.ref a101)]))
  refine own_by (fun _ kont => XT.bipushV X127.here hx rfl (26 : Int32) (hb hby at_172) rfl kont) ?_
  show own_Go p e below _ (T127.setTop (mkF m 174 #[.val (.int i0), .val (.int i1), .val (.int i2), .unset, .unset, .unset] [(.int (26 : Int32)), (.ref a101), (.ref a101)]))
  refine own_by (fun _ kont => X127.ldcI hx hown (v := (63744 : Int32)) (mvT hZ (hw _ (List.mem_of_getElem? (i := 2) rfl))) rfl (hb hby at_174) kont) ?_
  show own_Go p e below _ (T127.setTop (mkF m 176 #[.val (.int i0), .val (.int i1), .val (.int i2), .unset, .unset, .unset] [(.int (63744 : Int32)), (.int (26 : Int32)), (.ref a101), (.ref a101)]))
  obtain ⟨T128, h128, X128, e128, W128, G128, st128⟩ := own_stIA X127 hx hZ e127 H127 (j := (26 : Int32)) (by decide) (by decide) (g := (mkF m 176 #[.val (.int i0), .val (.int i1), .val (.int i2), .unset, .unset, .unset] [(.int (63744 : Int32)), (.int (26 : Int32)), (.ref a101), (.ref a101)])) rfl rfl (hb hby at_176)
  obtain ⟨f128, H128⟩ : ∃ f, own_IA Z h128 a101 34 f := ⟨_, G128⟩
  obtain ⟨L128, X128, M128⟩ := own_hide X128 (Fr.snoc X128 M127 Z101)
  clear G128 W128
  refine own_by st128 ?_
  show own_Go p e below _ (T128.setTop (mkF m 177 #[.val (.int i0), .val (.int i1), .val (.int i2), .unset, .unset, .unset] [(.ref a101)]))
  refine own_by (fun _ kont => XS.dup X128.here hx rfl (hb hby at_177) rfl rfl kont) ?_
  show own_Go p e below _ (T128.setTop (mkF m 178 #[.val (.int i0), .val (.int i1), .val (.int i2), .unset, .unset, .unset] [(.ref a101), (.ref a101)]))
  refine own_by (fun _ kont => XT.bipushV X128.here hx rfl (27 : Int32) (hb hby at_178) rfl kont) ?_
  show own_Go p e below _ (T128.setTop (mkF m 180 #[.val (.int i0), .val (.int i1), .val (.int i2), .unset, .unset, .unset] [(.int (27 : Int32)), (.ref a101), (.ref a101)]))
  refine own_by (fun _ kont => X128.ldcI hx hown (v := (64975 : Int32)) (mvT hZ (hw _ (List.mem_of_getElem? (i := 3) rfl))) rfl (hb hby at_180) kont) ?_
  show own_Go p e below _ (T128.setTop (mkF m 182 #[.val (.int i0), .val (.int i1), .val (.int i2), .unset, .unset, .unset] [(.int (64975 : Int32)), (.int (27 : Int32)), (.ref a101), (.ref a101)]))
  obtain ⟨T129, h129, X129, e129, W129, G129, st129⟩ := own_stIA X128 hx hZ e128 H128 (j := (27 : Int32)) (by decide) (by decide) (g := (mkF m 182 #[.val (.int i0), .val (.int i1), .val (.int i2), .unset, .unset, .unset] [(.int (64975 : Int32)), (.int (27 : Int32)), (.ref a101), (.ref a101)])) rfl rfl (hb hby at_182)
  obtain ⟨f129, H129⟩ : ∃ f, own_IA Z h129 a101 34 f := ⟨_, G129⟩
  obtain ⟨L129, X129, M129⟩ := own_hide X129 (Fr.snoc X129 M128 Z101)
  clear G129 W129
  refine own_by st129 ?_
  show own_Go p e below _ (T129.setTop (mkF m 183 #[.val (.int i0), .val (.int i1), .val (.int i2), .unset, .unset, .unset] [(.ref a101)]))
  refine own_by (fun _ kont => XS.dup X129.here hx rfl (hb hby at_183) rfl rfl kont) ?_
  show own_Go p e below _ (T129.setTop (mkF m 184 #[.val (.int i0), .val (.int i1), .val (.int i2), .unset, .unset, .unset] [(.ref a101), (.ref a101)]))
  refine own_by (fun _ kont => XT.bipushV X129.here hx rfl (28 : Int32) (hb hby at_184) rfl kont) ?_
  show own_Go p e below _ (T129.setTop (mkF m 186 #[.val (.int i0), .val (.int i1), .val (.int i2), .unset, .unset, .unset] [(.int (28 : Int32)), (.ref a101), (.ref a101)]))
  refine own_by (fun _ kont => X129.ldcI hx hown (v := (65008 : Int32)) (mvT hZ (hw _ (List.mem_of_getElem? (i := 4) rfl))) rfl (hb hby at_186) kont) ?_
  show own_Go p e below _ (T129.setTop (mkF m 188 #[.val (.int i0), .val (.int i1), .val (.int i2), .unset, .unset, .unset] [(.int (65008 : Int32)), (.int (28 : Int32)), (.ref a101), (.ref a101)]))
  obtain ⟨T130, h130, X130, e130, W130, G130, st130⟩ := own_stIA X129 hx hZ e129 H129 (j := (28 : Int32)) (by decide) (by decide) (g := (mkF m 188 #[.val (.int i0), .val (.int i1), .val (.int i2), .unset, .unset, .unset] [(.int (65008 : Int32)), (.int (28 : Int32)), (.ref a101), (.ref a101)])) rfl rfl (hb hby at_188)
  obtain ⟨f130, H130⟩ : ∃ f, own_IA Z h130 a101 34 f := ⟨_, G130⟩
  obtain ⟨L130, X130, M130⟩ := own_hide X130 (Fr.snoc X130 M129 Z101)
  clear G130 W130
  refine own_by st130 ?_
  show own_Go p e below _ (T130.setTop (mkF m 189 #[.val (.int i0), .val (.int i1), .val (.int i2), .unset, .unset, .unset] [(.ref a101)]))
  refine own_by (fun _ kont => XS.dup X130.here hx rfl (hb hby at_189) rfl rfl kont) ?_
  show own_Go p e below _ (T130.setTop (mkF m 190 #[.val (.int i0), .val (.int i1), .val (.int i2), .unset, .unset, .unset] [(.ref a101), (.ref a101)]))
  refine own_by (fun _ kont => XT.bipushV X130.here hx rfl (29 : Int32) (hb hby at_190) rfl kont) ?_
  show own_Go p e below _ (T130.setTop (mkF m 192 #[.val (.int i0), .val (.int i1), .val (.int i2), .unset, .unset, .unset] [(.int (29 : Int32)), (.ref a101), (.ref a101)]))
  refine own_by (fun _ kont => X130.ldcI hx hown (v := (65533 : Int32)) (mvT hZ (hw _ (List.mem_of_getElem? (i := 5) rfl))) rfl (hb hby at_192) kont) ?_
  show own_Go p e below _ (T130.setTop (mkF m 194 #[.val (.int i0), .val (.int i1), .val (.int i2), .unset, .unset, .unset] [(.int (65533 : Int32)), (.int (29 : Int32)), (.ref a101), (.ref a101)]))
  obtain ⟨T131, h131, X131, e131, W131, G131, st131⟩ := own_stIA X130 hx hZ e130 H130 (j := (29 : Int32)) (by decide) (by decide) (g := (mkF m 194 #[.val (.int i0), .val (.int i1), .val (.int i2), .unset, .unset, .unset] [(.int (65533 : Int32)), (.int (29 : Int32)), (.ref a101), (.ref a101)])) rfl rfl (hb hby at_194)
  obtain ⟨f131, H131⟩ : ∃ f, own_IA Z h131 a101 34 f := ⟨_, G131⟩
  obtain ⟨L131, X131, M131⟩ := own_hide X131 (Fr.snoc X131 M130 Z101)
  clear G131 W131
  refine own_by st131 ?_
  show own_Go p e below _ (T131.setTop (mkF m 195 #[.val (.int i0), .val (.int i1), .val (.int i2), .unset, .unset, .unset] [(.ref a101)]))
  refine own_by (fun _ kont => XS.dup X131.here hx rfl (hb hby at_195) rfl rfl kont) ?_
  show own_Go p e below _ (T131.setTop (mkF m 196 #[.val (.int i0), .val (.int i1), .val (.int i2), .unset, .unset, .unset] [(.ref a101), (.ref a101)]))
  refine own_by (fun _ kont => XT.bipushV X131.here hx rfl (30 : Int32) (hb hby at_196) rfl kont) ?_
  show own_Go p e below _ (T131.setTop (mkF m 198 #[.val (.int i0), .val (.int i1), .val (.int i2), .unset, .unset, .unset] [(.int (30 : Int32)), (.ref a101), (.ref a101)]))
  refine own_by (fun _ kont => X131.ldcI hx hown (v := (65536 : Int32)) (mvT hZ (hw _ (List.mem_of_getElem? (i := 6) rfl))) rfl (hb hby at_198) kont) ?_
  show own_Go p e below _ (T131.setTop (mkF m 200 #[.val (.int i0), .val (.int i1), .val (.int i2), .unset, .unset, .unset] [(.int (65536 : Int32)), (.int (30 : Int32)), (.ref a101), (.ref a101)]))
  obtain ⟨T132, h132, X132, e132, W132, G132, st132⟩ := own_stIA X131 hx hZ e131 H131 (j := (30 : Int32)) (by decide) (by decide) (g := (mkF m 200 #[.val (.int i0), .val (.int i1), .val (.int i2), .unset, .unset, .unset] [(.int (65536 : Int32)), (.int (30 : Int32)), (.ref a101), (.ref a101)])) rfl rfl (hb hby at_200)
  obtain ⟨f132, H132⟩ : ∃ f, own_IA Z h132 a101 34 f := ⟨_, G132⟩
  obtain ⟨L132, X132, M132⟩ := own_hide X132 (Fr.snoc X132 M131 Z101)
  clear G132 W132
  refine own_by st132 ?_
  show own_Go p e below _ (T132.setTop (mkF m 201 #[.val (.int i0), .val (.int i1), .val (.int i2), .unset, .unset, .unset] [(.ref a101)]))
  refine own_by (fun _ kont => XS.dup X132.here hx rfl (hb hby at_201) rfl rfl kont) ?_
  show own_Go p e below _ (T132.setTop (mkF m 202 #[.val (.int i0), .val (.int i1), .val (.int i2), .unset, .unset, .unset] [(.ref a101), (.ref a101)]))
  refine own_by (fun _ kont => XT.bipushV X132.here hx rfl (31 : Int32) (hb hby at_202) rfl kont) ?_
  show own_Go p e below _ (T132.setTop (mkF m 204 #[.val (.int i0), .val (.int i1), .val (.int i2), .unset, .unset, .unset] [(.int (31 : Int32)), (.ref a101), (.ref a101)]))
  refine own_by (fun _ kont => X132.ldcI hx hown (v := (983039 : Int32)) (mvT hZ (hw _ (List.mem_of_getElem? (i := 7) rfl))) rfl (hb hby at_204) kont) ?_
  show own_Go p e below _ (T132.setTop (mkF m 206 #[.val (.int i0), .val (.int i1), .val (.int i2), .unset, .unset, .unset] [(.int (983039 : Int32)), (.int (31 : Int32)), (.ref a101), (.ref a101)]))
  obtain ⟨T133, h133, X133, e133, W133, G133, st133⟩ := own_stIA X132 hx hZ e132 H132 (j := (31 : Int32)) (by decide) (by decide) (g := (mkF m 206 #[.val (.int i0), .val (.int i1), .val (.int i2), .unset, .unset, .unset] [(.int (983039 : Int32)), (.int (31 : Int32)), (.ref a101), (.ref a101)])) rfl rfl (hb hby at_206)
  obtain ⟨f133, H133⟩ : ∃ f, own_IA Z h133 a101 34 f := ⟨_, G133⟩
  obtain ⟨L133, X133, M133⟩ := own_hide X133 (Fr.snoc X133 M132 Z101)
  clear G133 W133
  refine own_by st133 ?_
  show own_Go p e below _ (T133.setTop (mkF m 207 #[.val (.int i0), .val (.int i1), .val (.int i2), .unset, .unset, .unset] [(.ref a101)]))
  refine own_by (fun _ kont => XS.dup X133.here hx rfl (hb hby at_207) rfl rfl kont) ?_
  show own_Go p e below _ (T133.setTop (mkF m 208 #[.val (.int i0), .val (.int i1), .val (.int i2), .unset, .unset, .unset] [(.ref a101), (.ref a101)]))
  refine own_by (fun _ kont => XT.bipushV X133.here hx rfl (32 : Int32) (hb hby at_208) rfl kont) ?_
  show own_Go p e below _ (T133.setTop (mkF m 210 #[.val (.int i0), .val (.int i1), .val (.int i2), .unset, .unset, .unset] [(.int (32 : Int32)), (.ref a101), (.ref a101)]))
  refine own_by (fun _ kont => X133.ldcI hx hown (v := (-2147483648 : Int32)) (mvT hZ (hw _ (List.mem_of_getElem? (i := 8) rfl))) rfl (hb hby at_210) kont) ?_
  show own_Go p e below _ (T133.setTop (mkF m 212 #[.val (.int i0), .val (.int i1), .val (.int i2), .unset, .unset, .unset] [(.int (-2147483648 : Int32)), (.int (32 : Int32)), (.ref a101), (.ref a101)]))
  obtain ⟨T134, h134, X134, e134, W134, G134, st134⟩ := own_stIA X133 hx hZ e133 H133 (j := (32 : Int32)) (by decide) (by decide) (g := (mkF m 212 #[.val (.int i0), .val (.int i1), .val (.int i2), .unset, .unset, .unset] [(.int (-2147483648 : Int32)), (.int (32 : Int32)), (.ref a101), (.ref a101)])) rfl rfl (hb hby at_212)
  obtain ⟨f134, H134⟩ : ∃ f, own_IA Z h134 a101 34 f := ⟨_, G134⟩
  obtain ⟨L134, X134, M134⟩ := own_hide X134 (Fr.snoc X134 M133 Z101)
  clear G134 W134
  refine own_by st134 ?_
  show own_Go p e below _ (T134.setTop (mkF m 213 #[.val (.int i0), .val (.int i1), .val (.int i2), .unset, .unset, .unset] [(.ref a101)]))
  refine own_by (fun _ kont => XS.dup X134.here hx rfl (hb hby at_213) rfl rfl kont) ?_
  show own_Go p e below _ (T134.setTop (mkF m 214 #[.val (.int i0), .val (.int i1), .val (.int i2), .unset, .unset, .unset] [(.ref a101), (.ref a101)]))
  refine own_by (fun _ kont => XT.bipushV X134.here hx rfl (33 : Int32) (hb hby at_214) rfl kont) ?_
  show own_Go p e below _ (T134.setTop (mkF m 216 #[.val (.int i0), .val (.int i1), .val (.int i2), .unset, .unset, .unset] [(.int (33 : Int32)), (.ref a101), (.ref a101)]))
  refine own_by (fun _ kont => X134.ldcI hx hown (v := (2147483647 : Int32)) (mvT hZ (hw _ (List.mem_of_getElem? (i := 9) rfl))) rfl (hb hby at_216) kont) ?_
  show own_Go p e below _ (T134.setTop (mkF m 218 #[.val (.int i0), .val (.int i1), .val (.int i2), .unset, .unset, .unset] [(.int (2147483647 : Int32)), (.int (33 : Int32)), (.ref a101), (.ref a101)]))
  obtain ⟨T135, h135, X135, e135, W135, G135, st135⟩ := own_stIA X134 hx hZ e134 H134 (j := (33 : Int32)) (by decide) (by decide) (g := (mkF m 218 #[.val (.int i0), .val (.int i1), .val (.int i2), .unset, .unset, .unset] [(.int (2147483647 : Int32)), (.int (33 : Int32)), (.ref a101), (.ref a101)])) rfl rfl (hb hby at_218)
  obtain ⟨f135, H135⟩ : ∃ f, own_IA Z h135 a101 34 f := ⟨_, G135⟩
  obtain ⟨L135, X135, M135⟩ := own_hide X135 (Fr.snoc X135 M134 Z101)
  clear G135 W135
  refine own_by st135 ?_
  show own_Go p e below _ (T135.setTop (mkF m 219 #[.val (.int i0), .val (.int i1), .val (.int i2), .unset, .unset, .unset] [(.ref a101)]))
  refine own_by (fun _ kont => XS.astoreN X135.here hx rfl (hb hby at_219) rfl rfl (l' := #[.val (.int i0), .val (.int i1), .val (.int i2), .val (.ref a101), .unset, .unset]) rfl kont) ?_
  show own_Go p e below _ (T135.setTop (mkF m 220 #[.val (.int i0), .val (.int i1), .val (.int i2), .val (.ref a101), .unset, .unset] []))
  refine own_by (fun _ kont => XS.iloadN X135.here hx rfl (hb hby at_220) rfl kont) ?_
  show own_Go p e below _ (T135.setTop (mkF m 221 #[.val (.int i0), .val (.int i1), .val (.int i2), .val (.ref a101), .unset, .unset] [(.int i1)]))
  refine own_by (fun _ kont => XT.iconstV X135.here hx rfl (1 : Int32) (hb hby at_221) rfl kont) ?_
  show own_Go p e below _ (T135.setTop (mkF m 222 #[.val (.int i0), .val (.int i1), .val (.int i2), .val (.ref a101), .unset, .unset] [(.int (1 : Int32)), (.int i1)]))
  refine own_by (fun _ kont => XS.iand X135.here hx rfl (hb hby at_222) rfl kont) ?_
  show own_Go p e below _ (T135.setTop (mkF m 223 #[.val (.int i0), .val (.int i1), .val (.int i2), .val (.ref a101), .unset, .unset] [(.int (i1 &&& (1 : Int32)))]))
  by_cases hp : (i1 &&& (1 : Int32)) = (0 : Int32)
  · refine own_by (fun _ kont => XS.ifNo X135.here hx rfl (hb hby at_223) rfl (XT.i0_ne_f hp) kont) ?_
    show own_Go p e below _ (T135.setTop (mkF m 226 #[.val (.int i0), .val (.int i1), .val (.int i2), .val (.ref a101), .unset, .unset] []))
    refine own_by (fun _ kont => XS.iloadN X135.here hx rfl (hb hby at_226) rfl kont) ?_
    show own_Go p e below _ (T135.setTop (mkF m 227 #[.val (.int i0), .val (.int i1), .val (.int i2), .val (.ref a101), .unset, .unset] [(.int i0)]))
    refine own_by (fun _ kont => XS.istore X135.here hx rfl (hb hby at_227) rfl (l' := #[.val (.int i0), .val (.int i1), .val (.int i2), .val (.ref a101), .val (.int i0), .unset]) rfl kont) ?_
    show own_Go p e below _ (T135.setTop (mkF m 229 #[.val (.int i0), .val (.int i1), .val (.int i2), .val (.ref a101), .val (.int i0), .unset] []))
    refine own_by (fun _ kont => XS.goto X135.here hx rfl (pc0 := 229) (pc' := 248) rfl (hb hby at_229) (by decide) (by decide) kont) ?_
    show own_Go p e below _ (T135.setTop (mkF m 248 #[.val (.int i0), .val (.int i1), .val (.int i2), .val (.ref a101), .val (.int i0), .unset] []))
    refine own_by (fun _ kont => XS.iload X135.here hx rfl (hb hby at_248) rfl kont) ?_
    show own_Go p e below _ (T135.setTop (mkF m 250 #[.val (.int i0), .val (.int i1), .val (.int i2), .val (.ref a101), .val (.int i0), .unset] [(.int i0)]))
    obtain ⟨_, _, ⟨T136, L136, k136, n136⟩, -, X136, ⟨Lc136, hQ136, l136, y136, z136⟩, st136⟩ := Jvm.LawKit.callS X135 hx (y := (⟨"com/example/penelope/penelope/XmlCharsIsNameStartCharPinLaw", "excluded", "(I)Z"⟩ : MethodName)) hown (mvT hZ (hw _ (List.mem_of_getElem? (i := 10) rfl))) (mvT hZ (hw _ (List.mem_of_getElem? (i := 11) rfl))) (mvT hZ (hw _ (List.mem_of_getElem? (i := 12) rfl))) (mvT hZ (hw _ (List.mem_of_getElem? (i := 13) rfl))) (by decide) (backOf (W := 0) (rm1 l Z a0 hw [] i0 h135 n0) hZ (hw _ (List.mem_of_getElem? (i := 13) rfl)) (hw _ (List.mem_of_getElem? (i := 12) rfl)) (by decide) (by decide)) (g := (mkF m 250 #[.val (.int i0), .val (.int i1), .val (.int i2), .val (.ref a101), .val (.int i0), .unset] [(.int i0)])) rfl (by rw [hml]; rfl) (argsL := [(.int i0)]) (rest := []) (lenOf own_pd1 rfl) rfl (by show 2 * 0 + _ ≤ _; exact Nat.le_of_eq rfl) (hb hby at_250) (fun _ _ => ⟨rfl, e135, (by decide : 1 + 0 ≤ _), (by decide : 34 + 0 ≤ _)⟩)
    dsimp only [Pt.U, Pt.locs, Pt.cells, Pt.slots] at X136 l136 y136 z136 st136 hQ136
    subst l136 y136 z136
    obtain ⟨rfl, N136, e136⟩ := hQ136
    obtain ⟨L136, X136, M136⟩ := own_hide X136 (Fr.app M135 N136)
    refine own_by st136 ?_
    show own_Go p e below _ (T136.setTop (mkF m 253 #[.val (.int i0), .val (.int i1), .val (.int i2), .val (.ref a101), .val (.int i0), .unset] [(.int (f1_0 i0))]))
    by_cases hq : (f1_0 i0) = (0 : Int32)
    · refine own_by (fun _ kont => XS.ifNo X136.here hx rfl (hb hby at_253) rfl (XT.i0_ne_f hq) kont) ?_
      show own_Go p e below _ (T136.setTop (mkF m 256 #[.val (.int i0), .val (.int i1), .val (.int i2), .val (.ref a101), .val (.int i0), .unset] []))
      refine own_by (fun _ kont => XT.iconstV X136.here hx rfl (1 : Int32) (hb hby at_256) rfl kont) ?_
      show own_Go p e below _ (T136.setTop (mkF m 257 #[.val (.int i0), .val (.int i1), .val (.int i2), .val (.ref a101), .val (.int i0), .unset] [(.int (1 : Int32))]))
      refine own_by (fun _ kont => XS.goto X136.here hx rfl (pc0 := 257) (pc' := 261) rfl (hb hby at_257) (by decide) (by decide) kont) ?_
      show own_Go p e below _ (T136.setTop (mkF m 261 #[.val (.int i0), .val (.int i1), .val (.int i2), .val (.ref a101), .val (.int i0), .unset] [(.int (1 : Int32))]))
      refine own_by (fun _ kont => XS.istore X136.here hx rfl (hb hby at_261) rfl (l' := #[.val (.int i0), .val (.int i1), .val (.int i2), .val (.ref a101), .val (.int i0), .val (.int (1 : Int32))]) rfl kont) ?_
      show own_Go p e below _ (T136.setTop (mkF m 263 #[.val (.int i0), .val (.int i1), .val (.int i2), .val (.ref a101), .val (.int i0), .val (.int (1 : Int32))] []))
      refine own_by (fun _ kont => XS.iload X136.here hx rfl (hb hby at_263) rfl kont) ?_
      show own_Go p e below _ (T136.setTop (mkF m 265 #[.val (.int i0), .val (.int i1), .val (.int i2), .val (.ref a101), .val (.int i0), .val (.int (1 : Int32))] [(.int i0)]))
      obtain ⟨_, _, ⟨T137, L137, k137, n137⟩, -, X137, ⟨Lc137, hQ137, l137, y137, z137⟩, st137⟩ := Jvm.LawKit.callS X136 hx (y := (⟨"com/example/penelope/penelope/XmlChars", "isNameStartChar", "(I)Z"⟩ : MethodName)) hown (mvT hZ (hw _ (List.mem_of_getElem? (i := 14) rfl))) (mvT hZ (hw _ (List.mem_of_getElem? (i := 15) rfl))) (mvT hZ (hw _ (List.mem_of_getElem? (i := 16) rfl))) (mvT hZ (hw _ (List.mem_of_getElem? (i := 17) rfl))) (by decide) (backOf (W := 0) (rm2 l Z a0 hw [] i0 h135 n0) hZ (hw _ (List.mem_of_getElem? (i := 17) rfl)) (hw _ (List.mem_of_getElem? (i := 16) rfl)) (by decide) (by decide)) (g := (mkF m 265 #[.val (.int i0), .val (.int i1), .val (.int i2), .val (.ref a101), .val (.int i0), .val (.int (1 : Int32))] [(.int i0)])) rfl (by rw [hml]; rfl) (argsL := [(.int i0)]) (rest := []) (lenOf own_pd1 rfl) rfl (by show 2 * 0 + _ ≤ _; exact Nat.le_of_eq rfl) (hb hby at_265) (fun _ _ => ⟨rfl, e136, (by decide : 1 + 0 ≤ _), (by decide : 34 + 0 ≤ _)⟩)
      dsimp only [Pt.U, Pt.locs, Pt.cells, Pt.slots] at X137 l137 y137 z137 st137 hQ137
      subst l137 y137 z137
      obtain ⟨rfl, N137, e137⟩ := hQ137
      obtain ⟨L137, X137, M137⟩ := own_hide X137 (Fr.app M136 N137)
      refine own_by st137 ?_
      show own_Go p e below _ (T137.setTop (mkF m 268 #[.val (.int i0), .val (.int i1), .val (.int i2), .val (.ref a101), .val (.int i0), .val (.int (1 : Int32))] [(.int (f2_0 i0))]))
      refine own_by (fun _ kont => XS.iload X137.here hx rfl (hb hby at_268) rfl kont) ?_
      show own_Go p e below _ (T137.setTop (mkF m 270 #[.val (.int i0), .val (.int i1), .val (.int i2), .val (.ref a101), .val (.int i0), .val (.int (1 : Int32))] [(.int (1 : Int32)), (.int (f2_0 i0))]))
      refine own_by (fun _ kont => XS.icmpNo X137.here hx rfl (hb hby at_270) rfl (XT.ii_ne_f (own_yes hq)) kont) ?_
      show own_Go p e below _ (T137.setTop (mkF m 273 #[.val (.int i0), .val (.int i1), .val (.int i2), .val (.ref a101), .val (.int i0), .val (.int (1 : Int32))] []))
      refine own_by (fun _ kont => XT.iconstV X137.here hx rfl (1 : Int32) (hb hby at_273) rfl kont) ?_
      show own_Go p e below _ (T137.setTop (mkF m 274 #[.val (.int i0), .val (.int i1), .val (.int i2), .val (.ref a101), .val (.int i0), .val (.int (1 : Int32))] [(.int (1 : Int32))]))
      refine own_by (fun _ kont => XS.goto X137.here hx rfl (pc0 := 274) (pc' := 278) rfl (hb hby at_274) (by decide) (by decide) kont) ?_
      show own_Go p e below _ (T137.setTop (mkF m 278 #[.val (.int i0), .val (.int i1), .val (.int i2), .val (.ref a101), .val (.int i0), .val (.int (1 : Int32))] [(.int (1 : Int32))]))
      exact own_ret X137 hx hlk hret rfl (Or.inl ⟨rfl, by simp, _, rfl⟩) (hb hby at_278) ⟨rfl, M137⟩ (by decide) (by decide)
    · refine own_by (fun _ kont => XS.ifYes X136.here hx rfl (pc0 := 253) (pc' := 260) rfl (hb hby at_253) rfl (XT.i0_ne_t hq) (by decide) (by decide) kont) ?_
      show own_Go p e below _ (T136.setTop (mkF m 260 #[.val (.int i0), .val (.int i1), .val (.int i2), .val (.ref a101), .val (.int i0), .unset] []))
      refine own_by (fun _ kont => XT.iconstV X136.here hx rfl (0 : Int32) (hb hby at_260) rfl kont) ?_
      show own_Go p e below _ (T136.setTop (mkF m 261 #[.val (.int i0), .val (.int i1), .val (.int i2), .val (.ref a101), .val (.int i0), .unset] [(.int (0 : Int32))]))
      refine own_by (fun _ kont => XS.istore X136.here hx rfl (hb hby at_261) rfl (l' := #[.val (.int i0), .val (.int i1), .val (.int i2), .val (.ref a101), .val (.int i0), .val (.int (0 : Int32))]) rfl kont) ?_
      show own_Go p e below _ (T136.setTop (mkF m 263 #[.val (.int i0), .val (.int i1), .val (.int i2), .val (.ref a101), .val (.int i0), .val (.int (0 : Int32))] []))
      refine own_by (fun _ kont => XS.iload X136.here hx rfl (hb hby at_263) rfl kont) ?_
      show own_Go p e below _ (T136.setTop (mkF m 265 #[.val (.int i0), .val (.int i1), .val (.int i2), .val (.ref a101), .val (.int i0), .val (.int (0 : Int32))] [(.int i0)]))
      obtain ⟨_, _, ⟨T138, L138, k138, n138⟩, -, X138, ⟨Lc138, hQ138, l138, y138, z138⟩, st138⟩ := Jvm.LawKit.callS X136 hx (y := (⟨"com/example/penelope/penelope/XmlChars", "isNameStartChar", "(I)Z"⟩ : MethodName)) hown (mvT hZ (hw _ (List.mem_of_getElem? (i := 14) rfl))) (mvT hZ (hw _ (List.mem_of_getElem? (i := 15) rfl))) (mvT hZ (hw _ (List.mem_of_getElem? (i := 16) rfl))) (mvT hZ (hw _ (List.mem_of_getElem? (i := 17) rfl))) (by decide) (backOf (W := 0) (rm2 l Z a0 hw [] i0 h135 n0) hZ (hw _ (List.mem_of_getElem? (i := 17) rfl)) (hw _ (List.mem_of_getElem? (i := 16) rfl)) (by decide) (by decide)) (g := (mkF m 265 #[.val (.int i0), .val (.int i1), .val (.int i2), .val (.ref a101), .val (.int i0), .val (.int (0 : Int32))] [(.int i0)])) rfl (by rw [hml]; rfl) (argsL := [(.int i0)]) (rest := []) (lenOf own_pd1 rfl) rfl (by show 2 * 0 + _ ≤ _; exact Nat.le_of_eq rfl) (hb hby at_265) (fun _ _ => ⟨rfl, e136, (by decide : 1 + 0 ≤ _), (by decide : 34 + 0 ≤ _)⟩)
      dsimp only [Pt.U, Pt.locs, Pt.cells, Pt.slots] at X138 l138 y138 z138 st138 hQ138
      subst l138 y138 z138
      obtain ⟨rfl, N138, e138⟩ := hQ138
      obtain ⟨L138, X138, M138⟩ := own_hide X138 (Fr.app M136 N138)
      refine own_by st138 ?_
      show own_Go p e below _ (T138.setTop (mkF m 268 #[.val (.int i0), .val (.int i1), .val (.int i2), .val (.ref a101), .val (.int i0), .val (.int (0 : Int32))] [(.int (f2_0 i0))]))
      refine own_by (fun _ kont => XS.iload X138.here hx rfl (hb hby at_268) rfl kont) ?_
      show own_Go p e below _ (T138.setTop (mkF m 270 #[.val (.int i0), .val (.int i1), .val (.int i2), .val (.ref a101), .val (.int i0), .val (.int (0 : Int32))] [(.int (0 : Int32)), (.int (f2_0 i0))]))
      refine own_by (fun _ kont => XS.icmpNo X138.here hx rfl (hb hby at_270) rfl (XT.ii_ne_f (own_no hq)) kont) ?_
      show own_Go p e below _ (T138.setTop (mkF m 273 #[.val (.int i0), .val (.int i1), .val (.int i2), .val (.ref a101), .val (.int i0), .val (.int (0 : Int32))] []))
      refine own_by (fun _ kont => XT.iconstV X138.here hx rfl (1 : Int32) (hb hby at_273) rfl kont) ?_
      show own_Go p e below _ (T138.setTop (mkF m 274 #[.val (.int i0), .val (.int i1), .val (.int i2), .val (.ref a101), .val (.int i0), .val (.int (0 : Int32))] [(.int (1 : Int32))]))
      refine own_by (fun _ kont => XS.goto X138.here hx rfl (pc0 := 274) (pc' := 278) rfl (hb hby at_274) (by decide) (by decide) kont) ?_
      show own_Go p e below _ (T138.setTop (mkF m 278 #[.val (.int i0), .val (.int i1), .val (.int i2), .val (.ref a101), .val (.int i0), .val (.int (0 : Int32))] [(.int (1 : Int32))]))
      exact own_ret X138 hx hlk hret rfl (Or.inl ⟨rfl, by simp, _, rfl⟩) (hb hby at_278) ⟨rfl, M138⟩ (by decide) (by decide)
  · refine own_by (fun _ kont => XS.ifYes X135.here hx rfl (pc0 := 223) (pc' := 232) rfl (hb hby at_223) rfl (XT.i0_ne_t hp) (by decide) (by decide) kont) ?_
    show own_Go p e below _ (T135.setTop (mkF m 232 #[.val (.int i0), .val (.int i1), .val (.int i2), .val (.ref a101), .unset, .unset] []))
    refine own_by (fun _ kont => XS.aloadN X135.here hx rfl (hb hby at_232) rfl rfl kont) ?_
    show own_Go p e below _ (T135.setTop (mkF m 233 #[.val (.int i0), .val (.int i1), .val (.int i2), .val (.ref a101), .unset, .unset] [(.ref a101)]))
    refine own_by (fun _ kont => XS.iloadN X135.here hx rfl (hb hby at_233) rfl kont) ?_
    show own_Go p e below _ (T135.setTop (mkF m 234 #[.val (.int i0), .val (.int i1), .val (.int i2), .val (.ref a101), .unset, .unset] [(.int i1), (.ref a101)]))
    refine own_by (fun _ kont => XT.iconstV X135.here hx rfl (1 : Int32) (hb hby at_234) rfl kont) ?_
    show own_Go p e below _ (T135.setTop (mkF m 235 #[.val (.int i0), .val (.int i1), .val (.int i2), .val (.ref a101), .unset, .unset] [(.int (1 : Int32)), (.int i1), (.ref a101)]))
    refine own_by (fun _ kont => XT.iushr X135.here hx rfl (hb hby at_235) rfl kont) ?_
    show own_Go p e below _ (T135.setTop (mkF m 236 #[.val (.int i0), .val (.int i1), .val (.int i2), .val (.ref a101), .unset, .unset] [(.int (XT.ushr i1 (1 : Int32))), (.ref a101)]))
    refine own_by (fun _ kont => XS.aloadN X135.here hx rfl (hb hby at_236) rfl rfl kont) ?_
    show own_Go p e below _ (T135.setTop (mkF m 237 #[.val (.int i0), .val (.int i1), .val (.int i2), .val (.ref a101), .unset, .unset] [(.ref a101), (.int (XT.ushr i1 (1 : Int32))), (.ref a101)]))
    refine own_by (fun _ kont => own_lenIA X135 hx hZ e135 H135 (z := (34 : Int32)) (by decide) rfl rfl (hb hby at_237) kont) ?_
    show own_Go p e below _ (T135.setTop (mkF m 238 #[.val (.int i0), .val (.int i1), .val (.int i2), .val (.ref a101), .unset, .unset] [(.int (34 : Int32)), (.int (XT.ushr i1 (1 : Int32))), (.ref a101)]))
    refine own_by (fun _ kont => XS.irem X135.here hx rfl (hb hby at_238) rfl (by decide) kont) ?_
    show own_Go p e below _ (T135.setTop (mkF m 239 #[.val (.int i0), .val (.int i1), .val (.int i2), .val (.ref a101), .unset, .unset] [(.int ((XT.ushr i1 (1 : Int32)) - ((XT.ushr i1 (1 : Int32)) / (34 : Int32)) * (34 : Int32))), (.ref a101)]))
    refine own_by (fun _ kont => own_ldIA X135 hx hZ e135 H135 (j := ((XT.ushr i1 (1 : Int32)) - ((XT.ushr i1 (1 : Int32)) / (34 : Int32)) * (34 : Int32))) ((own_rem (own_ushr1 _) (by decide)).1) (Int.lt_of_lt_of_le (own_rem (own_ushr1 _) (by decide)).2 (by decide)) rfl rfl (hb hby at_239) kont) ?_
    show own_Go p e below _ (T135.setTop (mkF m 240 #[.val (.int i0), .val (.int i1), .val (.int i2), .val (.ref a101), .unset, .unset] [(.int (f135 ((XT.ushr i1 (1 : Int32)) - ((XT.ushr i1 (1 : Int32)) / (34 : Int32)) * (34 : Int32)).toInt.toNat))]))
    generalize (f135 ((XT.ushr i1 (1 : Int32)) - ((XT.ushr i1 (1 : Int32)) / (34 : Int32)) * (34 : Int32)).toInt.toNat) = w140
    show own_Go p e below _ (T135.setTop (mkF m 240 #[.val (.int i0), .val (.int i1), .val (.int i2), .val (.ref a101), .unset, .unset] [(.int w140)]))
    refine own_by (fun _ kont => XS.iloadN X135.here hx rfl (hb hby at_240) rfl kont) ?_
    show own_Go p e below _ (T135.setTop (mkF m 241 #[.val (.int i0), .val (.int i1), .val (.int i2), .val (.ref a101), .unset, .unset] [(.int i2), (.int w140)]))
    refine own_by (fun _ kont => XT.iconstV X135.here hx rfl (3 : Int32) (hb hby at_241) rfl kont) ?_
    show own_Go p e below _ (T135.setTop (mkF m 242 #[.val (.int i0), .val (.int i1), .val (.int i2), .val (.ref a101), .unset, .unset] [(.int (3 : Int32)), (.int i2), (.int w140)]))
    refine own_by (fun _ kont => XS.iand X135.here hx rfl (hb hby at_242) rfl kont) ?_
    show own_Go p e below _ (T135.setTop (mkF m 243 #[.val (.int i0), .val (.int i1), .val (.int i2), .val (.ref a101), .unset, .unset] [(.int (i2 &&& (3 : Int32))), (.int w140)]))
    refine own_by (fun _ kont => XT.iconstV X135.here hx rfl (1 : Int32) (hb hby at_243) rfl kont) ?_
    show own_Go p e below _ (T135.setTop (mkF m 244 #[.val (.int i0), .val (.int i1), .val (.int i2), .val (.ref a101), .unset, .unset] [(.int (1 : Int32)), (.int (i2 &&& (3 : Int32))), (.int w140)]))
    refine own_by (fun _ kont => XS.isub X135.here hx rfl (hb hby at_244) rfl kont) ?_
    show own_Go p e below _ (T135.setTop (mkF m 245 #[.val (.int i0), .val (.int i1), .val (.int i2), .val (.ref a101), .unset, .unset] [(.int ((i2 &&& (3 : Int32)) - (1 : Int32))), (.int w140)]))
    refine own_by (fun _ kont => XS.iadd X135.here hx rfl (hb hby at_245) rfl kont) ?_
    show own_Go p e below _ (T135.setTop (mkF m 246 #[.val (.int i0), .val (.int i1), .val (.int i2), .val (.ref a101), .unset, .unset] [(.int (w140 + ((i2 &&& (3 : Int32)) - (1 : Int32))))]))
    refine own_by (fun _ kont => XS.istore X135.here hx rfl (hb hby at_246) rfl (l' := #[.val (.int i0), .val (.int i1), .val (.int i2), .val (.ref a101), .val (.int (w140 + ((i2 &&& (3 : Int32)) - (1 : Int32)))), .unset]) rfl kont) ?_
    show own_Go p e below _ (T135.setTop (mkF m 248 #[.val (.int i0), .val (.int i1), .val (.int i2), .val (.ref a101), .val (.int (w140 + ((i2 &&& (3 : Int32)) - (1 : Int32)))), .unset] []))
    refine own_by (fun _ kont => XS.iload X135.here hx rfl (hb hby at_248) rfl kont) ?_
    show own_Go p e below _ (T135.setTop (mkF m 250 #[.val (.int i0), .val (.int i1), .val (.int i2), .val (.ref a101), .val (.int (w140 + ((i2 &&& (3 : Int32)) - (1 : Int32)))), .unset] [(.int (w140 + ((i2 &&& (3 : Int32)) - (1 : Int32))))]))
    obtain ⟨_, _, ⟨T141, L141, k141, n141⟩, -, X141, ⟨Lc141, hQ141, l141, y141, z141⟩, st141⟩ := Jvm.LawKit.callS X135 hx (y := (⟨"com/example/penelope/penelope/XmlCharsIsNameStartCharPinLaw", "excluded", "(I)Z"⟩ : MethodName)) hown (mvT hZ (hw _ (List.mem_of_getElem? (i := 10) rfl))) (mvT hZ (hw _ (List.mem_of_getElem? (i := 11) rfl))) (mvT hZ (hw _ (List.mem_of_getElem? (i := 12) rfl))) (mvT hZ (hw _ (List.mem_of_getElem? (i := 13) rfl))) (by decide) (backOf (W := 0) (rm1 l Z a0 hw [] (w140 + ((i2 &&& (3 : Int32)) - (1 : Int32))) h135 n0) hZ (hw _ (List.mem_of_getElem? (i := 13) rfl)) (hw _ (List.mem_of_getElem? (i := 12) rfl)) (by decide) (by decide)) (g := (mkF m 250 #[.val (.int i0), .val (.int i1), .val (.int i2), .val (.ref a101), .val (.int (w140 + ((i2 &&& (3 : Int32)) - (1 : Int32)))), .unset] [(.int (w140 + ((i2 &&& (3 : Int32)) - (1 : Int32))))])) rfl (by rw [hml]; rfl) (argsL := [(.int (w140 + ((i2 &&& (3 : Int32)) - (1 : Int32))))]) (rest := []) (lenOf own_pd1 rfl) rfl (by show 2 * 0 + _ ≤ _; exact Nat.le_of_eq rfl) (hb hby at_250) (fun _ _ => ⟨rfl, e135, (by decide : 1 + 0 ≤ _), (by decide : 34 + 0 ≤ _)⟩)
    dsimp only [Pt.U, Pt.locs, Pt.cells, Pt.slots] at X141 l141 y141 z141 st141 hQ141
    subst l141 y141 z141
    obtain ⟨rfl, N141, e141⟩ := hQ141
    obtain ⟨L141, X141, M141⟩ := own_hide X141 (Fr.app M135 N141)
    refine own_by st141 ?_
    show own_Go p e below _ (T141.setTop (mkF m 253 #[.val (.int i0), .val (.int i1), .val (.int i2), .val (.ref a101), .val (.int (w140 + ((i2 &&& (3 : Int32)) - (1 : Int32)))), .unset] [(.int (f1_0 (w140 + ((i2 &&& (3 : Int32)) - (1 : Int32)))))]))
    by_cases hq : (f1_0 (w140 + ((i2 &&& (3 : Int32)) - (1 : Int32)))) = (0 : Int32)
    · refine own_by (fun _ kont => XS.ifNo X141.here hx rfl (hb hby at_253) rfl (XT.i0_ne_f hq) kont) ?_
      show own_Go p e below _ (T141.setTop (mkF m 256 #[.val (.int i0), .val (.int i1), .val (.int i2), .val (.ref a101), .val (.int (w140 + ((i2 &&& (3 : Int32)) - (1 : Int32)))), .unset] []))
      refine own_by (fun _ kont => XT.iconstV X141.here hx rfl (1 : Int32) (hb hby at_256) rfl kont) ?_
      show own_Go p e below _ (T141.setTop (mkF m 257 #[.val (.int i0), .val (.int i1), .val (.int i2), .val (.ref a101), .val (.int (w140 + ((i2 &&& (3 : Int32)) - (1 : Int32)))), .unset] [(.int (1 : Int32))]))
      refine own_by (fun _ kont => XS.goto X141.here hx rfl (pc0 := 257) (pc' := 261) rfl (hb hby at_257) (by decide) (by decide) kont) ?_
      show own_Go p e below _ (T141.setTop (mkF m 261 #[.val (.int i0), .val (.int i1), .val (.int i2), .val (.ref a101), .val (.int (w140 + ((i2 &&& (3 : Int32)) - (1 : Int32)))), .unset] [(.int (1 : Int32))]))
      refine own_by (fun _ kont => XS.istore X141.here hx rfl (hb hby at_261) rfl (l' := #[.val (.int i0), .val (.int i1), .val (.int i2), .val (.ref a101), .val (.int (w140 + ((i2 &&& (3 : Int32)) - (1 : Int32)))), .val (.int (1 : Int32))]) rfl kont) ?_
      show own_Go p e below _ (T141.setTop (mkF m 263 #[.val (.int i0), .val (.int i1), .val (.int i2), .val (.ref a101), .val (.int (w140 + ((i2 &&& (3 : Int32)) - (1 : Int32)))), .val (.int (1 : Int32))] []))
      refine own_by (fun _ kont => XS.iload X141.here hx rfl (hb hby at_263) rfl kont) ?_
      show own_Go p e below _ (T141.setTop (mkF m 265 #[.val (.int i0), .val (.int i1), .val (.int i2), .val (.ref a101), .val (.int (w140 + ((i2 &&& (3 : Int32)) - (1 : Int32)))), .val (.int (1 : Int32))] [(.int (w140 + ((i2 &&& (3 : Int32)) - (1 : Int32))))]))
      obtain ⟨_, _, ⟨T142, L142, k142, n142⟩, -, X142, ⟨Lc142, hQ142, l142, y142, z142⟩, st142⟩ := Jvm.LawKit.callS X141 hx (y := (⟨"com/example/penelope/penelope/XmlChars", "isNameStartChar", "(I)Z"⟩ : MethodName)) hown (mvT hZ (hw _ (List.mem_of_getElem? (i := 14) rfl))) (mvT hZ (hw _ (List.mem_of_getElem? (i := 15) rfl))) (mvT hZ (hw _ (List.mem_of_getElem? (i := 16) rfl))) (mvT hZ (hw _ (List.mem_of_getElem? (i := 17) rfl))) (by decide) (backOf (W := 0) (rm2 l Z a0 hw [] (w140 + ((i2 &&& (3 : Int32)) - (1 : Int32))) h135 n0) hZ (hw _ (List.mem_of_getElem? (i := 17) rfl)) (hw _ (List.mem_of_getElem? (i := 16) rfl)) (by decide) (by decide)) (g := (mkF m 265 #[.val (.int i0), .val (.int i1), .val (.int i2), .val (.ref a101), .val (.int (w140 + ((i2 &&& (3 : Int32)) - (1 : Int32)))), .val (.int (1 : Int32))] [(.int (w140 + ((i2 &&& (3 : Int32)) - (1 : Int32))))])) rfl (by rw [hml]; rfl) (argsL := [(.int (w140 + ((i2 &&& (3 : Int32)) - (1 : Int32))))]) (rest := []) (lenOf own_pd1 rfl) rfl (by show 2 * 0 + _ ≤ _; exact Nat.le_of_eq rfl) (hb hby at_265) (fun _ _ => ⟨rfl, e141, (by decide : 1 + 0 ≤ _), (by decide : 34 + 0 ≤ _)⟩)
      dsimp only [Pt.U, Pt.locs, Pt.cells, Pt.slots] at X142 l142 y142 z142 st142 hQ142
      subst l142 y142 z142
      obtain ⟨rfl, N142, e142⟩ := hQ142
      obtain ⟨L142, X142, M142⟩ := own_hide X142 (Fr.app M141 N142)
      refine own_by st142 ?_
      show own_Go p e below _ (T142.setTop (mkF m 268 #[.val (.int i0), .val (.int i1), .val (.int i2), .val (.ref a101), .val (.int (w140 + ((i2 &&& (3 : Int32)) - (1 : Int32)))), .val (.int (1 : Int32))] [(.int (f2_0 (w140 + ((i2 &&& (3 : Int32)) - (1 : Int32)))))]))
      refine own_by (fun _ kont => XS.iload X142.here hx rfl (hb hby at_268) rfl kont) ?_
      show own_Go p e below _ (T142.setTop (mkF m 270 #[.val (.int i0), .val (.int i1), .val (.int i2), .val (.ref a101), .val (.int (w140 + ((i2 &&& (3 : Int32)) - (1 : Int32)))), .val (.int (1 : Int32))] [(.int (1 : Int32)), (.int (f2_0 (w140 + ((i2 &&& (3 : Int32)) - (1 : Int32)))))]))
      refine own_by (fun _ kont => XS.icmpNo X142.here hx rfl (hb hby at_270) rfl (XT.ii_ne_f (own_yes hq)) kont) ?_
      show own_Go p e below _ (T142.setTop (mkF m 273 #[.val (.int i0), .val (.int i1), .val (.int i2), .val (.ref a101), .val (.int (w140 + ((i2 &&& (3 : Int32)) - (1 : Int32)))), .val (.int (1 : Int32))] []))
      refine own_by (fun _ kont => XT.iconstV X142.here hx rfl (1 : Int32) (hb hby at_273) rfl kont) ?_
      show own_Go p e below _ (T142.setTop (mkF m 274 #[.val (.int i0), .val (.int i1), .val (.int i2), .val (.ref a101), .val (.int (w140 + ((i2 &&& (3 : Int32)) - (1 : Int32)))), .val (.int (1 : Int32))] [(.int (1 : Int32))]))
      refine own_by (fun _ kont => XS.goto X142.here hx rfl (pc0 := 274) (pc' := 278) rfl (hb hby at_274) (by decide) (by decide) kont) ?_
      show own_Go p e below _ (T142.setTop (mkF m 278 #[.val (.int i0), .val (.int i1), .val (.int i2), .val (.ref a101), .val (.int (w140 + ((i2 &&& (3 : Int32)) - (1 : Int32)))), .val (.int (1 : Int32))] [(.int (1 : Int32))]))
      exact own_ret X142 hx hlk hret rfl (Or.inl ⟨rfl, by simp, _, rfl⟩) (hb hby at_278) ⟨rfl, M142⟩ (by decide) (by decide)
    · refine own_by (fun _ kont => XS.ifYes X141.here hx rfl (pc0 := 253) (pc' := 260) rfl (hb hby at_253) rfl (XT.i0_ne_t hq) (by decide) (by decide) kont) ?_
      show own_Go p e below _ (T141.setTop (mkF m 260 #[.val (.int i0), .val (.int i1), .val (.int i2), .val (.ref a101), .val (.int (w140 + ((i2 &&& (3 : Int32)) - (1 : Int32)))), .unset] []))
      refine own_by (fun _ kont => XT.iconstV X141.here hx rfl (0 : Int32) (hb hby at_260) rfl kont) ?_
      show own_Go p e below _ (T141.setTop (mkF m 261 #[.val (.int i0), .val (.int i1), .val (.int i2), .val (.ref a101), .val (.int (w140 + ((i2 &&& (3 : Int32)) - (1 : Int32)))), .unset] [(.int (0 : Int32))]))
      refine own_by (fun _ kont => XS.istore X141.here hx rfl (hb hby at_261) rfl (l' := #[.val (.int i0), .val (.int i1), .val (.int i2), .val (.ref a101), .val (.int (w140 + ((i2 &&& (3 : Int32)) - (1 : Int32)))), .val (.int (0 : Int32))]) rfl kont) ?_
      show own_Go p e below _ (T141.setTop (mkF m 263 #[.val (.int i0), .val (.int i1), .val (.int i2), .val (.ref a101), .val (.int (w140 + ((i2 &&& (3 : Int32)) - (1 : Int32)))), .val (.int (0 : Int32))] []))
      refine own_by (fun _ kont => XS.iload X141.here hx rfl (hb hby at_263) rfl kont) ?_
      show own_Go p e below _ (T141.setTop (mkF m 265 #[.val (.int i0), .val (.int i1), .val (.int i2), .val (.ref a101), .val (.int (w140 + ((i2 &&& (3 : Int32)) - (1 : Int32)))), .val (.int (0 : Int32))] [(.int (w140 + ((i2 &&& (3 : Int32)) - (1 : Int32))))]))
      obtain ⟨_, _, ⟨T143, L143, k143, n143⟩, -, X143, ⟨Lc143, hQ143, l143, y143, z143⟩, st143⟩ := Jvm.LawKit.callS X141 hx (y := (⟨"com/example/penelope/penelope/XmlChars", "isNameStartChar", "(I)Z"⟩ : MethodName)) hown (mvT hZ (hw _ (List.mem_of_getElem? (i := 14) rfl))) (mvT hZ (hw _ (List.mem_of_getElem? (i := 15) rfl))) (mvT hZ (hw _ (List.mem_of_getElem? (i := 16) rfl))) (mvT hZ (hw _ (List.mem_of_getElem? (i := 17) rfl))) (by decide) (backOf (W := 0) (rm2 l Z a0 hw [] (w140 + ((i2 &&& (3 : Int32)) - (1 : Int32))) h135 n0) hZ (hw _ (List.mem_of_getElem? (i := 17) rfl)) (hw _ (List.mem_of_getElem? (i := 16) rfl)) (by decide) (by decide)) (g := (mkF m 265 #[.val (.int i0), .val (.int i1), .val (.int i2), .val (.ref a101), .val (.int (w140 + ((i2 &&& (3 : Int32)) - (1 : Int32)))), .val (.int (0 : Int32))] [(.int (w140 + ((i2 &&& (3 : Int32)) - (1 : Int32))))])) rfl (by rw [hml]; rfl) (argsL := [(.int (w140 + ((i2 &&& (3 : Int32)) - (1 : Int32))))]) (rest := []) (lenOf own_pd1 rfl) rfl (by show 2 * 0 + _ ≤ _; exact Nat.le_of_eq rfl) (hb hby at_265) (fun _ _ => ⟨rfl, e141, (by decide : 1 + 0 ≤ _), (by decide : 34 + 0 ≤ _)⟩)
      dsimp only [Pt.U, Pt.locs, Pt.cells, Pt.slots] at X143 l143 y143 z143 st143 hQ143
      subst l143 y143 z143
      obtain ⟨rfl, N143, e143⟩ := hQ143
      obtain ⟨L143, X143, M143⟩ := own_hide X143 (Fr.app M141 N143)
      refine own_by st143 ?_
      show own_Go p e below _ (T143.setTop (mkF m 268 #[.val (.int i0), .val (.int i1), .val (.int i2), .val (.ref a101), .val (.int (w140 + ((i2 &&& (3 : Int32)) - (1 : Int32)))), .val (.int (0 : Int32))] [(.int (f2_0 (w140 + ((i2 &&& (3 : Int32)) - (1 : Int32)))))]))
      refine own_by (fun _ kont => XS.iload X143.here hx rfl (hb hby at_268) rfl kont) ?_
      show own_Go p e below _ (T143.setTop (mkF m 270 #[.val (.int i0), .val (.int i1), .val (.int i2), .val (.ref a101), .val (.int (w140 + ((i2 &&& (3 : Int32)) - (1 : Int32)))), .val (.int (0 : Int32))] [(.int (0 : Int32)), (.int (f2_0 (w140 + ((i2 &&& (3 : Int32)) - (1 : Int32)))))]))
      refine own_by (fun _ kont => XS.icmpNo X143.here hx rfl (hb hby at_270) rfl (XT.ii_ne_f (own_no hq)) kont) ?_
      show own_Go p e below _ (T143.setTop (mkF m 273 #[.val (.int i0), .val (.int i1), .val (.int i2), .val (.ref a101), .val (.int (w140 + ((i2 &&& (3 : Int32)) - (1 : Int32)))), .val (.int (0 : Int32))] []))
      refine own_by (fun _ kont => XT.iconstV X143.here hx rfl (1 : Int32) (hb hby at_273) rfl kont) ?_
      show own_Go p e below _ (T143.setTop (mkF m 274 #[.val (.int i0), .val (.int i1), .val (.int i2), .val (.ref a101), .val (.int (w140 + ((i2 &&& (3 : Int32)) - (1 : Int32)))), .val (.int (0 : Int32))] [(.int (1 : Int32))]))
      refine own_by (fun _ kont => XS.goto X143.here hx rfl (pc0 := 274) (pc' := 278) rfl (hb hby at_274) (by decide) (by decide) kont) ?_
      show own_Go p e below _ (T143.setTop (mkF m 278 #[.val (.int i0), .val (.int i1), .val (.int i2), .val (.ref a101), .val (.int (w140 + ((i2 &&& (3 : Int32)) - (1 : Int32)))), .val (.int (0 : Int32))] [(.int (1 : Int32))]))
      exact own_ret X143 hx hlk hret rfl (Or.inl ⟨rfl, by simp, _, rfl⟩) (hb hby at_278) ⟨rfl, M143⟩ (by decide) (by decide)
set_option maxRecDepth 65536 in
set_option maxHeartbeats 4000000 in
theorem comes_1 {Post : Tables → Env → Array Value → State → Outcome → State → Prop} (hpost : ∀ tb e args s v u, (limb_1_1.after args s (.returned v) u = true ∧ limb_1_2.after args s (.returned v) u = true ∧ True) → FrameEnd s (.returned v) u (Jvm.fieldLocs frame_1_writes args s ++ Jvm.arrayLocs frame_1_arrays args s ++ Jvm.staticLocs frame_1_statics s) 16 192 → Post tb e args s (.returned v) u) :
    ArmFor flags0 classFile x code maxLocals ret World_1 tables_1 room_1 Calls_1 rest_1 Pre_1 Post := by
  intro l hfl _ _ p e ha hc hk s m args below hf hA hF happ hP
  obtain ⟨hcalls, hrest, hpre⟩ := hP
  obtain ⟨-, -, -, hnamed, -, -, -, hat⟩ := (Spec.applies_iff hf).mp happ
  obtain ⟨hg, hn⟩ := and_e (Cond.before_iff.mp (show (Jvm.Cond.and given_1 narrow_1).before args s = true from hpre))
  obtain ⟨h1, g0⟩ := and_e hg
  obtain ⟨q0, g1⟩ := and_e g0
  obtain ⟨q1, g2⟩ := and_e g1
  obtain ⟨w0, w1, w2, rfl⟩ : ∃ w0 w1 w2 : Value, args = #[w0, w1, w2] := by
    have hs : args.size = 3 := by simpa [Cond.value, given_1] using h1
    obtain ⟨L⟩ := args
    match L, hs with
    | [w0, w1, w2], _ => exact ⟨w0, w1, w2, rfl⟩
  have hw := fun d (hd : d ∈ tables_1) => atoms_spec (ws := Jvm.Cond.code x code maxLocals ret :: tables_1) hat d (List.mem_cons_of_mem _ hd)
  obtain ⟨i0, ei0⟩ := is_v q0
  obtain rfl : w0 = (.int i0) := Option.some.inj ei0
  obtain ⟨i1, ei1⟩ := is_v q1
  obtain rfl : w1 = (.int i1) := Option.some.inj ei1
  obtain ⟨i2, ei2⟩ := is_v g2
  obtain rfl : w2 = (.int i2) := Option.some.inj ei2
  obtain ⟨n, o, h1, h2, h3, _, L, rfl, ⟨rfl, N⟩, hq⟩ := rmL l s _ hw tables_1 i0 i1 i2 s.heap s.heap.size (Nat.le_refl _) p e ha hc hk s m _ below hf ((Spec.applies_iff_loose hf).mp happ).1 ⟨rfl, State.Warmed39.refl s, rfl⟩ trivial
  refine ⟨n, _, h1, h2, h3, hpost _ _ _ _ _ _ ⟨Cond.after_iff.mpr rfl, Cond.after_iff.mpr (eq_i res_at (Term.int_eval (1)) rfl), trivial⟩ ⟨hq.1, hq.2.1, (hq.2.2.sift fun y hy => Or.inr (N y hy)).mono (by decide) (by decide)⟩⟩
theorem main_1_1 : Claimed_1_1 := comes_1 fun _ _ _ _ _ _ h hF => ⟨h.1, hF⟩
theorem main_1_2 : Claimed_1_2 := comes_1 fun _ _ _ _ _ _ h hF => ⟨h.2.1, hF⟩
end Jvm.Pilot.@@N@@
namespace Jvm.Pilot.@@N@@
open Jvm Jvm.ClassFile Sem Op Lib Jvm.Free Jvm.Stand Jvm.Pilot.@@N@@.Jvm.D
/-! MADE BY PROGRAM (witnessworld.py) out of the Statement's table words and the real class files: 9 classes; the members and pool entries that the words name. The judged class is class 1, her method 2. -/
namespace start1
open Jvm.ClassFile
def u (s : String) : CpInfo := .utf8 (stringToUtf16 s)
/-- a pool by its gaps: so many unusable entries, then the entry; so many at the end -/
def gap : Nat → List CpInfo → List CpInfo
  | 0, r => r
  | n + 1, r => .unusable :: gap n r
def poolList (es : List (Nat × CpInfo)) (last : Nat) : List CpInfo := es.foldr (fun e r => gap e.1 (e.2 :: r)) (gap last [])
def pool (es : List (Nat × CpInfo)) (last : Nat) : Array CpInfo := ⟨poolList es last⟩
def fileOf (pool : Array CpInfo) (this : Nat) (attrs : Array Attribute := #[]) (ms : Array MethodInfo := #[]) (fl : Nat := 33) (sup : Nat := 0) (ifs : Array Nat := #[]) (fds : Array FieldInfo := #[]) : ClassFile where
  minorVersion := 0
  majorVersion := 65
  constantPool := pool
  accessFlags := fl
  thisClass := this
  superClass := sup
  interfaces := ifs
  fields := fds
  methods := ms
  attributes := attrs
def plain (name : String) (sup : Option ClassId) : Class where
  name := name
  kind := .ordinary
  loader := none
  accessFlags := 33
  super := sup
  interfaces := #[]
  cf := none
  fields := #[]
  methods := #[]
  instanceTypes := #[]
  staticTypes := #[]
  resolved := #[]
  callSites := []
  init := .initialized
  statics := none
  mirror := none

def pool0 : Array CpInfo := pool [(5, u "<init>"), (0, u "()V"), (1, .class_ 10), (1, u "java/lang/Object")] 113

def k0m0 : Method := { name := "<init>", desc := "()V", sig := { parameters := [], returnType := none }, accessFlags := 1, code := none }
/-- java/lang/Object -/
def k0 : Class := { plain "java/lang/Object" none with
  accessFlags := 33
  interfaces := #[]
  cf := some (fileOf pool0 8 #[] #[{ accessFlags := 1, nameIndex := 5, descriptorIndex := 6, attributes := #[] }] 33 0 #[] #[])
  fields := #[]
  methods := #[k0m0]
  instanceTypes := #[]
  staticTypes := #[]
  resolved := Array.replicate 124 none
  statics := none }

def pool1 : Array CpInfo := pool [(2, .class_ 4), (1, u "java/lang/Object"), (0, u "<init>"), (0, u "()V"), (0, .integer 983039), (0, .integer 55296), (0, .integer 63743), (0, .integer 64976), (0, .integer 65007), (0, .integer 65534), (0, .integer 65535), (0, .integer 55295), (0, .integer 63744), (0, .integer 64975), (0, .integer 65008), (0, .integer 65533), (0, .integer 65536), (2, .integer 2147483648), (0, .integer 2147483647), (0, .methodref 25 26), (0, .class_ 27), (0, .nameAndType 28 29), (0, u "com/example/penelope/penelope/XmlCharsIsNameStartCharPinLaw"), (0, u "excluded"), (0, u "(I)Z"), (0, .methodref 31 32), (0, .class_ 33), (0, .nameAndType 34 29), (0, u "com/example/penelope/penelope/XmlChars"), (0, u "isNameStartChar"), (3, u "law"), (0, u "(III)Z")] 4

def k1m0 : Method := { name := "<init>", desc := "()V", sig := { parameters := [], returnType := none }, accessFlags := 2, code := none }
def k1c1 : Code := { maxStack := 2, maxLocals := 1, code := method_2_code, exceptionTable := #[], attributes := #[] }
def k1m1 : Method := { name := "excluded", desc := "(I)Z", sig := { parameters := [.int], returnType := some .boolean }, accessFlags := 10, code := some k1c1 }
def k1c2 : Code := { maxStack := 4, maxLocals := 6, code := code, exceptionTable := #[], attributes := #[] }
def k1m2 : Method := { name := "law", desc := "(III)Z", sig := { parameters := [.int, .int, .int], returnType := some .boolean }, accessFlags := 9, code := some k1c2 }
/-- com/example/penelope/penelope/XmlCharsIsNameStartCharPinLaw -/
def k1 : Class := { plain "com/example/penelope/penelope/XmlCharsIsNameStartCharPinLaw" (some 0) with
  accessFlags := 49
  interfaces := #[]
  cf := some (fileOf pool1 25 #[] #[{ accessFlags := 2, nameIndex := 5, descriptorIndex := 6, attributes := #[] }, { accessFlags := 10, nameIndex := 28, descriptorIndex := 29, attributes := #[] }, { accessFlags := 9, nameIndex := 38, descriptorIndex := 39, attributes := #[] }] 49 2 #[] #[])
  fields := #[]
  methods := #[k1m0, k1m1, k1m2]
  instanceTypes := #[]
  staticTypes := #[]
  resolved := Array.replicate 44 none
  statics := none }

def pool2 : Array CpInfo := pool [(2, .class_ 4), (1, u "java/lang/Object"), (0, u "<init>"), (0, u "()V"), (0, .integer 55295), (1, .integer 65533), (0, .integer 65536), (12, .class_ 25), (1, u "com/example/penelope/penelope/XmlChars"), (1, u "(I)Z"), (67, .integer 63744), (0, .integer 64975), (0, .integer 65008), (0, .integer 983039), (2, u "isNameStartChar")] 34

def k2m0 : Method := { name := "<init>", desc := "()V", sig := { parameters := [], returnType := none }, accessFlags := 2, code := none }
def k2c1 : Code := { maxStack := 2, maxLocals := 1, code := prog_29_method_8_code, exceptionTable := #[], attributes := #[] }
def k2m1 : Method := { name := "isNameStartChar", desc := "(I)Z", sig := { parameters := [.int], returnType := some .boolean }, accessFlags := 8, code := some k2c1 }
/-- com/example/penelope/penelope/XmlChars -/
def k2 : Class := { plain "com/example/penelope/penelope/XmlChars" (some 0) with
  accessFlags := 48
  interfaces := #[]
  cf := some (fileOf pool2 23 #[] #[{ accessFlags := 2, nameIndex := 5, descriptorIndex := 6, attributes := #[] }, { accessFlags := 8, nameIndex := 101, descriptorIndex := 27, attributes := #[] }] 48 2 #[] #[])
  fields := #[]
  methods := #[k2m0, k2m1]
  instanceTypes := #[]
  staticTypes := #[]
  resolved := Array.replicate 136 none
  statics := none }

def pool3 : Array CpInfo := pool [(1, u "java/lang/Cloneable"), (0, .class_ 1), (0, u "java/lang/Object"), (0, .class_ 3)] 3

/-- java/lang/Cloneable -/
def k3 : Class := { plain "java/lang/Cloneable" (some 0) with
  accessFlags := 1537
  interfaces := #[]
  cf := some (fileOf pool3 2 #[] #[] 1537 4 #[] #[])
  fields := #[]
  methods := #[]
  instanceTypes := #[]
  staticTypes := #[]
  resolved := Array.replicate 8 none
  statics := none }

def pool4 : Array CpInfo := pool [(1, u "java/io/Serializable"), (0, .class_ 1), (0, u "java/lang/Object"), (0, .class_ 3)] 3

/-- java/io/Serializable -/
def k4 : Class := { plain "java/io/Serializable" (some 0) with
  accessFlags := 1537
  interfaces := #[]
  cf := some (fileOf pool4 2 #[] #[] 1537 4 #[] #[])
  fields := #[]
  methods := #[]
  instanceTypes := #[]
  staticTypes := #[]
  resolved := Array.replicate 8 none
  statics := none }

/-- the primitive byte -/
def k5 : Class := { plain "byte" none with kind := .primitive 'B', accessFlags := 0x411 }
/-- [B -/
def k6 : Class := { plain "[B" (some 0) with kind := .array 5 .byte, interfaces := #[3, 4], accessFlags := 1041 }

/-- the primitive int -/
def k7 : Class := { plain "int" none with kind := .primitive 'I', accessFlags := 0x411 }
/-- [I -/
def k8 : Class := { plain "[I" (some 0) with kind := .array 7 .int, interfaces := #[3, 4], accessFlags := 1041 }

def heap : Heap := #[]
def classes : Array Class := #[k0, k1, k2, k3, k4, k5, k6, k7, k8]
def interned : List (Array UInt16 × Addr) := []
def slotsUsed : Nat := 0
def theMethod : MethodId := ⟨1, 2⟩
def args0 : Array Value := #[.int 5, .int 6, .int 7]
def aboutOver (below : List Frame) : State where
  vm := { classes := classes, interned := interned.toArray }
  heap := heap
  slotsUsed := slotsUsed
  threads := #[{ frames := .invoking theMethod args0 :: below }]
def below0 : List Frame := [.native { method := ⟨0, 0⟩, args := #[] }]
def about1 : State := aboutOver below0
def p0 : Program := .bare "" "" ""
def e0 : Env := launch0.env 0 0 0
theorem w_frames : about1.frames = Frame.invoking theMethod args0 :: below0 := rfl
set_option maxRecDepth 65536 in
theorem w_args : argsFit about1.vm theMethod args0 = true := by decide +kernel
set_option maxRecDepth 65536 in
theorem w_heap : heapFits about1 = true := by decide +kernel
set_option maxRecDepth 65536 in
theorem w_runnable : about1.curStatus? = some .runnable := by decide +kernel
set_option maxRecDepth 65536 in
theorem w_alone : about1.alone = true := by decide +kernel
set_option maxRecDepth 65536 in
theorem w_named : about1.methodNamed? x = some theMethod := by decide +kernel
set_option maxRecDepth 65536 in
theorem w_hears : about1.hears theMethod below0 = true := by decide +kernel
set_option maxRecDepth 65536 in
theorem w_ripe : about1.ripe theMethod args0 below0 = true := by decide +kernel
theorem w_running : about1.status = .running := rfl
set_option maxRecDepth 65536 in
theorem w_room : about1.hasRoom e0.platform room_1 = true :=
  launch0.hasRoom_least _ room_1 (by decide +kernel) (by decide +kernel) (by decide +kernel) (by decide +kernel) (by decide +kernel) (by decide +kernel)
theorem allAtoms_all (ts : List Jvm.Cond) (a : Array Jvm.Value) (st : Jvm.State) : (allAtoms ts).before a st = ts.all (fun c => c.before a st) := by
  induction ts with
  | nil => rfl
  | cons c t ih =>
    show (Jvm.Cond.and c (allAtoms t)).before a st = _
    rw [Jvm.Cond.before_and, ih, List.all_cons]
def words1 : List Jvm.Cond := Jvm.Cond.code x code maxLocals ret :: tables_1
/-- a 'code' word, met by the world's own term for the bytes: nothing is compared byte by byte -/
theorem code_word {y : MethodName} {bytes : ByteArray} {mx : Nat} {rt : Option FieldType} {a : Array Value} {s : State} {m : MethodId} {meth : Method} {c : Code} (h1 : s.methodNamed? y = some m) (h2 : s.vm.method? m = some meth) (h3 : meth.code = some c) (h4 : c.code = bytes)
    (h5 : (c.maxLocals == mx && c.exceptionTable.isEmpty && decide (c.maxStack ≤ mostOperands) && decide (meth.sig.returnType = rt) && !meth.locks && decide (parseMethodDescriptor y.desc = some meth.sig)) = true) : (Jvm.Cond.code y bytes mx rt).before a s = true := by
  simp only [Bool.and_eq_true, beq_iff_eq, Bool.not_eq_true', decide_eq_true_eq] at h5
  obtain ⟨⟨⟨⟨⟨g1, g2⟩, g3⟩, g4⟩, g5⟩, g6⟩ := h5
  simp [Cond.before, Cond.holds, Cond.value, h1, h2, h3, h4, g1, g2, g3, g4, g5, g6]
def isCode : Jvm.Cond → Bool
  | .code _ _ _ _ => true
  | _ => false
theorem all_split {L : List Jvm.Cond} {P : Jvm.Cond → Bool} (h1 : L.all (fun c => isCode c || P c) = true) (h2 : ∀ c ∈ L.filter isCode, P c = true) : L.all P = true := by
  refine List.all_eq_true.mpr fun c hc => ?_
  have h := List.all_eq_true.mp h1 c hc
  rcases Bool.eq_false_or_eq_true (isCode c) with hi | hi
  · exact h2 c (List.mem_filter.mpr ⟨hc, hi⟩)
  · simpa [hi] using h
set_option maxRecDepth 65536 in
theorem w_c0 : (Jvm.Cond.code x code maxLocals ret).before args0 about1 = true := code_word (m := ⟨1, 2⟩) (meth := k1m2) (c := k1c2) (by decide +kernel) rfl rfl rfl (by decide +kernel)
set_option maxRecDepth 65536 in
theorem w_c1 : (Jvm.Cond.code ({ cls := "com/example/penelope/penelope/XmlCharsIsNameStartCharPinLaw", name := "excluded", desc := "(I)Z" } : Jvm.MethodName) method_2_code (1 : Nat) (Option.some Jvm.ClassFile.FieldType.boolean)).before args0 about1 = true := code_word (m := ⟨1, 1⟩) (meth := k1m1) (c := k1c1) (by decide +kernel) rfl rfl rfl (by decide +kernel)
set_option maxRecDepth 65536 in
theorem w_c2 : (Jvm.Cond.code ({ cls := "com/example/penelope/penelope/XmlChars", name := "isNameStartChar", desc := "(I)Z" } : Jvm.MethodName) prog_29_method_8_code (1 : Nat) (Option.some Jvm.ClassFile.FieldType.boolean)).before args0 about1 = true := code_word (m := ⟨2, 1⟩) (meth := k2m1) (c := k2c1) (by decide +kernel) rfl rfl rfl (by decide +kernel)
def codes1 : List Jvm.Cond := [Jvm.Cond.code x code maxLocals ret, Jvm.Cond.code ({ cls := "com/example/penelope/penelope/XmlCharsIsNameStartCharPinLaw", name := "excluded", desc := "(I)Z" } : Jvm.MethodName) method_2_code (1 : Nat) (Option.some Jvm.ClassFile.FieldType.boolean), Jvm.Cond.code ({ cls := "com/example/penelope/penelope/XmlChars", name := "isNameStartChar", desc := "(I)Z" } : Jvm.MethodName) prog_29_method_8_code (1 : Nat) (Option.some Jvm.ClassFile.FieldType.boolean)]
set_option maxRecDepth 65536 in
theorem codes_eq : words1.filter isCode = codes1 := rfl
theorem w_codes : ∀ c ∈ words1.filter isCode, c.before args0 about1 = true := by
  rw [codes_eq]
  intro c hc
  simp only [codes1, List.mem_cons, List.not_mem_nil, or_false] at hc
  rcases hc with rfl | rfl | rfl
  · exact w_c0
  · exact w_c1
  · exact w_c2
set_option maxRecDepth 65536 in
theorem w_t1 : (words1.take 24).all (fun c => isCode c || c.before args0 about1) = true := by decide +kernel
set_option maxRecDepth 65536 in
theorem w_t2 : (words1.drop 24).all (fun c => isCode c || c.before args0 about1) = true := by decide +kernel
theorem w_tables : (allAtoms (Jvm.Cond.code x code maxLocals ret :: tables_1)).before args0 about1 = true := by
  rw [allAtoms_all]
  show words1.all (fun c => c.before args0 about1) = true
  refine all_split ?_ w_codes
  rw [← List.take_append_drop 24 words1, List.all_append, w_t1, w_t2]
  rfl
set_option maxRecDepth 65536 in
theorem w_case : (Jvm.Cond.and given_1 narrow_1).before args0 about1 = true := by decide +kernel
theorem w_applies : (headSpec (Jvm.Cond.code x code maxLocals ret :: tables_1) room_1).applies x e0.platform about1 = true :=
  (Spec.applies_iff w_frames).mpr ⟨w_running, w_runnable, w_alone, w_named, w_hears, w_ripe, w_room, w_tables⟩
theorem atStart : AtStart classFile x code maxLocals ret World_1 tables_1 room_1 Calls_1 rest_1 Pre_1 launch0 p0 e0 about1 theMethod args0 below0 :=
  ⟨lists_1, trivial, launch0.admits_env _ _ _, launch0.least_env, fairChoices_fair.cas, fairChoices_fair.clock, w_frames, w_args, w_heap, w_applies, trivial, trivial, w_case⟩
end start1
theorem witness_1 : WitnessClaimed_1 := ⟨start1.p0, start1.e0, start1.about1, start1.theMethod, start1.args0, start1.below0, start1.atStart⟩
end Jvm.Pilot.@@N@@
