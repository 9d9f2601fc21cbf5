import JvmDerived
import JvmDerived.Pilot.@@N@@Statement
import JvmDerived.Pilot.@@N@@Code
set_option linter.unusedVariables false
set_option linter.unusedSimpArgs false
namespace Jvm.Pilot.@@N@@
open Jvm Jvm.ClassFile Sem Op Lib Jvm.Free Jvm.Stand Jvm.LawKit Jvm.RoadKit Bundle Jvm.Pilot.@@N@@.Jvm.D
/-- what the end of a body says -/
def own_K (s : State) (Q : Option Value → Heap → List Loc → Prop) (C S : Nat) (o : Outcome) (U : State) : Prop := ∃ v L, o = .returned v ∧ Q v U.heap L ∧ FrameEnd s o U L C S
/-- the run goes from S to a return of which K is true -/
def own_Go (p : Program) (e : Env) (below : List Frame) (K : Outcome → State → Prop) (S : State) : Prop := ∃ s₂ o, Steps p.tables e below S s₂ ∧ s₂.status = .running ∧ Ended s₂ below o ∧ K o s₂
/-- the answer of a body that leaves the heap alone -/
def own_Q (val : Value) (h0 : Heap) (n0 : Nat) (v : Option Value) (h : Heap) (L : List Loc) : Prop := v = some val ∧ Fr n0 L ∧ h = h0
section Own
variable {p : Program} {l : Launch} {e : Env} {R : Room} {s : State} {m : MethodId} {args : Array Value} {below : List Frame} {meth : Method} {c : Code} {T : State} {locs : List Loc} {cells slots : Nat} {K : Outcome → State → Prop} {Q : Option Value → Heap → List Loc → Prop} {C S : Nat}
theorem own_by {S S' : State} (h : ∀ t, Steps p.tables e below S' t → Steps p.tables e below S t) (g : own_Go p e below K S') : own_Go p e below K S := by
  obtain ⟨u, o, st, r⟩ := g
  exact ⟨u, o, h u st, r⟩
theorem own_tr {S S' : State} (h : Steps p.tables e below S S') (g : own_Go p e below K S') : own_Go p e below K S := own_by (fun _ k => h.trans k) g
theorem own_hide {n0 : Nat} (X : Stand p l e R s m args below meth c T locs cells slots) (N : Fr n0 locs) : ∃ L, Stand p l e R s m args below meth c T L cells slots ∧ Fr n0 L := ⟨_, X, N⟩
/-- return of a value that is of its kind -/
theorem own_ret (X : Stand p l e R s m args below meth c T locs cells slots) (hx : p.tables.exec = Jvm.exec) (hlk : meth.locks = false) {pc : Nat} {Ls : Array Slot} {w : Value} {t : FieldType} {i : Instr} {rest : List Value} (hret : meth.sig.returnType = some t) (hn : narrow t w = w)
    (hi : (i = .ireturn ∧ (t = .int ∨ t = .boolean ∨ t = .byte ∨ t = .char ∨ t = .short) ∧ ∃ z, w = .int z) ∨ (i = .lreturn ∧ t = .long ∧ ∃ z, w = .long z) ∨ (i = .dreturn ∧ t = .double ∧ ∃ z, w = .double z) ∨ (i = .freturn ∧ t = .float ∧ ∃ z, w = .float z) ∨ (i = .areturn ∧ t.isReference = true ∧ w.isRef = true))
    (hd : decode c.code pc = .ok (i, 1)) (hQ : Q (some w) T.heap locs) (hc : cells ≤ C) (hs : slots ≤ S) : own_Go p e below (own_K s Q C S) (T.setTop (mkF m pc Ls (w :: rest))) := by
  obtain ⟨fs, hr, hrun, hended, hW, hsame⟩ := X.leave (v := some w) (fun h => by rw [hret] at h; cases h) hlk
  exact ⟨_, _, retOut X hx hret hn hi hd hr, hrun, hended, _, _, rfl, hQ, ⟨_, rfl⟩, hW, hsame.mono hc hs⟩
/-- return of a boolean, byte, char or short, narrowed -/
theorem own_retN (X : Stand p l e R s m args below meth c T locs cells slots) (hx : p.tables.exec = Jvm.exec) (hlk : meth.locks = false) {pc : Nat} {Ls : Array Slot} {z : Int32} {t : FieldType} {rest : List Value} (hret : meth.sig.returnType = some t) (ht : t = .boolean ∨ t = .byte ∨ t = .char ∨ t = .short)
    (hd : decode c.code pc = .ok (.ireturn, 1)) (hQ : Q (some (.int (nar t z))) T.heap locs) (hc : cells ≤ C) (hs : slots ≤ S) : own_Go p e below (own_K s Q C S) (T.setTop (mkF m pc Ls (.int z :: rest))) := by
  obtain ⟨fs, hr, hrun, hended, hW, hsame⟩ := X.leave (v := some (.int (nar t z))) (fun h => by rw [hret] at h; cases h) hlk
  exact ⟨_, _, retN X hx hret ht hd hr, hrun, hended, _, _, rfl, hQ, ⟨_, rfl⟩, hW, hsame.mono hc hs⟩
/-- return of nothing -/
theorem own_retV (X : Stand p l e R s m args below meth c T locs cells slots) (hx : p.tables.exec = Jvm.exec) (hlk : meth.locks = false) {pc : Nat} {Ls : Array Slot} (hret : meth.sig.returnType = none)
    (hd : decode c.code pc = .ok (.return_, 1)) (hQ : Q none T.heap locs) (hc : cells ≤ C) (hs : slots ≤ S) : own_Go p e below (own_K s Q C S) (T.setTop (mkF m pc Ls [])) := by
  obtain ⟨fs, hr, hrun, hended, hW, hsame⟩ := X.leave (v := none) (fun _ => rfl) hlk
  exact ⟨_, _, X.returnOut hx hret hd hr, hrun, hended, _, _, rfl, hQ, ⟨_, rfl⟩, hW, hsame.mono hc hs⟩
end Own
/-- the array at a holds n ints, the i-th is f i -/
def own_IA (Z : State) (h : Heap) (a : Addr) (n : Nat) (f : Nat → Int32) : Prop := ∃ c : Cell, Arr Z h a c .int ∧ c.slots.size = n ∧ ∀ i, i < n → c.slots[i]? = some (.int (f i))
theorem own_clamp (j : Int32) : j.toNatClampNeg = j.toInt.toNat := rfl
theorem own_in {j : Int32} {k n : Nat} (hk : k = n) (h0 : 0 ≤ j.toInt) (h1 : j.toInt < n) : ¬ (j < 0 ∨ k ≤ j.toNatClampNeg) := by
  rw [own_clamp, Int32.lt_iff_toInt_lt]
  have : (0 : Int32).toInt = 0 := by decide
  omega
section OwnA
variable {p : Program} {l : Launch} {e : Env} {R : Room} {s : State} {m : MethodId} {args : Array Value} {below : List Frame} {meth : Method} {c : Code} {T : State} {locs : List Loc} {cells slots : Nat} {Z : State} {a0 : Array Value} {h h' : Heap} {a b : Addr} {n sl : Nat} {f : Nat → Int32} {v : Value} {ws : List Addr}
theorem own_IA_lt (F : own_IA Z h a n f) : a < h.size := by obtain ⟨c, A, -⟩ := F; exact A.lt
theorem own_IA_ext (F : own_IA Z h a n f) (E : Ext h h') : own_IA Z h' a n f := by obtain ⟨c, A, r⟩ := F; exact ⟨c, A.ext E, r⟩
theorem own_IA_other (F : own_IA Z h b n f) (W : Wr h h' a sl v) (q : b ≠ a) : own_IA Z h' b n f := by obtain ⟨c, A, r⟩ := F; exact ⟨c, A.other W q, r⟩
theorem own_IA_keep (F : own_IA Z h a n f) (K : Keep h h' ws) (q : a ∉ ws) : own_IA Z h' a n f := by obtain ⟨c, A, r⟩ := F; exact ⟨c, ⟨K.2.1 a c A.1 q, A.2⟩, r⟩
theorem own_IA_congr {f' : Nat → Int32} (F : own_IA Z h a n f) (q : ∀ i, i < n → f i = f' i) : own_IA Z h a n f' := by obtain ⟨c, A, S, r⟩ := F; exact ⟨c, A, S, fun i hi => by rw [r i hi, q i hi]⟩
theorem own_newIA (X : Stand p l e R s m args below meth c T locs cells slots) (hx : p.tables.exec = Jvm.exec) (hZ : Z.Warmed39 s.vm) (w : (Cond.arrayClass .int).before a0 Z = true) (eT : T.heap = h) {g : JFrame} (hg : g.method = m) (hd : decode c.code g.pc = .ok (.newarray .int, 2)) {z : Int32} {rest : List Value} (hs : g.stack = .int z :: rest)
    (n : Nat) (hn : z.toInt = n) {cap : Nat} (hcap : n ≤ cap) (hb : cap * 8 ≤ 536870912) (hc : cells + 1 ≤ R.cells) (hl : slots + cap ≤ R.slots) :
    ∃ (T' : State) (h' : Heap) (a : Addr), Stand p l e R s m args below meth c T' locs (cells + 1) (slots + cap) ∧ T'.heap = h' ∧ a = h.size ∧ Ext h h' ∧ own_IA Z h' a n (fun _ => 0) ∧
      ∀ target, Steps p.tables e below (T'.setTop { g with pc := g.pc + 2, stack := .ref a :: rest }) target → Steps p.tables e below (T.setTop g) target := by
  have hz : ¬ z < 0 := by
    rw [Int32.lt_iff_toInt_lt]
    have : (0 : Int32).toInt = 0 := by decide
    omega
  have hk : z.toNatClampNeg = n := by rw [own_clamp]; omega
  obtain ⟨T', h', cA, X', e', E', A', st⟩ := newP (aty := .int) X hx hZ w eT hg hd hs hz (cap := cap) (by omega) hb hc hl
  refine ⟨T', h', h.size, X', e', rfl, E', ⟨_, A', ?_, fun i hi => ?_⟩, st⟩
  · rw [sz_new]; exact hk
  · show (Array.replicate z.toNatClampNeg (defaultValue .int))[i]? = _
    rw [hk, Array.getElem?_replicate, if_pos hi]; rfl
theorem own_stIA (X : Stand p l e R s m args below meth c T locs cells slots) (hx : p.tables.exec = Jvm.exec) (hZ : Z.Warmed39 s.vm) (eT : T.heap = h) (F : own_IA Z h a n f) {j x : Int32} (h0 : 0 ≤ j.toInt) (h1 : j.toInt < n) {g : JFrame} (hg : g.method = m) {rest : List Value} (hs : g.stack = .int x :: .int j :: .ref a :: rest) (hd : decode c.code g.pc = .ok (.iastore, 1)) :
    ∃ T' h', Stand p l e R s m args below meth c T' (locs ++ [⟨a, j.toNatClampNeg⟩]) cells slots ∧ T'.heap = h' ∧ Wr h h' a j.toNatClampNeg (.int x) ∧ own_IA Z h' a n (fun i => if (i : Int) = j.toInt then x else f i) ∧ ∀ target, Steps p.tables e below (T'.setTop { g with pc := g.pc + 1, stack := rest }) target → Steps p.tables e below (T.setTop g) target := by
  obtain ⟨cl, A, S, V⟩ := F
  obtain ⟨T', h', X', e', W, st⟩ := stI X hx hZ eT A (own_in S h0 h1) hg hs hd
  refine ⟨T', h', X', e', W, ⟨_, A.same W, ?_, fun i hi => ?_⟩, st⟩
  · rw [sz_set]; exact S
  · show (cl.slots.setIfInBounds j.toNatClampNeg (.int x))[i]? = some (.int (if (i : Int) = j.toInt then x else f i))
    rw [Array.getElem?_setIfInBounds, own_clamp]
    by_cases q : (i : Int) = j.toInt
    · rw [if_pos (by omega), if_pos (by omega), if_pos q]
    · rw [if_neg (by omega), if_neg q, V i hi]
theorem own_ldIA {target : State} (X : Stand p l e R s m args below meth c T locs cells slots) (hx : p.tables.exec = Jvm.exec) (hZ : Z.Warmed39 s.vm) (eT : T.heap = h) (F : own_IA Z h a n f) {j : Int32} (h0 : 0 ≤ j.toInt) (h1 : j.toInt < n) {g : JFrame} (hg : g.method = m) {rest : List Value} (hs : g.stack = .int j :: .ref a :: rest) (hd : decode c.code g.pc = .ok (.iaload, 1))
    (hr : Steps p.tables e below (T.setTop { g with pc := g.pc + 1, stack := .int (f j.toInt.toNat) :: rest }) target) : Steps p.tables e below (T.setTop g) target := by
  obtain ⟨cl, A, S, V⟩ := F
  exact X.iaload hx (by rw [eT]; exact A.1) (State.isArrayOf_alike hZ.alike A.2.1) A.2.2 (own_in S h0 h1) (by rw [own_clamp]; exact V _ (by omega)) hg hs hd target hr
theorem own_stN (X : Stand p l e R s m args below meth c T locs cells slots) (hx : p.tables.exec = Jvm.exec) (hZ : Z.Warmed39 s.vm) (eT : T.heap = h) (F : own_IA Z h a n f) {j x : Int32} (k : Nat) (hj : j.toInt = k) (h1 : k < n) {g : JFrame} (hg : g.method = m) {rest : List Value} (hs : g.stack = .int x :: .int j :: .ref a :: rest) (hd : decode c.code g.pc = .ok (.iastore, 1)) :
    ∃ T' h', Stand p l e R s m args below meth c T' (locs ++ [⟨a, j.toNatClampNeg⟩]) cells slots ∧ T'.heap = h' ∧ Wr h h' a j.toNatClampNeg (.int x) ∧ own_IA Z h' a n (fun i => if i = k then x else f i) ∧ ∀ target, Steps p.tables e below (T'.setTop { g with pc := g.pc + 1, stack := rest }) target → Steps p.tables e below (T.setTop g) target := by
  obtain ⟨T', h', X', e', W, H, st⟩ := own_stIA X hx hZ eT F (j := j) (x := x) (by omega) (by omega) hg hs hd
  refine ⟨T', h', X', e', W, own_IA_congr H fun i hi => ?_, st⟩
  show (if (i : Int) = j.toInt then x else f i) = (if i = k then x else f i)
  by_cases q : i = k
  · rw [if_pos (by omega), if_pos q]
  · rw [if_neg (by omega), if_neg q]
theorem own_ldN {target : State} (X : Stand p l e R s m args below meth c T locs cells slots) (hx : p.tables.exec = Jvm.exec) (hZ : Z.Warmed39 s.vm) (eT : T.heap = h) (F : own_IA Z h a n f) {j : Int32} (k : Nat) (hj : j.toInt = k) (h1 : k < n) {g : JFrame} (hg : g.method = m) {rest : List Value} (hs : g.stack = .int j :: .ref a :: rest) (hd : decode c.code g.pc = .ok (.iaload, 1))
    (hr : Steps p.tables e below (T.setTop { g with pc := g.pc + 1, stack := .int (f k) :: rest }) target) : Steps p.tables e below (T.setTop g) target := by
  refine own_ldIA X hx hZ eT F (j := j) (by omega) (by omega) hg hs hd ?_
  rw [show j.toInt.toNat = k by omega]; exact hr
theorem own_lenIA {target : State} (X : Stand p l e R s m args below meth c T locs cells slots) (hx : p.tables.exec = Jvm.exec) (hZ : Z.Warmed39 s.vm) (eT : T.heap = h) (F : own_IA Z h a n f) {z : Int32} (hz : n.toInt32 = z) {g : JFrame} (hg : g.method = m) {rest : List Value} (hs : g.stack = .ref a :: rest) (hd : decode c.code g.pc = .ok (.arraylength, 1))
    (hr : Steps p.tables e below (T.setTop { g with pc := g.pc + 1, stack := .int z :: rest }) target) : Steps p.tables e below (T.setTop g) target := by
  obtain ⟨cl, A, S, V⟩ := F
  refine X.arraylength hx (by rw [eT]; exact A.1) (State.isArrayOf_alike hZ.alike A.2.1) hg hs hd target ?_
  rw [S, hz]; exact hr
end OwnA
/-- the array at a holds n longs, the i-th is f i -/
def own_LA (Z : State) (h : Heap) (a : Addr) (n : Nat) (f : Nat → Int64) : Prop := ∃ c : Cell, Arr Z h a c .long ∧ c.slots.size = n ∧ ∀ i, i < n → c.slots[i]? = some (.long (f i))
section OwnL
variable {p : Program} {l : Launch} {e : Env} {R : Room} {s : State} {m : MethodId} {args : Array Value} {below : List Frame} {meth : Method} {c : Code} {T : State} {locs : List Loc} {cells slots : Nat} {Z : State} {a0 : Array Value} {h h' : Heap} {a b : Addr} {n sl : Nat} {f : Nat → Int64} {v : Value} {ws : List Addr}
theorem own_LA_lt (F : own_LA Z h a n f) : a < h.size := by obtain ⟨c, A, -⟩ := F; exact A.lt
theorem own_LA_ext (F : own_LA Z h a n f) (E : Ext h h') : own_LA Z h' a n f := by obtain ⟨c, A, r⟩ := F; exact ⟨c, A.ext E, r⟩
theorem own_LA_other (F : own_LA Z h b n f) (W : Wr h h' a sl v) (q : b ≠ a) : own_LA Z h' b n f := by obtain ⟨c, A, r⟩ := F; exact ⟨c, A.other W q, r⟩
theorem own_LA_keep (F : own_LA Z h a n f) (K : Keep h h' ws) (q : a ∉ ws) : own_LA Z h' a n f := by obtain ⟨c, A, r⟩ := F; exact ⟨c, ⟨K.2.1 a c A.1 q, A.2⟩, r⟩
theorem own_LA_congr {f' : Nat → Int64} (F : own_LA Z h a n f) (q : ∀ i, i < n → f i = f' i) : own_LA Z h a n f' := by obtain ⟨c, A, S, r⟩ := F; exact ⟨c, A, S, fun i hi => by rw [r i hi, q i hi]⟩
theorem own_newLA (X : Stand p l e R s m args below meth c T locs cells slots) (hx : p.tables.exec = Jvm.exec) (hZ : Z.Warmed39 s.vm) (w : (Cond.arrayClass .long).before a0 Z = true) (eT : T.heap = h) {g : JFrame} (hg : g.method = m) (hd : decode c.code g.pc = .ok (.newarray .long, 2)) {z : Int32} {rest : List Value} (hs : g.stack = .int z :: rest)
    (n : Nat) (hn : z.toInt = n) {cap : Nat} (hcap : n ≤ cap) (hb : cap * 8 ≤ 536870912) (hc : cells + 1 ≤ R.cells) (hl : slots + cap ≤ R.slots) :
    ∃ (T' : State) (h' : Heap) (a : Addr), Stand p l e R s m args below meth c T' locs (cells + 1) (slots + cap) ∧ T'.heap = h' ∧ a = h.size ∧ Ext h h' ∧ own_LA Z h' a n (fun _ => 0) ∧
      ∀ target, Steps p.tables e below (T'.setTop { g with pc := g.pc + 2, stack := .ref a :: rest }) target → Steps p.tables e below (T.setTop g) target := by
  have hz : ¬ z < 0 := by
    rw [Int32.lt_iff_toInt_lt]
    have : (0 : Int32).toInt = 0 := by decide
    omega
  have hk : z.toNatClampNeg = n := by rw [own_clamp]; omega
  obtain ⟨T', h', cA, X', e', E', A', st⟩ := newP (aty := .long) X hx hZ w eT hg hd hs hz (cap := cap) (by omega) hb hc hl
  refine ⟨T', h', h.size, X', e', rfl, E', ⟨_, A', ?_, fun i hi => ?_⟩, st⟩
  · rw [sz_new]; exact hk
  · show (Array.replicate z.toNatClampNeg (defaultValue .long))[i]? = _
    rw [hk, Array.getElem?_replicate, if_pos hi]; rfl
theorem own_stL (X : Stand p l e R s m args below meth c T locs cells slots) (hx : p.tables.exec = Jvm.exec) (hZ : Z.Warmed39 s.vm) (eT : T.heap = h) (F : own_LA Z h a n f) {j : Int32} {x : Int64} (k : Nat) (hj : j.toInt = k) (h1 : k < n) {g : JFrame} (hg : g.method = m) {rest : List Value} (hs : g.stack = .long x :: .int j :: .ref a :: rest) (hd : decode c.code g.pc = .ok (.lastore, 1)) :
    ∃ T' h', Stand p l e R s m args below meth c T' (locs ++ [⟨a, j.toNatClampNeg⟩]) cells slots ∧ T'.heap = h' ∧ Wr h h' a j.toNatClampNeg (.long x) ∧ own_LA Z h' a n (fun i => if i = k then x else f i) ∧ ∀ target, Steps p.tables e below (T'.setTop { g with pc := g.pc + 1, stack := rest }) target → Steps p.tables e below (T.setTop g) target := by
  obtain ⟨cl, A, S, V⟩ := F
  obtain ⟨T', h', X', e', W, st⟩ := stJ X hx hZ eT A (own_in S (by omega) (by omega)) hg hs hd
  refine ⟨T', h', X', e', W, ⟨_, A.same W, ?_, fun i hi => ?_⟩, st⟩
  · rw [sz_set]; exact S
  · show (cl.slots.setIfInBounds j.toNatClampNeg (.long x))[i]? = some (.long (if i = k then x else f i))
    rw [Array.getElem?_setIfInBounds, own_clamp]
    by_cases q : i = k
    · rw [if_pos (by omega), if_pos (by omega), if_pos q]
    · rw [if_neg (by omega), if_neg q, V i hi]
theorem own_ldL {target : State} (X : Stand p l e R s m args below meth c T locs cells slots) (hx : p.tables.exec = Jvm.exec) (hZ : Z.Warmed39 s.vm) (eT : T.heap = h) (F : own_LA Z h a n f) {j : Int32} (k : Nat) (hj : j.toInt = k) (h1 : k < n) {g : JFrame} (hg : g.method = m) {rest : List Value} (hs : g.stack = .int j :: .ref a :: rest) (hd : decode c.code g.pc = .ok (.laload, 1))
    (hr : Steps p.tables e below (T.setTop { g with pc := g.pc + 1, stack := .long (f k) :: rest }) target) : Steps p.tables e below (T.setTop g) target := by
  obtain ⟨cl, A, S, V⟩ := F
  exact X.laload hx (by rw [eT]; exact A.1) (State.isArrayOf_alike hZ.alike A.2.1) A.2.2 (own_in S (by omega) (by omega)) (by rw [own_clamp, show j.toInt.toNat = k by omega]; exact V _ (by omega)) hg hs hd target hr
end OwnL
theorem own_rem_eq {x m : Int32} (hx : 0 ≤ x.toInt) (hm : 0 < m.toInt) : (x - (x / m) * m).toInt = x.toInt % m.toInt := by
  have h1 := x.toInt_lt
  have h2 := m.toInt_lt
  have q0 : 0 ≤ x.toInt / m.toInt := Int.ediv_nonneg hx (by omega)
  have q1 : x.toInt / m.toInt ≤ x.toInt := Int.ediv_le_self _ hx
  have e : x.toInt % m.toInt + m.toInt * (x.toInt / m.toInt) = x.toInt := Int.emod_add_mul_ediv ..
  have r0 : 0 ≤ x.toInt % m.toInt := Int.emod_nonneg _ (by omega)
  have r1 : x.toInt % m.toInt < m.toInt := Int.emod_lt_of_pos _ hm
  have hd : (x / m).toInt = x.toInt / m.toInt := by
    rw [Int32.toInt_div, Int.tdiv_eq_ediv_of_nonneg hx]
    exact Int.bmod_eq_of_le (by omega) (by omega)
  have hmul : ((x / m) * m).toInt = m.toInt * (x.toInt / m.toInt) := by
    rw [Int32.toInt_mul, hd, Int.mul_comm]
    exact Int.bmod_eq_of_le (by omega) (by omega)
  rw [Int32.toInt_sub, hmul, show x.toInt - m.toInt * (x.toInt / m.toInt) = x.toInt % m.toInt by omega]
  exact Int.bmod_eq_of_le (by omega) (by omega)
theorem own_rem {x m : Int32} (hx : 0 ≤ x.toInt) (hm : 0 < m.toInt) : 0 ≤ (x - (x / m) * m).toInt ∧ (x - (x / m) * m).toInt < m.toInt := by
  rw [own_rem_eq hx hm]
  exact ⟨Int.emod_nonneg _ (by omega), Int.emod_lt_of_pos _ hm⟩
theorem own_toInt_nonneg {x : Int32} (h : x.toBitVec.toNat < 2 ^ 31) : x.toInt = x.toBitVec.toNat := by
  show x.toBitVec.toInt = _
  rw [BitVec.toInt_eq_toNat_cond, if_pos (by omega)]
theorem own_and {x : Int32} (k : Nat) (hk : k < 2 ^ 31) {m : Int32} (hm : m.toBitVec = BitVec.ofNat 32 k) : 0 ≤ (x &&& m).toInt ∧ (x &&& m).toInt ≤ k := by
  have h : (x &&& m).toBitVec.toNat ≤ k := by
    rw [Int32.toBitVec_and, BitVec.toNat_and, hm, BitVec.toNat_ofNat, Nat.mod_eq_of_lt (by omega)]
    exact Nat.and_le_right
  rw [own_toInt_nonneg (by omega)]
  omega
theorem own_ushr {x y : Int32} (k : Nat) (hk : (y &&& 31).toUInt32.toNat % 32 = k) : (XT.ushr x y).toBitVec.toNat = x.toBitVec.toNat / 2 ^ k := by
  show (x.toUInt32 >>> (y &&& 31).toUInt32).toNat = _
  rw [UInt32.toNat_shiftRight, hk, Nat.shiftRight_eq_div_pow]; rfl
theorem own_ushr1 (x : Int32) : 0 ≤ (XT.ushr x 1).toInt := by
  have h := own_ushr (x := x) (y := 1) 1 (by decide)
  have hx := x.toBitVec.isLt
  rw [own_toInt_nonneg (by omega)]; omega
def own_lst (v0 v1 v2 : Int32) (x0 x1 x2 : Int64) : List (Int32 × Int64) := (if 0 < x0 then [(v0, x0)] else []) ++ (if 0 < x1 then [(v1, x1)] else []) ++ (if 0 < x2 then [(v2, x2)] else [])
def own_drop (v : Int32) : List (Int32 × Int64) → List (Int32 × Int64)
  | [] => []
  | w :: B => if w.1 < v then own_drop v B else w :: B
def own_scan : List (Int32 × Int64) → List (Int32 × Int64) → Bool
  | [], _ => true
  | a :: A, B => match own_drop a.1 B with
    | [] => false
    | w :: B' => if w.1 = a.1 then (if w.2 < a.2 then false else own_scan A (w :: B')) else false
theorem own_scan_nil {a : Int32 × Int64} {A B : List (Int32 × Int64)} (h : own_drop a.1 B = []) : own_scan (a :: A) B = false := by
  rw [own_scan, h]
theorem own_scan_ne {a w : Int32 × Int64} {A B B' : List (Int32 × Int64)} (h : own_drop a.1 B = w :: B') (q : ¬ w.1 = a.1) : own_scan (a :: A) B = false := by
  rw [own_scan, h]; simp only [q, if_false]
theorem own_scan_lt {a w : Int32 × Int64} {A B B' : List (Int32 × Int64)} (h : own_drop a.1 B = w :: B') (q : w.1 = a.1) (r : w.2 < a.2) : own_scan (a :: A) B = false := by
  rw [own_scan, h]; simp only [q, r, if_true]
theorem own_scan_ok {a w : Int32 × Int64} {A B B' : List (Int32 × Int64)} (h : own_drop a.1 B = w :: B') (q : w.1 = a.1) (r : ¬ w.2 < a.2) : own_scan (a :: A) B = own_scan A (w :: B') := by
  rw [own_scan, h]; simp only [q, r, if_true, if_false]
theorem own_drop_at {B : List (Int32 × Int64)} {i : Nat} (h : i < B.length) : B.drop i = B.getD i (0, 0) :: B.drop (i + 1) := by
  rw [List.drop_eq_getElem_cons h]
  simp [List.getD, h]
theorem own_drop_yes {v : Int32} {B : List (Int32 × Int64)} {i : Nat} (h : i < B.length) (q : (B.getD i (0, 0)).1 < v) : own_drop v (B.drop i) = own_drop v (B.drop (i + 1)) := by
  rw [own_drop_at h, own_drop, if_pos q]
theorem own_drop_no {v : Int32} {B : List (Int32 × Int64)} {i : Nat} (h : i < B.length) (q : ¬ (B.getD i (0, 0)).1 < v) : own_drop v (B.drop i) = B.drop i := by
  rw [own_drop_at h, own_drop, if_neg q]
theorem own_drop_end {v : Int32} {B : List (Int32 × Int64)} {i : Nat} (h : B.length ≤ i) : own_drop v (B.drop i) = [] ∧ B.drop i = [] := by
  rw [List.drop_eq_nil_of_le h]; exact ⟨rfl, rfl⟩
def own_most (A B : List (Int32 × Int64)) : Bool := if B.length < A.length then false else own_scan A B
theorem own_sp {a b : Int64} (ha : ¬ a < 0) (hb : ¬ b < 0) : (0 < a ∧ 0 < b ∧ b < a) ∨ (0 < a ∧ 0 < b ∧ ¬ b < a) ∨ (0 < a ∧ ¬ 0 < b ∧ b < a) ∨ (¬ 0 < a ∧ 0 < b ∧ ¬ b < a) ∨ (¬ 0 < a ∧ ¬ 0 < b ∧ ¬ b < a) := by
  have z : (0 : Int64).toInt = 0 := by decide
  rw [Int64.lt_iff_toInt_lt, z] at ha hb
  simp only [Int64.lt_iff_toInt_lt, z]
  omega
theorem own_plain {v0 v1 v2 : Int32} {a0 a1 a2 b0 b1 b2 : Int64} (h01 : v0 < v1) (h12 : v1 < v2) (p0 : ¬ a0 < 0) (p1 : ¬ a1 < 0) (p2 : ¬ a2 < 0) (q0 : ¬ b0 < 0) (q1 : ¬ b1 < 0) (q2 : ¬ b2 < 0) :
    own_most (own_lst v0 v1 v2 a0 a1 a2) (own_lst v0 v1 v2 b0 b1 b2) = decide (¬ b0 < a0 ∧ ¬ b1 < a1 ∧ ¬ b2 < a2) := by
  have h02 : v0 < v2 := Int32.lt_trans h01 h12
  have i0 : ¬ v0 < v0 := Int32.lt_irrefl
  have i1 : ¬ v1 < v1 := Int32.lt_irrefl
  have i2 : ¬ v2 < v2 := Int32.lt_irrefl
  have n10 : ¬ v1 < v0 := Int32.lt_asymm h01
  have n21 : ¬ v2 < v1 := Int32.lt_asymm h12
  have n20 : ¬ v2 < v0 := Int32.lt_asymm h02
  have e10 : ¬ v1 = v0 := fun e => Int32.ne_of_lt h01 e.symm
  have e21 : ¬ v2 = v1 := fun e => Int32.ne_of_lt h12 e.symm
  have e20 : ¬ v2 = v0 := fun e => Int32.ne_of_lt h02 e.symm
  rcases own_sp p0 q0 with ⟨k0, m0, o0⟩ | ⟨k0, m0, o0⟩ | ⟨k0, m0, o0⟩ | ⟨k0, m0, o0⟩ | ⟨k0, m0, o0⟩ <;> rcases own_sp p1 q1 with ⟨k1, m1, o1⟩ | ⟨k1, m1, o1⟩ | ⟨k1, m1, o1⟩ | ⟨k1, m1, o1⟩ | ⟨k1, m1, o1⟩ <;> rcases own_sp p2 q2 with ⟨k2, m2, o2⟩ | ⟨k2, m2, o2⟩ | ⟨k2, m2, o2⟩ | ⟨k2, m2, o2⟩ | ⟨k2, m2, o2⟩ <;>
    simp only [own_most, own_lst, own_scan, k0, k1, k2, m0, m1, m2, o0, o1, o2, h01, h12, h02, i0, i1, i2, n10, n21, n20, e10, e21, e20, if_true, if_false, own_drop, decide_true, decide_false, List.nil_append, List.cons_append, List.append_nil, List.length_cons, List.length_nil, not_true, not_false_iff, and_true, true_and, and_false, false_and, and_self] <;> rfl

theorem own_i {k : Nat} (h : k ≤ 1000) : (Int32.ofNat k).toInt = k := Int32.toInt_ofNat_of_lt (by omega)
theorem own_inj {a b : Nat} (ha : a ≤ 1000) (hb : b ≤ 1000) : Int32.ofNat a = Int32.ofNat b ↔ a = b := by
  rw [← Int32.toInt_inj, own_i ha, own_i hb]; omega
theorem own_ilt {a b : Nat} (ha : a ≤ 1000) (hb : b ≤ 1000) : Int32.ofNat a < Int32.ofNat b ↔ a < b := by
  rw [Int32.lt_iff_toInt_lt, own_i ha, own_i hb]; omega
theorem own_inc {k : Nat} (h : k ≤ 999) : Int32.ofNat k + 1 = Int32.ofNat (k + 1) := Int32.toInt_inj.mp (by
  rw [XT.add32 (by rw [own_i (by omega), show (1 : Int32).toInt = 1 from rfl]; constructor <;> omega), own_i (by omega), own_i (by omega)]; rfl)
/-- the Values at a: its pairs -/
def own_V (Z : State) (h : Heap) (a : Addr) (A : List (Int32 × Int64)) : Prop := ∃ p q : Addr, Exa Z h a "com/example/conjecta/conjecta/model/Values" ∧ Fld Z h a "com/example/conjecta/conjecta/model/Values" "variables" "[I" (.ref p) ∧ Fld Z h a "com/example/conjecta/conjecta/model/Values" "values" "[J" (.ref q) ∧ own_IA Z h p A.length (fun i => (A.getD i (0, 0)).1) ∧ own_LA Z h q A.length (fun i => (A.getD i (0, 0)).2)
theorem own_V_keep {Z : State} {h h' : Heap} {a : Addr} {A : List (Int32 × Int64)} (V : own_V Z h a A) (K : Keep h h' []) : own_V Z h' a A := by
  obtain ⟨p, q, E, F, G, H, I⟩ := V
  exact ⟨p, q, E.keep K, F.keep K nin0, G.keep K nin0, own_IA_keep H K nin0, own_LA_keep I K nin0⟩
theorem own_pn0 : plainName "com/example/conjecta/conjecta/model/ValuesAtMostPinLaw" = true := by first | (simp [plainName, overriddenIn]; done) | decide +kernel
theorem own_pd1 : parseMethodDescriptor "(IIIJJJ)Lcom/example/conjecta/conjecta/model/Values;" = some ⟨[.int, .int, .int, .long, .long, .long], some (.object "com/example/conjecta/conjecta/model/Values")⟩ := by decide +kernel
theorem d1_0 : decode method_3_code 0 = .ok (.lload_n 3, 1) := by decide +kernel
theorem d1_1 : decode method_3_code 1 = .ok (.lconst 0, 1) := by decide +kernel
theorem d1_2 : decode method_3_code 2 = .ok (.lcmp, 1) := by decide +kernel
theorem d1_3 : decode method_3_code 3 = .ok (.ifCond .le 7, 3) := by decide +kernel
theorem d1_6 : decode method_3_code 6 = .ok (.iconst 1, 1) := by decide +kernel
theorem d1_7 : decode method_3_code 7 = .ok (.goto 4, 3) := by decide +kernel
theorem d1_10 : decode method_3_code 10 = .ok (.iconst 0, 1) := by decide +kernel
theorem d1_11 : decode method_3_code 11 = .ok (.lload 5, 2) := by decide +kernel
theorem d1_13 : decode method_3_code 13 = .ok (.lconst 0, 1) := by decide +kernel
theorem d1_14 : decode method_3_code 14 = .ok (.lcmp, 1) := by decide +kernel
theorem d1_15 : decode method_3_code 15 = .ok (.ifCond .le 7, 3) := by decide +kernel
theorem d1_18 : decode method_3_code 18 = .ok (.iconst 1, 1) := by decide +kernel
theorem d1_19 : decode method_3_code 19 = .ok (.goto 4, 3) := by decide +kernel
theorem d1_22 : decode method_3_code 22 = .ok (.iconst 0, 1) := by decide +kernel
theorem d1_23 : decode method_3_code 23 = .ok (.iadd, 1) := by decide +kernel
theorem d1_24 : decode method_3_code 24 = .ok (.lload 7, 2) := by decide +kernel
theorem d1_26 : decode method_3_code 26 = .ok (.lconst 0, 1) := by decide +kernel
theorem d1_27 : decode method_3_code 27 = .ok (.lcmp, 1) := by decide +kernel
theorem d1_28 : decode method_3_code 28 = .ok (.ifCond .le 7, 3) := by decide +kernel
theorem d1_31 : decode method_3_code 31 = .ok (.iconst 1, 1) := by decide +kernel
theorem d1_32 : decode method_3_code 32 = .ok (.goto 4, 3) := by decide +kernel
theorem d1_35 : decode method_3_code 35 = .ok (.iconst 0, 1) := by decide +kernel
theorem d1_36 : decode method_3_code 36 = .ok (.iadd, 1) := by decide +kernel
theorem d1_37 : decode method_3_code 37 = .ok (.istore 9, 2) := by decide +kernel
theorem d1_39 : decode method_3_code 39 = .ok (.iload 9, 2) := by decide +kernel
theorem d1_41 : decode method_3_code 41 = .ok (.newarray .int, 2) := by decide +kernel
theorem d1_43 : decode method_3_code 43 = .ok (.astore 10, 2) := by decide +kernel
theorem d1_45 : decode method_3_code 45 = .ok (.iload 9, 2) := by decide +kernel
theorem d1_47 : decode method_3_code 47 = .ok (.newarray .long, 2) := by decide +kernel
theorem d1_49 : decode method_3_code 49 = .ok (.astore 11, 2) := by decide +kernel
theorem d1_51 : decode method_3_code 51 = .ok (.iconst 0, 1) := by decide +kernel
theorem d1_52 : decode method_3_code 52 = .ok (.istore 12, 2) := by decide +kernel
theorem d1_54 : decode method_3_code 54 = .ok (.lload_n 3, 1) := by decide +kernel
theorem d1_55 : decode method_3_code 55 = .ok (.lconst 0, 1) := by decide +kernel
theorem d1_56 : decode method_3_code 56 = .ok (.lcmp, 1) := by decide +kernel
theorem d1_57 : decode method_3_code 57 = .ok (.ifCond .le 18, 3) := by decide +kernel
theorem d1_60 : decode method_3_code 60 = .ok (.aload 10, 2) := by decide +kernel
theorem d1_62 : decode method_3_code 62 = .ok (.iload 12, 2) := by decide +kernel
theorem d1_64 : decode method_3_code 64 = .ok (.iload_n 0, 1) := by decide +kernel
theorem d1_65 : decode method_3_code 65 = .ok (.iastore, 1) := by decide +kernel
theorem d1_66 : decode method_3_code 66 = .ok (.aload 11, 2) := by decide +kernel
theorem d1_68 : decode method_3_code 68 = .ok (.iload 12, 2) := by decide +kernel
theorem d1_70 : decode method_3_code 70 = .ok (.lload_n 3, 1) := by decide +kernel
theorem d1_71 : decode method_3_code 71 = .ok (.lastore, 1) := by decide +kernel
theorem d1_72 : decode method_3_code 72 = .ok (.iinc 12 1, 3) := by decide +kernel
theorem d1_75 : decode method_3_code 75 = .ok (.lload 5, 2) := by decide +kernel
theorem d1_77 : decode method_3_code 77 = .ok (.lconst 0, 1) := by decide +kernel
theorem d1_78 : decode method_3_code 78 = .ok (.lcmp, 1) := by decide +kernel
theorem d1_79 : decode method_3_code 79 = .ok (.ifCond .le 19, 3) := by decide +kernel
theorem d1_82 : decode method_3_code 82 = .ok (.aload 10, 2) := by decide +kernel
theorem d1_84 : decode method_3_code 84 = .ok (.iload 12, 2) := by decide +kernel
theorem d1_86 : decode method_3_code 86 = .ok (.iload_n 1, 1) := by decide +kernel
theorem d1_87 : decode method_3_code 87 = .ok (.iastore, 1) := by decide +kernel
theorem d1_88 : decode method_3_code 88 = .ok (.aload 11, 2) := by decide +kernel
theorem d1_90 : decode method_3_code 90 = .ok (.iload 12, 2) := by decide +kernel
theorem d1_92 : decode method_3_code 92 = .ok (.lload 5, 2) := by decide +kernel
theorem d1_94 : decode method_3_code 94 = .ok (.lastore, 1) := by decide +kernel
theorem d1_95 : decode method_3_code 95 = .ok (.iinc 12 1, 3) := by decide +kernel
theorem d1_98 : decode method_3_code 98 = .ok (.lload 7, 2) := by decide +kernel
theorem d1_100 : decode method_3_code 100 = .ok (.lconst 0, 1) := by decide +kernel
theorem d1_101 : decode method_3_code 101 = .ok (.lcmp, 1) := by decide +kernel
theorem d1_102 : decode method_3_code 102 = .ok (.ifCond .le 19, 3) := by decide +kernel
theorem d1_105 : decode method_3_code 105 = .ok (.aload 10, 2) := by decide +kernel
theorem d1_107 : decode method_3_code 107 = .ok (.iload 12, 2) := by decide +kernel
theorem d1_109 : decode method_3_code 109 = .ok (.iload_n 2, 1) := by decide +kernel
theorem d1_110 : decode method_3_code 110 = .ok (.iastore, 1) := by decide +kernel
theorem d1_111 : decode method_3_code 111 = .ok (.aload 11, 2) := by decide +kernel
theorem d1_113 : decode method_3_code 113 = .ok (.iload 12, 2) := by decide +kernel
theorem d1_115 : decode method_3_code 115 = .ok (.lload 7, 2) := by decide +kernel
theorem d1_117 : decode method_3_code 117 = .ok (.lastore, 1) := by decide +kernel
theorem d1_118 : decode method_3_code 118 = .ok (.iinc 12 1, 3) := by decide +kernel
theorem d1_121 : decode method_3_code 121 = .ok (.new 11, 3) := by decide +kernel
theorem d1_124 : decode method_3_code 124 = .ok (.dup, 1) := by decide +kernel
theorem d1_125 : decode method_3_code 125 = .ok (.aload 10, 2) := by decide +kernel
theorem d1_127 : decode method_3_code 127 = .ok (.aload 11, 2) := by decide +kernel
theorem d1_129 : decode method_3_code 129 = .ok (.invokespecial 13, 3) := by decide +kernel
theorem d1_132 : decode method_3_code 132 = .ok (.areturn, 1) := by decide +kernel
theorem own_pn2 : plainName "com/example/conjecta/conjecta/model/Values" = true := by first | (simp [plainName, overriddenIn]; done) | decide +kernel
theorem own_pd3 : parseMethodDescriptor "([I[J)V" = some ⟨[(.array .int), (.array .long)], none⟩ := by decide +kernel
theorem d2_0 : decode prog_232_method_1_code 0 = .ok (.aload_n 0, 1) := by decide +kernel
theorem d2_1 : decode prog_232_method_1_code 1 = .ok (.invokespecial 3, 3) := by decide +kernel
theorem d2_4 : decode prog_232_method_1_code 4 = .ok (.aload_n 0, 1) := by decide +kernel
theorem d2_5 : decode prog_232_method_1_code 5 = .ok (.aload_n 1, 1) := by decide +kernel
theorem d2_6 : decode prog_232_method_1_code 6 = .ok (.putfield 9, 3) := by decide +kernel
theorem d2_9 : decode prog_232_method_1_code 9 = .ok (.aload_n 0, 1) := by decide +kernel
theorem d2_10 : decode prog_232_method_1_code 10 = .ok (.aload_n 2, 1) := by decide +kernel
theorem d2_11 : decode prog_232_method_1_code 11 = .ok (.putfield 15, 3) := by decide +kernel
theorem d2_14 : decode prog_232_method_1_code 14 = .ok (.return_, 1) := by decide +kernel
theorem own_pd4 : parseMethodDescriptor "(Lcom/example/conjecta/conjecta/model/Values;)Z" = some ⟨[(.object "com/example/conjecta/conjecta/model/Values")], some .boolean⟩ := by decide +kernel
theorem d4_0 : decode prog_232_method_7_code 0 = .ok (.aload_n 0, 1) := by decide +kernel
theorem d4_1 : decode prog_232_method_7_code 1 = .ok (.getfield 9, 3) := by decide +kernel
theorem d4_4 : decode prog_232_method_7_code 4 = .ok (.arraylength, 1) := by decide +kernel
theorem d4_5 : decode prog_232_method_7_code 5 = .ok (.aload_n 1, 1) := by decide +kernel
theorem d4_6 : decode prog_232_method_7_code 6 = .ok (.getfield 9, 3) := by decide +kernel
theorem d4_9 : decode prog_232_method_7_code 9 = .ok (.arraylength, 1) := by decide +kernel
theorem d4_10 : decode prog_232_method_7_code 10 = .ok (.if_icmp .le 5, 3) := by decide +kernel
theorem d4_13 : decode prog_232_method_7_code 13 = .ok (.iconst 0, 1) := by decide +kernel
theorem d4_14 : decode prog_232_method_7_code 14 = .ok (.ireturn, 1) := by decide +kernel
theorem d4_15 : decode prog_232_method_7_code 15 = .ok (.iconst 0, 1) := by decide +kernel
theorem d4_16 : decode prog_232_method_7_code 16 = .ok (.istore_n 2, 1) := by decide +kernel
theorem d4_17 : decode prog_232_method_7_code 17 = .ok (.iconst 0, 1) := by decide +kernel
theorem d4_18 : decode prog_232_method_7_code 18 = .ok (.istore_n 3, 1) := by decide +kernel
theorem d4_19 : decode prog_232_method_7_code 19 = .ok (.iload_n 3, 1) := by decide +kernel
theorem d4_20 : decode prog_232_method_7_code 20 = .ok (.aload_n 0, 1) := by decide +kernel
theorem d4_21 : decode prog_232_method_7_code 21 = .ok (.getfield 9, 3) := by decide +kernel
theorem d4_24 : decode prog_232_method_7_code 24 = .ok (.arraylength, 1) := by decide +kernel
theorem d4_25 : decode prog_232_method_7_code 25 = .ok (.if_icmp .ge 81, 3) := by decide +kernel
theorem d4_28 : decode prog_232_method_7_code 28 = .ok (.iload_n 2, 1) := by decide +kernel
theorem d4_29 : decode prog_232_method_7_code 29 = .ok (.aload_n 1, 1) := by decide +kernel
theorem d4_30 : decode prog_232_method_7_code 30 = .ok (.getfield 9, 3) := by decide +kernel
theorem d4_33 : decode prog_232_method_7_code 33 = .ok (.arraylength, 1) := by decide +kernel
theorem d4_34 : decode prog_232_method_7_code 34 = .ok (.if_icmp .ge 24, 3) := by decide +kernel
theorem d4_37 : decode prog_232_method_7_code 37 = .ok (.aload_n 1, 1) := by decide +kernel
theorem d4_38 : decode prog_232_method_7_code 38 = .ok (.getfield 9, 3) := by decide +kernel
theorem d4_41 : decode prog_232_method_7_code 41 = .ok (.iload_n 2, 1) := by decide +kernel
theorem d4_42 : decode prog_232_method_7_code 42 = .ok (.iaload, 1) := by decide +kernel
theorem d4_43 : decode prog_232_method_7_code 43 = .ok (.aload_n 0, 1) := by decide +kernel
theorem d4_44 : decode prog_232_method_7_code 44 = .ok (.getfield 9, 3) := by decide +kernel
theorem d4_47 : decode prog_232_method_7_code 47 = .ok (.iload_n 3, 1) := by decide +kernel
theorem d4_48 : decode prog_232_method_7_code 48 = .ok (.iaload, 1) := by decide +kernel
theorem d4_49 : decode prog_232_method_7_code 49 = .ok (.if_icmp .ge 9, 3) := by decide +kernel
theorem d4_52 : decode prog_232_method_7_code 52 = .ok (.iinc 2 1, 3) := by decide +kernel
theorem d4_55 : decode prog_232_method_7_code 55 = .ok (.goto (-27), 3) := by decide +kernel
theorem d4_58 : decode prog_232_method_7_code 58 = .ok (.iload_n 2, 1) := by decide +kernel
theorem d4_59 : decode prog_232_method_7_code 59 = .ok (.aload_n 1, 1) := by decide +kernel
theorem d4_60 : decode prog_232_method_7_code 60 = .ok (.getfield 9, 3) := by decide +kernel
theorem d4_63 : decode prog_232_method_7_code 63 = .ok (.arraylength, 1) := by decide +kernel
theorem d4_64 : decode prog_232_method_7_code 64 = .ok (.if_icmp .eq 34, 3) := by decide +kernel
theorem d4_67 : decode prog_232_method_7_code 67 = .ok (.aload_n 1, 1) := by decide +kernel
theorem d4_68 : decode prog_232_method_7_code 68 = .ok (.getfield 9, 3) := by decide +kernel
theorem d4_71 : decode prog_232_method_7_code 71 = .ok (.iload_n 2, 1) := by decide +kernel
theorem d4_72 : decode prog_232_method_7_code 72 = .ok (.iaload, 1) := by decide +kernel
theorem d4_73 : decode prog_232_method_7_code 73 = .ok (.aload_n 0, 1) := by decide +kernel
theorem d4_74 : decode prog_232_method_7_code 74 = .ok (.getfield 9, 3) := by decide +kernel
theorem d4_77 : decode prog_232_method_7_code 77 = .ok (.iload_n 3, 1) := by decide +kernel
theorem d4_78 : decode prog_232_method_7_code 78 = .ok (.iaload, 1) := by decide +kernel
theorem d4_79 : decode prog_232_method_7_code 79 = .ok (.if_icmp .ne 19, 3) := by decide +kernel
theorem d4_82 : decode prog_232_method_7_code 82 = .ok (.aload_n 1, 1) := by decide +kernel
theorem d4_83 : decode prog_232_method_7_code 83 = .ok (.getfield 15, 3) := by decide +kernel
theorem d4_86 : decode prog_232_method_7_code 86 = .ok (.iload_n 2, 1) := by decide +kernel
theorem d4_87 : decode prog_232_method_7_code 87 = .ok (.laload, 1) := by decide +kernel
theorem d4_88 : decode prog_232_method_7_code 88 = .ok (.aload_n 0, 1) := by decide +kernel
theorem d4_89 : decode prog_232_method_7_code 89 = .ok (.getfield 15, 3) := by decide +kernel
theorem d4_92 : decode prog_232_method_7_code 92 = .ok (.iload_n 3, 1) := by decide +kernel
theorem d4_93 : decode prog_232_method_7_code 93 = .ok (.laload, 1) := by decide +kernel
theorem d4_94 : decode prog_232_method_7_code 94 = .ok (.lcmp, 1) := by decide +kernel
theorem d4_95 : decode prog_232_method_7_code 95 = .ok (.ifCond .ge 5, 3) := by decide +kernel
theorem d4_98 : decode prog_232_method_7_code 98 = .ok (.iconst 0, 1) := by decide +kernel
theorem d4_99 : decode prog_232_method_7_code 99 = .ok (.ireturn, 1) := by decide +kernel
theorem d4_100 : decode prog_232_method_7_code 100 = .ok (.iinc 3 1, 3) := by decide +kernel
theorem d4_103 : decode prog_232_method_7_code 103 = .ok (.goto (-84), 3) := by decide +kernel
theorem d4_106 : decode prog_232_method_7_code 106 = .ok (.iconst 1, 1) := by decide +kernel
theorem d4_107 : decode prog_232_method_7_code 107 = .ok (.ireturn, 1) := by decide +kernel
theorem own_pd5 : parseMethodDescriptor "(JIJ)J" = some ⟨[.long, .int, .long], some .long⟩ := by decide +kernel
theorem d5_0 : decode method_2_code 0 = .ok (.iload_n 2, 1) := by decide +kernel
theorem d5_1 : decode method_2_code 1 = .ok (.ifCond .ne 17, 3) := by decide +kernel
theorem d5_4 : decode method_2_code 4 = .ok (.lload_n 0, 1) := by decide +kernel
theorem d5_5 : decode method_2_code 5 = .ok (.lconst 0, 1) := by decide +kernel
theorem d5_6 : decode method_2_code 6 = .ok (.lcmp, 1) := by decide +kernel
theorem d5_7 : decode method_2_code 7 = .ok (.ifCond .ne 7, 3) := by decide +kernel
theorem d5_10 : decode method_2_code 10 = .ok (.lconst 0, 1) := by decide +kernel
theorem d5_11 : decode method_2_code 11 = .ok (.goto 6, 3) := by decide +kernel
theorem d5_14 : decode method_2_code 14 = .ok (.lload_n 0, 1) := by decide +kernel
theorem d5_15 : decode method_2_code 15 = .ok (.lconst 1, 1) := by decide +kernel
theorem d5_16 : decode method_2_code 16 = .ok (.lsub, 1) := by decide +kernel
theorem d5_17 : decode method_2_code 17 = .ok (.lreturn, 1) := by decide +kernel
theorem d5_18 : decode method_2_code 18 = .ok (.iload_n 2, 1) := by decide +kernel
theorem d5_19 : decode method_2_code 19 = .ok (.iconst 1, 1) := by decide +kernel
theorem d5_20 : decode method_2_code 20 = .ok (.if_icmp .ne 5, 3) := by decide +kernel
theorem d5_23 : decode method_2_code 23 = .ok (.lload_n 0, 1) := by decide +kernel
theorem d5_24 : decode method_2_code 24 = .ok (.lreturn, 1) := by decide +kernel
theorem d5_25 : decode method_2_code 25 = .ok (.iload_n 2, 1) := by decide +kernel
theorem d5_26 : decode method_2_code 26 = .ok (.iconst 2, 1) := by decide +kernel
theorem d5_27 : decode method_2_code 27 = .ok (.if_icmp .ne 21, 3) := by decide +kernel
theorem d5_30 : decode method_2_code 30 = .ok (.lload_n 0, 1) := by decide +kernel
theorem d5_31 : decode method_2_code 31 = .ok (.ldc2_w 9, 3) := by decide +kernel
theorem d5_34 : decode method_2_code 34 = .ok (.lcmp, 1) := by decide +kernel
theorem d5_35 : decode method_2_code 35 = .ok (.ifCond .ne 9, 3) := by decide +kernel
theorem d5_38 : decode method_2_code 38 = .ok (.ldc2_w 9, 3) := by decide +kernel
theorem d5_41 : decode method_2_code 41 = .ok (.goto 6, 3) := by decide +kernel
theorem d5_44 : decode method_2_code 44 = .ok (.lload_n 0, 1) := by decide +kernel
theorem d5_45 : decode method_2_code 45 = .ok (.lconst 1, 1) := by decide +kernel
theorem d5_46 : decode method_2_code 46 = .ok (.ladd, 1) := by decide +kernel
theorem d5_47 : decode method_2_code 47 = .ok (.lreturn, 1) := by decide +kernel
theorem d5_48 : decode method_2_code 48 = .ok (.lload_n 3, 1) := by decide +kernel
theorem d5_49 : decode method_2_code 49 = .ok (.ldc2_w 9, 3) := by decide +kernel
theorem d5_52 : decode method_2_code 52 = .ok (.land, 1) := by decide +kernel
theorem d5_53 : decode method_2_code 53 = .ok (.lreturn, 1) := by decide +kernel
def f5_48 (l0 : Int64) (l2 : Int32) (l3 : Int64) : Int64 := (l3 &&& (9223372036854775807 : Int64))
set_option maxRecDepth 65536 in
set_option maxHeartbeats 4000000 in
theorem w5_48 {p : Program} {l : Launch} {e : Env} {s : State} {m : MethodId} {args : Array Value} {below : List Frame} {meth : Method} {c : Code} {T : State} {locs : List Loc} {Z : State} {a0 : Array Value} {n0 : Nat} {h0 : Heap} (X : Stand p l e ({ frames := 0, cells := 0, slots := 0, locals := 0 } : Room) s m args below meth c T locs 0 0) (hx : p.tables.exec = Jvm.exec) (hby : c.code = method_2_code) (hlk : meth.locks = false) (hret : meth.sig.returnType = some .long) (hZ : Z.Warmed39 s.vm) (hown : s.vm.findClass "com/example/conjecta/conjecta/model/ValuesAtMostPinLaw" = some m.cls) (hw : ∀ d ∈ tables_1, d.before a0 Z = true) (hml : c.maxLocals = 5) (N : Fr n0 locs) (eT : T.heap = h0) (l0 : Int64) (l2 : Int32) (l3 : Int64) :
    own_Go p e below (own_K s (own_Q (.long (f5_48 l0 l2 l3)) h0 n0) 0 0) (T.setTop (mkF m 48 #[.val (.long l0), .second, .val (.int l2), .val (.long l3), .second] [])) := by
  unfold f5_48
  refine own_by (fun _ kont => XT.lloadN X.here hx rfl (hb hby d5_48) rfl kont) ?_
  show own_Go p e below _ (T.setTop (mkF m 49 #[.val (.long l0), .second, .val (.int l2), .val (.long l3), .second] [(.long l3)]))
  refine own_by (fun _ kont => X.ldc2J hx hown (v := (9223372036854775807 : Int64)) (mvT hZ (hw _ (List.mem_of_getElem? (i := 1) rfl))) rfl (hb hby d5_49) kont) ?_
  show own_Go p e below _ (T.setTop (mkF m 52 #[.val (.long l0), .second, .val (.int l2), .val (.long l3), .second] [(.long (9223372036854775807 : Int64)), (.long l3)]))
  refine own_by (fun _ kont => XT.land X.here hx rfl (hb hby d5_52) rfl kont) ?_
  show own_Go p e below _ (T.setTop (mkF m 53 #[.val (.long l0), .second, .val (.int l2), .val (.long l3), .second] [(.long (l3 &&& (9223372036854775807 : Int64)))]))
  exact own_ret X hx hlk hret rfl (Or.inr (Or.inl ⟨rfl, rfl, _, rfl⟩)) (hb hby d5_53) ⟨rfl, N, eT⟩ (Nat.le_refl _) (Nat.le_refl _)
def f5_44 (l0 : Int64) (l2 : Int32) (l3 : Int64) : Int64 := (l0 + (1 : Int64))
set_option maxRecDepth 65536 in
set_option maxHeartbeats 4000000 in
theorem w5_44 {p : Program} {l : Launch} {e : Env} {s : State} {m : MethodId} {args : Array Value} {below : List Frame} {meth : Method} {c : Code} {T : State} {locs : List Loc} {Z : State} {a0 : Array Value} {n0 : Nat} {h0 : Heap} (X : Stand p l e ({ frames := 0, cells := 0, slots := 0, locals := 0 } : Room) s m args below meth c T locs 0 0) (hx : p.tables.exec = Jvm.exec) (hby : c.code = method_2_code) (hlk : meth.locks = false) (hret : meth.sig.returnType = some .long) (hZ : Z.Warmed39 s.vm) (hown : s.vm.findClass "com/example/conjecta/conjecta/model/ValuesAtMostPinLaw" = some m.cls) (hw : ∀ d ∈ tables_1, d.before a0 Z = true) (hml : c.maxLocals = 5) (N : Fr n0 locs) (eT : T.heap = h0) (l0 : Int64) (l2 : Int32) (l3 : Int64) :
    own_Go p e below (own_K s (own_Q (.long (f5_44 l0 l2 l3)) h0 n0) 0 0) (T.setTop (mkF m 44 #[.val (.long l0), .second, .val (.int l2), .val (.long l3), .second] [])) := by
  unfold f5_44
  refine own_by (fun _ kont => XT.lloadN X.here hx rfl (hb hby d5_44) rfl kont) ?_
  show own_Go p e below _ (T.setTop (mkF m 45 #[.val (.long l0), .second, .val (.int l2), .val (.long l3), .second] [(.long l0)]))
  refine own_by (fun _ kont => XT.lconstV X.here hx rfl (1 : Int64) (hb hby d5_45) rfl kont) ?_
  show own_Go p e below _ (T.setTop (mkF m 46 #[.val (.long l0), .second, .val (.int l2), .val (.long l3), .second] [(.long (1 : Int64)), (.long l0)]))
  refine own_by (fun _ kont => XT.ladd X.here hx rfl (hb hby d5_46) rfl kont) ?_
  show own_Go p e below _ (T.setTop (mkF m 47 #[.val (.long l0), .second, .val (.int l2), .val (.long l3), .second] [(.long (l0 + (1 : Int64)))]))
  exact own_ret X hx hlk hret rfl (Or.inr (Or.inl ⟨rfl, rfl, _, rfl⟩)) (hb hby d5_47) ⟨rfl, N, eT⟩ (Nat.le_refl _) (Nat.le_refl _)
def f5_25 (l0 : Int64) (l2 : Int32) (l3 : Int64) : Int64 := (if l2 = (2 : Int32) then (if l0 = (9223372036854775807 : Int64) then (9223372036854775807 : Int64) else (f5_44 l0 l2 l3)) else (f5_48 l0 l2 l3))
set_option maxRecDepth 65536 in
set_option maxHeartbeats 4000000 in
theorem w5_25 {p : Program} {l : Launch} {e : Env} {s : State} {m : MethodId} {args : Array Value} {below : List Frame} {meth : Method} {c : Code} {T : State} {locs : List Loc} {Z : State} {a0 : Array Value} {n0 : Nat} {h0 : Heap} (X : Stand p l e ({ frames := 0, cells := 0, slots := 0, locals := 0 } : Room) s m args below meth c T locs 0 0) (hx : p.tables.exec = Jvm.exec) (hby : c.code = method_2_code) (hlk : meth.locks = false) (hret : meth.sig.returnType = some .long) (hZ : Z.Warmed39 s.vm) (hown : s.vm.findClass "com/example/conjecta/conjecta/model/ValuesAtMostPinLaw" = some m.cls) (hw : ∀ d ∈ tables_1, d.before a0 Z = true) (hml : c.maxLocals = 5) (N : Fr n0 locs) (eT : T.heap = h0) (l0 : Int64) (l2 : Int32) (l3 : Int64) :
    own_Go p e below (own_K s (own_Q (.long (f5_25 l0 l2 l3)) h0 n0) 0 0) (T.setTop (mkF m 25 #[.val (.long l0), .second, .val (.int l2), .val (.long l3), .second] [])) := by
  unfold f5_25
  refine own_by (fun _ kont => XS.iloadN X.here hx rfl (hb hby d5_25) rfl kont) ?_
  show own_Go p e below _ (T.setTop (mkF m 26 #[.val (.long l0), .second, .val (.int l2), .val (.long l3), .second] [(.int l2)]))
  refine own_by (fun _ kont => XT.iconstV X.here hx rfl (2 : Int32) (hb hby d5_26) rfl kont) ?_
  show own_Go p e below _ (T.setTop (mkF m 27 #[.val (.long l0), .second, .val (.int l2), .val (.long l3), .second] [(.int (2 : Int32)), (.int l2)]))
  by_cases c27 : l2 = (2 : Int32)
  · rw [if_pos c27]
    refine own_by (fun _ kont => XS.icmpNo X.here hx rfl (hb hby d5_27) rfl (XT.ii_ne_f c27) kont) ?_
    show own_Go p e below _ (T.setTop (mkF m 30 #[.val (.long l0), .second, .val (.int l2), .val (.long l3), .second] []))
    refine own_by (fun _ kont => XT.lloadN X.here hx rfl (hb hby d5_30) rfl kont) ?_
    show own_Go p e below _ (T.setTop (mkF m 31 #[.val (.long l0), .second, .val (.int l2), .val (.long l3), .second] [(.long l0)]))
    refine own_by (fun _ kont => X.ldc2J hx hown (v := (9223372036854775807 : Int64)) (mvT hZ (hw _ (List.mem_of_getElem? (i := 1) rfl))) rfl (hb hby d5_31) kont) ?_
    show own_Go p e below _ (T.setTop (mkF m 34 #[.val (.long l0), .second, .val (.int l2), .val (.long l3), .second] [(.long (9223372036854775807 : Int64)), (.long l0)]))
    refine own_by (fun _ kont => XT.lcmp X.here hx rfl (hb hby d5_34) rfl kont) ?_
    show own_Go p e below _ (T.setTop (mkF m 35 #[.val (.long l0), .second, .val (.int l2), .val (.long l3), .second] [(.int (XT.cmpL l0 (9223372036854775807 : Int64)))]))
    by_cases c35 : l0 = (9223372036854775807 : Int64)
    · rw [if_pos c35]
      refine own_by (fun _ kont => XS.ifNo X.here hx rfl (hb hby d5_35) rfl (XT.ll_ne_f c35) kont) ?_
      show own_Go p e below _ (T.setTop (mkF m 38 #[.val (.long l0), .second, .val (.int l2), .val (.long l3), .second] []))
      refine own_by (fun _ kont => X.ldc2J hx hown (v := (9223372036854775807 : Int64)) (mvT hZ (hw _ (List.mem_of_getElem? (i := 1) rfl))) rfl (hb hby d5_38) kont) ?_
      show own_Go p e below _ (T.setTop (mkF m 41 #[.val (.long l0), .second, .val (.int l2), .val (.long l3), .second] [(.long (9223372036854775807 : Int64))]))
      refine own_by (fun _ kont => XS.goto X.here hx rfl (pc0 := 41) (pc' := 47) rfl (hb hby d5_41) (by decide) (by decide) kont) ?_
      show own_Go p e below _ (T.setTop (mkF m 47 #[.val (.long l0), .second, .val (.int l2), .val (.long l3), .second] [(.long (9223372036854775807 : Int64))]))
      exact own_ret X hx hlk hret rfl (Or.inr (Or.inl ⟨rfl, rfl, _, rfl⟩)) (hb hby d5_47) ⟨rfl, N, eT⟩ (Nat.le_refl _) (Nat.le_refl _)
    · rw [if_neg c35]
      refine own_by (fun _ kont => XS.ifYes X.here hx rfl (pc0 := 35) (pc' := 44) rfl (hb hby d5_35) rfl (XT.ll_ne_t c35) (by decide) (by decide) kont) ?_
      show own_Go p e below _ (T.setTop (mkF m 44 #[.val (.long l0), .second, .val (.int l2), .val (.long l3), .second] []))
      exact w5_44 X hx hby hlk hret hZ hown hw hml N eT l0 l2 l3
  · rw [if_neg c27]
    refine own_by (fun _ kont => XS.icmpYes X.here hx rfl (pc0 := 27) (pc' := 48) rfl (hb hby d5_27) rfl (XT.ii_ne_t c27) (by decide) (by decide) kont) ?_
    show own_Go p e below _ (T.setTop (mkF m 48 #[.val (.long l0), .second, .val (.int l2), .val (.long l3), .second] []))
    exact w5_48 X hx hby hlk hret hZ hown hw hml N eT l0 l2 l3
def f5_18 (l0 : Int64) (l2 : Int32) (l3 : Int64) : Int64 := (if l2 = (1 : Int32) then l0 else (f5_25 l0 l2 l3))
set_option maxRecDepth 65536 in
set_option maxHeartbeats 4000000 in
theorem w5_18 {p : Program} {l : Launch} {e : Env} {s : State} {m : MethodId} {args : Array Value} {below : List Frame} {meth : Method} {c : Code} {T : State} {locs : List Loc} {Z : State} {a0 : Array Value} {n0 : Nat} {h0 : Heap} (X : Stand p l e ({ frames := 0, cells := 0, slots := 0, locals := 0 } : Room) s m args below meth c T locs 0 0) (hx : p.tables.exec = Jvm.exec) (hby : c.code = method_2_code) (hlk : meth.locks = false) (hret : meth.sig.returnType = some .long) (hZ : Z.Warmed39 s.vm) (hown : s.vm.findClass "com/example/conjecta/conjecta/model/ValuesAtMostPinLaw" = some m.cls) (hw : ∀ d ∈ tables_1, d.before a0 Z = true) (hml : c.maxLocals = 5) (N : Fr n0 locs) (eT : T.heap = h0) (l0 : Int64) (l2 : Int32) (l3 : Int64) :
    own_Go p e below (own_K s (own_Q (.long (f5_18 l0 l2 l3)) h0 n0) 0 0) (T.setTop (mkF m 18 #[.val (.long l0), .second, .val (.int l2), .val (.long l3), .second] [])) := by
  unfold f5_18
  refine own_by (fun _ kont => XS.iloadN X.here hx rfl (hb hby d5_18) rfl kont) ?_
  show own_Go p e below _ (T.setTop (mkF m 19 #[.val (.long l0), .second, .val (.int l2), .val (.long l3), .second] [(.int l2)]))
  refine own_by (fun _ kont => XT.iconstV X.here hx rfl (1 : Int32) (hb hby d5_19) rfl kont) ?_
  show own_Go p e below _ (T.setTop (mkF m 20 #[.val (.long l0), .second, .val (.int l2), .val (.long l3), .second] [(.int (1 : Int32)), (.int l2)]))
  by_cases c20 : l2 = (1 : Int32)
  · rw [if_pos c20]
    refine own_by (fun _ kont => XS.icmpNo X.here hx rfl (hb hby d5_20) rfl (XT.ii_ne_f c20) kont) ?_
    show own_Go p e below _ (T.setTop (mkF m 23 #[.val (.long l0), .second, .val (.int l2), .val (.long l3), .second] []))
    refine own_by (fun _ kont => XT.lloadN X.here hx rfl (hb hby d5_23) rfl kont) ?_
    show own_Go p e below _ (T.setTop (mkF m 24 #[.val (.long l0), .second, .val (.int l2), .val (.long l3), .second] [(.long l0)]))
    exact own_ret X hx hlk hret rfl (Or.inr (Or.inl ⟨rfl, rfl, _, rfl⟩)) (hb hby d5_24) ⟨rfl, N, eT⟩ (Nat.le_refl _) (Nat.le_refl _)
  · rw [if_neg c20]
    refine own_by (fun _ kont => XS.icmpYes X.here hx rfl (pc0 := 20) (pc' := 25) rfl (hb hby d5_20) rfl (XT.ii_ne_t c20) (by decide) (by decide) kont) ?_
    show own_Go p e below _ (T.setTop (mkF m 25 #[.val (.long l0), .second, .val (.int l2), .val (.long l3), .second] []))
    exact w5_25 X hx hby hlk hret hZ hown hw hml N eT l0 l2 l3
def f5_14 (l0 : Int64) (l2 : Int32) (l3 : Int64) : Int64 := (l0 - (1 : Int64))
set_option maxRecDepth 65536 in
set_option maxHeartbeats 4000000 in
theorem w5_14 {p : Program} {l : Launch} {e : Env} {s : State} {m : MethodId} {args : Array Value} {below : List Frame} {meth : Method} {c : Code} {T : State} {locs : List Loc} {Z : State} {a0 : Array Value} {n0 : Nat} {h0 : Heap} (X : Stand p l e ({ frames := 0, cells := 0, slots := 0, locals := 0 } : Room) s m args below meth c T locs 0 0) (hx : p.tables.exec = Jvm.exec) (hby : c.code = method_2_code) (hlk : meth.locks = false) (hret : meth.sig.returnType = some .long) (hZ : Z.Warmed39 s.vm) (hown : s.vm.findClass "com/example/conjecta/conjecta/model/ValuesAtMostPinLaw" = some m.cls) (hw : ∀ d ∈ tables_1, d.before a0 Z = true) (hml : c.maxLocals = 5) (N : Fr n0 locs) (eT : T.heap = h0) (l0 : Int64) (l2 : Int32) (l3 : Int64) :
    own_Go p e below (own_K s (own_Q (.long (f5_14 l0 l2 l3)) h0 n0) 0 0) (T.setTop (mkF m 14 #[.val (.long l0), .second, .val (.int l2), .val (.long l3), .second] [])) := by
  unfold f5_14
  refine own_by (fun _ kont => XT.lloadN X.here hx rfl (hb hby d5_14) rfl kont) ?_
  show own_Go p e below _ (T.setTop (mkF m 15 #[.val (.long l0), .second, .val (.int l2), .val (.long l3), .second] [(.long l0)]))
  refine own_by (fun _ kont => XT.lconstV X.here hx rfl (1 : Int64) (hb hby d5_15) rfl kont) ?_
  show own_Go p e below _ (T.setTop (mkF m 16 #[.val (.long l0), .second, .val (.int l2), .val (.long l3), .second] [(.long (1 : Int64)), (.long l0)]))
  refine own_by (fun _ kont => XT.lsub X.here hx rfl (hb hby d5_16) rfl kont) ?_
  show own_Go p e below _ (T.setTop (mkF m 17 #[.val (.long l0), .second, .val (.int l2), .val (.long l3), .second] [(.long (l0 - (1 : Int64)))]))
  exact own_ret X hx hlk hret rfl (Or.inr (Or.inl ⟨rfl, rfl, _, rfl⟩)) (hb hby d5_17) ⟨rfl, N, eT⟩ (Nat.le_refl _) (Nat.le_refl _)
def f5_0 (l0 : Int64) (l2 : Int32) (l3 : Int64) : Int64 := (if l2 = (0 : Int32) then (if l0 = (0 : Int64) then (0 : Int64) else (f5_14 l0 l2 l3)) else (f5_18 l0 l2 l3))
set_option maxRecDepth 65536 in
set_option maxHeartbeats 4000000 in
theorem w5_0 {p : Program} {l : Launch} {e : Env} {s : State} {m : MethodId} {args : Array Value} {below : List Frame} {meth : Method} {c : Code} {T : State} {locs : List Loc} {Z : State} {a0 : Array Value} {n0 : Nat} {h0 : Heap} (X : Stand p l e ({ frames := 0, cells := 0, slots := 0, locals := 0 } : Room) s m args below meth c T locs 0 0) (hx : p.tables.exec = Jvm.exec) (hby : c.code = method_2_code) (hlk : meth.locks = false) (hret : meth.sig.returnType = some .long) (hZ : Z.Warmed39 s.vm) (hown : s.vm.findClass "com/example/conjecta/conjecta/model/ValuesAtMostPinLaw" = some m.cls) (hw : ∀ d ∈ tables_1, d.before a0 Z = true) (hml : c.maxLocals = 5) (N : Fr n0 locs) (eT : T.heap = h0) (l0 : Int64) (l2 : Int32) (l3 : Int64) :
    own_Go p e below (own_K s (own_Q (.long (f5_0 l0 l2 l3)) h0 n0) 0 0) (T.setTop (mkF m 0 #[.val (.long l0), .second, .val (.int l2), .val (.long l3), .second] [])) := by
  unfold f5_0
  refine own_by (fun _ kont => XS.iloadN X.here hx rfl (hb hby d5_0) rfl kont) ?_
  show own_Go p e below _ (T.setTop (mkF m 1 #[.val (.long l0), .second, .val (.int l2), .val (.long l3), .second] [(.int l2)]))
  by_cases c1 : l2 = (0 : Int32)
  · rw [if_pos c1]
    refine own_by (fun _ kont => XS.ifNo X.here hx rfl (hb hby d5_1) rfl (XT.i0_ne_f c1) kont) ?_
    show own_Go p e below _ (T.setTop (mkF m 4 #[.val (.long l0), .second, .val (.int l2), .val (.long l3), .second] []))
    refine own_by (fun _ kont => XT.lloadN X.here hx rfl (hb hby d5_4) rfl kont) ?_
    show own_Go p e below _ (T.setTop (mkF m 5 #[.val (.long l0), .second, .val (.int l2), .val (.long l3), .second] [(.long l0)]))
    refine own_by (fun _ kont => XT.lconstV X.here hx rfl (0 : Int64) (hb hby d5_5) rfl kont) ?_
    show own_Go p e below _ (T.setTop (mkF m 6 #[.val (.long l0), .second, .val (.int l2), .val (.long l3), .second] [(.long (0 : Int64)), (.long l0)]))
    refine own_by (fun _ kont => XT.lcmp X.here hx rfl (hb hby d5_6) rfl kont) ?_
    show own_Go p e below _ (T.setTop (mkF m 7 #[.val (.long l0), .second, .val (.int l2), .val (.long l3), .second] [(.int (XT.cmpL l0 (0 : Int64)))]))
    by_cases c7 : l0 = (0 : Int64)
    · rw [if_pos c7]
      refine own_by (fun _ kont => XS.ifNo X.here hx rfl (hb hby d5_7) rfl (XT.ll_ne_f c7) kont) ?_
      show own_Go p e below _ (T.setTop (mkF m 10 #[.val (.long l0), .second, .val (.int l2), .val (.long l3), .second] []))
      refine own_by (fun _ kont => XT.lconstV X.here hx rfl (0 : Int64) (hb hby d5_10) rfl kont) ?_
      show own_Go p e below _ (T.setTop (mkF m 11 #[.val (.long l0), .second, .val (.int l2), .val (.long l3), .second] [(.long (0 : Int64))]))
      refine own_by (fun _ kont => XS.goto X.here hx rfl (pc0 := 11) (pc' := 17) rfl (hb hby d5_11) (by decide) (by decide) kont) ?_
      show own_Go p e below _ (T.setTop (mkF m 17 #[.val (.long l0), .second, .val (.int l2), .val (.long l3), .second] [(.long (0 : Int64))]))
      exact own_ret X hx hlk hret rfl (Or.inr (Or.inl ⟨rfl, rfl, _, rfl⟩)) (hb hby d5_17) ⟨rfl, N, eT⟩ (Nat.le_refl _) (Nat.le_refl _)
    · rw [if_neg c7]
      refine own_by (fun _ kont => XS.ifYes X.here hx rfl (pc0 := 7) (pc' := 14) rfl (hb hby d5_7) rfl (XT.ll_ne_t c7) (by decide) (by decide) kont) ?_
      show own_Go p e below _ (T.setTop (mkF m 14 #[.val (.long l0), .second, .val (.int l2), .val (.long l3), .second] []))
      exact w5_14 X hx hby hlk hret hZ hown hw hml N eT l0 l2 l3
  · rw [if_neg c1]
    refine own_by (fun _ kont => XS.ifYes X.here hx rfl (pc0 := 1) (pc' := 18) rfl (hb hby d5_1) rfl (XT.i0_ne_t c1) (by decide) (by decide) kont) ?_
    show own_Go p e below _ (T.setTop (mkF m 18 #[.val (.long l0), .second, .val (.int l2), .val (.long l3), .second] []))
    exact w5_18 X hx hby hlk hret hZ hown hw hml N eT l0 l2 l3
theorem own_ef5 (m : MethodId) (l0 : Int64) (l2 : Int32) (l3 : Int64) : entryFrame m #[(.long l0), (.int l2), (.long l3)] 5 = (mkF m 0 #[.val (.long l0), .second, .val (.int l2), .val (.long l3), .second] []) := by first | (simp [entryFrame, mkF, argsToLocals, Value.category, maxLocals]; done) | rfl
set_option maxRecDepth 65536 in
set_option maxHeartbeats 4000000 in
theorem rm5 (l : Launch) (Z : State) (a0 : Array Value) (hw : ∀ d ∈ tables_1, d.before a0 Z = true) (ws : List Jvm.Cond) (l0 : Int64) (l2 : Int32) (l3 : Int64) (h0 : Heap) (n0 : Nat) :
    MetFree l (⟨"com/example/conjecta/conjecta/model/ValuesAtMostPinLaw", "other", "(JIJ)J"⟩ : MethodName) (head1 (Jvm.Cond.code (⟨"com/example/conjecta/conjecta/model/ValuesAtMostPinLaw", "other", "(JIJ)J"⟩ : MethodName) method_2_code 5 (some .long) :: ws) ({ frames := 0, cells := 0, slots := 0, locals := 0 } : Room)) (fun a U => a = #[(.long l0), (.int l2), (.long l3)] ∧ Z.Warmed39 U.vm ∧ U.heap = h0) (fun _ _ _ _ _ => True) (fun _ U o U' => ∃ v L, o = .returned v ∧ own_Q (.long (f5_0 l0 l2 l3)) h0 n0 v U'.heap L ∧ FrameEnd U o U' L ({ frames := 0, cells := 0, slots := 0, locals := 0 } : Room).cells ({ frames := 0, cells := 0, slots := 0, locals := 0 } : Room).slots) := by
  refine MetFree.of_bodySF (plainFor_of_name own_pn0) hisR ?_
  intro p e s m args below meth c s₁ Bd hml0 hP hK
  obtain ⟨rfl, hZ, hh⟩ := hP
  have hx := Bd.exec
  have hby := Bd.bytes
  have hml : c.maxLocals = 5 := hml0
  have hown : s.vm.findClass "com/example/conjecta/conjecta/model/ValuesAtMostPinLaw" = some m.cls := findClass_of_methodNamed Bd.named
  have X0 : Stand p l e ({ frames := 0, cells := 0, slots := 0, locals := 0 } : Room) s m #[(.long l0), (.int l2), (.long l3)] below meth c s₁ [] 0 0 := Stand.of_body Bd
  have e0 : s₁.heap = h0 := by rw [← hh, Bd.state]; rfl
  have N0 := Fr.nil n0
  exact own_by (fun tt kont => castTop (own_ef5 m l0 l2 l3) kont) (w5_0 X0 hx hby Bd.notSynchronized Bd.returns hZ hown hw hml N0 e0 l0 l2 l3)
def own_Q_rmI (Z : State) (a p1 q1 : Addr) (h0 : Heap) (n0 : Nat) : Option Value → Heap → List Loc → Prop := (fun v h L => v = none ∧ Fr n0 L ∧ Keep h0 h [a] ∧ Exa Z h a "com/example/conjecta/conjecta/model/Values" ∧ Fld Z h a "com/example/conjecta/conjecta/model/Values" "variables" "[I" (.ref p1) ∧ Fld Z h a "com/example/conjecta/conjecta/model/Values" "values" "[J" (.ref q1))
theorem own_ef_rmI (m : MethodId) (a : Addr) (p1 : Addr) (q1 : Addr) : entryFrame m #[(.ref a), (.ref p1), (.ref q1)] 3 = (mkF m 0 #[.val (.ref a), .val (.ref p1), .val (.ref q1)] []) := by first | (simp [entryFrame, mkF, argsToLocals, Value.category, maxLocals]; done) | rfl
set_option maxRecDepth 65536 in
set_option maxHeartbeats 40000000 in
theorem rmI (l : Launch) (Z : State) (a0 : Array Value) (hw : ∀ d ∈ tables_1, d.before a0 Z = true) (ws : List Jvm.Cond) (a p1 q1 : Addr) (h0 : Heap) (n0 : Nat) (E : Exa Z h0 a "com/example/conjecta/conjecta/model/Values") (F1 : Fld Z h0 a "com/example/conjecta/conjecta/model/Values" "variables" "[I" .null) (F2 : Fld Z h0 a "com/example/conjecta/conjecta/model/Values" "values" "[J" .null) (ga : n0 ≤ a) :
    MetFree l (⟨"com/example/conjecta/conjecta/model/Values", "<init>", "([I[J)V"⟩ : MethodName) (head1 (Jvm.Cond.code (⟨"com/example/conjecta/conjecta/model/Values", "<init>", "([I[J)V"⟩ : MethodName) prog_232_method_1_code 3 none :: ws) ({ frames := 1, cells := 0, slots := 0, locals := 12 } : Room)) (fun aR UR => aR = #[(.ref a), (.ref p1), (.ref q1)] ∧ Z.Warmed39 UR.vm ∧ UR.heap = h0) (fun _ _ _ _ _ => True) (fun _ UR oR UR' => ∃ vR LR, oR = .returned vR ∧ own_Q_rmI Z a p1 q1 h0 n0 vR UR'.heap LR ∧ FrameEnd UR oR UR' LR ({ frames := 1, cells := 0, slots := 0, locals := 12 } : Room).cells ({ frames := 1, cells := 0, slots := 0, locals := 12 } : Room).slots) := by
  refine MetFree.of_bodySF (plainFor_of_name own_pn2) hisR ?_
  intro p e s m args below meth c s₁ Bd hml0 hP hK
  obtain ⟨rfl, hZ, hh⟩ := hP
  have hx := Bd.exec
  have hby := Bd.bytes
  have hlk := Bd.notSynchronized
  have hret := Bd.returns
  have hml : c.maxLocals = 3 := hml0
  have hown : s.vm.findClass "com/example/conjecta/conjecta/model/Values" = some m.cls := findClass_of_methodNamed Bd.named
  have hnm := (name_of_methodNamed Bd.named Bd.method).1
  have X0 : Stand p l e ({ frames := 1, cells := 0, slots := 0, locals := 12 } : Room) s m #[(.ref a), (.ref p1), (.ref q1)] below meth c s₁ [] 0 0 := Stand.of_body Bd
  have e0 : s₁.heap = h0 := by rw [← hh, Bd.state]; rfl
  have N0 := Fr.nil n0
  show own_Go p e below (own_K s (own_Q_rmI Z a p1 q1 h0 n0) ({ frames := 1, cells := 0, slots := 0, locals := 12 } : Room).cells ({ frames := 1, cells := 0, slots := 0, locals := 12 } : Room).slots) _
  refine own_by (fun tt kont => castTop (own_ef_rmI m a p1 q1) kont) ?_
  show own_Go p e below _ (s₁.setTop (mkF m 0 #[.val (.ref a), .val (.ref p1), .val (.ref q1)] []))
  refine own_by (fun _ kont => XS.aloadN X0.here hx rfl (hb hby d2_0) rfl rfl kont) ?_
  show own_Go p e below _ (s₁.setTop (mkF m 1 #[.val (.ref a), .val (.ref p1), .val (.ref q1)] [(.ref a)]))
  obtain ⟨T101, X101, e101, st101⟩ := initO X0 hx hZ hown (hw _ (List.mem_of_getElem? (i := 14) rfl)) (hw _ (List.mem_of_getElem? (i := 15) rfl)) (hw _ (List.mem_of_getElem? (i := 16) rfl)) e0 (g := (mkF m 1 #[.val (.ref a), .val (.ref p1), .val (.ref q1)] [(.ref a)])) rfl (by rw [hml]; rfl) rfl (hb hby d2_1) (by decide) (W := 0) (by show 2 * 0 + _ ≤ _; exact Nat.le_of_eq rfl) (by decide)
  refine own_by st101 ?_
  show own_Go p e below _ (T101.setTop (mkF m 4 #[.val (.ref a), .val (.ref p1), .val (.ref q1)] []))
  refine own_by (fun _ kont => XS.aloadN X101.here hx rfl (hb hby d2_4) rfl rfl kont) ?_
  show own_Go p e below _ (T101.setTop (mkF m 5 #[.val (.ref a), .val (.ref p1), .val (.ref q1)] [(.ref a)]))
  refine own_by (fun _ kont => XS.aloadN X101.here hx rfl (hb hby d2_5) rfl rfl kont) ?_
  show own_Go p e below _ (T101.setTop (mkF m 6 #[.val (.ref a), .val (.ref p1), .val (.ref q1)] [(.ref p1), (.ref a)]))
  obtain ⟨T102, h102, X102, e102, W102, st102⟩ := putF X101 hx hZ hown (host := "") (Or.inl (hw _ (List.mem_of_getElem? (i := 17) rfl))) Via.refl e101 F1 E (Or.inr ⟨(hw _ (List.mem_of_getElem? (i := 18) rfl)), rfl, hnm⟩) (hw _ (List.mem_of_getElem? (i := 9) rfl)) (ty := (.array .int)) (by decide) rfl rfl (g := (mkF m 6 #[.val (.ref a), .val (.ref p1), .val (.ref q1)] [(.ref p1), (.ref a)])) rfl rfl (hb hby d2_6)
  obtain ⟨L102, X102, M102⟩ := own_hide X102 (Fr.snoc X102 N0 ga)
  have F102 : Fld Z h102 a "com/example/conjecta/conjecta/model/Values" "variables" "[I" (.ref p1) := (F1.same W102)
  refine own_by st102 ?_
  show own_Go p e below _ (T102.setTop (mkF m 9 #[.val (.ref a), .val (.ref p1), .val (.ref q1)] []))
  refine own_by (fun _ kont => XS.aloadN X102.here hx rfl (hb hby d2_9) rfl rfl kont) ?_
  show own_Go p e below _ (T102.setTop (mkF m 10 #[.val (.ref a), .val (.ref p1), .val (.ref q1)] [(.ref a)]))
  refine own_by (fun _ kont => XS.aloadN X102.here hx rfl (hb hby d2_10) rfl rfl kont) ?_
  show own_Go p e below _ (T102.setTop (mkF m 11 #[.val (.ref a), .val (.ref p1), .val (.ref q1)] [(.ref q1), (.ref a)]))
  have F103 : Fld Z h102 a "com/example/conjecta/conjecta/model/Values" "values" "[J" .null := (F2.other W102 (Or.inr (slot_ne (t := (.array .long)) (t' := (.array .int)) (Or.inr (hw _ (List.mem_of_getElem? (i := 20) rfl))) (Or.inr (hw _ (List.mem_of_getElem? (i := 18) rfl))) (by decide) (by decide) (by decide))))
  have F104 : Exa Z h102 a "com/example/conjecta/conjecta/model/Values" := (E.wr W102)
  obtain ⟨T105, h105, X105, e105, W105, st105⟩ := putF X102 hx hZ hown (host := "") (Or.inl (hw _ (List.mem_of_getElem? (i := 19) rfl))) Via.refl e102 F103 F104 (Or.inr ⟨(hw _ (List.mem_of_getElem? (i := 20) rfl)), rfl, hnm⟩) (hw _ (List.mem_of_getElem? (i := 9) rfl)) (ty := (.array .long)) (by decide) rfl rfl (g := (mkF m 11 #[.val (.ref a), .val (.ref p1), .val (.ref q1)] [(.ref q1), (.ref a)])) rfl rfl (hb hby d2_11)
  obtain ⟨L105, X105, M105⟩ := own_hide X105 (Fr.snoc X105 M102 ga)
  have F105 : Fld Z h105 a "com/example/conjecta/conjecta/model/Values" "values" "[J" (.ref q1) := (F103.same W105)
  refine own_by st105 ?_
  show own_Go p e below _ (T105.setTop (mkF m 14 #[.val (.ref a), .val (.ref p1), .val (.ref q1)] []))
  have F106 : Exa Z h105 a "com/example/conjecta/conjecta/model/Values" := (F104.wr W105)
  have F107 : Fld Z h105 a "com/example/conjecta/conjecta/model/Values" "variables" "[I" (.ref p1) := (F102.other W105 (Or.inr (slot_ne (t := (.array .int)) (t' := (.array .long)) (Or.inr (hw _ (List.mem_of_getElem? (i := 18) rfl))) (Or.inr (hw _ (List.mem_of_getElem? (i := 20) rfl))) (by decide) (by decide) (by decide))))
  refine own_retV X105 hx hlk hret (hb hby d2_14) ⟨rfl, M105, ?_⟩ (by decide) (by decide)
  rw [e105]
  exact ⟨((Keep.refl _ _).wr W102 (Or.inl (by simp))).wr W105 (Or.inl (by simp)), F106, F107, F105⟩
def own_Q_rmB (Z : State) (v0 v1 v2 : Int32) (x0 x1 x2 : Int64) (h0 : Heap) (n0 : Nat) : Option Value → Heap → List Loc → Prop := (fun v h L => ∃ a, v = some (.ref a) ∧ Fr n0 L ∧ Keep h0 h [] ∧ own_V Z h a (own_lst v0 v1 v2 x0 x1 x2))
theorem own_ef_rmB (m : MethodId) (v0 : Int32) (v1 : Int32) (v2 : Int32) (x0 : Int64) (x1 : Int64) (x2 : Int64) : entryFrame m #[(.int v0), (.int v1), (.int v2), (.long x0), (.long x1), (.long x2)] 13 = (mkF m 0 #[.val (.int v0), .val (.int v1), .val (.int v2), .val (.long x0), .second, .val (.long x1), .second, .val (.long x2), .second, .unset, .unset, .unset, .unset] []) := by first | (simp [entryFrame, mkF, argsToLocals, Value.category, maxLocals]; done) | rfl
set_option maxRecDepth 65536 in
set_option maxHeartbeats 40000000 in
theorem rmB (l : Launch) (Z : State) (a0 : Array Value) (hw : ∀ d ∈ tables_1, d.before a0 Z = true) (ws : List Jvm.Cond) (v0 v1 v2 : Int32) (x0 x1 x2 : Int64) (h0 : Heap) (n0 : Nat) (Z0 : n0 ≤ h0.size) :
    MetFree l (⟨"com/example/conjecta/conjecta/model/ValuesAtMostPinLaw", "build", "(IIIJJJ)Lcom/example/conjecta/conjecta/model/Values;"⟩ : MethodName) (head1 (Jvm.Cond.code (⟨"com/example/conjecta/conjecta/model/ValuesAtMostPinLaw", "build", "(IIIJJJ)Lcom/example/conjecta/conjecta/model/Values;"⟩ : MethodName) method_3_code 13 (some (.object "com/example/conjecta/conjecta/model/Values")) :: ws) ({ frames := 2, cells := 3, slots := 8, locals := 27 } : Room)) (fun aR UR => aR = #[(.int v0), (.int v1), (.int v2), (.long x0), (.long x1), (.long x2)] ∧ Z.Warmed39 UR.vm ∧ UR.heap = h0) (fun _ _ _ _ _ => True) (fun _ UR oR UR' => ∃ vR LR, oR = .returned vR ∧ own_Q_rmB Z v0 v1 v2 x0 x1 x2 h0 n0 vR UR'.heap LR ∧ FrameEnd UR oR UR' LR ({ frames := 2, cells := 3, slots := 8, locals := 27 } : Room).cells ({ frames := 2, cells := 3, slots := 8, locals := 27 } : Room).slots) := by
  refine MetFree.of_bodySF (plainFor_of_name own_pn0) hisR ?_
  intro p e s m args below meth c s₁ Bd hml0 hP hK
  obtain ⟨rfl, hZ, hh⟩ := hP
  have hx := Bd.exec
  have hby := Bd.bytes
  have hlk := Bd.notSynchronized
  have hret := Bd.returns
  have hml : c.maxLocals = 13 := hml0
  have hown : s.vm.findClass "com/example/conjecta/conjecta/model/ValuesAtMostPinLaw" = some m.cls := findClass_of_methodNamed Bd.named
  have hnm := (name_of_methodNamed Bd.named Bd.method).1
  have X0 : Stand p l e ({ frames := 2, cells := 3, slots := 8, locals := 27 } : Room) s m #[(.int v0), (.int v1), (.int v2), (.long x0), (.long x1), (.long x2)] below meth c s₁ [] 0 0 := Stand.of_body Bd
  have e0 : s₁.heap = h0 := by rw [← hh, Bd.state]; rfl
  have N0 := Fr.nil n0
  show own_Go p e below (own_K s (own_Q_rmB Z v0 v1 v2 x0 x1 x2 h0 n0) ({ frames := 2, cells := 3, slots := 8, locals := 27 } : Room).cells ({ frames := 2, cells := 3, slots := 8, locals := 27 } : Room).slots) _
  refine own_by (fun tt kont => castTop (own_ef_rmB m v0 v1 v2 x0 x1 x2) kont) ?_
  show own_Go p e below _ (s₁.setTop (mkF m 0 #[.val (.int v0), .val (.int v1), .val (.int v2), .val (.long x0), .second, .val (.long x1), .second, .val (.long x2), .second, .unset, .unset, .unset, .unset] []))
  have KP0 : Keep h0 h0 [] := Keep.refl _ _
  by_cases c0 : (0 : Int64) < x0
  · by_cases c1 : (0 : Int64) < x1
    · by_cases c2 : (0 : Int64) < x2
      · refine own_by (fun _ kont => XT.lloadN X0.here hx rfl (hb hby d1_0) rfl kont) ?_
        show own_Go p e below _ (s₁.setTop (mkF m 1 #[.val (.int v0), .val (.int v1), .val (.int v2), .val (.long x0), .second, .val (.long x1), .second, .val (.long x2), .second, .unset, .unset, .unset, .unset] [(.long x0)]))
        refine own_by (fun _ kont => XT.lconstV X0.here hx rfl (0 : Int64) (hb hby d1_1) rfl kont) ?_
        show own_Go p e below _ (s₁.setTop (mkF m 2 #[.val (.int v0), .val (.int v1), .val (.int v2), .val (.long x0), .second, .val (.long x1), .second, .val (.long x2), .second, .unset, .unset, .unset, .unset] [(.long (0 : Int64)), (.long x0)]))
        refine own_by (fun _ kont => XT.lcmp X0.here hx rfl (hb hby d1_2) rfl kont) ?_
        show own_Go p e below _ (s₁.setTop (mkF m 3 #[.val (.int v0), .val (.int v1), .val (.int v2), .val (.long x0), .second, .val (.long x1), .second, .val (.long x2), .second, .unset, .unset, .unset, .unset] [(.int (XT.cmpL x0 (0 : Int64)))]))
        refine own_by (fun _ kont => XS.ifNo X0.here hx rfl (hb hby d1_3) rfl (XT.ll_le_f c0) kont) ?_
        show own_Go p e below _ (s₁.setTop (mkF m 6 #[.val (.int v0), .val (.int v1), .val (.int v2), .val (.long x0), .second, .val (.long x1), .second, .val (.long x2), .second, .unset, .unset, .unset, .unset] []))
        refine own_by (fun _ kont => XT.iconstV X0.here hx rfl (1 : Int32) (hb hby d1_6) rfl kont) ?_
        show own_Go p e below _ (s₁.setTop (mkF m 7 #[.val (.int v0), .val (.int v1), .val (.int v2), .val (.long x0), .second, .val (.long x1), .second, .val (.long x2), .second, .unset, .unset, .unset, .unset] [(.int (1 : Int32))]))
        refine own_by (fun _ kont => XS.goto X0.here hx rfl (pc0 := 7) (pc' := 11) rfl (hb hby d1_7) (by decide) (by decide) kont) ?_
        show own_Go p e below _ (s₁.setTop (mkF m 11 #[.val (.int v0), .val (.int v1), .val (.int v2), .val (.long x0), .second, .val (.long x1), .second, .val (.long x2), .second, .unset, .unset, .unset, .unset] [(.int (1 : Int32))]))
        refine own_by (fun _ kont => XT.lload X0.here hx rfl (hb hby d1_11) rfl kont) ?_
        show own_Go p e below _ (s₁.setTop (mkF m 13 #[.val (.int v0), .val (.int v1), .val (.int v2), .val (.long x0), .second, .val (.long x1), .second, .val (.long x2), .second, .unset, .unset, .unset, .unset] [(.long x1), (.int (1 : Int32))]))
        refine own_by (fun _ kont => XT.lconstV X0.here hx rfl (0 : Int64) (hb hby d1_13) rfl kont) ?_
        show own_Go p e below _ (s₁.setTop (mkF m 14 #[.val (.int v0), .val (.int v1), .val (.int v2), .val (.long x0), .second, .val (.long x1), .second, .val (.long x2), .second, .unset, .unset, .unset, .unset] [(.long (0 : Int64)), (.long x1), (.int (1 : Int32))]))
        refine own_by (fun _ kont => XT.lcmp X0.here hx rfl (hb hby d1_14) rfl kont) ?_
        show own_Go p e below _ (s₁.setTop (mkF m 15 #[.val (.int v0), .val (.int v1), .val (.int v2), .val (.long x0), .second, .val (.long x1), .second, .val (.long x2), .second, .unset, .unset, .unset, .unset] [(.int (XT.cmpL x1 (0 : Int64))), (.int (1 : Int32))]))
        refine own_by (fun _ kont => XS.ifNo X0.here hx rfl (hb hby d1_15) rfl (XT.ll_le_f c1) kont) ?_
        show own_Go p e below _ (s₁.setTop (mkF m 18 #[.val (.int v0), .val (.int v1), .val (.int v2), .val (.long x0), .second, .val (.long x1), .second, .val (.long x2), .second, .unset, .unset, .unset, .unset] [(.int (1 : Int32))]))
        refine own_by (fun _ kont => XT.iconstV X0.here hx rfl (1 : Int32) (hb hby d1_18) rfl kont) ?_
        show own_Go p e below _ (s₁.setTop (mkF m 19 #[.val (.int v0), .val (.int v1), .val (.int v2), .val (.long x0), .second, .val (.long x1), .second, .val (.long x2), .second, .unset, .unset, .unset, .unset] [(.int (1 : Int32)), (.int (1 : Int32))]))
        refine own_by (fun _ kont => XS.goto X0.here hx rfl (pc0 := 19) (pc' := 23) rfl (hb hby d1_19) (by decide) (by decide) kont) ?_
        show own_Go p e below _ (s₁.setTop (mkF m 23 #[.val (.int v0), .val (.int v1), .val (.int v2), .val (.long x0), .second, .val (.long x1), .second, .val (.long x2), .second, .unset, .unset, .unset, .unset] [(.int (1 : Int32)), (.int (1 : Int32))]))
        refine own_by (fun _ kont => XS.iadd X0.here hx rfl (hb hby d1_23) rfl kont) ?_
        show own_Go p e below _ (s₁.setTop (mkF m 24 #[.val (.int v0), .val (.int v1), .val (.int v2), .val (.long x0), .second, .val (.long x1), .second, .val (.long x2), .second, .unset, .unset, .unset, .unset] [(.int ((1 : Int32) + (1 : Int32)))]))
        refine own_by (fun _ kont => XT.lload X0.here hx rfl (hb hby d1_24) rfl kont) ?_
        show own_Go p e below _ (s₁.setTop (mkF m 26 #[.val (.int v0), .val (.int v1), .val (.int v2), .val (.long x0), .second, .val (.long x1), .second, .val (.long x2), .second, .unset, .unset, .unset, .unset] [(.long x2), (.int ((1 : Int32) + (1 : Int32)))]))
        refine own_by (fun _ kont => XT.lconstV X0.here hx rfl (0 : Int64) (hb hby d1_26) rfl kont) ?_
        show own_Go p e below _ (s₁.setTop (mkF m 27 #[.val (.int v0), .val (.int v1), .val (.int v2), .val (.long x0), .second, .val (.long x1), .second, .val (.long x2), .second, .unset, .unset, .unset, .unset] [(.long (0 : Int64)), (.long x2), (.int ((1 : Int32) + (1 : Int32)))]))
        refine own_by (fun _ kont => XT.lcmp X0.here hx rfl (hb hby d1_27) rfl kont) ?_
        show own_Go p e below _ (s₁.setTop (mkF m 28 #[.val (.int v0), .val (.int v1), .val (.int v2), .val (.long x0), .second, .val (.long x1), .second, .val (.long x2), .second, .unset, .unset, .unset, .unset] [(.int (XT.cmpL x2 (0 : Int64))), (.int ((1 : Int32) + (1 : Int32)))]))
        refine own_by (fun _ kont => XS.ifNo X0.here hx rfl (hb hby d1_28) rfl (XT.ll_le_f c2) kont) ?_
        show own_Go p e below _ (s₁.setTop (mkF m 31 #[.val (.int v0), .val (.int v1), .val (.int v2), .val (.long x0), .second, .val (.long x1), .second, .val (.long x2), .second, .unset, .unset, .unset, .unset] [(.int ((1 : Int32) + (1 : Int32)))]))
        refine own_by (fun _ kont => XT.iconstV X0.here hx rfl (1 : Int32) (hb hby d1_31) rfl kont) ?_
        show own_Go p e below _ (s₁.setTop (mkF m 32 #[.val (.int v0), .val (.int v1), .val (.int v2), .val (.long x0), .second, .val (.long x1), .second, .val (.long x2), .second, .unset, .unset, .unset, .unset] [(.int (1 : Int32)), (.int ((1 : Int32) + (1 : Int32)))]))
        refine own_by (fun _ kont => XS.goto X0.here hx rfl (pc0 := 32) (pc' := 36) rfl (hb hby d1_32) (by decide) (by decide) kont) ?_
        show own_Go p e below _ (s₁.setTop (mkF m 36 #[.val (.int v0), .val (.int v1), .val (.int v2), .val (.long x0), .second, .val (.long x1), .second, .val (.long x2), .second, .unset, .unset, .unset, .unset] [(.int (1 : Int32)), (.int ((1 : Int32) + (1 : Int32)))]))
        refine own_by (fun _ kont => XS.iadd X0.here hx rfl (hb hby d1_36) rfl kont) ?_
        show own_Go p e below _ (s₁.setTop (mkF m 37 #[.val (.int v0), .val (.int v1), .val (.int v2), .val (.long x0), .second, .val (.long x1), .second, .val (.long x2), .second, .unset, .unset, .unset, .unset] [(.int (((1 : Int32) + (1 : Int32)) + (1 : Int32)))]))
        refine own_by (fun _ kont => XS.istore X0.here hx rfl (hb hby d1_37) rfl (l' := #[.val (.int v0), .val (.int v1), .val (.int v2), .val (.long x0), .second, .val (.long x1), .second, .val (.long x2), .second, .val (.int (((1 : Int32) + (1 : Int32)) + (1 : Int32))), .unset, .unset, .unset]) rfl kont) ?_
        show own_Go p e below _ (s₁.setTop (mkF m 39 #[.val (.int v0), .val (.int v1), .val (.int v2), .val (.long x0), .second, .val (.long x1), .second, .val (.long x2), .second, .val (.int (((1 : Int32) + (1 : Int32)) + (1 : Int32))), .unset, .unset, .unset] []))
        refine own_by (fun _ kont => XS.iload X0.here hx rfl (hb hby d1_39) rfl kont) ?_
        show own_Go p e below _ (s₁.setTop (mkF m 41 #[.val (.int v0), .val (.int v1), .val (.int v2), .val (.long x0), .second, .val (.long x1), .second, .val (.long x2), .second, .val (.int (((1 : Int32) + (1 : Int32)) + (1 : Int32))), .unset, .unset, .unset] [(.int (((1 : Int32) + (1 : Int32)) + (1 : Int32)))]))
        obtain ⟨T108, h108, a108, X108, e108, g108, E108, H108, st108⟩ := own_newIA X0 hx hZ (hw _ (List.mem_of_getElem? (i := 6) rfl)) e0 (g := (mkF m 41 #[.val (.int v0), .val (.int v1), .val (.int v2), .val (.long x0), .second, .val (.long x1), .second, .val (.long x2), .second, .val (.int (((1 : Int32) + (1 : Int32)) + (1 : Int32))), .unset, .unset, .unset] [(.int (((1 : Int32) + (1 : Int32)) + (1 : Int32)))])) rfl (hb hby d1_41) rfl 3 (by decide) (cap := 3) (by decide) (by decide) (by decide) (by decide)
        have ge108 : n0 ≤ a108 := by rw [g108]; exact Z0
        have lb108 : h0.size ≤ a108 := by rw [g108]; exact KP0.1
        have Z108 : n0 ≤ h108.size := Nat.le_trans Z0 E108.1
        have KP108 : Keep h0 h108 [] := KP0.ext E108
        refine own_by st108 ?_
        show own_Go p e below _ (T108.setTop (mkF m 43 #[.val (.int v0), .val (.int v1), .val (.int v2), .val (.long x0), .second, .val (.long x1), .second, .val (.long x2), .second, .val (.int (((1 : Int32) + (1 : Int32)) + (1 : Int32))), .unset, .unset, .unset] [(.ref a108)]))
        refine own_by (fun _ kont => XS.astore X108.here hx rfl (hb hby d1_43) rfl rfl (l' := #[.val (.int v0), .val (.int v1), .val (.int v2), .val (.long x0), .second, .val (.long x1), .second, .val (.long x2), .second, .val (.int (((1 : Int32) + (1 : Int32)) + (1 : Int32))), .val (.ref a108), .unset, .unset]) rfl kont) ?_
        show own_Go p e below _ (T108.setTop (mkF m 45 #[.val (.int v0), .val (.int v1), .val (.int v2), .val (.long x0), .second, .val (.long x1), .second, .val (.long x2), .second, .val (.int (((1 : Int32) + (1 : Int32)) + (1 : Int32))), .val (.ref a108), .unset, .unset] []))
        refine own_by (fun _ kont => XS.iload X108.here hx rfl (hb hby d1_45) rfl kont) ?_
        show own_Go p e below _ (T108.setTop (mkF m 47 #[.val (.int v0), .val (.int v1), .val (.int v2), .val (.long x0), .second, .val (.long x1), .second, .val (.long x2), .second, .val (.int (((1 : Int32) + (1 : Int32)) + (1 : Int32))), .val (.ref a108), .unset, .unset] [(.int (((1 : Int32) + (1 : Int32)) + (1 : Int32)))]))
        obtain ⟨T109, h109, a109, X109, e109, g109, E109, H109, st109⟩ := own_newLA X108 hx hZ (hw _ (List.mem_of_getElem? (i := 7) rfl)) e108 (g := (mkF m 47 #[.val (.int v0), .val (.int v1), .val (.int v2), .val (.long x0), .second, .val (.long x1), .second, .val (.long x2), .second, .val (.int (((1 : Int32) + (1 : Int32)) + (1 : Int32))), .val (.ref a108), .unset, .unset] [(.int (((1 : Int32) + (1 : Int32)) + (1 : Int32)))])) rfl (hb hby d1_47) rfl 3 (by decide) (cap := 3) (by decide) (by decide) (by decide) (by decide)
        have ne110 : a108 ≠ a109 := by rw [g109]; exact Nat.ne_of_lt (own_IA_lt H108)
        have ge109 : n0 ≤ a109 := by rw [g109]; exact Z108
        have lb109 : h0.size ≤ a109 := by rw [g109]; exact KP108.1
        have Z109 : n0 ≤ h109.size := Nat.le_trans Z108 E109.1
        have KP109 : Keep h0 h109 [] := KP108.ext E109
        refine own_by st109 ?_
        show own_Go p e below _ (T109.setTop (mkF m 49 #[.val (.int v0), .val (.int v1), .val (.int v2), .val (.long x0), .second, .val (.long x1), .second, .val (.long x2), .second, .val (.int (((1 : Int32) + (1 : Int32)) + (1 : Int32))), .val (.ref a108), .unset, .unset] [(.ref a109)]))
        refine own_by (fun _ kont => XS.astore X109.here hx rfl (hb hby d1_49) rfl rfl (l' := #[.val (.int v0), .val (.int v1), .val (.int v2), .val (.long x0), .second, .val (.long x1), .second, .val (.long x2), .second, .val (.int (((1 : Int32) + (1 : Int32)) + (1 : Int32))), .val (.ref a108), .val (.ref a109), .unset]) rfl kont) ?_
        show own_Go p e below _ (T109.setTop (mkF m 51 #[.val (.int v0), .val (.int v1), .val (.int v2), .val (.long x0), .second, .val (.long x1), .second, .val (.long x2), .second, .val (.int (((1 : Int32) + (1 : Int32)) + (1 : Int32))), .val (.ref a108), .val (.ref a109), .unset] []))
        refine own_by (fun _ kont => XT.iconstV X109.here hx rfl (0 : Int32) (hb hby d1_51) rfl kont) ?_
        show own_Go p e below _ (T109.setTop (mkF m 52 #[.val (.int v0), .val (.int v1), .val (.int v2), .val (.long x0), .second, .val (.long x1), .second, .val (.long x2), .second, .val (.int (((1 : Int32) + (1 : Int32)) + (1 : Int32))), .val (.ref a108), .val (.ref a109), .unset] [(.int (0 : Int32))]))
        refine own_by (fun _ kont => XS.istore X109.here hx rfl (hb hby d1_52) rfl (l' := #[.val (.int v0), .val (.int v1), .val (.int v2), .val (.long x0), .second, .val (.long x1), .second, .val (.long x2), .second, .val (.int (((1 : Int32) + (1 : Int32)) + (1 : Int32))), .val (.ref a108), .val (.ref a109), .val (.int (0 : Int32))]) rfl kont) ?_
        show own_Go p e below _ (T109.setTop (mkF m 54 #[.val (.int v0), .val (.int v1), .val (.int v2), .val (.long x0), .second, .val (.long x1), .second, .val (.long x2), .second, .val (.int (((1 : Int32) + (1 : Int32)) + (1 : Int32))), .val (.ref a108), .val (.ref a109), .val (.int (0 : Int32))] []))
        refine own_by (fun _ kont => XT.lloadN X109.here hx rfl (hb hby d1_54) rfl kont) ?_
        show own_Go p e below _ (T109.setTop (mkF m 55 #[.val (.int v0), .val (.int v1), .val (.int v2), .val (.long x0), .second, .val (.long x1), .second, .val (.long x2), .second, .val (.int (((1 : Int32) + (1 : Int32)) + (1 : Int32))), .val (.ref a108), .val (.ref a109), .val (.int (0 : Int32))] [(.long x0)]))
        refine own_by (fun _ kont => XT.lconstV X109.here hx rfl (0 : Int64) (hb hby d1_55) rfl kont) ?_
        show own_Go p e below _ (T109.setTop (mkF m 56 #[.val (.int v0), .val (.int v1), .val (.int v2), .val (.long x0), .second, .val (.long x1), .second, .val (.long x2), .second, .val (.int (((1 : Int32) + (1 : Int32)) + (1 : Int32))), .val (.ref a108), .val (.ref a109), .val (.int (0 : Int32))] [(.long (0 : Int64)), (.long x0)]))
        refine own_by (fun _ kont => XT.lcmp X109.here hx rfl (hb hby d1_56) rfl kont) ?_
        show own_Go p e below _ (T109.setTop (mkF m 57 #[.val (.int v0), .val (.int v1), .val (.int v2), .val (.long x0), .second, .val (.long x1), .second, .val (.long x2), .second, .val (.int (((1 : Int32) + (1 : Int32)) + (1 : Int32))), .val (.ref a108), .val (.ref a109), .val (.int (0 : Int32))] [(.int (XT.cmpL x0 (0 : Int64)))]))
        refine own_by (fun _ kont => XS.ifNo X109.here hx rfl (hb hby d1_57) rfl (XT.ll_le_f c0) kont) ?_
        show own_Go p e below _ (T109.setTop (mkF m 60 #[.val (.int v0), .val (.int v1), .val (.int v2), .val (.long x0), .second, .val (.long x1), .second, .val (.long x2), .second, .val (.int (((1 : Int32) + (1 : Int32)) + (1 : Int32))), .val (.ref a108), .val (.ref a109), .val (.int (0 : Int32))] []))
        refine own_by (fun _ kont => XS.aload X109.here hx rfl (hb hby d1_60) rfl rfl kont) ?_
        show own_Go p e below _ (T109.setTop (mkF m 62 #[.val (.int v0), .val (.int v1), .val (.int v2), .val (.long x0), .second, .val (.long x1), .second, .val (.long x2), .second, .val (.int (((1 : Int32) + (1 : Int32)) + (1 : Int32))), .val (.ref a108), .val (.ref a109), .val (.int (0 : Int32))] [(.ref a108)]))
        refine own_by (fun _ kont => XS.iload X109.here hx rfl (hb hby d1_62) rfl kont) ?_
        show own_Go p e below _ (T109.setTop (mkF m 64 #[.val (.int v0), .val (.int v1), .val (.int v2), .val (.long x0), .second, .val (.long x1), .second, .val (.long x2), .second, .val (.int (((1 : Int32) + (1 : Int32)) + (1 : Int32))), .val (.ref a108), .val (.ref a109), .val (.int (0 : Int32))] [(.int (0 : Int32)), (.ref a108)]))
        refine own_by (fun _ kont => XS.iloadN X109.here hx rfl (hb hby d1_64) rfl kont) ?_
        show own_Go p e below _ (T109.setTop (mkF m 65 #[.val (.int v0), .val (.int v1), .val (.int v2), .val (.long x0), .second, .val (.long x1), .second, .val (.long x2), .second, .val (.int (((1 : Int32) + (1 : Int32)) + (1 : Int32))), .val (.ref a108), .val (.ref a109), .val (.int (0 : Int32))] [(.int v0), (.int (0 : Int32)), (.ref a108)]))
        have F111 : own_IA Z h109 a108 3 (fun _ => 0) := (own_IA_ext H108 E109)
        obtain ⟨T112, h112, X112, e112, W112, H112, st112⟩ := own_stN X109 hx hZ e109 F111 (j := (0 : Int32)) 0 (by decide) (by decide) (g := (mkF m 65 #[.val (.int v0), .val (.int v1), .val (.int v2), .val (.long x0), .second, .val (.long x1), .second, .val (.long x2), .second, .val (.int (((1 : Int32) + (1 : Int32)) + (1 : Int32))), .val (.ref a108), .val (.ref a109), .val (.int (0 : Int32))] [(.int v0), (.int (0 : Int32)), (.ref a108)])) rfl rfl (hb hby d1_65)
        obtain ⟨L112, X112, M112⟩ := own_hide X112 (Fr.snoc X112 N0 ge108)
        have Z112 : n0 ≤ h112.size := (by rw [Wr.size W112]; exact Z109)
        have KP112 : Keep h0 h112 [] := KP109.wr W112 (Or.inr lb108)
        refine own_by st112 ?_
        show own_Go p e below _ (T112.setTop (mkF m 66 #[.val (.int v0), .val (.int v1), .val (.int v2), .val (.long x0), .second, .val (.long x1), .second, .val (.long x2), .second, .val (.int (((1 : Int32) + (1 : Int32)) + (1 : Int32))), .val (.ref a108), .val (.ref a109), .val (.int (0 : Int32))] []))
        refine own_by (fun _ kont => XS.aload X112.here hx rfl (hb hby d1_66) rfl rfl kont) ?_
        show own_Go p e below _ (T112.setTop (mkF m 68 #[.val (.int v0), .val (.int v1), .val (.int v2), .val (.long x0), .second, .val (.long x1), .second, .val (.long x2), .second, .val (.int (((1 : Int32) + (1 : Int32)) + (1 : Int32))), .val (.ref a108), .val (.ref a109), .val (.int (0 : Int32))] [(.ref a109)]))
        refine own_by (fun _ kont => XS.iload X112.here hx rfl (hb hby d1_68) rfl kont) ?_
        show own_Go p e below _ (T112.setTop (mkF m 70 #[.val (.int v0), .val (.int v1), .val (.int v2), .val (.long x0), .second, .val (.long x1), .second, .val (.long x2), .second, .val (.int (((1 : Int32) + (1 : Int32)) + (1 : Int32))), .val (.ref a108), .val (.ref a109), .val (.int (0 : Int32))] [(.int (0 : Int32)), (.ref a109)]))
        refine own_by (fun _ kont => XT.lloadN X112.here hx rfl (hb hby d1_70) rfl kont) ?_
        show own_Go p e below _ (T112.setTop (mkF m 71 #[.val (.int v0), .val (.int v1), .val (.int v2), .val (.long x0), .second, .val (.long x1), .second, .val (.long x2), .second, .val (.int (((1 : Int32) + (1 : Int32)) + (1 : Int32))), .val (.ref a108), .val (.ref a109), .val (.int (0 : Int32))] [(.long x0), (.int (0 : Int32)), (.ref a109)]))
        have F113 : own_LA Z h112 a109 3 (fun _ => 0) := (own_LA_other H109 W112 (Ne.symm ne110))
        obtain ⟨T114, h114, X114, e114, W114, H114, st114⟩ := own_stL X112 hx hZ e112 F113 (j := (0 : Int32)) 0 (by decide) (by decide) (g := (mkF m 71 #[.val (.int v0), .val (.int v1), .val (.int v2), .val (.long x0), .second, .val (.long x1), .second, .val (.long x2), .second, .val (.int (((1 : Int32) + (1 : Int32)) + (1 : Int32))), .val (.ref a108), .val (.ref a109), .val (.int (0 : Int32))] [(.long x0), (.int (0 : Int32)), (.ref a109)])) rfl rfl (hb hby d1_71)
        obtain ⟨L114, X114, M114⟩ := own_hide X114 (Fr.snoc X114 M112 ge109)
        have Z114 : n0 ≤ h114.size := (by rw [Wr.size W114]; exact Z112)
        have KP114 : Keep h0 h114 [] := KP112.wr W114 (Or.inr lb109)
        refine own_by st114 ?_
        show own_Go p e below _ (T114.setTop (mkF m 72 #[.val (.int v0), .val (.int v1), .val (.int v2), .val (.long x0), .second, .val (.long x1), .second, .val (.long x2), .second, .val (.int (((1 : Int32) + (1 : Int32)) + (1 : Int32))), .val (.ref a108), .val (.ref a109), .val (.int (0 : Int32))] []))
        refine own_by (fun _ kont => XT.iincV X114.here hx rfl (1 : Int32) (hb hby d1_72) rfl rfl (l' := #[.val (.int v0), .val (.int v1), .val (.int v2), .val (.long x0), .second, .val (.long x1), .second, .val (.long x2), .second, .val (.int (((1 : Int32) + (1 : Int32)) + (1 : Int32))), .val (.ref a108), .val (.ref a109), .val (.int ((0 : Int32) + (1 : Int32)))]) rfl kont) ?_
        show own_Go p e below _ (T114.setTop (mkF m 75 #[.val (.int v0), .val (.int v1), .val (.int v2), .val (.long x0), .second, .val (.long x1), .second, .val (.long x2), .second, .val (.int (((1 : Int32) + (1 : Int32)) + (1 : Int32))), .val (.ref a108), .val (.ref a109), .val (.int ((0 : Int32) + (1 : Int32)))] []))
        refine own_by (fun _ kont => XT.lload X114.here hx rfl (hb hby d1_75) rfl kont) ?_
        show own_Go p e below _ (T114.setTop (mkF m 77 #[.val (.int v0), .val (.int v1), .val (.int v2), .val (.long x0), .second, .val (.long x1), .second, .val (.long x2), .second, .val (.int (((1 : Int32) + (1 : Int32)) + (1 : Int32))), .val (.ref a108), .val (.ref a109), .val (.int ((0 : Int32) + (1 : Int32)))] [(.long x1)]))
        refine own_by (fun _ kont => XT.lconstV X114.here hx rfl (0 : Int64) (hb hby d1_77) rfl kont) ?_
        show own_Go p e below _ (T114.setTop (mkF m 78 #[.val (.int v0), .val (.int v1), .val (.int v2), .val (.long x0), .second, .val (.long x1), .second, .val (.long x2), .second, .val (.int (((1 : Int32) + (1 : Int32)) + (1 : Int32))), .val (.ref a108), .val (.ref a109), .val (.int ((0 : Int32) + (1 : Int32)))] [(.long (0 : Int64)), (.long x1)]))
        refine own_by (fun _ kont => XT.lcmp X114.here hx rfl (hb hby d1_78) rfl kont) ?_
        show own_Go p e below _ (T114.setTop (mkF m 79 #[.val (.int v0), .val (.int v1), .val (.int v2), .val (.long x0), .second, .val (.long x1), .second, .val (.long x2), .second, .val (.int (((1 : Int32) + (1 : Int32)) + (1 : Int32))), .val (.ref a108), .val (.ref a109), .val (.int ((0 : Int32) + (1 : Int32)))] [(.int (XT.cmpL x1 (0 : Int64)))]))
        refine own_by (fun _ kont => XS.ifNo X114.here hx rfl (hb hby d1_79) rfl (XT.ll_le_f c1) kont) ?_
        show own_Go p e below _ (T114.setTop (mkF m 82 #[.val (.int v0), .val (.int v1), .val (.int v2), .val (.long x0), .second, .val (.long x1), .second, .val (.long x2), .second, .val (.int (((1 : Int32) + (1 : Int32)) + (1 : Int32))), .val (.ref a108), .val (.ref a109), .val (.int ((0 : Int32) + (1 : Int32)))] []))
        refine own_by (fun _ kont => XS.aload X114.here hx rfl (hb hby d1_82) rfl rfl kont) ?_
        show own_Go p e below _ (T114.setTop (mkF m 84 #[.val (.int v0), .val (.int v1), .val (.int v2), .val (.long x0), .second, .val (.long x1), .second, .val (.long x2), .second, .val (.int (((1 : Int32) + (1 : Int32)) + (1 : Int32))), .val (.ref a108), .val (.ref a109), .val (.int ((0 : Int32) + (1 : Int32)))] [(.ref a108)]))
        refine own_by (fun _ kont => XS.iload X114.here hx rfl (hb hby d1_84) rfl kont) ?_
        show own_Go p e below _ (T114.setTop (mkF m 86 #[.val (.int v0), .val (.int v1), .val (.int v2), .val (.long x0), .second, .val (.long x1), .second, .val (.long x2), .second, .val (.int (((1 : Int32) + (1 : Int32)) + (1 : Int32))), .val (.ref a108), .val (.ref a109), .val (.int ((0 : Int32) + (1 : Int32)))] [(.int ((0 : Int32) + (1 : Int32))), (.ref a108)]))
        refine own_by (fun _ kont => XS.iloadN X114.here hx rfl (hb hby d1_86) rfl kont) ?_
        show own_Go p e below _ (T114.setTop (mkF m 87 #[.val (.int v0), .val (.int v1), .val (.int v2), .val (.long x0), .second, .val (.long x1), .second, .val (.long x2), .second, .val (.int (((1 : Int32) + (1 : Int32)) + (1 : Int32))), .val (.ref a108), .val (.ref a109), .val (.int ((0 : Int32) + (1 : Int32)))] [(.int v1), (.int ((0 : Int32) + (1 : Int32))), (.ref a108)]))
        have F115 : own_IA Z h114 a108 3 (fun i => if i = 0 then v0 else (fun _ => 0) i) := (own_IA_other H112 W114 ne110)
        obtain ⟨T116, h116, X116, e116, W116, H116, st116⟩ := own_stN X114 hx hZ e114 F115 (j := ((0 : Int32) + (1 : Int32))) 1 (by decide) (by decide) (g := (mkF m 87 #[.val (.int v0), .val (.int v1), .val (.int v2), .val (.long x0), .second, .val (.long x1), .second, .val (.long x2), .second, .val (.int (((1 : Int32) + (1 : Int32)) + (1 : Int32))), .val (.ref a108), .val (.ref a109), .val (.int ((0 : Int32) + (1 : Int32)))] [(.int v1), (.int ((0 : Int32) + (1 : Int32))), (.ref a108)])) rfl rfl (hb hby d1_87)
        obtain ⟨L116, X116, M116⟩ := own_hide X116 (Fr.snoc X116 M114 ge108)
        have Z116 : n0 ≤ h116.size := (by rw [Wr.size W116]; exact Z114)
        have KP116 : Keep h0 h116 [] := KP114.wr W116 (Or.inr lb108)
        refine own_by st116 ?_
        show own_Go p e below _ (T116.setTop (mkF m 88 #[.val (.int v0), .val (.int v1), .val (.int v2), .val (.long x0), .second, .val (.long x1), .second, .val (.long x2), .second, .val (.int (((1 : Int32) + (1 : Int32)) + (1 : Int32))), .val (.ref a108), .val (.ref a109), .val (.int ((0 : Int32) + (1 : Int32)))] []))
        refine own_by (fun _ kont => XS.aload X116.here hx rfl (hb hby d1_88) rfl rfl kont) ?_
        show own_Go p e below _ (T116.setTop (mkF m 90 #[.val (.int v0), .val (.int v1), .val (.int v2), .val (.long x0), .second, .val (.long x1), .second, .val (.long x2), .second, .val (.int (((1 : Int32) + (1 : Int32)) + (1 : Int32))), .val (.ref a108), .val (.ref a109), .val (.int ((0 : Int32) + (1 : Int32)))] [(.ref a109)]))
        refine own_by (fun _ kont => XS.iload X116.here hx rfl (hb hby d1_90) rfl kont) ?_
        show own_Go p e below _ (T116.setTop (mkF m 92 #[.val (.int v0), .val (.int v1), .val (.int v2), .val (.long x0), .second, .val (.long x1), .second, .val (.long x2), .second, .val (.int (((1 : Int32) + (1 : Int32)) + (1 : Int32))), .val (.ref a108), .val (.ref a109), .val (.int ((0 : Int32) + (1 : Int32)))] [(.int ((0 : Int32) + (1 : Int32))), (.ref a109)]))
        refine own_by (fun _ kont => XT.lload X116.here hx rfl (hb hby d1_92) rfl kont) ?_
        show own_Go p e below _ (T116.setTop (mkF m 94 #[.val (.int v0), .val (.int v1), .val (.int v2), .val (.long x0), .second, .val (.long x1), .second, .val (.long x2), .second, .val (.int (((1 : Int32) + (1 : Int32)) + (1 : Int32))), .val (.ref a108), .val (.ref a109), .val (.int ((0 : Int32) + (1 : Int32)))] [(.long x1), (.int ((0 : Int32) + (1 : Int32))), (.ref a109)]))
        have F117 : own_LA Z h116 a109 3 (fun i => if i = 0 then x0 else (fun _ => 0) i) := (own_LA_other H114 W116 (Ne.symm ne110))
        obtain ⟨T118, h118, X118, e118, W118, H118, st118⟩ := own_stL X116 hx hZ e116 F117 (j := ((0 : Int32) + (1 : Int32))) 1 (by decide) (by decide) (g := (mkF m 94 #[.val (.int v0), .val (.int v1), .val (.int v2), .val (.long x0), .second, .val (.long x1), .second, .val (.long x2), .second, .val (.int (((1 : Int32) + (1 : Int32)) + (1 : Int32))), .val (.ref a108), .val (.ref a109), .val (.int ((0 : Int32) + (1 : Int32)))] [(.long x1), (.int ((0 : Int32) + (1 : Int32))), (.ref a109)])) rfl rfl (hb hby d1_94)
        obtain ⟨L118, X118, M118⟩ := own_hide X118 (Fr.snoc X118 M116 ge109)
        have Z118 : n0 ≤ h118.size := (by rw [Wr.size W118]; exact Z116)
        have KP118 : Keep h0 h118 [] := KP116.wr W118 (Or.inr lb109)
        refine own_by st118 ?_
        show own_Go p e below _ (T118.setTop (mkF m 95 #[.val (.int v0), .val (.int v1), .val (.int v2), .val (.long x0), .second, .val (.long x1), .second, .val (.long x2), .second, .val (.int (((1 : Int32) + (1 : Int32)) + (1 : Int32))), .val (.ref a108), .val (.ref a109), .val (.int ((0 : Int32) + (1 : Int32)))] []))
        refine own_by (fun _ kont => XT.iincV X118.here hx rfl (1 : Int32) (hb hby d1_95) rfl rfl (l' := #[.val (.int v0), .val (.int v1), .val (.int v2), .val (.long x0), .second, .val (.long x1), .second, .val (.long x2), .second, .val (.int (((1 : Int32) + (1 : Int32)) + (1 : Int32))), .val (.ref a108), .val (.ref a109), .val (.int (((0 : Int32) + (1 : Int32)) + (1 : Int32)))]) rfl kont) ?_
        show own_Go p e below _ (T118.setTop (mkF m 98 #[.val (.int v0), .val (.int v1), .val (.int v2), .val (.long x0), .second, .val (.long x1), .second, .val (.long x2), .second, .val (.int (((1 : Int32) + (1 : Int32)) + (1 : Int32))), .val (.ref a108), .val (.ref a109), .val (.int (((0 : Int32) + (1 : Int32)) + (1 : Int32)))] []))
        refine own_by (fun _ kont => XT.lload X118.here hx rfl (hb hby d1_98) rfl kont) ?_
        show own_Go p e below _ (T118.setTop (mkF m 100 #[.val (.int v0), .val (.int v1), .val (.int v2), .val (.long x0), .second, .val (.long x1), .second, .val (.long x2), .second, .val (.int (((1 : Int32) + (1 : Int32)) + (1 : Int32))), .val (.ref a108), .val (.ref a109), .val (.int (((0 : Int32) + (1 : Int32)) + (1 : Int32)))] [(.long x2)]))
        refine own_by (fun _ kont => XT.lconstV X118.here hx rfl (0 : Int64) (hb hby d1_100) rfl kont) ?_
        show own_Go p e below _ (T118.setTop (mkF m 101 #[.val (.int v0), .val (.int v1), .val (.int v2), .val (.long x0), .second, .val (.long x1), .second, .val (.long x2), .second, .val (.int (((1 : Int32) + (1 : Int32)) + (1 : Int32))), .val (.ref a108), .val (.ref a109), .val (.int (((0 : Int32) + (1 : Int32)) + (1 : Int32)))] [(.long (0 : Int64)), (.long x2)]))
        refine own_by (fun _ kont => XT.lcmp X118.here hx rfl (hb hby d1_101) rfl kont) ?_
        show own_Go p e below _ (T118.setTop (mkF m 102 #[.val (.int v0), .val (.int v1), .val (.int v2), .val (.long x0), .second, .val (.long x1), .second, .val (.long x2), .second, .val (.int (((1 : Int32) + (1 : Int32)) + (1 : Int32))), .val (.ref a108), .val (.ref a109), .val (.int (((0 : Int32) + (1 : Int32)) + (1 : Int32)))] [(.int (XT.cmpL x2 (0 : Int64)))]))
        refine own_by (fun _ kont => XS.ifNo X118.here hx rfl (hb hby d1_102) rfl (XT.ll_le_f c2) kont) ?_
        show own_Go p e below _ (T118.setTop (mkF m 105 #[.val (.int v0), .val (.int v1), .val (.int v2), .val (.long x0), .second, .val (.long x1), .second, .val (.long x2), .second, .val (.int (((1 : Int32) + (1 : Int32)) + (1 : Int32))), .val (.ref a108), .val (.ref a109), .val (.int (((0 : Int32) + (1 : Int32)) + (1 : Int32)))] []))
        refine own_by (fun _ kont => XS.aload X118.here hx rfl (hb hby d1_105) rfl rfl kont) ?_
        show own_Go p e below _ (T118.setTop (mkF m 107 #[.val (.int v0), .val (.int v1), .val (.int v2), .val (.long x0), .second, .val (.long x1), .second, .val (.long x2), .second, .val (.int (((1 : Int32) + (1 : Int32)) + (1 : Int32))), .val (.ref a108), .val (.ref a109), .val (.int (((0 : Int32) + (1 : Int32)) + (1 : Int32)))] [(.ref a108)]))
        refine own_by (fun _ kont => XS.iload X118.here hx rfl (hb hby d1_107) rfl kont) ?_
        show own_Go p e below _ (T118.setTop (mkF m 109 #[.val (.int v0), .val (.int v1), .val (.int v2), .val (.long x0), .second, .val (.long x1), .second, .val (.long x2), .second, .val (.int (((1 : Int32) + (1 : Int32)) + (1 : Int32))), .val (.ref a108), .val (.ref a109), .val (.int (((0 : Int32) + (1 : Int32)) + (1 : Int32)))] [(.int (((0 : Int32) + (1 : Int32)) + (1 : Int32))), (.ref a108)]))
        refine own_by (fun _ kont => XS.iloadN X118.here hx rfl (hb hby d1_109) rfl kont) ?_
        show own_Go p e below _ (T118.setTop (mkF m 110 #[.val (.int v0), .val (.int v1), .val (.int v2), .val (.long x0), .second, .val (.long x1), .second, .val (.long x2), .second, .val (.int (((1 : Int32) + (1 : Int32)) + (1 : Int32))), .val (.ref a108), .val (.ref a109), .val (.int (((0 : Int32) + (1 : Int32)) + (1 : Int32)))] [(.int v2), (.int (((0 : Int32) + (1 : Int32)) + (1 : Int32))), (.ref a108)]))
        have F119 : own_IA Z h118 a108 3 (fun i => if i = 1 then v1 else (fun i => if i = 0 then v0 else (fun _ => 0) i) i) := (own_IA_other H116 W118 ne110)
        obtain ⟨T120, h120, X120, e120, W120, H120, st120⟩ := own_stN X118 hx hZ e118 F119 (j := (((0 : Int32) + (1 : Int32)) + (1 : Int32))) 2 (by decide) (by decide) (g := (mkF m 110 #[.val (.int v0), .val (.int v1), .val (.int v2), .val (.long x0), .second, .val (.long x1), .second, .val (.long x2), .second, .val (.int (((1 : Int32) + (1 : Int32)) + (1 : Int32))), .val (.ref a108), .val (.ref a109), .val (.int (((0 : Int32) + (1 : Int32)) + (1 : Int32)))] [(.int v2), (.int (((0 : Int32) + (1 : Int32)) + (1 : Int32))), (.ref a108)])) rfl rfl (hb hby d1_110)
        obtain ⟨L120, X120, M120⟩ := own_hide X120 (Fr.snoc X120 M118 ge108)
        have Z120 : n0 ≤ h120.size := (by rw [Wr.size W120]; exact Z118)
        have KP120 : Keep h0 h120 [] := KP118.wr W120 (Or.inr lb108)
        refine own_by st120 ?_
        show own_Go p e below _ (T120.setTop (mkF m 111 #[.val (.int v0), .val (.int v1), .val (.int v2), .val (.long x0), .second, .val (.long x1), .second, .val (.long x2), .second, .val (.int (((1 : Int32) + (1 : Int32)) + (1 : Int32))), .val (.ref a108), .val (.ref a109), .val (.int (((0 : Int32) + (1 : Int32)) + (1 : Int32)))] []))
        refine own_by (fun _ kont => XS.aload X120.here hx rfl (hb hby d1_111) rfl rfl kont) ?_
        show own_Go p e below _ (T120.setTop (mkF m 113 #[.val (.int v0), .val (.int v1), .val (.int v2), .val (.long x0), .second, .val (.long x1), .second, .val (.long x2), .second, .val (.int (((1 : Int32) + (1 : Int32)) + (1 : Int32))), .val (.ref a108), .val (.ref a109), .val (.int (((0 : Int32) + (1 : Int32)) + (1 : Int32)))] [(.ref a109)]))
        refine own_by (fun _ kont => XS.iload X120.here hx rfl (hb hby d1_113) rfl kont) ?_
        show own_Go p e below _ (T120.setTop (mkF m 115 #[.val (.int v0), .val (.int v1), .val (.int v2), .val (.long x0), .second, .val (.long x1), .second, .val (.long x2), .second, .val (.int (((1 : Int32) + (1 : Int32)) + (1 : Int32))), .val (.ref a108), .val (.ref a109), .val (.int (((0 : Int32) + (1 : Int32)) + (1 : Int32)))] [(.int (((0 : Int32) + (1 : Int32)) + (1 : Int32))), (.ref a109)]))
        refine own_by (fun _ kont => XT.lload X120.here hx rfl (hb hby d1_115) rfl kont) ?_
        show own_Go p e below _ (T120.setTop (mkF m 117 #[.val (.int v0), .val (.int v1), .val (.int v2), .val (.long x0), .second, .val (.long x1), .second, .val (.long x2), .second, .val (.int (((1 : Int32) + (1 : Int32)) + (1 : Int32))), .val (.ref a108), .val (.ref a109), .val (.int (((0 : Int32) + (1 : Int32)) + (1 : Int32)))] [(.long x2), (.int (((0 : Int32) + (1 : Int32)) + (1 : Int32))), (.ref a109)]))
        have F121 : own_LA Z h120 a109 3 (fun i => if i = 1 then x1 else (fun i => if i = 0 then x0 else (fun _ => 0) i) i) := (own_LA_other H118 W120 (Ne.symm ne110))
        obtain ⟨T122, h122, X122, e122, W122, H122, st122⟩ := own_stL X120 hx hZ e120 F121 (j := (((0 : Int32) + (1 : Int32)) + (1 : Int32))) 2 (by decide) (by decide) (g := (mkF m 117 #[.val (.int v0), .val (.int v1), .val (.int v2), .val (.long x0), .second, .val (.long x1), .second, .val (.long x2), .second, .val (.int (((1 : Int32) + (1 : Int32)) + (1 : Int32))), .val (.ref a108), .val (.ref a109), .val (.int (((0 : Int32) + (1 : Int32)) + (1 : Int32)))] [(.long x2), (.int (((0 : Int32) + (1 : Int32)) + (1 : Int32))), (.ref a109)])) rfl rfl (hb hby d1_117)
        obtain ⟨L122, X122, M122⟩ := own_hide X122 (Fr.snoc X122 M120 ge109)
        have Z122 : n0 ≤ h122.size := (by rw [Wr.size W122]; exact Z120)
        have KP122 : Keep h0 h122 [] := KP120.wr W122 (Or.inr lb109)
        refine own_by st122 ?_
        show own_Go p e below _ (T122.setTop (mkF m 118 #[.val (.int v0), .val (.int v1), .val (.int v2), .val (.long x0), .second, .val (.long x1), .second, .val (.long x2), .second, .val (.int (((1 : Int32) + (1 : Int32)) + (1 : Int32))), .val (.ref a108), .val (.ref a109), .val (.int (((0 : Int32) + (1 : Int32)) + (1 : Int32)))] []))
        refine own_by (fun _ kont => XT.iincV X122.here hx rfl (1 : Int32) (hb hby d1_118) rfl rfl (l' := #[.val (.int v0), .val (.int v1), .val (.int v2), .val (.long x0), .second, .val (.long x1), .second, .val (.long x2), .second, .val (.int (((1 : Int32) + (1 : Int32)) + (1 : Int32))), .val (.ref a108), .val (.ref a109), .val (.int ((((0 : Int32) + (1 : Int32)) + (1 : Int32)) + (1 : Int32)))]) rfl kont) ?_
        show own_Go p e below _ (T122.setTop (mkF m 121 #[.val (.int v0), .val (.int v1), .val (.int v2), .val (.long x0), .second, .val (.long x1), .second, .val (.long x2), .second, .val (.int (((1 : Int32) + (1 : Int32)) + (1 : Int32))), .val (.ref a108), .val (.ref a109), .val (.int ((((0 : Int32) + (1 : Int32)) + (1 : Int32)) + (1 : Int32)))] []))
        obtain ⟨T123, h123, X123, e123, E123, A123, D123, -, st123⟩ := newO X122 hx hZ hown (hw _ (List.mem_of_getElem? (i := 8) rfl)) (hw _ (List.mem_of_getElem? (i := 9) rfl)) (hw _ (List.mem_of_getElem? (i := 10) rfl)) e122 (g := (mkF m 121 #[.val (.int v0), .val (.int v1), .val (.int v2), .val (.long x0), .second, .val (.long x1), .second, .val (.long x2), .second, .val (.int (((1 : Int32) + (1 : Int32)) + (1 : Int32))), .val (.ref a108), .val (.ref a109), .val (.int ((((0 : Int32) + (1 : Int32)) + (1 : Int32)) + (1 : Int32)))] [])) rfl (hb hby d1_121) (by decide) (by decide)
        obtain ⟨a123, g123⟩ : ∃ z, z = h122.size := ⟨_, rfl⟩
        rw [← g123] at A123 D123 st123
        have F124 : own_IA Z h122 a108 3 (fun i => if i = 2 then v2 else (fun i => if i = 1 then v1 else (fun i => if i = 0 then v0 else (fun _ => 0) i) i) i) := (own_IA_other H120 W122 ne110)
        have ne125 : a108 ≠ a123 := by rw [g123]; exact Nat.ne_of_lt (own_IA_lt F124)
        have ne126 : a109 ≠ a123 := by rw [g123]; exact Nat.ne_of_lt (own_LA_lt H122)
        have ge123 : n0 ≤ a123 := by rw [g123]; exact Z122
        have lb123 : h0.size ≤ a123 := by rw [g123]; exact KP122.1
        have Z123 : n0 ≤ h123.size := Nat.le_trans Z122 E123.1
        have KP123 : Keep h0 h123 [] := KP122.ext E123
        have F127 : Fld Z h123 a123 "com/example/conjecta/conjecta/model/Values" "variables" "[I" .null := D123 (Or.inr (hw _ (List.mem_of_getElem? (i := 18) rfl))) (ty := (.array .int)) (by decide)
        have F128 : Fld Z h123 a123 "com/example/conjecta/conjecta/model/Values" "values" "[J" .null := D123 (Or.inr (hw _ (List.mem_of_getElem? (i := 20) rfl))) (ty := (.array .long)) (by decide)
        refine own_by st123 ?_
        show own_Go p e below _ (T123.setTop (mkF m 124 #[.val (.int v0), .val (.int v1), .val (.int v2), .val (.long x0), .second, .val (.long x1), .second, .val (.long x2), .second, .val (.int (((1 : Int32) + (1 : Int32)) + (1 : Int32))), .val (.ref a108), .val (.ref a109), .val (.int ((((0 : Int32) + (1 : Int32)) + (1 : Int32)) + (1 : Int32)))] [(.ref a123)]))
        refine own_by (fun _ kont => XS.dup X123.here hx rfl (hb hby d1_124) rfl rfl kont) ?_
        show own_Go p e below _ (T123.setTop (mkF m 125 #[.val (.int v0), .val (.int v1), .val (.int v2), .val (.long x0), .second, .val (.long x1), .second, .val (.long x2), .second, .val (.int (((1 : Int32) + (1 : Int32)) + (1 : Int32))), .val (.ref a108), .val (.ref a109), .val (.int ((((0 : Int32) + (1 : Int32)) + (1 : Int32)) + (1 : Int32)))] [(.ref a123), (.ref a123)]))
        refine own_by (fun _ kont => XS.aload X123.here hx rfl (hb hby d1_125) rfl rfl kont) ?_
        show own_Go p e below _ (T123.setTop (mkF m 127 #[.val (.int v0), .val (.int v1), .val (.int v2), .val (.long x0), .second, .val (.long x1), .second, .val (.long x2), .second, .val (.int (((1 : Int32) + (1 : Int32)) + (1 : Int32))), .val (.ref a108), .val (.ref a109), .val (.int ((((0 : Int32) + (1 : Int32)) + (1 : Int32)) + (1 : Int32)))] [(.ref a108), (.ref a123), (.ref a123)]))
        refine own_by (fun _ kont => XS.aload X123.here hx rfl (hb hby d1_127) rfl rfl kont) ?_
        show own_Go p e below _ (T123.setTop (mkF m 129 #[.val (.int v0), .val (.int v1), .val (.int v2), .val (.long x0), .second, .val (.long x1), .second, .val (.long x2), .second, .val (.int (((1 : Int32) + (1 : Int32)) + (1 : Int32))), .val (.ref a108), .val (.ref a109), .val (.int ((((0 : Int32) + (1 : Int32)) + (1 : Int32)) + (1 : Int32)))] [(.ref a109), (.ref a108), (.ref a123), (.ref a123)]))
        obtain ⟨_, _, ⟨T129, L129, k129, n129⟩, -, X129, ⟨Lc129, hQ129, l129, y129, z129⟩, st129⟩ := X123.specialBack hx (y := (⟨"com/example/conjecta/conjecta/model/Values", "<init>", "([I[J)V"⟩ : MethodName)) rfl hown (mvT hZ (hw _ (List.mem_of_getElem? (i := 11) rfl))) (mvT hZ (hw _ (List.mem_of_getElem? (i := 12) rfl))) (mvT hZ (hw _ (List.mem_of_getElem? (i := 13) rfl))) (by decide) (backOf (W := 1) (rmI l Z a0 hw [] a123 a108 a109 h123 n0 A123 F127 F128 ge123) hZ (hw _ (List.mem_of_getElem? (i := 13) rfl)) (hw _ (List.mem_of_getElem? (i := 10) rfl)) (by decide) (by decide)) (g := (mkF m 129 #[.val (.int v0), .val (.int v1), .val (.int v2), .val (.long x0), .second, .val (.long x1), .second, .val (.long x2), .second, .val (.int (((1 : Int32) + (1 : Int32)) + (1 : Int32))), .val (.ref a108), .val (.ref a109), .val (.int ((((0 : Int32) + (1 : Int32)) + (1 : Int32)) + (1 : Int32)))] [(.ref a109), (.ref a108), (.ref a123), (.ref a123)])) rfl (by rw [hml]; rfl) (Steps.refl _) (a := a123) (argsL := [(.ref a108), (.ref a109)]) (rest := [(.ref a123)]) (lenOf own_pd3 rfl) rfl (by show 2 * 0 + _ ≤ _; exact Nat.le_of_eq rfl) (hb hby d1_129) (fun _ _ => ⟨rfl, e123, (by decide : 3 + 0 ≤ _), (by decide : 8 + 0 ≤ _)⟩)
        dsimp only [Pt.U, Pt.locs, Pt.cells, Pt.slots] at X129 l129 y129 z129 st129 hQ129
        subst l129 y129 z129
        refine own_tr st129 ?_
        obtain ⟨rfl, N129, K129, E129, F129, G129⟩ := hQ129
        obtain ⟨L129, X129, M129⟩ := own_hide X129 (Fr.app M122 N129)
        obtain ⟨h129, e129⟩ : ∃ h, T129.heap = h := ⟨_, rfl⟩
        rw [e129] at K129 E129 F129 G129
        have Z129 : n0 ≤ h129.size := Nat.le_trans Z123 K129.1
        have KP129 : Keep h0 h129 [] := KP123.trans K129 (fun x hx => by cases List.mem_singleton.mp hx; exact Or.inr lb123)
        show own_Go p e below _ (T129.setTop (mkF m 132 #[.val (.int v0), .val (.int v1), .val (.int v2), .val (.long x0), .second, .val (.long x1), .second, .val (.long x2), .second, .val (.int (((1 : Int32) + (1 : Int32)) + (1 : Int32))), .val (.ref a108), .val (.ref a109), .val (.int ((((0 : Int32) + (1 : Int32)) + (1 : Int32)) + (1 : Int32)))] [(.ref a123)]))
        have F130 : own_IA Z h129 a108 3 (fun i => if i = 2 then v2 else (fun i => if i = 1 then v1 else (fun i => if i = 0 then v0 else (fun _ => 0) i) i) i) := (own_IA_keep (own_IA_ext F124 E123) K129 (ninS ne125 nin0))
        have F131 : own_LA Z h129 a109 3 (fun i => if i = 2 then x2 else (fun i => if i = 1 then x1 else (fun i => if i = 0 then x0 else (fun _ => 0) i) i) i) := (own_LA_keep (own_LA_ext H122 E123) K129 (ninS ne126 nin0))
        have hl : own_lst v0 v1 v2 x0 x1 x2 = [(v0, x0), (v1, x1), (v2, x2)] := by simp only [own_lst, c0, c1, c2, if_true, if_false, List.nil_append, List.cons_append, List.append_nil]
        refine own_ret X129 hx hlk hret rfl (Or.inr (Or.inr (Or.inr (Or.inr ⟨rfl, rfl, rfl⟩)))) (hb hby d1_132) ⟨a123, rfl, M129, ?_⟩ (by decide) (by decide)
        rw [e129, hl]
        refine ⟨KP129, a108, a109, E129, F129, G129, own_IA_congr F130 ?_, own_LA_congr F131 ?_⟩
        · intro i hi
          match i, hi with
          | 0, _ => rfl
          | 1, _ => rfl
          | 2, _ => rfl
          | k + 3, hk => exact absurd hk (by simp only [List.length_cons, List.length_nil]; omega)
        · intro i hi
          match i, hi with
          | 0, _ => rfl
          | 1, _ => rfl
          | 2, _ => rfl
          | k + 3, hk => exact absurd hk (by simp only [List.length_cons, List.length_nil]; omega)
      · refine own_by (fun _ kont => XT.lloadN X0.here hx rfl (hb hby d1_0) rfl kont) ?_
        show own_Go p e below _ (s₁.setTop (mkF m 1 #[.val (.int v0), .val (.int v1), .val (.int v2), .val (.long x0), .second, .val (.long x1), .second, .val (.long x2), .second, .unset, .unset, .unset, .unset] [(.long x0)]))
        refine own_by (fun _ kont => XT.lconstV X0.here hx rfl (0 : Int64) (hb hby d1_1) rfl kont) ?_
        show own_Go p e below _ (s₁.setTop (mkF m 2 #[.val (.int v0), .val (.int v1), .val (.int v2), .val (.long x0), .second, .val (.long x1), .second, .val (.long x2), .second, .unset, .unset, .unset, .unset] [(.long (0 : Int64)), (.long x0)]))
        refine own_by (fun _ kont => XT.lcmp X0.here hx rfl (hb hby d1_2) rfl kont) ?_
        show own_Go p e below _ (s₁.setTop (mkF m 3 #[.val (.int v0), .val (.int v1), .val (.int v2), .val (.long x0), .second, .val (.long x1), .second, .val (.long x2), .second, .unset, .unset, .unset, .unset] [(.int (XT.cmpL x0 (0 : Int64)))]))
        refine own_by (fun _ kont => XS.ifNo X0.here hx rfl (hb hby d1_3) rfl (XT.ll_le_f c0) kont) ?_
        show own_Go p e below _ (s₁.setTop (mkF m 6 #[.val (.int v0), .val (.int v1), .val (.int v2), .val (.long x0), .second, .val (.long x1), .second, .val (.long x2), .second, .unset, .unset, .unset, .unset] []))
        refine own_by (fun _ kont => XT.iconstV X0.here hx rfl (1 : Int32) (hb hby d1_6) rfl kont) ?_
        show own_Go p e below _ (s₁.setTop (mkF m 7 #[.val (.int v0), .val (.int v1), .val (.int v2), .val (.long x0), .second, .val (.long x1), .second, .val (.long x2), .second, .unset, .unset, .unset, .unset] [(.int (1 : Int32))]))
        refine own_by (fun _ kont => XS.goto X0.here hx rfl (pc0 := 7) (pc' := 11) rfl (hb hby d1_7) (by decide) (by decide) kont) ?_
        show own_Go p e below _ (s₁.setTop (mkF m 11 #[.val (.int v0), .val (.int v1), .val (.int v2), .val (.long x0), .second, .val (.long x1), .second, .val (.long x2), .second, .unset, .unset, .unset, .unset] [(.int (1 : Int32))]))
        refine own_by (fun _ kont => XT.lload X0.here hx rfl (hb hby d1_11) rfl kont) ?_
        show own_Go p e below _ (s₁.setTop (mkF m 13 #[.val (.int v0), .val (.int v1), .val (.int v2), .val (.long x0), .second, .val (.long x1), .second, .val (.long x2), .second, .unset, .unset, .unset, .unset] [(.long x1), (.int (1 : Int32))]))
        refine own_by (fun _ kont => XT.lconstV X0.here hx rfl (0 : Int64) (hb hby d1_13) rfl kont) ?_
        show own_Go p e below _ (s₁.setTop (mkF m 14 #[.val (.int v0), .val (.int v1), .val (.int v2), .val (.long x0), .second, .val (.long x1), .second, .val (.long x2), .second, .unset, .unset, .unset, .unset] [(.long (0 : Int64)), (.long x1), (.int (1 : Int32))]))
        refine own_by (fun _ kont => XT.lcmp X0.here hx rfl (hb hby d1_14) rfl kont) ?_
        show own_Go p e below _ (s₁.setTop (mkF m 15 #[.val (.int v0), .val (.int v1), .val (.int v2), .val (.long x0), .second, .val (.long x1), .second, .val (.long x2), .second, .unset, .unset, .unset, .unset] [(.int (XT.cmpL x1 (0 : Int64))), (.int (1 : Int32))]))
        refine own_by (fun _ kont => XS.ifNo X0.here hx rfl (hb hby d1_15) rfl (XT.ll_le_f c1) kont) ?_
        show own_Go p e below _ (s₁.setTop (mkF m 18 #[.val (.int v0), .val (.int v1), .val (.int v2), .val (.long x0), .second, .val (.long x1), .second, .val (.long x2), .second, .unset, .unset, .unset, .unset] [(.int (1 : Int32))]))
        refine own_by (fun _ kont => XT.iconstV X0.here hx rfl (1 : Int32) (hb hby d1_18) rfl kont) ?_
        show own_Go p e below _ (s₁.setTop (mkF m 19 #[.val (.int v0), .val (.int v1), .val (.int v2), .val (.long x0), .second, .val (.long x1), .second, .val (.long x2), .second, .unset, .unset, .unset, .unset] [(.int (1 : Int32)), (.int (1 : Int32))]))
        refine own_by (fun _ kont => XS.goto X0.here hx rfl (pc0 := 19) (pc' := 23) rfl (hb hby d1_19) (by decide) (by decide) kont) ?_
        show own_Go p e below _ (s₁.setTop (mkF m 23 #[.val (.int v0), .val (.int v1), .val (.int v2), .val (.long x0), .second, .val (.long x1), .second, .val (.long x2), .second, .unset, .unset, .unset, .unset] [(.int (1 : Int32)), (.int (1 : Int32))]))
        refine own_by (fun _ kont => XS.iadd X0.here hx rfl (hb hby d1_23) rfl kont) ?_
        show own_Go p e below _ (s₁.setTop (mkF m 24 #[.val (.int v0), .val (.int v1), .val (.int v2), .val (.long x0), .second, .val (.long x1), .second, .val (.long x2), .second, .unset, .unset, .unset, .unset] [(.int ((1 : Int32) + (1 : Int32)))]))
        refine own_by (fun _ kont => XT.lload X0.here hx rfl (hb hby d1_24) rfl kont) ?_
        show own_Go p e below _ (s₁.setTop (mkF m 26 #[.val (.int v0), .val (.int v1), .val (.int v2), .val (.long x0), .second, .val (.long x1), .second, .val (.long x2), .second, .unset, .unset, .unset, .unset] [(.long x2), (.int ((1 : Int32) + (1 : Int32)))]))
        refine own_by (fun _ kont => XT.lconstV X0.here hx rfl (0 : Int64) (hb hby d1_26) rfl kont) ?_
        show own_Go p e below _ (s₁.setTop (mkF m 27 #[.val (.int v0), .val (.int v1), .val (.int v2), .val (.long x0), .second, .val (.long x1), .second, .val (.long x2), .second, .unset, .unset, .unset, .unset] [(.long (0 : Int64)), (.long x2), (.int ((1 : Int32) + (1 : Int32)))]))
        refine own_by (fun _ kont => XT.lcmp X0.here hx rfl (hb hby d1_27) rfl kont) ?_
        show own_Go p e below _ (s₁.setTop (mkF m 28 #[.val (.int v0), .val (.int v1), .val (.int v2), .val (.long x0), .second, .val (.long x1), .second, .val (.long x2), .second, .unset, .unset, .unset, .unset] [(.int (XT.cmpL x2 (0 : Int64))), (.int ((1 : Int32) + (1 : Int32)))]))
        refine own_by (fun _ kont => XS.ifYes X0.here hx rfl (pc0 := 28) (pc' := 35) rfl (hb hby d1_28) rfl (XT.ll_le_t c2) (by decide) (by decide) kont) ?_
        show own_Go p e below _ (s₁.setTop (mkF m 35 #[.val (.int v0), .val (.int v1), .val (.int v2), .val (.long x0), .second, .val (.long x1), .second, .val (.long x2), .second, .unset, .unset, .unset, .unset] [(.int ((1 : Int32) + (1 : Int32)))]))
        refine own_by (fun _ kont => XT.iconstV X0.here hx rfl (0 : Int32) (hb hby d1_35) rfl kont) ?_
        show own_Go p e below _ (s₁.setTop (mkF m 36 #[.val (.int v0), .val (.int v1), .val (.int v2), .val (.long x0), .second, .val (.long x1), .second, .val (.long x2), .second, .unset, .unset, .unset, .unset] [(.int (0 : Int32)), (.int ((1 : Int32) + (1 : Int32)))]))
        refine own_by (fun _ kont => XS.iadd X0.here hx rfl (hb hby d1_36) rfl kont) ?_
        show own_Go p e below _ (s₁.setTop (mkF m 37 #[.val (.int v0), .val (.int v1), .val (.int v2), .val (.long x0), .second, .val (.long x1), .second, .val (.long x2), .second, .unset, .unset, .unset, .unset] [(.int (((1 : Int32) + (1 : Int32)) + (0 : Int32)))]))
        refine own_by (fun _ kont => XS.istore X0.here hx rfl (hb hby d1_37) rfl (l' := #[.val (.int v0), .val (.int v1), .val (.int v2), .val (.long x0), .second, .val (.long x1), .second, .val (.long x2), .second, .val (.int (((1 : Int32) + (1 : Int32)) + (0 : Int32))), .unset, .unset, .unset]) rfl kont) ?_
        show own_Go p e below _ (s₁.setTop (mkF m 39 #[.val (.int v0), .val (.int v1), .val (.int v2), .val (.long x0), .second, .val (.long x1), .second, .val (.long x2), .second, .val (.int (((1 : Int32) + (1 : Int32)) + (0 : Int32))), .unset, .unset, .unset] []))
        refine own_by (fun _ kont => XS.iload X0.here hx rfl (hb hby d1_39) rfl kont) ?_
        show own_Go p e below _ (s₁.setTop (mkF m 41 #[.val (.int v0), .val (.int v1), .val (.int v2), .val (.long x0), .second, .val (.long x1), .second, .val (.long x2), .second, .val (.int (((1 : Int32) + (1 : Int32)) + (0 : Int32))), .unset, .unset, .unset] [(.int (((1 : Int32) + (1 : Int32)) + (0 : Int32)))]))
        obtain ⟨T132, h132, a132, X132, e132, g132, E132, H132, st132⟩ := own_newIA X0 hx hZ (hw _ (List.mem_of_getElem? (i := 6) rfl)) e0 (g := (mkF m 41 #[.val (.int v0), .val (.int v1), .val (.int v2), .val (.long x0), .second, .val (.long x1), .second, .val (.long x2), .second, .val (.int (((1 : Int32) + (1 : Int32)) + (0 : Int32))), .unset, .unset, .unset] [(.int (((1 : Int32) + (1 : Int32)) + (0 : Int32)))])) rfl (hb hby d1_41) rfl 2 (by decide) (cap := 2) (by decide) (by decide) (by decide) (by decide)
        have ge132 : n0 ≤ a132 := by rw [g132]; exact Z0
        have lb132 : h0.size ≤ a132 := by rw [g132]; exact KP0.1
        have Z132 : n0 ≤ h132.size := Nat.le_trans Z0 E132.1
        have KP132 : Keep h0 h132 [] := KP0.ext E132
        refine own_by st132 ?_
        show own_Go p e below _ (T132.setTop (mkF m 43 #[.val (.int v0), .val (.int v1), .val (.int v2), .val (.long x0), .second, .val (.long x1), .second, .val (.long x2), .second, .val (.int (((1 : Int32) + (1 : Int32)) + (0 : Int32))), .unset, .unset, .unset] [(.ref a132)]))
        refine own_by (fun _ kont => XS.astore X132.here hx rfl (hb hby d1_43) rfl rfl (l' := #[.val (.int v0), .val (.int v1), .val (.int v2), .val (.long x0), .second, .val (.long x1), .second, .val (.long x2), .second, .val (.int (((1 : Int32) + (1 : Int32)) + (0 : Int32))), .val (.ref a132), .unset, .unset]) rfl kont) ?_
        show own_Go p e below _ (T132.setTop (mkF m 45 #[.val (.int v0), .val (.int v1), .val (.int v2), .val (.long x0), .second, .val (.long x1), .second, .val (.long x2), .second, .val (.int (((1 : Int32) + (1 : Int32)) + (0 : Int32))), .val (.ref a132), .unset, .unset] []))
        refine own_by (fun _ kont => XS.iload X132.here hx rfl (hb hby d1_45) rfl kont) ?_
        show own_Go p e below _ (T132.setTop (mkF m 47 #[.val (.int v0), .val (.int v1), .val (.int v2), .val (.long x0), .second, .val (.long x1), .second, .val (.long x2), .second, .val (.int (((1 : Int32) + (1 : Int32)) + (0 : Int32))), .val (.ref a132), .unset, .unset] [(.int (((1 : Int32) + (1 : Int32)) + (0 : Int32)))]))
        obtain ⟨T133, h133, a133, X133, e133, g133, E133, H133, st133⟩ := own_newLA X132 hx hZ (hw _ (List.mem_of_getElem? (i := 7) rfl)) e132 (g := (mkF m 47 #[.val (.int v0), .val (.int v1), .val (.int v2), .val (.long x0), .second, .val (.long x1), .second, .val (.long x2), .second, .val (.int (((1 : Int32) + (1 : Int32)) + (0 : Int32))), .val (.ref a132), .unset, .unset] [(.int (((1 : Int32) + (1 : Int32)) + (0 : Int32)))])) rfl (hb hby d1_47) rfl 2 (by decide) (cap := 2) (by decide) (by decide) (by decide) (by decide)
        have ne134 : a132 ≠ a133 := by rw [g133]; exact Nat.ne_of_lt (own_IA_lt H132)
        have ge133 : n0 ≤ a133 := by rw [g133]; exact Z132
        have lb133 : h0.size ≤ a133 := by rw [g133]; exact KP132.1
        have Z133 : n0 ≤ h133.size := Nat.le_trans Z132 E133.1
        have KP133 : Keep h0 h133 [] := KP132.ext E133
        refine own_by st133 ?_
        show own_Go p e below _ (T133.setTop (mkF m 49 #[.val (.int v0), .val (.int v1), .val (.int v2), .val (.long x0), .second, .val (.long x1), .second, .val (.long x2), .second, .val (.int (((1 : Int32) + (1 : Int32)) + (0 : Int32))), .val (.ref a132), .unset, .unset] [(.ref a133)]))
        refine own_by (fun _ kont => XS.astore X133.here hx rfl (hb hby d1_49) rfl rfl (l' := #[.val (.int v0), .val (.int v1), .val (.int v2), .val (.long x0), .second, .val (.long x1), .second, .val (.long x2), .second, .val (.int (((1 : Int32) + (1 : Int32)) + (0 : Int32))), .val (.ref a132), .val (.ref a133), .unset]) rfl kont) ?_
        show own_Go p e below _ (T133.setTop (mkF m 51 #[.val (.int v0), .val (.int v1), .val (.int v2), .val (.long x0), .second, .val (.long x1), .second, .val (.long x2), .second, .val (.int (((1 : Int32) + (1 : Int32)) + (0 : Int32))), .val (.ref a132), .val (.ref a133), .unset] []))
        refine own_by (fun _ kont => XT.iconstV X133.here hx rfl (0 : Int32) (hb hby d1_51) rfl kont) ?_
        show own_Go p e below _ (T133.setTop (mkF m 52 #[.val (.int v0), .val (.int v1), .val (.int v2), .val (.long x0), .second, .val (.long x1), .second, .val (.long x2), .second, .val (.int (((1 : Int32) + (1 : Int32)) + (0 : Int32))), .val (.ref a132), .val (.ref a133), .unset] [(.int (0 : Int32))]))
        refine own_by (fun _ kont => XS.istore X133.here hx rfl (hb hby d1_52) rfl (l' := #[.val (.int v0), .val (.int v1), .val (.int v2), .val (.long x0), .second, .val (.long x1), .second, .val (.long x2), .second, .val (.int (((1 : Int32) + (1 : Int32)) + (0 : Int32))), .val (.ref a132), .val (.ref a133), .val (.int (0 : Int32))]) rfl kont) ?_
        show own_Go p e below _ (T133.setTop (mkF m 54 #[.val (.int v0), .val (.int v1), .val (.int v2), .val (.long x0), .second, .val (.long x1), .second, .val (.long x2), .second, .val (.int (((1 : Int32) + (1 : Int32)) + (0 : Int32))), .val (.ref a132), .val (.ref a133), .val (.int (0 : Int32))] []))
        refine own_by (fun _ kont => XT.lloadN X133.here hx rfl (hb hby d1_54) rfl kont) ?_
        show own_Go p e below _ (T133.setTop (mkF m 55 #[.val (.int v0), .val (.int v1), .val (.int v2), .val (.long x0), .second, .val (.long x1), .second, .val (.long x2), .second, .val (.int (((1 : Int32) + (1 : Int32)) + (0 : Int32))), .val (.ref a132), .val (.ref a133), .val (.int (0 : Int32))] [(.long x0)]))
        refine own_by (fun _ kont => XT.lconstV X133.here hx rfl (0 : Int64) (hb hby d1_55) rfl kont) ?_
        show own_Go p e below _ (T133.setTop (mkF m 56 #[.val (.int v0), .val (.int v1), .val (.int v2), .val (.long x0), .second, .val (.long x1), .second, .val (.long x2), .second, .val (.int (((1 : Int32) + (1 : Int32)) + (0 : Int32))), .val (.ref a132), .val (.ref a133), .val (.int (0 : Int32))] [(.long (0 : Int64)), (.long x0)]))
        refine own_by (fun _ kont => XT.lcmp X133.here hx rfl (hb hby d1_56) rfl kont) ?_
        show own_Go p e below _ (T133.setTop (mkF m 57 #[.val (.int v0), .val (.int v1), .val (.int v2), .val (.long x0), .second, .val (.long x1), .second, .val (.long x2), .second, .val (.int (((1 : Int32) + (1 : Int32)) + (0 : Int32))), .val (.ref a132), .val (.ref a133), .val (.int (0 : Int32))] [(.int (XT.cmpL x0 (0 : Int64)))]))
        refine own_by (fun _ kont => XS.ifNo X133.here hx rfl (hb hby d1_57) rfl (XT.ll_le_f c0) kont) ?_
        show own_Go p e below _ (T133.setTop (mkF m 60 #[.val (.int v0), .val (.int v1), .val (.int v2), .val (.long x0), .second, .val (.long x1), .second, .val (.long x2), .second, .val (.int (((1 : Int32) + (1 : Int32)) + (0 : Int32))), .val (.ref a132), .val (.ref a133), .val (.int (0 : Int32))] []))
        refine own_by (fun _ kont => XS.aload X133.here hx rfl (hb hby d1_60) rfl rfl kont) ?_
        show own_Go p e below _ (T133.setTop (mkF m 62 #[.val (.int v0), .val (.int v1), .val (.int v2), .val (.long x0), .second, .val (.long x1), .second, .val (.long x2), .second, .val (.int (((1 : Int32) + (1 : Int32)) + (0 : Int32))), .val (.ref a132), .val (.ref a133), .val (.int (0 : Int32))] [(.ref a132)]))
        refine own_by (fun _ kont => XS.iload X133.here hx rfl (hb hby d1_62) rfl kont) ?_
        show own_Go p e below _ (T133.setTop (mkF m 64 #[.val (.int v0), .val (.int v1), .val (.int v2), .val (.long x0), .second, .val (.long x1), .second, .val (.long x2), .second, .val (.int (((1 : Int32) + (1 : Int32)) + (0 : Int32))), .val (.ref a132), .val (.ref a133), .val (.int (0 : Int32))] [(.int (0 : Int32)), (.ref a132)]))
        refine own_by (fun _ kont => XS.iloadN X133.here hx rfl (hb hby d1_64) rfl kont) ?_
        show own_Go p e below _ (T133.setTop (mkF m 65 #[.val (.int v0), .val (.int v1), .val (.int v2), .val (.long x0), .second, .val (.long x1), .second, .val (.long x2), .second, .val (.int (((1 : Int32) + (1 : Int32)) + (0 : Int32))), .val (.ref a132), .val (.ref a133), .val (.int (0 : Int32))] [(.int v0), (.int (0 : Int32)), (.ref a132)]))
        have F135 : own_IA Z h133 a132 2 (fun _ => 0) := (own_IA_ext H132 E133)
        obtain ⟨T136, h136, X136, e136, W136, H136, st136⟩ := own_stN X133 hx hZ e133 F135 (j := (0 : Int32)) 0 (by decide) (by decide) (g := (mkF m 65 #[.val (.int v0), .val (.int v1), .val (.int v2), .val (.long x0), .second, .val (.long x1), .second, .val (.long x2), .second, .val (.int (((1 : Int32) + (1 : Int32)) + (0 : Int32))), .val (.ref a132), .val (.ref a133), .val (.int (0 : Int32))] [(.int v0), (.int (0 : Int32)), (.ref a132)])) rfl rfl (hb hby d1_65)
        obtain ⟨L136, X136, M136⟩ := own_hide X136 (Fr.snoc X136 N0 ge132)
        have Z136 : n0 ≤ h136.size := (by rw [Wr.size W136]; exact Z133)
        have KP136 : Keep h0 h136 [] := KP133.wr W136 (Or.inr lb132)
        refine own_by st136 ?_
        show own_Go p e below _ (T136.setTop (mkF m 66 #[.val (.int v0), .val (.int v1), .val (.int v2), .val (.long x0), .second, .val (.long x1), .second, .val (.long x2), .second, .val (.int (((1 : Int32) + (1 : Int32)) + (0 : Int32))), .val (.ref a132), .val (.ref a133), .val (.int (0 : Int32))] []))
        refine own_by (fun _ kont => XS.aload X136.here hx rfl (hb hby d1_66) rfl rfl kont) ?_
        show own_Go p e below _ (T136.setTop (mkF m 68 #[.val (.int v0), .val (.int v1), .val (.int v2), .val (.long x0), .second, .val (.long x1), .second, .val (.long x2), .second, .val (.int (((1 : Int32) + (1 : Int32)) + (0 : Int32))), .val (.ref a132), .val (.ref a133), .val (.int (0 : Int32))] [(.ref a133)]))
        refine own_by (fun _ kont => XS.iload X136.here hx rfl (hb hby d1_68) rfl kont) ?_
        show own_Go p e below _ (T136.setTop (mkF m 70 #[.val (.int v0), .val (.int v1), .val (.int v2), .val (.long x0), .second, .val (.long x1), .second, .val (.long x2), .second, .val (.int (((1 : Int32) + (1 : Int32)) + (0 : Int32))), .val (.ref a132), .val (.ref a133), .val (.int (0 : Int32))] [(.int (0 : Int32)), (.ref a133)]))
        refine own_by (fun _ kont => XT.lloadN X136.here hx rfl (hb hby d1_70) rfl kont) ?_
        show own_Go p e below _ (T136.setTop (mkF m 71 #[.val (.int v0), .val (.int v1), .val (.int v2), .val (.long x0), .second, .val (.long x1), .second, .val (.long x2), .second, .val (.int (((1 : Int32) + (1 : Int32)) + (0 : Int32))), .val (.ref a132), .val (.ref a133), .val (.int (0 : Int32))] [(.long x0), (.int (0 : Int32)), (.ref a133)]))
        have F137 : own_LA Z h136 a133 2 (fun _ => 0) := (own_LA_other H133 W136 (Ne.symm ne134))
        obtain ⟨T138, h138, X138, e138, W138, H138, st138⟩ := own_stL X136 hx hZ e136 F137 (j := (0 : Int32)) 0 (by decide) (by decide) (g := (mkF m 71 #[.val (.int v0), .val (.int v1), .val (.int v2), .val (.long x0), .second, .val (.long x1), .second, .val (.long x2), .second, .val (.int (((1 : Int32) + (1 : Int32)) + (0 : Int32))), .val (.ref a132), .val (.ref a133), .val (.int (0 : Int32))] [(.long x0), (.int (0 : Int32)), (.ref a133)])) rfl rfl (hb hby d1_71)
        obtain ⟨L138, X138, M138⟩ := own_hide X138 (Fr.snoc X138 M136 ge133)
        have Z138 : n0 ≤ h138.size := (by rw [Wr.size W138]; exact Z136)
        have KP138 : Keep h0 h138 [] := KP136.wr W138 (Or.inr lb133)
        refine own_by st138 ?_
        show own_Go p e below _ (T138.setTop (mkF m 72 #[.val (.int v0), .val (.int v1), .val (.int v2), .val (.long x0), .second, .val (.long x1), .second, .val (.long x2), .second, .val (.int (((1 : Int32) + (1 : Int32)) + (0 : Int32))), .val (.ref a132), .val (.ref a133), .val (.int (0 : Int32))] []))
        refine own_by (fun _ kont => XT.iincV X138.here hx rfl (1 : Int32) (hb hby d1_72) rfl rfl (l' := #[.val (.int v0), .val (.int v1), .val (.int v2), .val (.long x0), .second, .val (.long x1), .second, .val (.long x2), .second, .val (.int (((1 : Int32) + (1 : Int32)) + (0 : Int32))), .val (.ref a132), .val (.ref a133), .val (.int ((0 : Int32) + (1 : Int32)))]) rfl kont) ?_
        show own_Go p e below _ (T138.setTop (mkF m 75 #[.val (.int v0), .val (.int v1), .val (.int v2), .val (.long x0), .second, .val (.long x1), .second, .val (.long x2), .second, .val (.int (((1 : Int32) + (1 : Int32)) + (0 : Int32))), .val (.ref a132), .val (.ref a133), .val (.int ((0 : Int32) + (1 : Int32)))] []))
        refine own_by (fun _ kont => XT.lload X138.here hx rfl (hb hby d1_75) rfl kont) ?_
        show own_Go p e below _ (T138.setTop (mkF m 77 #[.val (.int v0), .val (.int v1), .val (.int v2), .val (.long x0), .second, .val (.long x1), .second, .val (.long x2), .second, .val (.int (((1 : Int32) + (1 : Int32)) + (0 : Int32))), .val (.ref a132), .val (.ref a133), .val (.int ((0 : Int32) + (1 : Int32)))] [(.long x1)]))
        refine own_by (fun _ kont => XT.lconstV X138.here hx rfl (0 : Int64) (hb hby d1_77) rfl kont) ?_
        show own_Go p e below _ (T138.setTop (mkF m 78 #[.val (.int v0), .val (.int v1), .val (.int v2), .val (.long x0), .second, .val (.long x1), .second, .val (.long x2), .second, .val (.int (((1 : Int32) + (1 : Int32)) + (0 : Int32))), .val (.ref a132), .val (.ref a133), .val (.int ((0 : Int32) + (1 : Int32)))] [(.long (0 : Int64)), (.long x1)]))
        refine own_by (fun _ kont => XT.lcmp X138.here hx rfl (hb hby d1_78) rfl kont) ?_
        show own_Go p e below _ (T138.setTop (mkF m 79 #[.val (.int v0), .val (.int v1), .val (.int v2), .val (.long x0), .second, .val (.long x1), .second, .val (.long x2), .second, .val (.int (((1 : Int32) + (1 : Int32)) + (0 : Int32))), .val (.ref a132), .val (.ref a133), .val (.int ((0 : Int32) + (1 : Int32)))] [(.int (XT.cmpL x1 (0 : Int64)))]))
        refine own_by (fun _ kont => XS.ifNo X138.here hx rfl (hb hby d1_79) rfl (XT.ll_le_f c1) kont) ?_
        show own_Go p e below _ (T138.setTop (mkF m 82 #[.val (.int v0), .val (.int v1), .val (.int v2), .val (.long x0), .second, .val (.long x1), .second, .val (.long x2), .second, .val (.int (((1 : Int32) + (1 : Int32)) + (0 : Int32))), .val (.ref a132), .val (.ref a133), .val (.int ((0 : Int32) + (1 : Int32)))] []))
        refine own_by (fun _ kont => XS.aload X138.here hx rfl (hb hby d1_82) rfl rfl kont) ?_
        show own_Go p e below _ (T138.setTop (mkF m 84 #[.val (.int v0), .val (.int v1), .val (.int v2), .val (.long x0), .second, .val (.long x1), .second, .val (.long x2), .second, .val (.int (((1 : Int32) + (1 : Int32)) + (0 : Int32))), .val (.ref a132), .val (.ref a133), .val (.int ((0 : Int32) + (1 : Int32)))] [(.ref a132)]))
        refine own_by (fun _ kont => XS.iload X138.here hx rfl (hb hby d1_84) rfl kont) ?_
        show own_Go p e below _ (T138.setTop (mkF m 86 #[.val (.int v0), .val (.int v1), .val (.int v2), .val (.long x0), .second, .val (.long x1), .second, .val (.long x2), .second, .val (.int (((1 : Int32) + (1 : Int32)) + (0 : Int32))), .val (.ref a132), .val (.ref a133), .val (.int ((0 : Int32) + (1 : Int32)))] [(.int ((0 : Int32) + (1 : Int32))), (.ref a132)]))
        refine own_by (fun _ kont => XS.iloadN X138.here hx rfl (hb hby d1_86) rfl kont) ?_
        show own_Go p e below _ (T138.setTop (mkF m 87 #[.val (.int v0), .val (.int v1), .val (.int v2), .val (.long x0), .second, .val (.long x1), .second, .val (.long x2), .second, .val (.int (((1 : Int32) + (1 : Int32)) + (0 : Int32))), .val (.ref a132), .val (.ref a133), .val (.int ((0 : Int32) + (1 : Int32)))] [(.int v1), (.int ((0 : Int32) + (1 : Int32))), (.ref a132)]))
        have F139 : own_IA Z h138 a132 2 (fun i => if i = 0 then v0 else (fun _ => 0) i) := (own_IA_other H136 W138 ne134)
        obtain ⟨T140, h140, X140, e140, W140, H140, st140⟩ := own_stN X138 hx hZ e138 F139 (j := ((0 : Int32) + (1 : Int32))) 1 (by decide) (by decide) (g := (mkF m 87 #[.val (.int v0), .val (.int v1), .val (.int v2), .val (.long x0), .second, .val (.long x1), .second, .val (.long x2), .second, .val (.int (((1 : Int32) + (1 : Int32)) + (0 : Int32))), .val (.ref a132), .val (.ref a133), .val (.int ((0 : Int32) + (1 : Int32)))] [(.int v1), (.int ((0 : Int32) + (1 : Int32))), (.ref a132)])) rfl rfl (hb hby d1_87)
        obtain ⟨L140, X140, M140⟩ := own_hide X140 (Fr.snoc X140 M138 ge132)
        have Z140 : n0 ≤ h140.size := (by rw [Wr.size W140]; exact Z138)
        have KP140 : Keep h0 h140 [] := KP138.wr W140 (Or.inr lb132)
        refine own_by st140 ?_
        show own_Go p e below _ (T140.setTop (mkF m 88 #[.val (.int v0), .val (.int v1), .val (.int v2), .val (.long x0), .second, .val (.long x1), .second, .val (.long x2), .second, .val (.int (((1 : Int32) + (1 : Int32)) + (0 : Int32))), .val (.ref a132), .val (.ref a133), .val (.int ((0 : Int32) + (1 : Int32)))] []))
        refine own_by (fun _ kont => XS.aload X140.here hx rfl (hb hby d1_88) rfl rfl kont) ?_
        show own_Go p e below _ (T140.setTop (mkF m 90 #[.val (.int v0), .val (.int v1), .val (.int v2), .val (.long x0), .second, .val (.long x1), .second, .val (.long x2), .second, .val (.int (((1 : Int32) + (1 : Int32)) + (0 : Int32))), .val (.ref a132), .val (.ref a133), .val (.int ((0 : Int32) + (1 : Int32)))] [(.ref a133)]))
        refine own_by (fun _ kont => XS.iload X140.here hx rfl (hb hby d1_90) rfl kont) ?_
        show own_Go p e below _ (T140.setTop (mkF m 92 #[.val (.int v0), .val (.int v1), .val (.int v2), .val (.long x0), .second, .val (.long x1), .second, .val (.long x2), .second, .val (.int (((1 : Int32) + (1 : Int32)) + (0 : Int32))), .val (.ref a132), .val (.ref a133), .val (.int ((0 : Int32) + (1 : Int32)))] [(.int ((0 : Int32) + (1 : Int32))), (.ref a133)]))
        refine own_by (fun _ kont => XT.lload X140.here hx rfl (hb hby d1_92) rfl kont) ?_
        show own_Go p e below _ (T140.setTop (mkF m 94 #[.val (.int v0), .val (.int v1), .val (.int v2), .val (.long x0), .second, .val (.long x1), .second, .val (.long x2), .second, .val (.int (((1 : Int32) + (1 : Int32)) + (0 : Int32))), .val (.ref a132), .val (.ref a133), .val (.int ((0 : Int32) + (1 : Int32)))] [(.long x1), (.int ((0 : Int32) + (1 : Int32))), (.ref a133)]))
        have F141 : own_LA Z h140 a133 2 (fun i => if i = 0 then x0 else (fun _ => 0) i) := (own_LA_other H138 W140 (Ne.symm ne134))
        obtain ⟨T142, h142, X142, e142, W142, H142, st142⟩ := own_stL X140 hx hZ e140 F141 (j := ((0 : Int32) + (1 : Int32))) 1 (by decide) (by decide) (g := (mkF m 94 #[.val (.int v0), .val (.int v1), .val (.int v2), .val (.long x0), .second, .val (.long x1), .second, .val (.long x2), .second, .val (.int (((1 : Int32) + (1 : Int32)) + (0 : Int32))), .val (.ref a132), .val (.ref a133), .val (.int ((0 : Int32) + (1 : Int32)))] [(.long x1), (.int ((0 : Int32) + (1 : Int32))), (.ref a133)])) rfl rfl (hb hby d1_94)
        obtain ⟨L142, X142, M142⟩ := own_hide X142 (Fr.snoc X142 M140 ge133)
        have Z142 : n0 ≤ h142.size := (by rw [Wr.size W142]; exact Z140)
        have KP142 : Keep h0 h142 [] := KP140.wr W142 (Or.inr lb133)
        refine own_by st142 ?_
        show own_Go p e below _ (T142.setTop (mkF m 95 #[.val (.int v0), .val (.int v1), .val (.int v2), .val (.long x0), .second, .val (.long x1), .second, .val (.long x2), .second, .val (.int (((1 : Int32) + (1 : Int32)) + (0 : Int32))), .val (.ref a132), .val (.ref a133), .val (.int ((0 : Int32) + (1 : Int32)))] []))
        refine own_by (fun _ kont => XT.iincV X142.here hx rfl (1 : Int32) (hb hby d1_95) rfl rfl (l' := #[.val (.int v0), .val (.int v1), .val (.int v2), .val (.long x0), .second, .val (.long x1), .second, .val (.long x2), .second, .val (.int (((1 : Int32) + (1 : Int32)) + (0 : Int32))), .val (.ref a132), .val (.ref a133), .val (.int (((0 : Int32) + (1 : Int32)) + (1 : Int32)))]) rfl kont) ?_
        show own_Go p e below _ (T142.setTop (mkF m 98 #[.val (.int v0), .val (.int v1), .val (.int v2), .val (.long x0), .second, .val (.long x1), .second, .val (.long x2), .second, .val (.int (((1 : Int32) + (1 : Int32)) + (0 : Int32))), .val (.ref a132), .val (.ref a133), .val (.int (((0 : Int32) + (1 : Int32)) + (1 : Int32)))] []))
        refine own_by (fun _ kont => XT.lload X142.here hx rfl (hb hby d1_98) rfl kont) ?_
        show own_Go p e below _ (T142.setTop (mkF m 100 #[.val (.int v0), .val (.int v1), .val (.int v2), .val (.long x0), .second, .val (.long x1), .second, .val (.long x2), .second, .val (.int (((1 : Int32) + (1 : Int32)) + (0 : Int32))), .val (.ref a132), .val (.ref a133), .val (.int (((0 : Int32) + (1 : Int32)) + (1 : Int32)))] [(.long x2)]))
        refine own_by (fun _ kont => XT.lconstV X142.here hx rfl (0 : Int64) (hb hby d1_100) rfl kont) ?_
        show own_Go p e below _ (T142.setTop (mkF m 101 #[.val (.int v0), .val (.int v1), .val (.int v2), .val (.long x0), .second, .val (.long x1), .second, .val (.long x2), .second, .val (.int (((1 : Int32) + (1 : Int32)) + (0 : Int32))), .val (.ref a132), .val (.ref a133), .val (.int (((0 : Int32) + (1 : Int32)) + (1 : Int32)))] [(.long (0 : Int64)), (.long x2)]))
        refine own_by (fun _ kont => XT.lcmp X142.here hx rfl (hb hby d1_101) rfl kont) ?_
        show own_Go p e below _ (T142.setTop (mkF m 102 #[.val (.int v0), .val (.int v1), .val (.int v2), .val (.long x0), .second, .val (.long x1), .second, .val (.long x2), .second, .val (.int (((1 : Int32) + (1 : Int32)) + (0 : Int32))), .val (.ref a132), .val (.ref a133), .val (.int (((0 : Int32) + (1 : Int32)) + (1 : Int32)))] [(.int (XT.cmpL x2 (0 : Int64)))]))
        refine own_by (fun _ kont => XS.ifYes X142.here hx rfl (pc0 := 102) (pc' := 121) rfl (hb hby d1_102) rfl (XT.ll_le_t c2) (by decide) (by decide) kont) ?_
        show own_Go p e below _ (T142.setTop (mkF m 121 #[.val (.int v0), .val (.int v1), .val (.int v2), .val (.long x0), .second, .val (.long x1), .second, .val (.long x2), .second, .val (.int (((1 : Int32) + (1 : Int32)) + (0 : Int32))), .val (.ref a132), .val (.ref a133), .val (.int (((0 : Int32) + (1 : Int32)) + (1 : Int32)))] []))
        obtain ⟨T143, h143, X143, e143, E143, A143, D143, -, st143⟩ := newO X142 hx hZ hown (hw _ (List.mem_of_getElem? (i := 8) rfl)) (hw _ (List.mem_of_getElem? (i := 9) rfl)) (hw _ (List.mem_of_getElem? (i := 10) rfl)) e142 (g := (mkF m 121 #[.val (.int v0), .val (.int v1), .val (.int v2), .val (.long x0), .second, .val (.long x1), .second, .val (.long x2), .second, .val (.int (((1 : Int32) + (1 : Int32)) + (0 : Int32))), .val (.ref a132), .val (.ref a133), .val (.int (((0 : Int32) + (1 : Int32)) + (1 : Int32)))] [])) rfl (hb hby d1_121) (by decide) (by decide)
        obtain ⟨a143, g143⟩ : ∃ z, z = h142.size := ⟨_, rfl⟩
        rw [← g143] at A143 D143 st143
        have F144 : own_IA Z h142 a132 2 (fun i => if i = 1 then v1 else (fun i => if i = 0 then v0 else (fun _ => 0) i) i) := (own_IA_other H140 W142 ne134)
        have ne145 : a132 ≠ a143 := by rw [g143]; exact Nat.ne_of_lt (own_IA_lt F144)
        have ne146 : a133 ≠ a143 := by rw [g143]; exact Nat.ne_of_lt (own_LA_lt H142)
        have ge143 : n0 ≤ a143 := by rw [g143]; exact Z142
        have lb143 : h0.size ≤ a143 := by rw [g143]; exact KP142.1
        have Z143 : n0 ≤ h143.size := Nat.le_trans Z142 E143.1
        have KP143 : Keep h0 h143 [] := KP142.ext E143
        have F147 : Fld Z h143 a143 "com/example/conjecta/conjecta/model/Values" "variables" "[I" .null := D143 (Or.inr (hw _ (List.mem_of_getElem? (i := 18) rfl))) (ty := (.array .int)) (by decide)
        have F148 : Fld Z h143 a143 "com/example/conjecta/conjecta/model/Values" "values" "[J" .null := D143 (Or.inr (hw _ (List.mem_of_getElem? (i := 20) rfl))) (ty := (.array .long)) (by decide)
        refine own_by st143 ?_
        show own_Go p e below _ (T143.setTop (mkF m 124 #[.val (.int v0), .val (.int v1), .val (.int v2), .val (.long x0), .second, .val (.long x1), .second, .val (.long x2), .second, .val (.int (((1 : Int32) + (1 : Int32)) + (0 : Int32))), .val (.ref a132), .val (.ref a133), .val (.int (((0 : Int32) + (1 : Int32)) + (1 : Int32)))] [(.ref a143)]))
        refine own_by (fun _ kont => XS.dup X143.here hx rfl (hb hby d1_124) rfl rfl kont) ?_
        show own_Go p e below _ (T143.setTop (mkF m 125 #[.val (.int v0), .val (.int v1), .val (.int v2), .val (.long x0), .second, .val (.long x1), .second, .val (.long x2), .second, .val (.int (((1 : Int32) + (1 : Int32)) + (0 : Int32))), .val (.ref a132), .val (.ref a133), .val (.int (((0 : Int32) + (1 : Int32)) + (1 : Int32)))] [(.ref a143), (.ref a143)]))
        refine own_by (fun _ kont => XS.aload X143.here hx rfl (hb hby d1_125) rfl rfl kont) ?_
        show own_Go p e below _ (T143.setTop (mkF m 127 #[.val (.int v0), .val (.int v1), .val (.int v2), .val (.long x0), .second, .val (.long x1), .second, .val (.long x2), .second, .val (.int (((1 : Int32) + (1 : Int32)) + (0 : Int32))), .val (.ref a132), .val (.ref a133), .val (.int (((0 : Int32) + (1 : Int32)) + (1 : Int32)))] [(.ref a132), (.ref a143), (.ref a143)]))
        refine own_by (fun _ kont => XS.aload X143.here hx rfl (hb hby d1_127) rfl rfl kont) ?_
        show own_Go p e below _ (T143.setTop (mkF m 129 #[.val (.int v0), .val (.int v1), .val (.int v2), .val (.long x0), .second, .val (.long x1), .second, .val (.long x2), .second, .val (.int (((1 : Int32) + (1 : Int32)) + (0 : Int32))), .val (.ref a132), .val (.ref a133), .val (.int (((0 : Int32) + (1 : Int32)) + (1 : Int32)))] [(.ref a133), (.ref a132), (.ref a143), (.ref a143)]))
        obtain ⟨_, _, ⟨T149, L149, k149, n149⟩, -, X149, ⟨Lc149, hQ149, l149, y149, z149⟩, st149⟩ := X143.specialBack hx (y := (⟨"com/example/conjecta/conjecta/model/Values", "<init>", "([I[J)V"⟩ : MethodName)) rfl hown (mvT hZ (hw _ (List.mem_of_getElem? (i := 11) rfl))) (mvT hZ (hw _ (List.mem_of_getElem? (i := 12) rfl))) (mvT hZ (hw _ (List.mem_of_getElem? (i := 13) rfl))) (by decide) (backOf (W := 1) (rmI l Z a0 hw [] a143 a132 a133 h143 n0 A143 F147 F148 ge143) hZ (hw _ (List.mem_of_getElem? (i := 13) rfl)) (hw _ (List.mem_of_getElem? (i := 10) rfl)) (by decide) (by decide)) (g := (mkF m 129 #[.val (.int v0), .val (.int v1), .val (.int v2), .val (.long x0), .second, .val (.long x1), .second, .val (.long x2), .second, .val (.int (((1 : Int32) + (1 : Int32)) + (0 : Int32))), .val (.ref a132), .val (.ref a133), .val (.int (((0 : Int32) + (1 : Int32)) + (1 : Int32)))] [(.ref a133), (.ref a132), (.ref a143), (.ref a143)])) rfl (by rw [hml]; rfl) (Steps.refl _) (a := a143) (argsL := [(.ref a132), (.ref a133)]) (rest := [(.ref a143)]) (lenOf own_pd3 rfl) rfl (by show 2 * 0 + _ ≤ _; exact Nat.le_of_eq rfl) (hb hby d1_129) (fun _ _ => ⟨rfl, e143, (by decide : 3 + 0 ≤ _), (by decide : 6 + 0 ≤ _)⟩)
        dsimp only [Pt.U, Pt.locs, Pt.cells, Pt.slots] at X149 l149 y149 z149 st149 hQ149
        subst l149 y149 z149
        refine own_tr st149 ?_
        obtain ⟨rfl, N149, K149, E149, F149, G149⟩ := hQ149
        obtain ⟨L149, X149, M149⟩ := own_hide X149 (Fr.app M142 N149)
        obtain ⟨h149, e149⟩ : ∃ h, T149.heap = h := ⟨_, rfl⟩
        rw [e149] at K149 E149 F149 G149
        have Z149 : n0 ≤ h149.size := Nat.le_trans Z143 K149.1
        have KP149 : Keep h0 h149 [] := KP143.trans K149 (fun x hx => by cases List.mem_singleton.mp hx; exact Or.inr lb143)
        show own_Go p e below _ (T149.setTop (mkF m 132 #[.val (.int v0), .val (.int v1), .val (.int v2), .val (.long x0), .second, .val (.long x1), .second, .val (.long x2), .second, .val (.int (((1 : Int32) + (1 : Int32)) + (0 : Int32))), .val (.ref a132), .val (.ref a133), .val (.int (((0 : Int32) + (1 : Int32)) + (1 : Int32)))] [(.ref a143)]))
        have F150 : own_IA Z h149 a132 2 (fun i => if i = 1 then v1 else (fun i => if i = 0 then v0 else (fun _ => 0) i) i) := (own_IA_keep (own_IA_ext F144 E143) K149 (ninS ne145 nin0))
        have F151 : own_LA Z h149 a133 2 (fun i => if i = 1 then x1 else (fun i => if i = 0 then x0 else (fun _ => 0) i) i) := (own_LA_keep (own_LA_ext H142 E143) K149 (ninS ne146 nin0))
        have hl : own_lst v0 v1 v2 x0 x1 x2 = [(v0, x0), (v1, x1)] := by simp only [own_lst, c0, c1, c2, if_true, if_false, List.nil_append, List.cons_append, List.append_nil]
        refine own_ret X149 hx hlk hret rfl (Or.inr (Or.inr (Or.inr (Or.inr ⟨rfl, rfl, rfl⟩)))) (hb hby d1_132) ⟨a143, rfl, M149, ?_⟩ (by decide) (by decide)
        rw [e149, hl]
        refine ⟨KP149, a132, a133, E149, F149, G149, own_IA_congr F150 ?_, own_LA_congr F151 ?_⟩
        · intro i hi
          match i, hi with
          | 0, _ => rfl
          | 1, _ => rfl
          | k + 2, hk => exact absurd hk (by simp only [List.length_cons, List.length_nil]; omega)
        · intro i hi
          match i, hi with
          | 0, _ => rfl
          | 1, _ => rfl
          | k + 2, hk => exact absurd hk (by simp only [List.length_cons, List.length_nil]; omega)
    · by_cases c2 : (0 : Int64) < x2
      · refine own_by (fun _ kont => XT.lloadN X0.here hx rfl (hb hby d1_0) rfl kont) ?_
        show own_Go p e below _ (s₁.setTop (mkF m 1 #[.val (.int v0), .val (.int v1), .val (.int v2), .val (.long x0), .second, .val (.long x1), .second, .val (.long x2), .second, .unset, .unset, .unset, .unset] [(.long x0)]))
        refine own_by (fun _ kont => XT.lconstV X0.here hx rfl (0 : Int64) (hb hby d1_1) rfl kont) ?_
        show own_Go p e below _ (s₁.setTop (mkF m 2 #[.val (.int v0), .val (.int v1), .val (.int v2), .val (.long x0), .second, .val (.long x1), .second, .val (.long x2), .second, .unset, .unset, .unset, .unset] [(.long (0 : Int64)), (.long x0)]))
        refine own_by (fun _ kont => XT.lcmp X0.here hx rfl (hb hby d1_2) rfl kont) ?_
        show own_Go p e below _ (s₁.setTop (mkF m 3 #[.val (.int v0), .val (.int v1), .val (.int v2), .val (.long x0), .second, .val (.long x1), .second, .val (.long x2), .second, .unset, .unset, .unset, .unset] [(.int (XT.cmpL x0 (0 : Int64)))]))
        refine own_by (fun _ kont => XS.ifNo X0.here hx rfl (hb hby d1_3) rfl (XT.ll_le_f c0) kont) ?_
        show own_Go p e below _ (s₁.setTop (mkF m 6 #[.val (.int v0), .val (.int v1), .val (.int v2), .val (.long x0), .second, .val (.long x1), .second, .val (.long x2), .second, .unset, .unset, .unset, .unset] []))
        refine own_by (fun _ kont => XT.iconstV X0.here hx rfl (1 : Int32) (hb hby d1_6) rfl kont) ?_
        show own_Go p e below _ (s₁.setTop (mkF m 7 #[.val (.int v0), .val (.int v1), .val (.int v2), .val (.long x0), .second, .val (.long x1), .second, .val (.long x2), .second, .unset, .unset, .unset, .unset] [(.int (1 : Int32))]))
        refine own_by (fun _ kont => XS.goto X0.here hx rfl (pc0 := 7) (pc' := 11) rfl (hb hby d1_7) (by decide) (by decide) kont) ?_
        show own_Go p e below _ (s₁.setTop (mkF m 11 #[.val (.int v0), .val (.int v1), .val (.int v2), .val (.long x0), .second, .val (.long x1), .second, .val (.long x2), .second, .unset, .unset, .unset, .unset] [(.int (1 : Int32))]))
        refine own_by (fun _ kont => XT.lload X0.here hx rfl (hb hby d1_11) rfl kont) ?_
        show own_Go p e below _ (s₁.setTop (mkF m 13 #[.val (.int v0), .val (.int v1), .val (.int v2), .val (.long x0), .second, .val (.long x1), .second, .val (.long x2), .second, .unset, .unset, .unset, .unset] [(.long x1), (.int (1 : Int32))]))
        refine own_by (fun _ kont => XT.lconstV X0.here hx rfl (0 : Int64) (hb hby d1_13) rfl kont) ?_
        show own_Go p e below _ (s₁.setTop (mkF m 14 #[.val (.int v0), .val (.int v1), .val (.int v2), .val (.long x0), .second, .val (.long x1), .second, .val (.long x2), .second, .unset, .unset, .unset, .unset] [(.long (0 : Int64)), (.long x1), (.int (1 : Int32))]))
        refine own_by (fun _ kont => XT.lcmp X0.here hx rfl (hb hby d1_14) rfl kont) ?_
        show own_Go p e below _ (s₁.setTop (mkF m 15 #[.val (.int v0), .val (.int v1), .val (.int v2), .val (.long x0), .second, .val (.long x1), .second, .val (.long x2), .second, .unset, .unset, .unset, .unset] [(.int (XT.cmpL x1 (0 : Int64))), (.int (1 : Int32))]))
        refine own_by (fun _ kont => XS.ifYes X0.here hx rfl (pc0 := 15) (pc' := 22) rfl (hb hby d1_15) rfl (XT.ll_le_t c1) (by decide) (by decide) kont) ?_
        show own_Go p e below _ (s₁.setTop (mkF m 22 #[.val (.int v0), .val (.int v1), .val (.int v2), .val (.long x0), .second, .val (.long x1), .second, .val (.long x2), .second, .unset, .unset, .unset, .unset] [(.int (1 : Int32))]))
        refine own_by (fun _ kont => XT.iconstV X0.here hx rfl (0 : Int32) (hb hby d1_22) rfl kont) ?_
        show own_Go p e below _ (s₁.setTop (mkF m 23 #[.val (.int v0), .val (.int v1), .val (.int v2), .val (.long x0), .second, .val (.long x1), .second, .val (.long x2), .second, .unset, .unset, .unset, .unset] [(.int (0 : Int32)), (.int (1 : Int32))]))
        refine own_by (fun _ kont => XS.iadd X0.here hx rfl (hb hby d1_23) rfl kont) ?_
        show own_Go p e below _ (s₁.setTop (mkF m 24 #[.val (.int v0), .val (.int v1), .val (.int v2), .val (.long x0), .second, .val (.long x1), .second, .val (.long x2), .second, .unset, .unset, .unset, .unset] [(.int ((1 : Int32) + (0 : Int32)))]))
        refine own_by (fun _ kont => XT.lload X0.here hx rfl (hb hby d1_24) rfl kont) ?_
        show own_Go p e below _ (s₁.setTop (mkF m 26 #[.val (.int v0), .val (.int v1), .val (.int v2), .val (.long x0), .second, .val (.long x1), .second, .val (.long x2), .second, .unset, .unset, .unset, .unset] [(.long x2), (.int ((1 : Int32) + (0 : Int32)))]))
        refine own_by (fun _ kont => XT.lconstV X0.here hx rfl (0 : Int64) (hb hby d1_26) rfl kont) ?_
        show own_Go p e below _ (s₁.setTop (mkF m 27 #[.val (.int v0), .val (.int v1), .val (.int v2), .val (.long x0), .second, .val (.long x1), .second, .val (.long x2), .second, .unset, .unset, .unset, .unset] [(.long (0 : Int64)), (.long x2), (.int ((1 : Int32) + (0 : Int32)))]))
        refine own_by (fun _ kont => XT.lcmp X0.here hx rfl (hb hby d1_27) rfl kont) ?_
        show own_Go p e below _ (s₁.setTop (mkF m 28 #[.val (.int v0), .val (.int v1), .val (.int v2), .val (.long x0), .second, .val (.long x1), .second, .val (.long x2), .second, .unset, .unset, .unset, .unset] [(.int (XT.cmpL x2 (0 : Int64))), (.int ((1 : Int32) + (0 : Int32)))]))
        refine own_by (fun _ kont => XS.ifNo X0.here hx rfl (hb hby d1_28) rfl (XT.ll_le_f c2) kont) ?_
        show own_Go p e below _ (s₁.setTop (mkF m 31 #[.val (.int v0), .val (.int v1), .val (.int v2), .val (.long x0), .second, .val (.long x1), .second, .val (.long x2), .second, .unset, .unset, .unset, .unset] [(.int ((1 : Int32) + (0 : Int32)))]))
        refine own_by (fun _ kont => XT.iconstV X0.here hx rfl (1 : Int32) (hb hby d1_31) rfl kont) ?_
        show own_Go p e below _ (s₁.setTop (mkF m 32 #[.val (.int v0), .val (.int v1), .val (.int v2), .val (.long x0), .second, .val (.long x1), .second, .val (.long x2), .second, .unset, .unset, .unset, .unset] [(.int (1 : Int32)), (.int ((1 : Int32) + (0 : Int32)))]))
        refine own_by (fun _ kont => XS.goto X0.here hx rfl (pc0 := 32) (pc' := 36) rfl (hb hby d1_32) (by decide) (by decide) kont) ?_
        show own_Go p e below _ (s₁.setTop (mkF m 36 #[.val (.int v0), .val (.int v1), .val (.int v2), .val (.long x0), .second, .val (.long x1), .second, .val (.long x2), .second, .unset, .unset, .unset, .unset] [(.int (1 : Int32)), (.int ((1 : Int32) + (0 : Int32)))]))
        refine own_by (fun _ kont => XS.iadd X0.here hx rfl (hb hby d1_36) rfl kont) ?_
        show own_Go p e below _ (s₁.setTop (mkF m 37 #[.val (.int v0), .val (.int v1), .val (.int v2), .val (.long x0), .second, .val (.long x1), .second, .val (.long x2), .second, .unset, .unset, .unset, .unset] [(.int (((1 : Int32) + (0 : Int32)) + (1 : Int32)))]))
        refine own_by (fun _ kont => XS.istore X0.here hx rfl (hb hby d1_37) rfl (l' := #[.val (.int v0), .val (.int v1), .val (.int v2), .val (.long x0), .second, .val (.long x1), .second, .val (.long x2), .second, .val (.int (((1 : Int32) + (0 : Int32)) + (1 : Int32))), .unset, .unset, .unset]) rfl kont) ?_
        show own_Go p e below _ (s₁.setTop (mkF m 39 #[.val (.int v0), .val (.int v1), .val (.int v2), .val (.long x0), .second, .val (.long x1), .second, .val (.long x2), .second, .val (.int (((1 : Int32) + (0 : Int32)) + (1 : Int32))), .unset, .unset, .unset] []))
        refine own_by (fun _ kont => XS.iload X0.here hx rfl (hb hby d1_39) rfl kont) ?_
        show own_Go p e below _ (s₁.setTop (mkF m 41 #[.val (.int v0), .val (.int v1), .val (.int v2), .val (.long x0), .second, .val (.long x1), .second, .val (.long x2), .second, .val (.int (((1 : Int32) + (0 : Int32)) + (1 : Int32))), .unset, .unset, .unset] [(.int (((1 : Int32) + (0 : Int32)) + (1 : Int32)))]))
        obtain ⟨T152, h152, a152, X152, e152, g152, E152, H152, st152⟩ := own_newIA X0 hx hZ (hw _ (List.mem_of_getElem? (i := 6) rfl)) e0 (g := (mkF m 41 #[.val (.int v0), .val (.int v1), .val (.int v2), .val (.long x0), .second, .val (.long x1), .second, .val (.long x2), .second, .val (.int (((1 : Int32) + (0 : Int32)) + (1 : Int32))), .unset, .unset, .unset] [(.int (((1 : Int32) + (0 : Int32)) + (1 : Int32)))])) rfl (hb hby d1_41) rfl 2 (by decide) (cap := 2) (by decide) (by decide) (by decide) (by decide)
        have ge152 : n0 ≤ a152 := by rw [g152]; exact Z0
        have lb152 : h0.size ≤ a152 := by rw [g152]; exact KP0.1
        have Z152 : n0 ≤ h152.size := Nat.le_trans Z0 E152.1
        have KP152 : Keep h0 h152 [] := KP0.ext E152
        refine own_by st152 ?_
        show own_Go p e below _ (T152.setTop (mkF m 43 #[.val (.int v0), .val (.int v1), .val (.int v2), .val (.long x0), .second, .val (.long x1), .second, .val (.long x2), .second, .val (.int (((1 : Int32) + (0 : Int32)) + (1 : Int32))), .unset, .unset, .unset] [(.ref a152)]))
        refine own_by (fun _ kont => XS.astore X152.here hx rfl (hb hby d1_43) rfl rfl (l' := #[.val (.int v0), .val (.int v1), .val (.int v2), .val (.long x0), .second, .val (.long x1), .second, .val (.long x2), .second, .val (.int (((1 : Int32) + (0 : Int32)) + (1 : Int32))), .val (.ref a152), .unset, .unset]) rfl kont) ?_
        show own_Go p e below _ (T152.setTop (mkF m 45 #[.val (.int v0), .val (.int v1), .val (.int v2), .val (.long x0), .second, .val (.long x1), .second, .val (.long x2), .second, .val (.int (((1 : Int32) + (0 : Int32)) + (1 : Int32))), .val (.ref a152), .unset, .unset] []))
        refine own_by (fun _ kont => XS.iload X152.here hx rfl (hb hby d1_45) rfl kont) ?_
        show own_Go p e below _ (T152.setTop (mkF m 47 #[.val (.int v0), .val (.int v1), .val (.int v2), .val (.long x0), .second, .val (.long x1), .second, .val (.long x2), .second, .val (.int (((1 : Int32) + (0 : Int32)) + (1 : Int32))), .val (.ref a152), .unset, .unset] [(.int (((1 : Int32) + (0 : Int32)) + (1 : Int32)))]))
        obtain ⟨T153, h153, a153, X153, e153, g153, E153, H153, st153⟩ := own_newLA X152 hx hZ (hw _ (List.mem_of_getElem? (i := 7) rfl)) e152 (g := (mkF m 47 #[.val (.int v0), .val (.int v1), .val (.int v2), .val (.long x0), .second, .val (.long x1), .second, .val (.long x2), .second, .val (.int (((1 : Int32) + (0 : Int32)) + (1 : Int32))), .val (.ref a152), .unset, .unset] [(.int (((1 : Int32) + (0 : Int32)) + (1 : Int32)))])) rfl (hb hby d1_47) rfl 2 (by decide) (cap := 2) (by decide) (by decide) (by decide) (by decide)
        have ne154 : a152 ≠ a153 := by rw [g153]; exact Nat.ne_of_lt (own_IA_lt H152)
        have ge153 : n0 ≤ a153 := by rw [g153]; exact Z152
        have lb153 : h0.size ≤ a153 := by rw [g153]; exact KP152.1
        have Z153 : n0 ≤ h153.size := Nat.le_trans Z152 E153.1
        have KP153 : Keep h0 h153 [] := KP152.ext E153
        refine own_by st153 ?_
        show own_Go p e below _ (T153.setTop (mkF m 49 #[.val (.int v0), .val (.int v1), .val (.int v2), .val (.long x0), .second, .val (.long x1), .second, .val (.long x2), .second, .val (.int (((1 : Int32) + (0 : Int32)) + (1 : Int32))), .val (.ref a152), .unset, .unset] [(.ref a153)]))
        refine own_by (fun _ kont => XS.astore X153.here hx rfl (hb hby d1_49) rfl rfl (l' := #[.val (.int v0), .val (.int v1), .val (.int v2), .val (.long x0), .second, .val (.long x1), .second, .val (.long x2), .second, .val (.int (((1 : Int32) + (0 : Int32)) + (1 : Int32))), .val (.ref a152), .val (.ref a153), .unset]) rfl kont) ?_
        show own_Go p e below _ (T153.setTop (mkF m 51 #[.val (.int v0), .val (.int v1), .val (.int v2), .val (.long x0), .second, .val (.long x1), .second, .val (.long x2), .second, .val (.int (((1 : Int32) + (0 : Int32)) + (1 : Int32))), .val (.ref a152), .val (.ref a153), .unset] []))
        refine own_by (fun _ kont => XT.iconstV X153.here hx rfl (0 : Int32) (hb hby d1_51) rfl kont) ?_
        show own_Go p e below _ (T153.setTop (mkF m 52 #[.val (.int v0), .val (.int v1), .val (.int v2), .val (.long x0), .second, .val (.long x1), .second, .val (.long x2), .second, .val (.int (((1 : Int32) + (0 : Int32)) + (1 : Int32))), .val (.ref a152), .val (.ref a153), .unset] [(.int (0 : Int32))]))
        refine own_by (fun _ kont => XS.istore X153.here hx rfl (hb hby d1_52) rfl (l' := #[.val (.int v0), .val (.int v1), .val (.int v2), .val (.long x0), .second, .val (.long x1), .second, .val (.long x2), .second, .val (.int (((1 : Int32) + (0 : Int32)) + (1 : Int32))), .val (.ref a152), .val (.ref a153), .val (.int (0 : Int32))]) rfl kont) ?_
        show own_Go p e below _ (T153.setTop (mkF m 54 #[.val (.int v0), .val (.int v1), .val (.int v2), .val (.long x0), .second, .val (.long x1), .second, .val (.long x2), .second, .val (.int (((1 : Int32) + (0 : Int32)) + (1 : Int32))), .val (.ref a152), .val (.ref a153), .val (.int (0 : Int32))] []))
        refine own_by (fun _ kont => XT.lloadN X153.here hx rfl (hb hby d1_54) rfl kont) ?_
        show own_Go p e below _ (T153.setTop (mkF m 55 #[.val (.int v0), .val (.int v1), .val (.int v2), .val (.long x0), .second, .val (.long x1), .second, .val (.long x2), .second, .val (.int (((1 : Int32) + (0 : Int32)) + (1 : Int32))), .val (.ref a152), .val (.ref a153), .val (.int (0 : Int32))] [(.long x0)]))
        refine own_by (fun _ kont => XT.lconstV X153.here hx rfl (0 : Int64) (hb hby d1_55) rfl kont) ?_
        show own_Go p e below _ (T153.setTop (mkF m 56 #[.val (.int v0), .val (.int v1), .val (.int v2), .val (.long x0), .second, .val (.long x1), .second, .val (.long x2), .second, .val (.int (((1 : Int32) + (0 : Int32)) + (1 : Int32))), .val (.ref a152), .val (.ref a153), .val (.int (0 : Int32))] [(.long (0 : Int64)), (.long x0)]))
        refine own_by (fun _ kont => XT.lcmp X153.here hx rfl (hb hby d1_56) rfl kont) ?_
        show own_Go p e below _ (T153.setTop (mkF m 57 #[.val (.int v0), .val (.int v1), .val (.int v2), .val (.long x0), .second, .val (.long x1), .second, .val (.long x2), .second, .val (.int (((1 : Int32) + (0 : Int32)) + (1 : Int32))), .val (.ref a152), .val (.ref a153), .val (.int (0 : Int32))] [(.int (XT.cmpL x0 (0 : Int64)))]))
        refine own_by (fun _ kont => XS.ifNo X153.here hx rfl (hb hby d1_57) rfl (XT.ll_le_f c0) kont) ?_
        show own_Go p e below _ (T153.setTop (mkF m 60 #[.val (.int v0), .val (.int v1), .val (.int v2), .val (.long x0), .second, .val (.long x1), .second, .val (.long x2), .second, .val (.int (((1 : Int32) + (0 : Int32)) + (1 : Int32))), .val (.ref a152), .val (.ref a153), .val (.int (0 : Int32))] []))
        refine own_by (fun _ kont => XS.aload X153.here hx rfl (hb hby d1_60) rfl rfl kont) ?_
        show own_Go p e below _ (T153.setTop (mkF m 62 #[.val (.int v0), .val (.int v1), .val (.int v2), .val (.long x0), .second, .val (.long x1), .second, .val (.long x2), .second, .val (.int (((1 : Int32) + (0 : Int32)) + (1 : Int32))), .val (.ref a152), .val (.ref a153), .val (.int (0 : Int32))] [(.ref a152)]))
        refine own_by (fun _ kont => XS.iload X153.here hx rfl (hb hby d1_62) rfl kont) ?_
        show own_Go p e below _ (T153.setTop (mkF m 64 #[.val (.int v0), .val (.int v1), .val (.int v2), .val (.long x0), .second, .val (.long x1), .second, .val (.long x2), .second, .val (.int (((1 : Int32) + (0 : Int32)) + (1 : Int32))), .val (.ref a152), .val (.ref a153), .val (.int (0 : Int32))] [(.int (0 : Int32)), (.ref a152)]))
        refine own_by (fun _ kont => XS.iloadN X153.here hx rfl (hb hby d1_64) rfl kont) ?_
        show own_Go p e below _ (T153.setTop (mkF m 65 #[.val (.int v0), .val (.int v1), .val (.int v2), .val (.long x0), .second, .val (.long x1), .second, .val (.long x2), .second, .val (.int (((1 : Int32) + (0 : Int32)) + (1 : Int32))), .val (.ref a152), .val (.ref a153), .val (.int (0 : Int32))] [(.int v0), (.int (0 : Int32)), (.ref a152)]))
        have F155 : own_IA Z h153 a152 2 (fun _ => 0) := (own_IA_ext H152 E153)
        obtain ⟨T156, h156, X156, e156, W156, H156, st156⟩ := own_stN X153 hx hZ e153 F155 (j := (0 : Int32)) 0 (by decide) (by decide) (g := (mkF m 65 #[.val (.int v0), .val (.int v1), .val (.int v2), .val (.long x0), .second, .val (.long x1), .second, .val (.long x2), .second, .val (.int (((1 : Int32) + (0 : Int32)) + (1 : Int32))), .val (.ref a152), .val (.ref a153), .val (.int (0 : Int32))] [(.int v0), (.int (0 : Int32)), (.ref a152)])) rfl rfl (hb hby d1_65)
        obtain ⟨L156, X156, M156⟩ := own_hide X156 (Fr.snoc X156 N0 ge152)
        have Z156 : n0 ≤ h156.size := (by rw [Wr.size W156]; exact Z153)
        have KP156 : Keep h0 h156 [] := KP153.wr W156 (Or.inr lb152)
        refine own_by st156 ?_
        show own_Go p e below _ (T156.setTop (mkF m 66 #[.val (.int v0), .val (.int v1), .val (.int v2), .val (.long x0), .second, .val (.long x1), .second, .val (.long x2), .second, .val (.int (((1 : Int32) + (0 : Int32)) + (1 : Int32))), .val (.ref a152), .val (.ref a153), .val (.int (0 : Int32))] []))
        refine own_by (fun _ kont => XS.aload X156.here hx rfl (hb hby d1_66) rfl rfl kont) ?_
        show own_Go p e below _ (T156.setTop (mkF m 68 #[.val (.int v0), .val (.int v1), .val (.int v2), .val (.long x0), .second, .val (.long x1), .second, .val (.long x2), .second, .val (.int (((1 : Int32) + (0 : Int32)) + (1 : Int32))), .val (.ref a152), .val (.ref a153), .val (.int (0 : Int32))] [(.ref a153)]))
        refine own_by (fun _ kont => XS.iload X156.here hx rfl (hb hby d1_68) rfl kont) ?_
        show own_Go p e below _ (T156.setTop (mkF m 70 #[.val (.int v0), .val (.int v1), .val (.int v2), .val (.long x0), .second, .val (.long x1), .second, .val (.long x2), .second, .val (.int (((1 : Int32) + (0 : Int32)) + (1 : Int32))), .val (.ref a152), .val (.ref a153), .val (.int (0 : Int32))] [(.int (0 : Int32)), (.ref a153)]))
        refine own_by (fun _ kont => XT.lloadN X156.here hx rfl (hb hby d1_70) rfl kont) ?_
        show own_Go p e below _ (T156.setTop (mkF m 71 #[.val (.int v0), .val (.int v1), .val (.int v2), .val (.long x0), .second, .val (.long x1), .second, .val (.long x2), .second, .val (.int (((1 : Int32) + (0 : Int32)) + (1 : Int32))), .val (.ref a152), .val (.ref a153), .val (.int (0 : Int32))] [(.long x0), (.int (0 : Int32)), (.ref a153)]))
        have F157 : own_LA Z h156 a153 2 (fun _ => 0) := (own_LA_other H153 W156 (Ne.symm ne154))
        obtain ⟨T158, h158, X158, e158, W158, H158, st158⟩ := own_stL X156 hx hZ e156 F157 (j := (0 : Int32)) 0 (by decide) (by decide) (g := (mkF m 71 #[.val (.int v0), .val (.int v1), .val (.int v2), .val (.long x0), .second, .val (.long x1), .second, .val (.long x2), .second, .val (.int (((1 : Int32) + (0 : Int32)) + (1 : Int32))), .val (.ref a152), .val (.ref a153), .val (.int (0 : Int32))] [(.long x0), (.int (0 : Int32)), (.ref a153)])) rfl rfl (hb hby d1_71)
        obtain ⟨L158, X158, M158⟩ := own_hide X158 (Fr.snoc X158 M156 ge153)
        have Z158 : n0 ≤ h158.size := (by rw [Wr.size W158]; exact Z156)
        have KP158 : Keep h0 h158 [] := KP156.wr W158 (Or.inr lb153)
        refine own_by st158 ?_
        show own_Go p e below _ (T158.setTop (mkF m 72 #[.val (.int v0), .val (.int v1), .val (.int v2), .val (.long x0), .second, .val (.long x1), .second, .val (.long x2), .second, .val (.int (((1 : Int32) + (0 : Int32)) + (1 : Int32))), .val (.ref a152), .val (.ref a153), .val (.int (0 : Int32))] []))
        refine own_by (fun _ kont => XT.iincV X158.here hx rfl (1 : Int32) (hb hby d1_72) rfl rfl (l' := #[.val (.int v0), .val (.int v1), .val (.int v2), .val (.long x0), .second, .val (.long x1), .second, .val (.long x2), .second, .val (.int (((1 : Int32) + (0 : Int32)) + (1 : Int32))), .val (.ref a152), .val (.ref a153), .val (.int ((0 : Int32) + (1 : Int32)))]) rfl kont) ?_
        show own_Go p e below _ (T158.setTop (mkF m 75 #[.val (.int v0), .val (.int v1), .val (.int v2), .val (.long x0), .second, .val (.long x1), .second, .val (.long x2), .second, .val (.int (((1 : Int32) + (0 : Int32)) + (1 : Int32))), .val (.ref a152), .val (.ref a153), .val (.int ((0 : Int32) + (1 : Int32)))] []))
        refine own_by (fun _ kont => XT.lload X158.here hx rfl (hb hby d1_75) rfl kont) ?_
        show own_Go p e below _ (T158.setTop (mkF m 77 #[.val (.int v0), .val (.int v1), .val (.int v2), .val (.long x0), .second, .val (.long x1), .second, .val (.long x2), .second, .val (.int (((1 : Int32) + (0 : Int32)) + (1 : Int32))), .val (.ref a152), .val (.ref a153), .val (.int ((0 : Int32) + (1 : Int32)))] [(.long x1)]))
        refine own_by (fun _ kont => XT.lconstV X158.here hx rfl (0 : Int64) (hb hby d1_77) rfl kont) ?_
        show own_Go p e below _ (T158.setTop (mkF m 78 #[.val (.int v0), .val (.int v1), .val (.int v2), .val (.long x0), .second, .val (.long x1), .second, .val (.long x2), .second, .val (.int (((1 : Int32) + (0 : Int32)) + (1 : Int32))), .val (.ref a152), .val (.ref a153), .val (.int ((0 : Int32) + (1 : Int32)))] [(.long (0 : Int64)), (.long x1)]))
        refine own_by (fun _ kont => XT.lcmp X158.here hx rfl (hb hby d1_78) rfl kont) ?_
        show own_Go p e below _ (T158.setTop (mkF m 79 #[.val (.int v0), .val (.int v1), .val (.int v2), .val (.long x0), .second, .val (.long x1), .second, .val (.long x2), .second, .val (.int (((1 : Int32) + (0 : Int32)) + (1 : Int32))), .val (.ref a152), .val (.ref a153), .val (.int ((0 : Int32) + (1 : Int32)))] [(.int (XT.cmpL x1 (0 : Int64)))]))
        refine own_by (fun _ kont => XS.ifYes X158.here hx rfl (pc0 := 79) (pc' := 98) rfl (hb hby d1_79) rfl (XT.ll_le_t c1) (by decide) (by decide) kont) ?_
        show own_Go p e below _ (T158.setTop (mkF m 98 #[.val (.int v0), .val (.int v1), .val (.int v2), .val (.long x0), .second, .val (.long x1), .second, .val (.long x2), .second, .val (.int (((1 : Int32) + (0 : Int32)) + (1 : Int32))), .val (.ref a152), .val (.ref a153), .val (.int ((0 : Int32) + (1 : Int32)))] []))
        refine own_by (fun _ kont => XT.lload X158.here hx rfl (hb hby d1_98) rfl kont) ?_
        show own_Go p e below _ (T158.setTop (mkF m 100 #[.val (.int v0), .val (.int v1), .val (.int v2), .val (.long x0), .second, .val (.long x1), .second, .val (.long x2), .second, .val (.int (((1 : Int32) + (0 : Int32)) + (1 : Int32))), .val (.ref a152), .val (.ref a153), .val (.int ((0 : Int32) + (1 : Int32)))] [(.long x2)]))
        refine own_by (fun _ kont => XT.lconstV X158.here hx rfl (0 : Int64) (hb hby d1_100) rfl kont) ?_
        show own_Go p e below _ (T158.setTop (mkF m 101 #[.val (.int v0), .val (.int v1), .val (.int v2), .val (.long x0), .second, .val (.long x1), .second, .val (.long x2), .second, .val (.int (((1 : Int32) + (0 : Int32)) + (1 : Int32))), .val (.ref a152), .val (.ref a153), .val (.int ((0 : Int32) + (1 : Int32)))] [(.long (0 : Int64)), (.long x2)]))
        refine own_by (fun _ kont => XT.lcmp X158.here hx rfl (hb hby d1_101) rfl kont) ?_
        show own_Go p e below _ (T158.setTop (mkF m 102 #[.val (.int v0), .val (.int v1), .val (.int v2), .val (.long x0), .second, .val (.long x1), .second, .val (.long x2), .second, .val (.int (((1 : Int32) + (0 : Int32)) + (1 : Int32))), .val (.ref a152), .val (.ref a153), .val (.int ((0 : Int32) + (1 : Int32)))] [(.int (XT.cmpL x2 (0 : Int64)))]))
        refine own_by (fun _ kont => XS.ifNo X158.here hx rfl (hb hby d1_102) rfl (XT.ll_le_f c2) kont) ?_
        show own_Go p e below _ (T158.setTop (mkF m 105 #[.val (.int v0), .val (.int v1), .val (.int v2), .val (.long x0), .second, .val (.long x1), .second, .val (.long x2), .second, .val (.int (((1 : Int32) + (0 : Int32)) + (1 : Int32))), .val (.ref a152), .val (.ref a153), .val (.int ((0 : Int32) + (1 : Int32)))] []))
        refine own_by (fun _ kont => XS.aload X158.here hx rfl (hb hby d1_105) rfl rfl kont) ?_
        show own_Go p e below _ (T158.setTop (mkF m 107 #[.val (.int v0), .val (.int v1), .val (.int v2), .val (.long x0), .second, .val (.long x1), .second, .val (.long x2), .second, .val (.int (((1 : Int32) + (0 : Int32)) + (1 : Int32))), .val (.ref a152), .val (.ref a153), .val (.int ((0 : Int32) + (1 : Int32)))] [(.ref a152)]))
        refine own_by (fun _ kont => XS.iload X158.here hx rfl (hb hby d1_107) rfl kont) ?_
        show own_Go p e below _ (T158.setTop (mkF m 109 #[.val (.int v0), .val (.int v1), .val (.int v2), .val (.long x0), .second, .val (.long x1), .second, .val (.long x2), .second, .val (.int (((1 : Int32) + (0 : Int32)) + (1 : Int32))), .val (.ref a152), .val (.ref a153), .val (.int ((0 : Int32) + (1 : Int32)))] [(.int ((0 : Int32) + (1 : Int32))), (.ref a152)]))
        refine own_by (fun _ kont => XS.iloadN X158.here hx rfl (hb hby d1_109) rfl kont) ?_
        show own_Go p e below _ (T158.setTop (mkF m 110 #[.val (.int v0), .val (.int v1), .val (.int v2), .val (.long x0), .second, .val (.long x1), .second, .val (.long x2), .second, .val (.int (((1 : Int32) + (0 : Int32)) + (1 : Int32))), .val (.ref a152), .val (.ref a153), .val (.int ((0 : Int32) + (1 : Int32)))] [(.int v2), (.int ((0 : Int32) + (1 : Int32))), (.ref a152)]))
        have F159 : own_IA Z h158 a152 2 (fun i => if i = 0 then v0 else (fun _ => 0) i) := (own_IA_other H156 W158 ne154)
        obtain ⟨T160, h160, X160, e160, W160, H160, st160⟩ := own_stN X158 hx hZ e158 F159 (j := ((0 : Int32) + (1 : Int32))) 1 (by decide) (by decide) (g := (mkF m 110 #[.val (.int v0), .val (.int v1), .val (.int v2), .val (.long x0), .second, .val (.long x1), .second, .val (.long x2), .second, .val (.int (((1 : Int32) + (0 : Int32)) + (1 : Int32))), .val (.ref a152), .val (.ref a153), .val (.int ((0 : Int32) + (1 : Int32)))] [(.int v2), (.int ((0 : Int32) + (1 : Int32))), (.ref a152)])) rfl rfl (hb hby d1_110)
        obtain ⟨L160, X160, M160⟩ := own_hide X160 (Fr.snoc X160 M158 ge152)
        have Z160 : n0 ≤ h160.size := (by rw [Wr.size W160]; exact Z158)
        have KP160 : Keep h0 h160 [] := KP158.wr W160 (Or.inr lb152)
        refine own_by st160 ?_
        show own_Go p e below _ (T160.setTop (mkF m 111 #[.val (.int v0), .val (.int v1), .val (.int v2), .val (.long x0), .second, .val (.long x1), .second, .val (.long x2), .second, .val (.int (((1 : Int32) + (0 : Int32)) + (1 : Int32))), .val (.ref a152), .val (.ref a153), .val (.int ((0 : Int32) + (1 : Int32)))] []))
        refine own_by (fun _ kont => XS.aload X160.here hx rfl (hb hby d1_111) rfl rfl kont) ?_
        show own_Go p e below _ (T160.setTop (mkF m 113 #[.val (.int v0), .val (.int v1), .val (.int v2), .val (.long x0), .second, .val (.long x1), .second, .val (.long x2), .second, .val (.int (((1 : Int32) + (0 : Int32)) + (1 : Int32))), .val (.ref a152), .val (.ref a153), .val (.int ((0 : Int32) + (1 : Int32)))] [(.ref a153)]))
        refine own_by (fun _ kont => XS.iload X160.here hx rfl (hb hby d1_113) rfl kont) ?_
        show own_Go p e below _ (T160.setTop (mkF m 115 #[.val (.int v0), .val (.int v1), .val (.int v2), .val (.long x0), .second, .val (.long x1), .second, .val (.long x2), .second, .val (.int (((1 : Int32) + (0 : Int32)) + (1 : Int32))), .val (.ref a152), .val (.ref a153), .val (.int ((0 : Int32) + (1 : Int32)))] [(.int ((0 : Int32) + (1 : Int32))), (.ref a153)]))
        refine own_by (fun _ kont => XT.lload X160.here hx rfl (hb hby d1_115) rfl kont) ?_
        show own_Go p e below _ (T160.setTop (mkF m 117 #[.val (.int v0), .val (.int v1), .val (.int v2), .val (.long x0), .second, .val (.long x1), .second, .val (.long x2), .second, .val (.int (((1 : Int32) + (0 : Int32)) + (1 : Int32))), .val (.ref a152), .val (.ref a153), .val (.int ((0 : Int32) + (1 : Int32)))] [(.long x2), (.int ((0 : Int32) + (1 : Int32))), (.ref a153)]))
        have F161 : own_LA Z h160 a153 2 (fun i => if i = 0 then x0 else (fun _ => 0) i) := (own_LA_other H158 W160 (Ne.symm ne154))
        obtain ⟨T162, h162, X162, e162, W162, H162, st162⟩ := own_stL X160 hx hZ e160 F161 (j := ((0 : Int32) + (1 : Int32))) 1 (by decide) (by decide) (g := (mkF m 117 #[.val (.int v0), .val (.int v1), .val (.int v2), .val (.long x0), .second, .val (.long x1), .second, .val (.long x2), .second, .val (.int (((1 : Int32) + (0 : Int32)) + (1 : Int32))), .val (.ref a152), .val (.ref a153), .val (.int ((0 : Int32) + (1 : Int32)))] [(.long x2), (.int ((0 : Int32) + (1 : Int32))), (.ref a153)])) rfl rfl (hb hby d1_117)
        obtain ⟨L162, X162, M162⟩ := own_hide X162 (Fr.snoc X162 M160 ge153)
        have Z162 : n0 ≤ h162.size := (by rw [Wr.size W162]; exact Z160)
        have KP162 : Keep h0 h162 [] := KP160.wr W162 (Or.inr lb153)
        refine own_by st162 ?_
        show own_Go p e below _ (T162.setTop (mkF m 118 #[.val (.int v0), .val (.int v1), .val (.int v2), .val (.long x0), .second, .val (.long x1), .second, .val (.long x2), .second, .val (.int (((1 : Int32) + (0 : Int32)) + (1 : Int32))), .val (.ref a152), .val (.ref a153), .val (.int ((0 : Int32) + (1 : Int32)))] []))
        refine own_by (fun _ kont => XT.iincV X162.here hx rfl (1 : Int32) (hb hby d1_118) rfl rfl (l' := #[.val (.int v0), .val (.int v1), .val (.int v2), .val (.long x0), .second, .val (.long x1), .second, .val (.long x2), .second, .val (.int (((1 : Int32) + (0 : Int32)) + (1 : Int32))), .val (.ref a152), .val (.ref a153), .val (.int (((0 : Int32) + (1 : Int32)) + (1 : Int32)))]) rfl kont) ?_
        show own_Go p e below _ (T162.setTop (mkF m 121 #[.val (.int v0), .val (.int v1), .val (.int v2), .val (.long x0), .second, .val (.long x1), .second, .val (.long x2), .second, .val (.int (((1 : Int32) + (0 : Int32)) + (1 : Int32))), .val (.ref a152), .val (.ref a153), .val (.int (((0 : Int32) + (1 : Int32)) + (1 : Int32)))] []))
        obtain ⟨T163, h163, X163, e163, E163, A163, D163, -, st163⟩ := newO X162 hx hZ hown (hw _ (List.mem_of_getElem? (i := 8) rfl)) (hw _ (List.mem_of_getElem? (i := 9) rfl)) (hw _ (List.mem_of_getElem? (i := 10) rfl)) e162 (g := (mkF m 121 #[.val (.int v0), .val (.int v1), .val (.int v2), .val (.long x0), .second, .val (.long x1), .second, .val (.long x2), .second, .val (.int (((1 : Int32) + (0 : Int32)) + (1 : Int32))), .val (.ref a152), .val (.ref a153), .val (.int (((0 : Int32) + (1 : Int32)) + (1 : Int32)))] [])) rfl (hb hby d1_121) (by decide) (by decide)
        obtain ⟨a163, g163⟩ : ∃ z, z = h162.size := ⟨_, rfl⟩
        rw [← g163] at A163 D163 st163
        have F164 : own_IA Z h162 a152 2 (fun i => if i = 1 then v2 else (fun i => if i = 0 then v0 else (fun _ => 0) i) i) := (own_IA_other H160 W162 ne154)
        have ne165 : a152 ≠ a163 := by rw [g163]; exact Nat.ne_of_lt (own_IA_lt F164)
        have ne166 : a153 ≠ a163 := by rw [g163]; exact Nat.ne_of_lt (own_LA_lt H162)
        have ge163 : n0 ≤ a163 := by rw [g163]; exact Z162
        have lb163 : h0.size ≤ a163 := by rw [g163]; exact KP162.1
        have Z163 : n0 ≤ h163.size := Nat.le_trans Z162 E163.1
        have KP163 : Keep h0 h163 [] := KP162.ext E163
        have F167 : Fld Z h163 a163 "com/example/conjecta/conjecta/model/Values" "variables" "[I" .null := D163 (Or.inr (hw _ (List.mem_of_getElem? (i := 18) rfl))) (ty := (.array .int)) (by decide)
        have F168 : Fld Z h163 a163 "com/example/conjecta/conjecta/model/Values" "values" "[J" .null := D163 (Or.inr (hw _ (List.mem_of_getElem? (i := 20) rfl))) (ty := (.array .long)) (by decide)
        refine own_by st163 ?_
        show own_Go p e below _ (T163.setTop (mkF m 124 #[.val (.int v0), .val (.int v1), .val (.int v2), .val (.long x0), .second, .val (.long x1), .second, .val (.long x2), .second, .val (.int (((1 : Int32) + (0 : Int32)) + (1 : Int32))), .val (.ref a152), .val (.ref a153), .val (.int (((0 : Int32) + (1 : Int32)) + (1 : Int32)))] [(.ref a163)]))
        refine own_by (fun _ kont => XS.dup X163.here hx rfl (hb hby d1_124) rfl rfl kont) ?_
        show own_Go p e below _ (T163.setTop (mkF m 125 #[.val (.int v0), .val (.int v1), .val (.int v2), .val (.long x0), .second, .val (.long x1), .second, .val (.long x2), .second, .val (.int (((1 : Int32) + (0 : Int32)) + (1 : Int32))), .val (.ref a152), .val (.ref a153), .val (.int (((0 : Int32) + (1 : Int32)) + (1 : Int32)))] [(.ref a163), (.ref a163)]))
        refine own_by (fun _ kont => XS.aload X163.here hx rfl (hb hby d1_125) rfl rfl kont) ?_
        show own_Go p e below _ (T163.setTop (mkF m 127 #[.val (.int v0), .val (.int v1), .val (.int v2), .val (.long x0), .second, .val (.long x1), .second, .val (.long x2), .second, .val (.int (((1 : Int32) + (0 : Int32)) + (1 : Int32))), .val (.ref a152), .val (.ref a153), .val (.int (((0 : Int32) + (1 : Int32)) + (1 : Int32)))] [(.ref a152), (.ref a163), (.ref a163)]))
        refine own_by (fun _ kont => XS.aload X163.here hx rfl (hb hby d1_127) rfl rfl kont) ?_
        show own_Go p e below _ (T163.setTop (mkF m 129 #[.val (.int v0), .val (.int v1), .val (.int v2), .val (.long x0), .second, .val (.long x1), .second, .val (.long x2), .second, .val (.int (((1 : Int32) + (0 : Int32)) + (1 : Int32))), .val (.ref a152), .val (.ref a153), .val (.int (((0 : Int32) + (1 : Int32)) + (1 : Int32)))] [(.ref a153), (.ref a152), (.ref a163), (.ref a163)]))
        obtain ⟨_, _, ⟨T169, L169, k169, n169⟩, -, X169, ⟨Lc169, hQ169, l169, y169, z169⟩, st169⟩ := X163.specialBack hx (y := (⟨"com/example/conjecta/conjecta/model/Values", "<init>", "([I[J)V"⟩ : MethodName)) rfl hown (mvT hZ (hw _ (List.mem_of_getElem? (i := 11) rfl))) (mvT hZ (hw _ (List.mem_of_getElem? (i := 12) rfl))) (mvT hZ (hw _ (List.mem_of_getElem? (i := 13) rfl))) (by decide) (backOf (W := 1) (rmI l Z a0 hw [] a163 a152 a153 h163 n0 A163 F167 F168 ge163) hZ (hw _ (List.mem_of_getElem? (i := 13) rfl)) (hw _ (List.mem_of_getElem? (i := 10) rfl)) (by decide) (by decide)) (g := (mkF m 129 #[.val (.int v0), .val (.int v1), .val (.int v2), .val (.long x0), .second, .val (.long x1), .second, .val (.long x2), .second, .val (.int (((1 : Int32) + (0 : Int32)) + (1 : Int32))), .val (.ref a152), .val (.ref a153), .val (.int (((0 : Int32) + (1 : Int32)) + (1 : Int32)))] [(.ref a153), (.ref a152), (.ref a163), (.ref a163)])) rfl (by rw [hml]; rfl) (Steps.refl _) (a := a163) (argsL := [(.ref a152), (.ref a153)]) (rest := [(.ref a163)]) (lenOf own_pd3 rfl) rfl (by show 2 * 0 + _ ≤ _; exact Nat.le_of_eq rfl) (hb hby d1_129) (fun _ _ => ⟨rfl, e163, (by decide : 3 + 0 ≤ _), (by decide : 6 + 0 ≤ _)⟩)
        dsimp only [Pt.U, Pt.locs, Pt.cells, Pt.slots] at X169 l169 y169 z169 st169 hQ169
        subst l169 y169 z169
        refine own_tr st169 ?_
        obtain ⟨rfl, N169, K169, E169, F169, G169⟩ := hQ169
        obtain ⟨L169, X169, M169⟩ := own_hide X169 (Fr.app M162 N169)
        obtain ⟨h169, e169⟩ : ∃ h, T169.heap = h := ⟨_, rfl⟩
        rw [e169] at K169 E169 F169 G169
        have Z169 : n0 ≤ h169.size := Nat.le_trans Z163 K169.1
        have KP169 : Keep h0 h169 [] := KP163.trans K169 (fun x hx => by cases List.mem_singleton.mp hx; exact Or.inr lb163)
        show own_Go p e below _ (T169.setTop (mkF m 132 #[.val (.int v0), .val (.int v1), .val (.int v2), .val (.long x0), .second, .val (.long x1), .second, .val (.long x2), .second, .val (.int (((1 : Int32) + (0 : Int32)) + (1 : Int32))), .val (.ref a152), .val (.ref a153), .val (.int (((0 : Int32) + (1 : Int32)) + (1 : Int32)))] [(.ref a163)]))
        have F170 : own_IA Z h169 a152 2 (fun i => if i = 1 then v2 else (fun i => if i = 0 then v0 else (fun _ => 0) i) i) := (own_IA_keep (own_IA_ext F164 E163) K169 (ninS ne165 nin0))
        have F171 : own_LA Z h169 a153 2 (fun i => if i = 1 then x2 else (fun i => if i = 0 then x0 else (fun _ => 0) i) i) := (own_LA_keep (own_LA_ext H162 E163) K169 (ninS ne166 nin0))
        have hl : own_lst v0 v1 v2 x0 x1 x2 = [(v0, x0), (v2, x2)] := by simp only [own_lst, c0, c1, c2, if_true, if_false, List.nil_append, List.cons_append, List.append_nil]
        refine own_ret X169 hx hlk hret rfl (Or.inr (Or.inr (Or.inr (Or.inr ⟨rfl, rfl, rfl⟩)))) (hb hby d1_132) ⟨a163, rfl, M169, ?_⟩ (by decide) (by decide)
        rw [e169, hl]
        refine ⟨KP169, a152, a153, E169, F169, G169, own_IA_congr F170 ?_, own_LA_congr F171 ?_⟩
        · intro i hi
          match i, hi with
          | 0, _ => rfl
          | 1, _ => rfl
          | k + 2, hk => exact absurd hk (by simp only [List.length_cons, List.length_nil]; omega)
        · intro i hi
          match i, hi with
          | 0, _ => rfl
          | 1, _ => rfl
          | k + 2, hk => exact absurd hk (by simp only [List.length_cons, List.length_nil]; omega)
      · refine own_by (fun _ kont => XT.lloadN X0.here hx rfl (hb hby d1_0) rfl kont) ?_
        show own_Go p e below _ (s₁.setTop (mkF m 1 #[.val (.int v0), .val (.int v1), .val (.int v2), .val (.long x0), .second, .val (.long x1), .second, .val (.long x2), .second, .unset, .unset, .unset, .unset] [(.long x0)]))
        refine own_by (fun _ kont => XT.lconstV X0.here hx rfl (0 : Int64) (hb hby d1_1) rfl kont) ?_
        show own_Go p e below _ (s₁.setTop (mkF m 2 #[.val (.int v0), .val (.int v1), .val (.int v2), .val (.long x0), .second, .val (.long x1), .second, .val (.long x2), .second, .unset, .unset, .unset, .unset] [(.long (0 : Int64)), (.long x0)]))
        refine own_by (fun _ kont => XT.lcmp X0.here hx rfl (hb hby d1_2) rfl kont) ?_
        show own_Go p e below _ (s₁.setTop (mkF m 3 #[.val (.int v0), .val (.int v1), .val (.int v2), .val (.long x0), .second, .val (.long x1), .second, .val (.long x2), .second, .unset, .unset, .unset, .unset] [(.int (XT.cmpL x0 (0 : Int64)))]))
        refine own_by (fun _ kont => XS.ifNo X0.here hx rfl (hb hby d1_3) rfl (XT.ll_le_f c0) kont) ?_
        show own_Go p e below _ (s₁.setTop (mkF m 6 #[.val (.int v0), .val (.int v1), .val (.int v2), .val (.long x0), .second, .val (.long x1), .second, .val (.long x2), .second, .unset, .unset, .unset, .unset] []))
        refine own_by (fun _ kont => XT.iconstV X0.here hx rfl (1 : Int32) (hb hby d1_6) rfl kont) ?_
        show own_Go p e below _ (s₁.setTop (mkF m 7 #[.val (.int v0), .val (.int v1), .val (.int v2), .val (.long x0), .second, .val (.long x1), .second, .val (.long x2), .second, .unset, .unset, .unset, .unset] [(.int (1 : Int32))]))
        refine own_by (fun _ kont => XS.goto X0.here hx rfl (pc0 := 7) (pc' := 11) rfl (hb hby d1_7) (by decide) (by decide) kont) ?_
        show own_Go p e below _ (s₁.setTop (mkF m 11 #[.val (.int v0), .val (.int v1), .val (.int v2), .val (.long x0), .second, .val (.long x1), .second, .val (.long x2), .second, .unset, .unset, .unset, .unset] [(.int (1 : Int32))]))
        refine own_by (fun _ kont => XT.lload X0.here hx rfl (hb hby d1_11) rfl kont) ?_
        show own_Go p e below _ (s₁.setTop (mkF m 13 #[.val (.int v0), .val (.int v1), .val (.int v2), .val (.long x0), .second, .val (.long x1), .second, .val (.long x2), .second, .unset, .unset, .unset, .unset] [(.long x1), (.int (1 : Int32))]))
        refine own_by (fun _ kont => XT.lconstV X0.here hx rfl (0 : Int64) (hb hby d1_13) rfl kont) ?_
        show own_Go p e below _ (s₁.setTop (mkF m 14 #[.val (.int v0), .val (.int v1), .val (.int v2), .val (.long x0), .second, .val (.long x1), .second, .val (.long x2), .second, .unset, .unset, .unset, .unset] [(.long (0 : Int64)), (.long x1), (.int (1 : Int32))]))
        refine own_by (fun _ kont => XT.lcmp X0.here hx rfl (hb hby d1_14) rfl kont) ?_
        show own_Go p e below _ (s₁.setTop (mkF m 15 #[.val (.int v0), .val (.int v1), .val (.int v2), .val (.long x0), .second, .val (.long x1), .second, .val (.long x2), .second, .unset, .unset, .unset, .unset] [(.int (XT.cmpL x1 (0 : Int64))), (.int (1 : Int32))]))
        refine own_by (fun _ kont => XS.ifYes X0.here hx rfl (pc0 := 15) (pc' := 22) rfl (hb hby d1_15) rfl (XT.ll_le_t c1) (by decide) (by decide) kont) ?_
        show own_Go p e below _ (s₁.setTop (mkF m 22 #[.val (.int v0), .val (.int v1), .val (.int v2), .val (.long x0), .second, .val (.long x1), .second, .val (.long x2), .second, .unset, .unset, .unset, .unset] [(.int (1 : Int32))]))
        refine own_by (fun _ kont => XT.iconstV X0.here hx rfl (0 : Int32) (hb hby d1_22) rfl kont) ?_
        show own_Go p e below _ (s₁.setTop (mkF m 23 #[.val (.int v0), .val (.int v1), .val (.int v2), .val (.long x0), .second, .val (.long x1), .second, .val (.long x2), .second, .unset, .unset, .unset, .unset] [(.int (0 : Int32)), (.int (1 : Int32))]))
        refine own_by (fun _ kont => XS.iadd X0.here hx rfl (hb hby d1_23) rfl kont) ?_
        show own_Go p e below _ (s₁.setTop (mkF m 24 #[.val (.int v0), .val (.int v1), .val (.int v2), .val (.long x0), .second, .val (.long x1), .second, .val (.long x2), .second, .unset, .unset, .unset, .unset] [(.int ((1 : Int32) + (0 : Int32)))]))
        refine own_by (fun _ kont => XT.lload X0.here hx rfl (hb hby d1_24) rfl kont) ?_
        show own_Go p e below _ (s₁.setTop (mkF m 26 #[.val (.int v0), .val (.int v1), .val (.int v2), .val (.long x0), .second, .val (.long x1), .second, .val (.long x2), .second, .unset, .unset, .unset, .unset] [(.long x2), (.int ((1 : Int32) + (0 : Int32)))]))
        refine own_by (fun _ kont => XT.lconstV X0.here hx rfl (0 : Int64) (hb hby d1_26) rfl kont) ?_
        show own_Go p e below _ (s₁.setTop (mkF m 27 #[.val (.int v0), .val (.int v1), .val (.int v2), .val (.long x0), .second, .val (.long x1), .second, .val (.long x2), .second, .unset, .unset, .unset, .unset] [(.long (0 : Int64)), (.long x2), (.int ((1 : Int32) + (0 : Int32)))]))
        refine own_by (fun _ kont => XT.lcmp X0.here hx rfl (hb hby d1_27) rfl kont) ?_
        show own_Go p e below _ (s₁.setTop (mkF m 28 #[.val (.int v0), .val (.int v1), .val (.int v2), .val (.long x0), .second, .val (.long x1), .second, .val (.long x2), .second, .unset, .unset, .unset, .unset] [(.int (XT.cmpL x2 (0 : Int64))), (.int ((1 : Int32) + (0 : Int32)))]))
        refine own_by (fun _ kont => XS.ifYes X0.here hx rfl (pc0 := 28) (pc' := 35) rfl (hb hby d1_28) rfl (XT.ll_le_t c2) (by decide) (by decide) kont) ?_
        show own_Go p e below _ (s₁.setTop (mkF m 35 #[.val (.int v0), .val (.int v1), .val (.int v2), .val (.long x0), .second, .val (.long x1), .second, .val (.long x2), .second, .unset, .unset, .unset, .unset] [(.int ((1 : Int32) + (0 : Int32)))]))
        refine own_by (fun _ kont => XT.iconstV X0.here hx rfl (0 : Int32) (hb hby d1_35) rfl kont) ?_
        show own_Go p e below _ (s₁.setTop (mkF m 36 #[.val (.int v0), .val (.int v1), .val (.int v2), .val (.long x0), .second, .val (.long x1), .second, .val (.long x2), .second, .unset, .unset, .unset, .unset] [(.int (0 : Int32)), (.int ((1 : Int32) + (0 : Int32)))]))
        refine own_by (fun _ kont => XS.iadd X0.here hx rfl (hb hby d1_36) rfl kont) ?_
        show own_Go p e below _ (s₁.setTop (mkF m 37 #[.val (.int v0), .val (.int v1), .val (.int v2), .val (.long x0), .second, .val (.long x1), .second, .val (.long x2), .second, .unset, .unset, .unset, .unset] [(.int (((1 : Int32) + (0 : Int32)) + (0 : Int32)))]))
        refine own_by (fun _ kont => XS.istore X0.here hx rfl (hb hby d1_37) rfl (l' := #[.val (.int v0), .val (.int v1), .val (.int v2), .val (.long x0), .second, .val (.long x1), .second, .val (.long x2), .second, .val (.int (((1 : Int32) + (0 : Int32)) + (0 : Int32))), .unset, .unset, .unset]) rfl kont) ?_
        show own_Go p e below _ (s₁.setTop (mkF m 39 #[.val (.int v0), .val (.int v1), .val (.int v2), .val (.long x0), .second, .val (.long x1), .second, .val (.long x2), .second, .val (.int (((1 : Int32) + (0 : Int32)) + (0 : Int32))), .unset, .unset, .unset] []))
        refine own_by (fun _ kont => XS.iload X0.here hx rfl (hb hby d1_39) rfl kont) ?_
        show own_Go p e below _ (s₁.setTop (mkF m 41 #[.val (.int v0), .val (.int v1), .val (.int v2), .val (.long x0), .second, .val (.long x1), .second, .val (.long x2), .second, .val (.int (((1 : Int32) + (0 : Int32)) + (0 : Int32))), .unset, .unset, .unset] [(.int (((1 : Int32) + (0 : Int32)) + (0 : Int32)))]))
        obtain ⟨T172, h172, a172, X172, e172, g172, E172, H172, st172⟩ := own_newIA X0 hx hZ (hw _ (List.mem_of_getElem? (i := 6) rfl)) e0 (g := (mkF m 41 #[.val (.int v0), .val (.int v1), .val (.int v2), .val (.long x0), .second, .val (.long x1), .second, .val (.long x2), .second, .val (.int (((1 : Int32) + (0 : Int32)) + (0 : Int32))), .unset, .unset, .unset] [(.int (((1 : Int32) + (0 : Int32)) + (0 : Int32)))])) rfl (hb hby d1_41) rfl 1 (by decide) (cap := 1) (by decide) (by decide) (by decide) (by decide)
        have ge172 : n0 ≤ a172 := by rw [g172]; exact Z0
        have lb172 : h0.size ≤ a172 := by rw [g172]; exact KP0.1
        have Z172 : n0 ≤ h172.size := Nat.le_trans Z0 E172.1
        have KP172 : Keep h0 h172 [] := KP0.ext E172
        refine own_by st172 ?_
        show own_Go p e below _ (T172.setTop (mkF m 43 #[.val (.int v0), .val (.int v1), .val (.int v2), .val (.long x0), .second, .val (.long x1), .second, .val (.long x2), .second, .val (.int (((1 : Int32) + (0 : Int32)) + (0 : Int32))), .unset, .unset, .unset] [(.ref a172)]))
        refine own_by (fun _ kont => XS.astore X172.here hx rfl (hb hby d1_43) rfl rfl (l' := #[.val (.int v0), .val (.int v1), .val (.int v2), .val (.long x0), .second, .val (.long x1), .second, .val (.long x2), .second, .val (.int (((1 : Int32) + (0 : Int32)) + (0 : Int32))), .val (.ref a172), .unset, .unset]) rfl kont) ?_
        show own_Go p e below _ (T172.setTop (mkF m 45 #[.val (.int v0), .val (.int v1), .val (.int v2), .val (.long x0), .second, .val (.long x1), .second, .val (.long x2), .second, .val (.int (((1 : Int32) + (0 : Int32)) + (0 : Int32))), .val (.ref a172), .unset, .unset] []))
        refine own_by (fun _ kont => XS.iload X172.here hx rfl (hb hby d1_45) rfl kont) ?_
        show own_Go p e below _ (T172.setTop (mkF m 47 #[.val (.int v0), .val (.int v1), .val (.int v2), .val (.long x0), .second, .val (.long x1), .second, .val (.long x2), .second, .val (.int (((1 : Int32) + (0 : Int32)) + (0 : Int32))), .val (.ref a172), .unset, .unset] [(.int (((1 : Int32) + (0 : Int32)) + (0 : Int32)))]))
        obtain ⟨T173, h173, a173, X173, e173, g173, E173, H173, st173⟩ := own_newLA X172 hx hZ (hw _ (List.mem_of_getElem? (i := 7) rfl)) e172 (g := (mkF m 47 #[.val (.int v0), .val (.int v1), .val (.int v2), .val (.long x0), .second, .val (.long x1), .second, .val (.long x2), .second, .val (.int (((1 : Int32) + (0 : Int32)) + (0 : Int32))), .val (.ref a172), .unset, .unset] [(.int (((1 : Int32) + (0 : Int32)) + (0 : Int32)))])) rfl (hb hby d1_47) rfl 1 (by decide) (cap := 1) (by decide) (by decide) (by decide) (by decide)
        have ne174 : a172 ≠ a173 := by rw [g173]; exact Nat.ne_of_lt (own_IA_lt H172)
        have ge173 : n0 ≤ a173 := by rw [g173]; exact Z172
        have lb173 : h0.size ≤ a173 := by rw [g173]; exact KP172.1
        have Z173 : n0 ≤ h173.size := Nat.le_trans Z172 E173.1
        have KP173 : Keep h0 h173 [] := KP172.ext E173
        refine own_by st173 ?_
        show own_Go p e below _ (T173.setTop (mkF m 49 #[.val (.int v0), .val (.int v1), .val (.int v2), .val (.long x0), .second, .val (.long x1), .second, .val (.long x2), .second, .val (.int (((1 : Int32) + (0 : Int32)) + (0 : Int32))), .val (.ref a172), .unset, .unset] [(.ref a173)]))
        refine own_by (fun _ kont => XS.astore X173.here hx rfl (hb hby d1_49) rfl rfl (l' := #[.val (.int v0), .val (.int v1), .val (.int v2), .val (.long x0), .second, .val (.long x1), .second, .val (.long x2), .second, .val (.int (((1 : Int32) + (0 : Int32)) + (0 : Int32))), .val (.ref a172), .val (.ref a173), .unset]) rfl kont) ?_
        show own_Go p e below _ (T173.setTop (mkF m 51 #[.val (.int v0), .val (.int v1), .val (.int v2), .val (.long x0), .second, .val (.long x1), .second, .val (.long x2), .second, .val (.int (((1 : Int32) + (0 : Int32)) + (0 : Int32))), .val (.ref a172), .val (.ref a173), .unset] []))
        refine own_by (fun _ kont => XT.iconstV X173.here hx rfl (0 : Int32) (hb hby d1_51) rfl kont) ?_
        show own_Go p e below _ (T173.setTop (mkF m 52 #[.val (.int v0), .val (.int v1), .val (.int v2), .val (.long x0), .second, .val (.long x1), .second, .val (.long x2), .second, .val (.int (((1 : Int32) + (0 : Int32)) + (0 : Int32))), .val (.ref a172), .val (.ref a173), .unset] [(.int (0 : Int32))]))
        refine own_by (fun _ kont => XS.istore X173.here hx rfl (hb hby d1_52) rfl (l' := #[.val (.int v0), .val (.int v1), .val (.int v2), .val (.long x0), .second, .val (.long x1), .second, .val (.long x2), .second, .val (.int (((1 : Int32) + (0 : Int32)) + (0 : Int32))), .val (.ref a172), .val (.ref a173), .val (.int (0 : Int32))]) rfl kont) ?_
        show own_Go p e below _ (T173.setTop (mkF m 54 #[.val (.int v0), .val (.int v1), .val (.int v2), .val (.long x0), .second, .val (.long x1), .second, .val (.long x2), .second, .val (.int (((1 : Int32) + (0 : Int32)) + (0 : Int32))), .val (.ref a172), .val (.ref a173), .val (.int (0 : Int32))] []))
        refine own_by (fun _ kont => XT.lloadN X173.here hx rfl (hb hby d1_54) rfl kont) ?_
        show own_Go p e below _ (T173.setTop (mkF m 55 #[.val (.int v0), .val (.int v1), .val (.int v2), .val (.long x0), .second, .val (.long x1), .second, .val (.long x2), .second, .val (.int (((1 : Int32) + (0 : Int32)) + (0 : Int32))), .val (.ref a172), .val (.ref a173), .val (.int (0 : Int32))] [(.long x0)]))
        refine own_by (fun _ kont => XT.lconstV X173.here hx rfl (0 : Int64) (hb hby d1_55) rfl kont) ?_
        show own_Go p e below _ (T173.setTop (mkF m 56 #[.val (.int v0), .val (.int v1), .val (.int v2), .val (.long x0), .second, .val (.long x1), .second, .val (.long x2), .second, .val (.int (((1 : Int32) + (0 : Int32)) + (0 : Int32))), .val (.ref a172), .val (.ref a173), .val (.int (0 : Int32))] [(.long (0 : Int64)), (.long x0)]))
        refine own_by (fun _ kont => XT.lcmp X173.here hx rfl (hb hby d1_56) rfl kont) ?_
        show own_Go p e below _ (T173.setTop (mkF m 57 #[.val (.int v0), .val (.int v1), .val (.int v2), .val (.long x0), .second, .val (.long x1), .second, .val (.long x2), .second, .val (.int (((1 : Int32) + (0 : Int32)) + (0 : Int32))), .val (.ref a172), .val (.ref a173), .val (.int (0 : Int32))] [(.int (XT.cmpL x0 (0 : Int64)))]))
        refine own_by (fun _ kont => XS.ifNo X173.here hx rfl (hb hby d1_57) rfl (XT.ll_le_f c0) kont) ?_
        show own_Go p e below _ (T173.setTop (mkF m 60 #[.val (.int v0), .val (.int v1), .val (.int v2), .val (.long x0), .second, .val (.long x1), .second, .val (.long x2), .second, .val (.int (((1 : Int32) + (0 : Int32)) + (0 : Int32))), .val (.ref a172), .val (.ref a173), .val (.int (0 : Int32))] []))
        refine own_by (fun _ kont => XS.aload X173.here hx rfl (hb hby d1_60) rfl rfl kont) ?_
        show own_Go p e below _ (T173.setTop (mkF m 62 #[.val (.int v0), .val (.int v1), .val (.int v2), .val (.long x0), .second, .val (.long x1), .second, .val (.long x2), .second, .val (.int (((1 : Int32) + (0 : Int32)) + (0 : Int32))), .val (.ref a172), .val (.ref a173), .val (.int (0 : Int32))] [(.ref a172)]))
        refine own_by (fun _ kont => XS.iload X173.here hx rfl (hb hby d1_62) rfl kont) ?_
        show own_Go p e below _ (T173.setTop (mkF m 64 #[.val (.int v0), .val (.int v1), .val (.int v2), .val (.long x0), .second, .val (.long x1), .second, .val (.long x2), .second, .val (.int (((1 : Int32) + (0 : Int32)) + (0 : Int32))), .val (.ref a172), .val (.ref a173), .val (.int (0 : Int32))] [(.int (0 : Int32)), (.ref a172)]))
        refine own_by (fun _ kont => XS.iloadN X173.here hx rfl (hb hby d1_64) rfl kont) ?_
        show own_Go p e below _ (T173.setTop (mkF m 65 #[.val (.int v0), .val (.int v1), .val (.int v2), .val (.long x0), .second, .val (.long x1), .second, .val (.long x2), .second, .val (.int (((1 : Int32) + (0 : Int32)) + (0 : Int32))), .val (.ref a172), .val (.ref a173), .val (.int (0 : Int32))] [(.int v0), (.int (0 : Int32)), (.ref a172)]))
        have F175 : own_IA Z h173 a172 1 (fun _ => 0) := (own_IA_ext H172 E173)
        obtain ⟨T176, h176, X176, e176, W176, H176, st176⟩ := own_stN X173 hx hZ e173 F175 (j := (0 : Int32)) 0 (by decide) (by decide) (g := (mkF m 65 #[.val (.int v0), .val (.int v1), .val (.int v2), .val (.long x0), .second, .val (.long x1), .second, .val (.long x2), .second, .val (.int (((1 : Int32) + (0 : Int32)) + (0 : Int32))), .val (.ref a172), .val (.ref a173), .val (.int (0 : Int32))] [(.int v0), (.int (0 : Int32)), (.ref a172)])) rfl rfl (hb hby d1_65)
        obtain ⟨L176, X176, M176⟩ := own_hide X176 (Fr.snoc X176 N0 ge172)
        have Z176 : n0 ≤ h176.size := (by rw [Wr.size W176]; exact Z173)
        have KP176 : Keep h0 h176 [] := KP173.wr W176 (Or.inr lb172)
        refine own_by st176 ?_
        show own_Go p e below _ (T176.setTop (mkF m 66 #[.val (.int v0), .val (.int v1), .val (.int v2), .val (.long x0), .second, .val (.long x1), .second, .val (.long x2), .second, .val (.int (((1 : Int32) + (0 : Int32)) + (0 : Int32))), .val (.ref a172), .val (.ref a173), .val (.int (0 : Int32))] []))
        refine own_by (fun _ kont => XS.aload X176.here hx rfl (hb hby d1_66) rfl rfl kont) ?_
        show own_Go p e below _ (T176.setTop (mkF m 68 #[.val (.int v0), .val (.int v1), .val (.int v2), .val (.long x0), .second, .val (.long x1), .second, .val (.long x2), .second, .val (.int (((1 : Int32) + (0 : Int32)) + (0 : Int32))), .val (.ref a172), .val (.ref a173), .val (.int (0 : Int32))] [(.ref a173)]))
        refine own_by (fun _ kont => XS.iload X176.here hx rfl (hb hby d1_68) rfl kont) ?_
        show own_Go p e below _ (T176.setTop (mkF m 70 #[.val (.int v0), .val (.int v1), .val (.int v2), .val (.long x0), .second, .val (.long x1), .second, .val (.long x2), .second, .val (.int (((1 : Int32) + (0 : Int32)) + (0 : Int32))), .val (.ref a172), .val (.ref a173), .val (.int (0 : Int32))] [(.int (0 : Int32)), (.ref a173)]))
        refine own_by (fun _ kont => XT.lloadN X176.here hx rfl (hb hby d1_70) rfl kont) ?_
        show own_Go p e below _ (T176.setTop (mkF m 71 #[.val (.int v0), .val (.int v1), .val (.int v2), .val (.long x0), .second, .val (.long x1), .second, .val (.long x2), .second, .val (.int (((1 : Int32) + (0 : Int32)) + (0 : Int32))), .val (.ref a172), .val (.ref a173), .val (.int (0 : Int32))] [(.long x0), (.int (0 : Int32)), (.ref a173)]))
        have F177 : own_LA Z h176 a173 1 (fun _ => 0) := (own_LA_other H173 W176 (Ne.symm ne174))
        obtain ⟨T178, h178, X178, e178, W178, H178, st178⟩ := own_stL X176 hx hZ e176 F177 (j := (0 : Int32)) 0 (by decide) (by decide) (g := (mkF m 71 #[.val (.int v0), .val (.int v1), .val (.int v2), .val (.long x0), .second, .val (.long x1), .second, .val (.long x2), .second, .val (.int (((1 : Int32) + (0 : Int32)) + (0 : Int32))), .val (.ref a172), .val (.ref a173), .val (.int (0 : Int32))] [(.long x0), (.int (0 : Int32)), (.ref a173)])) rfl rfl (hb hby d1_71)
        obtain ⟨L178, X178, M178⟩ := own_hide X178 (Fr.snoc X178 M176 ge173)
        have Z178 : n0 ≤ h178.size := (by rw [Wr.size W178]; exact Z176)
        have KP178 : Keep h0 h178 [] := KP176.wr W178 (Or.inr lb173)
        refine own_by st178 ?_
        show own_Go p e below _ (T178.setTop (mkF m 72 #[.val (.int v0), .val (.int v1), .val (.int v2), .val (.long x0), .second, .val (.long x1), .second, .val (.long x2), .second, .val (.int (((1 : Int32) + (0 : Int32)) + (0 : Int32))), .val (.ref a172), .val (.ref a173), .val (.int (0 : Int32))] []))
        refine own_by (fun _ kont => XT.iincV X178.here hx rfl (1 : Int32) (hb hby d1_72) rfl rfl (l' := #[.val (.int v0), .val (.int v1), .val (.int v2), .val (.long x0), .second, .val (.long x1), .second, .val (.long x2), .second, .val (.int (((1 : Int32) + (0 : Int32)) + (0 : Int32))), .val (.ref a172), .val (.ref a173), .val (.int ((0 : Int32) + (1 : Int32)))]) rfl kont) ?_
        show own_Go p e below _ (T178.setTop (mkF m 75 #[.val (.int v0), .val (.int v1), .val (.int v2), .val (.long x0), .second, .val (.long x1), .second, .val (.long x2), .second, .val (.int (((1 : Int32) + (0 : Int32)) + (0 : Int32))), .val (.ref a172), .val (.ref a173), .val (.int ((0 : Int32) + (1 : Int32)))] []))
        refine own_by (fun _ kont => XT.lload X178.here hx rfl (hb hby d1_75) rfl kont) ?_
        show own_Go p e below _ (T178.setTop (mkF m 77 #[.val (.int v0), .val (.int v1), .val (.int v2), .val (.long x0), .second, .val (.long x1), .second, .val (.long x2), .second, .val (.int (((1 : Int32) + (0 : Int32)) + (0 : Int32))), .val (.ref a172), .val (.ref a173), .val (.int ((0 : Int32) + (1 : Int32)))] [(.long x1)]))
        refine own_by (fun _ kont => XT.lconstV X178.here hx rfl (0 : Int64) (hb hby d1_77) rfl kont) ?_
        show own_Go p e below _ (T178.setTop (mkF m 78 #[.val (.int v0), .val (.int v1), .val (.int v2), .val (.long x0), .second, .val (.long x1), .second, .val (.long x2), .second, .val (.int (((1 : Int32) + (0 : Int32)) + (0 : Int32))), .val (.ref a172), .val (.ref a173), .val (.int ((0 : Int32) + (1 : Int32)))] [(.long (0 : Int64)), (.long x1)]))
        refine own_by (fun _ kont => XT.lcmp X178.here hx rfl (hb hby d1_78) rfl kont) ?_
        show own_Go p e below _ (T178.setTop (mkF m 79 #[.val (.int v0), .val (.int v1), .val (.int v2), .val (.long x0), .second, .val (.long x1), .second, .val (.long x2), .second, .val (.int (((1 : Int32) + (0 : Int32)) + (0 : Int32))), .val (.ref a172), .val (.ref a173), .val (.int ((0 : Int32) + (1 : Int32)))] [(.int (XT.cmpL x1 (0 : Int64)))]))
        refine own_by (fun _ kont => XS.ifYes X178.here hx rfl (pc0 := 79) (pc' := 98) rfl (hb hby d1_79) rfl (XT.ll_le_t c1) (by decide) (by decide) kont) ?_
        show own_Go p e below _ (T178.setTop (mkF m 98 #[.val (.int v0), .val (.int v1), .val (.int v2), .val (.long x0), .second, .val (.long x1), .second, .val (.long x2), .second, .val (.int (((1 : Int32) + (0 : Int32)) + (0 : Int32))), .val (.ref a172), .val (.ref a173), .val (.int ((0 : Int32) + (1 : Int32)))] []))
        refine own_by (fun _ kont => XT.lload X178.here hx rfl (hb hby d1_98) rfl kont) ?_
        show own_Go p e below _ (T178.setTop (mkF m 100 #[.val (.int v0), .val (.int v1), .val (.int v2), .val (.long x0), .second, .val (.long x1), .second, .val (.long x2), .second, .val (.int (((1 : Int32) + (0 : Int32)) + (0 : Int32))), .val (.ref a172), .val (.ref a173), .val (.int ((0 : Int32) + (1 : Int32)))] [(.long x2)]))
        refine own_by (fun _ kont => XT.lconstV X178.here hx rfl (0 : Int64) (hb hby d1_100) rfl kont) ?_
        show own_Go p e below _ (T178.setTop (mkF m 101 #[.val (.int v0), .val (.int v1), .val (.int v2), .val (.long x0), .second, .val (.long x1), .second, .val (.long x2), .second, .val (.int (((1 : Int32) + (0 : Int32)) + (0 : Int32))), .val (.ref a172), .val (.ref a173), .val (.int ((0 : Int32) + (1 : Int32)))] [(.long (0 : Int64)), (.long x2)]))
        refine own_by (fun _ kont => XT.lcmp X178.here hx rfl (hb hby d1_101) rfl kont) ?_
        show own_Go p e below _ (T178.setTop (mkF m 102 #[.val (.int v0), .val (.int v1), .val (.int v2), .val (.long x0), .second, .val (.long x1), .second, .val (.long x2), .second, .val (.int (((1 : Int32) + (0 : Int32)) + (0 : Int32))), .val (.ref a172), .val (.ref a173), .val (.int ((0 : Int32) + (1 : Int32)))] [(.int (XT.cmpL x2 (0 : Int64)))]))
        refine own_by (fun _ kont => XS.ifYes X178.here hx rfl (pc0 := 102) (pc' := 121) rfl (hb hby d1_102) rfl (XT.ll_le_t c2) (by decide) (by decide) kont) ?_
        show own_Go p e below _ (T178.setTop (mkF m 121 #[.val (.int v0), .val (.int v1), .val (.int v2), .val (.long x0), .second, .val (.long x1), .second, .val (.long x2), .second, .val (.int (((1 : Int32) + (0 : Int32)) + (0 : Int32))), .val (.ref a172), .val (.ref a173), .val (.int ((0 : Int32) + (1 : Int32)))] []))
        obtain ⟨T179, h179, X179, e179, E179, A179, D179, -, st179⟩ := newO X178 hx hZ hown (hw _ (List.mem_of_getElem? (i := 8) rfl)) (hw _ (List.mem_of_getElem? (i := 9) rfl)) (hw _ (List.mem_of_getElem? (i := 10) rfl)) e178 (g := (mkF m 121 #[.val (.int v0), .val (.int v1), .val (.int v2), .val (.long x0), .second, .val (.long x1), .second, .val (.long x2), .second, .val (.int (((1 : Int32) + (0 : Int32)) + (0 : Int32))), .val (.ref a172), .val (.ref a173), .val (.int ((0 : Int32) + (1 : Int32)))] [])) rfl (hb hby d1_121) (by decide) (by decide)
        obtain ⟨a179, g179⟩ : ∃ z, z = h178.size := ⟨_, rfl⟩
        rw [← g179] at A179 D179 st179
        have F180 : own_IA Z h178 a172 1 (fun i => if i = 0 then v0 else (fun _ => 0) i) := (own_IA_other H176 W178 ne174)
        have ne181 : a172 ≠ a179 := by rw [g179]; exact Nat.ne_of_lt (own_IA_lt F180)
        have ne182 : a173 ≠ a179 := by rw [g179]; exact Nat.ne_of_lt (own_LA_lt H178)
        have ge179 : n0 ≤ a179 := by rw [g179]; exact Z178
        have lb179 : h0.size ≤ a179 := by rw [g179]; exact KP178.1
        have Z179 : n0 ≤ h179.size := Nat.le_trans Z178 E179.1
        have KP179 : Keep h0 h179 [] := KP178.ext E179
        have F183 : Fld Z h179 a179 "com/example/conjecta/conjecta/model/Values" "variables" "[I" .null := D179 (Or.inr (hw _ (List.mem_of_getElem? (i := 18) rfl))) (ty := (.array .int)) (by decide)
        have F184 : Fld Z h179 a179 "com/example/conjecta/conjecta/model/Values" "values" "[J" .null := D179 (Or.inr (hw _ (List.mem_of_getElem? (i := 20) rfl))) (ty := (.array .long)) (by decide)
        refine own_by st179 ?_
        show own_Go p e below _ (T179.setTop (mkF m 124 #[.val (.int v0), .val (.int v1), .val (.int v2), .val (.long x0), .second, .val (.long x1), .second, .val (.long x2), .second, .val (.int (((1 : Int32) + (0 : Int32)) + (0 : Int32))), .val (.ref a172), .val (.ref a173), .val (.int ((0 : Int32) + (1 : Int32)))] [(.ref a179)]))
        refine own_by (fun _ kont => XS.dup X179.here hx rfl (hb hby d1_124) rfl rfl kont) ?_
        show own_Go p e below _ (T179.setTop (mkF m 125 #[.val (.int v0), .val (.int v1), .val (.int v2), .val (.long x0), .second, .val (.long x1), .second, .val (.long x2), .second, .val (.int (((1 : Int32) + (0 : Int32)) + (0 : Int32))), .val (.ref a172), .val (.ref a173), .val (.int ((0 : Int32) + (1 : Int32)))] [(.ref a179), (.ref a179)]))
        refine own_by (fun _ kont => XS.aload X179.here hx rfl (hb hby d1_125) rfl rfl kont) ?_
        show own_Go p e below _ (T179.setTop (mkF m 127 #[.val (.int v0), .val (.int v1), .val (.int v2), .val (.long x0), .second, .val (.long x1), .second, .val (.long x2), .second, .val (.int (((1 : Int32) + (0 : Int32)) + (0 : Int32))), .val (.ref a172), .val (.ref a173), .val (.int ((0 : Int32) + (1 : Int32)))] [(.ref a172), (.ref a179), (.ref a179)]))
        refine own_by (fun _ kont => XS.aload X179.here hx rfl (hb hby d1_127) rfl rfl kont) ?_
        show own_Go p e below _ (T179.setTop (mkF m 129 #[.val (.int v0), .val (.int v1), .val (.int v2), .val (.long x0), .second, .val (.long x1), .second, .val (.long x2), .second, .val (.int (((1 : Int32) + (0 : Int32)) + (0 : Int32))), .val (.ref a172), .val (.ref a173), .val (.int ((0 : Int32) + (1 : Int32)))] [(.ref a173), (.ref a172), (.ref a179), (.ref a179)]))
        obtain ⟨_, _, ⟨T185, L185, k185, n185⟩, -, X185, ⟨Lc185, hQ185, l185, y185, z185⟩, st185⟩ := X179.specialBack hx (y := (⟨"com/example/conjecta/conjecta/model/Values", "<init>", "([I[J)V"⟩ : MethodName)) rfl hown (mvT hZ (hw _ (List.mem_of_getElem? (i := 11) rfl))) (mvT hZ (hw _ (List.mem_of_getElem? (i := 12) rfl))) (mvT hZ (hw _ (List.mem_of_getElem? (i := 13) rfl))) (by decide) (backOf (W := 1) (rmI l Z a0 hw [] a179 a172 a173 h179 n0 A179 F183 F184 ge179) hZ (hw _ (List.mem_of_getElem? (i := 13) rfl)) (hw _ (List.mem_of_getElem? (i := 10) rfl)) (by decide) (by decide)) (g := (mkF m 129 #[.val (.int v0), .val (.int v1), .val (.int v2), .val (.long x0), .second, .val (.long x1), .second, .val (.long x2), .second, .val (.int (((1 : Int32) + (0 : Int32)) + (0 : Int32))), .val (.ref a172), .val (.ref a173), .val (.int ((0 : Int32) + (1 : Int32)))] [(.ref a173), (.ref a172), (.ref a179), (.ref a179)])) rfl (by rw [hml]; rfl) (Steps.refl _) (a := a179) (argsL := [(.ref a172), (.ref a173)]) (rest := [(.ref a179)]) (lenOf own_pd3 rfl) rfl (by show 2 * 0 + _ ≤ _; exact Nat.le_of_eq rfl) (hb hby d1_129) (fun _ _ => ⟨rfl, e179, (by decide : 3 + 0 ≤ _), (by decide : 4 + 0 ≤ _)⟩)
        dsimp only [Pt.U, Pt.locs, Pt.cells, Pt.slots] at X185 l185 y185 z185 st185 hQ185
        subst l185 y185 z185
        refine own_tr st185 ?_
        obtain ⟨rfl, N185, K185, E185, F185, G185⟩ := hQ185
        obtain ⟨L185, X185, M185⟩ := own_hide X185 (Fr.app M178 N185)
        obtain ⟨h185, e185⟩ : ∃ h, T185.heap = h := ⟨_, rfl⟩
        rw [e185] at K185 E185 F185 G185
        have Z185 : n0 ≤ h185.size := Nat.le_trans Z179 K185.1
        have KP185 : Keep h0 h185 [] := KP179.trans K185 (fun x hx => by cases List.mem_singleton.mp hx; exact Or.inr lb179)
        show own_Go p e below _ (T185.setTop (mkF m 132 #[.val (.int v0), .val (.int v1), .val (.int v2), .val (.long x0), .second, .val (.long x1), .second, .val (.long x2), .second, .val (.int (((1 : Int32) + (0 : Int32)) + (0 : Int32))), .val (.ref a172), .val (.ref a173), .val (.int ((0 : Int32) + (1 : Int32)))] [(.ref a179)]))
        have F186 : own_IA Z h185 a172 1 (fun i => if i = 0 then v0 else (fun _ => 0) i) := (own_IA_keep (own_IA_ext F180 E179) K185 (ninS ne181 nin0))
        have F187 : own_LA Z h185 a173 1 (fun i => if i = 0 then x0 else (fun _ => 0) i) := (own_LA_keep (own_LA_ext H178 E179) K185 (ninS ne182 nin0))
        have hl : own_lst v0 v1 v2 x0 x1 x2 = [(v0, x0)] := by simp only [own_lst, c0, c1, c2, if_true, if_false, List.nil_append, List.cons_append, List.append_nil]
        refine own_ret X185 hx hlk hret rfl (Or.inr (Or.inr (Or.inr (Or.inr ⟨rfl, rfl, rfl⟩)))) (hb hby d1_132) ⟨a179, rfl, M185, ?_⟩ (by decide) (by decide)
        rw [e185, hl]
        refine ⟨KP185, a172, a173, E185, F185, G185, own_IA_congr F186 ?_, own_LA_congr F187 ?_⟩
        · intro i hi
          match i, hi with
          | 0, _ => rfl
          | k + 1, hk => exact absurd hk (by simp only [List.length_cons, List.length_nil]; omega)
        · intro i hi
          match i, hi with
          | 0, _ => rfl
          | k + 1, hk => exact absurd hk (by simp only [List.length_cons, List.length_nil]; omega)
  · by_cases c1 : (0 : Int64) < x1
    · by_cases c2 : (0 : Int64) < x2
      · refine own_by (fun _ kont => XT.lloadN X0.here hx rfl (hb hby d1_0) rfl kont) ?_
        show own_Go p e below _ (s₁.setTop (mkF m 1 #[.val (.int v0), .val (.int v1), .val (.int v2), .val (.long x0), .second, .val (.long x1), .second, .val (.long x2), .second, .unset, .unset, .unset, .unset] [(.long x0)]))
        refine own_by (fun _ kont => XT.lconstV X0.here hx rfl (0 : Int64) (hb hby d1_1) rfl kont) ?_
        show own_Go p e below _ (s₁.setTop (mkF m 2 #[.val (.int v0), .val (.int v1), .val (.int v2), .val (.long x0), .second, .val (.long x1), .second, .val (.long x2), .second, .unset, .unset, .unset, .unset] [(.long (0 : Int64)), (.long x0)]))
        refine own_by (fun _ kont => XT.lcmp X0.here hx rfl (hb hby d1_2) rfl kont) ?_
        show own_Go p e below _ (s₁.setTop (mkF m 3 #[.val (.int v0), .val (.int v1), .val (.int v2), .val (.long x0), .second, .val (.long x1), .second, .val (.long x2), .second, .unset, .unset, .unset, .unset] [(.int (XT.cmpL x0 (0 : Int64)))]))
        refine own_by (fun _ kont => XS.ifYes X0.here hx rfl (pc0 := 3) (pc' := 10) rfl (hb hby d1_3) rfl (XT.ll_le_t c0) (by decide) (by decide) kont) ?_
        show own_Go p e below _ (s₁.setTop (mkF m 10 #[.val (.int v0), .val (.int v1), .val (.int v2), .val (.long x0), .second, .val (.long x1), .second, .val (.long x2), .second, .unset, .unset, .unset, .unset] []))
        refine own_by (fun _ kont => XT.iconstV X0.here hx rfl (0 : Int32) (hb hby d1_10) rfl kont) ?_
        show own_Go p e below _ (s₁.setTop (mkF m 11 #[.val (.int v0), .val (.int v1), .val (.int v2), .val (.long x0), .second, .val (.long x1), .second, .val (.long x2), .second, .unset, .unset, .unset, .unset] [(.int (0 : Int32))]))
        refine own_by (fun _ kont => XT.lload X0.here hx rfl (hb hby d1_11) rfl kont) ?_
        show own_Go p e below _ (s₁.setTop (mkF m 13 #[.val (.int v0), .val (.int v1), .val (.int v2), .val (.long x0), .second, .val (.long x1), .second, .val (.long x2), .second, .unset, .unset, .unset, .unset] [(.long x1), (.int (0 : Int32))]))
        refine own_by (fun _ kont => XT.lconstV X0.here hx rfl (0 : Int64) (hb hby d1_13) rfl kont) ?_
        show own_Go p e below _ (s₁.setTop (mkF m 14 #[.val (.int v0), .val (.int v1), .val (.int v2), .val (.long x0), .second, .val (.long x1), .second, .val (.long x2), .second, .unset, .unset, .unset, .unset] [(.long (0 : Int64)), (.long x1), (.int (0 : Int32))]))
        refine own_by (fun _ kont => XT.lcmp X0.here hx rfl (hb hby d1_14) rfl kont) ?_
        show own_Go p e below _ (s₁.setTop (mkF m 15 #[.val (.int v0), .val (.int v1), .val (.int v2), .val (.long x0), .second, .val (.long x1), .second, .val (.long x2), .second, .unset, .unset, .unset, .unset] [(.int (XT.cmpL x1 (0 : Int64))), (.int (0 : Int32))]))
        refine own_by (fun _ kont => XS.ifNo X0.here hx rfl (hb hby d1_15) rfl (XT.ll_le_f c1) kont) ?_
        show own_Go p e below _ (s₁.setTop (mkF m 18 #[.val (.int v0), .val (.int v1), .val (.int v2), .val (.long x0), .second, .val (.long x1), .second, .val (.long x2), .second, .unset, .unset, .unset, .unset] [(.int (0 : Int32))]))
        refine own_by (fun _ kont => XT.iconstV X0.here hx rfl (1 : Int32) (hb hby d1_18) rfl kont) ?_
        show own_Go p e below _ (s₁.setTop (mkF m 19 #[.val (.int v0), .val (.int v1), .val (.int v2), .val (.long x0), .second, .val (.long x1), .second, .val (.long x2), .second, .unset, .unset, .unset, .unset] [(.int (1 : Int32)), (.int (0 : Int32))]))
        refine own_by (fun _ kont => XS.goto X0.here hx rfl (pc0 := 19) (pc' := 23) rfl (hb hby d1_19) (by decide) (by decide) kont) ?_
        show own_Go p e below _ (s₁.setTop (mkF m 23 #[.val (.int v0), .val (.int v1), .val (.int v2), .val (.long x0), .second, .val (.long x1), .second, .val (.long x2), .second, .unset, .unset, .unset, .unset] [(.int (1 : Int32)), (.int (0 : Int32))]))
        refine own_by (fun _ kont => XS.iadd X0.here hx rfl (hb hby d1_23) rfl kont) ?_
        show own_Go p e below _ (s₁.setTop (mkF m 24 #[.val (.int v0), .val (.int v1), .val (.int v2), .val (.long x0), .second, .val (.long x1), .second, .val (.long x2), .second, .unset, .unset, .unset, .unset] [(.int ((0 : Int32) + (1 : Int32)))]))
        refine own_by (fun _ kont => XT.lload X0.here hx rfl (hb hby d1_24) rfl kont) ?_
        show own_Go p e below _ (s₁.setTop (mkF m 26 #[.val (.int v0), .val (.int v1), .val (.int v2), .val (.long x0), .second, .val (.long x1), .second, .val (.long x2), .second, .unset, .unset, .unset, .unset] [(.long x2), (.int ((0 : Int32) + (1 : Int32)))]))
        refine own_by (fun _ kont => XT.lconstV X0.here hx rfl (0 : Int64) (hb hby d1_26) rfl kont) ?_
        show own_Go p e below _ (s₁.setTop (mkF m 27 #[.val (.int v0), .val (.int v1), .val (.int v2), .val (.long x0), .second, .val (.long x1), .second, .val (.long x2), .second, .unset, .unset, .unset, .unset] [(.long (0 : Int64)), (.long x2), (.int ((0 : Int32) + (1 : Int32)))]))
        refine own_by (fun _ kont => XT.lcmp X0.here hx rfl (hb hby d1_27) rfl kont) ?_
        show own_Go p e below _ (s₁.setTop (mkF m 28 #[.val (.int v0), .val (.int v1), .val (.int v2), .val (.long x0), .second, .val (.long x1), .second, .val (.long x2), .second, .unset, .unset, .unset, .unset] [(.int (XT.cmpL x2 (0 : Int64))), (.int ((0 : Int32) + (1 : Int32)))]))
        refine own_by (fun _ kont => XS.ifNo X0.here hx rfl (hb hby d1_28) rfl (XT.ll_le_f c2) kont) ?_
        show own_Go p e below _ (s₁.setTop (mkF m 31 #[.val (.int v0), .val (.int v1), .val (.int v2), .val (.long x0), .second, .val (.long x1), .second, .val (.long x2), .second, .unset, .unset, .unset, .unset] [(.int ((0 : Int32) + (1 : Int32)))]))
        refine own_by (fun _ kont => XT.iconstV X0.here hx rfl (1 : Int32) (hb hby d1_31) rfl kont) ?_
        show own_Go p e below _ (s₁.setTop (mkF m 32 #[.val (.int v0), .val (.int v1), .val (.int v2), .val (.long x0), .second, .val (.long x1), .second, .val (.long x2), .second, .unset, .unset, .unset, .unset] [(.int (1 : Int32)), (.int ((0 : Int32) + (1 : Int32)))]))
        refine own_by (fun _ kont => XS.goto X0.here hx rfl (pc0 := 32) (pc' := 36) rfl (hb hby d1_32) (by decide) (by decide) kont) ?_
        show own_Go p e below _ (s₁.setTop (mkF m 36 #[.val (.int v0), .val (.int v1), .val (.int v2), .val (.long x0), .second, .val (.long x1), .second, .val (.long x2), .second, .unset, .unset, .unset, .unset] [(.int (1 : Int32)), (.int ((0 : Int32) + (1 : Int32)))]))
        refine own_by (fun _ kont => XS.iadd X0.here hx rfl (hb hby d1_36) rfl kont) ?_
        show own_Go p e below _ (s₁.setTop (mkF m 37 #[.val (.int v0), .val (.int v1), .val (.int v2), .val (.long x0), .second, .val (.long x1), .second, .val (.long x2), .second, .unset, .unset, .unset, .unset] [(.int (((0 : Int32) + (1 : Int32)) + (1 : Int32)))]))
        refine own_by (fun _ kont => XS.istore X0.here hx rfl (hb hby d1_37) rfl (l' := #[.val (.int v0), .val (.int v1), .val (.int v2), .val (.long x0), .second, .val (.long x1), .second, .val (.long x2), .second, .val (.int (((0 : Int32) + (1 : Int32)) + (1 : Int32))), .unset, .unset, .unset]) rfl kont) ?_
        show own_Go p e below _ (s₁.setTop (mkF m 39 #[.val (.int v0), .val (.int v1), .val (.int v2), .val (.long x0), .second, .val (.long x1), .second, .val (.long x2), .second, .val (.int (((0 : Int32) + (1 : Int32)) + (1 : Int32))), .unset, .unset, .unset] []))
        refine own_by (fun _ kont => XS.iload X0.here hx rfl (hb hby d1_39) rfl kont) ?_
        show own_Go p e below _ (s₁.setTop (mkF m 41 #[.val (.int v0), .val (.int v1), .val (.int v2), .val (.long x0), .second, .val (.long x1), .second, .val (.long x2), .second, .val (.int (((0 : Int32) + (1 : Int32)) + (1 : Int32))), .unset, .unset, .unset] [(.int (((0 : Int32) + (1 : Int32)) + (1 : Int32)))]))
        obtain ⟨T188, h188, a188, X188, e188, g188, E188, H188, st188⟩ := own_newIA X0 hx hZ (hw _ (List.mem_of_getElem? (i := 6) rfl)) e0 (g := (mkF m 41 #[.val (.int v0), .val (.int v1), .val (.int v2), .val (.long x0), .second, .val (.long x1), .second, .val (.long x2), .second, .val (.int (((0 : Int32) + (1 : Int32)) + (1 : Int32))), .unset, .unset, .unset] [(.int (((0 : Int32) + (1 : Int32)) + (1 : Int32)))])) rfl (hb hby d1_41) rfl 2 (by decide) (cap := 2) (by decide) (by decide) (by decide) (by decide)
        have ge188 : n0 ≤ a188 := by rw [g188]; exact Z0
        have lb188 : h0.size ≤ a188 := by rw [g188]; exact KP0.1
        have Z188 : n0 ≤ h188.size := Nat.le_trans Z0 E188.1
        have KP188 : Keep h0 h188 [] := KP0.ext E188
        refine own_by st188 ?_
        show own_Go p e below _ (T188.setTop (mkF m 43 #[.val (.int v0), .val (.int v1), .val (.int v2), .val (.long x0), .second, .val (.long x1), .second, .val (.long x2), .second, .val (.int (((0 : Int32) + (1 : Int32)) + (1 : Int32))), .unset, .unset, .unset] [(.ref a188)]))
        refine own_by (fun _ kont => XS.astore X188.here hx rfl (hb hby d1_43) rfl rfl (l' := #[.val (.int v0), .val (.int v1), .val (.int v2), .val (.long x0), .second, .val (.long x1), .second, .val (.long x2), .second, .val (.int (((0 : Int32) + (1 : Int32)) + (1 : Int32))), .val (.ref a188), .unset, .unset]) rfl kont) ?_
        show own_Go p e below _ (T188.setTop (mkF m 45 #[.val (.int v0), .val (.int v1), .val (.int v2), .val (.long x0), .second, .val (.long x1), .second, .val (.long x2), .second, .val (.int (((0 : Int32) + (1 : Int32)) + (1 : Int32))), .val (.ref a188), .unset, .unset] []))
        refine own_by (fun _ kont => XS.iload X188.here hx rfl (hb hby d1_45) rfl kont) ?_
        show own_Go p e below _ (T188.setTop (mkF m 47 #[.val (.int v0), .val (.int v1), .val (.int v2), .val (.long x0), .second, .val (.long x1), .second, .val (.long x2), .second, .val (.int (((0 : Int32) + (1 : Int32)) + (1 : Int32))), .val (.ref a188), .unset, .unset] [(.int (((0 : Int32) + (1 : Int32)) + (1 : Int32)))]))
        obtain ⟨T189, h189, a189, X189, e189, g189, E189, H189, st189⟩ := own_newLA X188 hx hZ (hw _ (List.mem_of_getElem? (i := 7) rfl)) e188 (g := (mkF m 47 #[.val (.int v0), .val (.int v1), .val (.int v2), .val (.long x0), .second, .val (.long x1), .second, .val (.long x2), .second, .val (.int (((0 : Int32) + (1 : Int32)) + (1 : Int32))), .val (.ref a188), .unset, .unset] [(.int (((0 : Int32) + (1 : Int32)) + (1 : Int32)))])) rfl (hb hby d1_47) rfl 2 (by decide) (cap := 2) (by decide) (by decide) (by decide) (by decide)
        have ne190 : a188 ≠ a189 := by rw [g189]; exact Nat.ne_of_lt (own_IA_lt H188)
        have ge189 : n0 ≤ a189 := by rw [g189]; exact Z188
        have lb189 : h0.size ≤ a189 := by rw [g189]; exact KP188.1
        have Z189 : n0 ≤ h189.size := Nat.le_trans Z188 E189.1
        have KP189 : Keep h0 h189 [] := KP188.ext E189
        refine own_by st189 ?_
        show own_Go p e below _ (T189.setTop (mkF m 49 #[.val (.int v0), .val (.int v1), .val (.int v2), .val (.long x0), .second, .val (.long x1), .second, .val (.long x2), .second, .val (.int (((0 : Int32) + (1 : Int32)) + (1 : Int32))), .val (.ref a188), .unset, .unset] [(.ref a189)]))
        refine own_by (fun _ kont => XS.astore X189.here hx rfl (hb hby d1_49) rfl rfl (l' := #[.val (.int v0), .val (.int v1), .val (.int v2), .val (.long x0), .second, .val (.long x1), .second, .val (.long x2), .second, .val (.int (((0 : Int32) + (1 : Int32)) + (1 : Int32))), .val (.ref a188), .val (.ref a189), .unset]) rfl kont) ?_
        show own_Go p e below _ (T189.setTop (mkF m 51 #[.val (.int v0), .val (.int v1), .val (.int v2), .val (.long x0), .second, .val (.long x1), .second, .val (.long x2), .second, .val (.int (((0 : Int32) + (1 : Int32)) + (1 : Int32))), .val (.ref a188), .val (.ref a189), .unset] []))
        refine own_by (fun _ kont => XT.iconstV X189.here hx rfl (0 : Int32) (hb hby d1_51) rfl kont) ?_
        show own_Go p e below _ (T189.setTop (mkF m 52 #[.val (.int v0), .val (.int v1), .val (.int v2), .val (.long x0), .second, .val (.long x1), .second, .val (.long x2), .second, .val (.int (((0 : Int32) + (1 : Int32)) + (1 : Int32))), .val (.ref a188), .val (.ref a189), .unset] [(.int (0 : Int32))]))
        refine own_by (fun _ kont => XS.istore X189.here hx rfl (hb hby d1_52) rfl (l' := #[.val (.int v0), .val (.int v1), .val (.int v2), .val (.long x0), .second, .val (.long x1), .second, .val (.long x2), .second, .val (.int (((0 : Int32) + (1 : Int32)) + (1 : Int32))), .val (.ref a188), .val (.ref a189), .val (.int (0 : Int32))]) rfl kont) ?_
        show own_Go p e below _ (T189.setTop (mkF m 54 #[.val (.int v0), .val (.int v1), .val (.int v2), .val (.long x0), .second, .val (.long x1), .second, .val (.long x2), .second, .val (.int (((0 : Int32) + (1 : Int32)) + (1 : Int32))), .val (.ref a188), .val (.ref a189), .val (.int (0 : Int32))] []))
        refine own_by (fun _ kont => XT.lloadN X189.here hx rfl (hb hby d1_54) rfl kont) ?_
        show own_Go p e below _ (T189.setTop (mkF m 55 #[.val (.int v0), .val (.int v1), .val (.int v2), .val (.long x0), .second, .val (.long x1), .second, .val (.long x2), .second, .val (.int (((0 : Int32) + (1 : Int32)) + (1 : Int32))), .val (.ref a188), .val (.ref a189), .val (.int (0 : Int32))] [(.long x0)]))
        refine own_by (fun _ kont => XT.lconstV X189.here hx rfl (0 : Int64) (hb hby d1_55) rfl kont) ?_
        show own_Go p e below _ (T189.setTop (mkF m 56 #[.val (.int v0), .val (.int v1), .val (.int v2), .val (.long x0), .second, .val (.long x1), .second, .val (.long x2), .second, .val (.int (((0 : Int32) + (1 : Int32)) + (1 : Int32))), .val (.ref a188), .val (.ref a189), .val (.int (0 : Int32))] [(.long (0 : Int64)), (.long x0)]))
        refine own_by (fun _ kont => XT.lcmp X189.here hx rfl (hb hby d1_56) rfl kont) ?_
        show own_Go p e below _ (T189.setTop (mkF m 57 #[.val (.int v0), .val (.int v1), .val (.int v2), .val (.long x0), .second, .val (.long x1), .second, .val (.long x2), .second, .val (.int (((0 : Int32) + (1 : Int32)) + (1 : Int32))), .val (.ref a188), .val (.ref a189), .val (.int (0 : Int32))] [(.int (XT.cmpL x0 (0 : Int64)))]))
        refine own_by (fun _ kont => XS.ifYes X189.here hx rfl (pc0 := 57) (pc' := 75) rfl (hb hby d1_57) rfl (XT.ll_le_t c0) (by decide) (by decide) kont) ?_
        show own_Go p e below _ (T189.setTop (mkF m 75 #[.val (.int v0), .val (.int v1), .val (.int v2), .val (.long x0), .second, .val (.long x1), .second, .val (.long x2), .second, .val (.int (((0 : Int32) + (1 : Int32)) + (1 : Int32))), .val (.ref a188), .val (.ref a189), .val (.int (0 : Int32))] []))
        refine own_by (fun _ kont => XT.lload X189.here hx rfl (hb hby d1_75) rfl kont) ?_
        show own_Go p e below _ (T189.setTop (mkF m 77 #[.val (.int v0), .val (.int v1), .val (.int v2), .val (.long x0), .second, .val (.long x1), .second, .val (.long x2), .second, .val (.int (((0 : Int32) + (1 : Int32)) + (1 : Int32))), .val (.ref a188), .val (.ref a189), .val (.int (0 : Int32))] [(.long x1)]))
        refine own_by (fun _ kont => XT.lconstV X189.here hx rfl (0 : Int64) (hb hby d1_77) rfl kont) ?_
        show own_Go p e below _ (T189.setTop (mkF m 78 #[.val (.int v0), .val (.int v1), .val (.int v2), .val (.long x0), .second, .val (.long x1), .second, .val (.long x2), .second, .val (.int (((0 : Int32) + (1 : Int32)) + (1 : Int32))), .val (.ref a188), .val (.ref a189), .val (.int (0 : Int32))] [(.long (0 : Int64)), (.long x1)]))
        refine own_by (fun _ kont => XT.lcmp X189.here hx rfl (hb hby d1_78) rfl kont) ?_
        show own_Go p e below _ (T189.setTop (mkF m 79 #[.val (.int v0), .val (.int v1), .val (.int v2), .val (.long x0), .second, .val (.long x1), .second, .val (.long x2), .second, .val (.int (((0 : Int32) + (1 : Int32)) + (1 : Int32))), .val (.ref a188), .val (.ref a189), .val (.int (0 : Int32))] [(.int (XT.cmpL x1 (0 : Int64)))]))
        refine own_by (fun _ kont => XS.ifNo X189.here hx rfl (hb hby d1_79) rfl (XT.ll_le_f c1) kont) ?_
        show own_Go p e below _ (T189.setTop (mkF m 82 #[.val (.int v0), .val (.int v1), .val (.int v2), .val (.long x0), .second, .val (.long x1), .second, .val (.long x2), .second, .val (.int (((0 : Int32) + (1 : Int32)) + (1 : Int32))), .val (.ref a188), .val (.ref a189), .val (.int (0 : Int32))] []))
        refine own_by (fun _ kont => XS.aload X189.here hx rfl (hb hby d1_82) rfl rfl kont) ?_
        show own_Go p e below _ (T189.setTop (mkF m 84 #[.val (.int v0), .val (.int v1), .val (.int v2), .val (.long x0), .second, .val (.long x1), .second, .val (.long x2), .second, .val (.int (((0 : Int32) + (1 : Int32)) + (1 : Int32))), .val (.ref a188), .val (.ref a189), .val (.int (0 : Int32))] [(.ref a188)]))
        refine own_by (fun _ kont => XS.iload X189.here hx rfl (hb hby d1_84) rfl kont) ?_
        show own_Go p e below _ (T189.setTop (mkF m 86 #[.val (.int v0), .val (.int v1), .val (.int v2), .val (.long x0), .second, .val (.long x1), .second, .val (.long x2), .second, .val (.int (((0 : Int32) + (1 : Int32)) + (1 : Int32))), .val (.ref a188), .val (.ref a189), .val (.int (0 : Int32))] [(.int (0 : Int32)), (.ref a188)]))
        refine own_by (fun _ kont => XS.iloadN X189.here hx rfl (hb hby d1_86) rfl kont) ?_
        show own_Go p e below _ (T189.setTop (mkF m 87 #[.val (.int v0), .val (.int v1), .val (.int v2), .val (.long x0), .second, .val (.long x1), .second, .val (.long x2), .second, .val (.int (((0 : Int32) + (1 : Int32)) + (1 : Int32))), .val (.ref a188), .val (.ref a189), .val (.int (0 : Int32))] [(.int v1), (.int (0 : Int32)), (.ref a188)]))
        have F191 : own_IA Z h189 a188 2 (fun _ => 0) := (own_IA_ext H188 E189)
        obtain ⟨T192, h192, X192, e192, W192, H192, st192⟩ := own_stN X189 hx hZ e189 F191 (j := (0 : Int32)) 0 (by decide) (by decide) (g := (mkF m 87 #[.val (.int v0), .val (.int v1), .val (.int v2), .val (.long x0), .second, .val (.long x1), .second, .val (.long x2), .second, .val (.int (((0 : Int32) + (1 : Int32)) + (1 : Int32))), .val (.ref a188), .val (.ref a189), .val (.int (0 : Int32))] [(.int v1), (.int (0 : Int32)), (.ref a188)])) rfl rfl (hb hby d1_87)
        obtain ⟨L192, X192, M192⟩ := own_hide X192 (Fr.snoc X192 N0 ge188)
        have Z192 : n0 ≤ h192.size := (by rw [Wr.size W192]; exact Z189)
        have KP192 : Keep h0 h192 [] := KP189.wr W192 (Or.inr lb188)
        refine own_by st192 ?_
        show own_Go p e below _ (T192.setTop (mkF m 88 #[.val (.int v0), .val (.int v1), .val (.int v2), .val (.long x0), .second, .val (.long x1), .second, .val (.long x2), .second, .val (.int (((0 : Int32) + (1 : Int32)) + (1 : Int32))), .val (.ref a188), .val (.ref a189), .val (.int (0 : Int32))] []))
        refine own_by (fun _ kont => XS.aload X192.here hx rfl (hb hby d1_88) rfl rfl kont) ?_
        show own_Go p e below _ (T192.setTop (mkF m 90 #[.val (.int v0), .val (.int v1), .val (.int v2), .val (.long x0), .second, .val (.long x1), .second, .val (.long x2), .second, .val (.int (((0 : Int32) + (1 : Int32)) + (1 : Int32))), .val (.ref a188), .val (.ref a189), .val (.int (0 : Int32))] [(.ref a189)]))
        refine own_by (fun _ kont => XS.iload X192.here hx rfl (hb hby d1_90) rfl kont) ?_
        show own_Go p e below _ (T192.setTop (mkF m 92 #[.val (.int v0), .val (.int v1), .val (.int v2), .val (.long x0), .second, .val (.long x1), .second, .val (.long x2), .second, .val (.int (((0 : Int32) + (1 : Int32)) + (1 : Int32))), .val (.ref a188), .val (.ref a189), .val (.int (0 : Int32))] [(.int (0 : Int32)), (.ref a189)]))
        refine own_by (fun _ kont => XT.lload X192.here hx rfl (hb hby d1_92) rfl kont) ?_
        show own_Go p e below _ (T192.setTop (mkF m 94 #[.val (.int v0), .val (.int v1), .val (.int v2), .val (.long x0), .second, .val (.long x1), .second, .val (.long x2), .second, .val (.int (((0 : Int32) + (1 : Int32)) + (1 : Int32))), .val (.ref a188), .val (.ref a189), .val (.int (0 : Int32))] [(.long x1), (.int (0 : Int32)), (.ref a189)]))
        have F193 : own_LA Z h192 a189 2 (fun _ => 0) := (own_LA_other H189 W192 (Ne.symm ne190))
        obtain ⟨T194, h194, X194, e194, W194, H194, st194⟩ := own_stL X192 hx hZ e192 F193 (j := (0 : Int32)) 0 (by decide) (by decide) (g := (mkF m 94 #[.val (.int v0), .val (.int v1), .val (.int v2), .val (.long x0), .second, .val (.long x1), .second, .val (.long x2), .second, .val (.int (((0 : Int32) + (1 : Int32)) + (1 : Int32))), .val (.ref a188), .val (.ref a189), .val (.int (0 : Int32))] [(.long x1), (.int (0 : Int32)), (.ref a189)])) rfl rfl (hb hby d1_94)
        obtain ⟨L194, X194, M194⟩ := own_hide X194 (Fr.snoc X194 M192 ge189)
        have Z194 : n0 ≤ h194.size := (by rw [Wr.size W194]; exact Z192)
        have KP194 : Keep h0 h194 [] := KP192.wr W194 (Or.inr lb189)
        refine own_by st194 ?_
        show own_Go p e below _ (T194.setTop (mkF m 95 #[.val (.int v0), .val (.int v1), .val (.int v2), .val (.long x0), .second, .val (.long x1), .second, .val (.long x2), .second, .val (.int (((0 : Int32) + (1 : Int32)) + (1 : Int32))), .val (.ref a188), .val (.ref a189), .val (.int (0 : Int32))] []))
        refine own_by (fun _ kont => XT.iincV X194.here hx rfl (1 : Int32) (hb hby d1_95) rfl rfl (l' := #[.val (.int v0), .val (.int v1), .val (.int v2), .val (.long x0), .second, .val (.long x1), .second, .val (.long x2), .second, .val (.int (((0 : Int32) + (1 : Int32)) + (1 : Int32))), .val (.ref a188), .val (.ref a189), .val (.int ((0 : Int32) + (1 : Int32)))]) rfl kont) ?_
        show own_Go p e below _ (T194.setTop (mkF m 98 #[.val (.int v0), .val (.int v1), .val (.int v2), .val (.long x0), .second, .val (.long x1), .second, .val (.long x2), .second, .val (.int (((0 : Int32) + (1 : Int32)) + (1 : Int32))), .val (.ref a188), .val (.ref a189), .val (.int ((0 : Int32) + (1 : Int32)))] []))
        refine own_by (fun _ kont => XT.lload X194.here hx rfl (hb hby d1_98) rfl kont) ?_
        show own_Go p e below _ (T194.setTop (mkF m 100 #[.val (.int v0), .val (.int v1), .val (.int v2), .val (.long x0), .second, .val (.long x1), .second, .val (.long x2), .second, .val (.int (((0 : Int32) + (1 : Int32)) + (1 : Int32))), .val (.ref a188), .val (.ref a189), .val (.int ((0 : Int32) + (1 : Int32)))] [(.long x2)]))
        refine own_by (fun _ kont => XT.lconstV X194.here hx rfl (0 : Int64) (hb hby d1_100) rfl kont) ?_
        show own_Go p e below _ (T194.setTop (mkF m 101 #[.val (.int v0), .val (.int v1), .val (.int v2), .val (.long x0), .second, .val (.long x1), .second, .val (.long x2), .second, .val (.int (((0 : Int32) + (1 : Int32)) + (1 : Int32))), .val (.ref a188), .val (.ref a189), .val (.int ((0 : Int32) + (1 : Int32)))] [(.long (0 : Int64)), (.long x2)]))
        refine own_by (fun _ kont => XT.lcmp X194.here hx rfl (hb hby d1_101) rfl kont) ?_
        show own_Go p e below _ (T194.setTop (mkF m 102 #[.val (.int v0), .val (.int v1), .val (.int v2), .val (.long x0), .second, .val (.long x1), .second, .val (.long x2), .second, .val (.int (((0 : Int32) + (1 : Int32)) + (1 : Int32))), .val (.ref a188), .val (.ref a189), .val (.int ((0 : Int32) + (1 : Int32)))] [(.int (XT.cmpL x2 (0 : Int64)))]))
        refine own_by (fun _ kont => XS.ifNo X194.here hx rfl (hb hby d1_102) rfl (XT.ll_le_f c2) kont) ?_
        show own_Go p e below _ (T194.setTop (mkF m 105 #[.val (.int v0), .val (.int v1), .val (.int v2), .val (.long x0), .second, .val (.long x1), .second, .val (.long x2), .second, .val (.int (((0 : Int32) + (1 : Int32)) + (1 : Int32))), .val (.ref a188), .val (.ref a189), .val (.int ((0 : Int32) + (1 : Int32)))] []))
        refine own_by (fun _ kont => XS.aload X194.here hx rfl (hb hby d1_105) rfl rfl kont) ?_
        show own_Go p e below _ (T194.setTop (mkF m 107 #[.val (.int v0), .val (.int v1), .val (.int v2), .val (.long x0), .second, .val (.long x1), .second, .val (.long x2), .second, .val (.int (((0 : Int32) + (1 : Int32)) + (1 : Int32))), .val (.ref a188), .val (.ref a189), .val (.int ((0 : Int32) + (1 : Int32)))] [(.ref a188)]))
        refine own_by (fun _ kont => XS.iload X194.here hx rfl (hb hby d1_107) rfl kont) ?_
        show own_Go p e below _ (T194.setTop (mkF m 109 #[.val (.int v0), .val (.int v1), .val (.int v2), .val (.long x0), .second, .val (.long x1), .second, .val (.long x2), .second, .val (.int (((0 : Int32) + (1 : Int32)) + (1 : Int32))), .val (.ref a188), .val (.ref a189), .val (.int ((0 : Int32) + (1 : Int32)))] [(.int ((0 : Int32) + (1 : Int32))), (.ref a188)]))
        refine own_by (fun _ kont => XS.iloadN X194.here hx rfl (hb hby d1_109) rfl kont) ?_
        show own_Go p e below _ (T194.setTop (mkF m 110 #[.val (.int v0), .val (.int v1), .val (.int v2), .val (.long x0), .second, .val (.long x1), .second, .val (.long x2), .second, .val (.int (((0 : Int32) + (1 : Int32)) + (1 : Int32))), .val (.ref a188), .val (.ref a189), .val (.int ((0 : Int32) + (1 : Int32)))] [(.int v2), (.int ((0 : Int32) + (1 : Int32))), (.ref a188)]))
        have F195 : own_IA Z h194 a188 2 (fun i => if i = 0 then v1 else (fun _ => 0) i) := (own_IA_other H192 W194 ne190)
        obtain ⟨T196, h196, X196, e196, W196, H196, st196⟩ := own_stN X194 hx hZ e194 F195 (j := ((0 : Int32) + (1 : Int32))) 1 (by decide) (by decide) (g := (mkF m 110 #[.val (.int v0), .val (.int v1), .val (.int v2), .val (.long x0), .second, .val (.long x1), .second, .val (.long x2), .second, .val (.int (((0 : Int32) + (1 : Int32)) + (1 : Int32))), .val (.ref a188), .val (.ref a189), .val (.int ((0 : Int32) + (1 : Int32)))] [(.int v2), (.int ((0 : Int32) + (1 : Int32))), (.ref a188)])) rfl rfl (hb hby d1_110)
        obtain ⟨L196, X196, M196⟩ := own_hide X196 (Fr.snoc X196 M194 ge188)
        have Z196 : n0 ≤ h196.size := (by rw [Wr.size W196]; exact Z194)
        have KP196 : Keep h0 h196 [] := KP194.wr W196 (Or.inr lb188)
        refine own_by st196 ?_
        show own_Go p e below _ (T196.setTop (mkF m 111 #[.val (.int v0), .val (.int v1), .val (.int v2), .val (.long x0), .second, .val (.long x1), .second, .val (.long x2), .second, .val (.int (((0 : Int32) + (1 : Int32)) + (1 : Int32))), .val (.ref a188), .val (.ref a189), .val (.int ((0 : Int32) + (1 : Int32)))] []))
        refine own_by (fun _ kont => XS.aload X196.here hx rfl (hb hby d1_111) rfl rfl kont) ?_
        show own_Go p e below _ (T196.setTop (mkF m 113 #[.val (.int v0), .val (.int v1), .val (.int v2), .val (.long x0), .second, .val (.long x1), .second, .val (.long x2), .second, .val (.int (((0 : Int32) + (1 : Int32)) + (1 : Int32))), .val (.ref a188), .val (.ref a189), .val (.int ((0 : Int32) + (1 : Int32)))] [(.ref a189)]))
        refine own_by (fun _ kont => XS.iload X196.here hx rfl (hb hby d1_113) rfl kont) ?_
        show own_Go p e below _ (T196.setTop (mkF m 115 #[.val (.int v0), .val (.int v1), .val (.int v2), .val (.long x0), .second, .val (.long x1), .second, .val (.long x2), .second, .val (.int (((0 : Int32) + (1 : Int32)) + (1 : Int32))), .val (.ref a188), .val (.ref a189), .val (.int ((0 : Int32) + (1 : Int32)))] [(.int ((0 : Int32) + (1 : Int32))), (.ref a189)]))
        refine own_by (fun _ kont => XT.lload X196.here hx rfl (hb hby d1_115) rfl kont) ?_
        show own_Go p e below _ (T196.setTop (mkF m 117 #[.val (.int v0), .val (.int v1), .val (.int v2), .val (.long x0), .second, .val (.long x1), .second, .val (.long x2), .second, .val (.int (((0 : Int32) + (1 : Int32)) + (1 : Int32))), .val (.ref a188), .val (.ref a189), .val (.int ((0 : Int32) + (1 : Int32)))] [(.long x2), (.int ((0 : Int32) + (1 : Int32))), (.ref a189)]))
        have F197 : own_LA Z h196 a189 2 (fun i => if i = 0 then x1 else (fun _ => 0) i) := (own_LA_other H194 W196 (Ne.symm ne190))
        obtain ⟨T198, h198, X198, e198, W198, H198, st198⟩ := own_stL X196 hx hZ e196 F197 (j := ((0 : Int32) + (1 : Int32))) 1 (by decide) (by decide) (g := (mkF m 117 #[.val (.int v0), .val (.int v1), .val (.int v2), .val (.long x0), .second, .val (.long x1), .second, .val (.long x2), .second, .val (.int (((0 : Int32) + (1 : Int32)) + (1 : Int32))), .val (.ref a188), .val (.ref a189), .val (.int ((0 : Int32) + (1 : Int32)))] [(.long x2), (.int ((0 : Int32) + (1 : Int32))), (.ref a189)])) rfl rfl (hb hby d1_117)
        obtain ⟨L198, X198, M198⟩ := own_hide X198 (Fr.snoc X198 M196 ge189)
        have Z198 : n0 ≤ h198.size := (by rw [Wr.size W198]; exact Z196)
        have KP198 : Keep h0 h198 [] := KP196.wr W198 (Or.inr lb189)
        refine own_by st198 ?_
        show own_Go p e below _ (T198.setTop (mkF m 118 #[.val (.int v0), .val (.int v1), .val (.int v2), .val (.long x0), .second, .val (.long x1), .second, .val (.long x2), .second, .val (.int (((0 : Int32) + (1 : Int32)) + (1 : Int32))), .val (.ref a188), .val (.ref a189), .val (.int ((0 : Int32) + (1 : Int32)))] []))
        refine own_by (fun _ kont => XT.iincV X198.here hx rfl (1 : Int32) (hb hby d1_118) rfl rfl (l' := #[.val (.int v0), .val (.int v1), .val (.int v2), .val (.long x0), .second, .val (.long x1), .second, .val (.long x2), .second, .val (.int (((0 : Int32) + (1 : Int32)) + (1 : Int32))), .val (.ref a188), .val (.ref a189), .val (.int (((0 : Int32) + (1 : Int32)) + (1 : Int32)))]) rfl kont) ?_
        show own_Go p e below _ (T198.setTop (mkF m 121 #[.val (.int v0), .val (.int v1), .val (.int v2), .val (.long x0), .second, .val (.long x1), .second, .val (.long x2), .second, .val (.int (((0 : Int32) + (1 : Int32)) + (1 : Int32))), .val (.ref a188), .val (.ref a189), .val (.int (((0 : Int32) + (1 : Int32)) + (1 : Int32)))] []))
        obtain ⟨T199, h199, X199, e199, E199, A199, D199, -, st199⟩ := newO X198 hx hZ hown (hw _ (List.mem_of_getElem? (i := 8) rfl)) (hw _ (List.mem_of_getElem? (i := 9) rfl)) (hw _ (List.mem_of_getElem? (i := 10) rfl)) e198 (g := (mkF m 121 #[.val (.int v0), .val (.int v1), .val (.int v2), .val (.long x0), .second, .val (.long x1), .second, .val (.long x2), .second, .val (.int (((0 : Int32) + (1 : Int32)) + (1 : Int32))), .val (.ref a188), .val (.ref a189), .val (.int (((0 : Int32) + (1 : Int32)) + (1 : Int32)))] [])) rfl (hb hby d1_121) (by decide) (by decide)
        obtain ⟨a199, g199⟩ : ∃ z, z = h198.size := ⟨_, rfl⟩
        rw [← g199] at A199 D199 st199
        have F200 : own_IA Z h198 a188 2 (fun i => if i = 1 then v2 else (fun i => if i = 0 then v1 else (fun _ => 0) i) i) := (own_IA_other H196 W198 ne190)
        have ne201 : a188 ≠ a199 := by rw [g199]; exact Nat.ne_of_lt (own_IA_lt F200)
        have ne202 : a189 ≠ a199 := by rw [g199]; exact Nat.ne_of_lt (own_LA_lt H198)
        have ge199 : n0 ≤ a199 := by rw [g199]; exact Z198
        have lb199 : h0.size ≤ a199 := by rw [g199]; exact KP198.1
        have Z199 : n0 ≤ h199.size := Nat.le_trans Z198 E199.1
        have KP199 : Keep h0 h199 [] := KP198.ext E199
        have F203 : Fld Z h199 a199 "com/example/conjecta/conjecta/model/Values" "variables" "[I" .null := D199 (Or.inr (hw _ (List.mem_of_getElem? (i := 18) rfl))) (ty := (.array .int)) (by decide)
        have F204 : Fld Z h199 a199 "com/example/conjecta/conjecta/model/Values" "values" "[J" .null := D199 (Or.inr (hw _ (List.mem_of_getElem? (i := 20) rfl))) (ty := (.array .long)) (by decide)
        refine own_by st199 ?_
        show own_Go p e below _ (T199.setTop (mkF m 124 #[.val (.int v0), .val (.int v1), .val (.int v2), .val (.long x0), .second, .val (.long x1), .second, .val (.long x2), .second, .val (.int (((0 : Int32) + (1 : Int32)) + (1 : Int32))), .val (.ref a188), .val (.ref a189), .val (.int (((0 : Int32) + (1 : Int32)) + (1 : Int32)))] [(.ref a199)]))
        refine own_by (fun _ kont => XS.dup X199.here hx rfl (hb hby d1_124) rfl rfl kont) ?_
        show own_Go p e below _ (T199.setTop (mkF m 125 #[.val (.int v0), .val (.int v1), .val (.int v2), .val (.long x0), .second, .val (.long x1), .second, .val (.long x2), .second, .val (.int (((0 : Int32) + (1 : Int32)) + (1 : Int32))), .val (.ref a188), .val (.ref a189), .val (.int (((0 : Int32) + (1 : Int32)) + (1 : Int32)))] [(.ref a199), (.ref a199)]))
        refine own_by (fun _ kont => XS.aload X199.here hx rfl (hb hby d1_125) rfl rfl kont) ?_
        show own_Go p e below _ (T199.setTop (mkF m 127 #[.val (.int v0), .val (.int v1), .val (.int v2), .val (.long x0), .second, .val (.long x1), .second, .val (.long x2), .second, .val (.int (((0 : Int32) + (1 : Int32)) + (1 : Int32))), .val (.ref a188), .val (.ref a189), .val (.int (((0 : Int32) + (1 : Int32)) + (1 : Int32)))] [(.ref a188), (.ref a199), (.ref a199)]))
        refine own_by (fun _ kont => XS.aload X199.here hx rfl (hb hby d1_127) rfl rfl kont) ?_
        show own_Go p e below _ (T199.setTop (mkF m 129 #[.val (.int v0), .val (.int v1), .val (.int v2), .val (.long x0), .second, .val (.long x1), .second, .val (.long x2), .second, .val (.int (((0 : Int32) + (1 : Int32)) + (1 : Int32))), .val (.ref a188), .val (.ref a189), .val (.int (((0 : Int32) + (1 : Int32)) + (1 : Int32)))] [(.ref a189), (.ref a188), (.ref a199), (.ref a199)]))
        obtain ⟨_, _, ⟨T205, L205, k205, n205⟩, -, X205, ⟨Lc205, hQ205, l205, y205, z205⟩, st205⟩ := X199.specialBack hx (y := (⟨"com/example/conjecta/conjecta/model/Values", "<init>", "([I[J)V"⟩ : MethodName)) rfl hown (mvT hZ (hw _ (List.mem_of_getElem? (i := 11) rfl))) (mvT hZ (hw _ (List.mem_of_getElem? (i := 12) rfl))) (mvT hZ (hw _ (List.mem_of_getElem? (i := 13) rfl))) (by decide) (backOf (W := 1) (rmI l Z a0 hw [] a199 a188 a189 h199 n0 A199 F203 F204 ge199) hZ (hw _ (List.mem_of_getElem? (i := 13) rfl)) (hw _ (List.mem_of_getElem? (i := 10) rfl)) (by decide) (by decide)) (g := (mkF m 129 #[.val (.int v0), .val (.int v1), .val (.int v2), .val (.long x0), .second, .val (.long x1), .second, .val (.long x2), .second, .val (.int (((0 : Int32) + (1 : Int32)) + (1 : Int32))), .val (.ref a188), .val (.ref a189), .val (.int (((0 : Int32) + (1 : Int32)) + (1 : Int32)))] [(.ref a189), (.ref a188), (.ref a199), (.ref a199)])) rfl (by rw [hml]; rfl) (Steps.refl _) (a := a199) (argsL := [(.ref a188), (.ref a189)]) (rest := [(.ref a199)]) (lenOf own_pd3 rfl) rfl (by show 2 * 0 + _ ≤ _; exact Nat.le_of_eq rfl) (hb hby d1_129) (fun _ _ => ⟨rfl, e199, (by decide : 3 + 0 ≤ _), (by decide : 6 + 0 ≤ _)⟩)
        dsimp only [Pt.U, Pt.locs, Pt.cells, Pt.slots] at X205 l205 y205 z205 st205 hQ205
        subst l205 y205 z205
        refine own_tr st205 ?_
        obtain ⟨rfl, N205, K205, E205, F205, G205⟩ := hQ205
        obtain ⟨L205, X205, M205⟩ := own_hide X205 (Fr.app M198 N205)
        obtain ⟨h205, e205⟩ : ∃ h, T205.heap = h := ⟨_, rfl⟩
        rw [e205] at K205 E205 F205 G205
        have Z205 : n0 ≤ h205.size := Nat.le_trans Z199 K205.1
        have KP205 : Keep h0 h205 [] := KP199.trans K205 (fun x hx => by cases List.mem_singleton.mp hx; exact Or.inr lb199)
        show own_Go p e below _ (T205.setTop (mkF m 132 #[.val (.int v0), .val (.int v1), .val (.int v2), .val (.long x0), .second, .val (.long x1), .second, .val (.long x2), .second, .val (.int (((0 : Int32) + (1 : Int32)) + (1 : Int32))), .val (.ref a188), .val (.ref a189), .val (.int (((0 : Int32) + (1 : Int32)) + (1 : Int32)))] [(.ref a199)]))
        have F206 : own_IA Z h205 a188 2 (fun i => if i = 1 then v2 else (fun i => if i = 0 then v1 else (fun _ => 0) i) i) := (own_IA_keep (own_IA_ext F200 E199) K205 (ninS ne201 nin0))
        have F207 : own_LA Z h205 a189 2 (fun i => if i = 1 then x2 else (fun i => if i = 0 then x1 else (fun _ => 0) i) i) := (own_LA_keep (own_LA_ext H198 E199) K205 (ninS ne202 nin0))
        have hl : own_lst v0 v1 v2 x0 x1 x2 = [(v1, x1), (v2, x2)] := by simp only [own_lst, c0, c1, c2, if_true, if_false, List.nil_append, List.cons_append, List.append_nil]
        refine own_ret X205 hx hlk hret rfl (Or.inr (Or.inr (Or.inr (Or.inr ⟨rfl, rfl, rfl⟩)))) (hb hby d1_132) ⟨a199, rfl, M205, ?_⟩ (by decide) (by decide)
        rw [e205, hl]
        refine ⟨KP205, a188, a189, E205, F205, G205, own_IA_congr F206 ?_, own_LA_congr F207 ?_⟩
        · intro i hi
          match i, hi with
          | 0, _ => rfl
          | 1, _ => rfl
          | k + 2, hk => exact absurd hk (by simp only [List.length_cons, List.length_nil]; omega)
        · intro i hi
          match i, hi with
          | 0, _ => rfl
          | 1, _ => rfl
          | k + 2, hk => exact absurd hk (by simp only [List.length_cons, List.length_nil]; omega)
      · refine own_by (fun _ kont => XT.lloadN X0.here hx rfl (hb hby d1_0) rfl kont) ?_
        show own_Go p e below _ (s₁.setTop (mkF m 1 #[.val (.int v0), .val (.int v1), .val (.int v2), .val (.long x0), .second, .val (.long x1), .second, .val (.long x2), .second, .unset, .unset, .unset, .unset] [(.long x0)]))
        refine own_by (fun _ kont => XT.lconstV X0.here hx rfl (0 : Int64) (hb hby d1_1) rfl kont) ?_
        show own_Go p e below _ (s₁.setTop (mkF m 2 #[.val (.int v0), .val (.int v1), .val (.int v2), .val (.long x0), .second, .val (.long x1), .second, .val (.long x2), .second, .unset, .unset, .unset, .unset] [(.long (0 : Int64)), (.long x0)]))
        refine own_by (fun _ kont => XT.lcmp X0.here hx rfl (hb hby d1_2) rfl kont) ?_
        show own_Go p e below _ (s₁.setTop (mkF m 3 #[.val (.int v0), .val (.int v1), .val (.int v2), .val (.long x0), .second, .val (.long x1), .second, .val (.long x2), .second, .unset, .unset, .unset, .unset] [(.int (XT.cmpL x0 (0 : Int64)))]))
        refine own_by (fun _ kont => XS.ifYes X0.here hx rfl (pc0 := 3) (pc' := 10) rfl (hb hby d1_3) rfl (XT.ll_le_t c0) (by decide) (by decide) kont) ?_
        show own_Go p e below _ (s₁.setTop (mkF m 10 #[.val (.int v0), .val (.int v1), .val (.int v2), .val (.long x0), .second, .val (.long x1), .second, .val (.long x2), .second, .unset, .unset, .unset, .unset] []))
        refine own_by (fun _ kont => XT.iconstV X0.here hx rfl (0 : Int32) (hb hby d1_10) rfl kont) ?_
        show own_Go p e below _ (s₁.setTop (mkF m 11 #[.val (.int v0), .val (.int v1), .val (.int v2), .val (.long x0), .second, .val (.long x1), .second, .val (.long x2), .second, .unset, .unset, .unset, .unset] [(.int (0 : Int32))]))
        refine own_by (fun _ kont => XT.lload X0.here hx rfl (hb hby d1_11) rfl kont) ?_
        show own_Go p e below _ (s₁.setTop (mkF m 13 #[.val (.int v0), .val (.int v1), .val (.int v2), .val (.long x0), .second, .val (.long x1), .second, .val (.long x2), .second, .unset, .unset, .unset, .unset] [(.long x1), (.int (0 : Int32))]))
        refine own_by (fun _ kont => XT.lconstV X0.here hx rfl (0 : Int64) (hb hby d1_13) rfl kont) ?_
        show own_Go p e below _ (s₁.setTop (mkF m 14 #[.val (.int v0), .val (.int v1), .val (.int v2), .val (.long x0), .second, .val (.long x1), .second, .val (.long x2), .second, .unset, .unset, .unset, .unset] [(.long (0 : Int64)), (.long x1), (.int (0 : Int32))]))
        refine own_by (fun _ kont => XT.lcmp X0.here hx rfl (hb hby d1_14) rfl kont) ?_
        show own_Go p e below _ (s₁.setTop (mkF m 15 #[.val (.int v0), .val (.int v1), .val (.int v2), .val (.long x0), .second, .val (.long x1), .second, .val (.long x2), .second, .unset, .unset, .unset, .unset] [(.int (XT.cmpL x1 (0 : Int64))), (.int (0 : Int32))]))
        refine own_by (fun _ kont => XS.ifNo X0.here hx rfl (hb hby d1_15) rfl (XT.ll_le_f c1) kont) ?_
        show own_Go p e below _ (s₁.setTop (mkF m 18 #[.val (.int v0), .val (.int v1), .val (.int v2), .val (.long x0), .second, .val (.long x1), .second, .val (.long x2), .second, .unset, .unset, .unset, .unset] [(.int (0 : Int32))]))
        refine own_by (fun _ kont => XT.iconstV X0.here hx rfl (1 : Int32) (hb hby d1_18) rfl kont) ?_
        show own_Go p e below _ (s₁.setTop (mkF m 19 #[.val (.int v0), .val (.int v1), .val (.int v2), .val (.long x0), .second, .val (.long x1), .second, .val (.long x2), .second, .unset, .unset, .unset, .unset] [(.int (1 : Int32)), (.int (0 : Int32))]))
        refine own_by (fun _ kont => XS.goto X0.here hx rfl (pc0 := 19) (pc' := 23) rfl (hb hby d1_19) (by decide) (by decide) kont) ?_
        show own_Go p e below _ (s₁.setTop (mkF m 23 #[.val (.int v0), .val (.int v1), .val (.int v2), .val (.long x0), .second, .val (.long x1), .second, .val (.long x2), .second, .unset, .unset, .unset, .unset] [(.int (1 : Int32)), (.int (0 : Int32))]))
        refine own_by (fun _ kont => XS.iadd X0.here hx rfl (hb hby d1_23) rfl kont) ?_
        show own_Go p e below _ (s₁.setTop (mkF m 24 #[.val (.int v0), .val (.int v1), .val (.int v2), .val (.long x0), .second, .val (.long x1), .second, .val (.long x2), .second, .unset, .unset, .unset, .unset] [(.int ((0 : Int32) + (1 : Int32)))]))
        refine own_by (fun _ kont => XT.lload X0.here hx rfl (hb hby d1_24) rfl kont) ?_
        show own_Go p e below _ (s₁.setTop (mkF m 26 #[.val (.int v0), .val (.int v1), .val (.int v2), .val (.long x0), .second, .val (.long x1), .second, .val (.long x2), .second, .unset, .unset, .unset, .unset] [(.long x2), (.int ((0 : Int32) + (1 : Int32)))]))
        refine own_by (fun _ kont => XT.lconstV X0.here hx rfl (0 : Int64) (hb hby d1_26) rfl kont) ?_
        show own_Go p e below _ (s₁.setTop (mkF m 27 #[.val (.int v0), .val (.int v1), .val (.int v2), .val (.long x0), .second, .val (.long x1), .second, .val (.long x2), .second, .unset, .unset, .unset, .unset] [(.long (0 : Int64)), (.long x2), (.int ((0 : Int32) + (1 : Int32)))]))
        refine own_by (fun _ kont => XT.lcmp X0.here hx rfl (hb hby d1_27) rfl kont) ?_
        show own_Go p e below _ (s₁.setTop (mkF m 28 #[.val (.int v0), .val (.int v1), .val (.int v2), .val (.long x0), .second, .val (.long x1), .second, .val (.long x2), .second, .unset, .unset, .unset, .unset] [(.int (XT.cmpL x2 (0 : Int64))), (.int ((0 : Int32) + (1 : Int32)))]))
        refine own_by (fun _ kont => XS.ifYes X0.here hx rfl (pc0 := 28) (pc' := 35) rfl (hb hby d1_28) rfl (XT.ll_le_t c2) (by decide) (by decide) kont) ?_
        show own_Go p e below _ (s₁.setTop (mkF m 35 #[.val (.int v0), .val (.int v1), .val (.int v2), .val (.long x0), .second, .val (.long x1), .second, .val (.long x2), .second, .unset, .unset, .unset, .unset] [(.int ((0 : Int32) + (1 : Int32)))]))
        refine own_by (fun _ kont => XT.iconstV X0.here hx rfl (0 : Int32) (hb hby d1_35) rfl kont) ?_
        show own_Go p e below _ (s₁.setTop (mkF m 36 #[.val (.int v0), .val (.int v1), .val (.int v2), .val (.long x0), .second, .val (.long x1), .second, .val (.long x2), .second, .unset, .unset, .unset, .unset] [(.int (0 : Int32)), (.int ((0 : Int32) + (1 : Int32)))]))
        refine own_by (fun _ kont => XS.iadd X0.here hx rfl (hb hby d1_36) rfl kont) ?_
        show own_Go p e below _ (s₁.setTop (mkF m 37 #[.val (.int v0), .val (.int v1), .val (.int v2), .val (.long x0), .second, .val (.long x1), .second, .val (.long x2), .second, .unset, .unset, .unset, .unset] [(.int (((0 : Int32) + (1 : Int32)) + (0 : Int32)))]))
        refine own_by (fun _ kont => XS.istore X0.here hx rfl (hb hby d1_37) rfl (l' := #[.val (.int v0), .val (.int v1), .val (.int v2), .val (.long x0), .second, .val (.long x1), .second, .val (.long x2), .second, .val (.int (((0 : Int32) + (1 : Int32)) + (0 : Int32))), .unset, .unset, .unset]) rfl kont) ?_
        show own_Go p e below _ (s₁.setTop (mkF m 39 #[.val (.int v0), .val (.int v1), .val (.int v2), .val (.long x0), .second, .val (.long x1), .second, .val (.long x2), .second, .val (.int (((0 : Int32) + (1 : Int32)) + (0 : Int32))), .unset, .unset, .unset] []))
        refine own_by (fun _ kont => XS.iload X0.here hx rfl (hb hby d1_39) rfl kont) ?_
        show own_Go p e below _ (s₁.setTop (mkF m 41 #[.val (.int v0), .val (.int v1), .val (.int v2), .val (.long x0), .second, .val (.long x1), .second, .val (.long x2), .second, .val (.int (((0 : Int32) + (1 : Int32)) + (0 : Int32))), .unset, .unset, .unset] [(.int (((0 : Int32) + (1 : Int32)) + (0 : Int32)))]))
        obtain ⟨T208, h208, a208, X208, e208, g208, E208, H208, st208⟩ := own_newIA X0 hx hZ (hw _ (List.mem_of_getElem? (i := 6) rfl)) e0 (g := (mkF m 41 #[.val (.int v0), .val (.int v1), .val (.int v2), .val (.long x0), .second, .val (.long x1), .second, .val (.long x2), .second, .val (.int (((0 : Int32) + (1 : Int32)) + (0 : Int32))), .unset, .unset, .unset] [(.int (((0 : Int32) + (1 : Int32)) + (0 : Int32)))])) rfl (hb hby d1_41) rfl 1 (by decide) (cap := 1) (by decide) (by decide) (by decide) (by decide)
        have ge208 : n0 ≤ a208 := by rw [g208]; exact Z0
        have lb208 : h0.size ≤ a208 := by rw [g208]; exact KP0.1
        have Z208 : n0 ≤ h208.size := Nat.le_trans Z0 E208.1
        have KP208 : Keep h0 h208 [] := KP0.ext E208
        refine own_by st208 ?_
        show own_Go p e below _ (T208.setTop (mkF m 43 #[.val (.int v0), .val (.int v1), .val (.int v2), .val (.long x0), .second, .val (.long x1), .second, .val (.long x2), .second, .val (.int (((0 : Int32) + (1 : Int32)) + (0 : Int32))), .unset, .unset, .unset] [(.ref a208)]))
        refine own_by (fun _ kont => XS.astore X208.here hx rfl (hb hby d1_43) rfl rfl (l' := #[.val (.int v0), .val (.int v1), .val (.int v2), .val (.long x0), .second, .val (.long x1), .second, .val (.long x2), .second, .val (.int (((0 : Int32) + (1 : Int32)) + (0 : Int32))), .val (.ref a208), .unset, .unset]) rfl kont) ?_
        show own_Go p e below _ (T208.setTop (mkF m 45 #[.val (.int v0), .val (.int v1), .val (.int v2), .val (.long x0), .second, .val (.long x1), .second, .val (.long x2), .second, .val (.int (((0 : Int32) + (1 : Int32)) + (0 : Int32))), .val (.ref a208), .unset, .unset] []))
        refine own_by (fun _ kont => XS.iload X208.here hx rfl (hb hby d1_45) rfl kont) ?_
        show own_Go p e below _ (T208.setTop (mkF m 47 #[.val (.int v0), .val (.int v1), .val (.int v2), .val (.long x0), .second, .val (.long x1), .second, .val (.long x2), .second, .val (.int (((0 : Int32) + (1 : Int32)) + (0 : Int32))), .val (.ref a208), .unset, .unset] [(.int (((0 : Int32) + (1 : Int32)) + (0 : Int32)))]))
        obtain ⟨T209, h209, a209, X209, e209, g209, E209, H209, st209⟩ := own_newLA X208 hx hZ (hw _ (List.mem_of_getElem? (i := 7) rfl)) e208 (g := (mkF m 47 #[.val (.int v0), .val (.int v1), .val (.int v2), .val (.long x0), .second, .val (.long x1), .second, .val (.long x2), .second, .val (.int (((0 : Int32) + (1 : Int32)) + (0 : Int32))), .val (.ref a208), .unset, .unset] [(.int (((0 : Int32) + (1 : Int32)) + (0 : Int32)))])) rfl (hb hby d1_47) rfl 1 (by decide) (cap := 1) (by decide) (by decide) (by decide) (by decide)
        have ne210 : a208 ≠ a209 := by rw [g209]; exact Nat.ne_of_lt (own_IA_lt H208)
        have ge209 : n0 ≤ a209 := by rw [g209]; exact Z208
        have lb209 : h0.size ≤ a209 := by rw [g209]; exact KP208.1
        have Z209 : n0 ≤ h209.size := Nat.le_trans Z208 E209.1
        have KP209 : Keep h0 h209 [] := KP208.ext E209
        refine own_by st209 ?_
        show own_Go p e below _ (T209.setTop (mkF m 49 #[.val (.int v0), .val (.int v1), .val (.int v2), .val (.long x0), .second, .val (.long x1), .second, .val (.long x2), .second, .val (.int (((0 : Int32) + (1 : Int32)) + (0 : Int32))), .val (.ref a208), .unset, .unset] [(.ref a209)]))
        refine own_by (fun _ kont => XS.astore X209.here hx rfl (hb hby d1_49) rfl rfl (l' := #[.val (.int v0), .val (.int v1), .val (.int v2), .val (.long x0), .second, .val (.long x1), .second, .val (.long x2), .second, .val (.int (((0 : Int32) + (1 : Int32)) + (0 : Int32))), .val (.ref a208), .val (.ref a209), .unset]) rfl kont) ?_
        show own_Go p e below _ (T209.setTop (mkF m 51 #[.val (.int v0), .val (.int v1), .val (.int v2), .val (.long x0), .second, .val (.long x1), .second, .val (.long x2), .second, .val (.int (((0 : Int32) + (1 : Int32)) + (0 : Int32))), .val (.ref a208), .val (.ref a209), .unset] []))
        refine own_by (fun _ kont => XT.iconstV X209.here hx rfl (0 : Int32) (hb hby d1_51) rfl kont) ?_
        show own_Go p e below _ (T209.setTop (mkF m 52 #[.val (.int v0), .val (.int v1), .val (.int v2), .val (.long x0), .second, .val (.long x1), .second, .val (.long x2), .second, .val (.int (((0 : Int32) + (1 : Int32)) + (0 : Int32))), .val (.ref a208), .val (.ref a209), .unset] [(.int (0 : Int32))]))
        refine own_by (fun _ kont => XS.istore X209.here hx rfl (hb hby d1_52) rfl (l' := #[.val (.int v0), .val (.int v1), .val (.int v2), .val (.long x0), .second, .val (.long x1), .second, .val (.long x2), .second, .val (.int (((0 : Int32) + (1 : Int32)) + (0 : Int32))), .val (.ref a208), .val (.ref a209), .val (.int (0 : Int32))]) rfl kont) ?_
        show own_Go p e below _ (T209.setTop (mkF m 54 #[.val (.int v0), .val (.int v1), .val (.int v2), .val (.long x0), .second, .val (.long x1), .second, .val (.long x2), .second, .val (.int (((0 : Int32) + (1 : Int32)) + (0 : Int32))), .val (.ref a208), .val (.ref a209), .val (.int (0 : Int32))] []))
        refine own_by (fun _ kont => XT.lloadN X209.here hx rfl (hb hby d1_54) rfl kont) ?_
        show own_Go p e below _ (T209.setTop (mkF m 55 #[.val (.int v0), .val (.int v1), .val (.int v2), .val (.long x0), .second, .val (.long x1), .second, .val (.long x2), .second, .val (.int (((0 : Int32) + (1 : Int32)) + (0 : Int32))), .val (.ref a208), .val (.ref a209), .val (.int (0 : Int32))] [(.long x0)]))
        refine own_by (fun _ kont => XT.lconstV X209.here hx rfl (0 : Int64) (hb hby d1_55) rfl kont) ?_
        show own_Go p e below _ (T209.setTop (mkF m 56 #[.val (.int v0), .val (.int v1), .val (.int v2), .val (.long x0), .second, .val (.long x1), .second, .val (.long x2), .second, .val (.int (((0 : Int32) + (1 : Int32)) + (0 : Int32))), .val (.ref a208), .val (.ref a209), .val (.int (0 : Int32))] [(.long (0 : Int64)), (.long x0)]))
        refine own_by (fun _ kont => XT.lcmp X209.here hx rfl (hb hby d1_56) rfl kont) ?_
        show own_Go p e below _ (T209.setTop (mkF m 57 #[.val (.int v0), .val (.int v1), .val (.int v2), .val (.long x0), .second, .val (.long x1), .second, .val (.long x2), .second, .val (.int (((0 : Int32) + (1 : Int32)) + (0 : Int32))), .val (.ref a208), .val (.ref a209), .val (.int (0 : Int32))] [(.int (XT.cmpL x0 (0 : Int64)))]))
        refine own_by (fun _ kont => XS.ifYes X209.here hx rfl (pc0 := 57) (pc' := 75) rfl (hb hby d1_57) rfl (XT.ll_le_t c0) (by decide) (by decide) kont) ?_
        show own_Go p e below _ (T209.setTop (mkF m 75 #[.val (.int v0), .val (.int v1), .val (.int v2), .val (.long x0), .second, .val (.long x1), .second, .val (.long x2), .second, .val (.int (((0 : Int32) + (1 : Int32)) + (0 : Int32))), .val (.ref a208), .val (.ref a209), .val (.int (0 : Int32))] []))
        refine own_by (fun _ kont => XT.lload X209.here hx rfl (hb hby d1_75) rfl kont) ?_
        show own_Go p e below _ (T209.setTop (mkF m 77 #[.val (.int v0), .val (.int v1), .val (.int v2), .val (.long x0), .second, .val (.long x1), .second, .val (.long x2), .second, .val (.int (((0 : Int32) + (1 : Int32)) + (0 : Int32))), .val (.ref a208), .val (.ref a209), .val (.int (0 : Int32))] [(.long x1)]))
        refine own_by (fun _ kont => XT.lconstV X209.here hx rfl (0 : Int64) (hb hby d1_77) rfl kont) ?_
        show own_Go p e below _ (T209.setTop (mkF m 78 #[.val (.int v0), .val (.int v1), .val (.int v2), .val (.long x0), .second, .val (.long x1), .second, .val (.long x2), .second, .val (.int (((0 : Int32) + (1 : Int32)) + (0 : Int32))), .val (.ref a208), .val (.ref a209), .val (.int (0 : Int32))] [(.long (0 : Int64)), (.long x1)]))
        refine own_by (fun _ kont => XT.lcmp X209.here hx rfl (hb hby d1_78) rfl kont) ?_
        show own_Go p e below _ (T209.setTop (mkF m 79 #[.val (.int v0), .val (.int v1), .val (.int v2), .val (.long x0), .second, .val (.long x1), .second, .val (.long x2), .second, .val (.int (((0 : Int32) + (1 : Int32)) + (0 : Int32))), .val (.ref a208), .val (.ref a209), .val (.int (0 : Int32))] [(.int (XT.cmpL x1 (0 : Int64)))]))
        refine own_by (fun _ kont => XS.ifNo X209.here hx rfl (hb hby d1_79) rfl (XT.ll_le_f c1) kont) ?_
        show own_Go p e below _ (T209.setTop (mkF m 82 #[.val (.int v0), .val (.int v1), .val (.int v2), .val (.long x0), .second, .val (.long x1), .second, .val (.long x2), .second, .val (.int (((0 : Int32) + (1 : Int32)) + (0 : Int32))), .val (.ref a208), .val (.ref a209), .val (.int (0 : Int32))] []))
        refine own_by (fun _ kont => XS.aload X209.here hx rfl (hb hby d1_82) rfl rfl kont) ?_
        show own_Go p e below _ (T209.setTop (mkF m 84 #[.val (.int v0), .val (.int v1), .val (.int v2), .val (.long x0), .second, .val (.long x1), .second, .val (.long x2), .second, .val (.int (((0 : Int32) + (1 : Int32)) + (0 : Int32))), .val (.ref a208), .val (.ref a209), .val (.int (0 : Int32))] [(.ref a208)]))
        refine own_by (fun _ kont => XS.iload X209.here hx rfl (hb hby d1_84) rfl kont) ?_
        show own_Go p e below _ (T209.setTop (mkF m 86 #[.val (.int v0), .val (.int v1), .val (.int v2), .val (.long x0), .second, .val (.long x1), .second, .val (.long x2), .second, .val (.int (((0 : Int32) + (1 : Int32)) + (0 : Int32))), .val (.ref a208), .val (.ref a209), .val (.int (0 : Int32))] [(.int (0 : Int32)), (.ref a208)]))
        refine own_by (fun _ kont => XS.iloadN X209.here hx rfl (hb hby d1_86) rfl kont) ?_
        show own_Go p e below _ (T209.setTop (mkF m 87 #[.val (.int v0), .val (.int v1), .val (.int v2), .val (.long x0), .second, .val (.long x1), .second, .val (.long x2), .second, .val (.int (((0 : Int32) + (1 : Int32)) + (0 : Int32))), .val (.ref a208), .val (.ref a209), .val (.int (0 : Int32))] [(.int v1), (.int (0 : Int32)), (.ref a208)]))
        have F211 : own_IA Z h209 a208 1 (fun _ => 0) := (own_IA_ext H208 E209)
        obtain ⟨T212, h212, X212, e212, W212, H212, st212⟩ := own_stN X209 hx hZ e209 F211 (j := (0 : Int32)) 0 (by decide) (by decide) (g := (mkF m 87 #[.val (.int v0), .val (.int v1), .val (.int v2), .val (.long x0), .second, .val (.long x1), .second, .val (.long x2), .second, .val (.int (((0 : Int32) + (1 : Int32)) + (0 : Int32))), .val (.ref a208), .val (.ref a209), .val (.int (0 : Int32))] [(.int v1), (.int (0 : Int32)), (.ref a208)])) rfl rfl (hb hby d1_87)
        obtain ⟨L212, X212, M212⟩ := own_hide X212 (Fr.snoc X212 N0 ge208)
        have Z212 : n0 ≤ h212.size := (by rw [Wr.size W212]; exact Z209)
        have KP212 : Keep h0 h212 [] := KP209.wr W212 (Or.inr lb208)
        refine own_by st212 ?_
        show own_Go p e below _ (T212.setTop (mkF m 88 #[.val (.int v0), .val (.int v1), .val (.int v2), .val (.long x0), .second, .val (.long x1), .second, .val (.long x2), .second, .val (.int (((0 : Int32) + (1 : Int32)) + (0 : Int32))), .val (.ref a208), .val (.ref a209), .val (.int (0 : Int32))] []))
        refine own_by (fun _ kont => XS.aload X212.here hx rfl (hb hby d1_88) rfl rfl kont) ?_
        show own_Go p e below _ (T212.setTop (mkF m 90 #[.val (.int v0), .val (.int v1), .val (.int v2), .val (.long x0), .second, .val (.long x1), .second, .val (.long x2), .second, .val (.int (((0 : Int32) + (1 : Int32)) + (0 : Int32))), .val (.ref a208), .val (.ref a209), .val (.int (0 : Int32))] [(.ref a209)]))
        refine own_by (fun _ kont => XS.iload X212.here hx rfl (hb hby d1_90) rfl kont) ?_
        show own_Go p e below _ (T212.setTop (mkF m 92 #[.val (.int v0), .val (.int v1), .val (.int v2), .val (.long x0), .second, .val (.long x1), .second, .val (.long x2), .second, .val (.int (((0 : Int32) + (1 : Int32)) + (0 : Int32))), .val (.ref a208), .val (.ref a209), .val (.int (0 : Int32))] [(.int (0 : Int32)), (.ref a209)]))
        refine own_by (fun _ kont => XT.lload X212.here hx rfl (hb hby d1_92) rfl kont) ?_
        show own_Go p e below _ (T212.setTop (mkF m 94 #[.val (.int v0), .val (.int v1), .val (.int v2), .val (.long x0), .second, .val (.long x1), .second, .val (.long x2), .second, .val (.int (((0 : Int32) + (1 : Int32)) + (0 : Int32))), .val (.ref a208), .val (.ref a209), .val (.int (0 : Int32))] [(.long x1), (.int (0 : Int32)), (.ref a209)]))
        have F213 : own_LA Z h212 a209 1 (fun _ => 0) := (own_LA_other H209 W212 (Ne.symm ne210))
        obtain ⟨T214, h214, X214, e214, W214, H214, st214⟩ := own_stL X212 hx hZ e212 F213 (j := (0 : Int32)) 0 (by decide) (by decide) (g := (mkF m 94 #[.val (.int v0), .val (.int v1), .val (.int v2), .val (.long x0), .second, .val (.long x1), .second, .val (.long x2), .second, .val (.int (((0 : Int32) + (1 : Int32)) + (0 : Int32))), .val (.ref a208), .val (.ref a209), .val (.int (0 : Int32))] [(.long x1), (.int (0 : Int32)), (.ref a209)])) rfl rfl (hb hby d1_94)
        obtain ⟨L214, X214, M214⟩ := own_hide X214 (Fr.snoc X214 M212 ge209)
        have Z214 : n0 ≤ h214.size := (by rw [Wr.size W214]; exact Z212)
        have KP214 : Keep h0 h214 [] := KP212.wr W214 (Or.inr lb209)
        refine own_by st214 ?_
        show own_Go p e below _ (T214.setTop (mkF m 95 #[.val (.int v0), .val (.int v1), .val (.int v2), .val (.long x0), .second, .val (.long x1), .second, .val (.long x2), .second, .val (.int (((0 : Int32) + (1 : Int32)) + (0 : Int32))), .val (.ref a208), .val (.ref a209), .val (.int (0 : Int32))] []))
        refine own_by (fun _ kont => XT.iincV X214.here hx rfl (1 : Int32) (hb hby d1_95) rfl rfl (l' := #[.val (.int v0), .val (.int v1), .val (.int v2), .val (.long x0), .second, .val (.long x1), .second, .val (.long x2), .second, .val (.int (((0 : Int32) + (1 : Int32)) + (0 : Int32))), .val (.ref a208), .val (.ref a209), .val (.int ((0 : Int32) + (1 : Int32)))]) rfl kont) ?_
        show own_Go p e below _ (T214.setTop (mkF m 98 #[.val (.int v0), .val (.int v1), .val (.int v2), .val (.long x0), .second, .val (.long x1), .second, .val (.long x2), .second, .val (.int (((0 : Int32) + (1 : Int32)) + (0 : Int32))), .val (.ref a208), .val (.ref a209), .val (.int ((0 : Int32) + (1 : Int32)))] []))
        refine own_by (fun _ kont => XT.lload X214.here hx rfl (hb hby d1_98) rfl kont) ?_
        show own_Go p e below _ (T214.setTop (mkF m 100 #[.val (.int v0), .val (.int v1), .val (.int v2), .val (.long x0), .second, .val (.long x1), .second, .val (.long x2), .second, .val (.int (((0 : Int32) + (1 : Int32)) + (0 : Int32))), .val (.ref a208), .val (.ref a209), .val (.int ((0 : Int32) + (1 : Int32)))] [(.long x2)]))
        refine own_by (fun _ kont => XT.lconstV X214.here hx rfl (0 : Int64) (hb hby d1_100) rfl kont) ?_
        show own_Go p e below _ (T214.setTop (mkF m 101 #[.val (.int v0), .val (.int v1), .val (.int v2), .val (.long x0), .second, .val (.long x1), .second, .val (.long x2), .second, .val (.int (((0 : Int32) + (1 : Int32)) + (0 : Int32))), .val (.ref a208), .val (.ref a209), .val (.int ((0 : Int32) + (1 : Int32)))] [(.long (0 : Int64)), (.long x2)]))
        refine own_by (fun _ kont => XT.lcmp X214.here hx rfl (hb hby d1_101) rfl kont) ?_
        show own_Go p e below _ (T214.setTop (mkF m 102 #[.val (.int v0), .val (.int v1), .val (.int v2), .val (.long x0), .second, .val (.long x1), .second, .val (.long x2), .second, .val (.int (((0 : Int32) + (1 : Int32)) + (0 : Int32))), .val (.ref a208), .val (.ref a209), .val (.int ((0 : Int32) + (1 : Int32)))] [(.int (XT.cmpL x2 (0 : Int64)))]))
        refine own_by (fun _ kont => XS.ifYes X214.here hx rfl (pc0 := 102) (pc' := 121) rfl (hb hby d1_102) rfl (XT.ll_le_t c2) (by decide) (by decide) kont) ?_
        show own_Go p e below _ (T214.setTop (mkF m 121 #[.val (.int v0), .val (.int v1), .val (.int v2), .val (.long x0), .second, .val (.long x1), .second, .val (.long x2), .second, .val (.int (((0 : Int32) + (1 : Int32)) + (0 : Int32))), .val (.ref a208), .val (.ref a209), .val (.int ((0 : Int32) + (1 : Int32)))] []))
        obtain ⟨T215, h215, X215, e215, E215, A215, D215, -, st215⟩ := newO X214 hx hZ hown (hw _ (List.mem_of_getElem? (i := 8) rfl)) (hw _ (List.mem_of_getElem? (i := 9) rfl)) (hw _ (List.mem_of_getElem? (i := 10) rfl)) e214 (g := (mkF m 121 #[.val (.int v0), .val (.int v1), .val (.int v2), .val (.long x0), .second, .val (.long x1), .second, .val (.long x2), .second, .val (.int (((0 : Int32) + (1 : Int32)) + (0 : Int32))), .val (.ref a208), .val (.ref a209), .val (.int ((0 : Int32) + (1 : Int32)))] [])) rfl (hb hby d1_121) (by decide) (by decide)
        obtain ⟨a215, g215⟩ : ∃ z, z = h214.size := ⟨_, rfl⟩
        rw [← g215] at A215 D215 st215
        have F216 : own_IA Z h214 a208 1 (fun i => if i = 0 then v1 else (fun _ => 0) i) := (own_IA_other H212 W214 ne210)
        have ne217 : a208 ≠ a215 := by rw [g215]; exact Nat.ne_of_lt (own_IA_lt F216)
        have ne218 : a209 ≠ a215 := by rw [g215]; exact Nat.ne_of_lt (own_LA_lt H214)
        have ge215 : n0 ≤ a215 := by rw [g215]; exact Z214
        have lb215 : h0.size ≤ a215 := by rw [g215]; exact KP214.1
        have Z215 : n0 ≤ h215.size := Nat.le_trans Z214 E215.1
        have KP215 : Keep h0 h215 [] := KP214.ext E215
        have F219 : Fld Z h215 a215 "com/example/conjecta/conjecta/model/Values" "variables" "[I" .null := D215 (Or.inr (hw _ (List.mem_of_getElem? (i := 18) rfl))) (ty := (.array .int)) (by decide)
        have F220 : Fld Z h215 a215 "com/example/conjecta/conjecta/model/Values" "values" "[J" .null := D215 (Or.inr (hw _ (List.mem_of_getElem? (i := 20) rfl))) (ty := (.array .long)) (by decide)
        refine own_by st215 ?_
        show own_Go p e below _ (T215.setTop (mkF m 124 #[.val (.int v0), .val (.int v1), .val (.int v2), .val (.long x0), .second, .val (.long x1), .second, .val (.long x2), .second, .val (.int (((0 : Int32) + (1 : Int32)) + (0 : Int32))), .val (.ref a208), .val (.ref a209), .val (.int ((0 : Int32) + (1 : Int32)))] [(.ref a215)]))
        refine own_by (fun _ kont => XS.dup X215.here hx rfl (hb hby d1_124) rfl rfl kont) ?_
        show own_Go p e below _ (T215.setTop (mkF m 125 #[.val (.int v0), .val (.int v1), .val (.int v2), .val (.long x0), .second, .val (.long x1), .second, .val (.long x2), .second, .val (.int (((0 : Int32) + (1 : Int32)) + (0 : Int32))), .val (.ref a208), .val (.ref a209), .val (.int ((0 : Int32) + (1 : Int32)))] [(.ref a215), (.ref a215)]))
        refine own_by (fun _ kont => XS.aload X215.here hx rfl (hb hby d1_125) rfl rfl kont) ?_
        show own_Go p e below _ (T215.setTop (mkF m 127 #[.val (.int v0), .val (.int v1), .val (.int v2), .val (.long x0), .second, .val (.long x1), .second, .val (.long x2), .second, .val (.int (((0 : Int32) + (1 : Int32)) + (0 : Int32))), .val (.ref a208), .val (.ref a209), .val (.int ((0 : Int32) + (1 : Int32)))] [(.ref a208), (.ref a215), (.ref a215)]))
        refine own_by (fun _ kont => XS.aload X215.here hx rfl (hb hby d1_127) rfl rfl kont) ?_
        show own_Go p e below _ (T215.setTop (mkF m 129 #[.val (.int v0), .val (.int v1), .val (.int v2), .val (.long x0), .second, .val (.long x1), .second, .val (.long x2), .second, .val (.int (((0 : Int32) + (1 : Int32)) + (0 : Int32))), .val (.ref a208), .val (.ref a209), .val (.int ((0 : Int32) + (1 : Int32)))] [(.ref a209), (.ref a208), (.ref a215), (.ref a215)]))
        obtain ⟨_, _, ⟨T221, L221, k221, n221⟩, -, X221, ⟨Lc221, hQ221, l221, y221, z221⟩, st221⟩ := X215.specialBack hx (y := (⟨"com/example/conjecta/conjecta/model/Values", "<init>", "([I[J)V"⟩ : MethodName)) rfl hown (mvT hZ (hw _ (List.mem_of_getElem? (i := 11) rfl))) (mvT hZ (hw _ (List.mem_of_getElem? (i := 12) rfl))) (mvT hZ (hw _ (List.mem_of_getElem? (i := 13) rfl))) (by decide) (backOf (W := 1) (rmI l Z a0 hw [] a215 a208 a209 h215 n0 A215 F219 F220 ge215) hZ (hw _ (List.mem_of_getElem? (i := 13) rfl)) (hw _ (List.mem_of_getElem? (i := 10) rfl)) (by decide) (by decide)) (g := (mkF m 129 #[.val (.int v0), .val (.int v1), .val (.int v2), .val (.long x0), .second, .val (.long x1), .second, .val (.long x2), .second, .val (.int (((0 : Int32) + (1 : Int32)) + (0 : Int32))), .val (.ref a208), .val (.ref a209), .val (.int ((0 : Int32) + (1 : Int32)))] [(.ref a209), (.ref a208), (.ref a215), (.ref a215)])) rfl (by rw [hml]; rfl) (Steps.refl _) (a := a215) (argsL := [(.ref a208), (.ref a209)]) (rest := [(.ref a215)]) (lenOf own_pd3 rfl) rfl (by show 2 * 0 + _ ≤ _; exact Nat.le_of_eq rfl) (hb hby d1_129) (fun _ _ => ⟨rfl, e215, (by decide : 3 + 0 ≤ _), (by decide : 4 + 0 ≤ _)⟩)
        dsimp only [Pt.U, Pt.locs, Pt.cells, Pt.slots] at X221 l221 y221 z221 st221 hQ221
        subst l221 y221 z221
        refine own_tr st221 ?_
        obtain ⟨rfl, N221, K221, E221, F221, G221⟩ := hQ221
        obtain ⟨L221, X221, M221⟩ := own_hide X221 (Fr.app M214 N221)
        obtain ⟨h221, e221⟩ : ∃ h, T221.heap = h := ⟨_, rfl⟩
        rw [e221] at K221 E221 F221 G221
        have Z221 : n0 ≤ h221.size := Nat.le_trans Z215 K221.1
        have KP221 : Keep h0 h221 [] := KP215.trans K221 (fun x hx => by cases List.mem_singleton.mp hx; exact Or.inr lb215)
        show own_Go p e below _ (T221.setTop (mkF m 132 #[.val (.int v0), .val (.int v1), .val (.int v2), .val (.long x0), .second, .val (.long x1), .second, .val (.long x2), .second, .val (.int (((0 : Int32) + (1 : Int32)) + (0 : Int32))), .val (.ref a208), .val (.ref a209), .val (.int ((0 : Int32) + (1 : Int32)))] [(.ref a215)]))
        have F222 : own_IA Z h221 a208 1 (fun i => if i = 0 then v1 else (fun _ => 0) i) := (own_IA_keep (own_IA_ext F216 E215) K221 (ninS ne217 nin0))
        have F223 : own_LA Z h221 a209 1 (fun i => if i = 0 then x1 else (fun _ => 0) i) := (own_LA_keep (own_LA_ext H214 E215) K221 (ninS ne218 nin0))
        have hl : own_lst v0 v1 v2 x0 x1 x2 = [(v1, x1)] := by simp only [own_lst, c0, c1, c2, if_true, if_false, List.nil_append, List.cons_append, List.append_nil]
        refine own_ret X221 hx hlk hret rfl (Or.inr (Or.inr (Or.inr (Or.inr ⟨rfl, rfl, rfl⟩)))) (hb hby d1_132) ⟨a215, rfl, M221, ?_⟩ (by decide) (by decide)
        rw [e221, hl]
        refine ⟨KP221, a208, a209, E221, F221, G221, own_IA_congr F222 ?_, own_LA_congr F223 ?_⟩
        · intro i hi
          match i, hi with
          | 0, _ => rfl
          | k + 1, hk => exact absurd hk (by simp only [List.length_cons, List.length_nil]; omega)
        · intro i hi
          match i, hi with
          | 0, _ => rfl
          | k + 1, hk => exact absurd hk (by simp only [List.length_cons, List.length_nil]; omega)
    · by_cases c2 : (0 : Int64) < x2
      · refine own_by (fun _ kont => XT.lloadN X0.here hx rfl (hb hby d1_0) rfl kont) ?_
        show own_Go p e below _ (s₁.setTop (mkF m 1 #[.val (.int v0), .val (.int v1), .val (.int v2), .val (.long x0), .second, .val (.long x1), .second, .val (.long x2), .second, .unset, .unset, .unset, .unset] [(.long x0)]))
        refine own_by (fun _ kont => XT.lconstV X0.here hx rfl (0 : Int64) (hb hby d1_1) rfl kont) ?_
        show own_Go p e below _ (s₁.setTop (mkF m 2 #[.val (.int v0), .val (.int v1), .val (.int v2), .val (.long x0), .second, .val (.long x1), .second, .val (.long x2), .second, .unset, .unset, .unset, .unset] [(.long (0 : Int64)), (.long x0)]))
        refine own_by (fun _ kont => XT.lcmp X0.here hx rfl (hb hby d1_2) rfl kont) ?_
        show own_Go p e below _ (s₁.setTop (mkF m 3 #[.val (.int v0), .val (.int v1), .val (.int v2), .val (.long x0), .second, .val (.long x1), .second, .val (.long x2), .second, .unset, .unset, .unset, .unset] [(.int (XT.cmpL x0 (0 : Int64)))]))
        refine own_by (fun _ kont => XS.ifYes X0.here hx rfl (pc0 := 3) (pc' := 10) rfl (hb hby d1_3) rfl (XT.ll_le_t c0) (by decide) (by decide) kont) ?_
        show own_Go p e below _ (s₁.setTop (mkF m 10 #[.val (.int v0), .val (.int v1), .val (.int v2), .val (.long x0), .second, .val (.long x1), .second, .val (.long x2), .second, .unset, .unset, .unset, .unset] []))
        refine own_by (fun _ kont => XT.iconstV X0.here hx rfl (0 : Int32) (hb hby d1_10) rfl kont) ?_
        show own_Go p e below _ (s₁.setTop (mkF m 11 #[.val (.int v0), .val (.int v1), .val (.int v2), .val (.long x0), .second, .val (.long x1), .second, .val (.long x2), .second, .unset, .unset, .unset, .unset] [(.int (0 : Int32))]))
        refine own_by (fun _ kont => XT.lload X0.here hx rfl (hb hby d1_11) rfl kont) ?_
        show own_Go p e below _ (s₁.setTop (mkF m 13 #[.val (.int v0), .val (.int v1), .val (.int v2), .val (.long x0), .second, .val (.long x1), .second, .val (.long x2), .second, .unset, .unset, .unset, .unset] [(.long x1), (.int (0 : Int32))]))
        refine own_by (fun _ kont => XT.lconstV X0.here hx rfl (0 : Int64) (hb hby d1_13) rfl kont) ?_
        show own_Go p e below _ (s₁.setTop (mkF m 14 #[.val (.int v0), .val (.int v1), .val (.int v2), .val (.long x0), .second, .val (.long x1), .second, .val (.long x2), .second, .unset, .unset, .unset, .unset] [(.long (0 : Int64)), (.long x1), (.int (0 : Int32))]))
        refine own_by (fun _ kont => XT.lcmp X0.here hx rfl (hb hby d1_14) rfl kont) ?_
        show own_Go p e below _ (s₁.setTop (mkF m 15 #[.val (.int v0), .val (.int v1), .val (.int v2), .val (.long x0), .second, .val (.long x1), .second, .val (.long x2), .second, .unset, .unset, .unset, .unset] [(.int (XT.cmpL x1 (0 : Int64))), (.int (0 : Int32))]))
        refine own_by (fun _ kont => XS.ifYes X0.here hx rfl (pc0 := 15) (pc' := 22) rfl (hb hby d1_15) rfl (XT.ll_le_t c1) (by decide) (by decide) kont) ?_
        show own_Go p e below _ (s₁.setTop (mkF m 22 #[.val (.int v0), .val (.int v1), .val (.int v2), .val (.long x0), .second, .val (.long x1), .second, .val (.long x2), .second, .unset, .unset, .unset, .unset] [(.int (0 : Int32))]))
        refine own_by (fun _ kont => XT.iconstV X0.here hx rfl (0 : Int32) (hb hby d1_22) rfl kont) ?_
        show own_Go p e below _ (s₁.setTop (mkF m 23 #[.val (.int v0), .val (.int v1), .val (.int v2), .val (.long x0), .second, .val (.long x1), .second, .val (.long x2), .second, .unset, .unset, .unset, .unset] [(.int (0 : Int32)), (.int (0 : Int32))]))
        refine own_by (fun _ kont => XS.iadd X0.here hx rfl (hb hby d1_23) rfl kont) ?_
        show own_Go p e below _ (s₁.setTop (mkF m 24 #[.val (.int v0), .val (.int v1), .val (.int v2), .val (.long x0), .second, .val (.long x1), .second, .val (.long x2), .second, .unset, .unset, .unset, .unset] [(.int ((0 : Int32) + (0 : Int32)))]))
        refine own_by (fun _ kont => XT.lload X0.here hx rfl (hb hby d1_24) rfl kont) ?_
        show own_Go p e below _ (s₁.setTop (mkF m 26 #[.val (.int v0), .val (.int v1), .val (.int v2), .val (.long x0), .second, .val (.long x1), .second, .val (.long x2), .second, .unset, .unset, .unset, .unset] [(.long x2), (.int ((0 : Int32) + (0 : Int32)))]))
        refine own_by (fun _ kont => XT.lconstV X0.here hx rfl (0 : Int64) (hb hby d1_26) rfl kont) ?_
        show own_Go p e below _ (s₁.setTop (mkF m 27 #[.val (.int v0), .val (.int v1), .val (.int v2), .val (.long x0), .second, .val (.long x1), .second, .val (.long x2), .second, .unset, .unset, .unset, .unset] [(.long (0 : Int64)), (.long x2), (.int ((0 : Int32) + (0 : Int32)))]))
        refine own_by (fun _ kont => XT.lcmp X0.here hx rfl (hb hby d1_27) rfl kont) ?_
        show own_Go p e below _ (s₁.setTop (mkF m 28 #[.val (.int v0), .val (.int v1), .val (.int v2), .val (.long x0), .second, .val (.long x1), .second, .val (.long x2), .second, .unset, .unset, .unset, .unset] [(.int (XT.cmpL x2 (0 : Int64))), (.int ((0 : Int32) + (0 : Int32)))]))
        refine own_by (fun _ kont => XS.ifNo X0.here hx rfl (hb hby d1_28) rfl (XT.ll_le_f c2) kont) ?_
        show own_Go p e below _ (s₁.setTop (mkF m 31 #[.val (.int v0), .val (.int v1), .val (.int v2), .val (.long x0), .second, .val (.long x1), .second, .val (.long x2), .second, .unset, .unset, .unset, .unset] [(.int ((0 : Int32) + (0 : Int32)))]))
        refine own_by (fun _ kont => XT.iconstV X0.here hx rfl (1 : Int32) (hb hby d1_31) rfl kont) ?_
        show own_Go p e below _ (s₁.setTop (mkF m 32 #[.val (.int v0), .val (.int v1), .val (.int v2), .val (.long x0), .second, .val (.long x1), .second, .val (.long x2), .second, .unset, .unset, .unset, .unset] [(.int (1 : Int32)), (.int ((0 : Int32) + (0 : Int32)))]))
        refine own_by (fun _ kont => XS.goto X0.here hx rfl (pc0 := 32) (pc' := 36) rfl (hb hby d1_32) (by decide) (by decide) kont) ?_
        show own_Go p e below _ (s₁.setTop (mkF m 36 #[.val (.int v0), .val (.int v1), .val (.int v2), .val (.long x0), .second, .val (.long x1), .second, .val (.long x2), .second, .unset, .unset, .unset, .unset] [(.int (1 : Int32)), (.int ((0 : Int32) + (0 : Int32)))]))
        refine own_by (fun _ kont => XS.iadd X0.here hx rfl (hb hby d1_36) rfl kont) ?_
        show own_Go p e below _ (s₁.setTop (mkF m 37 #[.val (.int v0), .val (.int v1), .val (.int v2), .val (.long x0), .second, .val (.long x1), .second, .val (.long x2), .second, .unset, .unset, .unset, .unset] [(.int (((0 : Int32) + (0 : Int32)) + (1 : Int32)))]))
        refine own_by (fun _ kont => XS.istore X0.here hx rfl (hb hby d1_37) rfl (l' := #[.val (.int v0), .val (.int v1), .val (.int v2), .val (.long x0), .second, .val (.long x1), .second, .val (.long x2), .second, .val (.int (((0 : Int32) + (0 : Int32)) + (1 : Int32))), .unset, .unset, .unset]) rfl kont) ?_
        show own_Go p e below _ (s₁.setTop (mkF m 39 #[.val (.int v0), .val (.int v1), .val (.int v2), .val (.long x0), .second, .val (.long x1), .second, .val (.long x2), .second, .val (.int (((0 : Int32) + (0 : Int32)) + (1 : Int32))), .unset, .unset, .unset] []))
        refine own_by (fun _ kont => XS.iload X0.here hx rfl (hb hby d1_39) rfl kont) ?_
        show own_Go p e below _ (s₁.setTop (mkF m 41 #[.val (.int v0), .val (.int v1), .val (.int v2), .val (.long x0), .second, .val (.long x1), .second, .val (.long x2), .second, .val (.int (((0 : Int32) + (0 : Int32)) + (1 : Int32))), .unset, .unset, .unset] [(.int (((0 : Int32) + (0 : Int32)) + (1 : Int32)))]))
        obtain ⟨T224, h224, a224, X224, e224, g224, E224, H224, st224⟩ := own_newIA X0 hx hZ (hw _ (List.mem_of_getElem? (i := 6) rfl)) e0 (g := (mkF m 41 #[.val (.int v0), .val (.int v1), .val (.int v2), .val (.long x0), .second, .val (.long x1), .second, .val (.long x2), .second, .val (.int (((0 : Int32) + (0 : Int32)) + (1 : Int32))), .unset, .unset, .unset] [(.int (((0 : Int32) + (0 : Int32)) + (1 : Int32)))])) rfl (hb hby d1_41) rfl 1 (by decide) (cap := 1) (by decide) (by decide) (by decide) (by decide)
        have ge224 : n0 ≤ a224 := by rw [g224]; exact Z0
        have lb224 : h0.size ≤ a224 := by rw [g224]; exact KP0.1
        have Z224 : n0 ≤ h224.size := Nat.le_trans Z0 E224.1
        have KP224 : Keep h0 h224 [] := KP0.ext E224
        refine own_by st224 ?_
        show own_Go p e below _ (T224.setTop (mkF m 43 #[.val (.int v0), .val (.int v1), .val (.int v2), .val (.long x0), .second, .val (.long x1), .second, .val (.long x2), .second, .val (.int (((0 : Int32) + (0 : Int32)) + (1 : Int32))), .unset, .unset, .unset] [(.ref a224)]))
        refine own_by (fun _ kont => XS.astore X224.here hx rfl (hb hby d1_43) rfl rfl (l' := #[.val (.int v0), .val (.int v1), .val (.int v2), .val (.long x0), .second, .val (.long x1), .second, .val (.long x2), .second, .val (.int (((0 : Int32) + (0 : Int32)) + (1 : Int32))), .val (.ref a224), .unset, .unset]) rfl kont) ?_
        show own_Go p e below _ (T224.setTop (mkF m 45 #[.val (.int v0), .val (.int v1), .val (.int v2), .val (.long x0), .second, .val (.long x1), .second, .val (.long x2), .second, .val (.int (((0 : Int32) + (0 : Int32)) + (1 : Int32))), .val (.ref a224), .unset, .unset] []))
        refine own_by (fun _ kont => XS.iload X224.here hx rfl (hb hby d1_45) rfl kont) ?_
        show own_Go p e below _ (T224.setTop (mkF m 47 #[.val (.int v0), .val (.int v1), .val (.int v2), .val (.long x0), .second, .val (.long x1), .second, .val (.long x2), .second, .val (.int (((0 : Int32) + (0 : Int32)) + (1 : Int32))), .val (.ref a224), .unset, .unset] [(.int (((0 : Int32) + (0 : Int32)) + (1 : Int32)))]))
        obtain ⟨T225, h225, a225, X225, e225, g225, E225, H225, st225⟩ := own_newLA X224 hx hZ (hw _ (List.mem_of_getElem? (i := 7) rfl)) e224 (g := (mkF m 47 #[.val (.int v0), .val (.int v1), .val (.int v2), .val (.long x0), .second, .val (.long x1), .second, .val (.long x2), .second, .val (.int (((0 : Int32) + (0 : Int32)) + (1 : Int32))), .val (.ref a224), .unset, .unset] [(.int (((0 : Int32) + (0 : Int32)) + (1 : Int32)))])) rfl (hb hby d1_47) rfl 1 (by decide) (cap := 1) (by decide) (by decide) (by decide) (by decide)
        have ne226 : a224 ≠ a225 := by rw [g225]; exact Nat.ne_of_lt (own_IA_lt H224)
        have ge225 : n0 ≤ a225 := by rw [g225]; exact Z224
        have lb225 : h0.size ≤ a225 := by rw [g225]; exact KP224.1
        have Z225 : n0 ≤ h225.size := Nat.le_trans Z224 E225.1
        have KP225 : Keep h0 h225 [] := KP224.ext E225
        refine own_by st225 ?_
        show own_Go p e below _ (T225.setTop (mkF m 49 #[.val (.int v0), .val (.int v1), .val (.int v2), .val (.long x0), .second, .val (.long x1), .second, .val (.long x2), .second, .val (.int (((0 : Int32) + (0 : Int32)) + (1 : Int32))), .val (.ref a224), .unset, .unset] [(.ref a225)]))
        refine own_by (fun _ kont => XS.astore X225.here hx rfl (hb hby d1_49) rfl rfl (l' := #[.val (.int v0), .val (.int v1), .val (.int v2), .val (.long x0), .second, .val (.long x1), .second, .val (.long x2), .second, .val (.int (((0 : Int32) + (0 : Int32)) + (1 : Int32))), .val (.ref a224), .val (.ref a225), .unset]) rfl kont) ?_
        show own_Go p e below _ (T225.setTop (mkF m 51 #[.val (.int v0), .val (.int v1), .val (.int v2), .val (.long x0), .second, .val (.long x1), .second, .val (.long x2), .second, .val (.int (((0 : Int32) + (0 : Int32)) + (1 : Int32))), .val (.ref a224), .val (.ref a225), .unset] []))
        refine own_by (fun _ kont => XT.iconstV X225.here hx rfl (0 : Int32) (hb hby d1_51) rfl kont) ?_
        show own_Go p e below _ (T225.setTop (mkF m 52 #[.val (.int v0), .val (.int v1), .val (.int v2), .val (.long x0), .second, .val (.long x1), .second, .val (.long x2), .second, .val (.int (((0 : Int32) + (0 : Int32)) + (1 : Int32))), .val (.ref a224), .val (.ref a225), .unset] [(.int (0 : Int32))]))
        refine own_by (fun _ kont => XS.istore X225.here hx rfl (hb hby d1_52) rfl (l' := #[.val (.int v0), .val (.int v1), .val (.int v2), .val (.long x0), .second, .val (.long x1), .second, .val (.long x2), .second, .val (.int (((0 : Int32) + (0 : Int32)) + (1 : Int32))), .val (.ref a224), .val (.ref a225), .val (.int (0 : Int32))]) rfl kont) ?_
        show own_Go p e below _ (T225.setTop (mkF m 54 #[.val (.int v0), .val (.int v1), .val (.int v2), .val (.long x0), .second, .val (.long x1), .second, .val (.long x2), .second, .val (.int (((0 : Int32) + (0 : Int32)) + (1 : Int32))), .val (.ref a224), .val (.ref a225), .val (.int (0 : Int32))] []))
        refine own_by (fun _ kont => XT.lloadN X225.here hx rfl (hb hby d1_54) rfl kont) ?_
        show own_Go p e below _ (T225.setTop (mkF m 55 #[.val (.int v0), .val (.int v1), .val (.int v2), .val (.long x0), .second, .val (.long x1), .second, .val (.long x2), .second, .val (.int (((0 : Int32) + (0 : Int32)) + (1 : Int32))), .val (.ref a224), .val (.ref a225), .val (.int (0 : Int32))] [(.long x0)]))
        refine own_by (fun _ kont => XT.lconstV X225.here hx rfl (0 : Int64) (hb hby d1_55) rfl kont) ?_
        show own_Go p e below _ (T225.setTop (mkF m 56 #[.val (.int v0), .val (.int v1), .val (.int v2), .val (.long x0), .second, .val (.long x1), .second, .val (.long x2), .second, .val (.int (((0 : Int32) + (0 : Int32)) + (1 : Int32))), .val (.ref a224), .val (.ref a225), .val (.int (0 : Int32))] [(.long (0 : Int64)), (.long x0)]))
        refine own_by (fun _ kont => XT.lcmp X225.here hx rfl (hb hby d1_56) rfl kont) ?_
        show own_Go p e below _ (T225.setTop (mkF m 57 #[.val (.int v0), .val (.int v1), .val (.int v2), .val (.long x0), .second, .val (.long x1), .second, .val (.long x2), .second, .val (.int (((0 : Int32) + (0 : Int32)) + (1 : Int32))), .val (.ref a224), .val (.ref a225), .val (.int (0 : Int32))] [(.int (XT.cmpL x0 (0 : Int64)))]))
        refine own_by (fun _ kont => XS.ifYes X225.here hx rfl (pc0 := 57) (pc' := 75) rfl (hb hby d1_57) rfl (XT.ll_le_t c0) (by decide) (by decide) kont) ?_
        show own_Go p e below _ (T225.setTop (mkF m 75 #[.val (.int v0), .val (.int v1), .val (.int v2), .val (.long x0), .second, .val (.long x1), .second, .val (.long x2), .second, .val (.int (((0 : Int32) + (0 : Int32)) + (1 : Int32))), .val (.ref a224), .val (.ref a225), .val (.int (0 : Int32))] []))
        refine own_by (fun _ kont => XT.lload X225.here hx rfl (hb hby d1_75) rfl kont) ?_
        show own_Go p e below _ (T225.setTop (mkF m 77 #[.val (.int v0), .val (.int v1), .val (.int v2), .val (.long x0), .second, .val (.long x1), .second, .val (.long x2), .second, .val (.int (((0 : Int32) + (0 : Int32)) + (1 : Int32))), .val (.ref a224), .val (.ref a225), .val (.int (0 : Int32))] [(.long x1)]))
        refine own_by (fun _ kont => XT.lconstV X225.here hx rfl (0 : Int64) (hb hby d1_77) rfl kont) ?_
        show own_Go p e below _ (T225.setTop (mkF m 78 #[.val (.int v0), .val (.int v1), .val (.int v2), .val (.long x0), .second, .val (.long x1), .second, .val (.long x2), .second, .val (.int (((0 : Int32) + (0 : Int32)) + (1 : Int32))), .val (.ref a224), .val (.ref a225), .val (.int (0 : Int32))] [(.long (0 : Int64)), (.long x1)]))
        refine own_by (fun _ kont => XT.lcmp X225.here hx rfl (hb hby d1_78) rfl kont) ?_
        show own_Go p e below _ (T225.setTop (mkF m 79 #[.val (.int v0), .val (.int v1), .val (.int v2), .val (.long x0), .second, .val (.long x1), .second, .val (.long x2), .second, .val (.int (((0 : Int32) + (0 : Int32)) + (1 : Int32))), .val (.ref a224), .val (.ref a225), .val (.int (0 : Int32))] [(.int (XT.cmpL x1 (0 : Int64)))]))
        refine own_by (fun _ kont => XS.ifYes X225.here hx rfl (pc0 := 79) (pc' := 98) rfl (hb hby d1_79) rfl (XT.ll_le_t c1) (by decide) (by decide) kont) ?_
        show own_Go p e below _ (T225.setTop (mkF m 98 #[.val (.int v0), .val (.int v1), .val (.int v2), .val (.long x0), .second, .val (.long x1), .second, .val (.long x2), .second, .val (.int (((0 : Int32) + (0 : Int32)) + (1 : Int32))), .val (.ref a224), .val (.ref a225), .val (.int (0 : Int32))] []))
        refine own_by (fun _ kont => XT.lload X225.here hx rfl (hb hby d1_98) rfl kont) ?_
        show own_Go p e below _ (T225.setTop (mkF m 100 #[.val (.int v0), .val (.int v1), .val (.int v2), .val (.long x0), .second, .val (.long x1), .second, .val (.long x2), .second, .val (.int (((0 : Int32) + (0 : Int32)) + (1 : Int32))), .val (.ref a224), .val (.ref a225), .val (.int (0 : Int32))] [(.long x2)]))
        refine own_by (fun _ kont => XT.lconstV X225.here hx rfl (0 : Int64) (hb hby d1_100) rfl kont) ?_
        show own_Go p e below _ (T225.setTop (mkF m 101 #[.val (.int v0), .val (.int v1), .val (.int v2), .val (.long x0), .second, .val (.long x1), .second, .val (.long x2), .second, .val (.int (((0 : Int32) + (0 : Int32)) + (1 : Int32))), .val (.ref a224), .val (.ref a225), .val (.int (0 : Int32))] [(.long (0 : Int64)), (.long x2)]))
        refine own_by (fun _ kont => XT.lcmp X225.here hx rfl (hb hby d1_101) rfl kont) ?_
        show own_Go p e below _ (T225.setTop (mkF m 102 #[.val (.int v0), .val (.int v1), .val (.int v2), .val (.long x0), .second, .val (.long x1), .second, .val (.long x2), .second, .val (.int (((0 : Int32) + (0 : Int32)) + (1 : Int32))), .val (.ref a224), .val (.ref a225), .val (.int (0 : Int32))] [(.int (XT.cmpL x2 (0 : Int64)))]))
        refine own_by (fun _ kont => XS.ifNo X225.here hx rfl (hb hby d1_102) rfl (XT.ll_le_f c2) kont) ?_
        show own_Go p e below _ (T225.setTop (mkF m 105 #[.val (.int v0), .val (.int v1), .val (.int v2), .val (.long x0), .second, .val (.long x1), .second, .val (.long x2), .second, .val (.int (((0 : Int32) + (0 : Int32)) + (1 : Int32))), .val (.ref a224), .val (.ref a225), .val (.int (0 : Int32))] []))
        refine own_by (fun _ kont => XS.aload X225.here hx rfl (hb hby d1_105) rfl rfl kont) ?_
        show own_Go p e below _ (T225.setTop (mkF m 107 #[.val (.int v0), .val (.int v1), .val (.int v2), .val (.long x0), .second, .val (.long x1), .second, .val (.long x2), .second, .val (.int (((0 : Int32) + (0 : Int32)) + (1 : Int32))), .val (.ref a224), .val (.ref a225), .val (.int (0 : Int32))] [(.ref a224)]))
        refine own_by (fun _ kont => XS.iload X225.here hx rfl (hb hby d1_107) rfl kont) ?_
        show own_Go p e below _ (T225.setTop (mkF m 109 #[.val (.int v0), .val (.int v1), .val (.int v2), .val (.long x0), .second, .val (.long x1), .second, .val (.long x2), .second, .val (.int (((0 : Int32) + (0 : Int32)) + (1 : Int32))), .val (.ref a224), .val (.ref a225), .val (.int (0 : Int32))] [(.int (0 : Int32)), (.ref a224)]))
        refine own_by (fun _ kont => XS.iloadN X225.here hx rfl (hb hby d1_109) rfl kont) ?_
        show own_Go p e below _ (T225.setTop (mkF m 110 #[.val (.int v0), .val (.int v1), .val (.int v2), .val (.long x0), .second, .val (.long x1), .second, .val (.long x2), .second, .val (.int (((0 : Int32) + (0 : Int32)) + (1 : Int32))), .val (.ref a224), .val (.ref a225), .val (.int (0 : Int32))] [(.int v2), (.int (0 : Int32)), (.ref a224)]))
        have F227 : own_IA Z h225 a224 1 (fun _ => 0) := (own_IA_ext H224 E225)
        obtain ⟨T228, h228, X228, e228, W228, H228, st228⟩ := own_stN X225 hx hZ e225 F227 (j := (0 : Int32)) 0 (by decide) (by decide) (g := (mkF m 110 #[.val (.int v0), .val (.int v1), .val (.int v2), .val (.long x0), .second, .val (.long x1), .second, .val (.long x2), .second, .val (.int (((0 : Int32) + (0 : Int32)) + (1 : Int32))), .val (.ref a224), .val (.ref a225), .val (.int (0 : Int32))] [(.int v2), (.int (0 : Int32)), (.ref a224)])) rfl rfl (hb hby d1_110)
        obtain ⟨L228, X228, M228⟩ := own_hide X228 (Fr.snoc X228 N0 ge224)
        have Z228 : n0 ≤ h228.size := (by rw [Wr.size W228]; exact Z225)
        have KP228 : Keep h0 h228 [] := KP225.wr W228 (Or.inr lb224)
        refine own_by st228 ?_
        show own_Go p e below _ (T228.setTop (mkF m 111 #[.val (.int v0), .val (.int v1), .val (.int v2), .val (.long x0), .second, .val (.long x1), .second, .val (.long x2), .second, .val (.int (((0 : Int32) + (0 : Int32)) + (1 : Int32))), .val (.ref a224), .val (.ref a225), .val (.int (0 : Int32))] []))
        refine own_by (fun _ kont => XS.aload X228.here hx rfl (hb hby d1_111) rfl rfl kont) ?_
        show own_Go p e below _ (T228.setTop (mkF m 113 #[.val (.int v0), .val (.int v1), .val (.int v2), .val (.long x0), .second, .val (.long x1), .second, .val (.long x2), .second, .val (.int (((0 : Int32) + (0 : Int32)) + (1 : Int32))), .val (.ref a224), .val (.ref a225), .val (.int (0 : Int32))] [(.ref a225)]))
        refine own_by (fun _ kont => XS.iload X228.here hx rfl (hb hby d1_113) rfl kont) ?_
        show own_Go p e below _ (T228.setTop (mkF m 115 #[.val (.int v0), .val (.int v1), .val (.int v2), .val (.long x0), .second, .val (.long x1), .second, .val (.long x2), .second, .val (.int (((0 : Int32) + (0 : Int32)) + (1 : Int32))), .val (.ref a224), .val (.ref a225), .val (.int (0 : Int32))] [(.int (0 : Int32)), (.ref a225)]))
        refine own_by (fun _ kont => XT.lload X228.here hx rfl (hb hby d1_115) rfl kont) ?_
        show own_Go p e below _ (T228.setTop (mkF m 117 #[.val (.int v0), .val (.int v1), .val (.int v2), .val (.long x0), .second, .val (.long x1), .second, .val (.long x2), .second, .val (.int (((0 : Int32) + (0 : Int32)) + (1 : Int32))), .val (.ref a224), .val (.ref a225), .val (.int (0 : Int32))] [(.long x2), (.int (0 : Int32)), (.ref a225)]))
        have F229 : own_LA Z h228 a225 1 (fun _ => 0) := (own_LA_other H225 W228 (Ne.symm ne226))
        obtain ⟨T230, h230, X230, e230, W230, H230, st230⟩ := own_stL X228 hx hZ e228 F229 (j := (0 : Int32)) 0 (by decide) (by decide) (g := (mkF m 117 #[.val (.int v0), .val (.int v1), .val (.int v2), .val (.long x0), .second, .val (.long x1), .second, .val (.long x2), .second, .val (.int (((0 : Int32) + (0 : Int32)) + (1 : Int32))), .val (.ref a224), .val (.ref a225), .val (.int (0 : Int32))] [(.long x2), (.int (0 : Int32)), (.ref a225)])) rfl rfl (hb hby d1_117)
        obtain ⟨L230, X230, M230⟩ := own_hide X230 (Fr.snoc X230 M228 ge225)
        have Z230 : n0 ≤ h230.size := (by rw [Wr.size W230]; exact Z228)
        have KP230 : Keep h0 h230 [] := KP228.wr W230 (Or.inr lb225)
        refine own_by st230 ?_
        show own_Go p e below _ (T230.setTop (mkF m 118 #[.val (.int v0), .val (.int v1), .val (.int v2), .val (.long x0), .second, .val (.long x1), .second, .val (.long x2), .second, .val (.int (((0 : Int32) + (0 : Int32)) + (1 : Int32))), .val (.ref a224), .val (.ref a225), .val (.int (0 : Int32))] []))
        refine own_by (fun _ kont => XT.iincV X230.here hx rfl (1 : Int32) (hb hby d1_118) rfl rfl (l' := #[.val (.int v0), .val (.int v1), .val (.int v2), .val (.long x0), .second, .val (.long x1), .second, .val (.long x2), .second, .val (.int (((0 : Int32) + (0 : Int32)) + (1 : Int32))), .val (.ref a224), .val (.ref a225), .val (.int ((0 : Int32) + (1 : Int32)))]) rfl kont) ?_
        show own_Go p e below _ (T230.setTop (mkF m 121 #[.val (.int v0), .val (.int v1), .val (.int v2), .val (.long x0), .second, .val (.long x1), .second, .val (.long x2), .second, .val (.int (((0 : Int32) + (0 : Int32)) + (1 : Int32))), .val (.ref a224), .val (.ref a225), .val (.int ((0 : Int32) + (1 : Int32)))] []))
        obtain ⟨T231, h231, X231, e231, E231, A231, D231, -, st231⟩ := newO X230 hx hZ hown (hw _ (List.mem_of_getElem? (i := 8) rfl)) (hw _ (List.mem_of_getElem? (i := 9) rfl)) (hw _ (List.mem_of_getElem? (i := 10) rfl)) e230 (g := (mkF m 121 #[.val (.int v0), .val (.int v1), .val (.int v2), .val (.long x0), .second, .val (.long x1), .second, .val (.long x2), .second, .val (.int (((0 : Int32) + (0 : Int32)) + (1 : Int32))), .val (.ref a224), .val (.ref a225), .val (.int ((0 : Int32) + (1 : Int32)))] [])) rfl (hb hby d1_121) (by decide) (by decide)
        obtain ⟨a231, g231⟩ : ∃ z, z = h230.size := ⟨_, rfl⟩
        rw [← g231] at A231 D231 st231
        have F232 : own_IA Z h230 a224 1 (fun i => if i = 0 then v2 else (fun _ => 0) i) := (own_IA_other H228 W230 ne226)
        have ne233 : a224 ≠ a231 := by rw [g231]; exact Nat.ne_of_lt (own_IA_lt F232)
        have ne234 : a225 ≠ a231 := by rw [g231]; exact Nat.ne_of_lt (own_LA_lt H230)
        have ge231 : n0 ≤ a231 := by rw [g231]; exact Z230
        have lb231 : h0.size ≤ a231 := by rw [g231]; exact KP230.1
        have Z231 : n0 ≤ h231.size := Nat.le_trans Z230 E231.1
        have KP231 : Keep h0 h231 [] := KP230.ext E231
        have F235 : Fld Z h231 a231 "com/example/conjecta/conjecta/model/Values" "variables" "[I" .null := D231 (Or.inr (hw _ (List.mem_of_getElem? (i := 18) rfl))) (ty := (.array .int)) (by decide)
        have F236 : Fld Z h231 a231 "com/example/conjecta/conjecta/model/Values" "values" "[J" .null := D231 (Or.inr (hw _ (List.mem_of_getElem? (i := 20) rfl))) (ty := (.array .long)) (by decide)
        refine own_by st231 ?_
        show own_Go p e below _ (T231.setTop (mkF m 124 #[.val (.int v0), .val (.int v1), .val (.int v2), .val (.long x0), .second, .val (.long x1), .second, .val (.long x2), .second, .val (.int (((0 : Int32) + (0 : Int32)) + (1 : Int32))), .val (.ref a224), .val (.ref a225), .val (.int ((0 : Int32) + (1 : Int32)))] [(.ref a231)]))
        refine own_by (fun _ kont => XS.dup X231.here hx rfl (hb hby d1_124) rfl rfl kont) ?_
        show own_Go p e below _ (T231.setTop (mkF m 125 #[.val (.int v0), .val (.int v1), .val (.int v2), .val (.long x0), .second, .val (.long x1), .second, .val (.long x2), .second, .val (.int (((0 : Int32) + (0 : Int32)) + (1 : Int32))), .val (.ref a224), .val (.ref a225), .val (.int ((0 : Int32) + (1 : Int32)))] [(.ref a231), (.ref a231)]))
        refine own_by (fun _ kont => XS.aload X231.here hx rfl (hb hby d1_125) rfl rfl kont) ?_
        show own_Go p e below _ (T231.setTop (mkF m 127 #[.val (.int v0), .val (.int v1), .val (.int v2), .val (.long x0), .second, .val (.long x1), .second, .val (.long x2), .second, .val (.int (((0 : Int32) + (0 : Int32)) + (1 : Int32))), .val (.ref a224), .val (.ref a225), .val (.int ((0 : Int32) + (1 : Int32)))] [(.ref a224), (.ref a231), (.ref a231)]))
        refine own_by (fun _ kont => XS.aload X231.here hx rfl (hb hby d1_127) rfl rfl kont) ?_
        show own_Go p e below _ (T231.setTop (mkF m 129 #[.val (.int v0), .val (.int v1), .val (.int v2), .val (.long x0), .second, .val (.long x1), .second, .val (.long x2), .second, .val (.int (((0 : Int32) + (0 : Int32)) + (1 : Int32))), .val (.ref a224), .val (.ref a225), .val (.int ((0 : Int32) + (1 : Int32)))] [(.ref a225), (.ref a224), (.ref a231), (.ref a231)]))
        obtain ⟨_, _, ⟨T237, L237, k237, n237⟩, -, X237, ⟨Lc237, hQ237, l237, y237, z237⟩, st237⟩ := X231.specialBack hx (y := (⟨"com/example/conjecta/conjecta/model/Values", "<init>", "([I[J)V"⟩ : MethodName)) rfl hown (mvT hZ (hw _ (List.mem_of_getElem? (i := 11) rfl))) (mvT hZ (hw _ (List.mem_of_getElem? (i := 12) rfl))) (mvT hZ (hw _ (List.mem_of_getElem? (i := 13) rfl))) (by decide) (backOf (W := 1) (rmI l Z a0 hw [] a231 a224 a225 h231 n0 A231 F235 F236 ge231) hZ (hw _ (List.mem_of_getElem? (i := 13) rfl)) (hw _ (List.mem_of_getElem? (i := 10) rfl)) (by decide) (by decide)) (g := (mkF m 129 #[.val (.int v0), .val (.int v1), .val (.int v2), .val (.long x0), .second, .val (.long x1), .second, .val (.long x2), .second, .val (.int (((0 : Int32) + (0 : Int32)) + (1 : Int32))), .val (.ref a224), .val (.ref a225), .val (.int ((0 : Int32) + (1 : Int32)))] [(.ref a225), (.ref a224), (.ref a231), (.ref a231)])) rfl (by rw [hml]; rfl) (Steps.refl _) (a := a231) (argsL := [(.ref a224), (.ref a225)]) (rest := [(.ref a231)]) (lenOf own_pd3 rfl) rfl (by show 2 * 0 + _ ≤ _; exact Nat.le_of_eq rfl) (hb hby d1_129) (fun _ _ => ⟨rfl, e231, (by decide : 3 + 0 ≤ _), (by decide : 4 + 0 ≤ _)⟩)
        dsimp only [Pt.U, Pt.locs, Pt.cells, Pt.slots] at X237 l237 y237 z237 st237 hQ237
        subst l237 y237 z237
        refine own_tr st237 ?_
        obtain ⟨rfl, N237, K237, E237, F237, G237⟩ := hQ237
        obtain ⟨L237, X237, M237⟩ := own_hide X237 (Fr.app M230 N237)
        obtain ⟨h237, e237⟩ : ∃ h, T237.heap = h := ⟨_, rfl⟩
        rw [e237] at K237 E237 F237 G237
        have Z237 : n0 ≤ h237.size := Nat.le_trans Z231 K237.1
        have KP237 : Keep h0 h237 [] := KP231.trans K237 (fun x hx => by cases List.mem_singleton.mp hx; exact Or.inr lb231)
        show own_Go p e below _ (T237.setTop (mkF m 132 #[.val (.int v0), .val (.int v1), .val (.int v2), .val (.long x0), .second, .val (.long x1), .second, .val (.long x2), .second, .val (.int (((0 : Int32) + (0 : Int32)) + (1 : Int32))), .val (.ref a224), .val (.ref a225), .val (.int ((0 : Int32) + (1 : Int32)))] [(.ref a231)]))
        have F238 : own_IA Z h237 a224 1 (fun i => if i = 0 then v2 else (fun _ => 0) i) := (own_IA_keep (own_IA_ext F232 E231) K237 (ninS ne233 nin0))
        have F239 : own_LA Z h237 a225 1 (fun i => if i = 0 then x2 else (fun _ => 0) i) := (own_LA_keep (own_LA_ext H230 E231) K237 (ninS ne234 nin0))
        have hl : own_lst v0 v1 v2 x0 x1 x2 = [(v2, x2)] := by simp only [own_lst, c0, c1, c2, if_true, if_false, List.nil_append, List.cons_append, List.append_nil]
        refine own_ret X237 hx hlk hret rfl (Or.inr (Or.inr (Or.inr (Or.inr ⟨rfl, rfl, rfl⟩)))) (hb hby d1_132) ⟨a231, rfl, M237, ?_⟩ (by decide) (by decide)
        rw [e237, hl]
        refine ⟨KP237, a224, a225, E237, F237, G237, own_IA_congr F238 ?_, own_LA_congr F239 ?_⟩
        · intro i hi
          match i, hi with
          | 0, _ => rfl
          | k + 1, hk => exact absurd hk (by simp only [List.length_cons, List.length_nil]; omega)
        · intro i hi
          match i, hi with
          | 0, _ => rfl
          | k + 1, hk => exact absurd hk (by simp only [List.length_cons, List.length_nil]; omega)
      · refine own_by (fun _ kont => XT.lloadN X0.here hx rfl (hb hby d1_0) rfl kont) ?_
        show own_Go p e below _ (s₁.setTop (mkF m 1 #[.val (.int v0), .val (.int v1), .val (.int v2), .val (.long x0), .second, .val (.long x1), .second, .val (.long x2), .second, .unset, .unset, .unset, .unset] [(.long x0)]))
        refine own_by (fun _ kont => XT.lconstV X0.here hx rfl (0 : Int64) (hb hby d1_1) rfl kont) ?_
        show own_Go p e below _ (s₁.setTop (mkF m 2 #[.val (.int v0), .val (.int v1), .val (.int v2), .val (.long x0), .second, .val (.long x1), .second, .val (.long x2), .second, .unset, .unset, .unset, .unset] [(.long (0 : Int64)), (.long x0)]))
        refine own_by (fun _ kont => XT.lcmp X0.here hx rfl (hb hby d1_2) rfl kont) ?_
        show own_Go p e below _ (s₁.setTop (mkF m 3 #[.val (.int v0), .val (.int v1), .val (.int v2), .val (.long x0), .second, .val (.long x1), .second, .val (.long x2), .second, .unset, .unset, .unset, .unset] [(.int (XT.cmpL x0 (0 : Int64)))]))
        refine own_by (fun _ kont => XS.ifYes X0.here hx rfl (pc0 := 3) (pc' := 10) rfl (hb hby d1_3) rfl (XT.ll_le_t c0) (by decide) (by decide) kont) ?_
        show own_Go p e below _ (s₁.setTop (mkF m 10 #[.val (.int v0), .val (.int v1), .val (.int v2), .val (.long x0), .second, .val (.long x1), .second, .val (.long x2), .second, .unset, .unset, .unset, .unset] []))
        refine own_by (fun _ kont => XT.iconstV X0.here hx rfl (0 : Int32) (hb hby d1_10) rfl kont) ?_
        show own_Go p e below _ (s₁.setTop (mkF m 11 #[.val (.int v0), .val (.int v1), .val (.int v2), .val (.long x0), .second, .val (.long x1), .second, .val (.long x2), .second, .unset, .unset, .unset, .unset] [(.int (0 : Int32))]))
        refine own_by (fun _ kont => XT.lload X0.here hx rfl (hb hby d1_11) rfl kont) ?_
        show own_Go p e below _ (s₁.setTop (mkF m 13 #[.val (.int v0), .val (.int v1), .val (.int v2), .val (.long x0), .second, .val (.long x1), .second, .val (.long x2), .second, .unset, .unset, .unset, .unset] [(.long x1), (.int (0 : Int32))]))
        refine own_by (fun _ kont => XT.lconstV X0.here hx rfl (0 : Int64) (hb hby d1_13) rfl kont) ?_
        show own_Go p e below _ (s₁.setTop (mkF m 14 #[.val (.int v0), .val (.int v1), .val (.int v2), .val (.long x0), .second, .val (.long x1), .second, .val (.long x2), .second, .unset, .unset, .unset, .unset] [(.long (0 : Int64)), (.long x1), (.int (0 : Int32))]))
        refine own_by (fun _ kont => XT.lcmp X0.here hx rfl (hb hby d1_14) rfl kont) ?_
        show own_Go p e below _ (s₁.setTop (mkF m 15 #[.val (.int v0), .val (.int v1), .val (.int v2), .val (.long x0), .second, .val (.long x1), .second, .val (.long x2), .second, .unset, .unset, .unset, .unset] [(.int (XT.cmpL x1 (0 : Int64))), (.int (0 : Int32))]))
        refine own_by (fun _ kont => XS.ifYes X0.here hx rfl (pc0 := 15) (pc' := 22) rfl (hb hby d1_15) rfl (XT.ll_le_t c1) (by decide) (by decide) kont) ?_
        show own_Go p e below _ (s₁.setTop (mkF m 22 #[.val (.int v0), .val (.int v1), .val (.int v2), .val (.long x0), .second, .val (.long x1), .second, .val (.long x2), .second, .unset, .unset, .unset, .unset] [(.int (0 : Int32))]))
        refine own_by (fun _ kont => XT.iconstV X0.here hx rfl (0 : Int32) (hb hby d1_22) rfl kont) ?_
        show own_Go p e below _ (s₁.setTop (mkF m 23 #[.val (.int v0), .val (.int v1), .val (.int v2), .val (.long x0), .second, .val (.long x1), .second, .val (.long x2), .second, .unset, .unset, .unset, .unset] [(.int (0 : Int32)), (.int (0 : Int32))]))
        refine own_by (fun _ kont => XS.iadd X0.here hx rfl (hb hby d1_23) rfl kont) ?_
        show own_Go p e below _ (s₁.setTop (mkF m 24 #[.val (.int v0), .val (.int v1), .val (.int v2), .val (.long x0), .second, .val (.long x1), .second, .val (.long x2), .second, .unset, .unset, .unset, .unset] [(.int ((0 : Int32) + (0 : Int32)))]))
        refine own_by (fun _ kont => XT.lload X0.here hx rfl (hb hby d1_24) rfl kont) ?_
        show own_Go p e below _ (s₁.setTop (mkF m 26 #[.val (.int v0), .val (.int v1), .val (.int v2), .val (.long x0), .second, .val (.long x1), .second, .val (.long x2), .second, .unset, .unset, .unset, .unset] [(.long x2), (.int ((0 : Int32) + (0 : Int32)))]))
        refine own_by (fun _ kont => XT.lconstV X0.here hx rfl (0 : Int64) (hb hby d1_26) rfl kont) ?_
        show own_Go p e below _ (s₁.setTop (mkF m 27 #[.val (.int v0), .val (.int v1), .val (.int v2), .val (.long x0), .second, .val (.long x1), .second, .val (.long x2), .second, .unset, .unset, .unset, .unset] [(.long (0 : Int64)), (.long x2), (.int ((0 : Int32) + (0 : Int32)))]))
        refine own_by (fun _ kont => XT.lcmp X0.here hx rfl (hb hby d1_27) rfl kont) ?_
        show own_Go p e below _ (s₁.setTop (mkF m 28 #[.val (.int v0), .val (.int v1), .val (.int v2), .val (.long x0), .second, .val (.long x1), .second, .val (.long x2), .second, .unset, .unset, .unset, .unset] [(.int (XT.cmpL x2 (0 : Int64))), (.int ((0 : Int32) + (0 : Int32)))]))
        refine own_by (fun _ kont => XS.ifYes X0.here hx rfl (pc0 := 28) (pc' := 35) rfl (hb hby d1_28) rfl (XT.ll_le_t c2) (by decide) (by decide) kont) ?_
        show own_Go p e below _ (s₁.setTop (mkF m 35 #[.val (.int v0), .val (.int v1), .val (.int v2), .val (.long x0), .second, .val (.long x1), .second, .val (.long x2), .second, .unset, .unset, .unset, .unset] [(.int ((0 : Int32) + (0 : Int32)))]))
        refine own_by (fun _ kont => XT.iconstV X0.here hx rfl (0 : Int32) (hb hby d1_35) rfl kont) ?_
        show own_Go p e below _ (s₁.setTop (mkF m 36 #[.val (.int v0), .val (.int v1), .val (.int v2), .val (.long x0), .second, .val (.long x1), .second, .val (.long x2), .second, .unset, .unset, .unset, .unset] [(.int (0 : Int32)), (.int ((0 : Int32) + (0 : Int32)))]))
        refine own_by (fun _ kont => XS.iadd X0.here hx rfl (hb hby d1_36) rfl kont) ?_
        show own_Go p e below _ (s₁.setTop (mkF m 37 #[.val (.int v0), .val (.int v1), .val (.int v2), .val (.long x0), .second, .val (.long x1), .second, .val (.long x2), .second, .unset, .unset, .unset, .unset] [(.int (((0 : Int32) + (0 : Int32)) + (0 : Int32)))]))
        refine own_by (fun _ kont => XS.istore X0.here hx rfl (hb hby d1_37) rfl (l' := #[.val (.int v0), .val (.int v1), .val (.int v2), .val (.long x0), .second, .val (.long x1), .second, .val (.long x2), .second, .val (.int (((0 : Int32) + (0 : Int32)) + (0 : Int32))), .unset, .unset, .unset]) rfl kont) ?_
        show own_Go p e below _ (s₁.setTop (mkF m 39 #[.val (.int v0), .val (.int v1), .val (.int v2), .val (.long x0), .second, .val (.long x1), .second, .val (.long x2), .second, .val (.int (((0 : Int32) + (0 : Int32)) + (0 : Int32))), .unset, .unset, .unset] []))
        refine own_by (fun _ kont => XS.iload X0.here hx rfl (hb hby d1_39) rfl kont) ?_
        show own_Go p e below _ (s₁.setTop (mkF m 41 #[.val (.int v0), .val (.int v1), .val (.int v2), .val (.long x0), .second, .val (.long x1), .second, .val (.long x2), .second, .val (.int (((0 : Int32) + (0 : Int32)) + (0 : Int32))), .unset, .unset, .unset] [(.int (((0 : Int32) + (0 : Int32)) + (0 : Int32)))]))
        obtain ⟨T240, h240, a240, X240, e240, g240, E240, H240, st240⟩ := own_newIA X0 hx hZ (hw _ (List.mem_of_getElem? (i := 6) rfl)) e0 (g := (mkF m 41 #[.val (.int v0), .val (.int v1), .val (.int v2), .val (.long x0), .second, .val (.long x1), .second, .val (.long x2), .second, .val (.int (((0 : Int32) + (0 : Int32)) + (0 : Int32))), .unset, .unset, .unset] [(.int (((0 : Int32) + (0 : Int32)) + (0 : Int32)))])) rfl (hb hby d1_41) rfl 0 (by decide) (cap := 0) (by decide) (by decide) (by decide) (by decide)
        have ge240 : n0 ≤ a240 := by rw [g240]; exact Z0
        have lb240 : h0.size ≤ a240 := by rw [g240]; exact KP0.1
        have Z240 : n0 ≤ h240.size := Nat.le_trans Z0 E240.1
        have KP240 : Keep h0 h240 [] := KP0.ext E240
        refine own_by st240 ?_
        show own_Go p e below _ (T240.setTop (mkF m 43 #[.val (.int v0), .val (.int v1), .val (.int v2), .val (.long x0), .second, .val (.long x1), .second, .val (.long x2), .second, .val (.int (((0 : Int32) + (0 : Int32)) + (0 : Int32))), .unset, .unset, .unset] [(.ref a240)]))
        refine own_by (fun _ kont => XS.astore X240.here hx rfl (hb hby d1_43) rfl rfl (l' := #[.val (.int v0), .val (.int v1), .val (.int v2), .val (.long x0), .second, .val (.long x1), .second, .val (.long x2), .second, .val (.int (((0 : Int32) + (0 : Int32)) + (0 : Int32))), .val (.ref a240), .unset, .unset]) rfl kont) ?_
        show own_Go p e below _ (T240.setTop (mkF m 45 #[.val (.int v0), .val (.int v1), .val (.int v2), .val (.long x0), .second, .val (.long x1), .second, .val (.long x2), .second, .val (.int (((0 : Int32) + (0 : Int32)) + (0 : Int32))), .val (.ref a240), .unset, .unset] []))
        refine own_by (fun _ kont => XS.iload X240.here hx rfl (hb hby d1_45) rfl kont) ?_
        show own_Go p e below _ (T240.setTop (mkF m 47 #[.val (.int v0), .val (.int v1), .val (.int v2), .val (.long x0), .second, .val (.long x1), .second, .val (.long x2), .second, .val (.int (((0 : Int32) + (0 : Int32)) + (0 : Int32))), .val (.ref a240), .unset, .unset] [(.int (((0 : Int32) + (0 : Int32)) + (0 : Int32)))]))
        obtain ⟨T241, h241, a241, X241, e241, g241, E241, H241, st241⟩ := own_newLA X240 hx hZ (hw _ (List.mem_of_getElem? (i := 7) rfl)) e240 (g := (mkF m 47 #[.val (.int v0), .val (.int v1), .val (.int v2), .val (.long x0), .second, .val (.long x1), .second, .val (.long x2), .second, .val (.int (((0 : Int32) + (0 : Int32)) + (0 : Int32))), .val (.ref a240), .unset, .unset] [(.int (((0 : Int32) + (0 : Int32)) + (0 : Int32)))])) rfl (hb hby d1_47) rfl 0 (by decide) (cap := 0) (by decide) (by decide) (by decide) (by decide)
        have ne242 : a240 ≠ a241 := by rw [g241]; exact Nat.ne_of_lt (own_IA_lt H240)
        have ge241 : n0 ≤ a241 := by rw [g241]; exact Z240
        have lb241 : h0.size ≤ a241 := by rw [g241]; exact KP240.1
        have Z241 : n0 ≤ h241.size := Nat.le_trans Z240 E241.1
        have KP241 : Keep h0 h241 [] := KP240.ext E241
        refine own_by st241 ?_
        show own_Go p e below _ (T241.setTop (mkF m 49 #[.val (.int v0), .val (.int v1), .val (.int v2), .val (.long x0), .second, .val (.long x1), .second, .val (.long x2), .second, .val (.int (((0 : Int32) + (0 : Int32)) + (0 : Int32))), .val (.ref a240), .unset, .unset] [(.ref a241)]))
        refine own_by (fun _ kont => XS.astore X241.here hx rfl (hb hby d1_49) rfl rfl (l' := #[.val (.int v0), .val (.int v1), .val (.int v2), .val (.long x0), .second, .val (.long x1), .second, .val (.long x2), .second, .val (.int (((0 : Int32) + (0 : Int32)) + (0 : Int32))), .val (.ref a240), .val (.ref a241), .unset]) rfl kont) ?_
        show own_Go p e below _ (T241.setTop (mkF m 51 #[.val (.int v0), .val (.int v1), .val (.int v2), .val (.long x0), .second, .val (.long x1), .second, .val (.long x2), .second, .val (.int (((0 : Int32) + (0 : Int32)) + (0 : Int32))), .val (.ref a240), .val (.ref a241), .unset] []))
        refine own_by (fun _ kont => XT.iconstV X241.here hx rfl (0 : Int32) (hb hby d1_51) rfl kont) ?_
        show own_Go p e below _ (T241.setTop (mkF m 52 #[.val (.int v0), .val (.int v1), .val (.int v2), .val (.long x0), .second, .val (.long x1), .second, .val (.long x2), .second, .val (.int (((0 : Int32) + (0 : Int32)) + (0 : Int32))), .val (.ref a240), .val (.ref a241), .unset] [(.int (0 : Int32))]))
        refine own_by (fun _ kont => XS.istore X241.here hx rfl (hb hby d1_52) rfl (l' := #[.val (.int v0), .val (.int v1), .val (.int v2), .val (.long x0), .second, .val (.long x1), .second, .val (.long x2), .second, .val (.int (((0 : Int32) + (0 : Int32)) + (0 : Int32))), .val (.ref a240), .val (.ref a241), .val (.int (0 : Int32))]) rfl kont) ?_
        show own_Go p e below _ (T241.setTop (mkF m 54 #[.val (.int v0), .val (.int v1), .val (.int v2), .val (.long x0), .second, .val (.long x1), .second, .val (.long x2), .second, .val (.int (((0 : Int32) + (0 : Int32)) + (0 : Int32))), .val (.ref a240), .val (.ref a241), .val (.int (0 : Int32))] []))
        refine own_by (fun _ kont => XT.lloadN X241.here hx rfl (hb hby d1_54) rfl kont) ?_
        show own_Go p e below _ (T241.setTop (mkF m 55 #[.val (.int v0), .val (.int v1), .val (.int v2), .val (.long x0), .second, .val (.long x1), .second, .val (.long x2), .second, .val (.int (((0 : Int32) + (0 : Int32)) + (0 : Int32))), .val (.ref a240), .val (.ref a241), .val (.int (0 : Int32))] [(.long x0)]))
        refine own_by (fun _ kont => XT.lconstV X241.here hx rfl (0 : Int64) (hb hby d1_55) rfl kont) ?_
        show own_Go p e below _ (T241.setTop (mkF m 56 #[.val (.int v0), .val (.int v1), .val (.int v2), .val (.long x0), .second, .val (.long x1), .second, .val (.long x2), .second, .val (.int (((0 : Int32) + (0 : Int32)) + (0 : Int32))), .val (.ref a240), .val (.ref a241), .val (.int (0 : Int32))] [(.long (0 : Int64)), (.long x0)]))
        refine own_by (fun _ kont => XT.lcmp X241.here hx rfl (hb hby d1_56) rfl kont) ?_
        show own_Go p e below _ (T241.setTop (mkF m 57 #[.val (.int v0), .val (.int v1), .val (.int v2), .val (.long x0), .second, .val (.long x1), .second, .val (.long x2), .second, .val (.int (((0 : Int32) + (0 : Int32)) + (0 : Int32))), .val (.ref a240), .val (.ref a241), .val (.int (0 : Int32))] [(.int (XT.cmpL x0 (0 : Int64)))]))
        refine own_by (fun _ kont => XS.ifYes X241.here hx rfl (pc0 := 57) (pc' := 75) rfl (hb hby d1_57) rfl (XT.ll_le_t c0) (by decide) (by decide) kont) ?_
        show own_Go p e below _ (T241.setTop (mkF m 75 #[.val (.int v0), .val (.int v1), .val (.int v2), .val (.long x0), .second, .val (.long x1), .second, .val (.long x2), .second, .val (.int (((0 : Int32) + (0 : Int32)) + (0 : Int32))), .val (.ref a240), .val (.ref a241), .val (.int (0 : Int32))] []))
        refine own_by (fun _ kont => XT.lload X241.here hx rfl (hb hby d1_75) rfl kont) ?_
        show own_Go p e below _ (T241.setTop (mkF m 77 #[.val (.int v0), .val (.int v1), .val (.int v2), .val (.long x0), .second, .val (.long x1), .second, .val (.long x2), .second, .val (.int (((0 : Int32) + (0 : Int32)) + (0 : Int32))), .val (.ref a240), .val (.ref a241), .val (.int (0 : Int32))] [(.long x1)]))
        refine own_by (fun _ kont => XT.lconstV X241.here hx rfl (0 : Int64) (hb hby d1_77) rfl kont) ?_
        show own_Go p e below _ (T241.setTop (mkF m 78 #[.val (.int v0), .val (.int v1), .val (.int v2), .val (.long x0), .second, .val (.long x1), .second, .val (.long x2), .second, .val (.int (((0 : Int32) + (0 : Int32)) + (0 : Int32))), .val (.ref a240), .val (.ref a241), .val (.int (0 : Int32))] [(.long (0 : Int64)), (.long x1)]))
        refine own_by (fun _ kont => XT.lcmp X241.here hx rfl (hb hby d1_78) rfl kont) ?_
        show own_Go p e below _ (T241.setTop (mkF m 79 #[.val (.int v0), .val (.int v1), .val (.int v2), .val (.long x0), .second, .val (.long x1), .second, .val (.long x2), .second, .val (.int (((0 : Int32) + (0 : Int32)) + (0 : Int32))), .val (.ref a240), .val (.ref a241), .val (.int (0 : Int32))] [(.int (XT.cmpL x1 (0 : Int64)))]))
        refine own_by (fun _ kont => XS.ifYes X241.here hx rfl (pc0 := 79) (pc' := 98) rfl (hb hby d1_79) rfl (XT.ll_le_t c1) (by decide) (by decide) kont) ?_
        show own_Go p e below _ (T241.setTop (mkF m 98 #[.val (.int v0), .val (.int v1), .val (.int v2), .val (.long x0), .second, .val (.long x1), .second, .val (.long x2), .second, .val (.int (((0 : Int32) + (0 : Int32)) + (0 : Int32))), .val (.ref a240), .val (.ref a241), .val (.int (0 : Int32))] []))
        refine own_by (fun _ kont => XT.lload X241.here hx rfl (hb hby d1_98) rfl kont) ?_
        show own_Go p e below _ (T241.setTop (mkF m 100 #[.val (.int v0), .val (.int v1), .val (.int v2), .val (.long x0), .second, .val (.long x1), .second, .val (.long x2), .second, .val (.int (((0 : Int32) + (0 : Int32)) + (0 : Int32))), .val (.ref a240), .val (.ref a241), .val (.int (0 : Int32))] [(.long x2)]))
        refine own_by (fun _ kont => XT.lconstV X241.here hx rfl (0 : Int64) (hb hby d1_100) rfl kont) ?_
        show own_Go p e below _ (T241.setTop (mkF m 101 #[.val (.int v0), .val (.int v1), .val (.int v2), .val (.long x0), .second, .val (.long x1), .second, .val (.long x2), .second, .val (.int (((0 : Int32) + (0 : Int32)) + (0 : Int32))), .val (.ref a240), .val (.ref a241), .val (.int (0 : Int32))] [(.long (0 : Int64)), (.long x2)]))
        refine own_by (fun _ kont => XT.lcmp X241.here hx rfl (hb hby d1_101) rfl kont) ?_
        show own_Go p e below _ (T241.setTop (mkF m 102 #[.val (.int v0), .val (.int v1), .val (.int v2), .val (.long x0), .second, .val (.long x1), .second, .val (.long x2), .second, .val (.int (((0 : Int32) + (0 : Int32)) + (0 : Int32))), .val (.ref a240), .val (.ref a241), .val (.int (0 : Int32))] [(.int (XT.cmpL x2 (0 : Int64)))]))
        refine own_by (fun _ kont => XS.ifYes X241.here hx rfl (pc0 := 102) (pc' := 121) rfl (hb hby d1_102) rfl (XT.ll_le_t c2) (by decide) (by decide) kont) ?_
        show own_Go p e below _ (T241.setTop (mkF m 121 #[.val (.int v0), .val (.int v1), .val (.int v2), .val (.long x0), .second, .val (.long x1), .second, .val (.long x2), .second, .val (.int (((0 : Int32) + (0 : Int32)) + (0 : Int32))), .val (.ref a240), .val (.ref a241), .val (.int (0 : Int32))] []))
        obtain ⟨T243, h243, X243, e243, E243, A243, D243, -, st243⟩ := newO X241 hx hZ hown (hw _ (List.mem_of_getElem? (i := 8) rfl)) (hw _ (List.mem_of_getElem? (i := 9) rfl)) (hw _ (List.mem_of_getElem? (i := 10) rfl)) e241 (g := (mkF m 121 #[.val (.int v0), .val (.int v1), .val (.int v2), .val (.long x0), .second, .val (.long x1), .second, .val (.long x2), .second, .val (.int (((0 : Int32) + (0 : Int32)) + (0 : Int32))), .val (.ref a240), .val (.ref a241), .val (.int (0 : Int32))] [])) rfl (hb hby d1_121) (by decide) (by decide)
        obtain ⟨a243, g243⟩ : ∃ z, z = h241.size := ⟨_, rfl⟩
        rw [← g243] at A243 D243 st243
        have F244 : own_IA Z h241 a240 0 (fun _ => 0) := (own_IA_ext H240 E241)
        have ne245 : a240 ≠ a243 := by rw [g243]; exact Nat.ne_of_lt (own_IA_lt F244)
        have ne246 : a241 ≠ a243 := by rw [g243]; exact Nat.ne_of_lt (own_LA_lt H241)
        have ge243 : n0 ≤ a243 := by rw [g243]; exact Z241
        have lb243 : h0.size ≤ a243 := by rw [g243]; exact KP241.1
        have Z243 : n0 ≤ h243.size := Nat.le_trans Z241 E243.1
        have KP243 : Keep h0 h243 [] := KP241.ext E243
        have F247 : Fld Z h243 a243 "com/example/conjecta/conjecta/model/Values" "variables" "[I" .null := D243 (Or.inr (hw _ (List.mem_of_getElem? (i := 18) rfl))) (ty := (.array .int)) (by decide)
        have F248 : Fld Z h243 a243 "com/example/conjecta/conjecta/model/Values" "values" "[J" .null := D243 (Or.inr (hw _ (List.mem_of_getElem? (i := 20) rfl))) (ty := (.array .long)) (by decide)
        refine own_by st243 ?_
        show own_Go p e below _ (T243.setTop (mkF m 124 #[.val (.int v0), .val (.int v1), .val (.int v2), .val (.long x0), .second, .val (.long x1), .second, .val (.long x2), .second, .val (.int (((0 : Int32) + (0 : Int32)) + (0 : Int32))), .val (.ref a240), .val (.ref a241), .val (.int (0 : Int32))] [(.ref a243)]))
        refine own_by (fun _ kont => XS.dup X243.here hx rfl (hb hby d1_124) rfl rfl kont) ?_
        show own_Go p e below _ (T243.setTop (mkF m 125 #[.val (.int v0), .val (.int v1), .val (.int v2), .val (.long x0), .second, .val (.long x1), .second, .val (.long x2), .second, .val (.int (((0 : Int32) + (0 : Int32)) + (0 : Int32))), .val (.ref a240), .val (.ref a241), .val (.int (0 : Int32))] [(.ref a243), (.ref a243)]))
        refine own_by (fun _ kont => XS.aload X243.here hx rfl (hb hby d1_125) rfl rfl kont) ?_
        show own_Go p e below _ (T243.setTop (mkF m 127 #[.val (.int v0), .val (.int v1), .val (.int v2), .val (.long x0), .second, .val (.long x1), .second, .val (.long x2), .second, .val (.int (((0 : Int32) + (0 : Int32)) + (0 : Int32))), .val (.ref a240), .val (.ref a241), .val (.int (0 : Int32))] [(.ref a240), (.ref a243), (.ref a243)]))
        refine own_by (fun _ kont => XS.aload X243.here hx rfl (hb hby d1_127) rfl rfl kont) ?_
        show own_Go p e below _ (T243.setTop (mkF m 129 #[.val (.int v0), .val (.int v1), .val (.int v2), .val (.long x0), .second, .val (.long x1), .second, .val (.long x2), .second, .val (.int (((0 : Int32) + (0 : Int32)) + (0 : Int32))), .val (.ref a240), .val (.ref a241), .val (.int (0 : Int32))] [(.ref a241), (.ref a240), (.ref a243), (.ref a243)]))
        obtain ⟨_, _, ⟨T249, L249, k249, n249⟩, -, X249, ⟨Lc249, hQ249, l249, y249, z249⟩, st249⟩ := X243.specialBack hx (y := (⟨"com/example/conjecta/conjecta/model/Values", "<init>", "([I[J)V"⟩ : MethodName)) rfl hown (mvT hZ (hw _ (List.mem_of_getElem? (i := 11) rfl))) (mvT hZ (hw _ (List.mem_of_getElem? (i := 12) rfl))) (mvT hZ (hw _ (List.mem_of_getElem? (i := 13) rfl))) (by decide) (backOf (W := 1) (rmI l Z a0 hw [] a243 a240 a241 h243 n0 A243 F247 F248 ge243) hZ (hw _ (List.mem_of_getElem? (i := 13) rfl)) (hw _ (List.mem_of_getElem? (i := 10) rfl)) (by decide) (by decide)) (g := (mkF m 129 #[.val (.int v0), .val (.int v1), .val (.int v2), .val (.long x0), .second, .val (.long x1), .second, .val (.long x2), .second, .val (.int (((0 : Int32) + (0 : Int32)) + (0 : Int32))), .val (.ref a240), .val (.ref a241), .val (.int (0 : Int32))] [(.ref a241), (.ref a240), (.ref a243), (.ref a243)])) rfl (by rw [hml]; rfl) (Steps.refl _) (a := a243) (argsL := [(.ref a240), (.ref a241)]) (rest := [(.ref a243)]) (lenOf own_pd3 rfl) rfl (by show 2 * 0 + _ ≤ _; exact Nat.le_of_eq rfl) (hb hby d1_129) (fun _ _ => ⟨rfl, e243, (by decide : 3 + 0 ≤ _), (by decide : 2 + 0 ≤ _)⟩)
        dsimp only [Pt.U, Pt.locs, Pt.cells, Pt.slots] at X249 l249 y249 z249 st249 hQ249
        subst l249 y249 z249
        refine own_tr st249 ?_
        obtain ⟨rfl, N249, K249, E249, F249, G249⟩ := hQ249
        obtain ⟨L249, X249, M249⟩ := own_hide X249 (Fr.app N0 N249)
        obtain ⟨h249, e249⟩ : ∃ h, T249.heap = h := ⟨_, rfl⟩
        rw [e249] at K249 E249 F249 G249
        have Z249 : n0 ≤ h249.size := Nat.le_trans Z243 K249.1
        have KP249 : Keep h0 h249 [] := KP243.trans K249 (fun x hx => by cases List.mem_singleton.mp hx; exact Or.inr lb243)
        show own_Go p e below _ (T249.setTop (mkF m 132 #[.val (.int v0), .val (.int v1), .val (.int v2), .val (.long x0), .second, .val (.long x1), .second, .val (.long x2), .second, .val (.int (((0 : Int32) + (0 : Int32)) + (0 : Int32))), .val (.ref a240), .val (.ref a241), .val (.int (0 : Int32))] [(.ref a243)]))
        have F250 : own_IA Z h249 a240 0 (fun _ => 0) := (own_IA_keep (own_IA_ext F244 E243) K249 (ninS ne245 nin0))
        have F251 : own_LA Z h249 a241 0 (fun _ => 0) := (own_LA_keep (own_LA_ext H241 E243) K249 (ninS ne246 nin0))
        have hl : own_lst v0 v1 v2 x0 x1 x2 = [] := by simp only [own_lst, c0, c1, c2, if_true, if_false, List.nil_append, List.cons_append, List.append_nil]
        refine own_ret X249 hx hlk hret rfl (Or.inr (Or.inr (Or.inr (Or.inr ⟨rfl, rfl, rfl⟩)))) (hb hby d1_132) ⟨a243, rfl, M249, ?_⟩ (by decide) (by decide)
        rw [e249, hl]
        refine ⟨KP249, a240, a241, E249, F249, G249, own_IA_congr F250 ?_, own_LA_congr F251 ?_⟩
        · intro i hi
          exact absurd hi (by simp only [List.length_nil]; omega)
        · intro i hi
          exact absurd hi (by simp only [List.length_nil]; omega)
set_option maxRecDepth 65536 in
set_option maxHeartbeats 40000000 in
theorem own_in28 {p : Program} {l : Launch} {e : Env} {s : State} {m : MethodId} {args : Array Value} {below : List Frame} {meth : Method} {c : Code} {locs : List Loc} {Z : State} {a0 : Array Value} {n0 : Nat} {h0 : Heap} {K : Outcome → State → Prop} (hx : p.tables.exec = Jvm.exec) (hby : c.code = prog_232_method_7_code) (hlk : meth.locks = false) (hret : meth.sig.returnType = some .boolean) (hZ : Z.Warmed39 s.vm) (hown : s.vm.findClass "com/example/conjecta/conjecta/model/Values" = some m.cls) (hw : ∀ d ∈ tables_1, d.before a0 Z = true) (hml : c.maxLocals = 4) (a b pa qa pb qb : Addr) (A B : List (Int32 × Int64)) (hA : A.length ≤ 100) (hB : B.length ≤ 100) (Fa : Fld Z h0 a "com/example/conjecta/conjecta/model/Values" "variables" "[I" (.ref pa)) (Ga : Fld Z h0 a "com/example/conjecta/conjecta/model/Values" "values" "[J" (.ref qa)) (Ha : own_IA Z h0 pa A.length (fun i => (A.getD i (0, 0)).1)) (Ja : own_LA Z h0 qa A.length (fun i => (A.getD i (0, 0)).2)) (Fb : Fld Z h0 b "com/example/conjecta/conjecta/model/Values" "variables" "[I" (.ref pb)) (Gb : Fld Z h0 b "com/example/conjecta/conjecta/model/Values" "values" "[J" (.ref qb)) (Hb : own_IA Z h0 pb B.length (fun i => (B.getD i (0, 0)).1)) (Jb : own_LA Z h0 qb B.length (fun i => (B.getD i (0, 0)).2)) (j : Nat) (hj : j < A.length) :
    ∀ (d i : Nat) (T : State), Stand p l e ({ frames := 0, cells := 0, slots := 0, locals := 0 } : Room) s m args below meth c T locs 0 0 → T.heap = h0 → i + d = B.length → (∀ (i2 : Nat) (T2 : State), Stand p l e ({ frames := 0, cells := 0, slots := 0, locals := 0 } : Room) s m args below meth c T2 locs 0 0 → T2.heap = h0 → i2 ≤ B.length → B.drop i2 = own_drop (A.getD j (0, 0)).1 (B.drop i) → own_Go p e below K (T2.setTop (mkF m 58 #[.val (.ref a), .val (.ref b), .val (.int (Int32.ofNat i2)), .val (.int (Int32.ofNat j))] []))) → own_Go p e below K (T.setTop (mkF m 28 #[.val (.ref a), .val (.ref b), .val (.int (Int32.ofNat i)), .val (.int (Int32.ofNat j))] [])) := by
  intro d
  induction d with
  | zero =>
    intro i T X eT hi hc
    refine own_by (fun _ kont => XS.iloadN X.here hx rfl (hb hby d4_28) rfl kont) ?_
    show own_Go p e below _ (T.setTop (mkF m 29 #[.val (.ref a), .val (.ref b), .val (.int (Int32.ofNat i)), .val (.int (Int32.ofNat j))] [(.int (Int32.ofNat i))]))
    refine own_by (fun _ kont => XS.aloadN X.here hx rfl (hb hby d4_29) rfl rfl kont) ?_
    show own_Go p e below _ (T.setTop (mkF m 30 #[.val (.ref a), .val (.ref b), .val (.int (Int32.ofNat i)), .val (.int (Int32.ofNat j))] [(.ref b), (.int (Int32.ofNat i))]))
    obtain ⟨T252, X252, e252, st252⟩ := getF X hx hZ hown (host := "") (Or.inl (hw _ (List.mem_of_getElem? (i := 17) rfl))) Via.refl eT Fb (g := (mkF m 30 #[.val (.ref a), .val (.ref b), .val (.int (Int32.ofNat i)), .val (.int (Int32.ofNat j))] [(.ref b), (.int (Int32.ofNat i))])) rfl rfl (hb hby d4_30)
    refine own_by st252 ?_
    show own_Go p e below _ (T252.setTop (mkF m 33 #[.val (.ref a), .val (.ref b), .val (.int (Int32.ofNat i)), .val (.int (Int32.ofNat j))] [(.ref pb), (.int (Int32.ofNat i))]))
    refine own_by (fun _ kont => own_lenIA X252 hx hZ e252 Hb (z := (Int32.ofNat B.length)) rfl rfl rfl (hb hby d4_33) kont) ?_
    show own_Go p e below _ (T252.setTop (mkF m 34 #[.val (.ref a), .val (.ref b), .val (.int (Int32.ofNat i)), .val (.int (Int32.ofNat j))] [(.int (Int32.ofNat B.length)), (.int (Int32.ofNat i))]))
    refine own_by (fun _ kont => XS.icmpYes X252.here hx rfl (pc0 := 34) (pc' := 58) rfl (hb hby d4_34) rfl (XT.ii_ge_t (fun z => absurd ((own_ilt (by omega) (by omega)).mp z) (by omega))) (by decide) (by decide) kont) ?_
    show own_Go p e below _ (T252.setTop (mkF m 58 #[.val (.ref a), .val (.ref b), .val (.int (Int32.ofNat i)), .val (.int (Int32.ofNat j))] []))
    exact hc i T252 X252 e252 (by omega) (by rw [(own_drop_end (v := (A.getD j (0, 0)).1) (B := B) (i := i) (by omega)).1, (own_drop_end (v := (A.getD j (0, 0)).1) (B := B) (i := i) (by omega)).2])
  | succ d ih =>
    intro i T X eT hi hc
    refine own_by (fun _ kont => XS.iloadN X.here hx rfl (hb hby d4_28) rfl kont) ?_
    show own_Go p e below _ (T.setTop (mkF m 29 #[.val (.ref a), .val (.ref b), .val (.int (Int32.ofNat i)), .val (.int (Int32.ofNat j))] [(.int (Int32.ofNat i))]))
    refine own_by (fun _ kont => XS.aloadN X.here hx rfl (hb hby d4_29) rfl rfl kont) ?_
    show own_Go p e below _ (T.setTop (mkF m 30 #[.val (.ref a), .val (.ref b), .val (.int (Int32.ofNat i)), .val (.int (Int32.ofNat j))] [(.ref b), (.int (Int32.ofNat i))]))
    obtain ⟨T253, X253, e253, st253⟩ := getF X hx hZ hown (host := "") (Or.inl (hw _ (List.mem_of_getElem? (i := 17) rfl))) Via.refl eT Fb (g := (mkF m 30 #[.val (.ref a), .val (.ref b), .val (.int (Int32.ofNat i)), .val (.int (Int32.ofNat j))] [(.ref b), (.int (Int32.ofNat i))])) rfl rfl (hb hby d4_30)
    refine own_by st253 ?_
    show own_Go p e below _ (T253.setTop (mkF m 33 #[.val (.ref a), .val (.ref b), .val (.int (Int32.ofNat i)), .val (.int (Int32.ofNat j))] [(.ref pb), (.int (Int32.ofNat i))]))
    refine own_by (fun _ kont => own_lenIA X253 hx hZ e253 Hb (z := (Int32.ofNat B.length)) rfl rfl rfl (hb hby d4_33) kont) ?_
    show own_Go p e below _ (T253.setTop (mkF m 34 #[.val (.ref a), .val (.ref b), .val (.int (Int32.ofNat i)), .val (.int (Int32.ofNat j))] [(.int (Int32.ofNat B.length)), (.int (Int32.ofNat i))]))
    refine own_by (fun _ kont => XS.icmpNo X253.here hx rfl (hb hby d4_34) rfl (XT.ii_ge_f ((own_ilt (by omega) (by omega)).mpr (by omega))) kont) ?_
    show own_Go p e below _ (T253.setTop (mkF m 37 #[.val (.ref a), .val (.ref b), .val (.int (Int32.ofNat i)), .val (.int (Int32.ofNat j))] []))
    refine own_by (fun _ kont => XS.aloadN X253.here hx rfl (hb hby d4_37) rfl rfl kont) ?_
    show own_Go p e below _ (T253.setTop (mkF m 38 #[.val (.ref a), .val (.ref b), .val (.int (Int32.ofNat i)), .val (.int (Int32.ofNat j))] [(.ref b)]))
    obtain ⟨T254, X254, e254, st254⟩ := getF X253 hx hZ hown (host := "") (Or.inl (hw _ (List.mem_of_getElem? (i := 17) rfl))) Via.refl e253 Fb (g := (mkF m 38 #[.val (.ref a), .val (.ref b), .val (.int (Int32.ofNat i)), .val (.int (Int32.ofNat j))] [(.ref b)])) rfl rfl (hb hby d4_38)
    refine own_by st254 ?_
    show own_Go p e below _ (T254.setTop (mkF m 41 #[.val (.ref a), .val (.ref b), .val (.int (Int32.ofNat i)), .val (.int (Int32.ofNat j))] [(.ref pb)]))
    refine own_by (fun _ kont => XS.iloadN X254.here hx rfl (hb hby d4_41) rfl kont) ?_
    show own_Go p e below _ (T254.setTop (mkF m 42 #[.val (.ref a), .val (.ref b), .val (.int (Int32.ofNat i)), .val (.int (Int32.ofNat j))] [(.int (Int32.ofNat i)), (.ref pb)]))
    refine own_by (fun _ kont => own_ldN X254 hx hZ e254 Hb (j := (Int32.ofNat i)) i (own_i (by omega)) (by omega) rfl rfl (hb hby d4_42) kont) ?_
    show own_Go p e below _ (T254.setTop (mkF m 43 #[.val (.ref a), .val (.ref b), .val (.int (Int32.ofNat i)), .val (.int (Int32.ofNat j))] [(.int ((fun i => (B.getD i (0, 0)).1) i))]))
    show own_Go p e below _ (T254.setTop (mkF m 43 #[.val (.ref a), .val (.ref b), .val (.int (Int32.ofNat i)), .val (.int (Int32.ofNat j))] [(.int (B.getD i (0, 0)).1)]))
    refine own_by (fun _ kont => XS.aloadN X254.here hx rfl (hb hby d4_43) rfl rfl kont) ?_
    show own_Go p e below _ (T254.setTop (mkF m 44 #[.val (.ref a), .val (.ref b), .val (.int (Int32.ofNat i)), .val (.int (Int32.ofNat j))] [(.ref a), (.int (B.getD i (0, 0)).1)]))
    obtain ⟨T255, X255, e255, st255⟩ := getF X254 hx hZ hown (host := "") (Or.inl (hw _ (List.mem_of_getElem? (i := 17) rfl))) Via.refl e254 Fa (g := (mkF m 44 #[.val (.ref a), .val (.ref b), .val (.int (Int32.ofNat i)), .val (.int (Int32.ofNat j))] [(.ref a), (.int (B.getD i (0, 0)).1)])) rfl rfl (hb hby d4_44)
    refine own_by st255 ?_
    show own_Go p e below _ (T255.setTop (mkF m 47 #[.val (.ref a), .val (.ref b), .val (.int (Int32.ofNat i)), .val (.int (Int32.ofNat j))] [(.ref pa), (.int (B.getD i (0, 0)).1)]))
    refine own_by (fun _ kont => XS.iloadN X255.here hx rfl (hb hby d4_47) rfl kont) ?_
    show own_Go p e below _ (T255.setTop (mkF m 48 #[.val (.ref a), .val (.ref b), .val (.int (Int32.ofNat i)), .val (.int (Int32.ofNat j))] [(.int (Int32.ofNat j)), (.ref pa), (.int (B.getD i (0, 0)).1)]))
    refine own_by (fun _ kont => own_ldN X255 hx hZ e255 Ha (j := (Int32.ofNat j)) j (own_i (by omega)) hj rfl rfl (hb hby d4_48) kont) ?_
    show own_Go p e below _ (T255.setTop (mkF m 49 #[.val (.ref a), .val (.ref b), .val (.int (Int32.ofNat i)), .val (.int (Int32.ofNat j))] [(.int ((fun i => (A.getD i (0, 0)).1) j)), (.int (B.getD i (0, 0)).1)]))
    show own_Go p e below _ (T255.setTop (mkF m 49 #[.val (.ref a), .val (.ref b), .val (.int (Int32.ofNat i)), .val (.int (Int32.ofNat j))] [(.int (A.getD j (0, 0)).1), (.int (B.getD i (0, 0)).1)]))
    by_cases hq : (B.getD i (0, 0)).1 < (A.getD j (0, 0)).1
    · refine own_by (fun _ kont => XS.icmpNo X255.here hx rfl (hb hby d4_49) rfl (XT.ii_ge_f hq) kont) ?_
      show own_Go p e below _ (T255.setTop (mkF m 52 #[.val (.ref a), .val (.ref b), .val (.int (Int32.ofNat i)), .val (.int (Int32.ofNat j))] []))
      refine own_by (fun _ kont => XT.iincV X255.here hx rfl (1 : Int32) (hb hby d4_52) rfl rfl (l' := #[.val (.ref a), .val (.ref b), .val (.int ((Int32.ofNat i) + (1 : Int32))), .val (.int (Int32.ofNat j))]) rfl kont) ?_
      show own_Go p e below _ (T255.setTop (mkF m 55 #[.val (.ref a), .val (.ref b), .val (.int ((Int32.ofNat i) + (1 : Int32))), .val (.int (Int32.ofNat j))] []))
      refine own_by (fun _ kont => XS.goto X255.here hx rfl (pc0 := 55) (pc' := 28) rfl (hb hby d4_55) (by decide) (by decide) kont) ?_
      show own_Go p e below _ (T255.setTop (mkF m 28 #[.val (.ref a), .val (.ref b), .val (.int ((Int32.ofNat i) + (1 : Int32))), .val (.int (Int32.ofNat j))] []))
      rw [own_inc (k := i) (by omega)]
      exact ih (i + 1) T255 X255 e255 (by omega) (fun i2 T2 X2 e2 l2 hd => hc i2 T2 X2 e2 l2 (by rw [hd, own_drop_yes (by omega) hq]))
    · refine own_by (fun _ kont => XS.icmpYes X255.here hx rfl (pc0 := 49) (pc' := 58) rfl (hb hby d4_49) rfl (XT.ii_ge_t hq) (by decide) (by decide) kont) ?_
      show own_Go p e below _ (T255.setTop (mkF m 58 #[.val (.ref a), .val (.ref b), .val (.int (Int32.ofNat i)), .val (.int (Int32.ofNat j))] []))
      exact hc i T255 X255 e255 (by omega) (by rw [own_drop_no (by omega) hq])
set_option maxRecDepth 65536 in
set_option maxHeartbeats 40000000 in
theorem own_at19 {p : Program} {l : Launch} {e : Env} {s : State} {m : MethodId} {args : Array Value} {below : List Frame} {meth : Method} {c : Code} {locs : List Loc} {Z : State} {a0 : Array Value} {n0 : Nat} {h0 : Heap} (hx : p.tables.exec = Jvm.exec) (hby : c.code = prog_232_method_7_code) (hlk : meth.locks = false) (hret : meth.sig.returnType = some .boolean) (hZ : Z.Warmed39 s.vm) (hown : s.vm.findClass "com/example/conjecta/conjecta/model/Values" = some m.cls) (hw : ∀ d ∈ tables_1, d.before a0 Z = true) (hml : c.maxLocals = 4) (a b pa qa pb qb : Addr) (A B : List (Int32 × Int64)) (hA : A.length ≤ 100) (hB : B.length ≤ 100) (Fa : Fld Z h0 a "com/example/conjecta/conjecta/model/Values" "variables" "[I" (.ref pa)) (Ga : Fld Z h0 a "com/example/conjecta/conjecta/model/Values" "values" "[J" (.ref qa)) (Ha : own_IA Z h0 pa A.length (fun i => (A.getD i (0, 0)).1)) (Ja : own_LA Z h0 qa A.length (fun i => (A.getD i (0, 0)).2)) (Fb : Fld Z h0 b "com/example/conjecta/conjecta/model/Values" "variables" "[I" (.ref pb)) (Gb : Fld Z h0 b "com/example/conjecta/conjecta/model/Values" "values" "[J" (.ref qb)) (Hb : own_IA Z h0 pb B.length (fun i => (B.getD i (0, 0)).1)) (Jb : own_LA Z h0 qb B.length (fun i => (B.getD i (0, 0)).2)) (N : Fr n0 locs) :
    ∀ (d j i : Nat) (T : State), Stand p l e ({ frames := 0, cells := 0, slots := 0, locals := 0 } : Room) s m args below meth c T locs 0 0 → T.heap = h0 → j + d = A.length → i ≤ B.length → own_Go p e below (own_K s (own_Q (.int (if own_scan (A.drop j) (B.drop i) = true then 1 else 0)) h0 n0) 0 0) (T.setTop (mkF m 19 #[.val (.ref a), .val (.ref b), .val (.int (Int32.ofNat i)), .val (.int (Int32.ofNat j))] [])) := by
  intro d
  induction d with
  | zero =>
    intro j i T X eT hj hi
    have hs0 : own_scan [] (B.drop i) = true := rfl
    rw [List.drop_eq_nil_of_le (show A.length ≤ j by omega), if_pos hs0]
    refine own_by (fun _ kont => XS.iloadN X.here hx rfl (hb hby d4_19) rfl kont) ?_
    show own_Go p e below _ (T.setTop (mkF m 20 #[.val (.ref a), .val (.ref b), .val (.int (Int32.ofNat i)), .val (.int (Int32.ofNat j))] [(.int (Int32.ofNat j))]))
    refine own_by (fun _ kont => XS.aloadN X.here hx rfl (hb hby d4_20) rfl rfl kont) ?_
    show own_Go p e below _ (T.setTop (mkF m 21 #[.val (.ref a), .val (.ref b), .val (.int (Int32.ofNat i)), .val (.int (Int32.ofNat j))] [(.ref a), (.int (Int32.ofNat j))]))
    obtain ⟨T256, X256, e256, st256⟩ := getF X hx hZ hown (host := "") (Or.inl (hw _ (List.mem_of_getElem? (i := 17) rfl))) Via.refl eT Fa (g := (mkF m 21 #[.val (.ref a), .val (.ref b), .val (.int (Int32.ofNat i)), .val (.int (Int32.ofNat j))] [(.ref a), (.int (Int32.ofNat j))])) rfl rfl (hb hby d4_21)
    refine own_by st256 ?_
    show own_Go p e below _ (T256.setTop (mkF m 24 #[.val (.ref a), .val (.ref b), .val (.int (Int32.ofNat i)), .val (.int (Int32.ofNat j))] [(.ref pa), (.int (Int32.ofNat j))]))
    refine own_by (fun _ kont => own_lenIA X256 hx hZ e256 Ha (z := (Int32.ofNat A.length)) rfl rfl rfl (hb hby d4_24) kont) ?_
    show own_Go p e below _ (T256.setTop (mkF m 25 #[.val (.ref a), .val (.ref b), .val (.int (Int32.ofNat i)), .val (.int (Int32.ofNat j))] [(.int (Int32.ofNat A.length)), (.int (Int32.ofNat j))]))
    refine own_by (fun _ kont => XS.icmpYes X256.here hx rfl (pc0 := 25) (pc' := 106) rfl (hb hby d4_25) rfl (XT.ii_ge_t (fun z => absurd ((own_ilt (by omega) (by omega)).mp z) (by omega))) (by decide) (by decide) kont) ?_
    show own_Go p e below _ (T256.setTop (mkF m 106 #[.val (.ref a), .val (.ref b), .val (.int (Int32.ofNat i)), .val (.int (Int32.ofNat j))] []))
    refine own_by (fun _ kont => XT.iconstV X256.here hx rfl (1 : Int32) (hb hby d4_106) rfl kont) ?_
    show own_Go p e below _ (T256.setTop (mkF m 107 #[.val (.ref a), .val (.ref b), .val (.int (Int32.ofNat i)), .val (.int (Int32.ofNat j))] [(.int (1 : Int32))]))
    exact own_ret X256 hx hlk hret rfl (Or.inl ⟨rfl, by simp, _, rfl⟩) (hb hby d4_107) ⟨rfl, N, e256⟩ (Nat.le_refl _) (Nat.le_refl _)
  | succ d ih =>
    intro j i T X eT hj hi
    refine own_by (fun _ kont => XS.iloadN X.here hx rfl (hb hby d4_19) rfl kont) ?_
    show own_Go p e below _ (T.setTop (mkF m 20 #[.val (.ref a), .val (.ref b), .val (.int (Int32.ofNat i)), .val (.int (Int32.ofNat j))] [(.int (Int32.ofNat j))]))
    refine own_by (fun _ kont => XS.aloadN X.here hx rfl (hb hby d4_20) rfl rfl kont) ?_
    show own_Go p e below _ (T.setTop (mkF m 21 #[.val (.ref a), .val (.ref b), .val (.int (Int32.ofNat i)), .val (.int (Int32.ofNat j))] [(.ref a), (.int (Int32.ofNat j))]))
    obtain ⟨T257, X257, e257, st257⟩ := getF X hx hZ hown (host := "") (Or.inl (hw _ (List.mem_of_getElem? (i := 17) rfl))) Via.refl eT Fa (g := (mkF m 21 #[.val (.ref a), .val (.ref b), .val (.int (Int32.ofNat i)), .val (.int (Int32.ofNat j))] [(.ref a), (.int (Int32.ofNat j))])) rfl rfl (hb hby d4_21)
    refine own_by st257 ?_
    show own_Go p e below _ (T257.setTop (mkF m 24 #[.val (.ref a), .val (.ref b), .val (.int (Int32.ofNat i)), .val (.int (Int32.ofNat j))] [(.ref pa), (.int (Int32.ofNat j))]))
    refine own_by (fun _ kont => own_lenIA X257 hx hZ e257 Ha (z := (Int32.ofNat A.length)) rfl rfl rfl (hb hby d4_24) kont) ?_
    show own_Go p e below _ (T257.setTop (mkF m 25 #[.val (.ref a), .val (.ref b), .val (.int (Int32.ofNat i)), .val (.int (Int32.ofNat j))] [(.int (Int32.ofNat A.length)), (.int (Int32.ofNat j))]))
    refine own_by (fun _ kont => XS.icmpNo X257.here hx rfl (hb hby d4_25) rfl (XT.ii_ge_f ((own_ilt (by omega) (by omega)).mpr (by omega))) kont) ?_
    show own_Go p e below _ (T257.setTop (mkF m 28 #[.val (.ref a), .val (.ref b), .val (.int (Int32.ofNat i)), .val (.int (Int32.ofNat j))] []))
    have hcons := own_drop_at (B := A) (i := j) (by omega)
    refine own_in28 (n0 := n0) hx hby hlk hret hZ hown hw hml a b pa qa pb qb A B hA hB Fa Ga Ha Ja Fb Gb Hb Jb j (by omega) (B.length - i) i T257 X257 e257 (by omega) ?_
    intro i2 T2 X2 e2 l2 hd
    by_cases hz : i2 = B.length
    · have hn : own_drop (A.getD j (0, 0)).1 (B.drop i) = [] := by rw [← hd]; exact List.drop_eq_nil_of_le (by omega)
      rw [hcons, own_scan_nil hn, if_neg (by decide)]
      refine own_by (fun _ kont => XS.iloadN X2.here hx rfl (hb hby d4_58) rfl kont) ?_
      show own_Go p e below _ (T2.setTop (mkF m 59 #[.val (.ref a), .val (.ref b), .val (.int (Int32.ofNat i2)), .val (.int (Int32.ofNat j))] [(.int (Int32.ofNat i2))]))
      refine own_by (fun _ kont => XS.aloadN X2.here hx rfl (hb hby d4_59) rfl rfl kont) ?_
      show own_Go p e below _ (T2.setTop (mkF m 60 #[.val (.ref a), .val (.ref b), .val (.int (Int32.ofNat i2)), .val (.int (Int32.ofNat j))] [(.ref b), (.int (Int32.ofNat i2))]))
      obtain ⟨T258, X258, e258, st258⟩ := getF X2 hx hZ hown (host := "") (Or.inl (hw _ (List.mem_of_getElem? (i := 17) rfl))) Via.refl e2 Fb (g := (mkF m 60 #[.val (.ref a), .val (.ref b), .val (.int (Int32.ofNat i2)), .val (.int (Int32.ofNat j))] [(.ref b), (.int (Int32.ofNat i2))])) rfl rfl (hb hby d4_60)
      refine own_by st258 ?_
      show own_Go p e below _ (T258.setTop (mkF m 63 #[.val (.ref a), .val (.ref b), .val (.int (Int32.ofNat i2)), .val (.int (Int32.ofNat j))] [(.ref pb), (.int (Int32.ofNat i2))]))
      refine own_by (fun _ kont => own_lenIA X258 hx hZ e258 Hb (z := (Int32.ofNat B.length)) rfl rfl rfl (hb hby d4_63) kont) ?_
      show own_Go p e below _ (T258.setTop (mkF m 64 #[.val (.ref a), .val (.ref b), .val (.int (Int32.ofNat i2)), .val (.int (Int32.ofNat j))] [(.int (Int32.ofNat B.length)), (.int (Int32.ofNat i2))]))
      refine own_by (fun _ kont => XS.icmpYes X258.here hx rfl (pc0 := 64) (pc' := 98) rfl (hb hby d4_64) rfl (XT.ii_eq_t ((own_inj (by omega) (by omega)).mpr hz)) (by decide) (by decide) kont) ?_
      show own_Go p e below _ (T258.setTop (mkF m 98 #[.val (.ref a), .val (.ref b), .val (.int (Int32.ofNat i2)), .val (.int (Int32.ofNat j))] []))
      refine own_by (fun _ kont => XT.iconstV X258.here hx rfl (0 : Int32) (hb hby d4_98) rfl kont) ?_
      show own_Go p e below _ (T258.setTop (mkF m 99 #[.val (.ref a), .val (.ref b), .val (.int (Int32.ofNat i2)), .val (.int (Int32.ofNat j))] [(.int (0 : Int32))]))
      exact own_ret X258 hx hlk hret rfl (Or.inl ⟨rfl, by simp, _, rfl⟩) (hb hby d4_99) ⟨rfl, N, e258⟩ (Nat.le_refl _) (Nat.le_refl _)
    have hdc : own_drop (A.getD j (0, 0)).1 (B.drop i) = B.getD i2 (0, 0) :: B.drop (i2 + 1) := by rw [← hd]; exact own_drop_at (by omega)
    refine own_by (fun _ kont => XS.iloadN X2.here hx rfl (hb hby d4_58) rfl kont) ?_
    show own_Go p e below _ (T2.setTop (mkF m 59 #[.val (.ref a), .val (.ref b), .val (.int (Int32.ofNat i2)), .val (.int (Int32.ofNat j))] [(.int (Int32.ofNat i2))]))
    refine own_by (fun _ kont => XS.aloadN X2.here hx rfl (hb hby d4_59) rfl rfl kont) ?_
    show own_Go p e below _ (T2.setTop (mkF m 60 #[.val (.ref a), .val (.ref b), .val (.int (Int32.ofNat i2)), .val (.int (Int32.ofNat j))] [(.ref b), (.int (Int32.ofNat i2))]))
    obtain ⟨T259, X259, e259, st259⟩ := getF X2 hx hZ hown (host := "") (Or.inl (hw _ (List.mem_of_getElem? (i := 17) rfl))) Via.refl e2 Fb (g := (mkF m 60 #[.val (.ref a), .val (.ref b), .val (.int (Int32.ofNat i2)), .val (.int (Int32.ofNat j))] [(.ref b), (.int (Int32.ofNat i2))])) rfl rfl (hb hby d4_60)
    refine own_by st259 ?_
    show own_Go p e below _ (T259.setTop (mkF m 63 #[.val (.ref a), .val (.ref b), .val (.int (Int32.ofNat i2)), .val (.int (Int32.ofNat j))] [(.ref pb), (.int (Int32.ofNat i2))]))
    refine own_by (fun _ kont => own_lenIA X259 hx hZ e259 Hb (z := (Int32.ofNat B.length)) rfl rfl rfl (hb hby d4_63) kont) ?_
    show own_Go p e below _ (T259.setTop (mkF m 64 #[.val (.ref a), .val (.ref b), .val (.int (Int32.ofNat i2)), .val (.int (Int32.ofNat j))] [(.int (Int32.ofNat B.length)), (.int (Int32.ofNat i2))]))
    refine own_by (fun _ kont => XS.icmpNo X259.here hx rfl (hb hby d4_64) rfl (XT.ii_eq_f (fun z => hz ((own_inj (by omega) (by omega)).mp z))) kont) ?_
    show own_Go p e below _ (T259.setTop (mkF m 67 #[.val (.ref a), .val (.ref b), .val (.int (Int32.ofNat i2)), .val (.int (Int32.ofNat j))] []))
    refine own_by (fun _ kont => XS.aloadN X259.here hx rfl (hb hby d4_67) rfl rfl kont) ?_
    show own_Go p e below _ (T259.setTop (mkF m 68 #[.val (.ref a), .val (.ref b), .val (.int (Int32.ofNat i2)), .val (.int (Int32.ofNat j))] [(.ref b)]))
    obtain ⟨T260, X260, e260, st260⟩ := getF X259 hx hZ hown (host := "") (Or.inl (hw _ (List.mem_of_getElem? (i := 17) rfl))) Via.refl e259 Fb (g := (mkF m 68 #[.val (.ref a), .val (.ref b), .val (.int (Int32.ofNat i2)), .val (.int (Int32.ofNat j))] [(.ref b)])) rfl rfl (hb hby d4_68)
    refine own_by st260 ?_
    show own_Go p e below _ (T260.setTop (mkF m 71 #[.val (.ref a), .val (.ref b), .val (.int (Int32.ofNat i2)), .val (.int (Int32.ofNat j))] [(.ref pb)]))
    refine own_by (fun _ kont => XS.iloadN X260.here hx rfl (hb hby d4_71) rfl kont) ?_
    show own_Go p e below _ (T260.setTop (mkF m 72 #[.val (.ref a), .val (.ref b), .val (.int (Int32.ofNat i2)), .val (.int (Int32.ofNat j))] [(.int (Int32.ofNat i2)), (.ref pb)]))
    refine own_by (fun _ kont => own_ldN X260 hx hZ e260 Hb (j := (Int32.ofNat i2)) i2 (own_i (by omega)) (by omega) rfl rfl (hb hby d4_72) kont) ?_
    show own_Go p e below _ (T260.setTop (mkF m 73 #[.val (.ref a), .val (.ref b), .val (.int (Int32.ofNat i2)), .val (.int (Int32.ofNat j))] [(.int ((fun i => (B.getD i (0, 0)).1) i2))]))
    show own_Go p e below _ (T260.setTop (mkF m 73 #[.val (.ref a), .val (.ref b), .val (.int (Int32.ofNat i2)), .val (.int (Int32.ofNat j))] [(.int (B.getD i2 (0, 0)).1)]))
    refine own_by (fun _ kont => XS.aloadN X260.here hx rfl (hb hby d4_73) rfl rfl kont) ?_
    show own_Go p e below _ (T260.setTop (mkF m 74 #[.val (.ref a), .val (.ref b), .val (.int (Int32.ofNat i2)), .val (.int (Int32.ofNat j))] [(.ref a), (.int (B.getD i2 (0, 0)).1)]))
    obtain ⟨T261, X261, e261, st261⟩ := getF X260 hx hZ hown (host := "") (Or.inl (hw _ (List.mem_of_getElem? (i := 17) rfl))) Via.refl e260 Fa (g := (mkF m 74 #[.val (.ref a), .val (.ref b), .val (.int (Int32.ofNat i2)), .val (.int (Int32.ofNat j))] [(.ref a), (.int (B.getD i2 (0, 0)).1)])) rfl rfl (hb hby d4_74)
    refine own_by st261 ?_
    show own_Go p e below _ (T261.setTop (mkF m 77 #[.val (.ref a), .val (.ref b), .val (.int (Int32.ofNat i2)), .val (.int (Int32.ofNat j))] [(.ref pa), (.int (B.getD i2 (0, 0)).1)]))
    refine own_by (fun _ kont => XS.iloadN X261.here hx rfl (hb hby d4_77) rfl kont) ?_
    show own_Go p e below _ (T261.setTop (mkF m 78 #[.val (.ref a), .val (.ref b), .val (.int (Int32.ofNat i2)), .val (.int (Int32.ofNat j))] [(.int (Int32.ofNat j)), (.ref pa), (.int (B.getD i2 (0, 0)).1)]))
    refine own_by (fun _ kont => own_ldN X261 hx hZ e261 Ha (j := (Int32.ofNat j)) j (own_i (by omega)) (by omega) rfl rfl (hb hby d4_78) kont) ?_
    show own_Go p e below _ (T261.setTop (mkF m 79 #[.val (.ref a), .val (.ref b), .val (.int (Int32.ofNat i2)), .val (.int (Int32.ofNat j))] [(.int ((fun i => (A.getD i (0, 0)).1) j)), (.int (B.getD i2 (0, 0)).1)]))
    show own_Go p e below _ (T261.setTop (mkF m 79 #[.val (.ref a), .val (.ref b), .val (.int (Int32.ofNat i2)), .val (.int (Int32.ofNat j))] [(.int (A.getD j (0, 0)).1), (.int (B.getD i2 (0, 0)).1)]))
    by_cases hv : (B.getD i2 (0, 0)).1 = (A.getD j (0, 0)).1
    · refine own_by (fun _ kont => XS.icmpNo X261.here hx rfl (hb hby d4_79) rfl (XT.ii_ne_f hv) kont) ?_
      show own_Go p e below _ (T261.setTop (mkF m 82 #[.val (.ref a), .val (.ref b), .val (.int (Int32.ofNat i2)), .val (.int (Int32.ofNat j))] []))
      refine own_by (fun _ kont => XS.aloadN X261.here hx rfl (hb hby d4_82) rfl rfl kont) ?_
      show own_Go p e below _ (T261.setTop (mkF m 83 #[.val (.ref a), .val (.ref b), .val (.int (Int32.ofNat i2)), .val (.int (Int32.ofNat j))] [(.ref b)]))
      obtain ⟨T262, X262, e262, st262⟩ := getF X261 hx hZ hown (host := "") (Or.inl (hw _ (List.mem_of_getElem? (i := 19) rfl))) Via.refl e261 Gb (g := (mkF m 83 #[.val (.ref a), .val (.ref b), .val (.int (Int32.ofNat i2)), .val (.int (Int32.ofNat j))] [(.ref b)])) rfl rfl (hb hby d4_83)
      refine own_by st262 ?_
      show own_Go p e below _ (T262.setTop (mkF m 86 #[.val (.ref a), .val (.ref b), .val (.int (Int32.ofNat i2)), .val (.int (Int32.ofNat j))] [(.ref qb)]))
      refine own_by (fun _ kont => XS.iloadN X262.here hx rfl (hb hby d4_86) rfl kont) ?_
      show own_Go p e below _ (T262.setTop (mkF m 87 #[.val (.ref a), .val (.ref b), .val (.int (Int32.ofNat i2)), .val (.int (Int32.ofNat j))] [(.int (Int32.ofNat i2)), (.ref qb)]))
      refine own_by (fun _ kont => own_ldL X262 hx hZ e262 Jb (j := (Int32.ofNat i2)) i2 (own_i (by omega)) (by omega) rfl rfl (hb hby d4_87) kont) ?_
      show own_Go p e below _ (T262.setTop (mkF m 88 #[.val (.ref a), .val (.ref b), .val (.int (Int32.ofNat i2)), .val (.int (Int32.ofNat j))] [(.long ((fun i => (B.getD i (0, 0)).2) i2))]))
      show own_Go p e below _ (T262.setTop (mkF m 88 #[.val (.ref a), .val (.ref b), .val (.int (Int32.ofNat i2)), .val (.int (Int32.ofNat j))] [(.long (B.getD i2 (0, 0)).2)]))
      refine own_by (fun _ kont => XS.aloadN X262.here hx rfl (hb hby d4_88) rfl rfl kont) ?_
      show own_Go p e below _ (T262.setTop (mkF m 89 #[.val (.ref a), .val (.ref b), .val (.int (Int32.ofNat i2)), .val (.int (Int32.ofNat j))] [(.ref a), (.long (B.getD i2 (0, 0)).2)]))
      obtain ⟨T263, X263, e263, st263⟩ := getF X262 hx hZ hown (host := "") (Or.inl (hw _ (List.mem_of_getElem? (i := 19) rfl))) Via.refl e262 Ga (g := (mkF m 89 #[.val (.ref a), .val (.ref b), .val (.int (Int32.ofNat i2)), .val (.int (Int32.ofNat j))] [(.ref a), (.long (B.getD i2 (0, 0)).2)])) rfl rfl (hb hby d4_89)
      refine own_by st263 ?_
      show own_Go p e below _ (T263.setTop (mkF m 92 #[.val (.ref a), .val (.ref b), .val (.int (Int32.ofNat i2)), .val (.int (Int32.ofNat j))] [(.ref qa), (.long (B.getD i2 (0, 0)).2)]))
      refine own_by (fun _ kont => XS.iloadN X263.here hx rfl (hb hby d4_92) rfl kont) ?_
      show own_Go p e below _ (T263.setTop (mkF m 93 #[.val (.ref a), .val (.ref b), .val (.int (Int32.ofNat i2)), .val (.int (Int32.ofNat j))] [(.int (Int32.ofNat j)), (.ref qa), (.long (B.getD i2 (0, 0)).2)]))
      refine own_by (fun _ kont => own_ldL X263 hx hZ e263 Ja (j := (Int32.ofNat j)) j (own_i (by omega)) (by omega) rfl rfl (hb hby d4_93) kont) ?_
      show own_Go p e below _ (T263.setTop (mkF m 94 #[.val (.ref a), .val (.ref b), .val (.int (Int32.ofNat i2)), .val (.int (Int32.ofNat j))] [(.long ((fun i => (A.getD i (0, 0)).2) j)), (.long (B.getD i2 (0, 0)).2)]))
      show own_Go p e below _ (T263.setTop (mkF m 94 #[.val (.ref a), .val (.ref b), .val (.int (Int32.ofNat i2)), .val (.int (Int32.ofNat j))] [(.long (A.getD j (0, 0)).2), (.long (B.getD i2 (0, 0)).2)]))
      refine own_by (fun _ kont => XT.lcmp X263.here hx rfl (hb hby d4_94) rfl kont) ?_
      show own_Go p e below _ (T263.setTop (mkF m 95 #[.val (.ref a), .val (.ref b), .val (.int (Int32.ofNat i2)), .val (.int (Int32.ofNat j))] [(.int (XT.cmpL (B.getD i2 (0, 0)).2 (A.getD j (0, 0)).2))]))
      by_cases hl : (B.getD i2 (0, 0)).2 < (A.getD j (0, 0)).2
      · rw [hcons, own_scan_lt hdc hv hl, if_neg (by decide)]
        refine own_by (fun _ kont => XS.ifNo X263.here hx rfl (hb hby d4_95) rfl (XT.ll_ge_f hl) kont) ?_
        show own_Go p e below _ (T263.setTop (mkF m 98 #[.val (.ref a), .val (.ref b), .val (.int (Int32.ofNat i2)), .val (.int (Int32.ofNat j))] []))
        refine own_by (fun _ kont => XT.iconstV X263.here hx rfl (0 : Int32) (hb hby d4_98) rfl kont) ?_
        show own_Go p e below _ (T263.setTop (mkF m 99 #[.val (.ref a), .val (.ref b), .val (.int (Int32.ofNat i2)), .val (.int (Int32.ofNat j))] [(.int (0 : Int32))]))
        exact own_ret X263 hx hlk hret rfl (Or.inl ⟨rfl, by simp, _, rfl⟩) (hb hby d4_99) ⟨rfl, N, e263⟩ (Nat.le_refl _) (Nat.le_refl _)
      · rw [hcons, own_scan_ok hdc hv hl, ← own_drop_at (B := B) (i := i2) (by omega)]
        refine own_by (fun _ kont => XS.ifYes X263.here hx rfl (pc0 := 95) (pc' := 100) rfl (hb hby d4_95) rfl (XT.ll_ge_t hl) (by decide) (by decide) kont) ?_
        show own_Go p e below _ (T263.setTop (mkF m 100 #[.val (.ref a), .val (.ref b), .val (.int (Int32.ofNat i2)), .val (.int (Int32.ofNat j))] []))
        refine own_by (fun _ kont => XT.iincV X263.here hx rfl (1 : Int32) (hb hby d4_100) rfl rfl (l' := #[.val (.ref a), .val (.ref b), .val (.int (Int32.ofNat i2)), .val (.int ((Int32.ofNat j) + (1 : Int32)))]) rfl kont) ?_
        show own_Go p e below _ (T263.setTop (mkF m 103 #[.val (.ref a), .val (.ref b), .val (.int (Int32.ofNat i2)), .val (.int ((Int32.ofNat j) + (1 : Int32)))] []))
        refine own_by (fun _ kont => XS.goto X263.here hx rfl (pc0 := 103) (pc' := 19) rfl (hb hby d4_103) (by decide) (by decide) kont) ?_
        show own_Go p e below _ (T263.setTop (mkF m 19 #[.val (.ref a), .val (.ref b), .val (.int (Int32.ofNat i2)), .val (.int ((Int32.ofNat j) + (1 : Int32)))] []))
        rw [own_inc (k := j) (by omega)]
        exact ih (j + 1) i2 T263 X263 e263 (by omega) l2
    · rw [hcons, own_scan_ne hdc hv, if_neg (by decide)]
      refine own_by (fun _ kont => XS.icmpYes X261.here hx rfl (pc0 := 79) (pc' := 98) rfl (hb hby d4_79) rfl (XT.ii_ne_t hv) (by decide) (by decide) kont) ?_
      show own_Go p e below _ (T261.setTop (mkF m 98 #[.val (.ref a), .val (.ref b), .val (.int (Int32.ofNat i2)), .val (.int (Int32.ofNat j))] []))
      refine own_by (fun _ kont => XT.iconstV X261.here hx rfl (0 : Int32) (hb hby d4_98) rfl kont) ?_
      show own_Go p e below _ (T261.setTop (mkF m 99 #[.val (.ref a), .val (.ref b), .val (.int (Int32.ofNat i2)), .val (.int (Int32.ofNat j))] [(.int (0 : Int32))]))
      exact own_ret X261 hx hlk hret rfl (Or.inl ⟨rfl, by simp, _, rfl⟩) (hb hby d4_99) ⟨rfl, N, e261⟩ (Nat.le_refl _) (Nat.le_refl _)
def own_Q_rmM (Z : State) (A B : List (Int32 × Int64)) (h0 : Heap) (n0 : Nat) : Option Value → Heap → List Loc → Prop := own_Q (.int (if own_most A B = true then 1 else 0)) h0 n0
theorem own_ef_rmM (m : MethodId) (a : Addr) (b : Addr) : entryFrame m #[(.ref a), (.ref b)] 4 = (mkF m 0 #[.val (.ref a), .val (.ref b), .unset, .unset] []) := by first | (simp [entryFrame, mkF, argsToLocals, Value.category, maxLocals]; done) | rfl
set_option maxRecDepth 65536 in
set_option maxHeartbeats 40000000 in
theorem rmM (l : Launch) (Z : State) (a0 : Array Value) (hw : ∀ d ∈ tables_1, d.before a0 Z = true) (ws : List Jvm.Cond) (a b : Addr) (A B : List (Int32 × Int64)) (h0 : Heap) (n0 : Nat) (hA : A.length ≤ 100) (hB : B.length ≤ 100) (VA : own_V Z h0 a A) (VB : own_V Z h0 b B) :
    MetFree l (⟨"com/example/conjecta/conjecta/model/Values", "atMost", "(Lcom/example/conjecta/conjecta/model/Values;)Z"⟩ : MethodName) (head1 (Jvm.Cond.code (⟨"com/example/conjecta/conjecta/model/Values", "atMost", "(Lcom/example/conjecta/conjecta/model/Values;)Z"⟩ : MethodName) prog_232_method_7_code 4 (some .boolean) :: ws) ({ frames := 0, cells := 0, slots := 0, locals := 0 } : Room)) (fun aR UR => aR = #[(.ref a), (.ref b)] ∧ Z.Warmed39 UR.vm ∧ UR.heap = h0) (fun _ _ _ _ _ => True) (fun _ UR oR UR' => ∃ vR LR, oR = .returned vR ∧ own_Q_rmM Z A B h0 n0 vR UR'.heap LR ∧ FrameEnd UR oR UR' LR ({ frames := 0, cells := 0, slots := 0, locals := 0 } : Room).cells ({ frames := 0, cells := 0, slots := 0, locals := 0 } : Room).slots) := by
  refine MetFree.of_bodySF (plainFor_of_name own_pn2) hisR ?_
  intro p e s m args below meth c s₁ Bd hml0 hP hK
  obtain ⟨rfl, hZ, hh⟩ := hP
  have hx := Bd.exec
  have hby := Bd.bytes
  have hlk := Bd.notSynchronized
  have hret := Bd.returns
  have hml : c.maxLocals = 4 := hml0
  have hown : s.vm.findClass "com/example/conjecta/conjecta/model/Values" = some m.cls := findClass_of_methodNamed Bd.named
  have hnm := (name_of_methodNamed Bd.named Bd.method).1
  have X0 : Stand p l e ({ frames := 0, cells := 0, slots := 0, locals := 0 } : Room) s m #[(.ref a), (.ref b)] below meth c s₁ [] 0 0 := Stand.of_body Bd
  have e0 : s₁.heap = h0 := by rw [← hh, Bd.state]; rfl
  have N0 := Fr.nil n0
  show own_Go p e below (own_K s (own_Q_rmM Z A B h0 n0) ({ frames := 0, cells := 0, slots := 0, locals := 0 } : Room).cells ({ frames := 0, cells := 0, slots := 0, locals := 0 } : Room).slots) _
  refine own_by (fun tt kont => castTop (own_ef_rmM m a b) kont) ?_
  show own_Go p e below _ (s₁.setTop (mkF m 0 #[.val (.ref a), .val (.ref b), .unset, .unset] []))
  obtain ⟨pa, qa, Ea, Fa, Ga, Ha, Ja⟩ := VA
  obtain ⟨pb, qb, Eb, Fb, Gb, Hb, Jb⟩ := VB
  refine own_by (fun _ kont => XS.aloadN X0.here hx rfl (hb hby d4_0) rfl rfl kont) ?_
  show own_Go p e below _ (s₁.setTop (mkF m 1 #[.val (.ref a), .val (.ref b), .unset, .unset] [(.ref a)]))
  obtain ⟨T264, X264, e264, st264⟩ := getF X0 hx hZ hown (host := "") (Or.inl (hw _ (List.mem_of_getElem? (i := 17) rfl))) Via.refl e0 Fa (g := (mkF m 1 #[.val (.ref a), .val (.ref b), .unset, .unset] [(.ref a)])) rfl rfl (hb hby d4_1)
  refine own_by st264 ?_
  show own_Go p e below _ (T264.setTop (mkF m 4 #[.val (.ref a), .val (.ref b), .unset, .unset] [(.ref pa)]))
  refine own_by (fun _ kont => own_lenIA X264 hx hZ e264 Ha (z := (Int32.ofNat A.length)) rfl rfl rfl (hb hby d4_4) kont) ?_
  show own_Go p e below _ (T264.setTop (mkF m 5 #[.val (.ref a), .val (.ref b), .unset, .unset] [(.int (Int32.ofNat A.length))]))
  refine own_by (fun _ kont => XS.aloadN X264.here hx rfl (hb hby d4_5) rfl rfl kont) ?_
  show own_Go p e below _ (T264.setTop (mkF m 6 #[.val (.ref a), .val (.ref b), .unset, .unset] [(.ref b), (.int (Int32.ofNat A.length))]))
  obtain ⟨T265, X265, e265, st265⟩ := getF X264 hx hZ hown (host := "") (Or.inl (hw _ (List.mem_of_getElem? (i := 17) rfl))) Via.refl e264 Fb (g := (mkF m 6 #[.val (.ref a), .val (.ref b), .unset, .unset] [(.ref b), (.int (Int32.ofNat A.length))])) rfl rfl (hb hby d4_6)
  refine own_by st265 ?_
  show own_Go p e below _ (T265.setTop (mkF m 9 #[.val (.ref a), .val (.ref b), .unset, .unset] [(.ref pb), (.int (Int32.ofNat A.length))]))
  refine own_by (fun _ kont => own_lenIA X265 hx hZ e265 Hb (z := (Int32.ofNat B.length)) rfl rfl rfl (hb hby d4_9) kont) ?_
  show own_Go p e below _ (T265.setTop (mkF m 10 #[.val (.ref a), .val (.ref b), .unset, .unset] [(.int (Int32.ofNat B.length)), (.int (Int32.ofNat A.length))]))
  by_cases hq : B.length < A.length
  · unfold own_Q_rmM; rw [show own_most A B = false from if_pos hq, if_neg (by decide)]
    refine own_by (fun _ kont => XS.icmpNo X265.here hx rfl (hb hby d4_10) rfl (XT.ii_le_f ((own_ilt (by omega) (by omega)).mpr hq)) kont) ?_
    show own_Go p e below _ (T265.setTop (mkF m 13 #[.val (.ref a), .val (.ref b), .unset, .unset] []))
    refine own_by (fun _ kont => XT.iconstV X265.here hx rfl (0 : Int32) (hb hby d4_13) rfl kont) ?_
    show own_Go p e below _ (T265.setTop (mkF m 14 #[.val (.ref a), .val (.ref b), .unset, .unset] [(.int (0 : Int32))]))
    exact own_ret X265 hx hlk hret rfl (Or.inl ⟨rfl, by simp, _, rfl⟩) (hb hby d4_14) ⟨rfl, N0, e265⟩ (Nat.le_refl _) (Nat.le_refl _)
  · unfold own_Q_rmM; rw [show own_most A B = own_scan A B from if_neg hq]
    refine own_by (fun _ kont => XS.icmpYes X265.here hx rfl (pc0 := 10) (pc' := 15) rfl (hb hby d4_10) rfl (XT.ii_le_t (fun z => hq ((own_ilt (by omega) (by omega)).mp z))) (by decide) (by decide) kont) ?_
    show own_Go p e below _ (T265.setTop (mkF m 15 #[.val (.ref a), .val (.ref b), .unset, .unset] []))
    refine own_by (fun _ kont => XT.iconstV X265.here hx rfl (0 : Int32) (hb hby d4_15) rfl kont) ?_
    show own_Go p e below _ (T265.setTop (mkF m 16 #[.val (.ref a), .val (.ref b), .unset, .unset] [(.int (0 : Int32))]))
    refine own_by (fun _ kont => XS.istoreN X265.here hx rfl (hb hby d4_16) rfl (l' := #[.val (.ref a), .val (.ref b), .val (.int (0 : Int32)), .unset]) rfl kont) ?_
    show own_Go p e below _ (T265.setTop (mkF m 17 #[.val (.ref a), .val (.ref b), .val (.int (0 : Int32)), .unset] []))
    refine own_by (fun _ kont => XT.iconstV X265.here hx rfl (0 : Int32) (hb hby d4_17) rfl kont) ?_
    show own_Go p e below _ (T265.setTop (mkF m 18 #[.val (.ref a), .val (.ref b), .val (.int (0 : Int32)), .unset] [(.int (0 : Int32))]))
    refine own_by (fun _ kont => XS.istoreN X265.here hx rfl (hb hby d4_18) rfl (l' := #[.val (.ref a), .val (.ref b), .val (.int (0 : Int32)), .val (.int (0 : Int32))]) rfl kont) ?_
    show own_Go p e below _ (T265.setTop (mkF m 19 #[.val (.ref a), .val (.ref b), .val (.int (0 : Int32)), .val (.int (0 : Int32))] []))
    exact own_at19 hx hby hlk hret hZ hown hw hml a b pa qa pb qb A B hA hB Fa Ga Ha Ja Fb Gb Hb Jb N0 A.length 0 0 T265 X265 e265 (by omega) (by omega)
theorem own_max64 (x : Int64) : ¬ (x &&& (9223372036854775807 : Int64)) < 0 := by
  rw [XT.and_neg64]
  exact fun z => absurd z.2 (by decide)
theorem own_other (c b : Int64) (m : Int32) (hc : ¬ c < 0) : ¬ f5_0 c m b < 0 := by
  have z0 : (0 : Int64).toInt = 0 := by decide
  have z1 : (1 : Int64).toInt = 1 := by decide
  have zm : (9223372036854775807 : Int64).toInt = 9223372036854775807 := by decide
  have lt := Int64.toInt_lt c
  have hc0 := hc
  rw [Int64.lt_iff_toInt_lt, z0] at hc
  have s1 : ¬ c = 0 → ¬ c - (1 : Int64) < 0 := fun q => by
    have q' : ¬ c.toInt = 0 := fun r => q (Int64.toInt_inj.mp (r.trans z0.symm))
    rw [Int64.lt_iff_toInt_lt, XT.sub64 (by rw [z1]; constructor <;> omega), z0, z1]; omega
  have s2 : ¬ c = (9223372036854775807 : Int64) → ¬ c + (1 : Int64) < 0 := fun q => by
    have q' : ¬ c.toInt = 9223372036854775807 := fun r => q (Int64.toInt_inj.mp (r.trans zm.symm))
    rw [Int64.lt_iff_toInt_lt, XT.add64 (by rw [z1]; constructor <;> omega), z0, z1]; omega
  simp only [f5_0, f5_14, f5_18, f5_25, f5_44, f5_48]
  repeat' split
  all_goals first | exact s1 (by assumption) | exact s2 (by assumption) | exact hc0 | exact own_max64 _ | decide
theorem own_add1 {x y : Int32} (hx : 0 ≤ x.toInt ∧ x.toInt ≤ 2000000000) (hy : 0 ≤ y.toInt ∧ y.toInt ≤ 255) : x.toInt < ((x + (1 : Int32)) + y).toInt ∧ ((x + (1 : Int32)) + y).toInt ≤ x.toInt + 256 := by
  have z1 : (1 : Int32).toInt = 1 := by decide
  have e1 : (x + (1 : Int32)).toInt = x.toInt + 1 := by rw [XT.add32 (by rw [z1]; constructor <;> omega), z1]
  rw [XT.add32 (by rw [e1]; constructor <;> omega), e1]; omega
theorem own_len (v0 v1 v2 : Int32) (x0 x1 x2 : Int64) : (own_lst v0 v1 v2 x0 x1 x2).length ≤ 100 := by
  unfold own_lst
  split <;> split <;> split <;> simp
def own_Q_rmL (Z : State) (n0 : Nat) : Option Value → Heap → List Loc → Prop := (fun v h L => v = some (.int 1) ∧ Fr n0 L)
theorem own_ef_rmL (m : MethodId) (i0 : Int32) (i1 : Int32) (i2 : Int64) (i3 : Int64) (i4 : Int64) (i5 : Int64) : entryFrame m #[(.int i0), (.int i1), (.long i2), (.long i3), (.long i4), (.long i5)] maxLocals = (mkF m 0 #[.val (.int i0), .val (.int i1), .val (.long i2), .second, .val (.long i3), .second, .val (.long i4), .second, .val (.long i5), .second, .unset, .unset, .unset, .unset, .unset, .unset, .unset, .unset, .unset, .unset, .unset, .unset, .unset, .unset, .unset, .unset, .unset, .unset, .unset, .unset, .unset, .unset, .unset, .unset] []) := by first | (simp [entryFrame, mkF, argsToLocals, Value.category, maxLocals]; done) | rfl
set_option maxRecDepth 65536 in
set_option maxHeartbeats 40000000 in
theorem rmL (l : Launch) (Z : State) (a0 : Array Value) (hw : ∀ d ∈ tables_1, d.before a0 Z = true) (ws : List Jvm.Cond) (i0 i1 : Int32) (i2 i3 i4 i5 : Int64) (h0 : Heap) (n0 : Nat) (Z0 : n0 ≤ h0.size) :
    MetFree l x (head1 (Jvm.Cond.code x code maxLocals ret :: ws) room_1) (fun aR UR => aR = #[(.int i0), (.int i1), (.long i2), (.long i3), (.long i4), (.long i5)] ∧ Z.Warmed39 UR.vm ∧ UR.heap = h0) (fun _ _ _ _ _ => True) (fun _ UR oR UR' => ∃ vR LR, oR = .returned vR ∧ own_Q_rmL Z  n0 vR UR'.heap LR ∧ FrameEnd UR oR UR' LR room_1.cells room_1.slots) := by
  refine MetFree.of_bodySF (plainFor_of_name own_pn0) hisR ?_
  intro p e s m args below meth c s₁ Bd hml0 hP hK
  obtain ⟨rfl, hZ, hh⟩ := hP
  have hx := Bd.exec
  have hby := Bd.bytes
  have hlk := Bd.notSynchronized
  have hret := Bd.returns
  have hml : c.maxLocals = 34 := hml0
  have hown : s.vm.findClass "com/example/conjecta/conjecta/model/ValuesAtMostPinLaw" = some m.cls := findClass_of_methodNamed Bd.named
  have hnm := (name_of_methodNamed Bd.named Bd.method).1
  have X0 : Stand p l e room_1 s m #[(.int i0), (.int i1), (.long i2), (.long i3), (.long i4), (.long i5)] below meth c s₁ [] 0 0 := Stand.of_body Bd
  have e0 : s₁.heap = h0 := by rw [← hh, Bd.state]; rfl
  have N0 := Fr.nil n0
  show own_Go p e below (own_K s (own_Q_rmL Z  n0) room_1.cells room_1.slots) _
  refine own_by (fun tt kont => castTop (own_ef_rmL m i0 i1 i2 i3 i4 i5) kont) ?_
  show own_Go p e below _ (s₁.setTop (mkF m 0 #[.val (.int i0), .val (.int i1), .val (.long i2), .second, .val (.long i3), .second, .val (.long i4), .second, .val (.long i5), .second, .unset, .unset, .unset, .unset, .unset, .unset, .unset, .unset, .unset, .unset, .unset, .unset, .unset, .unset, .unset, .unset, .unset, .unset, .unset, .unset, .unset, .unset, .unset, .unset] []))
  refine own_by (fun _ kont => XS.iloadN X0.here hx rfl (hb hby at_0) rfl kont) ?_
  show own_Go p e below _ (s₁.setTop (mkF m 1 #[.val (.int i0), .val (.int i1), .val (.long i2), .second, .val (.long i3), .second, .val (.long i4), .second, .val (.long i5), .second, .unset, .unset, .unset, .unset, .unset, .unset, .unset, .unset, .unset, .unset, .unset, .unset, .unset, .unset, .unset, .unset, .unset, .unset, .unset, .unset, .unset, .unset, .unset, .unset] [(.int i1)]))
  refine own_by (fun _ kont => X0.ldcI hx hown (v := (1073741823 : Int32)) (mvT hZ (hw _ (List.mem_of_getElem? (i := 0) rfl))) rfl (hb hby at_1) kont) ?_
  show own_Go p e below _ (s₁.setTop (mkF m 3 #[.val (.int i0), .val (.int i1), .val (.long i2), .second, .val (.long i3), .second, .val (.long i4), .second, .val (.long i5), .second, .unset, .unset, .unset, .unset, .unset, .unset, .unset, .unset, .unset, .unset, .unset, .unset, .unset, .unset, .unset, .unset, .unset, .unset, .unset, .unset, .unset, .unset, .unset, .unset] [(.int (1073741823 : Int32)), (.int i1)]))
  refine own_by (fun _ kont => XS.iand X0.here hx rfl (hb hby at_3) rfl kont) ?_
  show own_Go p e below _ (s₁.setTop (mkF m 4 #[.val (.int i0), .val (.int i1), .val (.long i2), .second, .val (.long i3), .second, .val (.long i4), .second, .val (.long i5), .second, .unset, .unset, .unset, .unset, .unset, .unset, .unset, .unset, .unset, .unset, .unset, .unset, .unset, .unset, .unset, .unset, .unset, .unset, .unset, .unset, .unset, .unset, .unset, .unset] [(.int (i1 &&& (1073741823 : Int32)))]))
  have b0 := own_and (x := i1) 1073741823 (by decide) (m := 1073741823) rfl
  generalize (i1 &&& (1073741823 : Int32)) = v0 at b0 ⊢
  show own_Go p e below _ (s₁.setTop (mkF m 4 #[.val (.int i0), .val (.int i1), .val (.long i2), .second, .val (.long i3), .second, .val (.long i4), .second, .val (.long i5), .second, .unset, .unset, .unset, .unset, .unset, .unset, .unset, .unset, .unset, .unset, .unset, .unset, .unset, .unset, .unset, .unset, .unset, .unset, .unset, .unset, .unset, .unset, .unset, .unset] [(.int v0)]))
  refine own_by (fun _ kont => XS.istore X0.here hx rfl (hb hby at_4) rfl (l' := #[.val (.int i0), .val (.int i1), .val (.long i2), .second, .val (.long i3), .second, .val (.long i4), .second, .val (.long i5), .second, .val (.int v0), .unset, .unset, .unset, .unset, .unset, .unset, .unset, .unset, .unset, .unset, .unset, .unset, .unset, .unset, .unset, .unset, .unset, .unset, .unset, .unset, .unset, .unset, .unset]) rfl kont) ?_
  show own_Go p e below _ (s₁.setTop (mkF m 6 #[.val (.int i0), .val (.int i1), .val (.long i2), .second, .val (.long i3), .second, .val (.long i4), .second, .val (.long i5), .second, .val (.int v0), .unset, .unset, .unset, .unset, .unset, .unset, .unset, .unset, .unset, .unset, .unset, .unset, .unset, .unset, .unset, .unset, .unset, .unset, .unset, .unset, .unset, .unset, .unset] []))
  refine own_by (fun _ kont => XS.iload X0.here hx rfl (hb hby at_6) rfl kont) ?_
  show own_Go p e below _ (s₁.setTop (mkF m 8 #[.val (.int i0), .val (.int i1), .val (.long i2), .second, .val (.long i3), .second, .val (.long i4), .second, .val (.long i5), .second, .val (.int v0), .unset, .unset, .unset, .unset, .unset, .unset, .unset, .unset, .unset, .unset, .unset, .unset, .unset, .unset, .unset, .unset, .unset, .unset, .unset, .unset, .unset, .unset, .unset] [(.int v0)]))
  refine own_by (fun _ kont => XT.iconstV X0.here hx rfl (1 : Int32) (hb hby at_8) rfl kont) ?_
  show own_Go p e below _ (s₁.setTop (mkF m 9 #[.val (.int i0), .val (.int i1), .val (.long i2), .second, .val (.long i3), .second, .val (.long i4), .second, .val (.long i5), .second, .val (.int v0), .unset, .unset, .unset, .unset, .unset, .unset, .unset, .unset, .unset, .unset, .unset, .unset, .unset, .unset, .unset, .unset, .unset, .unset, .unset, .unset, .unset, .unset, .unset] [(.int (1 : Int32)), (.int v0)]))
  refine own_by (fun _ kont => XS.iadd X0.here hx rfl (hb hby at_9) rfl kont) ?_
  show own_Go p e below _ (s₁.setTop (mkF m 10 #[.val (.int i0), .val (.int i1), .val (.long i2), .second, .val (.long i3), .second, .val (.long i4), .second, .val (.long i5), .second, .val (.int v0), .unset, .unset, .unset, .unset, .unset, .unset, .unset, .unset, .unset, .unset, .unset, .unset, .unset, .unset, .unset, .unset, .unset, .unset, .unset, .unset, .unset, .unset, .unset] [(.int (v0 + (1 : Int32)))]))
  refine own_by (fun _ kont => XS.iloadN X0.here hx rfl (hb hby at_10) rfl kont) ?_
  show own_Go p e below _ (s₁.setTop (mkF m 11 #[.val (.int i0), .val (.int i1), .val (.long i2), .second, .val (.long i3), .second, .val (.long i4), .second, .val (.long i5), .second, .val (.int v0), .unset, .unset, .unset, .unset, .unset, .unset, .unset, .unset, .unset, .unset, .unset, .unset, .unset, .unset, .unset, .unset, .unset, .unset, .unset, .unset, .unset, .unset, .unset] [(.int i0), (.int (v0 + (1 : Int32)))]))
  refine own_by (fun _ kont => XT.bipushV X0.here hx rfl (12 : Int32) (hb hby at_11) rfl kont) ?_
  show own_Go p e below _ (s₁.setTop (mkF m 13 #[.val (.int i0), .val (.int i1), .val (.long i2), .second, .val (.long i3), .second, .val (.long i4), .second, .val (.long i5), .second, .val (.int v0), .unset, .unset, .unset, .unset, .unset, .unset, .unset, .unset, .unset, .unset, .unset, .unset, .unset, .unset, .unset, .unset, .unset, .unset, .unset, .unset, .unset, .unset, .unset] [(.int (12 : Int32)), (.int i0), (.int (v0 + (1 : Int32)))]))
  refine own_by (fun _ kont => XT.iushr X0.here hx rfl (hb hby at_13) rfl kont) ?_
  show own_Go p e below _ (s₁.setTop (mkF m 14 #[.val (.int i0), .val (.int i1), .val (.long i2), .second, .val (.long i3), .second, .val (.long i4), .second, .val (.long i5), .second, .val (.int v0), .unset, .unset, .unset, .unset, .unset, .unset, .unset, .unset, .unset, .unset, .unset, .unset, .unset, .unset, .unset, .unset, .unset, .unset, .unset, .unset, .unset, .unset, .unset] [(.int (XT.ushr i0 (12 : Int32))), (.int (v0 + (1 : Int32)))]))
  refine own_by (fun _ kont => XT.sipushV X0.here hx rfl (255 : Int32) (hb hby at_14) rfl kont) ?_
  show own_Go p e below _ (s₁.setTop (mkF m 17 #[.val (.int i0), .val (.int i1), .val (.long i2), .second, .val (.long i3), .second, .val (.long i4), .second, .val (.long i5), .second, .val (.int v0), .unset, .unset, .unset, .unset, .unset, .unset, .unset, .unset, .unset, .unset, .unset, .unset, .unset, .unset, .unset, .unset, .unset, .unset, .unset, .unset, .unset, .unset, .unset] [(.int (255 : Int32)), (.int (XT.ushr i0 (12 : Int32))), (.int (v0 + (1 : Int32)))]))
  refine own_by (fun _ kont => XS.iand X0.here hx rfl (hb hby at_17) rfl kont) ?_
  show own_Go p e below _ (s₁.setTop (mkF m 18 #[.val (.int i0), .val (.int i1), .val (.long i2), .second, .val (.long i3), .second, .val (.long i4), .second, .val (.long i5), .second, .val (.int v0), .unset, .unset, .unset, .unset, .unset, .unset, .unset, .unset, .unset, .unset, .unset, .unset, .unset, .unset, .unset, .unset, .unset, .unset, .unset, .unset, .unset, .unset, .unset] [(.int ((XT.ushr i0 (12 : Int32)) &&& (255 : Int32))), (.int (v0 + (1 : Int32)))]))
  refine own_by (fun _ kont => XS.iadd X0.here hx rfl (hb hby at_18) rfl kont) ?_
  show own_Go p e below _ (s₁.setTop (mkF m 19 #[.val (.int i0), .val (.int i1), .val (.long i2), .second, .val (.long i3), .second, .val (.long i4), .second, .val (.long i5), .second, .val (.int v0), .unset, .unset, .unset, .unset, .unset, .unset, .unset, .unset, .unset, .unset, .unset, .unset, .unset, .unset, .unset, .unset, .unset, .unset, .unset, .unset, .unset, .unset, .unset] [(.int ((v0 + (1 : Int32)) + ((XT.ushr i0 (12 : Int32)) &&& (255 : Int32))))]))
  have m1 := own_and (x := XT.ushr i0 (12 : Int32)) 255 (by decide) (m := 255) rfl
  have b1 := own_add1 (x := v0) (y := (XT.ushr i0 (12 : Int32)) &&& (255 : Int32)) (by omega) (by omega)
  generalize ((v0 + (1 : Int32)) + ((XT.ushr i0 (12 : Int32)) &&& (255 : Int32))) = v1 at b1 ⊢
  show own_Go p e below _ (s₁.setTop (mkF m 19 #[.val (.int i0), .val (.int i1), .val (.long i2), .second, .val (.long i3), .second, .val (.long i4), .second, .val (.long i5), .second, .val (.int v0), .unset, .unset, .unset, .unset, .unset, .unset, .unset, .unset, .unset, .unset, .unset, .unset, .unset, .unset, .unset, .unset, .unset, .unset, .unset, .unset, .unset, .unset, .unset] [(.int v1)]))
  refine own_by (fun _ kont => XS.istore X0.here hx rfl (hb hby at_19) rfl (l' := #[.val (.int i0), .val (.int i1), .val (.long i2), .second, .val (.long i3), .second, .val (.long i4), .second, .val (.long i5), .second, .val (.int v0), .val (.int v1), .unset, .unset, .unset, .unset, .unset, .unset, .unset, .unset, .unset, .unset, .unset, .unset, .unset, .unset, .unset, .unset, .unset, .unset, .unset, .unset, .unset, .unset]) rfl kont) ?_
  show own_Go p e below _ (s₁.setTop (mkF m 21 #[.val (.int i0), .val (.int i1), .val (.long i2), .second, .val (.long i3), .second, .val (.long i4), .second, .val (.long i5), .second, .val (.int v0), .val (.int v1), .unset, .unset, .unset, .unset, .unset, .unset, .unset, .unset, .unset, .unset, .unset, .unset, .unset, .unset, .unset, .unset, .unset, .unset, .unset, .unset, .unset, .unset] []))
  refine own_by (fun _ kont => XS.iload X0.here hx rfl (hb hby at_21) rfl kont) ?_
  show own_Go p e below _ (s₁.setTop (mkF m 23 #[.val (.int i0), .val (.int i1), .val (.long i2), .second, .val (.long i3), .second, .val (.long i4), .second, .val (.long i5), .second, .val (.int v0), .val (.int v1), .unset, .unset, .unset, .unset, .unset, .unset, .unset, .unset, .unset, .unset, .unset, .unset, .unset, .unset, .unset, .unset, .unset, .unset, .unset, .unset, .unset, .unset] [(.int v1)]))
  refine own_by (fun _ kont => XT.iconstV X0.here hx rfl (1 : Int32) (hb hby at_23) rfl kont) ?_
  show own_Go p e below _ (s₁.setTop (mkF m 24 #[.val (.int i0), .val (.int i1), .val (.long i2), .second, .val (.long i3), .second, .val (.long i4), .second, .val (.long i5), .second, .val (.int v0), .val (.int v1), .unset, .unset, .unset, .unset, .unset, .unset, .unset, .unset, .unset, .unset, .unset, .unset, .unset, .unset, .unset, .unset, .unset, .unset, .unset, .unset, .unset, .unset] [(.int (1 : Int32)), (.int v1)]))
  refine own_by (fun _ kont => XS.iadd X0.here hx rfl (hb hby at_24) rfl kont) ?_
  show own_Go p e below _ (s₁.setTop (mkF m 25 #[.val (.int i0), .val (.int i1), .val (.long i2), .second, .val (.long i3), .second, .val (.long i4), .second, .val (.long i5), .second, .val (.int v0), .val (.int v1), .unset, .unset, .unset, .unset, .unset, .unset, .unset, .unset, .unset, .unset, .unset, .unset, .unset, .unset, .unset, .unset, .unset, .unset, .unset, .unset, .unset, .unset] [(.int (v1 + (1 : Int32)))]))
  refine own_by (fun _ kont => XS.iloadN X0.here hx rfl (hb hby at_25) rfl kont) ?_
  show own_Go p e below _ (s₁.setTop (mkF m 26 #[.val (.int i0), .val (.int i1), .val (.long i2), .second, .val (.long i3), .second, .val (.long i4), .second, .val (.long i5), .second, .val (.int v0), .val (.int v1), .unset, .unset, .unset, .unset, .unset, .unset, .unset, .unset, .unset, .unset, .unset, .unset, .unset, .unset, .unset, .unset, .unset, .unset, .unset, .unset, .unset, .unset] [(.int i0), (.int (v1 + (1 : Int32)))]))
  refine own_by (fun _ kont => XT.bipushV X0.here hx rfl (20 : Int32) (hb hby at_26) rfl kont) ?_
  show own_Go p e below _ (s₁.setTop (mkF m 28 #[.val (.int i0), .val (.int i1), .val (.long i2), .second, .val (.long i3), .second, .val (.long i4), .second, .val (.long i5), .second, .val (.int v0), .val (.int v1), .unset, .unset, .unset, .unset, .unset, .unset, .unset, .unset, .unset, .unset, .unset, .unset, .unset, .unset, .unset, .unset, .unset, .unset, .unset, .unset, .unset, .unset] [(.int (20 : Int32)), (.int i0), (.int (v1 + (1 : Int32)))]))
  refine own_by (fun _ kont => XT.iushr X0.here hx rfl (hb hby at_28) rfl kont) ?_
  show own_Go p e below _ (s₁.setTop (mkF m 29 #[.val (.int i0), .val (.int i1), .val (.long i2), .second, .val (.long i3), .second, .val (.long i4), .second, .val (.long i5), .second, .val (.int v0), .val (.int v1), .unset, .unset, .unset, .unset, .unset, .unset, .unset, .unset, .unset, .unset, .unset, .unset, .unset, .unset, .unset, .unset, .unset, .unset, .unset, .unset, .unset, .unset] [(.int (XT.ushr i0 (20 : Int32))), (.int (v1 + (1 : Int32)))]))
  refine own_by (fun _ kont => XT.sipushV X0.here hx rfl (255 : Int32) (hb hby at_29) rfl kont) ?_
  show own_Go p e below _ (s₁.setTop (mkF m 32 #[.val (.int i0), .val (.int i1), .val (.long i2), .second, .val (.long i3), .second, .val (.long i4), .second, .val (.long i5), .second, .val (.int v0), .val (.int v1), .unset, .unset, .unset, .unset, .unset, .unset, .unset, .unset, .unset, .unset, .unset, .unset, .unset, .unset, .unset, .unset, .unset, .unset, .unset, .unset, .unset, .unset] [(.int (255 : Int32)), (.int (XT.ushr i0 (20 : Int32))), (.int (v1 + (1 : Int32)))]))
  refine own_by (fun _ kont => XS.iand X0.here hx rfl (hb hby at_32) rfl kont) ?_
  show own_Go p e below _ (s₁.setTop (mkF m 33 #[.val (.int i0), .val (.int i1), .val (.long i2), .second, .val (.long i3), .second, .val (.long i4), .second, .val (.long i5), .second, .val (.int v0), .val (.int v1), .unset, .unset, .unset, .unset, .unset, .unset, .unset, .unset, .unset, .unset, .unset, .unset, .unset, .unset, .unset, .unset, .unset, .unset, .unset, .unset, .unset, .unset] [(.int ((XT.ushr i0 (20 : Int32)) &&& (255 : Int32))), (.int (v1 + (1 : Int32)))]))
  refine own_by (fun _ kont => XS.iadd X0.here hx rfl (hb hby at_33) rfl kont) ?_
  show own_Go p e below _ (s₁.setTop (mkF m 34 #[.val (.int i0), .val (.int i1), .val (.long i2), .second, .val (.long i3), .second, .val (.long i4), .second, .val (.long i5), .second, .val (.int v0), .val (.int v1), .unset, .unset, .unset, .unset, .unset, .unset, .unset, .unset, .unset, .unset, .unset, .unset, .unset, .unset, .unset, .unset, .unset, .unset, .unset, .unset, .unset, .unset] [(.int ((v1 + (1 : Int32)) + ((XT.ushr i0 (20 : Int32)) &&& (255 : Int32))))]))
  have m2 := own_and (x := XT.ushr i0 (20 : Int32)) 255 (by decide) (m := 255) rfl
  have b2 := own_add1 (x := v1) (y := (XT.ushr i0 (20 : Int32)) &&& (255 : Int32)) (by omega) (by omega)
  generalize ((v1 + (1 : Int32)) + ((XT.ushr i0 (20 : Int32)) &&& (255 : Int32))) = v2 at b2 ⊢
  show own_Go p e below _ (s₁.setTop (mkF m 34 #[.val (.int i0), .val (.int i1), .val (.long i2), .second, .val (.long i3), .second, .val (.long i4), .second, .val (.long i5), .second, .val (.int v0), .val (.int v1), .unset, .unset, .unset, .unset, .unset, .unset, .unset, .unset, .unset, .unset, .unset, .unset, .unset, .unset, .unset, .unset, .unset, .unset, .unset, .unset, .unset, .unset] [(.int v2)]))
  refine own_by (fun _ kont => XS.istore X0.here hx rfl (hb hby at_34) rfl (l' := #[.val (.int i0), .val (.int i1), .val (.long i2), .second, .val (.long i3), .second, .val (.long i4), .second, .val (.long i5), .second, .val (.int v0), .val (.int v1), .val (.int v2), .unset, .unset, .unset, .unset, .unset, .unset, .unset, .unset, .unset, .unset, .unset, .unset, .unset, .unset, .unset, .unset, .unset, .unset, .unset, .unset, .unset]) rfl kont) ?_
  show own_Go p e below _ (s₁.setTop (mkF m 36 #[.val (.int i0), .val (.int i1), .val (.long i2), .second, .val (.long i3), .second, .val (.long i4), .second, .val (.long i5), .second, .val (.int v0), .val (.int v1), .val (.int v2), .unset, .unset, .unset, .unset, .unset, .unset, .unset, .unset, .unset, .unset, .unset, .unset, .unset, .unset, .unset, .unset, .unset, .unset, .unset, .unset, .unset] []))
  refine own_by (fun _ kont => XT.lloadN X0.here hx rfl (hb hby at_36) rfl kont) ?_
  show own_Go p e below _ (s₁.setTop (mkF m 37 #[.val (.int i0), .val (.int i1), .val (.long i2), .second, .val (.long i3), .second, .val (.long i4), .second, .val (.long i5), .second, .val (.int v0), .val (.int v1), .val (.int v2), .unset, .unset, .unset, .unset, .unset, .unset, .unset, .unset, .unset, .unset, .unset, .unset, .unset, .unset, .unset, .unset, .unset, .unset, .unset, .unset, .unset] [(.long i2)]))
  refine own_by (fun _ kont => X0.ldc2J hx hown (v := (9223372036854775807 : Int64)) (mvT hZ (hw _ (List.mem_of_getElem? (i := 1) rfl))) rfl (hb hby at_37) kont) ?_
  show own_Go p e below _ (s₁.setTop (mkF m 40 #[.val (.int i0), .val (.int i1), .val (.long i2), .second, .val (.long i3), .second, .val (.long i4), .second, .val (.long i5), .second, .val (.int v0), .val (.int v1), .val (.int v2), .unset, .unset, .unset, .unset, .unset, .unset, .unset, .unset, .unset, .unset, .unset, .unset, .unset, .unset, .unset, .unset, .unset, .unset, .unset, .unset, .unset] [(.long (9223372036854775807 : Int64)), (.long i2)]))
  refine own_by (fun _ kont => XT.land X0.here hx rfl (hb hby at_40) rfl kont) ?_
  show own_Go p e below _ (s₁.setTop (mkF m 41 #[.val (.int i0), .val (.int i1), .val (.long i2), .second, .val (.long i3), .second, .val (.long i4), .second, .val (.long i5), .second, .val (.int v0), .val (.int v1), .val (.int v2), .unset, .unset, .unset, .unset, .unset, .unset, .unset, .unset, .unset, .unset, .unset, .unset, .unset, .unset, .unset, .unset, .unset, .unset, .unset, .unset, .unset] [(.long (i2 &&& (9223372036854775807 : Int64)))]))
  have nc0 := own_max64 i2
  generalize (i2 &&& (9223372036854775807 : Int64)) = c0 at nc0 ⊢
  show own_Go p e below _ (s₁.setTop (mkF m 41 #[.val (.int i0), .val (.int i1), .val (.long i2), .second, .val (.long i3), .second, .val (.long i4), .second, .val (.long i5), .second, .val (.int v0), .val (.int v1), .val (.int v2), .unset, .unset, .unset, .unset, .unset, .unset, .unset, .unset, .unset, .unset, .unset, .unset, .unset, .unset, .unset, .unset, .unset, .unset, .unset, .unset, .unset] [(.long c0)]))
  refine own_by (fun _ kont => XT.lstore X0.here hx rfl (hb hby at_41) rfl (l' := #[.val (.int i0), .val (.int i1), .val (.long i2), .second, .val (.long i3), .second, .val (.long i4), .second, .val (.long i5), .second, .val (.int v0), .val (.int v1), .val (.int v2), .val (.long c0), .second, .unset, .unset, .unset, .unset, .unset, .unset, .unset, .unset, .unset, .unset, .unset, .unset, .unset, .unset, .unset, .unset, .unset, .unset, .unset]) rfl kont) ?_
  show own_Go p e below _ (s₁.setTop (mkF m 43 #[.val (.int i0), .val (.int i1), .val (.long i2), .second, .val (.long i3), .second, .val (.long i4), .second, .val (.long i5), .second, .val (.int v0), .val (.int v1), .val (.int v2), .val (.long c0), .second, .unset, .unset, .unset, .unset, .unset, .unset, .unset, .unset, .unset, .unset, .unset, .unset, .unset, .unset, .unset, .unset, .unset, .unset, .unset] []))
  refine own_by (fun _ kont => XT.lload X0.here hx rfl (hb hby at_43) rfl kont) ?_
  show own_Go p e below _ (s₁.setTop (mkF m 45 #[.val (.int i0), .val (.int i1), .val (.long i2), .second, .val (.long i3), .second, .val (.long i4), .second, .val (.long i5), .second, .val (.int v0), .val (.int v1), .val (.int v2), .val (.long c0), .second, .unset, .unset, .unset, .unset, .unset, .unset, .unset, .unset, .unset, .unset, .unset, .unset, .unset, .unset, .unset, .unset, .unset, .unset, .unset] [(.long i3)]))
  refine own_by (fun _ kont => X0.ldc2J hx hown (v := (9223372036854775807 : Int64)) (mvT hZ (hw _ (List.mem_of_getElem? (i := 1) rfl))) rfl (hb hby at_45) kont) ?_
  show own_Go p e below _ (s₁.setTop (mkF m 48 #[.val (.int i0), .val (.int i1), .val (.long i2), .second, .val (.long i3), .second, .val (.long i4), .second, .val (.long i5), .second, .val (.int v0), .val (.int v1), .val (.int v2), .val (.long c0), .second, .unset, .unset, .unset, .unset, .unset, .unset, .unset, .unset, .unset, .unset, .unset, .unset, .unset, .unset, .unset, .unset, .unset, .unset, .unset] [(.long (9223372036854775807 : Int64)), (.long i3)]))
  refine own_by (fun _ kont => XT.land X0.here hx rfl (hb hby at_48) rfl kont) ?_
  show own_Go p e below _ (s₁.setTop (mkF m 49 #[.val (.int i0), .val (.int i1), .val (.long i2), .second, .val (.long i3), .second, .val (.long i4), .second, .val (.long i5), .second, .val (.int v0), .val (.int v1), .val (.int v2), .val (.long c0), .second, .unset, .unset, .unset, .unset, .unset, .unset, .unset, .unset, .unset, .unset, .unset, .unset, .unset, .unset, .unset, .unset, .unset, .unset, .unset] [(.long (i3 &&& (9223372036854775807 : Int64)))]))
  have nc1 := own_max64 i3
  generalize (i3 &&& (9223372036854775807 : Int64)) = c1 at nc1 ⊢
  show own_Go p e below _ (s₁.setTop (mkF m 49 #[.val (.int i0), .val (.int i1), .val (.long i2), .second, .val (.long i3), .second, .val (.long i4), .second, .val (.long i5), .second, .val (.int v0), .val (.int v1), .val (.int v2), .val (.long c0), .second, .unset, .unset, .unset, .unset, .unset, .unset, .unset, .unset, .unset, .unset, .unset, .unset, .unset, .unset, .unset, .unset, .unset, .unset, .unset] [(.long c1)]))
  refine own_by (fun _ kont => XT.lstore X0.here hx rfl (hb hby at_49) rfl (l' := #[.val (.int i0), .val (.int i1), .val (.long i2), .second, .val (.long i3), .second, .val (.long i4), .second, .val (.long i5), .second, .val (.int v0), .val (.int v1), .val (.int v2), .val (.long c0), .second, .val (.long c1), .second, .unset, .unset, .unset, .unset, .unset, .unset, .unset, .unset, .unset, .unset, .unset, .unset, .unset, .unset, .unset, .unset, .unset]) rfl kont) ?_
  show own_Go p e below _ (s₁.setTop (mkF m 51 #[.val (.int i0), .val (.int i1), .val (.long i2), .second, .val (.long i3), .second, .val (.long i4), .second, .val (.long i5), .second, .val (.int v0), .val (.int v1), .val (.int v2), .val (.long c0), .second, .val (.long c1), .second, .unset, .unset, .unset, .unset, .unset, .unset, .unset, .unset, .unset, .unset, .unset, .unset, .unset, .unset, .unset, .unset, .unset] []))
  refine own_by (fun _ kont => XT.lload X0.here hx rfl (hb hby at_51) rfl kont) ?_
  show own_Go p e below _ (s₁.setTop (mkF m 53 #[.val (.int i0), .val (.int i1), .val (.long i2), .second, .val (.long i3), .second, .val (.long i4), .second, .val (.long i5), .second, .val (.int v0), .val (.int v1), .val (.int v2), .val (.long c0), .second, .val (.long c1), .second, .unset, .unset, .unset, .unset, .unset, .unset, .unset, .unset, .unset, .unset, .unset, .unset, .unset, .unset, .unset, .unset, .unset] [(.long i4)]))
  refine own_by (fun _ kont => X0.ldc2J hx hown (v := (9223372036854775807 : Int64)) (mvT hZ (hw _ (List.mem_of_getElem? (i := 1) rfl))) rfl (hb hby at_53) kont) ?_
  show own_Go p e below _ (s₁.setTop (mkF m 56 #[.val (.int i0), .val (.int i1), .val (.long i2), .second, .val (.long i3), .second, .val (.long i4), .second, .val (.long i5), .second, .val (.int v0), .val (.int v1), .val (.int v2), .val (.long c0), .second, .val (.long c1), .second, .unset, .unset, .unset, .unset, .unset, .unset, .unset, .unset, .unset, .unset, .unset, .unset, .unset, .unset, .unset, .unset, .unset] [(.long (9223372036854775807 : Int64)), (.long i4)]))
  refine own_by (fun _ kont => XT.land X0.here hx rfl (hb hby at_56) rfl kont) ?_
  show own_Go p e below _ (s₁.setTop (mkF m 57 #[.val (.int i0), .val (.int i1), .val (.long i2), .second, .val (.long i3), .second, .val (.long i4), .second, .val (.long i5), .second, .val (.int v0), .val (.int v1), .val (.int v2), .val (.long c0), .second, .val (.long c1), .second, .unset, .unset, .unset, .unset, .unset, .unset, .unset, .unset, .unset, .unset, .unset, .unset, .unset, .unset, .unset, .unset, .unset] [(.long (i4 &&& (9223372036854775807 : Int64)))]))
  have nc2 := own_max64 i4
  generalize (i4 &&& (9223372036854775807 : Int64)) = c2 at nc2 ⊢
  show own_Go p e below _ (s₁.setTop (mkF m 57 #[.val (.int i0), .val (.int i1), .val (.long i2), .second, .val (.long i3), .second, .val (.long i4), .second, .val (.long i5), .second, .val (.int v0), .val (.int v1), .val (.int v2), .val (.long c0), .second, .val (.long c1), .second, .unset, .unset, .unset, .unset, .unset, .unset, .unset, .unset, .unset, .unset, .unset, .unset, .unset, .unset, .unset, .unset, .unset] [(.long c2)]))
  refine own_by (fun _ kont => XT.lstore X0.here hx rfl (hb hby at_57) rfl (l' := #[.val (.int i0), .val (.int i1), .val (.long i2), .second, .val (.long i3), .second, .val (.long i4), .second, .val (.long i5), .second, .val (.int v0), .val (.int v1), .val (.int v2), .val (.long c0), .second, .val (.long c1), .second, .val (.long c2), .second, .unset, .unset, .unset, .unset, .unset, .unset, .unset, .unset, .unset, .unset, .unset, .unset, .unset, .unset, .unset]) rfl kont) ?_
  show own_Go p e below _ (s₁.setTop (mkF m 59 #[.val (.int i0), .val (.int i1), .val (.long i2), .second, .val (.long i3), .second, .val (.long i4), .second, .val (.long i5), .second, .val (.int v0), .val (.int v1), .val (.int v2), .val (.long c0), .second, .val (.long c1), .second, .val (.long c2), .second, .unset, .unset, .unset, .unset, .unset, .unset, .unset, .unset, .unset, .unset, .unset, .unset, .unset, .unset, .unset] []))
  refine own_by (fun _ kont => XS.iloadN X0.here hx rfl (hb hby at_59) rfl kont) ?_
  show own_Go p e below _ (s₁.setTop (mkF m 60 #[.val (.int i0), .val (.int i1), .val (.long i2), .second, .val (.long i3), .second, .val (.long i4), .second, .val (.long i5), .second, .val (.int v0), .val (.int v1), .val (.int v2), .val (.long c0), .second, .val (.long c1), .second, .val (.long c2), .second, .unset, .unset, .unset, .unset, .unset, .unset, .unset, .unset, .unset, .unset, .unset, .unset, .unset, .unset, .unset] [(.int i0)]))
  refine own_by (fun _ kont => XT.iconstV X0.here hx rfl (1 : Int32) (hb hby at_60) rfl kont) ?_
  show own_Go p e below _ (s₁.setTop (mkF m 61 #[.val (.int i0), .val (.int i1), .val (.long i2), .second, .val (.long i3), .second, .val (.long i4), .second, .val (.long i5), .second, .val (.int v0), .val (.int v1), .val (.int v2), .val (.long c0), .second, .val (.long c1), .second, .val (.long c2), .second, .unset, .unset, .unset, .unset, .unset, .unset, .unset, .unset, .unset, .unset, .unset, .unset, .unset, .unset, .unset] [(.int (1 : Int32)), (.int i0)]))
  refine own_by (fun _ kont => XS.iand X0.here hx rfl (hb hby at_61) rfl kont) ?_
  show own_Go p e below _ (s₁.setTop (mkF m 62 #[.val (.int i0), .val (.int i1), .val (.long i2), .second, .val (.long i3), .second, .val (.long i4), .second, .val (.long i5), .second, .val (.int v0), .val (.int v1), .val (.int v2), .val (.long c0), .second, .val (.long c1), .second, .val (.long c2), .second, .unset, .unset, .unset, .unset, .unset, .unset, .unset, .unset, .unset, .unset, .unset, .unset, .unset, .unset, .unset] [(.int (i0 &&& (1 : Int32)))]))
  have h01 : v0 < v1 := Int32.lt_iff_toInt_lt.mpr b1.1
  have h12 : v1 < v2 := Int32.lt_iff_toInt_lt.mpr b2.1
  have key266 : ∀ y0 : Int64, ¬ y0 < 0 → own_Go p e below (own_K s (own_Q_rmL Z  n0) room_1.cells room_1.slots) (s₁.setTop (mkF m 71 #[.val (.int i0), .val (.int i1), .val (.long i2), .second, .val (.long i3), .second, .val (.long i4), .second, .val (.long i5), .second, .val (.int v0), .val (.int v1), .val (.int v2), .val (.long c0), .second, .val (.long c1), .second, .val (.long c2), .second, .unset, .unset, .unset, .unset, .unset, .unset, .unset, .unset, .unset, .unset, .unset, .unset, .unset, .unset, .unset] [(.long y0)])) := by
    intro y0 ny0
    refine own_by (fun _ kont => XT.lstore X0.here hx rfl (hb hby at_71) rfl (l' := #[.val (.int i0), .val (.int i1), .val (.long i2), .second, .val (.long i3), .second, .val (.long i4), .second, .val (.long i5), .second, .val (.int v0), .val (.int v1), .val (.int v2), .val (.long c0), .second, .val (.long c1), .second, .val (.long c2), .second, .val (.long y0), .second, .unset, .unset, .unset, .unset, .unset, .unset, .unset, .unset, .unset, .unset, .unset, .unset, .unset]) rfl kont) ?_
    show own_Go p e below _ (s₁.setTop (mkF m 73 #[.val (.int i0), .val (.int i1), .val (.long i2), .second, .val (.long i3), .second, .val (.long i4), .second, .val (.long i5), .second, .val (.int v0), .val (.int v1), .val (.int v2), .val (.long c0), .second, .val (.long c1), .second, .val (.long c2), .second, .val (.long y0), .second, .unset, .unset, .unset, .unset, .unset, .unset, .unset, .unset, .unset, .unset, .unset, .unset, .unset] []))
    refine own_by (fun _ kont => XS.iloadN X0.here hx rfl (hb hby at_73) rfl kont) ?_
    show own_Go p e below _ (s₁.setTop (mkF m 74 #[.val (.int i0), .val (.int i1), .val (.long i2), .second, .val (.long i3), .second, .val (.long i4), .second, .val (.long i5), .second, .val (.int v0), .val (.int v1), .val (.int v2), .val (.long c0), .second, .val (.long c1), .second, .val (.long c2), .second, .val (.long y0), .second, .unset, .unset, .unset, .unset, .unset, .unset, .unset, .unset, .unset, .unset, .unset, .unset, .unset] [(.int i0)]))
    refine own_by (fun _ kont => XT.iconstV X0.here hx rfl (2 : Int32) (hb hby at_74) rfl kont) ?_
    show own_Go p e below _ (s₁.setTop (mkF m 75 #[.val (.int i0), .val (.int i1), .val (.long i2), .second, .val (.long i3), .second, .val (.long i4), .second, .val (.long i5), .second, .val (.int v0), .val (.int v1), .val (.int v2), .val (.long c0), .second, .val (.long c1), .second, .val (.long c2), .second, .val (.long y0), .second, .unset, .unset, .unset, .unset, .unset, .unset, .unset, .unset, .unset, .unset, .unset, .unset, .unset] [(.int (2 : Int32)), (.int i0)]))
    refine own_by (fun _ kont => XS.iand X0.here hx rfl (hb hby at_75) rfl kont) ?_
    show own_Go p e below _ (s₁.setTop (mkF m 76 #[.val (.int i0), .val (.int i1), .val (.long i2), .second, .val (.long i3), .second, .val (.long i4), .second, .val (.long i5), .second, .val (.int v0), .val (.int v1), .val (.int v2), .val (.long c0), .second, .val (.long c1), .second, .val (.long c2), .second, .val (.long y0), .second, .unset, .unset, .unset, .unset, .unset, .unset, .unset, .unset, .unset, .unset, .unset, .unset, .unset] [(.int (i0 &&& (2 : Int32)))]))
    have key267 : ∀ y1 : Int64, ¬ y1 < 0 → own_Go p e below (own_K s (own_Q_rmL Z  n0) room_1.cells room_1.slots) (s₁.setTop (mkF m 85 #[.val (.int i0), .val (.int i1), .val (.long i2), .second, .val (.long i3), .second, .val (.long i4), .second, .val (.long i5), .second, .val (.int v0), .val (.int v1), .val (.int v2), .val (.long c0), .second, .val (.long c1), .second, .val (.long c2), .second, .val (.long y0), .second, .unset, .unset, .unset, .unset, .unset, .unset, .unset, .unset, .unset, .unset, .unset, .unset, .unset] [(.long y1)])) := by
      intro y1 ny1
      refine own_by (fun _ kont => XT.lstore X0.here hx rfl (hb hby at_85) rfl (l' := #[.val (.int i0), .val (.int i1), .val (.long i2), .second, .val (.long i3), .second, .val (.long i4), .second, .val (.long i5), .second, .val (.int v0), .val (.int v1), .val (.int v2), .val (.long c0), .second, .val (.long c1), .second, .val (.long c2), .second, .val (.long y0), .second, .val (.long y1), .second, .unset, .unset, .unset, .unset, .unset, .unset, .unset, .unset, .unset, .unset, .unset]) rfl kont) ?_
      show own_Go p e below _ (s₁.setTop (mkF m 87 #[.val (.int i0), .val (.int i1), .val (.long i2), .second, .val (.long i3), .second, .val (.long i4), .second, .val (.long i5), .second, .val (.int v0), .val (.int v1), .val (.int v2), .val (.long c0), .second, .val (.long c1), .second, .val (.long c2), .second, .val (.long y0), .second, .val (.long y1), .second, .unset, .unset, .unset, .unset, .unset, .unset, .unset, .unset, .unset, .unset, .unset] []))
      refine own_by (fun _ kont => XS.iloadN X0.here hx rfl (hb hby at_87) rfl kont) ?_
      show own_Go p e below _ (s₁.setTop (mkF m 88 #[.val (.int i0), .val (.int i1), .val (.long i2), .second, .val (.long i3), .second, .val (.long i4), .second, .val (.long i5), .second, .val (.int v0), .val (.int v1), .val (.int v2), .val (.long c0), .second, .val (.long c1), .second, .val (.long c2), .second, .val (.long y0), .second, .val (.long y1), .second, .unset, .unset, .unset, .unset, .unset, .unset, .unset, .unset, .unset, .unset, .unset] [(.int i0)]))
      refine own_by (fun _ kont => XT.iconstV X0.here hx rfl (4 : Int32) (hb hby at_88) rfl kont) ?_
      show own_Go p e below _ (s₁.setTop (mkF m 89 #[.val (.int i0), .val (.int i1), .val (.long i2), .second, .val (.long i3), .second, .val (.long i4), .second, .val (.long i5), .second, .val (.int v0), .val (.int v1), .val (.int v2), .val (.long c0), .second, .val (.long c1), .second, .val (.long c2), .second, .val (.long y0), .second, .val (.long y1), .second, .unset, .unset, .unset, .unset, .unset, .unset, .unset, .unset, .unset, .unset, .unset] [(.int (4 : Int32)), (.int i0)]))
      refine own_by (fun _ kont => XS.iand X0.here hx rfl (hb hby at_89) rfl kont) ?_
      show own_Go p e below _ (s₁.setTop (mkF m 90 #[.val (.int i0), .val (.int i1), .val (.long i2), .second, .val (.long i3), .second, .val (.long i4), .second, .val (.long i5), .second, .val (.int v0), .val (.int v1), .val (.int v2), .val (.long c0), .second, .val (.long c1), .second, .val (.long c2), .second, .val (.long y0), .second, .val (.long y1), .second, .unset, .unset, .unset, .unset, .unset, .unset, .unset, .unset, .unset, .unset, .unset] [(.int (i0 &&& (4 : Int32)))]))
      have key268 : ∀ y2 : Int64, ¬ y2 < 0 → own_Go p e below (own_K s (own_Q_rmL Z  n0) room_1.cells room_1.slots) (s₁.setTop (mkF m 99 #[.val (.int i0), .val (.int i1), .val (.long i2), .second, .val (.long i3), .second, .val (.long i4), .second, .val (.long i5), .second, .val (.int v0), .val (.int v1), .val (.int v2), .val (.long c0), .second, .val (.long c1), .second, .val (.long c2), .second, .val (.long y0), .second, .val (.long y1), .second, .unset, .unset, .unset, .unset, .unset, .unset, .unset, .unset, .unset, .unset, .unset] [(.long y2)])) := by
        intro y2 ny2
        refine own_by (fun _ kont => XT.lstore X0.here hx rfl (hb hby at_99) rfl (l' := #[.val (.int i0), .val (.int i1), .val (.long i2), .second, .val (.long i3), .second, .val (.long i4), .second, .val (.long i5), .second, .val (.int v0), .val (.int v1), .val (.int v2), .val (.long c0), .second, .val (.long c1), .second, .val (.long c2), .second, .val (.long y0), .second, .val (.long y1), .second, .val (.long y2), .second, .unset, .unset, .unset, .unset, .unset, .unset, .unset, .unset, .unset]) rfl kont) ?_
        show own_Go p e below _ (s₁.setTop (mkF m 101 #[.val (.int i0), .val (.int i1), .val (.long i2), .second, .val (.long i3), .second, .val (.long i4), .second, .val (.long i5), .second, .val (.int v0), .val (.int v1), .val (.int v2), .val (.long c0), .second, .val (.long c1), .second, .val (.long c2), .second, .val (.long y0), .second, .val (.long y1), .second, .val (.long y2), .second, .unset, .unset, .unset, .unset, .unset, .unset, .unset, .unset, .unset] []))
        refine own_by (fun _ kont => XS.iloadN X0.here hx rfl (hb hby at_101) rfl kont) ?_
        show own_Go p e below _ (s₁.setTop (mkF m 102 #[.val (.int i0), .val (.int i1), .val (.long i2), .second, .val (.long i3), .second, .val (.long i4), .second, .val (.long i5), .second, .val (.int v0), .val (.int v1), .val (.int v2), .val (.long c0), .second, .val (.long c1), .second, .val (.long c2), .second, .val (.long y0), .second, .val (.long y1), .second, .val (.long y2), .second, .unset, .unset, .unset, .unset, .unset, .unset, .unset, .unset, .unset] [(.int i0)]))
        refine own_by (fun _ kont => XT.bipushV X0.here hx rfl (8 : Int32) (hb hby at_102) rfl kont) ?_
        show own_Go p e below _ (s₁.setTop (mkF m 104 #[.val (.int i0), .val (.int i1), .val (.long i2), .second, .val (.long i3), .second, .val (.long i4), .second, .val (.long i5), .second, .val (.int v0), .val (.int v1), .val (.int v2), .val (.long c0), .second, .val (.long c1), .second, .val (.long c2), .second, .val (.long y0), .second, .val (.long y1), .second, .val (.long y2), .second, .unset, .unset, .unset, .unset, .unset, .unset, .unset, .unset, .unset] [(.int (8 : Int32)), (.int i0)]))
        refine own_by (fun _ kont => XS.iand X0.here hx rfl (hb hby at_104) rfl kont) ?_
        show own_Go p e below _ (s₁.setTop (mkF m 105 #[.val (.int i0), .val (.int i1), .val (.long i2), .second, .val (.long i3), .second, .val (.long i4), .second, .val (.long i5), .second, .val (.int v0), .val (.int v1), .val (.int v2), .val (.long c0), .second, .val (.long c1), .second, .val (.long c2), .second, .val (.long y0), .second, .val (.long y1), .second, .val (.long y2), .second, .unset, .unset, .unset, .unset, .unset, .unset, .unset, .unset, .unset] [(.int (i0 &&& (8 : Int32)))]))
        have key269 : ∀ (TJ269 : State) (lJ269 : List Loc), Stand p l e room_1 s m #[(.int i0), (.int i1), (.long i2), (.long i3), (.long i4), (.long i5)] below meth c TJ269 lJ269 0 0 → Fr n0 lJ269 → TJ269.heap = h0 → ∀ u0 : Int64, ¬ u0 < 0 → own_Go p e below (own_K s (own_Q_rmL Z  n0) room_1.cells room_1.slots) (TJ269.setTop (mkF m 125 #[.val (.int i0), .val (.int i1), .val (.long i2), .second, .val (.long i3), .second, .val (.long i4), .second, .val (.long i5), .second, .val (.int v0), .val (.int v1), .val (.int v2), .val (.long c0), .second, .val (.long c1), .second, .val (.long c2), .second, .val (.long y0), .second, .val (.long y1), .second, .val (.long y2), .second, .unset, .unset, .unset, .unset, .unset, .unset, .unset, .unset, .unset] [(.long u0)])) := by
          intro TJ269 lJ269 XJ269 NJ269 eJ269 u0 nu0
          refine own_by (fun _ kont => XT.lstore XJ269.here hx rfl (hb hby at_125) rfl (l' := #[.val (.int i0), .val (.int i1), .val (.long i2), .second, .val (.long i3), .second, .val (.long i4), .second, .val (.long i5), .second, .val (.int v0), .val (.int v1), .val (.int v2), .val (.long c0), .second, .val (.long c1), .second, .val (.long c2), .second, .val (.long y0), .second, .val (.long y1), .second, .val (.long y2), .second, .val (.long u0), .second, .unset, .unset, .unset, .unset, .unset, .unset, .unset]) rfl kont) ?_
          show own_Go p e below _ (TJ269.setTop (mkF m 127 #[.val (.int i0), .val (.int i1), .val (.long i2), .second, .val (.long i3), .second, .val (.long i4), .second, .val (.long i5), .second, .val (.int v0), .val (.int v1), .val (.int v2), .val (.long c0), .second, .val (.long c1), .second, .val (.long c2), .second, .val (.long y0), .second, .val (.long y1), .second, .val (.long y2), .second, .val (.long u0), .second, .unset, .unset, .unset, .unset, .unset, .unset, .unset] []))
          refine own_by (fun _ kont => XS.iloadN XJ269.here hx rfl (hb hby at_127) rfl kont) ?_
          show own_Go p e below _ (TJ269.setTop (mkF m 128 #[.val (.int i0), .val (.int i1), .val (.long i2), .second, .val (.long i3), .second, .val (.long i4), .second, .val (.long i5), .second, .val (.int v0), .val (.int v1), .val (.int v2), .val (.long c0), .second, .val (.long c1), .second, .val (.long c2), .second, .val (.long y0), .second, .val (.long y1), .second, .val (.long y2), .second, .val (.long u0), .second, .unset, .unset, .unset, .unset, .unset, .unset, .unset] [(.int i0)]))
          refine own_by (fun _ kont => XT.bipushV XJ269.here hx rfl (16 : Int32) (hb hby at_128) rfl kont) ?_
          show own_Go p e below _ (TJ269.setTop (mkF m 130 #[.val (.int i0), .val (.int i1), .val (.long i2), .second, .val (.long i3), .second, .val (.long i4), .second, .val (.long i5), .second, .val (.int v0), .val (.int v1), .val (.int v2), .val (.long c0), .second, .val (.long c1), .second, .val (.long c2), .second, .val (.long y0), .second, .val (.long y1), .second, .val (.long y2), .second, .val (.long u0), .second, .unset, .unset, .unset, .unset, .unset, .unset, .unset] [(.int (16 : Int32)), (.int i0)]))
          refine own_by (fun _ kont => XS.iand XJ269.here hx rfl (hb hby at_130) rfl kont) ?_
          show own_Go p e below _ (TJ269.setTop (mkF m 131 #[.val (.int i0), .val (.int i1), .val (.long i2), .second, .val (.long i3), .second, .val (.long i4), .second, .val (.long i5), .second, .val (.int v0), .val (.int v1), .val (.int v2), .val (.long c0), .second, .val (.long c1), .second, .val (.long c2), .second, .val (.long y0), .second, .val (.long y1), .second, .val (.long y2), .second, .val (.long u0), .second, .unset, .unset, .unset, .unset, .unset, .unset, .unset] [(.int (i0 &&& (16 : Int32)))]))
          have key270 : ∀ (TJ270 : State) (lJ270 : List Loc), Stand p l e room_1 s m #[(.int i0), (.int i1), (.long i2), (.long i3), (.long i4), (.long i5)] below meth c TJ270 lJ270 0 0 → Fr n0 lJ270 → TJ270.heap = h0 → ∀ u1 : Int64, ¬ u1 < 0 → own_Go p e below (own_K s (own_Q_rmL Z  n0) room_1.cells room_1.slots) (TJ270.setTop (mkF m 151 #[.val (.int i0), .val (.int i1), .val (.long i2), .second, .val (.long i3), .second, .val (.long i4), .second, .val (.long i5), .second, .val (.int v0), .val (.int v1), .val (.int v2), .val (.long c0), .second, .val (.long c1), .second, .val (.long c2), .second, .val (.long y0), .second, .val (.long y1), .second, .val (.long y2), .second, .val (.long u0), .second, .unset, .unset, .unset, .unset, .unset, .unset, .unset] [(.long u1)])) := by
            intro TJ270 lJ270 XJ270 NJ270 eJ270 u1 nu1
            refine own_by (fun _ kont => XT.lstore XJ270.here hx rfl (hb hby at_151) rfl (l' := #[.val (.int i0), .val (.int i1), .val (.long i2), .second, .val (.long i3), .second, .val (.long i4), .second, .val (.long i5), .second, .val (.int v0), .val (.int v1), .val (.int v2), .val (.long c0), .second, .val (.long c1), .second, .val (.long c2), .second, .val (.long y0), .second, .val (.long y1), .second, .val (.long y2), .second, .val (.long u0), .second, .val (.long u1), .second, .unset, .unset, .unset, .unset, .unset]) rfl kont) ?_
            show own_Go p e below _ (TJ270.setTop (mkF m 153 #[.val (.int i0), .val (.int i1), .val (.long i2), .second, .val (.long i3), .second, .val (.long i4), .second, .val (.long i5), .second, .val (.int v0), .val (.int v1), .val (.int v2), .val (.long c0), .second, .val (.long c1), .second, .val (.long c2), .second, .val (.long y0), .second, .val (.long y1), .second, .val (.long y2), .second, .val (.long u0), .second, .val (.long u1), .second, .unset, .unset, .unset, .unset, .unset] []))
            refine own_by (fun _ kont => XS.iloadN XJ270.here hx rfl (hb hby at_153) rfl kont) ?_
            show own_Go p e below _ (TJ270.setTop (mkF m 154 #[.val (.int i0), .val (.int i1), .val (.long i2), .second, .val (.long i3), .second, .val (.long i4), .second, .val (.long i5), .second, .val (.int v0), .val (.int v1), .val (.int v2), .val (.long c0), .second, .val (.long c1), .second, .val (.long c2), .second, .val (.long y0), .second, .val (.long y1), .second, .val (.long y2), .second, .val (.long u0), .second, .val (.long u1), .second, .unset, .unset, .unset, .unset, .unset] [(.int i0)]))
            refine own_by (fun _ kont => XT.bipushV XJ270.here hx rfl (32 : Int32) (hb hby at_154) rfl kont) ?_
            show own_Go p e below _ (TJ270.setTop (mkF m 156 #[.val (.int i0), .val (.int i1), .val (.long i2), .second, .val (.long i3), .second, .val (.long i4), .second, .val (.long i5), .second, .val (.int v0), .val (.int v1), .val (.int v2), .val (.long c0), .second, .val (.long c1), .second, .val (.long c2), .second, .val (.long y0), .second, .val (.long y1), .second, .val (.long y2), .second, .val (.long u0), .second, .val (.long u1), .second, .unset, .unset, .unset, .unset, .unset] [(.int (32 : Int32)), (.int i0)]))
            refine own_by (fun _ kont => XS.iand XJ270.here hx rfl (hb hby at_156) rfl kont) ?_
            show own_Go p e below _ (TJ270.setTop (mkF m 157 #[.val (.int i0), .val (.int i1), .val (.long i2), .second, .val (.long i3), .second, .val (.long i4), .second, .val (.long i5), .second, .val (.int v0), .val (.int v1), .val (.int v2), .val (.long c0), .second, .val (.long c1), .second, .val (.long c2), .second, .val (.long y0), .second, .val (.long y1), .second, .val (.long y2), .second, .val (.long u0), .second, .val (.long u1), .second, .unset, .unset, .unset, .unset, .unset] [(.int (i0 &&& (32 : Int32)))]))
            have key271 : ∀ (TJ271 : State) (lJ271 : List Loc), Stand p l e room_1 s m #[(.int i0), (.int i1), (.long i2), (.long i3), (.long i4), (.long i5)] below meth c TJ271 lJ271 0 0 → Fr n0 lJ271 → TJ271.heap = h0 → ∀ u2 : Int64, ¬ u2 < 0 → own_Go p e below (own_K s (own_Q_rmL Z  n0) room_1.cells room_1.slots) (TJ271.setTop (mkF m 177 #[.val (.int i0), .val (.int i1), .val (.long i2), .second, .val (.long i3), .second, .val (.long i4), .second, .val (.long i5), .second, .val (.int v0), .val (.int v1), .val (.int v2), .val (.long c0), .second, .val (.long c1), .second, .val (.long c2), .second, .val (.long y0), .second, .val (.long y1), .second, .val (.long y2), .second, .val (.long u0), .second, .val (.long u1), .second, .unset, .unset, .unset, .unset, .unset] [(.long u2)])) := by
              intro TJ271 lJ271 XJ271 NJ271 eJ271 u2 nu2
              refine own_by (fun _ kont => XT.lstore XJ271.here hx rfl (hb hby at_177) rfl (l' := #[.val (.int i0), .val (.int i1), .val (.long i2), .second, .val (.long i3), .second, .val (.long i4), .second, .val (.long i5), .second, .val (.int v0), .val (.int v1), .val (.int v2), .val (.long c0), .second, .val (.long c1), .second, .val (.long c2), .second, .val (.long y0), .second, .val (.long y1), .second, .val (.long y2), .second, .val (.long u0), .second, .val (.long u1), .second, .val (.long u2), .second, .unset, .unset, .unset]) rfl kont) ?_
              show own_Go p e below _ (TJ271.setTop (mkF m 179 #[.val (.int i0), .val (.int i1), .val (.long i2), .second, .val (.long i3), .second, .val (.long i4), .second, .val (.long i5), .second, .val (.int v0), .val (.int v1), .val (.int v2), .val (.long c0), .second, .val (.long c1), .second, .val (.long c2), .second, .val (.long y0), .second, .val (.long y1), .second, .val (.long y2), .second, .val (.long u0), .second, .val (.long u1), .second, .val (.long u2), .second, .unset, .unset, .unset] []))
              refine own_by (fun _ kont => XS.iload XJ271.here hx rfl (hb hby at_179) rfl kont) ?_
              show own_Go p e below _ (TJ271.setTop (mkF m 181 #[.val (.int i0), .val (.int i1), .val (.long i2), .second, .val (.long i3), .second, .val (.long i4), .second, .val (.long i5), .second, .val (.int v0), .val (.int v1), .val (.int v2), .val (.long c0), .second, .val (.long c1), .second, .val (.long c2), .second, .val (.long y0), .second, .val (.long y1), .second, .val (.long y2), .second, .val (.long u0), .second, .val (.long u1), .second, .val (.long u2), .second, .unset, .unset, .unset] [(.int v0)]))
              refine own_by (fun _ kont => XS.iload XJ271.here hx rfl (hb hby at_181) rfl kont) ?_
              show own_Go p e below _ (TJ271.setTop (mkF m 183 #[.val (.int i0), .val (.int i1), .val (.long i2), .second, .val (.long i3), .second, .val (.long i4), .second, .val (.long i5), .second, .val (.int v0), .val (.int v1), .val (.int v2), .val (.long c0), .second, .val (.long c1), .second, .val (.long c2), .second, .val (.long y0), .second, .val (.long y1), .second, .val (.long y2), .second, .val (.long u0), .second, .val (.long u1), .second, .val (.long u2), .second, .unset, .unset, .unset] [(.int v1), (.int v0)]))
              refine own_by (fun _ kont => XS.iload XJ271.here hx rfl (hb hby at_183) rfl kont) ?_
              show own_Go p e below _ (TJ271.setTop (mkF m 185 #[.val (.int i0), .val (.int i1), .val (.long i2), .second, .val (.long i3), .second, .val (.long i4), .second, .val (.long i5), .second, .val (.int v0), .val (.int v1), .val (.int v2), .val (.long c0), .second, .val (.long c1), .second, .val (.long c2), .second, .val (.long y0), .second, .val (.long y1), .second, .val (.long y2), .second, .val (.long u0), .second, .val (.long u1), .second, .val (.long u2), .second, .unset, .unset, .unset] [(.int v2), (.int v1), (.int v0)]))
              refine own_by (fun _ kont => XT.lload XJ271.here hx rfl (hb hby at_185) rfl kont) ?_
              show own_Go p e below _ (TJ271.setTop (mkF m 187 #[.val (.int i0), .val (.int i1), .val (.long i2), .second, .val (.long i3), .second, .val (.long i4), .second, .val (.long i5), .second, .val (.int v0), .val (.int v1), .val (.int v2), .val (.long c0), .second, .val (.long c1), .second, .val (.long c2), .second, .val (.long y0), .second, .val (.long y1), .second, .val (.long y2), .second, .val (.long u0), .second, .val (.long u1), .second, .val (.long u2), .second, .unset, .unset, .unset] [(.long y0), (.int v2), (.int v1), (.int v0)]))
              refine own_by (fun _ kont => XT.lload XJ271.here hx rfl (hb hby at_187) rfl kont) ?_
              show own_Go p e below _ (TJ271.setTop (mkF m 189 #[.val (.int i0), .val (.int i1), .val (.long i2), .second, .val (.long i3), .second, .val (.long i4), .second, .val (.long i5), .second, .val (.int v0), .val (.int v1), .val (.int v2), .val (.long c0), .second, .val (.long c1), .second, .val (.long c2), .second, .val (.long y0), .second, .val (.long y1), .second, .val (.long y2), .second, .val (.long u0), .second, .val (.long u1), .second, .val (.long u2), .second, .unset, .unset, .unset] [(.long y1), (.long y0), (.int v2), (.int v1), (.int v0)]))
              refine own_by (fun _ kont => XT.lload XJ271.here hx rfl (hb hby at_189) rfl kont) ?_
              show own_Go p e below _ (TJ271.setTop (mkF m 191 #[.val (.int i0), .val (.int i1), .val (.long i2), .second, .val (.long i3), .second, .val (.long i4), .second, .val (.long i5), .second, .val (.int v0), .val (.int v1), .val (.int v2), .val (.long c0), .second, .val (.long c1), .second, .val (.long c2), .second, .val (.long y0), .second, .val (.long y1), .second, .val (.long y2), .second, .val (.long u0), .second, .val (.long u1), .second, .val (.long u2), .second, .unset, .unset, .unset] [(.long y2), (.long y1), (.long y0), (.int v2), (.int v1), (.int v0)]))
              obtain ⟨_, _, ⟨T272, L272, k272, n272⟩, -, X272, ⟨Lc272, hQ272, l272, y272, z272⟩, st272⟩ := Jvm.LawKit.callS XJ271 hx (y := (⟨"com/example/conjecta/conjecta/model/ValuesAtMostPinLaw", "build", "(IIIJJJ)Lcom/example/conjecta/conjecta/model/Values;"⟩ : MethodName)) hown (mvT hZ (hw _ (List.mem_of_getElem? (i := 2) rfl))) (mvT hZ (hw _ (List.mem_of_getElem? (i := 3) rfl))) (mvT hZ (hw _ (List.mem_of_getElem? (i := 4) rfl))) (mvT hZ (hw _ (List.mem_of_getElem? (i := 5) rfl))) (by decide) (backOf (W := 0) (rmB l Z a0 hw [] v0 v1 v2 y0 y1 y2 h0 n0 Z0) hZ (hw _ (List.mem_of_getElem? (i := 5) rfl)) (hw _ (List.mem_of_getElem? (i := 4) rfl)) (by decide) (by decide)) (g := (mkF m 191 #[.val (.int i0), .val (.int i1), .val (.long i2), .second, .val (.long i3), .second, .val (.long i4), .second, .val (.long i5), .second, .val (.int v0), .val (.int v1), .val (.int v2), .val (.long c0), .second, .val (.long c1), .second, .val (.long c2), .second, .val (.long y0), .second, .val (.long y1), .second, .val (.long y2), .second, .val (.long u0), .second, .val (.long u1), .second, .val (.long u2), .second, .unset, .unset, .unset] [(.long y2), (.long y1), (.long y0), (.int v2), (.int v1), (.int v0)])) rfl (by rw [hml]; rfl) (argsL := [(.int v0), (.int v1), (.int v2), (.long y0), (.long y1), (.long y2)]) (rest := []) (lenOf own_pd1 rfl) rfl (by show 2 * 0 + _ ≤ _; exact Nat.le_of_eq rfl) (hb hby at_191) (fun _ _ => ⟨rfl, eJ271, (by decide : 0 + 3 ≤ _), (by decide : 0 + 8 ≤ _)⟩)
              dsimp only [Pt.U, Pt.locs, Pt.cells, Pt.slots] at X272 l272 y272 z272 st272 hQ272
              subst l272 y272 z272
              refine own_by st272 ?_
              obtain ⟨w272, rfl, N272, K272, V272⟩ := hQ272
              obtain ⟨L272, X272, M272⟩ := own_hide X272 (Fr.app NJ271 N272)
              have Z272 : n0 ≤ T272.heap.size := Nat.le_trans Z0 K272.1
              show own_Go p e below _ (T272.setTop (mkF m 194 #[.val (.int i0), .val (.int i1), .val (.long i2), .second, .val (.long i3), .second, .val (.long i4), .second, .val (.long i5), .second, .val (.int v0), .val (.int v1), .val (.int v2), .val (.long c0), .second, .val (.long c1), .second, .val (.long c2), .second, .val (.long y0), .second, .val (.long y1), .second, .val (.long y2), .second, .val (.long u0), .second, .val (.long u1), .second, .val (.long u2), .second, .unset, .unset, .unset] [(.ref w272)]))
              refine own_by (fun _ kont => XS.astore X272.here hx rfl (hb hby at_194) rfl rfl (l' := #[.val (.int i0), .val (.int i1), .val (.long i2), .second, .val (.long i3), .second, .val (.long i4), .second, .val (.long i5), .second, .val (.int v0), .val (.int v1), .val (.int v2), .val (.long c0), .second, .val (.long c1), .second, .val (.long c2), .second, .val (.long y0), .second, .val (.long y1), .second, .val (.long y2), .second, .val (.long u0), .second, .val (.long u1), .second, .val (.long u2), .second, .val (.ref w272), .unset, .unset]) rfl kont) ?_
              show own_Go p e below _ (T272.setTop (mkF m 196 #[.val (.int i0), .val (.int i1), .val (.long i2), .second, .val (.long i3), .second, .val (.long i4), .second, .val (.long i5), .second, .val (.int v0), .val (.int v1), .val (.int v2), .val (.long c0), .second, .val (.long c1), .second, .val (.long c2), .second, .val (.long y0), .second, .val (.long y1), .second, .val (.long y2), .second, .val (.long u0), .second, .val (.long u1), .second, .val (.long u2), .second, .val (.ref w272), .unset, .unset] []))
              refine own_by (fun _ kont => XS.iload X272.here hx rfl (hb hby at_196) rfl kont) ?_
              show own_Go p e below _ (T272.setTop (mkF m 198 #[.val (.int i0), .val (.int i1), .val (.long i2), .second, .val (.long i3), .second, .val (.long i4), .second, .val (.long i5), .second, .val (.int v0), .val (.int v1), .val (.int v2), .val (.long c0), .second, .val (.long c1), .second, .val (.long c2), .second, .val (.long y0), .second, .val (.long y1), .second, .val (.long y2), .second, .val (.long u0), .second, .val (.long u1), .second, .val (.long u2), .second, .val (.ref w272), .unset, .unset] [(.int v0)]))
              refine own_by (fun _ kont => XS.iload X272.here hx rfl (hb hby at_198) rfl kont) ?_
              show own_Go p e below _ (T272.setTop (mkF m 200 #[.val (.int i0), .val (.int i1), .val (.long i2), .second, .val (.long i3), .second, .val (.long i4), .second, .val (.long i5), .second, .val (.int v0), .val (.int v1), .val (.int v2), .val (.long c0), .second, .val (.long c1), .second, .val (.long c2), .second, .val (.long y0), .second, .val (.long y1), .second, .val (.long y2), .second, .val (.long u0), .second, .val (.long u1), .second, .val (.long u2), .second, .val (.ref w272), .unset, .unset] [(.int v1), (.int v0)]))
              refine own_by (fun _ kont => XS.iload X272.here hx rfl (hb hby at_200) rfl kont) ?_
              show own_Go p e below _ (T272.setTop (mkF m 202 #[.val (.int i0), .val (.int i1), .val (.long i2), .second, .val (.long i3), .second, .val (.long i4), .second, .val (.long i5), .second, .val (.int v0), .val (.int v1), .val (.int v2), .val (.long c0), .second, .val (.long c1), .second, .val (.long c2), .second, .val (.long y0), .second, .val (.long y1), .second, .val (.long y2), .second, .val (.long u0), .second, .val (.long u1), .second, .val (.long u2), .second, .val (.ref w272), .unset, .unset] [(.int v2), (.int v1), (.int v0)]))
              refine own_by (fun _ kont => XT.lload X272.here hx rfl (hb hby at_202) rfl kont) ?_
              show own_Go p e below _ (T272.setTop (mkF m 204 #[.val (.int i0), .val (.int i1), .val (.long i2), .second, .val (.long i3), .second, .val (.long i4), .second, .val (.long i5), .second, .val (.int v0), .val (.int v1), .val (.int v2), .val (.long c0), .second, .val (.long c1), .second, .val (.long c2), .second, .val (.long y0), .second, .val (.long y1), .second, .val (.long y2), .second, .val (.long u0), .second, .val (.long u1), .second, .val (.long u2), .second, .val (.ref w272), .unset, .unset] [(.long u0), (.int v2), (.int v1), (.int v0)]))
              refine own_by (fun _ kont => XT.lload X272.here hx rfl (hb hby at_204) rfl kont) ?_
              show own_Go p e below _ (T272.setTop (mkF m 206 #[.val (.int i0), .val (.int i1), .val (.long i2), .second, .val (.long i3), .second, .val (.long i4), .second, .val (.long i5), .second, .val (.int v0), .val (.int v1), .val (.int v2), .val (.long c0), .second, .val (.long c1), .second, .val (.long c2), .second, .val (.long y0), .second, .val (.long y1), .second, .val (.long y2), .second, .val (.long u0), .second, .val (.long u1), .second, .val (.long u2), .second, .val (.ref w272), .unset, .unset] [(.long u1), (.long u0), (.int v2), (.int v1), (.int v0)]))
              refine own_by (fun _ kont => XT.lload X272.here hx rfl (hb hby at_206) rfl kont) ?_
              show own_Go p e below _ (T272.setTop (mkF m 208 #[.val (.int i0), .val (.int i1), .val (.long i2), .second, .val (.long i3), .second, .val (.long i4), .second, .val (.long i5), .second, .val (.int v0), .val (.int v1), .val (.int v2), .val (.long c0), .second, .val (.long c1), .second, .val (.long c2), .second, .val (.long y0), .second, .val (.long y1), .second, .val (.long y2), .second, .val (.long u0), .second, .val (.long u1), .second, .val (.long u2), .second, .val (.ref w272), .unset, .unset] [(.long u2), (.long u1), (.long u0), (.int v2), (.int v1), (.int v0)]))
              obtain ⟨_, _, ⟨T273, L273, k273, n273⟩, -, X273, ⟨Lc273, hQ273, l273, y273, z273⟩, st273⟩ := Jvm.LawKit.callS X272 hx (y := (⟨"com/example/conjecta/conjecta/model/ValuesAtMostPinLaw", "build", "(IIIJJJ)Lcom/example/conjecta/conjecta/model/Values;"⟩ : MethodName)) hown (mvT hZ (hw _ (List.mem_of_getElem? (i := 2) rfl))) (mvT hZ (hw _ (List.mem_of_getElem? (i := 3) rfl))) (mvT hZ (hw _ (List.mem_of_getElem? (i := 4) rfl))) (mvT hZ (hw _ (List.mem_of_getElem? (i := 5) rfl))) (by decide) (backOf (W := 0) (rmB l Z a0 hw [] v0 v1 v2 u0 u1 u2 T272.heap n0 Z272) hZ (hw _ (List.mem_of_getElem? (i := 5) rfl)) (hw _ (List.mem_of_getElem? (i := 4) rfl)) (by decide) (by decide)) (g := (mkF m 208 #[.val (.int i0), .val (.int i1), .val (.long i2), .second, .val (.long i3), .second, .val (.long i4), .second, .val (.long i5), .second, .val (.int v0), .val (.int v1), .val (.int v2), .val (.long c0), .second, .val (.long c1), .second, .val (.long c2), .second, .val (.long y0), .second, .val (.long y1), .second, .val (.long y2), .second, .val (.long u0), .second, .val (.long u1), .second, .val (.long u2), .second, .val (.ref w272), .unset, .unset] [(.long u2), (.long u1), (.long u0), (.int v2), (.int v1), (.int v0)])) rfl (by rw [hml]; rfl) (argsL := [(.int v0), (.int v1), (.int v2), (.long u0), (.long u1), (.long u2)]) (rest := []) (lenOf own_pd1 rfl) rfl (by show 2 * 0 + _ ≤ _; exact Nat.le_of_eq rfl) (hb hby at_208) (fun _ _ => ⟨rfl, (rfl : T272.heap = T272.heap), (by decide : 3 + 3 ≤ _), (by decide : 8 + 8 ≤ _)⟩)
              dsimp only [Pt.U, Pt.locs, Pt.cells, Pt.slots] at X273 l273 y273 z273 st273 hQ273
              subst l273 y273 z273
              refine own_by st273 ?_
              obtain ⟨w273, rfl, N273, K273, V273⟩ := hQ273
              obtain ⟨L273, X273, M273⟩ := own_hide X273 (Fr.app M272 N273)
              have Z273 : n0 ≤ T273.heap.size := Nat.le_trans Z272 K273.1
              show own_Go p e below _ (T273.setTop (mkF m 211 #[.val (.int i0), .val (.int i1), .val (.long i2), .second, .val (.long i3), .second, .val (.long i4), .second, .val (.long i5), .second, .val (.int v0), .val (.int v1), .val (.int v2), .val (.long c0), .second, .val (.long c1), .second, .val (.long c2), .second, .val (.long y0), .second, .val (.long y1), .second, .val (.long y2), .second, .val (.long u0), .second, .val (.long u1), .second, .val (.long u2), .second, .val (.ref w272), .unset, .unset] [(.ref w273)]))
              refine own_by (fun _ kont => XS.astore X273.here hx rfl (hb hby at_211) rfl rfl (l' := #[.val (.int i0), .val (.int i1), .val (.long i2), .second, .val (.long i3), .second, .val (.long i4), .second, .val (.long i5), .second, .val (.int v0), .val (.int v1), .val (.int v2), .val (.long c0), .second, .val (.long c1), .second, .val (.long c2), .second, .val (.long y0), .second, .val (.long y1), .second, .val (.long y2), .second, .val (.long u0), .second, .val (.long u1), .second, .val (.long u2), .second, .val (.ref w272), .val (.ref w273), .unset]) rfl kont) ?_
              show own_Go p e below _ (T273.setTop (mkF m 213 #[.val (.int i0), .val (.int i1), .val (.long i2), .second, .val (.long i3), .second, .val (.long i4), .second, .val (.long i5), .second, .val (.int v0), .val (.int v1), .val (.int v2), .val (.long c0), .second, .val (.long c1), .second, .val (.long c2), .second, .val (.long y0), .second, .val (.long y1), .second, .val (.long y2), .second, .val (.long u0), .second, .val (.long u1), .second, .val (.long u2), .second, .val (.ref w272), .val (.ref w273), .unset] []))
              refine own_by (fun _ kont => XT.lload X273.here hx rfl (hb hby at_213) rfl kont) ?_
              show own_Go p e below _ (T273.setTop (mkF m 215 #[.val (.int i0), .val (.int i1), .val (.long i2), .second, .val (.long i3), .second, .val (.long i4), .second, .val (.long i5), .second, .val (.int v0), .val (.int v1), .val (.int v2), .val (.long c0), .second, .val (.long c1), .second, .val (.long c2), .second, .val (.long y0), .second, .val (.long y1), .second, .val (.long y2), .second, .val (.long u0), .second, .val (.long u1), .second, .val (.long u2), .second, .val (.ref w272), .val (.ref w273), .unset] [(.long y0)]))
              refine own_by (fun _ kont => XT.lload X273.here hx rfl (hb hby at_215) rfl kont) ?_
              show own_Go p e below _ (T273.setTop (mkF m 217 #[.val (.int i0), .val (.int i1), .val (.long i2), .second, .val (.long i3), .second, .val (.long i4), .second, .val (.long i5), .second, .val (.int v0), .val (.int v1), .val (.int v2), .val (.long c0), .second, .val (.long c1), .second, .val (.long c2), .second, .val (.long y0), .second, .val (.long y1), .second, .val (.long y2), .second, .val (.long u0), .second, .val (.long u1), .second, .val (.long u2), .second, .val (.ref w272), .val (.ref w273), .unset] [(.long u0), (.long y0)]))
              refine own_by (fun _ kont => XT.lcmp X273.here hx rfl (hb hby at_217) rfl kont) ?_
              show own_Go p e below _ (T273.setTop (mkF m 218 #[.val (.int i0), .val (.int i1), .val (.long i2), .second, .val (.long i3), .second, .val (.long i4), .second, .val (.long i5), .second, .val (.int v0), .val (.int v1), .val (.int v2), .val (.long c0), .second, .val (.long c1), .second, .val (.long c2), .second, .val (.long y0), .second, .val (.long y1), .second, .val (.long y2), .second, .val (.long u0), .second, .val (.long u1), .second, .val (.long u2), .second, .val (.ref w272), .val (.ref w273), .unset] [(.int (XT.cmpL y0 u0))]))
              have VA := own_V_keep V272 K273
              have EA : Exa Z T273.heap w272 "com/example/conjecta/conjecta/model/Values" := by obtain ⟨_, _, q, -⟩ := VA; exact q
              by_cases t0 : u0 < y0
              · have hno : ¬ (¬ u0 < y0 ∧ ¬ u1 < y1 ∧ ¬ u2 < y2) := fun z => z.1 t0
                refine own_by (fun _ kont => XS.ifYes X273.here hx rfl (pc0 := 218) (pc' := 241) rfl (hb hby at_218) rfl (XT.ll_gt_t t0) (by decide) (by decide) kont) ?_
                show own_Go p e below _ (T273.setTop (mkF m 241 #[.val (.int i0), .val (.int i1), .val (.long i2), .second, .val (.long i3), .second, .val (.long i4), .second, .val (.long i5), .second, .val (.int v0), .val (.int v1), .val (.int v2), .val (.long c0), .second, .val (.long c1), .second, .val (.long c2), .second, .val (.long y0), .second, .val (.long y1), .second, .val (.long y2), .second, .val (.long u0), .second, .val (.long u1), .second, .val (.long u2), .second, .val (.ref w272), .val (.ref w273), .unset] []))
                refine own_by (fun _ kont => XT.iconstV X273.here hx rfl (0 : Int32) (hb hby at_241) rfl kont) ?_
                show own_Go p e below _ (T273.setTop (mkF m 242 #[.val (.int i0), .val (.int i1), .val (.long i2), .second, .val (.long i3), .second, .val (.long i4), .second, .val (.long i5), .second, .val (.int v0), .val (.int v1), .val (.int v2), .val (.long c0), .second, .val (.long c1), .second, .val (.long c2), .second, .val (.long y0), .second, .val (.long y1), .second, .val (.long y2), .second, .val (.long u0), .second, .val (.long u1), .second, .val (.long u2), .second, .val (.ref w272), .val (.ref w273), .unset] [(.int (0 : Int32))]))
                refine own_by (fun _ kont => XS.istore X273.here hx rfl (hb hby at_242) rfl (l' := #[.val (.int i0), .val (.int i1), .val (.long i2), .second, .val (.long i3), .second, .val (.long i4), .second, .val (.long i5), .second, .val (.int v0), .val (.int v1), .val (.int v2), .val (.long c0), .second, .val (.long c1), .second, .val (.long c2), .second, .val (.long y0), .second, .val (.long y1), .second, .val (.long y2), .second, .val (.long u0), .second, .val (.long u1), .second, .val (.long u2), .second, .val (.ref w272), .val (.ref w273), .val (.int (0 : Int32))]) rfl kont) ?_
                show own_Go p e below _ (T273.setTop (mkF m 244 #[.val (.int i0), .val (.int i1), .val (.long i2), .second, .val (.long i3), .second, .val (.long i4), .second, .val (.long i5), .second, .val (.int v0), .val (.int v1), .val (.int v2), .val (.long c0), .second, .val (.long c1), .second, .val (.long c2), .second, .val (.long y0), .second, .val (.long y1), .second, .val (.long y2), .second, .val (.long u0), .second, .val (.long u1), .second, .val (.long u2), .second, .val (.ref w272), .val (.ref w273), .val (.int (0 : Int32))] []))
                refine own_by (fun _ kont => XS.aload X273.here hx rfl (hb hby at_244) rfl rfl kont) ?_
                show own_Go p e below _ (T273.setTop (mkF m 246 #[.val (.int i0), .val (.int i1), .val (.long i2), .second, .val (.long i3), .second, .val (.long i4), .second, .val (.long i5), .second, .val (.int v0), .val (.int v1), .val (.int v2), .val (.long c0), .second, .val (.long c1), .second, .val (.long c2), .second, .val (.long y0), .second, .val (.long y1), .second, .val (.long y2), .second, .val (.long u0), .second, .val (.long u1), .second, .val (.long u2), .second, .val (.ref w272), .val (.ref w273), .val (.int (0 : Int32))] [(.ref w272)]))
                refine own_by (fun _ kont => XS.aload X273.here hx rfl (hb hby at_246) rfl rfl kont) ?_
                show own_Go p e below _ (T273.setTop (mkF m 248 #[.val (.int i0), .val (.int i1), .val (.long i2), .second, .val (.long i3), .second, .val (.long i4), .second, .val (.long i5), .second, .val (.int v0), .val (.int v1), .val (.int v2), .val (.long c0), .second, .val (.long c1), .second, .val (.long c2), .second, .val (.long y0), .second, .val (.long y1), .second, .val (.long y2), .second, .val (.long u0), .second, .val (.long u1), .second, .val (.long u2), .second, .val (.ref w272), .val (.ref w273), .val (.int (0 : Int32))] [(.ref w273), (.ref w272)]))
                obtain ⟨cq275, kq275, qa275, qb275, qc275⟩ := isOf hZ (rfl : T273.heap = T273.heap) EA
                obtain ⟨_, _, ⟨T274, L274, k274, n274⟩, -, X274, ⟨Lc274, hQ274, l274, y274, z274⟩, st274⟩ := X273.virtualBack hx (y := (⟨"com/example/conjecta/conjecta/model/Values", "atMost", "(Lcom/example/conjecta/conjecta/model/Values;)Z"⟩ : MethodName)) (z := (⟨"com/example/conjecta/conjecta/model/Values", "atMost", "(Lcom/example/conjecta/conjecta/model/Values;)Z"⟩ : MethodName)) hown (mvT hZ (hw _ (List.mem_of_getElem? (i := 21) rfl))) (mvT hZ (hw _ (List.mem_of_getElem? (i := 22) rfl))) (notFace_of_selects (args := #[]) (mvT hZ (hw _ (List.mem_of_getElem? (i := 24) rfl)))) (mvT hZ (hw _ (List.mem_of_getElem? (i := 24) rfl))) (mvT hZ (hw _ (List.mem_of_getElem? (i := 23) rfl))) (by decide) (backOf (W := 0) (rmM l Z a0 hw [] w272 w273 (own_lst v0 v1 v2 y0 y1 y2) (own_lst v0 v1 v2 u0 u1 u2) T273.heap n0 (own_len _ _ _ _ _ _) (own_len _ _ _ _ _ _) VA V273) hZ (hw _ (List.mem_of_getElem? (i := 25) rfl)) (hw _ (List.mem_of_getElem? (i := 10) rfl)) (by decide) (by decide)) qa275 qc275 (g := (mkF m 248 #[.val (.int i0), .val (.int i1), .val (.long i2), .second, .val (.long i3), .second, .val (.long i4), .second, .val (.long i5), .second, .val (.int v0), .val (.int v1), .val (.int v2), .val (.long c0), .second, .val (.long c1), .second, .val (.long c2), .second, .val (.long y0), .second, .val (.long y1), .second, .val (.long y2), .second, .val (.long u0), .second, .val (.long u1), .second, .val (.long u2), .second, .val (.ref w272), .val (.ref w273), .val (.int (0 : Int32))] [(.ref w273), (.ref w272)])) rfl (by rw [hml]; rfl) (Steps.refl _) (argsL := [(.ref w273)]) (rest := []) (lenOf own_pd4 rfl) rfl (by show 2 * 0 + _ ≤ _; exact Nat.le_of_eq rfl) (hb hby at_248) (fun _ _ => ⟨rfl, (rfl : T273.heap = T273.heap), (by decide : 6 + 0 ≤ _), (by decide : 16 + 0 ≤ _)⟩)
                dsimp only [Pt.U, Pt.locs, Pt.cells, Pt.slots] at X274 l274 y274 z274 st274 hQ274
                subst l274 y274 z274
                refine own_tr st274 ?_
                obtain ⟨rfl, N274, e274⟩ := hQ274
                obtain ⟨L274, X274, M274⟩ := own_hide X274 (Fr.app M273 N274)
                rw [own_plain h01 h12 ny0 ny1 ny2 nu0 nu1 nu2]
                rw [if_neg (fun z => hno (of_decide_eq_true z))]
                show own_Go p e below _ (T274.setTop (mkF m 251 #[.val (.int i0), .val (.int i1), .val (.long i2), .second, .val (.long i3), .second, .val (.long i4), .second, .val (.long i5), .second, .val (.int v0), .val (.int v1), .val (.int v2), .val (.long c0), .second, .val (.long c1), .second, .val (.long c2), .second, .val (.long y0), .second, .val (.long y1), .second, .val (.long y2), .second, .val (.long u0), .second, .val (.long u1), .second, .val (.long u2), .second, .val (.ref w272), .val (.ref w273), .val (.int (0 : Int32))] [(.int (0 : Int32))]))
                refine own_by (fun _ kont => XS.iload X274.here hx rfl (hb hby at_251) rfl kont) ?_
                show own_Go p e below _ (T274.setTop (mkF m 253 #[.val (.int i0), .val (.int i1), .val (.long i2), .second, .val (.long i3), .second, .val (.long i4), .second, .val (.long i5), .second, .val (.int v0), .val (.int v1), .val (.int v2), .val (.long c0), .second, .val (.long c1), .second, .val (.long c2), .second, .val (.long y0), .second, .val (.long y1), .second, .val (.long y2), .second, .val (.long u0), .second, .val (.long u1), .second, .val (.long u2), .second, .val (.ref w272), .val (.ref w273), .val (.int (0 : Int32))] [(.int (0 : Int32)), (.int (0 : Int32))]))
                refine own_by (fun _ kont => XS.icmpNo X274.here hx rfl (hb hby at_253) rfl (XT.ii_ne_f (by decide)) kont) ?_
                show own_Go p e below _ (T274.setTop (mkF m 256 #[.val (.int i0), .val (.int i1), .val (.long i2), .second, .val (.long i3), .second, .val (.long i4), .second, .val (.long i5), .second, .val (.int v0), .val (.int v1), .val (.int v2), .val (.long c0), .second, .val (.long c1), .second, .val (.long c2), .second, .val (.long y0), .second, .val (.long y1), .second, .val (.long y2), .second, .val (.long u0), .second, .val (.long u1), .second, .val (.long u2), .second, .val (.ref w272), .val (.ref w273), .val (.int (0 : Int32))] []))
                refine own_by (fun _ kont => XT.iconstV X274.here hx rfl (1 : Int32) (hb hby at_256) rfl kont) ?_
                show own_Go p e below _ (T274.setTop (mkF m 257 #[.val (.int i0), .val (.int i1), .val (.long i2), .second, .val (.long i3), .second, .val (.long i4), .second, .val (.long i5), .second, .val (.int v0), .val (.int v1), .val (.int v2), .val (.long c0), .second, .val (.long c1), .second, .val (.long c2), .second, .val (.long y0), .second, .val (.long y1), .second, .val (.long y2), .second, .val (.long u0), .second, .val (.long u1), .second, .val (.long u2), .second, .val (.ref w272), .val (.ref w273), .val (.int (0 : Int32))] [(.int (1 : Int32))]))
                refine own_by (fun _ kont => XS.goto X274.here hx rfl (pc0 := 257) (pc' := 261) rfl (hb hby at_257) (by decide) (by decide) kont) ?_
                show own_Go p e below _ (T274.setTop (mkF m 261 #[.val (.int i0), .val (.int i1), .val (.long i2), .second, .val (.long i3), .second, .val (.long i4), .second, .val (.long i5), .second, .val (.int v0), .val (.int v1), .val (.int v2), .val (.long c0), .second, .val (.long c1), .second, .val (.long c2), .second, .val (.long y0), .second, .val (.long y1), .second, .val (.long y2), .second, .val (.long u0), .second, .val (.long u1), .second, .val (.long u2), .second, .val (.ref w272), .val (.ref w273), .val (.int (0 : Int32))] [(.int (1 : Int32))]))
                exact own_ret X274 hx hlk hret rfl (Or.inl ⟨rfl, by simp, _, rfl⟩) (hb hby at_261) ⟨rfl, M274⟩ (by decide) (by decide)
              refine own_by (fun _ kont => XS.ifNo X273.here hx rfl (hb hby at_218) rfl (XT.ll_gt_f t0) kont) ?_
              show own_Go p e below _ (T273.setTop (mkF m 221 #[.val (.int i0), .val (.int i1), .val (.long i2), .second, .val (.long i3), .second, .val (.long i4), .second, .val (.long i5), .second, .val (.int v0), .val (.int v1), .val (.int v2), .val (.long c0), .second, .val (.long c1), .second, .val (.long c2), .second, .val (.long y0), .second, .val (.long y1), .second, .val (.long y2), .second, .val (.long u0), .second, .val (.long u1), .second, .val (.long u2), .second, .val (.ref w272), .val (.ref w273), .unset] []))
              refine own_by (fun _ kont => XT.lload X273.here hx rfl (hb hby at_221) rfl kont) ?_
              show own_Go p e below _ (T273.setTop (mkF m 223 #[.val (.int i0), .val (.int i1), .val (.long i2), .second, .val (.long i3), .second, .val (.long i4), .second, .val (.long i5), .second, .val (.int v0), .val (.int v1), .val (.int v2), .val (.long c0), .second, .val (.long c1), .second, .val (.long c2), .second, .val (.long y0), .second, .val (.long y1), .second, .val (.long y2), .second, .val (.long u0), .second, .val (.long u1), .second, .val (.long u2), .second, .val (.ref w272), .val (.ref w273), .unset] [(.long y1)]))
              refine own_by (fun _ kont => XT.lload X273.here hx rfl (hb hby at_223) rfl kont) ?_
              show own_Go p e below _ (T273.setTop (mkF m 225 #[.val (.int i0), .val (.int i1), .val (.long i2), .second, .val (.long i3), .second, .val (.long i4), .second, .val (.long i5), .second, .val (.int v0), .val (.int v1), .val (.int v2), .val (.long c0), .second, .val (.long c1), .second, .val (.long c2), .second, .val (.long y0), .second, .val (.long y1), .second, .val (.long y2), .second, .val (.long u0), .second, .val (.long u1), .second, .val (.long u2), .second, .val (.ref w272), .val (.ref w273), .unset] [(.long u1), (.long y1)]))
              refine own_by (fun _ kont => XT.lcmp X273.here hx rfl (hb hby at_225) rfl kont) ?_
              show own_Go p e below _ (T273.setTop (mkF m 226 #[.val (.int i0), .val (.int i1), .val (.long i2), .second, .val (.long i3), .second, .val (.long i4), .second, .val (.long i5), .second, .val (.int v0), .val (.int v1), .val (.int v2), .val (.long c0), .second, .val (.long c1), .second, .val (.long c2), .second, .val (.long y0), .second, .val (.long y1), .second, .val (.long y2), .second, .val (.long u0), .second, .val (.long u1), .second, .val (.long u2), .second, .val (.ref w272), .val (.ref w273), .unset] [(.int (XT.cmpL y1 u1))]))
              by_cases t1 : u1 < y1
              · have hno : ¬ (¬ u0 < y0 ∧ ¬ u1 < y1 ∧ ¬ u2 < y2) := fun z => z.2.1 t1
                refine own_by (fun _ kont => XS.ifYes X273.here hx rfl (pc0 := 226) (pc' := 241) rfl (hb hby at_226) rfl (XT.ll_gt_t t1) (by decide) (by decide) kont) ?_
                show own_Go p e below _ (T273.setTop (mkF m 241 #[.val (.int i0), .val (.int i1), .val (.long i2), .second, .val (.long i3), .second, .val (.long i4), .second, .val (.long i5), .second, .val (.int v0), .val (.int v1), .val (.int v2), .val (.long c0), .second, .val (.long c1), .second, .val (.long c2), .second, .val (.long y0), .second, .val (.long y1), .second, .val (.long y2), .second, .val (.long u0), .second, .val (.long u1), .second, .val (.long u2), .second, .val (.ref w272), .val (.ref w273), .unset] []))
                refine own_by (fun _ kont => XT.iconstV X273.here hx rfl (0 : Int32) (hb hby at_241) rfl kont) ?_
                show own_Go p e below _ (T273.setTop (mkF m 242 #[.val (.int i0), .val (.int i1), .val (.long i2), .second, .val (.long i3), .second, .val (.long i4), .second, .val (.long i5), .second, .val (.int v0), .val (.int v1), .val (.int v2), .val (.long c0), .second, .val (.long c1), .second, .val (.long c2), .second, .val (.long y0), .second, .val (.long y1), .second, .val (.long y2), .second, .val (.long u0), .second, .val (.long u1), .second, .val (.long u2), .second, .val (.ref w272), .val (.ref w273), .unset] [(.int (0 : Int32))]))
                refine own_by (fun _ kont => XS.istore X273.here hx rfl (hb hby at_242) rfl (l' := #[.val (.int i0), .val (.int i1), .val (.long i2), .second, .val (.long i3), .second, .val (.long i4), .second, .val (.long i5), .second, .val (.int v0), .val (.int v1), .val (.int v2), .val (.long c0), .second, .val (.long c1), .second, .val (.long c2), .second, .val (.long y0), .second, .val (.long y1), .second, .val (.long y2), .second, .val (.long u0), .second, .val (.long u1), .second, .val (.long u2), .second, .val (.ref w272), .val (.ref w273), .val (.int (0 : Int32))]) rfl kont) ?_
                show own_Go p e below _ (T273.setTop (mkF m 244 #[.val (.int i0), .val (.int i1), .val (.long i2), .second, .val (.long i3), .second, .val (.long i4), .second, .val (.long i5), .second, .val (.int v0), .val (.int v1), .val (.int v2), .val (.long c0), .second, .val (.long c1), .second, .val (.long c2), .second, .val (.long y0), .second, .val (.long y1), .second, .val (.long y2), .second, .val (.long u0), .second, .val (.long u1), .second, .val (.long u2), .second, .val (.ref w272), .val (.ref w273), .val (.int (0 : Int32))] []))
                refine own_by (fun _ kont => XS.aload X273.here hx rfl (hb hby at_244) rfl rfl kont) ?_
                show own_Go p e below _ (T273.setTop (mkF m 246 #[.val (.int i0), .val (.int i1), .val (.long i2), .second, .val (.long i3), .second, .val (.long i4), .second, .val (.long i5), .second, .val (.int v0), .val (.int v1), .val (.int v2), .val (.long c0), .second, .val (.long c1), .second, .val (.long c2), .second, .val (.long y0), .second, .val (.long y1), .second, .val (.long y2), .second, .val (.long u0), .second, .val (.long u1), .second, .val (.long u2), .second, .val (.ref w272), .val (.ref w273), .val (.int (0 : Int32))] [(.ref w272)]))
                refine own_by (fun _ kont => XS.aload X273.here hx rfl (hb hby at_246) rfl rfl kont) ?_
                show own_Go p e below _ (T273.setTop (mkF m 248 #[.val (.int i0), .val (.int i1), .val (.long i2), .second, .val (.long i3), .second, .val (.long i4), .second, .val (.long i5), .second, .val (.int v0), .val (.int v1), .val (.int v2), .val (.long c0), .second, .val (.long c1), .second, .val (.long c2), .second, .val (.long y0), .second, .val (.long y1), .second, .val (.long y2), .second, .val (.long u0), .second, .val (.long u1), .second, .val (.long u2), .second, .val (.ref w272), .val (.ref w273), .val (.int (0 : Int32))] [(.ref w273), (.ref w272)]))
                obtain ⟨cq277, kq277, qa277, qb277, qc277⟩ := isOf hZ (rfl : T273.heap = T273.heap) EA
                obtain ⟨_, _, ⟨T276, L276, k276, n276⟩, -, X276, ⟨Lc276, hQ276, l276, y276, z276⟩, st276⟩ := X273.virtualBack hx (y := (⟨"com/example/conjecta/conjecta/model/Values", "atMost", "(Lcom/example/conjecta/conjecta/model/Values;)Z"⟩ : MethodName)) (z := (⟨"com/example/conjecta/conjecta/model/Values", "atMost", "(Lcom/example/conjecta/conjecta/model/Values;)Z"⟩ : MethodName)) hown (mvT hZ (hw _ (List.mem_of_getElem? (i := 21) rfl))) (mvT hZ (hw _ (List.mem_of_getElem? (i := 22) rfl))) (notFace_of_selects (args := #[]) (mvT hZ (hw _ (List.mem_of_getElem? (i := 24) rfl)))) (mvT hZ (hw _ (List.mem_of_getElem? (i := 24) rfl))) (mvT hZ (hw _ (List.mem_of_getElem? (i := 23) rfl))) (by decide) (backOf (W := 0) (rmM l Z a0 hw [] w272 w273 (own_lst v0 v1 v2 y0 y1 y2) (own_lst v0 v1 v2 u0 u1 u2) T273.heap n0 (own_len _ _ _ _ _ _) (own_len _ _ _ _ _ _) VA V273) hZ (hw _ (List.mem_of_getElem? (i := 25) rfl)) (hw _ (List.mem_of_getElem? (i := 10) rfl)) (by decide) (by decide)) qa277 qc277 (g := (mkF m 248 #[.val (.int i0), .val (.int i1), .val (.long i2), .second, .val (.long i3), .second, .val (.long i4), .second, .val (.long i5), .second, .val (.int v0), .val (.int v1), .val (.int v2), .val (.long c0), .second, .val (.long c1), .second, .val (.long c2), .second, .val (.long y0), .second, .val (.long y1), .second, .val (.long y2), .second, .val (.long u0), .second, .val (.long u1), .second, .val (.long u2), .second, .val (.ref w272), .val (.ref w273), .val (.int (0 : Int32))] [(.ref w273), (.ref w272)])) rfl (by rw [hml]; rfl) (Steps.refl _) (argsL := [(.ref w273)]) (rest := []) (lenOf own_pd4 rfl) rfl (by show 2 * 0 + _ ≤ _; exact Nat.le_of_eq rfl) (hb hby at_248) (fun _ _ => ⟨rfl, (rfl : T273.heap = T273.heap), (by decide : 6 + 0 ≤ _), (by decide : 16 + 0 ≤ _)⟩)
                dsimp only [Pt.U, Pt.locs, Pt.cells, Pt.slots] at X276 l276 y276 z276 st276 hQ276
                subst l276 y276 z276
                refine own_tr st276 ?_
                obtain ⟨rfl, N276, e276⟩ := hQ276
                obtain ⟨L276, X276, M276⟩ := own_hide X276 (Fr.app M273 N276)
                rw [own_plain h01 h12 ny0 ny1 ny2 nu0 nu1 nu2]
                rw [if_neg (fun z => hno (of_decide_eq_true z))]
                show own_Go p e below _ (T276.setTop (mkF m 251 #[.val (.int i0), .val (.int i1), .val (.long i2), .second, .val (.long i3), .second, .val (.long i4), .second, .val (.long i5), .second, .val (.int v0), .val (.int v1), .val (.int v2), .val (.long c0), .second, .val (.long c1), .second, .val (.long c2), .second, .val (.long y0), .second, .val (.long y1), .second, .val (.long y2), .second, .val (.long u0), .second, .val (.long u1), .second, .val (.long u2), .second, .val (.ref w272), .val (.ref w273), .val (.int (0 : Int32))] [(.int (0 : Int32))]))
                refine own_by (fun _ kont => XS.iload X276.here hx rfl (hb hby at_251) rfl kont) ?_
                show own_Go p e below _ (T276.setTop (mkF m 253 #[.val (.int i0), .val (.int i1), .val (.long i2), .second, .val (.long i3), .second, .val (.long i4), .second, .val (.long i5), .second, .val (.int v0), .val (.int v1), .val (.int v2), .val (.long c0), .second, .val (.long c1), .second, .val (.long c2), .second, .val (.long y0), .second, .val (.long y1), .second, .val (.long y2), .second, .val (.long u0), .second, .val (.long u1), .second, .val (.long u2), .second, .val (.ref w272), .val (.ref w273), .val (.int (0 : Int32))] [(.int (0 : Int32)), (.int (0 : Int32))]))
                refine own_by (fun _ kont => XS.icmpNo X276.here hx rfl (hb hby at_253) rfl (XT.ii_ne_f (by decide)) kont) ?_
                show own_Go p e below _ (T276.setTop (mkF m 256 #[.val (.int i0), .val (.int i1), .val (.long i2), .second, .val (.long i3), .second, .val (.long i4), .second, .val (.long i5), .second, .val (.int v0), .val (.int v1), .val (.int v2), .val (.long c0), .second, .val (.long c1), .second, .val (.long c2), .second, .val (.long y0), .second, .val (.long y1), .second, .val (.long y2), .second, .val (.long u0), .second, .val (.long u1), .second, .val (.long u2), .second, .val (.ref w272), .val (.ref w273), .val (.int (0 : Int32))] []))
                refine own_by (fun _ kont => XT.iconstV X276.here hx rfl (1 : Int32) (hb hby at_256) rfl kont) ?_
                show own_Go p e below _ (T276.setTop (mkF m 257 #[.val (.int i0), .val (.int i1), .val (.long i2), .second, .val (.long i3), .second, .val (.long i4), .second, .val (.long i5), .second, .val (.int v0), .val (.int v1), .val (.int v2), .val (.long c0), .second, .val (.long c1), .second, .val (.long c2), .second, .val (.long y0), .second, .val (.long y1), .second, .val (.long y2), .second, .val (.long u0), .second, .val (.long u1), .second, .val (.long u2), .second, .val (.ref w272), .val (.ref w273), .val (.int (0 : Int32))] [(.int (1 : Int32))]))
                refine own_by (fun _ kont => XS.goto X276.here hx rfl (pc0 := 257) (pc' := 261) rfl (hb hby at_257) (by decide) (by decide) kont) ?_
                show own_Go p e below _ (T276.setTop (mkF m 261 #[.val (.int i0), .val (.int i1), .val (.long i2), .second, .val (.long i3), .second, .val (.long i4), .second, .val (.long i5), .second, .val (.int v0), .val (.int v1), .val (.int v2), .val (.long c0), .second, .val (.long c1), .second, .val (.long c2), .second, .val (.long y0), .second, .val (.long y1), .second, .val (.long y2), .second, .val (.long u0), .second, .val (.long u1), .second, .val (.long u2), .second, .val (.ref w272), .val (.ref w273), .val (.int (0 : Int32))] [(.int (1 : Int32))]))
                exact own_ret X276 hx hlk hret rfl (Or.inl ⟨rfl, by simp, _, rfl⟩) (hb hby at_261) ⟨rfl, M276⟩ (by decide) (by decide)
              refine own_by (fun _ kont => XS.ifNo X273.here hx rfl (hb hby at_226) rfl (XT.ll_gt_f t1) kont) ?_
              show own_Go p e below _ (T273.setTop (mkF m 229 #[.val (.int i0), .val (.int i1), .val (.long i2), .second, .val (.long i3), .second, .val (.long i4), .second, .val (.long i5), .second, .val (.int v0), .val (.int v1), .val (.int v2), .val (.long c0), .second, .val (.long c1), .second, .val (.long c2), .second, .val (.long y0), .second, .val (.long y1), .second, .val (.long y2), .second, .val (.long u0), .second, .val (.long u1), .second, .val (.long u2), .second, .val (.ref w272), .val (.ref w273), .unset] []))
              refine own_by (fun _ kont => XT.lload X273.here hx rfl (hb hby at_229) rfl kont) ?_
              show own_Go p e below _ (T273.setTop (mkF m 231 #[.val (.int i0), .val (.int i1), .val (.long i2), .second, .val (.long i3), .second, .val (.long i4), .second, .val (.long i5), .second, .val (.int v0), .val (.int v1), .val (.int v2), .val (.long c0), .second, .val (.long c1), .second, .val (.long c2), .second, .val (.long y0), .second, .val (.long y1), .second, .val (.long y2), .second, .val (.long u0), .second, .val (.long u1), .second, .val (.long u2), .second, .val (.ref w272), .val (.ref w273), .unset] [(.long y2)]))
              refine own_by (fun _ kont => XT.lload X273.here hx rfl (hb hby at_231) rfl kont) ?_
              show own_Go p e below _ (T273.setTop (mkF m 233 #[.val (.int i0), .val (.int i1), .val (.long i2), .second, .val (.long i3), .second, .val (.long i4), .second, .val (.long i5), .second, .val (.int v0), .val (.int v1), .val (.int v2), .val (.long c0), .second, .val (.long c1), .second, .val (.long c2), .second, .val (.long y0), .second, .val (.long y1), .second, .val (.long y2), .second, .val (.long u0), .second, .val (.long u1), .second, .val (.long u2), .second, .val (.ref w272), .val (.ref w273), .unset] [(.long u2), (.long y2)]))
              refine own_by (fun _ kont => XT.lcmp X273.here hx rfl (hb hby at_233) rfl kont) ?_
              show own_Go p e below _ (T273.setTop (mkF m 234 #[.val (.int i0), .val (.int i1), .val (.long i2), .second, .val (.long i3), .second, .val (.long i4), .second, .val (.long i5), .second, .val (.int v0), .val (.int v1), .val (.int v2), .val (.long c0), .second, .val (.long c1), .second, .val (.long c2), .second, .val (.long y0), .second, .val (.long y1), .second, .val (.long y2), .second, .val (.long u0), .second, .val (.long u1), .second, .val (.long u2), .second, .val (.ref w272), .val (.ref w273), .unset] [(.int (XT.cmpL y2 u2))]))
              by_cases t2 : u2 < y2
              · have hno : ¬ (¬ u0 < y0 ∧ ¬ u1 < y1 ∧ ¬ u2 < y2) := fun z => z.2.2 t2
                refine own_by (fun _ kont => XS.ifYes X273.here hx rfl (pc0 := 234) (pc' := 241) rfl (hb hby at_234) rfl (XT.ll_gt_t t2) (by decide) (by decide) kont) ?_
                show own_Go p e below _ (T273.setTop (mkF m 241 #[.val (.int i0), .val (.int i1), .val (.long i2), .second, .val (.long i3), .second, .val (.long i4), .second, .val (.long i5), .second, .val (.int v0), .val (.int v1), .val (.int v2), .val (.long c0), .second, .val (.long c1), .second, .val (.long c2), .second, .val (.long y0), .second, .val (.long y1), .second, .val (.long y2), .second, .val (.long u0), .second, .val (.long u1), .second, .val (.long u2), .second, .val (.ref w272), .val (.ref w273), .unset] []))
                refine own_by (fun _ kont => XT.iconstV X273.here hx rfl (0 : Int32) (hb hby at_241) rfl kont) ?_
                show own_Go p e below _ (T273.setTop (mkF m 242 #[.val (.int i0), .val (.int i1), .val (.long i2), .second, .val (.long i3), .second, .val (.long i4), .second, .val (.long i5), .second, .val (.int v0), .val (.int v1), .val (.int v2), .val (.long c0), .second, .val (.long c1), .second, .val (.long c2), .second, .val (.long y0), .second, .val (.long y1), .second, .val (.long y2), .second, .val (.long u0), .second, .val (.long u1), .second, .val (.long u2), .second, .val (.ref w272), .val (.ref w273), .unset] [(.int (0 : Int32))]))
                refine own_by (fun _ kont => XS.istore X273.here hx rfl (hb hby at_242) rfl (l' := #[.val (.int i0), .val (.int i1), .val (.long i2), .second, .val (.long i3), .second, .val (.long i4), .second, .val (.long i5), .second, .val (.int v0), .val (.int v1), .val (.int v2), .val (.long c0), .second, .val (.long c1), .second, .val (.long c2), .second, .val (.long y0), .second, .val (.long y1), .second, .val (.long y2), .second, .val (.long u0), .second, .val (.long u1), .second, .val (.long u2), .second, .val (.ref w272), .val (.ref w273), .val (.int (0 : Int32))]) rfl kont) ?_
                show own_Go p e below _ (T273.setTop (mkF m 244 #[.val (.int i0), .val (.int i1), .val (.long i2), .second, .val (.long i3), .second, .val (.long i4), .second, .val (.long i5), .second, .val (.int v0), .val (.int v1), .val (.int v2), .val (.long c0), .second, .val (.long c1), .second, .val (.long c2), .second, .val (.long y0), .second, .val (.long y1), .second, .val (.long y2), .second, .val (.long u0), .second, .val (.long u1), .second, .val (.long u2), .second, .val (.ref w272), .val (.ref w273), .val (.int (0 : Int32))] []))
                refine own_by (fun _ kont => XS.aload X273.here hx rfl (hb hby at_244) rfl rfl kont) ?_
                show own_Go p e below _ (T273.setTop (mkF m 246 #[.val (.int i0), .val (.int i1), .val (.long i2), .second, .val (.long i3), .second, .val (.long i4), .second, .val (.long i5), .second, .val (.int v0), .val (.int v1), .val (.int v2), .val (.long c0), .second, .val (.long c1), .second, .val (.long c2), .second, .val (.long y0), .second, .val (.long y1), .second, .val (.long y2), .second, .val (.long u0), .second, .val (.long u1), .second, .val (.long u2), .second, .val (.ref w272), .val (.ref w273), .val (.int (0 : Int32))] [(.ref w272)]))
                refine own_by (fun _ kont => XS.aload X273.here hx rfl (hb hby at_246) rfl rfl kont) ?_
                show own_Go p e below _ (T273.setTop (mkF m 248 #[.val (.int i0), .val (.int i1), .val (.long i2), .second, .val (.long i3), .second, .val (.long i4), .second, .val (.long i5), .second, .val (.int v0), .val (.int v1), .val (.int v2), .val (.long c0), .second, .val (.long c1), .second, .val (.long c2), .second, .val (.long y0), .second, .val (.long y1), .second, .val (.long y2), .second, .val (.long u0), .second, .val (.long u1), .second, .val (.long u2), .second, .val (.ref w272), .val (.ref w273), .val (.int (0 : Int32))] [(.ref w273), (.ref w272)]))
                obtain ⟨cq279, kq279, qa279, qb279, qc279⟩ := isOf hZ (rfl : T273.heap = T273.heap) EA
                obtain ⟨_, _, ⟨T278, L278, k278, n278⟩, -, X278, ⟨Lc278, hQ278, l278, y278, z278⟩, st278⟩ := X273.virtualBack hx (y := (⟨"com/example/conjecta/conjecta/model/Values", "atMost", "(Lcom/example/conjecta/conjecta/model/Values;)Z"⟩ : MethodName)) (z := (⟨"com/example/conjecta/conjecta/model/Values", "atMost", "(Lcom/example/conjecta/conjecta/model/Values;)Z"⟩ : MethodName)) hown (mvT hZ (hw _ (List.mem_of_getElem? (i := 21) rfl))) (mvT hZ (hw _ (List.mem_of_getElem? (i := 22) rfl))) (notFace_of_selects (args := #[]) (mvT hZ (hw _ (List.mem_of_getElem? (i := 24) rfl)))) (mvT hZ (hw _ (List.mem_of_getElem? (i := 24) rfl))) (mvT hZ (hw _ (List.mem_of_getElem? (i := 23) rfl))) (by decide) (backOf (W := 0) (rmM l Z a0 hw [] w272 w273 (own_lst v0 v1 v2 y0 y1 y2) (own_lst v0 v1 v2 u0 u1 u2) T273.heap n0 (own_len _ _ _ _ _ _) (own_len _ _ _ _ _ _) VA V273) hZ (hw _ (List.mem_of_getElem? (i := 25) rfl)) (hw _ (List.mem_of_getElem? (i := 10) rfl)) (by decide) (by decide)) qa279 qc279 (g := (mkF m 248 #[.val (.int i0), .val (.int i1), .val (.long i2), .second, .val (.long i3), .second, .val (.long i4), .second, .val (.long i5), .second, .val (.int v0), .val (.int v1), .val (.int v2), .val (.long c0), .second, .val (.long c1), .second, .val (.long c2), .second, .val (.long y0), .second, .val (.long y1), .second, .val (.long y2), .second, .val (.long u0), .second, .val (.long u1), .second, .val (.long u2), .second, .val (.ref w272), .val (.ref w273), .val (.int (0 : Int32))] [(.ref w273), (.ref w272)])) rfl (by rw [hml]; rfl) (Steps.refl _) (argsL := [(.ref w273)]) (rest := []) (lenOf own_pd4 rfl) rfl (by show 2 * 0 + _ ≤ _; exact Nat.le_of_eq rfl) (hb hby at_248) (fun _ _ => ⟨rfl, (rfl : T273.heap = T273.heap), (by decide : 6 + 0 ≤ _), (by decide : 16 + 0 ≤ _)⟩)
                dsimp only [Pt.U, Pt.locs, Pt.cells, Pt.slots] at X278 l278 y278 z278 st278 hQ278
                subst l278 y278 z278
                refine own_tr st278 ?_
                obtain ⟨rfl, N278, e278⟩ := hQ278
                obtain ⟨L278, X278, M278⟩ := own_hide X278 (Fr.app M273 N278)
                rw [own_plain h01 h12 ny0 ny1 ny2 nu0 nu1 nu2]
                rw [if_neg (fun z => hno (of_decide_eq_true z))]
                show own_Go p e below _ (T278.setTop (mkF m 251 #[.val (.int i0), .val (.int i1), .val (.long i2), .second, .val (.long i3), .second, .val (.long i4), .second, .val (.long i5), .second, .val (.int v0), .val (.int v1), .val (.int v2), .val (.long c0), .second, .val (.long c1), .second, .val (.long c2), .second, .val (.long y0), .second, .val (.long y1), .second, .val (.long y2), .second, .val (.long u0), .second, .val (.long u1), .second, .val (.long u2), .second, .val (.ref w272), .val (.ref w273), .val (.int (0 : Int32))] [(.int (0 : Int32))]))
                refine own_by (fun _ kont => XS.iload X278.here hx rfl (hb hby at_251) rfl kont) ?_
                show own_Go p e below _ (T278.setTop (mkF m 253 #[.val (.int i0), .val (.int i1), .val (.long i2), .second, .val (.long i3), .second, .val (.long i4), .second, .val (.long i5), .second, .val (.int v0), .val (.int v1), .val (.int v2), .val (.long c0), .second, .val (.long c1), .second, .val (.long c2), .second, .val (.long y0), .second, .val (.long y1), .second, .val (.long y2), .second, .val (.long u0), .second, .val (.long u1), .second, .val (.long u2), .second, .val (.ref w272), .val (.ref w273), .val (.int (0 : Int32))] [(.int (0 : Int32)), (.int (0 : Int32))]))
                refine own_by (fun _ kont => XS.icmpNo X278.here hx rfl (hb hby at_253) rfl (XT.ii_ne_f (by decide)) kont) ?_
                show own_Go p e below _ (T278.setTop (mkF m 256 #[.val (.int i0), .val (.int i1), .val (.long i2), .second, .val (.long i3), .second, .val (.long i4), .second, .val (.long i5), .second, .val (.int v0), .val (.int v1), .val (.int v2), .val (.long c0), .second, .val (.long c1), .second, .val (.long c2), .second, .val (.long y0), .second, .val (.long y1), .second, .val (.long y2), .second, .val (.long u0), .second, .val (.long u1), .second, .val (.long u2), .second, .val (.ref w272), .val (.ref w273), .val (.int (0 : Int32))] []))
                refine own_by (fun _ kont => XT.iconstV X278.here hx rfl (1 : Int32) (hb hby at_256) rfl kont) ?_
                show own_Go p e below _ (T278.setTop (mkF m 257 #[.val (.int i0), .val (.int i1), .val (.long i2), .second, .val (.long i3), .second, .val (.long i4), .second, .val (.long i5), .second, .val (.int v0), .val (.int v1), .val (.int v2), .val (.long c0), .second, .val (.long c1), .second, .val (.long c2), .second, .val (.long y0), .second, .val (.long y1), .second, .val (.long y2), .second, .val (.long u0), .second, .val (.long u1), .second, .val (.long u2), .second, .val (.ref w272), .val (.ref w273), .val (.int (0 : Int32))] [(.int (1 : Int32))]))
                refine own_by (fun _ kont => XS.goto X278.here hx rfl (pc0 := 257) (pc' := 261) rfl (hb hby at_257) (by decide) (by decide) kont) ?_
                show own_Go p e below _ (T278.setTop (mkF m 261 #[.val (.int i0), .val (.int i1), .val (.long i2), .second, .val (.long i3), .second, .val (.long i4), .second, .val (.long i5), .second, .val (.int v0), .val (.int v1), .val (.int v2), .val (.long c0), .second, .val (.long c1), .second, .val (.long c2), .second, .val (.long y0), .second, .val (.long y1), .second, .val (.long y2), .second, .val (.long u0), .second, .val (.long u1), .second, .val (.long u2), .second, .val (.ref w272), .val (.ref w273), .val (.int (0 : Int32))] [(.int (1 : Int32))]))
                exact own_ret X278 hx hlk hret rfl (Or.inl ⟨rfl, by simp, _, rfl⟩) (hb hby at_261) ⟨rfl, M278⟩ (by decide) (by decide)
              refine own_by (fun _ kont => XS.ifNo X273.here hx rfl (hb hby at_234) rfl (XT.ll_gt_f t2) kont) ?_
              show own_Go p e below _ (T273.setTop (mkF m 237 #[.val (.int i0), .val (.int i1), .val (.long i2), .second, .val (.long i3), .second, .val (.long i4), .second, .val (.long i5), .second, .val (.int v0), .val (.int v1), .val (.int v2), .val (.long c0), .second, .val (.long c1), .second, .val (.long c2), .second, .val (.long y0), .second, .val (.long y1), .second, .val (.long y2), .second, .val (.long u0), .second, .val (.long u1), .second, .val (.long u2), .second, .val (.ref w272), .val (.ref w273), .unset] []))
              refine own_by (fun _ kont => XT.iconstV X273.here hx rfl (1 : Int32) (hb hby at_237) rfl kont) ?_
              show own_Go p e below _ (T273.setTop (mkF m 238 #[.val (.int i0), .val (.int i1), .val (.long i2), .second, .val (.long i3), .second, .val (.long i4), .second, .val (.long i5), .second, .val (.int v0), .val (.int v1), .val (.int v2), .val (.long c0), .second, .val (.long c1), .second, .val (.long c2), .second, .val (.long y0), .second, .val (.long y1), .second, .val (.long y2), .second, .val (.long u0), .second, .val (.long u1), .second, .val (.long u2), .second, .val (.ref w272), .val (.ref w273), .unset] [(.int (1 : Int32))]))
              refine own_by (fun _ kont => XS.goto X273.here hx rfl (pc0 := 238) (pc' := 242) rfl (hb hby at_238) (by decide) (by decide) kont) ?_
              show own_Go p e below _ (T273.setTop (mkF m 242 #[.val (.int i0), .val (.int i1), .val (.long i2), .second, .val (.long i3), .second, .val (.long i4), .second, .val (.long i5), .second, .val (.int v0), .val (.int v1), .val (.int v2), .val (.long c0), .second, .val (.long c1), .second, .val (.long c2), .second, .val (.long y0), .second, .val (.long y1), .second, .val (.long y2), .second, .val (.long u0), .second, .val (.long u1), .second, .val (.long u2), .second, .val (.ref w272), .val (.ref w273), .unset] [(.int (1 : Int32))]))
              refine own_by (fun _ kont => XS.istore X273.here hx rfl (hb hby at_242) rfl (l' := #[.val (.int i0), .val (.int i1), .val (.long i2), .second, .val (.long i3), .second, .val (.long i4), .second, .val (.long i5), .second, .val (.int v0), .val (.int v1), .val (.int v2), .val (.long c0), .second, .val (.long c1), .second, .val (.long c2), .second, .val (.long y0), .second, .val (.long y1), .second, .val (.long y2), .second, .val (.long u0), .second, .val (.long u1), .second, .val (.long u2), .second, .val (.ref w272), .val (.ref w273), .val (.int (1 : Int32))]) rfl kont) ?_
              show own_Go p e below _ (T273.setTop (mkF m 244 #[.val (.int i0), .val (.int i1), .val (.long i2), .second, .val (.long i3), .second, .val (.long i4), .second, .val (.long i5), .second, .val (.int v0), .val (.int v1), .val (.int v2), .val (.long c0), .second, .val (.long c1), .second, .val (.long c2), .second, .val (.long y0), .second, .val (.long y1), .second, .val (.long y2), .second, .val (.long u0), .second, .val (.long u1), .second, .val (.long u2), .second, .val (.ref w272), .val (.ref w273), .val (.int (1 : Int32))] []))
              refine own_by (fun _ kont => XS.aload X273.here hx rfl (hb hby at_244) rfl rfl kont) ?_
              show own_Go p e below _ (T273.setTop (mkF m 246 #[.val (.int i0), .val (.int i1), .val (.long i2), .second, .val (.long i3), .second, .val (.long i4), .second, .val (.long i5), .second, .val (.int v0), .val (.int v1), .val (.int v2), .val (.long c0), .second, .val (.long c1), .second, .val (.long c2), .second, .val (.long y0), .second, .val (.long y1), .second, .val (.long y2), .second, .val (.long u0), .second, .val (.long u1), .second, .val (.long u2), .second, .val (.ref w272), .val (.ref w273), .val (.int (1 : Int32))] [(.ref w272)]))
              refine own_by (fun _ kont => XS.aload X273.here hx rfl (hb hby at_246) rfl rfl kont) ?_
              show own_Go p e below _ (T273.setTop (mkF m 248 #[.val (.int i0), .val (.int i1), .val (.long i2), .second, .val (.long i3), .second, .val (.long i4), .second, .val (.long i5), .second, .val (.int v0), .val (.int v1), .val (.int v2), .val (.long c0), .second, .val (.long c1), .second, .val (.long c2), .second, .val (.long y0), .second, .val (.long y1), .second, .val (.long y2), .second, .val (.long u0), .second, .val (.long u1), .second, .val (.long u2), .second, .val (.ref w272), .val (.ref w273), .val (.int (1 : Int32))] [(.ref w273), (.ref w272)]))
              obtain ⟨cq281, kq281, qa281, qb281, qc281⟩ := isOf hZ (rfl : T273.heap = T273.heap) EA
              obtain ⟨_, _, ⟨T280, L280, k280, n280⟩, -, X280, ⟨Lc280, hQ280, l280, y280, z280⟩, st280⟩ := X273.virtualBack hx (y := (⟨"com/example/conjecta/conjecta/model/Values", "atMost", "(Lcom/example/conjecta/conjecta/model/Values;)Z"⟩ : MethodName)) (z := (⟨"com/example/conjecta/conjecta/model/Values", "atMost", "(Lcom/example/conjecta/conjecta/model/Values;)Z"⟩ : MethodName)) hown (mvT hZ (hw _ (List.mem_of_getElem? (i := 21) rfl))) (mvT hZ (hw _ (List.mem_of_getElem? (i := 22) rfl))) (notFace_of_selects (args := #[]) (mvT hZ (hw _ (List.mem_of_getElem? (i := 24) rfl)))) (mvT hZ (hw _ (List.mem_of_getElem? (i := 24) rfl))) (mvT hZ (hw _ (List.mem_of_getElem? (i := 23) rfl))) (by decide) (backOf (W := 0) (rmM l Z a0 hw [] w272 w273 (own_lst v0 v1 v2 y0 y1 y2) (own_lst v0 v1 v2 u0 u1 u2) T273.heap n0 (own_len _ _ _ _ _ _) (own_len _ _ _ _ _ _) VA V273) hZ (hw _ (List.mem_of_getElem? (i := 25) rfl)) (hw _ (List.mem_of_getElem? (i := 10) rfl)) (by decide) (by decide)) qa281 qc281 (g := (mkF m 248 #[.val (.int i0), .val (.int i1), .val (.long i2), .second, .val (.long i3), .second, .val (.long i4), .second, .val (.long i5), .second, .val (.int v0), .val (.int v1), .val (.int v2), .val (.long c0), .second, .val (.long c1), .second, .val (.long c2), .second, .val (.long y0), .second, .val (.long y1), .second, .val (.long y2), .second, .val (.long u0), .second, .val (.long u1), .second, .val (.long u2), .second, .val (.ref w272), .val (.ref w273), .val (.int (1 : Int32))] [(.ref w273), (.ref w272)])) rfl (by rw [hml]; rfl) (Steps.refl _) (argsL := [(.ref w273)]) (rest := []) (lenOf own_pd4 rfl) rfl (by show 2 * 0 + _ ≤ _; exact Nat.le_of_eq rfl) (hb hby at_248) (fun _ _ => ⟨rfl, (rfl : T273.heap = T273.heap), (by decide : 6 + 0 ≤ _), (by decide : 16 + 0 ≤ _)⟩)
              dsimp only [Pt.U, Pt.locs, Pt.cells, Pt.slots] at X280 l280 y280 z280 st280 hQ280
              subst l280 y280 z280
              refine own_tr st280 ?_
              obtain ⟨rfl, N280, e280⟩ := hQ280
              obtain ⟨L280, X280, M280⟩ := own_hide X280 (Fr.app M273 N280)
              rw [own_plain h01 h12 ny0 ny1 ny2 nu0 nu1 nu2]
              rw [if_pos (decide_eq_true ⟨t0, t1, t2⟩)]
              show own_Go p e below _ (T280.setTop (mkF m 251 #[.val (.int i0), .val (.int i1), .val (.long i2), .second, .val (.long i3), .second, .val (.long i4), .second, .val (.long i5), .second, .val (.int v0), .val (.int v1), .val (.int v2), .val (.long c0), .second, .val (.long c1), .second, .val (.long c2), .second, .val (.long y0), .second, .val (.long y1), .second, .val (.long y2), .second, .val (.long u0), .second, .val (.long u1), .second, .val (.long u2), .second, .val (.ref w272), .val (.ref w273), .val (.int (1 : Int32))] [(.int (1 : Int32))]))
              refine own_by (fun _ kont => XS.iload X280.here hx rfl (hb hby at_251) rfl kont) ?_
              show own_Go p e below _ (T280.setTop (mkF m 253 #[.val (.int i0), .val (.int i1), .val (.long i2), .second, .val (.long i3), .second, .val (.long i4), .second, .val (.long i5), .second, .val (.int v0), .val (.int v1), .val (.int v2), .val (.long c0), .second, .val (.long c1), .second, .val (.long c2), .second, .val (.long y0), .second, .val (.long y1), .second, .val (.long y2), .second, .val (.long u0), .second, .val (.long u1), .second, .val (.long u2), .second, .val (.ref w272), .val (.ref w273), .val (.int (1 : Int32))] [(.int (1 : Int32)), (.int (1 : Int32))]))
              refine own_by (fun _ kont => XS.icmpNo X280.here hx rfl (hb hby at_253) rfl (XT.ii_ne_f (by decide)) kont) ?_
              show own_Go p e below _ (T280.setTop (mkF m 256 #[.val (.int i0), .val (.int i1), .val (.long i2), .second, .val (.long i3), .second, .val (.long i4), .second, .val (.long i5), .second, .val (.int v0), .val (.int v1), .val (.int v2), .val (.long c0), .second, .val (.long c1), .second, .val (.long c2), .second, .val (.long y0), .second, .val (.long y1), .second, .val (.long y2), .second, .val (.long u0), .second, .val (.long u1), .second, .val (.long u2), .second, .val (.ref w272), .val (.ref w273), .val (.int (1 : Int32))] []))
              refine own_by (fun _ kont => XT.iconstV X280.here hx rfl (1 : Int32) (hb hby at_256) rfl kont) ?_
              show own_Go p e below _ (T280.setTop (mkF m 257 #[.val (.int i0), .val (.int i1), .val (.long i2), .second, .val (.long i3), .second, .val (.long i4), .second, .val (.long i5), .second, .val (.int v0), .val (.int v1), .val (.int v2), .val (.long c0), .second, .val (.long c1), .second, .val (.long c2), .second, .val (.long y0), .second, .val (.long y1), .second, .val (.long y2), .second, .val (.long u0), .second, .val (.long u1), .second, .val (.long u2), .second, .val (.ref w272), .val (.ref w273), .val (.int (1 : Int32))] [(.int (1 : Int32))]))
              refine own_by (fun _ kont => XS.goto X280.here hx rfl (pc0 := 257) (pc' := 261) rfl (hb hby at_257) (by decide) (by decide) kont) ?_
              show own_Go p e below _ (T280.setTop (mkF m 261 #[.val (.int i0), .val (.int i1), .val (.long i2), .second, .val (.long i3), .second, .val (.long i4), .second, .val (.long i5), .second, .val (.int v0), .val (.int v1), .val (.int v2), .val (.long c0), .second, .val (.long c1), .second, .val (.long c2), .second, .val (.long y0), .second, .val (.long y1), .second, .val (.long y2), .second, .val (.long u0), .second, .val (.long u1), .second, .val (.long u2), .second, .val (.ref w272), .val (.ref w273), .val (.int (1 : Int32))] [(.int (1 : Int32))]))
              exact own_ret X280 hx hlk hret rfl (Or.inl ⟨rfl, by simp, _, rfl⟩) (hb hby at_261) ⟨rfl, M280⟩ (by decide) (by decide)
            by_cases hs157 : (i0 &&& (32 : Int32)) = (0 : Int32)
            · refine own_by (fun _ kont => XS.ifYes XJ270.here hx rfl (pc0 := 157) (pc' := 176) rfl (hb hby at_157) rfl (XT.i0_eq_t hs157) (by decide) (by decide) kont) ?_
              show own_Go p e below _ (TJ270.setTop (mkF m 176 #[.val (.int i0), .val (.int i1), .val (.long i2), .second, .val (.long i3), .second, .val (.long i4), .second, .val (.long i5), .second, .val (.int v0), .val (.int v1), .val (.int v2), .val (.long c0), .second, .val (.long c1), .second, .val (.long c2), .second, .val (.long y0), .second, .val (.long y1), .second, .val (.long y2), .second, .val (.long u0), .second, .val (.long u1), .second, .unset, .unset, .unset, .unset, .unset] []))
              refine own_by (fun _ kont => XT.lconstV XJ270.here hx rfl (0 : Int64) (hb hby at_176) rfl kont) ?_
              show own_Go p e below _ (TJ270.setTop (mkF m 177 #[.val (.int i0), .val (.int i1), .val (.long i2), .second, .val (.long i3), .second, .val (.long i4), .second, .val (.long i5), .second, .val (.int v0), .val (.int v1), .val (.int v2), .val (.long c0), .second, .val (.long c1), .second, .val (.long c2), .second, .val (.long y0), .second, .val (.long y1), .second, .val (.long y2), .second, .val (.long u0), .second, .val (.long u1), .second, .unset, .unset, .unset, .unset, .unset] [(.long (0 : Int64))]))
              exact key271 TJ270 _ XJ270 NJ270 eJ270 _ (by decide)
            · refine own_by (fun _ kont => XS.ifNo XJ270.here hx rfl (hb hby at_157) rfl (XT.i0_eq_f hs157) kont) ?_
              show own_Go p e below _ (TJ270.setTop (mkF m 160 #[.val (.int i0), .val (.int i1), .val (.long i2), .second, .val (.long i3), .second, .val (.long i4), .second, .val (.long i5), .second, .val (.int v0), .val (.int v1), .val (.int v2), .val (.long c0), .second, .val (.long c1), .second, .val (.long c2), .second, .val (.long y0), .second, .val (.long y1), .second, .val (.long y2), .second, .val (.long u0), .second, .val (.long u1), .second, .unset, .unset, .unset, .unset, .unset] []))
              refine own_by (fun _ kont => XT.lload XJ270.here hx rfl (hb hby at_160) rfl kont) ?_
              show own_Go p e below _ (TJ270.setTop (mkF m 162 #[.val (.int i0), .val (.int i1), .val (.long i2), .second, .val (.long i3), .second, .val (.long i4), .second, .val (.long i5), .second, .val (.int v0), .val (.int v1), .val (.int v2), .val (.long c0), .second, .val (.long c1), .second, .val (.long c2), .second, .val (.long y0), .second, .val (.long y1), .second, .val (.long y2), .second, .val (.long u0), .second, .val (.long u1), .second, .unset, .unset, .unset, .unset, .unset] [(.long c2)]))
              refine own_by (fun _ kont => XS.iloadN XJ270.here hx rfl (hb hby at_162) rfl kont) ?_
              show own_Go p e below _ (TJ270.setTop (mkF m 163 #[.val (.int i0), .val (.int i1), .val (.long i2), .second, .val (.long i3), .second, .val (.long i4), .second, .val (.long i5), .second, .val (.int v0), .val (.int v1), .val (.int v2), .val (.long c0), .second, .val (.long c1), .second, .val (.long c2), .second, .val (.long y0), .second, .val (.long y1), .second, .val (.long y2), .second, .val (.long u0), .second, .val (.long u1), .second, .unset, .unset, .unset, .unset, .unset] [(.int i0), (.long c2)]))
              refine own_by (fun _ kont => XT.bipushV XJ270.here hx rfl (10 : Int32) (hb hby at_163) rfl kont) ?_
              show own_Go p e below _ (TJ270.setTop (mkF m 165 #[.val (.int i0), .val (.int i1), .val (.long i2), .second, .val (.long i3), .second, .val (.long i4), .second, .val (.long i5), .second, .val (.int v0), .val (.int v1), .val (.int v2), .val (.long c0), .second, .val (.long c1), .second, .val (.long c2), .second, .val (.long y0), .second, .val (.long y1), .second, .val (.long y2), .second, .val (.long u0), .second, .val (.long u1), .second, .unset, .unset, .unset, .unset, .unset] [(.int (10 : Int32)), (.int i0), (.long c2)]))
              refine own_by (fun _ kont => XT.iushr XJ270.here hx rfl (hb hby at_165) rfl kont) ?_
              show own_Go p e below _ (TJ270.setTop (mkF m 166 #[.val (.int i0), .val (.int i1), .val (.long i2), .second, .val (.long i3), .second, .val (.long i4), .second, .val (.long i5), .second, .val (.int v0), .val (.int v1), .val (.int v2), .val (.long c0), .second, .val (.long c1), .second, .val (.long c2), .second, .val (.long y0), .second, .val (.long y1), .second, .val (.long y2), .second, .val (.long u0), .second, .val (.long u1), .second, .unset, .unset, .unset, .unset, .unset] [(.int (XT.ushr i0 (10 : Int32))), (.long c2)]))
              refine own_by (fun _ kont => XT.iconstV XJ270.here hx rfl (3 : Int32) (hb hby at_166) rfl kont) ?_
              show own_Go p e below _ (TJ270.setTop (mkF m 167 #[.val (.int i0), .val (.int i1), .val (.long i2), .second, .val (.long i3), .second, .val (.long i4), .second, .val (.long i5), .second, .val (.int v0), .val (.int v1), .val (.int v2), .val (.long c0), .second, .val (.long c1), .second, .val (.long c2), .second, .val (.long y0), .second, .val (.long y1), .second, .val (.long y2), .second, .val (.long u0), .second, .val (.long u1), .second, .unset, .unset, .unset, .unset, .unset] [(.int (3 : Int32)), (.int (XT.ushr i0 (10 : Int32))), (.long c2)]))
              refine own_by (fun _ kont => XS.iand XJ270.here hx rfl (hb hby at_167) rfl kont) ?_
              show own_Go p e below _ (TJ270.setTop (mkF m 168 #[.val (.int i0), .val (.int i1), .val (.long i2), .second, .val (.long i3), .second, .val (.long i4), .second, .val (.long i5), .second, .val (.int v0), .val (.int v1), .val (.int v2), .val (.long c0), .second, .val (.long c1), .second, .val (.long c2), .second, .val (.long y0), .second, .val (.long y1), .second, .val (.long y2), .second, .val (.long u0), .second, .val (.long u1), .second, .unset, .unset, .unset, .unset, .unset] [(.int ((XT.ushr i0 (10 : Int32)) &&& (3 : Int32))), (.long c2)]))
              refine own_by (fun _ kont => XT.lload XJ270.here hx rfl (hb hby at_168) rfl kont) ?_
              show own_Go p e below _ (TJ270.setTop (mkF m 170 #[.val (.int i0), .val (.int i1), .val (.long i2), .second, .val (.long i3), .second, .val (.long i4), .second, .val (.long i5), .second, .val (.int v0), .val (.int v1), .val (.int v2), .val (.long c0), .second, .val (.long c1), .second, .val (.long c2), .second, .val (.long y0), .second, .val (.long y1), .second, .val (.long y2), .second, .val (.long u0), .second, .val (.long u1), .second, .unset, .unset, .unset, .unset, .unset] [(.long i5), (.int ((XT.ushr i0 (10 : Int32)) &&& (3 : Int32))), (.long c2)]))
              obtain ⟨_, _, ⟨T282, L282, k282, n282⟩, -, X282, ⟨Lc282, hQ282, l282, y282, z282⟩, st282⟩ := Jvm.LawKit.callS XJ270 hx (y := (⟨"com/example/conjecta/conjecta/model/ValuesAtMostPinLaw", "other", "(JIJ)J"⟩ : MethodName)) hown (mvT hZ (hw _ (List.mem_of_getElem? (i := 26) rfl))) (mvT hZ (hw _ (List.mem_of_getElem? (i := 27) rfl))) (mvT hZ (hw _ (List.mem_of_getElem? (i := 4) rfl))) (mvT hZ (hw _ (List.mem_of_getElem? (i := 28) rfl))) (by decide) (backOf (W := 0) (rm5 l Z a0 hw [] c2 ((XT.ushr i0 (10 : Int32)) &&& (3 : Int32)) i5 h0 n0) hZ (hw _ (List.mem_of_getElem? (i := 28) rfl)) (hw _ (List.mem_of_getElem? (i := 4) rfl)) (by decide) (by decide)) (g := (mkF m 170 #[.val (.int i0), .val (.int i1), .val (.long i2), .second, .val (.long i3), .second, .val (.long i4), .second, .val (.long i5), .second, .val (.int v0), .val (.int v1), .val (.int v2), .val (.long c0), .second, .val (.long c1), .second, .val (.long c2), .second, .val (.long y0), .second, .val (.long y1), .second, .val (.long y2), .second, .val (.long u0), .second, .val (.long u1), .second, .unset, .unset, .unset, .unset, .unset] [(.long i5), (.int ((XT.ushr i0 (10 : Int32)) &&& (3 : Int32))), (.long c2)])) rfl (by rw [hml]; rfl) (argsL := [(.long c2), (.int ((XT.ushr i0 (10 : Int32)) &&& (3 : Int32))), (.long i5)]) (rest := []) (lenOf own_pd5 rfl) rfl (by show 2 * 0 + _ ≤ _; exact Nat.le_of_eq rfl) (hb hby at_170) (fun _ _ => ⟨rfl, eJ270, (by decide : 0 + 0 ≤ _), (by decide : 0 + 0 ≤ _)⟩)
              dsimp only [Pt.U, Pt.locs, Pt.cells, Pt.slots] at X282 l282 y282 z282 st282 hQ282
              subst l282 y282 z282
              obtain ⟨rfl, N282, e282⟩ := hQ282
              obtain ⟨L282, X282, M282⟩ := own_hide X282 (Fr.app NJ270 N282)
              refine own_by st282 ?_
              show own_Go p e below _ (T282.setTop (mkF m 173 #[.val (.int i0), .val (.int i1), .val (.long i2), .second, .val (.long i3), .second, .val (.long i4), .second, .val (.long i5), .second, .val (.int v0), .val (.int v1), .val (.int v2), .val (.long c0), .second, .val (.long c1), .second, .val (.long c2), .second, .val (.long y0), .second, .val (.long y1), .second, .val (.long y2), .second, .val (.long u0), .second, .val (.long u1), .second, .unset, .unset, .unset, .unset, .unset] [(.long (f5_0 c2 ((XT.ushr i0 (10 : Int32)) &&& (3 : Int32)) i5))]))
              refine own_by (fun _ kont => XS.goto X282.here hx rfl (pc0 := 173) (pc' := 177) rfl (hb hby at_173) (by decide) (by decide) kont) ?_
              show own_Go p e below _ (T282.setTop (mkF m 177 #[.val (.int i0), .val (.int i1), .val (.long i2), .second, .val (.long i3), .second, .val (.long i4), .second, .val (.long i5), .second, .val (.int v0), .val (.int v1), .val (.int v2), .val (.long c0), .second, .val (.long c1), .second, .val (.long c2), .second, .val (.long y0), .second, .val (.long y1), .second, .val (.long y2), .second, .val (.long u0), .second, .val (.long u1), .second, .unset, .unset, .unset, .unset, .unset] [(.long (f5_0 c2 ((XT.ushr i0 (10 : Int32)) &&& (3 : Int32)) i5))]))
              exact key271 T282 _ X282 M282 e282 _ (own_other _ _ _ nc2)
          by_cases hs131 : (i0 &&& (16 : Int32)) = (0 : Int32)
          · refine own_by (fun _ kont => XS.ifYes XJ269.here hx rfl (pc0 := 131) (pc' := 150) rfl (hb hby at_131) rfl (XT.i0_eq_t hs131) (by decide) (by decide) kont) ?_
            show own_Go p e below _ (TJ269.setTop (mkF m 150 #[.val (.int i0), .val (.int i1), .val (.long i2), .second, .val (.long i3), .second, .val (.long i4), .second, .val (.long i5), .second, .val (.int v0), .val (.int v1), .val (.int v2), .val (.long c0), .second, .val (.long c1), .second, .val (.long c2), .second, .val (.long y0), .second, .val (.long y1), .second, .val (.long y2), .second, .val (.long u0), .second, .unset, .unset, .unset, .unset, .unset, .unset, .unset] []))
            refine own_by (fun _ kont => XT.lconstV XJ269.here hx rfl (0 : Int64) (hb hby at_150) rfl kont) ?_
            show own_Go p e below _ (TJ269.setTop (mkF m 151 #[.val (.int i0), .val (.int i1), .val (.long i2), .second, .val (.long i3), .second, .val (.long i4), .second, .val (.long i5), .second, .val (.int v0), .val (.int v1), .val (.int v2), .val (.long c0), .second, .val (.long c1), .second, .val (.long c2), .second, .val (.long y0), .second, .val (.long y1), .second, .val (.long y2), .second, .val (.long u0), .second, .unset, .unset, .unset, .unset, .unset, .unset, .unset] [(.long (0 : Int64))]))
            exact key270 TJ269 _ XJ269 NJ269 eJ269 _ (by decide)
          · refine own_by (fun _ kont => XS.ifNo XJ269.here hx rfl (hb hby at_131) rfl (XT.i0_eq_f hs131) kont) ?_
            show own_Go p e below _ (TJ269.setTop (mkF m 134 #[.val (.int i0), .val (.int i1), .val (.long i2), .second, .val (.long i3), .second, .val (.long i4), .second, .val (.long i5), .second, .val (.int v0), .val (.int v1), .val (.int v2), .val (.long c0), .second, .val (.long c1), .second, .val (.long c2), .second, .val (.long y0), .second, .val (.long y1), .second, .val (.long y2), .second, .val (.long u0), .second, .unset, .unset, .unset, .unset, .unset, .unset, .unset] []))
            refine own_by (fun _ kont => XT.lload XJ269.here hx rfl (hb hby at_134) rfl kont) ?_
            show own_Go p e below _ (TJ269.setTop (mkF m 136 #[.val (.int i0), .val (.int i1), .val (.long i2), .second, .val (.long i3), .second, .val (.long i4), .second, .val (.long i5), .second, .val (.int v0), .val (.int v1), .val (.int v2), .val (.long c0), .second, .val (.long c1), .second, .val (.long c2), .second, .val (.long y0), .second, .val (.long y1), .second, .val (.long y2), .second, .val (.long u0), .second, .unset, .unset, .unset, .unset, .unset, .unset, .unset] [(.long c1)]))
            refine own_by (fun _ kont => XS.iloadN XJ269.here hx rfl (hb hby at_136) rfl kont) ?_
            show own_Go p e below _ (TJ269.setTop (mkF m 137 #[.val (.int i0), .val (.int i1), .val (.long i2), .second, .val (.long i3), .second, .val (.long i4), .second, .val (.long i5), .second, .val (.int v0), .val (.int v1), .val (.int v2), .val (.long c0), .second, .val (.long c1), .second, .val (.long c2), .second, .val (.long y0), .second, .val (.long y1), .second, .val (.long y2), .second, .val (.long u0), .second, .unset, .unset, .unset, .unset, .unset, .unset, .unset] [(.int i0), (.long c1)]))
            refine own_by (fun _ kont => XT.bipushV XJ269.here hx rfl (8 : Int32) (hb hby at_137) rfl kont) ?_
            show own_Go p e below _ (TJ269.setTop (mkF m 139 #[.val (.int i0), .val (.int i1), .val (.long i2), .second, .val (.long i3), .second, .val (.long i4), .second, .val (.long i5), .second, .val (.int v0), .val (.int v1), .val (.int v2), .val (.long c0), .second, .val (.long c1), .second, .val (.long c2), .second, .val (.long y0), .second, .val (.long y1), .second, .val (.long y2), .second, .val (.long u0), .second, .unset, .unset, .unset, .unset, .unset, .unset, .unset] [(.int (8 : Int32)), (.int i0), (.long c1)]))
            refine own_by (fun _ kont => XT.iushr XJ269.here hx rfl (hb hby at_139) rfl kont) ?_
            show own_Go p e below _ (TJ269.setTop (mkF m 140 #[.val (.int i0), .val (.int i1), .val (.long i2), .second, .val (.long i3), .second, .val (.long i4), .second, .val (.long i5), .second, .val (.int v0), .val (.int v1), .val (.int v2), .val (.long c0), .second, .val (.long c1), .second, .val (.long c2), .second, .val (.long y0), .second, .val (.long y1), .second, .val (.long y2), .second, .val (.long u0), .second, .unset, .unset, .unset, .unset, .unset, .unset, .unset] [(.int (XT.ushr i0 (8 : Int32))), (.long c1)]))
            refine own_by (fun _ kont => XT.iconstV XJ269.here hx rfl (3 : Int32) (hb hby at_140) rfl kont) ?_
            show own_Go p e below _ (TJ269.setTop (mkF m 141 #[.val (.int i0), .val (.int i1), .val (.long i2), .second, .val (.long i3), .second, .val (.long i4), .second, .val (.long i5), .second, .val (.int v0), .val (.int v1), .val (.int v2), .val (.long c0), .second, .val (.long c1), .second, .val (.long c2), .second, .val (.long y0), .second, .val (.long y1), .second, .val (.long y2), .second, .val (.long u0), .second, .unset, .unset, .unset, .unset, .unset, .unset, .unset] [(.int (3 : Int32)), (.int (XT.ushr i0 (8 : Int32))), (.long c1)]))
            refine own_by (fun _ kont => XS.iand XJ269.here hx rfl (hb hby at_141) rfl kont) ?_
            show own_Go p e below _ (TJ269.setTop (mkF m 142 #[.val (.int i0), .val (.int i1), .val (.long i2), .second, .val (.long i3), .second, .val (.long i4), .second, .val (.long i5), .second, .val (.int v0), .val (.int v1), .val (.int v2), .val (.long c0), .second, .val (.long c1), .second, .val (.long c2), .second, .val (.long y0), .second, .val (.long y1), .second, .val (.long y2), .second, .val (.long u0), .second, .unset, .unset, .unset, .unset, .unset, .unset, .unset] [(.int ((XT.ushr i0 (8 : Int32)) &&& (3 : Int32))), (.long c1)]))
            refine own_by (fun _ kont => XT.lload XJ269.here hx rfl (hb hby at_142) rfl kont) ?_
            show own_Go p e below _ (TJ269.setTop (mkF m 144 #[.val (.int i0), .val (.int i1), .val (.long i2), .second, .val (.long i3), .second, .val (.long i4), .second, .val (.long i5), .second, .val (.int v0), .val (.int v1), .val (.int v2), .val (.long c0), .second, .val (.long c1), .second, .val (.long c2), .second, .val (.long y0), .second, .val (.long y1), .second, .val (.long y2), .second, .val (.long u0), .second, .unset, .unset, .unset, .unset, .unset, .unset, .unset] [(.long i5), (.int ((XT.ushr i0 (8 : Int32)) &&& (3 : Int32))), (.long c1)]))
            obtain ⟨_, _, ⟨T283, L283, k283, n283⟩, -, X283, ⟨Lc283, hQ283, l283, y283, z283⟩, st283⟩ := Jvm.LawKit.callS XJ269 hx (y := (⟨"com/example/conjecta/conjecta/model/ValuesAtMostPinLaw", "other", "(JIJ)J"⟩ : MethodName)) hown (mvT hZ (hw _ (List.mem_of_getElem? (i := 26) rfl))) (mvT hZ (hw _ (List.mem_of_getElem? (i := 27) rfl))) (mvT hZ (hw _ (List.mem_of_getElem? (i := 4) rfl))) (mvT hZ (hw _ (List.mem_of_getElem? (i := 28) rfl))) (by decide) (backOf (W := 0) (rm5 l Z a0 hw [] c1 ((XT.ushr i0 (8 : Int32)) &&& (3 : Int32)) i5 h0 n0) hZ (hw _ (List.mem_of_getElem? (i := 28) rfl)) (hw _ (List.mem_of_getElem? (i := 4) rfl)) (by decide) (by decide)) (g := (mkF m 144 #[.val (.int i0), .val (.int i1), .val (.long i2), .second, .val (.long i3), .second, .val (.long i4), .second, .val (.long i5), .second, .val (.int v0), .val (.int v1), .val (.int v2), .val (.long c0), .second, .val (.long c1), .second, .val (.long c2), .second, .val (.long y0), .second, .val (.long y1), .second, .val (.long y2), .second, .val (.long u0), .second, .unset, .unset, .unset, .unset, .unset, .unset, .unset] [(.long i5), (.int ((XT.ushr i0 (8 : Int32)) &&& (3 : Int32))), (.long c1)])) rfl (by rw [hml]; rfl) (argsL := [(.long c1), (.int ((XT.ushr i0 (8 : Int32)) &&& (3 : Int32))), (.long i5)]) (rest := []) (lenOf own_pd5 rfl) rfl (by show 2 * 0 + _ ≤ _; exact Nat.le_of_eq rfl) (hb hby at_144) (fun _ _ => ⟨rfl, eJ269, (by decide : 0 + 0 ≤ _), (by decide : 0 + 0 ≤ _)⟩)
            dsimp only [Pt.U, Pt.locs, Pt.cells, Pt.slots] at X283 l283 y283 z283 st283 hQ283
            subst l283 y283 z283
            obtain ⟨rfl, N283, e283⟩ := hQ283
            obtain ⟨L283, X283, M283⟩ := own_hide X283 (Fr.app NJ269 N283)
            refine own_by st283 ?_
            show own_Go p e below _ (T283.setTop (mkF m 147 #[.val (.int i0), .val (.int i1), .val (.long i2), .second, .val (.long i3), .second, .val (.long i4), .second, .val (.long i5), .second, .val (.int v0), .val (.int v1), .val (.int v2), .val (.long c0), .second, .val (.long c1), .second, .val (.long c2), .second, .val (.long y0), .second, .val (.long y1), .second, .val (.long y2), .second, .val (.long u0), .second, .unset, .unset, .unset, .unset, .unset, .unset, .unset] [(.long (f5_0 c1 ((XT.ushr i0 (8 : Int32)) &&& (3 : Int32)) i5))]))
            refine own_by (fun _ kont => XS.goto X283.here hx rfl (pc0 := 147) (pc' := 151) rfl (hb hby at_147) (by decide) (by decide) kont) ?_
            show own_Go p e below _ (T283.setTop (mkF m 151 #[.val (.int i0), .val (.int i1), .val (.long i2), .second, .val (.long i3), .second, .val (.long i4), .second, .val (.long i5), .second, .val (.int v0), .val (.int v1), .val (.int v2), .val (.long c0), .second, .val (.long c1), .second, .val (.long c2), .second, .val (.long y0), .second, .val (.long y1), .second, .val (.long y2), .second, .val (.long u0), .second, .unset, .unset, .unset, .unset, .unset, .unset, .unset] [(.long (f5_0 c1 ((XT.ushr i0 (8 : Int32)) &&& (3 : Int32)) i5))]))
            exact key270 T283 _ X283 M283 e283 _ (own_other _ _ _ nc1)
        by_cases hs105 : (i0 &&& (8 : Int32)) = (0 : Int32)
        · refine own_by (fun _ kont => XS.ifYes X0.here hx rfl (pc0 := 105) (pc' := 124) rfl (hb hby at_105) rfl (XT.i0_eq_t hs105) (by decide) (by decide) kont) ?_
          show own_Go p e below _ (s₁.setTop (mkF m 124 #[.val (.int i0), .val (.int i1), .val (.long i2), .second, .val (.long i3), .second, .val (.long i4), .second, .val (.long i5), .second, .val (.int v0), .val (.int v1), .val (.int v2), .val (.long c0), .second, .val (.long c1), .second, .val (.long c2), .second, .val (.long y0), .second, .val (.long y1), .second, .val (.long y2), .second, .unset, .unset, .unset, .unset, .unset, .unset, .unset, .unset, .unset] []))
          refine own_by (fun _ kont => XT.lconstV X0.here hx rfl (0 : Int64) (hb hby at_124) rfl kont) ?_
          show own_Go p e below _ (s₁.setTop (mkF m 125 #[.val (.int i0), .val (.int i1), .val (.long i2), .second, .val (.long i3), .second, .val (.long i4), .second, .val (.long i5), .second, .val (.int v0), .val (.int v1), .val (.int v2), .val (.long c0), .second, .val (.long c1), .second, .val (.long c2), .second, .val (.long y0), .second, .val (.long y1), .second, .val (.long y2), .second, .unset, .unset, .unset, .unset, .unset, .unset, .unset, .unset, .unset] [(.long (0 : Int64))]))
          exact key269 s₁ _ X0 N0 e0 _ (by decide)
        · refine own_by (fun _ kont => XS.ifNo X0.here hx rfl (hb hby at_105) rfl (XT.i0_eq_f hs105) kont) ?_
          show own_Go p e below _ (s₁.setTop (mkF m 108 #[.val (.int i0), .val (.int i1), .val (.long i2), .second, .val (.long i3), .second, .val (.long i4), .second, .val (.long i5), .second, .val (.int v0), .val (.int v1), .val (.int v2), .val (.long c0), .second, .val (.long c1), .second, .val (.long c2), .second, .val (.long y0), .second, .val (.long y1), .second, .val (.long y2), .second, .unset, .unset, .unset, .unset, .unset, .unset, .unset, .unset, .unset] []))
          refine own_by (fun _ kont => XT.lload X0.here hx rfl (hb hby at_108) rfl kont) ?_
          show own_Go p e below _ (s₁.setTop (mkF m 110 #[.val (.int i0), .val (.int i1), .val (.long i2), .second, .val (.long i3), .second, .val (.long i4), .second, .val (.long i5), .second, .val (.int v0), .val (.int v1), .val (.int v2), .val (.long c0), .second, .val (.long c1), .second, .val (.long c2), .second, .val (.long y0), .second, .val (.long y1), .second, .val (.long y2), .second, .unset, .unset, .unset, .unset, .unset, .unset, .unset, .unset, .unset] [(.long c0)]))
          refine own_by (fun _ kont => XS.iloadN X0.here hx rfl (hb hby at_110) rfl kont) ?_
          show own_Go p e below _ (s₁.setTop (mkF m 111 #[.val (.int i0), .val (.int i1), .val (.long i2), .second, .val (.long i3), .second, .val (.long i4), .second, .val (.long i5), .second, .val (.int v0), .val (.int v1), .val (.int v2), .val (.long c0), .second, .val (.long c1), .second, .val (.long c2), .second, .val (.long y0), .second, .val (.long y1), .second, .val (.long y2), .second, .unset, .unset, .unset, .unset, .unset, .unset, .unset, .unset, .unset] [(.int i0), (.long c0)]))
          refine own_by (fun _ kont => XT.bipushV X0.here hx rfl (6 : Int32) (hb hby at_111) rfl kont) ?_
          show own_Go p e below _ (s₁.setTop (mkF m 113 #[.val (.int i0), .val (.int i1), .val (.long i2), .second, .val (.long i3), .second, .val (.long i4), .second, .val (.long i5), .second, .val (.int v0), .val (.int v1), .val (.int v2), .val (.long c0), .second, .val (.long c1), .second, .val (.long c2), .second, .val (.long y0), .second, .val (.long y1), .second, .val (.long y2), .second, .unset, .unset, .unset, .unset, .unset, .unset, .unset, .unset, .unset] [(.int (6 : Int32)), (.int i0), (.long c0)]))
          refine own_by (fun _ kont => XT.iushr X0.here hx rfl (hb hby at_113) rfl kont) ?_
          show own_Go p e below _ (s₁.setTop (mkF m 114 #[.val (.int i0), .val (.int i1), .val (.long i2), .second, .val (.long i3), .second, .val (.long i4), .second, .val (.long i5), .second, .val (.int v0), .val (.int v1), .val (.int v2), .val (.long c0), .second, .val (.long c1), .second, .val (.long c2), .second, .val (.long y0), .second, .val (.long y1), .second, .val (.long y2), .second, .unset, .unset, .unset, .unset, .unset, .unset, .unset, .unset, .unset] [(.int (XT.ushr i0 (6 : Int32))), (.long c0)]))
          refine own_by (fun _ kont => XT.iconstV X0.here hx rfl (3 : Int32) (hb hby at_114) rfl kont) ?_
          show own_Go p e below _ (s₁.setTop (mkF m 115 #[.val (.int i0), .val (.int i1), .val (.long i2), .second, .val (.long i3), .second, .val (.long i4), .second, .val (.long i5), .second, .val (.int v0), .val (.int v1), .val (.int v2), .val (.long c0), .second, .val (.long c1), .second, .val (.long c2), .second, .val (.long y0), .second, .val (.long y1), .second, .val (.long y2), .second, .unset, .unset, .unset, .unset, .unset, .unset, .unset, .unset, .unset] [(.int (3 : Int32)), (.int (XT.ushr i0 (6 : Int32))), (.long c0)]))
          refine own_by (fun _ kont => XS.iand X0.here hx rfl (hb hby at_115) rfl kont) ?_
          show own_Go p e below _ (s₁.setTop (mkF m 116 #[.val (.int i0), .val (.int i1), .val (.long i2), .second, .val (.long i3), .second, .val (.long i4), .second, .val (.long i5), .second, .val (.int v0), .val (.int v1), .val (.int v2), .val (.long c0), .second, .val (.long c1), .second, .val (.long c2), .second, .val (.long y0), .second, .val (.long y1), .second, .val (.long y2), .second, .unset, .unset, .unset, .unset, .unset, .unset, .unset, .unset, .unset] [(.int ((XT.ushr i0 (6 : Int32)) &&& (3 : Int32))), (.long c0)]))
          refine own_by (fun _ kont => XT.lload X0.here hx rfl (hb hby at_116) rfl kont) ?_
          show own_Go p e below _ (s₁.setTop (mkF m 118 #[.val (.int i0), .val (.int i1), .val (.long i2), .second, .val (.long i3), .second, .val (.long i4), .second, .val (.long i5), .second, .val (.int v0), .val (.int v1), .val (.int v2), .val (.long c0), .second, .val (.long c1), .second, .val (.long c2), .second, .val (.long y0), .second, .val (.long y1), .second, .val (.long y2), .second, .unset, .unset, .unset, .unset, .unset, .unset, .unset, .unset, .unset] [(.long i5), (.int ((XT.ushr i0 (6 : Int32)) &&& (3 : Int32))), (.long c0)]))
          obtain ⟨_, _, ⟨T284, L284, k284, n284⟩, -, X284, ⟨Lc284, hQ284, l284, y284, z284⟩, st284⟩ := Jvm.LawKit.callS X0 hx (y := (⟨"com/example/conjecta/conjecta/model/ValuesAtMostPinLaw", "other", "(JIJ)J"⟩ : MethodName)) hown (mvT hZ (hw _ (List.mem_of_getElem? (i := 26) rfl))) (mvT hZ (hw _ (List.mem_of_getElem? (i := 27) rfl))) (mvT hZ (hw _ (List.mem_of_getElem? (i := 4) rfl))) (mvT hZ (hw _ (List.mem_of_getElem? (i := 28) rfl))) (by decide) (backOf (W := 0) (rm5 l Z a0 hw [] c0 ((XT.ushr i0 (6 : Int32)) &&& (3 : Int32)) i5 h0 n0) hZ (hw _ (List.mem_of_getElem? (i := 28) rfl)) (hw _ (List.mem_of_getElem? (i := 4) rfl)) (by decide) (by decide)) (g := (mkF m 118 #[.val (.int i0), .val (.int i1), .val (.long i2), .second, .val (.long i3), .second, .val (.long i4), .second, .val (.long i5), .second, .val (.int v0), .val (.int v1), .val (.int v2), .val (.long c0), .second, .val (.long c1), .second, .val (.long c2), .second, .val (.long y0), .second, .val (.long y1), .second, .val (.long y2), .second, .unset, .unset, .unset, .unset, .unset, .unset, .unset, .unset, .unset] [(.long i5), (.int ((XT.ushr i0 (6 : Int32)) &&& (3 : Int32))), (.long c0)])) rfl (by rw [hml]; rfl) (argsL := [(.long c0), (.int ((XT.ushr i0 (6 : Int32)) &&& (3 : Int32))), (.long i5)]) (rest := []) (lenOf own_pd5 rfl) rfl (by show 2 * 0 + _ ≤ _; exact Nat.le_of_eq rfl) (hb hby at_118) (fun _ _ => ⟨rfl, e0, (by decide : 0 + 0 ≤ _), (by decide : 0 + 0 ≤ _)⟩)
          dsimp only [Pt.U, Pt.locs, Pt.cells, Pt.slots] at X284 l284 y284 z284 st284 hQ284
          subst l284 y284 z284
          obtain ⟨rfl, N284, e284⟩ := hQ284
          obtain ⟨L284, X284, M284⟩ := own_hide X284 (Fr.app N0 N284)
          refine own_by st284 ?_
          show own_Go p e below _ (T284.setTop (mkF m 121 #[.val (.int i0), .val (.int i1), .val (.long i2), .second, .val (.long i3), .second, .val (.long i4), .second, .val (.long i5), .second, .val (.int v0), .val (.int v1), .val (.int v2), .val (.long c0), .second, .val (.long c1), .second, .val (.long c2), .second, .val (.long y0), .second, .val (.long y1), .second, .val (.long y2), .second, .unset, .unset, .unset, .unset, .unset, .unset, .unset, .unset, .unset] [(.long (f5_0 c0 ((XT.ushr i0 (6 : Int32)) &&& (3 : Int32)) i5))]))
          refine own_by (fun _ kont => XS.goto X284.here hx rfl (pc0 := 121) (pc' := 125) rfl (hb hby at_121) (by decide) (by decide) kont) ?_
          show own_Go p e below _ (T284.setTop (mkF m 125 #[.val (.int i0), .val (.int i1), .val (.long i2), .second, .val (.long i3), .second, .val (.long i4), .second, .val (.long i5), .second, .val (.int v0), .val (.int v1), .val (.int v2), .val (.long c0), .second, .val (.long c1), .second, .val (.long c2), .second, .val (.long y0), .second, .val (.long y1), .second, .val (.long y2), .second, .unset, .unset, .unset, .unset, .unset, .unset, .unset, .unset, .unset] [(.long (f5_0 c0 ((XT.ushr i0 (6 : Int32)) &&& (3 : Int32)) i5))]))
          exact key269 T284 _ X284 M284 e284 _ (own_other _ _ _ nc0)
      by_cases hs90 : (i0 &&& (4 : Int32)) = (0 : Int32)
      · refine own_by (fun _ kont => XS.ifYes X0.here hx rfl (pc0 := 90) (pc' := 98) rfl (hb hby at_90) rfl (XT.i0_eq_t hs90) (by decide) (by decide) kont) ?_
        show own_Go p e below _ (s₁.setTop (mkF m 98 #[.val (.int i0), .val (.int i1), .val (.long i2), .second, .val (.long i3), .second, .val (.long i4), .second, .val (.long i5), .second, .val (.int v0), .val (.int v1), .val (.int v2), .val (.long c0), .second, .val (.long c1), .second, .val (.long c2), .second, .val (.long y0), .second, .val (.long y1), .second, .unset, .unset, .unset, .unset, .unset, .unset, .unset, .unset, .unset, .unset, .unset] []))
        refine own_by (fun _ kont => XT.lconstV X0.here hx rfl (0 : Int64) (hb hby at_98) rfl kont) ?_
        show own_Go p e below _ (s₁.setTop (mkF m 99 #[.val (.int i0), .val (.int i1), .val (.long i2), .second, .val (.long i3), .second, .val (.long i4), .second, .val (.long i5), .second, .val (.int v0), .val (.int v1), .val (.int v2), .val (.long c0), .second, .val (.long c1), .second, .val (.long c2), .second, .val (.long y0), .second, .val (.long y1), .second, .unset, .unset, .unset, .unset, .unset, .unset, .unset, .unset, .unset, .unset, .unset] [(.long (0 : Int64))]))
        exact key268 _ (by decide)
      · refine own_by (fun _ kont => XS.ifNo X0.here hx rfl (hb hby at_90) rfl (XT.i0_eq_f hs90) kont) ?_
        show own_Go p e below _ (s₁.setTop (mkF m 93 #[.val (.int i0), .val (.int i1), .val (.long i2), .second, .val (.long i3), .second, .val (.long i4), .second, .val (.long i5), .second, .val (.int v0), .val (.int v1), .val (.int v2), .val (.long c0), .second, .val (.long c1), .second, .val (.long c2), .second, .val (.long y0), .second, .val (.long y1), .second, .unset, .unset, .unset, .unset, .unset, .unset, .unset, .unset, .unset, .unset, .unset] []))
        refine own_by (fun _ kont => XT.lload X0.here hx rfl (hb hby at_93) rfl kont) ?_
        show own_Go p e below _ (s₁.setTop (mkF m 95 #[.val (.int i0), .val (.int i1), .val (.long i2), .second, .val (.long i3), .second, .val (.long i4), .second, .val (.long i5), .second, .val (.int v0), .val (.int v1), .val (.int v2), .val (.long c0), .second, .val (.long c1), .second, .val (.long c2), .second, .val (.long y0), .second, .val (.long y1), .second, .unset, .unset, .unset, .unset, .unset, .unset, .unset, .unset, .unset, .unset, .unset] [(.long c2)]))
        refine own_by (fun _ kont => XS.goto X0.here hx rfl (pc0 := 95) (pc' := 99) rfl (hb hby at_95) (by decide) (by decide) kont) ?_
        show own_Go p e below _ (s₁.setTop (mkF m 99 #[.val (.int i0), .val (.int i1), .val (.long i2), .second, .val (.long i3), .second, .val (.long i4), .second, .val (.long i5), .second, .val (.int v0), .val (.int v1), .val (.int v2), .val (.long c0), .second, .val (.long c1), .second, .val (.long c2), .second, .val (.long y0), .second, .val (.long y1), .second, .unset, .unset, .unset, .unset, .unset, .unset, .unset, .unset, .unset, .unset, .unset] [(.long c2)]))
        exact key268 _ nc2
    by_cases hs76 : (i0 &&& (2 : Int32)) = (0 : Int32)
    · refine own_by (fun _ kont => XS.ifYes X0.here hx rfl (pc0 := 76) (pc' := 84) rfl (hb hby at_76) rfl (XT.i0_eq_t hs76) (by decide) (by decide) kont) ?_
      show own_Go p e below _ (s₁.setTop (mkF m 84 #[.val (.int i0), .val (.int i1), .val (.long i2), .second, .val (.long i3), .second, .val (.long i4), .second, .val (.long i5), .second, .val (.int v0), .val (.int v1), .val (.int v2), .val (.long c0), .second, .val (.long c1), .second, .val (.long c2), .second, .val (.long y0), .second, .unset, .unset, .unset, .unset, .unset, .unset, .unset, .unset, .unset, .unset, .unset, .unset, .unset] []))
      refine own_by (fun _ kont => XT.lconstV X0.here hx rfl (0 : Int64) (hb hby at_84) rfl kont) ?_
      show own_Go p e below _ (s₁.setTop (mkF m 85 #[.val (.int i0), .val (.int i1), .val (.long i2), .second, .val (.long i3), .second, .val (.long i4), .second, .val (.long i5), .second, .val (.int v0), .val (.int v1), .val (.int v2), .val (.long c0), .second, .val (.long c1), .second, .val (.long c2), .second, .val (.long y0), .second, .unset, .unset, .unset, .unset, .unset, .unset, .unset, .unset, .unset, .unset, .unset, .unset, .unset] [(.long (0 : Int64))]))
      exact key267 _ (by decide)
    · refine own_by (fun _ kont => XS.ifNo X0.here hx rfl (hb hby at_76) rfl (XT.i0_eq_f hs76) kont) ?_
      show own_Go p e below _ (s₁.setTop (mkF m 79 #[.val (.int i0), .val (.int i1), .val (.long i2), .second, .val (.long i3), .second, .val (.long i4), .second, .val (.long i5), .second, .val (.int v0), .val (.int v1), .val (.int v2), .val (.long c0), .second, .val (.long c1), .second, .val (.long c2), .second, .val (.long y0), .second, .unset, .unset, .unset, .unset, .unset, .unset, .unset, .unset, .unset, .unset, .unset, .unset, .unset] []))
      refine own_by (fun _ kont => XT.lload X0.here hx rfl (hb hby at_79) rfl kont) ?_
      show own_Go p e below _ (s₁.setTop (mkF m 81 #[.val (.int i0), .val (.int i1), .val (.long i2), .second, .val (.long i3), .second, .val (.long i4), .second, .val (.long i5), .second, .val (.int v0), .val (.int v1), .val (.int v2), .val (.long c0), .second, .val (.long c1), .second, .val (.long c2), .second, .val (.long y0), .second, .unset, .unset, .unset, .unset, .unset, .unset, .unset, .unset, .unset, .unset, .unset, .unset, .unset] [(.long c1)]))
      refine own_by (fun _ kont => XS.goto X0.here hx rfl (pc0 := 81) (pc' := 85) rfl (hb hby at_81) (by decide) (by decide) kont) ?_
      show own_Go p e below _ (s₁.setTop (mkF m 85 #[.val (.int i0), .val (.int i1), .val (.long i2), .second, .val (.long i3), .second, .val (.long i4), .second, .val (.long i5), .second, .val (.int v0), .val (.int v1), .val (.int v2), .val (.long c0), .second, .val (.long c1), .second, .val (.long c2), .second, .val (.long y0), .second, .unset, .unset, .unset, .unset, .unset, .unset, .unset, .unset, .unset, .unset, .unset, .unset, .unset] [(.long c1)]))
      exact key267 _ nc1
  by_cases hs62 : (i0 &&& (1 : Int32)) = (0 : Int32)
  · refine own_by (fun _ kont => XS.ifYes X0.here hx rfl (pc0 := 62) (pc' := 70) rfl (hb hby at_62) rfl (XT.i0_eq_t hs62) (by decide) (by decide) kont) ?_
    show own_Go p e below _ (s₁.setTop (mkF m 70 #[.val (.int i0), .val (.int i1), .val (.long i2), .second, .val (.long i3), .second, .val (.long i4), .second, .val (.long i5), .second, .val (.int v0), .val (.int v1), .val (.int v2), .val (.long c0), .second, .val (.long c1), .second, .val (.long c2), .second, .unset, .unset, .unset, .unset, .unset, .unset, .unset, .unset, .unset, .unset, .unset, .unset, .unset, .unset, .unset] []))
    refine own_by (fun _ kont => XT.lconstV X0.here hx rfl (0 : Int64) (hb hby at_70) rfl kont) ?_
    show own_Go p e below _ (s₁.setTop (mkF m 71 #[.val (.int i0), .val (.int i1), .val (.long i2), .second, .val (.long i3), .second, .val (.long i4), .second, .val (.long i5), .second, .val (.int v0), .val (.int v1), .val (.int v2), .val (.long c0), .second, .val (.long c1), .second, .val (.long c2), .second, .unset, .unset, .unset, .unset, .unset, .unset, .unset, .unset, .unset, .unset, .unset, .unset, .unset, .unset, .unset] [(.long (0 : Int64))]))
    exact key266 _ (by decide)
  · refine own_by (fun _ kont => XS.ifNo X0.here hx rfl (hb hby at_62) rfl (XT.i0_eq_f hs62) kont) ?_
    show own_Go p e below _ (s₁.setTop (mkF m 65 #[.val (.int i0), .val (.int i1), .val (.long i2), .second, .val (.long i3), .second, .val (.long i4), .second, .val (.long i5), .second, .val (.int v0), .val (.int v1), .val (.int v2), .val (.long c0), .second, .val (.long c1), .second, .val (.long c2), .second, .unset, .unset, .unset, .unset, .unset, .unset, .unset, .unset, .unset, .unset, .unset, .unset, .unset, .unset, .unset] []))
    refine own_by (fun _ kont => XT.lload X0.here hx rfl (hb hby at_65) rfl kont) ?_
    show own_Go p e below _ (s₁.setTop (mkF m 67 #[.val (.int i0), .val (.int i1), .val (.long i2), .second, .val (.long i3), .second, .val (.long i4), .second, .val (.long i5), .second, .val (.int v0), .val (.int v1), .val (.int v2), .val (.long c0), .second, .val (.long c1), .second, .val (.long c2), .second, .unset, .unset, .unset, .unset, .unset, .unset, .unset, .unset, .unset, .unset, .unset, .unset, .unset, .unset, .unset] [(.long c0)]))
    refine own_by (fun _ kont => XS.goto X0.here hx rfl (pc0 := 67) (pc' := 71) rfl (hb hby at_67) (by decide) (by decide) kont) ?_
    show own_Go p e below _ (s₁.setTop (mkF m 71 #[.val (.int i0), .val (.int i1), .val (.long i2), .second, .val (.long i3), .second, .val (.long i4), .second, .val (.long i5), .second, .val (.int v0), .val (.int v1), .val (.int v2), .val (.long c0), .second, .val (.long c1), .second, .val (.long c2), .second, .unset, .unset, .unset, .unset, .unset, .unset, .unset, .unset, .unset, .unset, .unset, .unset, .unset, .unset, .unset] [(.long c0)]))
    exact key266 _ nc0
set_option maxRecDepth 65536 in
set_option maxHeartbeats 4000000 in
theorem comes_1 {Post : Tables → Env → Array Value → State → Outcome → State → Prop} (hpost : ∀ tb e args s v u, (limb_1_1.after args s (.returned v) u = true ∧ limb_1_2.after args s (.returned v) u = true ∧ True) → FrameEnd s (.returned v) u (Jvm.fieldLocs frame_1_writes args s ++ Jvm.arrayLocs frame_1_arrays args s ++ Jvm.staticLocs frame_1_statics s) 24 128 → Post tb e args s (.returned v) u) :
    ArmFor flags0 classFile x code maxLocals ret World_1 tables_1 room_1 Calls_1 rest_1 Pre_1 Post := by
  intro l hfl _ _ p e ha hc hk s m args below hf hA hF happ hP
  obtain ⟨hcalls, hrest, hpre⟩ := hP
  obtain ⟨-, -, -, hnamed, -, -, -, hat⟩ := (Spec.applies_iff hf).mp happ
  obtain ⟨hg, hn⟩ := and_e (Cond.before_iff.mp (show (Jvm.Cond.and given_1 narrow_1).before args s = true from hpre))
  obtain ⟨h1, g0⟩ := and_e hg
  obtain ⟨q0, g1⟩ := and_e g0
  obtain ⟨q1, g2⟩ := and_e g1
  obtain ⟨q2, g3⟩ := and_e g2
  obtain ⟨q3, g4⟩ := and_e g3
  obtain ⟨q4, g5⟩ := and_e g4
  obtain ⟨w0, w1, w2, w3, w4, w5, rfl⟩ : ∃ w0 w1 w2 w3 w4 w5 : Value, args = #[w0, w1, w2, w3, w4, w5] := by
    have hs : args.size = 6 := by simpa [Cond.value, given_1] using h1
    obtain ⟨L⟩ := args
    match L, hs with
    | [w0, w1, w2, w3, w4, w5], _ => exact ⟨w0, w1, w2, w3, w4, w5, rfl⟩
  have hw := fun d (hd : d ∈ tables_1) => atoms_spec (ws := Jvm.Cond.code x code maxLocals ret :: tables_1) hat d (List.mem_cons_of_mem _ hd)
  obtain ⟨i0, ei0⟩ := is_v q0
  obtain rfl : w0 = (.int i0) := Option.some.inj ei0
  obtain ⟨i1, ei1⟩ := is_v q1
  obtain rfl : w1 = (.int i1) := Option.some.inj ei1
  obtain ⟨i2, ei2⟩ := isL_v q2
  obtain rfl : w2 = (.long i2) := Option.some.inj ei2
  obtain ⟨i3, ei3⟩ := isL_v q3
  obtain rfl : w3 = (.long i3) := Option.some.inj ei3
  obtain ⟨i4, ei4⟩ := isL_v q4
  obtain rfl : w4 = (.long i4) := Option.some.inj ei4
  obtain ⟨i5, ei5⟩ := isL_v g5
  obtain rfl : w5 = (.long i5) := Option.some.inj ei5
  obtain ⟨n, o, h1, h2, h3, _, L, rfl, ⟨rfl, N⟩, hq⟩ := rmL l s _ hw tables_1 i0 i1 i2 i3 i4 i5 s.heap s.heap.size (Nat.le_refl _) p e ha hc hk s m _ below hf ((Spec.applies_iff_loose hf).mp happ).1 ⟨rfl, State.Warmed39.refl s, rfl⟩ trivial
  refine ⟨n, _, h1, h2, h3, hpost _ _ _ _ _ _ ⟨Cond.after_iff.mpr rfl, Cond.after_iff.mpr (eq_i res_at (Term.int_eval (1)) rfl), trivial⟩ ⟨hq.1, hq.2.1, (hq.2.2.sift fun y hy => Or.inr (N y hy)).mono (by decide) (by decide)⟩⟩
theorem main_1_1 : Claimed_1_1 := comes_1 fun _ _ _ _ _ _ h hF => ⟨h.1, hF⟩
theorem main_1_2 : Claimed_1_2 := comes_1 fun _ _ _ _ _ _ h hF => ⟨h.2.1, hF⟩
end Jvm.Pilot.@@N@@
namespace Jvm.Pilot.@@N@@
open Jvm Jvm.ClassFile Sem Op Lib Jvm.Free Jvm.Stand Jvm.Pilot.@@N@@.Jvm.D
/-! MADE BY PROGRAM (witnessworld.py) out of the Statement's table words and the real class files: 11 classes; the members and pool entries that the words name. The judged class is class 1, her method 3. -/
namespace start1
open Jvm.ClassFile
def u (s : String) : CpInfo := .utf8 (stringToUtf16 s)
/-- a pool by its gaps: so many unusable entries, then the entry; so many at the end -/
def gap : Nat → List CpInfo → List CpInfo
  | 0, r => r
  | n + 1, r => .unusable :: gap n r
def poolList (es : List (Nat × CpInfo)) (last : Nat) : List CpInfo := es.foldr (fun e r => gap e.1 (e.2 :: r)) (gap last [])
def pool (es : List (Nat × CpInfo)) (last : Nat) : Array CpInfo := ⟨poolList es last⟩
def fileOf (pool : Array CpInfo) (this : Nat) (attrs : Array Attribute := #[]) (ms : Array MethodInfo := #[]) (fl : Nat := 33) (sup : Nat := 0) (ifs : Array Nat := #[]) (fds : Array FieldInfo := #[]) : ClassFile where
  minorVersion := 0
  majorVersion := 65
  constantPool := pool
  accessFlags := fl
  thisClass := this
  superClass := sup
  interfaces := ifs
  fields := fds
  methods := ms
  attributes := attrs
def plain (name : String) (sup : Option ClassId) : Class where
  name := name
  kind := .ordinary
  loader := none
  accessFlags := 33
  super := sup
  interfaces := #[]
  cf := none
  fields := #[]
  methods := #[]
  instanceTypes := #[]
  staticTypes := #[]
  resolved := #[]
  callSites := []
  init := .initialized
  statics := none
  mirror := none

def pool0 : Array CpInfo := pool [(5, u "<init>"), (0, u "()V"), (1, .class_ 10), (1, u "java/lang/Object")] 113

def k0c0 : Code := { maxStack := 0, maxLocals := 1, code := object_method_1_code, exceptionTable := #[], attributes := #[] }
def k0m0 : Method := { name := "<init>", desc := "()V", sig := { parameters := [], returnType := none }, accessFlags := 1, code := some k0c0 }
/-- java/lang/Object -/
def k0 : Class := { plain "java/lang/Object" none with
  accessFlags := 33
  interfaces := #[]
  cf := some (fileOf pool0 8 #[] #[{ accessFlags := 1, nameIndex := 5, descriptorIndex := 6, attributes := #[] }] 33 0 #[] #[])
  fields := #[]
  methods := #[k0m0]
  instanceTypes := #[]
  staticTypes := #[]
  resolved := Array.replicate 124 none
  statics := none }

def pool1 : Array CpInfo := pool [(2, .class_ 4), (1, u "java/lang/Object"), (0, u "<init>"), (0, u "()V"), (2, .long 9223372036854775807), (1, .class_ 12), (0, u "com/example/conjecta/conjecta/model/Values"), (0, .methodref 11 14), (0, .nameAndType 5 15), (0, u "([I[J)V"), (0, .integer 1073741823), (0, .methodref 18 19), (0, .class_ 20), (0, .nameAndType 21 22), (0, u "com/example/conjecta/conjecta/model/ValuesAtMostPinLaw"), (0, u "other"), (0, u "(JIJ)J"), (0, .methodref 18 24), (0, .nameAndType 25 26), (0, u "build"), (0, u "(IIIJJJ)Lcom/example/conjecta/conjecta/model/Values;"), (0, .methodref 11 28), (0, .nameAndType 29 30), (0, u "atMost"), (0, u "(Lcom/example/conjecta/conjecta/model/Values;)Z"), (7, u "law"), (0, u "(IIJJJJ)Z")] 2

def k1m0 : Method := { name := "<init>", desc := "()V", sig := { parameters := [], returnType := none }, accessFlags := 1, code := none }
def k1c1 : Code := { maxStack := 4, maxLocals := 5, code := method_2_code, exceptionTable := #[], attributes := #[] }
def k1m1 : Method := { name := "other", desc := "(JIJ)J", sig := { parameters := [.long, .int, .long], returnType := some .long }, accessFlags := 10, code := some k1c1 }
def k1c2 : Code := { maxStack := 5, maxLocals := 13, code := method_3_code, exceptionTable := #[], attributes := #[] }
def k1m2 : Method := { name := "build", desc := "(IIIJJJ)Lcom/example/conjecta/conjecta/model/Values;", sig := { parameters := [.int, .int, .int, .long, .long, .long], returnType := some (.object "com/example/conjecta/conjecta/model/Values") }, accessFlags := 10, code := some k1c2 }
def k1c3 : Code := { maxStack := 9, maxLocals := 34, code := code, exceptionTable := #[], attributes := #[] }
def k1m3 : Method := { name := "law", desc := "(IIJJJJ)Z", sig := { parameters := [.int, .int, .long, .long, .long, .long], returnType := some .boolean }, accessFlags := 9, code := some k1c3 }
/-- com/example/conjecta/conjecta/model/ValuesAtMostPinLaw -/
def k1 : Class := { plain "com/example/conjecta/conjecta/model/ValuesAtMostPinLaw" (some 0) with
  accessFlags := 49
  interfaces := #[]
  cf := some (fileOf pool1 18 #[] #[{ accessFlags := 1, nameIndex := 5, descriptorIndex := 6, attributes := #[] }, { accessFlags := 10, nameIndex := 21, descriptorIndex := 22, attributes := #[] }, { accessFlags := 10, nameIndex := 25, descriptorIndex := 26, attributes := #[] }, { accessFlags := 9, nameIndex := 38, descriptorIndex := 39, attributes := #[] }] 49 2 #[] #[])
  fields := #[]
  methods := #[k1m0, k1m1, k1m2, k1m3]
  instanceTypes := #[]
  staticTypes := #[]
  resolved := Array.replicate 42 none
  statics := none }

def pool2 : Array CpInfo := pool [(3, .methodref 4 5), (0, .class_ 6), (0, .nameAndType 7 8), (0, u "java/lang/Object"), (0, u "<init>"), (0, u "()V"), (0, .fieldref 10 11), (0, .class_ 12), (0, .nameAndType 13 14), (0, u "com/example/conjecta/conjecta/model/Values"), (0, u "variables"), (0, u "[I"), (0, .fieldref 10 16), (0, .nameAndType 17 18), (0, u "values"), (0, u "[J"), (14, u "([I[J)V"), (19, u "UNBOUNDED"), (0, u "J"), (15, u "atMost"), (0, u "(Lcom/example/conjecta/conjecta/model/Values;)Z")] 3

def k2c0 : Code := { maxStack := 2, maxLocals := 3, code := prog_232_method_1_code, exceptionTable := #[], attributes := #[] }
def k2m0 : Method := { name := "<init>", desc := "([I[J)V", sig := { parameters := [(.array .int), (.array .long)], returnType := none }, accessFlags := 0, code := some k2c0 }
def k2c1 : Code := { maxStack := 4, maxLocals := 4, code := prog_232_method_7_code, exceptionTable := #[], attributes := #[] }
def k2m1 : Method := { name := "atMost", desc := "(Lcom/example/conjecta/conjecta/model/Values;)Z", sig := { parameters := [(.object "com/example/conjecta/conjecta/model/Values")], returnType := some .boolean }, accessFlags := 0, code := some k2c1 }
/-- com/example/conjecta/conjecta/model/Values -/
def k2 : Class := { plain "com/example/conjecta/conjecta/model/Values" (some 0) with
  accessFlags := 48
  interfaces := #[]
  cf := some (fileOf pool2 10 #[] #[{ accessFlags := 0, nameIndex := 7, descriptorIndex := 33, attributes := #[] }, { accessFlags := 0, nameIndex := 70, descriptorIndex := 71, attributes := #[] }] 48 4 #[] #[{ accessFlags := 24, nameIndex := 53, descriptorIndex := 54, attributes := #[] }, { accessFlags := 18, nameIndex := 13, descriptorIndex := 14, attributes := #[] }, { accessFlags := 18, nameIndex := 17, descriptorIndex := 18, attributes := #[] }])
  fields := #[{ name := "UNBOUNDED", type := .long, accessFlags := 24, slot := 0, constantValue := 0 }, { name := "variables", type := (.array .int), accessFlags := 18, slot := 0, constantValue := 0 }, { name := "values", type := (.array .long), accessFlags := 18, slot := 1, constantValue := 0 }]
  methods := #[k2m0, k2m1]
  instanceTypes := #[(.array .int), (.array .long)]
  staticTypes := #[.long]
  resolved := Array.replicate 75 none
  statics := none }

def pool3 : Array CpInfo := pool [(1, u "java/lang/Cloneable"), (0, .class_ 1), (0, u "java/lang/Object"), (0, .class_ 3)] 3

/-- java/lang/Cloneable -/
def k3 : Class := { plain "java/lang/Cloneable" (some 0) with
  accessFlags := 1537
  interfaces := #[]
  cf := some (fileOf pool3 2 #[] #[] 1537 4 #[] #[])
  fields := #[]
  methods := #[]
  instanceTypes := #[]
  staticTypes := #[]
  resolved := Array.replicate 8 none
  statics := none }

def pool4 : Array CpInfo := pool [(1, u "java/io/Serializable"), (0, .class_ 1), (0, u "java/lang/Object"), (0, .class_ 3)] 3

/-- java/io/Serializable -/
def k4 : Class := { plain "java/io/Serializable" (some 0) with
  accessFlags := 1537
  interfaces := #[]
  cf := some (fileOf pool4 2 #[] #[] 1537 4 #[] #[])
  fields := #[]
  methods := #[]
  instanceTypes := #[]
  staticTypes := #[]
  resolved := Array.replicate 8 none
  statics := none }

/-- the primitive byte -/
def k5 : Class := { plain "byte" none with kind := .primitive 'B', accessFlags := 0x411 }
/-- [B -/
def k6 : Class := { plain "[B" (some 0) with kind := .array 5 .byte, interfaces := #[3, 4], accessFlags := 1041 }

/-- the primitive int -/
def k7 : Class := { plain "int" none with kind := .primitive 'I', accessFlags := 0x411 }
/-- [I -/
def k8 : Class := { plain "[I" (some 0) with kind := .array 7 .int, interfaces := #[3, 4], accessFlags := 1041 }

/-- the primitive long -/
def k9 : Class := { plain "long" none with kind := .primitive 'J', accessFlags := 0x411 }
/-- [J -/
def k10 : Class := { plain "[J" (some 0) with kind := .array 9 .long, interfaces := #[3, 4], accessFlags := 1041 }

def heap : Heap := #[]
def classes : Array Class := #[k0, k1, k2, k3, k4, k5, k6, k7, k8, k9, k10]
def interned : List (Array UInt16 × Addr) := []
def slotsUsed : Nat := 0
def theMethod : MethodId := ⟨1, 3⟩
def args0 : Array Value := #[.int 5, .int 6, .long 7, .long 8, .long 9, .long 10]
def aboutOver (below : List Frame) : State where
  vm := { classes := classes, interned := interned.toArray }
  heap := heap
  slotsUsed := slotsUsed
  threads := #[{ frames := .invoking theMethod args0 :: below }]
def below0 : List Frame := [.native { method := ⟨0, 0⟩, args := #[] }]
def about1 : State := aboutOver below0
def p0 : Program := .bare "" "" ""
def e0 : Env := launch0.env 0 0 0
theorem w_frames : about1.frames = Frame.invoking theMethod args0 :: below0 := rfl
set_option maxRecDepth 65536 in
theorem w_args : argsFit about1.vm theMethod args0 = true := by decide +kernel
set_option maxRecDepth 65536 in
theorem w_heap : heapFits about1 = true := by decide +kernel
set_option maxRecDepth 65536 in
theorem w_runnable : about1.curStatus? = some .runnable := by decide +kernel
set_option maxRecDepth 65536 in
theorem w_alone : about1.alone = true := by decide +kernel
set_option maxRecDepth 65536 in
theorem w_named : about1.methodNamed? x = some theMethod := by decide +kernel
set_option maxRecDepth 65536 in
theorem w_hears : about1.hears theMethod below0 = true := by decide +kernel
set_option maxRecDepth 65536 in
theorem w_ripe : about1.ripe theMethod args0 below0 = true := by decide +kernel
theorem w_running : about1.status = .running := rfl
set_option maxRecDepth 65536 in
theorem w_room : about1.hasRoom e0.platform room_1 = true :=
  launch0.hasRoom_least _ room_1 (by decide +kernel) (by decide +kernel) (by decide +kernel) (by decide +kernel) (by decide +kernel) (by decide +kernel)
theorem allAtoms_all (ts : List Jvm.Cond) (a : Array Jvm.Value) (st : Jvm.State) : (allAtoms ts).before a st = ts.all (fun c => c.before a st) := by
  induction ts with
  | nil => rfl
  | cons c t ih =>
    show (Jvm.Cond.and c (allAtoms t)).before a st = _
    rw [Jvm.Cond.before_and, ih, List.all_cons]
def words1 : List Jvm.Cond := Jvm.Cond.code x code maxLocals ret :: tables_1
/-- a 'code' word, met by the world's own term for the bytes: nothing is compared byte by byte -/
theorem code_word {y : MethodName} {bytes : ByteArray} {mx : Nat} {rt : Option FieldType} {a : Array Value} {s : State} {m : MethodId} {meth : Method} {c : Code} (h1 : s.methodNamed? y = some m) (h2 : s.vm.method? m = some meth) (h3 : meth.code = some c) (h4 : c.code = bytes)
    (h5 : (c.maxLocals == mx && c.exceptionTable.isEmpty && decide (c.maxStack ≤ mostOperands) && decide (meth.sig.returnType = rt) && !meth.locks && decide (parseMethodDescriptor y.desc = some meth.sig)) = true) : (Jvm.Cond.code y bytes mx rt).before a s = true := by
  simp only [Bool.and_eq_true, beq_iff_eq, Bool.not_eq_true', decide_eq_true_eq] at h5
  obtain ⟨⟨⟨⟨⟨g1, g2⟩, g3⟩, g4⟩, g5⟩, g6⟩ := h5
  simp [Cond.before, Cond.holds, Cond.value, h1, h2, h3, h4, g1, g2, g3, g4, g5, g6]
def isCode : Jvm.Cond → Bool
  | .code _ _ _ _ => true
  | _ => false
theorem all_split {L : List Jvm.Cond} {P : Jvm.Cond → Bool} (h1 : L.all (fun c => isCode c || P c) = true) (h2 : ∀ c ∈ L.filter isCode, P c = true) : L.all P = true := by
  refine List.all_eq_true.mpr fun c hc => ?_
  have h := List.all_eq_true.mp h1 c hc
  rcases Bool.eq_false_or_eq_true (isCode c) with hi | hi
  · exact h2 c (List.mem_filter.mpr ⟨hc, hi⟩)
  · simpa [hi] using h
set_option maxRecDepth 65536 in
theorem w_c0 : (Jvm.Cond.code x code maxLocals ret).before args0 about1 = true := code_word (m := ⟨1, 3⟩) (meth := k1m3) (c := k1c3) (by decide +kernel) rfl rfl rfl (by decide +kernel)
set_option maxRecDepth 65536 in
theorem w_c1 : (Jvm.Cond.code ({ cls := "com/example/conjecta/conjecta/model/ValuesAtMostPinLaw", name := "build", desc := "(IIIJJJ)Lcom/example/conjecta/conjecta/model/Values;" } : Jvm.MethodName) method_3_code (13 : Nat) (Option.some (Jvm.ClassFile.FieldType.object "com/example/conjecta/conjecta/model/Values"))).before args0 about1 = true := code_word (m := ⟨1, 2⟩) (meth := k1m2) (c := k1c2) (by decide +kernel) rfl rfl rfl (by decide +kernel)
set_option maxRecDepth 65536 in
theorem w_c2 : (Jvm.Cond.code ({ cls := "com/example/conjecta/conjecta/model/Values", name := "<init>", desc := "([I[J)V" } : Jvm.MethodName) prog_232_method_1_code (3 : Nat) (Option.none : Option Jvm.ClassFile.FieldType)).before args0 about1 = true := code_word (m := ⟨2, 0⟩) (meth := k2m0) (c := k2c0) (by decide +kernel) rfl rfl rfl (by decide +kernel)
set_option maxRecDepth 65536 in
theorem w_c3 : (Jvm.Cond.code ({ cls := "java/lang/Object", name := "<init>", desc := "()V" } : Jvm.MethodName) object_method_1_code (1 : Nat) (Option.none : Option Jvm.ClassFile.FieldType)).before args0 about1 = true := code_word (m := ⟨0, 0⟩) (meth := k0m0) (c := k0c0) (by decide +kernel) rfl rfl rfl (by decide +kernel)
set_option maxRecDepth 65536 in
theorem w_c4 : (Jvm.Cond.code ({ cls := "com/example/conjecta/conjecta/model/Values", name := "atMost", desc := "(Lcom/example/conjecta/conjecta/model/Values;)Z" } : Jvm.MethodName) prog_232_method_7_code (4 : Nat) (Option.some Jvm.ClassFile.FieldType.boolean)).before args0 about1 = true := code_word (m := ⟨2, 1⟩) (meth := k2m1) (c := k2c1) (by decide +kernel) rfl rfl rfl (by decide +kernel)
set_option maxRecDepth 65536 in
theorem w_c5 : (Jvm.Cond.code ({ cls := "com/example/conjecta/conjecta/model/ValuesAtMostPinLaw", name := "other", desc := "(JIJ)J" } : Jvm.MethodName) method_2_code (5 : Nat) (Option.some Jvm.ClassFile.FieldType.long)).before args0 about1 = true := code_word (m := ⟨1, 1⟩) (meth := k1m1) (c := k1c1) (by decide +kernel) rfl rfl rfl (by decide +kernel)
def codes1 : List Jvm.Cond := [Jvm.Cond.code x code maxLocals ret, Jvm.Cond.code ({ cls := "com/example/conjecta/conjecta/model/ValuesAtMostPinLaw", name := "build", desc := "(IIIJJJ)Lcom/example/conjecta/conjecta/model/Values;" } : Jvm.MethodName) method_3_code (13 : Nat) (Option.some (Jvm.ClassFile.FieldType.object "com/example/conjecta/conjecta/model/Values")), Jvm.Cond.code ({ cls := "com/example/conjecta/conjecta/model/Values", name := "<init>", desc := "([I[J)V" } : Jvm.MethodName) prog_232_method_1_code (3 : Nat) (Option.none : Option Jvm.ClassFile.FieldType), Jvm.Cond.code ({ cls := "java/lang/Object", name := "<init>", desc := "()V" } : Jvm.MethodName) object_method_1_code (1 : Nat) (Option.none : Option Jvm.ClassFile.FieldType), Jvm.Cond.code ({ cls := "com/example/conjecta/conjecta/model/Values", name := "atMost", desc := "(Lcom/example/conjecta/conjecta/model/Values;)Z" } : Jvm.MethodName) prog_232_method_7_code (4 : Nat) (Option.some Jvm.ClassFile.FieldType.boolean), Jvm.Cond.code ({ cls := "com/example/conjecta/conjecta/model/ValuesAtMostPinLaw", name := "other", desc := "(JIJ)J" } : Jvm.MethodName) method_2_code (5 : Nat) (Option.some Jvm.ClassFile.FieldType.long)]
set_option maxRecDepth 65536 in
theorem codes_eq : words1.filter isCode = codes1 := rfl
theorem w_codes : ∀ c ∈ words1.filter isCode, c.before args0 about1 = true := by
  rw [codes_eq]
  intro c hc
  simp only [codes1, List.mem_cons, List.not_mem_nil, or_false] at hc
  rcases hc with rfl | rfl | rfl | rfl | rfl | rfl
  · exact w_c0
  · exact w_c1
  · exact w_c2
  · exact w_c3
  · exact w_c4
  · exact w_c5
set_option maxRecDepth 65536 in
theorem w_t1 : (words1.take 24).all (fun c => isCode c || c.before args0 about1) = true := by decide +kernel
set_option maxRecDepth 65536 in
theorem w_t2 : (words1.drop 24).all (fun c => isCode c || c.before args0 about1) = true := by decide +kernel
theorem w_tables : (allAtoms (Jvm.Cond.code x code maxLocals ret :: tables_1)).before args0 about1 = true := by
  rw [allAtoms_all]
  show words1.all (fun c => c.before args0 about1) = true
  refine all_split ?_ w_codes
  rw [← List.take_append_drop 24 words1, List.all_append, w_t1, w_t2]
  rfl
set_option maxRecDepth 65536 in
theorem w_case : (Jvm.Cond.and given_1 narrow_1).before args0 about1 = true := by decide +kernel
theorem w_applies : (headSpec (Jvm.Cond.code x code maxLocals ret :: tables_1) room_1).applies x e0.platform about1 = true :=
  (Spec.applies_iff w_frames).mpr ⟨w_running, w_runnable, w_alone, w_named, w_hears, w_ripe, w_room, w_tables⟩
theorem atStart : AtStart classFile x code maxLocals ret World_1 tables_1 room_1 Calls_1 rest_1 Pre_1 launch0 p0 e0 about1 theMethod args0 below0 :=
  ⟨lists_1, trivial, launch0.admits_env _ _ _, launch0.least_env, fairChoices_fair.cas, fairChoices_fair.clock, w_frames, w_args, w_heap, w_applies, trivial, trivial, w_case⟩
end start1
theorem witness_1 : WitnessClaimed_1 := ⟨start1.p0, start1.e0, start1.about1, start1.theMethod, start1.args0, start1.below0, start1.atStart⟩
end Jvm.Pilot.@@N@@
