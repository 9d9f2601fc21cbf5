import JvmDerived
import JvmDerived.Pilot.@@N@@Statement
import JvmDerived.Pilot.@@N@@Code
set_option linter.unusedVariables false
set_option linter.unusedSimpArgs false
namespace Jvm.Pilot.@@N@@
open Jvm Jvm.ClassFile Sem Op Lib Jvm.Free Jvm.Stand Jvm.LawKit Jvm.RoadKit Bundle Jvm.Pilot.@@N@@.Jvm.D
/-- what the end of a body says -/
def own_K (s : State) (Q : Option Value → Heap → List Loc → Prop) (C S : Nat) (o : Outcome) (U : State) : Prop := ∃ v L, o = .returned v ∧ Q v U.heap L ∧ FrameEnd s o U L C S
/-- the run goes from S to a return of which K is true -/
def own_Go (p : Program) (e : Env) (below : List Frame) (K : Outcome → State → Prop) (S : State) : Prop := ∃ s₂ o, Steps p.tables e below S s₂ ∧ s₂.status = .running ∧ Ended s₂ below o ∧ K o s₂
/-- the answer of a body that leaves the heap alone -/
def own_Q (val : Value) (h0 : Heap) (n0 : Nat) (v : Option Value) (h : Heap) (L : List Loc) : Prop := v = some val ∧ Fr n0 L ∧ h = h0
section Own
variable {p : Program} {l : Launch} {e : Env} {R : Room} {s : State} {m : MethodId} {args : Array Value} {below : List Frame} {meth : Method} {c : Code} {T : State} {locs : List Loc} {cells slots : Nat} {K : Outcome → State → Prop} {Q : Option Value → Heap → List Loc → Prop} {C S : Nat}
theorem own_by {S S' : State} (h : ∀ t, Steps p.tables e below S' t → Steps p.tables e below S t) (g : own_Go p e below K S') : own_Go p e below K S := by
  obtain ⟨u, o, st, r⟩ := g
  exact ⟨u, o, h u st, r⟩
theorem own_tr {S S' : State} (h : Steps p.tables e below S S') (g : own_Go p e below K S') : own_Go p e below K S := own_by (fun _ k => h.trans k) g
theorem own_hide {n0 : Nat} (X : Stand p l e R s m args below meth c T locs cells slots) (N : Fr n0 locs) : ∃ L, Stand p l e R s m args below meth c T L cells slots ∧ Fr n0 L := ⟨_, X, N⟩
/-- return of a value that is of its kind -/
theorem own_ret (X : Stand p l e R s m args below meth c T locs cells slots) (hx : p.tables.exec = Jvm.exec) (hlk : meth.locks = false) {pc : Nat} {Ls : Array Slot} {w : Value} {t : FieldType} {i : Instr} {rest : List Value} (hret : meth.sig.returnType = some t) (hn : narrow t w = w)
    (hi : (i = .ireturn ∧ (t = .int ∨ t = .boolean ∨ t = .byte ∨ t = .char ∨ t = .short) ∧ ∃ z, w = .int z) ∨ (i = .lreturn ∧ t = .long ∧ ∃ z, w = .long z) ∨ (i = .dreturn ∧ t = .double ∧ ∃ z, w = .double z) ∨ (i = .freturn ∧ t = .float ∧ ∃ z, w = .float z) ∨ (i = .areturn ∧ t.isReference = true ∧ w.isRef = true))
    (hd : decode c.code pc = .ok (i, 1)) (hQ : Q (some w) T.heap locs) (hc : cells ≤ C) (hs : slots ≤ S) : own_Go p e below (own_K s Q C S) (T.setTop (mkF m pc Ls (w :: rest))) := by
  obtain ⟨fs, hr, hrun, hended, hW, hsame⟩ := X.leave (v := some w) (fun h => by rw [hret] at h; cases h) hlk
  exact ⟨_, _, retOut X hx hret hn hi hd hr, hrun, hended, _, _, rfl, hQ, ⟨_, rfl⟩, hW, hsame.mono hc hs⟩
/-- return of a boolean, byte, char or short, narrowed -/
theorem own_retN (X : Stand p l e R s m args below meth c T locs cells slots) (hx : p.tables.exec = Jvm.exec) (hlk : meth.locks = false) {pc : Nat} {Ls : Array Slot} {z : Int32} {t : FieldType} {rest : List Value} (hret : meth.sig.returnType = some t) (ht : t = .boolean ∨ t = .byte ∨ t = .char ∨ t = .short)
    (hd : decode c.code pc = .ok (.ireturn, 1)) (hQ : Q (some (.int (nar t z))) T.heap locs) (hc : cells ≤ C) (hs : slots ≤ S) : own_Go p e below (own_K s Q C S) (T.setTop (mkF m pc Ls (.int z :: rest))) := by
  obtain ⟨fs, hr, hrun, hended, hW, hsame⟩ := X.leave (v := some (.int (nar t z))) (fun h => by rw [hret] at h; cases h) hlk
  exact ⟨_, _, retN X hx hret ht hd hr, hrun, hended, _, _, rfl, hQ, ⟨_, rfl⟩, hW, hsame.mono hc hs⟩
/-- return of nothing -/
theorem own_retV (X : Stand p l e R s m args below meth c T locs cells slots) (hx : p.tables.exec = Jvm.exec) (hlk : meth.locks = false) {pc : Nat} {Ls : Array Slot} (hret : meth.sig.returnType = none)
    (hd : decode c.code pc = .ok (.return_, 1)) (hQ : Q none T.heap locs) (hc : cells ≤ C) (hs : slots ≤ S) : own_Go p e below (own_K s Q C S) (T.setTop (mkF m pc Ls [])) := by
  obtain ⟨fs, hr, hrun, hended, hW, hsame⟩ := X.leave (v := none) (fun _ => rfl) hlk
  exact ⟨_, _, X.returnOut hx hret hd hr, hrun, hended, _, _, rfl, hQ, ⟨_, rfl⟩, hW, hsame.mono hc hs⟩
end Own
/-- the array at a holds n ints, the i-th is f i -/
def own_IA (Z : State) (h : Heap) (a : Addr) (n : Nat) (f : Nat → Int32) : Prop := ∃ c : Cell, Arr Z h a c .int ∧ c.slots.size = n ∧ ∀ i, i < n → c.slots[i]? = some (.int (f i))
theorem own_clamp (j : Int32) : j.toNatClampNeg = j.toInt.toNat := rfl
theorem own_in {j : Int32} {k n : Nat} (hk : k = n) (h0 : 0 ≤ j.toInt) (h1 : j.toInt < n) : ¬ (j < 0 ∨ k ≤ j.toNatClampNeg) := by
  rw [own_clamp, Int32.lt_iff_toInt_lt]
  have : (0 : Int32).toInt = 0 := by decide
  omega
section OwnA
variable {p : Program} {l : Launch} {e : Env} {R : Room} {s : State} {m : MethodId} {args : Array Value} {below : List Frame} {meth : Method} {c : Code} {T : State} {locs : List Loc} {cells slots : Nat} {Z : State} {a0 : Array Value} {h h' : Heap} {a b : Addr} {n sl : Nat} {f : Nat → Int32} {v : Value} {ws : List Addr}
theorem own_IA_lt (F : own_IA Z h a n f) : a < h.size := by obtain ⟨c, A, -⟩ := F; exact A.lt
theorem own_IA_ext (F : own_IA Z h a n f) (E : Ext h h') : own_IA Z h' a n f := by obtain ⟨c, A, r⟩ := F; exact ⟨c, A.ext E, r⟩
theorem own_IA_other (F : own_IA Z h b n f) (W : Wr h h' a sl v) (q : b ≠ a) : own_IA Z h' b n f := by obtain ⟨c, A, r⟩ := F; exact ⟨c, A.other W q, r⟩
theorem own_IA_keep (F : own_IA Z h a n f) (K : Keep h h' ws) (q : a ∉ ws) : own_IA Z h' a n f := by obtain ⟨c, A, r⟩ := F; exact ⟨c, ⟨K.2.1 a c A.1 q, A.2⟩, r⟩
theorem own_IA_congr {f' : Nat → Int32} (F : own_IA Z h a n f) (q : ∀ i, i < n → f i = f' i) : own_IA Z h a n f' := by obtain ⟨c, A, S, r⟩ := F; exact ⟨c, A, S, fun i hi => by rw [r i hi, q i hi]⟩
theorem own_newIA (X : Stand p l e R s m args below meth c T locs cells slots) (hx : p.tables.exec = Jvm.exec) (hZ : Z.Warmed39 s.vm) (w : (Cond.arrayClass .int).before a0 Z = true) (eT : T.heap = h) {g : JFrame} (hg : g.method = m) (hd : decode c.code g.pc = .ok (.newarray .int, 2)) {z : Int32} {rest : List Value} (hs : g.stack = .int z :: rest)
    (n : Nat) (hn : z.toInt = n) {cap : Nat} (hcap : n ≤ cap) (hb : cap * 8 ≤ 536870912) (hc : cells + 1 ≤ R.cells) (hl : slots + cap ≤ R.slots) :
    ∃ (T' : State) (h' : Heap) (a : Addr), Stand p l e R s m args below meth c T' locs (cells + 1) (slots + cap) ∧ T'.heap = h' ∧ a = h.size ∧ Ext h h' ∧ own_IA Z h' a n (fun _ => 0) ∧
      ∀ target, Steps p.tables e below (T'.setTop { g with pc := g.pc + 2, stack := .ref a :: rest }) target → Steps p.tables e below (T.setTop g) target := by
  have hz : ¬ z < 0 := by
    rw [Int32.lt_iff_toInt_lt]
    have : (0 : Int32).toInt = 0 := by decide
    omega
  have hk : z.toNatClampNeg = n := by rw [own_clamp]; omega
  obtain ⟨T', h', cA, X', e', E', A', st⟩ := newP (aty := .int) X hx hZ w eT hg hd hs hz (cap := cap) (by omega) hb hc hl
  refine ⟨T', h', h.size, X', e', rfl, E', ⟨_, A', ?_, fun i hi => ?_⟩, st⟩
  · rw [sz_new]; exact hk
  · show (Array.replicate z.toNatClampNeg (defaultValue .int))[i]? = _
    rw [hk, Array.getElem?_replicate, if_pos hi]; rfl
theorem own_stIA (X : Stand p l e R s m args below meth c T locs cells slots) (hx : p.tables.exec = Jvm.exec) (hZ : Z.Warmed39 s.vm) (eT : T.heap = h) (F : own_IA Z h a n f) {j x : Int32} (h0 : 0 ≤ j.toInt) (h1 : j.toInt < n) {g : JFrame} (hg : g.method = m) {rest : List Value} (hs : g.stack = .int x :: .int j :: .ref a :: rest) (hd : decode c.code g.pc = .ok (.iastore, 1)) :
    ∃ T' h', Stand p l e R s m args below meth c T' (locs ++ [⟨a, j.toNatClampNeg⟩]) cells slots ∧ T'.heap = h' ∧ Wr h h' a j.toNatClampNeg (.int x) ∧ own_IA Z h' a n (fun i => if (i : Int) = j.toInt then x else f i) ∧ ∀ target, Steps p.tables e below (T'.setTop { g with pc := g.pc + 1, stack := rest }) target → Steps p.tables e below (T.setTop g) target := by
  obtain ⟨cl, A, S, V⟩ := F
  obtain ⟨T', h', X', e', W, st⟩ := stI X hx hZ eT A (own_in S h0 h1) hg hs hd
  refine ⟨T', h', X', e', W, ⟨_, A.same W, ?_, fun i hi => ?_⟩, st⟩
  · rw [sz_set]; exact S
  · show (cl.slots.setIfInBounds j.toNatClampNeg (.int x))[i]? = some (.int (if (i : Int) = j.toInt then x else f i))
    rw [Array.getElem?_setIfInBounds, own_clamp]
    by_cases q : (i : Int) = j.toInt
    · rw [if_pos (by omega), if_pos (by omega), if_pos q]
    · rw [if_neg (by omega), if_neg q, V i hi]
theorem own_ldIA {target : State} (X : Stand p l e R s m args below meth c T locs cells slots) (hx : p.tables.exec = Jvm.exec) (hZ : Z.Warmed39 s.vm) (eT : T.heap = h) (F : own_IA Z h a n f) {j : Int32} (h0 : 0 ≤ j.toInt) (h1 : j.toInt < n) {g : JFrame} (hg : g.method = m) {rest : List Value} (hs : g.stack = .int j :: .ref a :: rest) (hd : decode c.code g.pc = .ok (.iaload, 1))
    (hr : Steps p.tables e below (T.setTop { g with pc := g.pc + 1, stack := .int (f j.toInt.toNat) :: rest }) target) : Steps p.tables e below (T.setTop g) target := by
  obtain ⟨cl, A, S, V⟩ := F
  exact X.iaload hx (by rw [eT]; exact A.1) (State.isArrayOf_alike hZ.alike A.2.1) A.2.2 (own_in S h0 h1) (by rw [own_clamp]; exact V _ (by omega)) hg hs hd target hr
theorem own_stN (X : Stand p l e R s m args below meth c T locs cells slots) (hx : p.tables.exec = Jvm.exec) (hZ : Z.Warmed39 s.vm) (eT : T.heap = h) (F : own_IA Z h a n f) {j x : Int32} (k : Nat) (hj : j.toInt = k) (h1 : k < n) {g : JFrame} (hg : g.method = m) {rest : List Value} (hs : g.stack = .int x :: .int j :: .ref a :: rest) (hd : decode c.code g.pc = .ok (.iastore, 1)) :
    ∃ T' h', Stand p l e R s m args below meth c T' (locs ++ [⟨a, j.toNatClampNeg⟩]) cells slots ∧ T'.heap = h' ∧ Wr h h' a j.toNatClampNeg (.int x) ∧ own_IA Z h' a n (fun i => if i = k then x else f i) ∧ ∀ target, Steps p.tables e below (T'.setTop { g with pc := g.pc + 1, stack := rest }) target → Steps p.tables e below (T.setTop g) target := by
  obtain ⟨T', h', X', e', W, H, st⟩ := own_stIA X hx hZ eT F (j := j) (x := x) (by omega) (by omega) hg hs hd
  refine ⟨T', h', X', e', W, own_IA_congr H fun i hi => ?_, st⟩
  show (if (i : Int) = j.toInt then x else f i) = (if i = k then x else f i)
  by_cases q : i = k
  · rw [if_pos (by omega), if_pos q]
  · rw [if_neg (by omega), if_neg q]
theorem own_ldN {target : State} (X : Stand p l e R s m args below meth c T locs cells slots) (hx : p.tables.exec = Jvm.exec) (hZ : Z.Warmed39 s.vm) (eT : T.heap = h) (F : own_IA Z h a n f) {j : Int32} (k : Nat) (hj : j.toInt = k) (h1 : k < n) {g : JFrame} (hg : g.method = m) {rest : List Value} (hs : g.stack = .int j :: .ref a :: rest) (hd : decode c.code g.pc = .ok (.iaload, 1))
    (hr : Steps p.tables e below (T.setTop { g with pc := g.pc + 1, stack := .int (f k) :: rest }) target) : Steps p.tables e below (T.setTop g) target := by
  refine own_ldIA X hx hZ eT F (j := j) (by omega) (by omega) hg hs hd ?_
  rw [show j.toInt.toNat = k by omega]; exact hr
theorem own_lenIA {target : State} (X : Stand p l e R s m args below meth c T locs cells slots) (hx : p.tables.exec = Jvm.exec) (hZ : Z.Warmed39 s.vm) (eT : T.heap = h) (F : own_IA Z h a n f) {z : Int32} (hz : n.toInt32 = z) {g : JFrame} (hg : g.method = m) {rest : List Value} (hs : g.stack = .ref a :: rest) (hd : decode c.code g.pc = .ok (.arraylength, 1))
    (hr : Steps p.tables e below (T.setTop { g with pc := g.pc + 1, stack := .int z :: rest }) target) : Steps p.tables e below (T.setTop g) target := by
  obtain ⟨cl, A, S, V⟩ := F
  refine X.arraylength hx (by rw [eT]; exact A.1) (State.isArrayOf_alike hZ.alike A.2.1) hg hs hd target ?_
  rw [S, hz]; exact hr
end OwnA
theorem own_i {k : Nat} (h : k ≤ 100) : (Int32.ofNat k).toInt = k := Int32.toInt_ofNat_of_lt (by omega)
theorem own_inj {a b : Nat} (ha : a ≤ 100) (hb : b ≤ 100) : Int32.ofNat a = Int32.ofNat b ↔ a = b := by
  rw [← Int32.toInt_inj, own_i ha, own_i hb]; omega
theorem own_inc {k : Nat} (h : k ≤ 99) : Int32.ofNat k + 1 = Int32.ofNat (k + 1) := Int32.toInt_inj.mp (by
  rw [XT.add32 (by rw [own_i (by omega), show (1 : Int32).toInt = 1 from rfl]; constructor <;> omega), own_i (by omega), own_i (by omega)]; rfl)
theorem own_dec {k : Nat} (h : k ≤ 99) (h1 : 1 ≤ k) : Int32.ofNat k - 1 = Int32.ofNat (k - 1) := Int32.toInt_inj.mp (by
  rw [XT.sub32 (by rw [own_i (by omega), show (1 : Int32).toInt = 1 from rfl]; constructor <;> omega), own_i (by omega), own_i (by omega), show (1 : Int32).toInt = 1 from rfl]; omega)
/-- the queue at q with its store t: head and tail -/
def own_Inv (Z : State) (h : Heap) (n0 : Nat) (q t : Addr) (hd tl : Nat) : Prop := Exa Z h q "com/example/conjecta/conjecta/model/NumberQueue" ∧ Fld Z h q "com/example/conjecta/conjecta/model/NumberQueue" "numbers" "[I" (.ref t) ∧ Fld Z h q "com/example/conjecta/conjecta/model/NumberQueue" "head" "I" (.int (Int32.ofNat hd)) ∧ Fld Z h q "com/example/conjecta/conjecta/model/NumberQueue" "tail" "I" (.int (Int32.ofNat tl)) ∧ (∃ f, own_IA Z h t 64 f) ∧ q ≠ t ∧ n0 ≤ q ∧ n0 ≤ t ∧ n0 ≤ h.size
theorem own_pn0 : plainName "com/example/conjecta/conjecta/model/NumberQueue" = true := by first | (simp [plainName, overriddenIn]; done) | decide +kernel
theorem own_pd1 : parseMethodDescriptor "()V" = some ⟨[], none⟩ := by decide +kernel
theorem d1_0 : decode prog_185_method_1_code 0 = .ok (.aload_n 0, 1) := by decide +kernel
theorem d1_1 : decode prog_185_method_1_code 1 = .ok (.invokespecial 1, 3) := by decide +kernel
theorem d1_4 : decode prog_185_method_1_code 4 = .ok (.aload_n 0, 1) := by decide +kernel
theorem d1_5 : decode prog_185_method_1_code 5 = .ok (.bipush 64, 2) := by decide +kernel
theorem d1_7 : decode prog_185_method_1_code 7 = .ok (.newarray .int, 2) := by decide +kernel
theorem d1_9 : decode prog_185_method_1_code 9 = .ok (.putfield 7, 3) := by decide +kernel
theorem d1_12 : decode prog_185_method_1_code 12 = .ok (.return_, 1) := by decide +kernel
theorem own_pd2 : parseMethodDescriptor "()Z" = some ⟨[], some .boolean⟩ := by decide +kernel
theorem d3_0 : decode prog_185_method_2_code 0 = .ok (.aload_n 0, 1) := by decide +kernel
theorem d3_1 : decode prog_185_method_2_code 1 = .ok (.getfield 13, 3) := by decide +kernel
theorem d3_4 : decode prog_185_method_2_code 4 = .ok (.aload_n 0, 1) := by decide +kernel
theorem d3_5 : decode prog_185_method_2_code 5 = .ok (.getfield 17, 3) := by decide +kernel
theorem d3_8 : decode prog_185_method_2_code 8 = .ok (.if_icmp .ne 7, 3) := by decide +kernel
theorem d3_11 : decode prog_185_method_2_code 11 = .ok (.iconst 1, 1) := by decide +kernel
theorem d3_12 : decode prog_185_method_2_code 12 = .ok (.goto 4, 3) := by decide +kernel
theorem d3_15 : decode prog_185_method_2_code 15 = .ok (.iconst 0, 1) := by decide +kernel
theorem d3_16 : decode prog_185_method_2_code 16 = .ok (.ireturn, 1) := by decide +kernel
theorem own_pn3 : plainName "com/example/conjecta/conjecta/model/NumberQueueIsEmptyPinLaw" = true := by first | (simp [plainName, overriddenIn]; done) | decide +kernel
theorem own_pd4 : parseMethodDescriptor "(Lcom/example/conjecta/conjecta/model/NumberQueue;IZI)I" = some ⟨[(.object "com/example/conjecta/conjecta/model/NumberQueue"), .int, .boolean, .int], some .int⟩ := by decide +kernel
theorem d4_0 : decode method_3_code 0 = .ok (.iload_n 2, 1) := by decide +kernel
theorem d4_1 : decode method_3_code 1 = .ok (.ifCond .eq 16, 3) := by decide +kernel
theorem d4_4 : decode method_3_code 4 = .ok (.iload_n 1, 1) := by decide +kernel
theorem d4_5 : decode method_3_code 5 = .ok (.ifCond .le 12, 3) := by decide +kernel
theorem d4_8 : decode method_3_code 8 = .ok (.aload_n 0, 1) := by decide +kernel
theorem d4_9 : decode method_3_code 9 = .ok (.invokevirtual 20, 3) := by decide +kernel
theorem d4_12 : decode method_3_code 12 = .ok (.pop, 1) := by decide +kernel
theorem d4_13 : decode method_3_code 13 = .ok (.iload_n 1, 1) := by decide +kernel
theorem d4_14 : decode method_3_code 14 = .ok (.iconst 1, 1) := by decide +kernel
theorem d4_15 : decode method_3_code 15 = .ok (.isub, 1) := by decide +kernel
theorem d4_16 : decode method_3_code 16 = .ok (.ireturn, 1) := by decide +kernel
theorem d4_17 : decode method_3_code 17 = .ok (.aload_n 0, 1) := by decide +kernel
theorem d4_18 : decode method_3_code 18 = .ok (.iload_n 3, 1) := by decide +kernel
theorem d4_19 : decode method_3_code 19 = .ok (.invokevirtual 24, 3) := by decide +kernel
theorem d4_22 : decode method_3_code 22 = .ok (.iload_n 1, 1) := by decide +kernel
theorem d4_23 : decode method_3_code 23 = .ok (.iconst 1, 1) := by decide +kernel
theorem d4_24 : decode method_3_code 24 = .ok (.iadd, 1) := by decide +kernel
theorem d4_25 : decode method_3_code 25 = .ok (.ireturn, 1) := by decide +kernel
theorem own_pd5 : parseMethodDescriptor "(I)V" = some ⟨[.int], none⟩ := by decide +kernel
theorem d5_0 : decode prog_185_method_3_code 0 = .ok (.aload_n 0, 1) := by decide +kernel
theorem d5_1 : decode prog_185_method_3_code 1 = .ok (.getfield 17, 3) := by decide +kernel
theorem d5_4 : decode prog_185_method_3_code 4 = .ok (.aload_n 0, 1) := by decide +kernel
theorem d5_5 : decode prog_185_method_3_code 5 = .ok (.getfield 7, 3) := by decide +kernel
theorem d5_8 : decode prog_185_method_3_code 8 = .ok (.arraylength, 1) := by decide +kernel
theorem d5_9 : decode prog_185_method_3_code 9 = .ok (.if_icmp .ne 70, 3) := by decide +kernel
theorem d5_12 : decode prog_185_method_3_code 12 = .ok (.aload_n 0, 1) := by decide +kernel
theorem d5_13 : decode prog_185_method_3_code 13 = .ok (.getfield 17, 3) := by decide +kernel
theorem d5_16 : decode prog_185_method_3_code 16 = .ok (.aload_n 0, 1) := by decide +kernel
theorem d5_17 : decode prog_185_method_3_code 17 = .ok (.getfield 13, 3) := by decide +kernel
theorem d5_20 : decode prog_185_method_3_code 20 = .ok (.isub, 1) := by decide +kernel
theorem d5_21 : decode prog_185_method_3_code 21 = .ok (.istore_n 2, 1) := by decide +kernel
theorem d5_22 : decode prog_185_method_3_code 22 = .ok (.aload_n 0, 1) := by decide +kernel
theorem d5_23 : decode prog_185_method_3_code 23 = .ok (.getfield 7, 3) := by decide +kernel
theorem d5_26 : decode prog_185_method_3_code 26 = .ok (.arraylength, 1) := by decide +kernel
theorem d5_27 : decode prog_185_method_3_code 27 = .ok (.iconst 2, 1) := by decide +kernel
theorem d5_28 : decode prog_185_method_3_code 28 = .ok (.iload_n 2, 1) := by decide +kernel
theorem d5_29 : decode prog_185_method_3_code 29 = .ok (.imul, 1) := by decide +kernel
theorem d5_30 : decode prog_185_method_3_code 30 = .ok (.if_icmp .le 10, 3) := by decide +kernel
theorem d5_33 : decode prog_185_method_3_code 33 = .ok (.aload_n 0, 1) := by decide +kernel
theorem d5_34 : decode prog_185_method_3_code 34 = .ok (.getfield 7, 3) := by decide +kernel
theorem d5_37 : decode prog_185_method_3_code 37 = .ok (.goto 12, 3) := by decide +kernel
theorem d5_40 : decode prog_185_method_3_code 40 = .ok (.iconst 2, 1) := by decide +kernel
theorem d5_41 : decode prog_185_method_3_code 41 = .ok (.aload_n 0, 1) := by decide +kernel
theorem d5_42 : decode prog_185_method_3_code 42 = .ok (.getfield 7, 3) := by decide +kernel
theorem d5_45 : decode prog_185_method_3_code 45 = .ok (.arraylength, 1) := by decide +kernel
theorem d5_46 : decode prog_185_method_3_code 46 = .ok (.imul, 1) := by decide +kernel
theorem d5_47 : decode prog_185_method_3_code 47 = .ok (.newarray .int, 2) := by decide +kernel
theorem d5_49 : decode prog_185_method_3_code 49 = .ok (.astore_n 3, 1) := by decide +kernel
theorem d5_50 : decode prog_185_method_3_code 50 = .ok (.aload_n 0, 1) := by decide +kernel
theorem d5_51 : decode prog_185_method_3_code 51 = .ok (.getfield 7, 3) := by decide +kernel
theorem d5_54 : decode prog_185_method_3_code 54 = .ok (.aload_n 0, 1) := by decide +kernel
theorem d5_55 : decode prog_185_method_3_code 55 = .ok (.getfield 13, 3) := by decide +kernel
theorem d5_58 : decode prog_185_method_3_code 58 = .ok (.aload_n 3, 1) := by decide +kernel
theorem d5_59 : decode prog_185_method_3_code 59 = .ok (.iconst 0, 1) := by decide +kernel
theorem d5_60 : decode prog_185_method_3_code 60 = .ok (.iload_n 2, 1) := by decide +kernel
theorem d5_61 : decode prog_185_method_3_code 61 = .ok (.invokestatic 20, 3) := by decide +kernel
theorem d5_64 : decode prog_185_method_3_code 64 = .ok (.aload_n 0, 1) := by decide +kernel
theorem d5_65 : decode prog_185_method_3_code 65 = .ok (.aload_n 3, 1) := by decide +kernel
theorem d5_66 : decode prog_185_method_3_code 66 = .ok (.putfield 7, 3) := by decide +kernel
theorem d5_69 : decode prog_185_method_3_code 69 = .ok (.aload_n 0, 1) := by decide +kernel
theorem d5_70 : decode prog_185_method_3_code 70 = .ok (.iconst 0, 1) := by decide +kernel
theorem d5_71 : decode prog_185_method_3_code 71 = .ok (.putfield 13, 3) := by decide +kernel
theorem d5_74 : decode prog_185_method_3_code 74 = .ok (.aload_n 0, 1) := by decide +kernel
theorem d5_75 : decode prog_185_method_3_code 75 = .ok (.iload_n 2, 1) := by decide +kernel
theorem d5_76 : decode prog_185_method_3_code 76 = .ok (.putfield 17, 3) := by decide +kernel
theorem d5_79 : decode prog_185_method_3_code 79 = .ok (.aload_n 0, 1) := by decide +kernel
theorem d5_80 : decode prog_185_method_3_code 80 = .ok (.getfield 7, 3) := by decide +kernel
theorem d5_83 : decode prog_185_method_3_code 83 = .ok (.aload_n 0, 1) := by decide +kernel
theorem d5_84 : decode prog_185_method_3_code 84 = .ok (.dup, 1) := by decide +kernel
theorem d5_85 : decode prog_185_method_3_code 85 = .ok (.getfield 17, 3) := by decide +kernel
theorem d5_88 : decode prog_185_method_3_code 88 = .ok (.dup_x1, 1) := by decide +kernel
theorem d5_89 : decode prog_185_method_3_code 89 = .ok (.iconst 1, 1) := by decide +kernel
theorem d5_90 : decode prog_185_method_3_code 90 = .ok (.iadd, 1) := by decide +kernel
theorem d5_91 : decode prog_185_method_3_code 91 = .ok (.putfield 17, 3) := by decide +kernel
theorem d5_94 : decode prog_185_method_3_code 94 = .ok (.iload_n 1, 1) := by decide +kernel
theorem d5_95 : decode prog_185_method_3_code 95 = .ok (.iastore, 1) := by decide +kernel
theorem d5_96 : decode prog_185_method_3_code 96 = .ok (.return_, 1) := by decide +kernel
theorem own_pd6 : parseMethodDescriptor "()I" = some ⟨[], some .int⟩ := by decide +kernel
theorem d6_0 : decode prog_185_method_4_code 0 = .ok (.aload_n 0, 1) := by decide +kernel
theorem d6_1 : decode prog_185_method_4_code 1 = .ok (.getfield 7, 3) := by decide +kernel
theorem d6_4 : decode prog_185_method_4_code 4 = .ok (.aload_n 0, 1) := by decide +kernel
theorem d6_5 : decode prog_185_method_4_code 5 = .ok (.dup, 1) := by decide +kernel
theorem d6_6 : decode prog_185_method_4_code 6 = .ok (.getfield 13, 3) := by decide +kernel
theorem d6_9 : decode prog_185_method_4_code 9 = .ok (.dup_x1, 1) := by decide +kernel
theorem d6_10 : decode prog_185_method_4_code 10 = .ok (.iconst 1, 1) := by decide +kernel
theorem d6_11 : decode prog_185_method_4_code 11 = .ok (.iadd, 1) := by decide +kernel
theorem d6_12 : decode prog_185_method_4_code 12 = .ok (.putfield 13, 3) := by decide +kernel
theorem d6_15 : decode prog_185_method_4_code 15 = .ok (.iaload, 1) := by decide +kernel
theorem d6_16 : decode prog_185_method_4_code 16 = .ok (.ireturn, 1) := by decide +kernel
def own_Q_rmI (Z : State) (q : Addr) (n0 : Nat) : Option Value → Heap → List Loc → Prop := fun v h L => v = none ∧ Fr n0 L ∧ ∃ t, own_Inv Z h n0 q t 0 0
theorem own_ef_rmI (m : MethodId) (q : Addr) : entryFrame m #[(.ref q)] 1 = (mkF m 0 #[.val (.ref q)] []) := by first | (simp [entryFrame, mkF, argsToLocals, Value.category, maxLocals]; done) | rfl
set_option maxRecDepth 65536 in
set_option maxHeartbeats 40000000 in
theorem rmI (l : Launch) (Z : State) (a0 : Array Value) (hw : ∀ d ∈ tables_1, d.before a0 Z = true) (ws : List Jvm.Cond) (q : Addr) (h0 : Heap) (n0 : Nat) (E : Exa Z h0 q "com/example/conjecta/conjecta/model/NumberQueue") (F1 : Fld Z h0 q "com/example/conjecta/conjecta/model/NumberQueue" "numbers" "[I" .null) (F2 : Fld Z h0 q "com/example/conjecta/conjecta/model/NumberQueue" "head" "I" (.int (0 : Int32))) (F3 : Fld Z h0 q "com/example/conjecta/conjecta/model/NumberQueue" "tail" "I" (.int (0 : Int32))) (gq : n0 ≤ q) (Z0 : n0 ≤ h0.size) :
    MetFree l (⟨"com/example/conjecta/conjecta/model/NumberQueue", "<init>", "()V"⟩ : MethodName) (head1 (Jvm.Cond.code (⟨"com/example/conjecta/conjecta/model/NumberQueue", "<init>", "()V"⟩ : MethodName) prog_185_method_1_code 1 none :: ws) ({ frames := 1, cells := 1, slots := 64, locals := 12 } : Room)) (fun aR UR => aR = #[(.ref q)] ∧ Z.Warmed39 UR.vm ∧ UR.heap = h0) (fun _ _ _ _ _ => True) (fun _ UR oR UR' => ∃ vR LR, oR = .returned vR ∧ own_Q_rmI Z q n0 vR UR'.heap LR ∧ FrameEnd UR oR UR' LR ({ frames := 1, cells := 1, slots := 64, locals := 12 } : Room).cells ({ frames := 1, cells := 1, slots := 64, locals := 12 } : Room).slots) := by
  refine MetFree.of_bodySF (plainFor_of_name own_pn0) hisR ?_
  intro p e s m args below meth c s₁ Bd hml0 hP hK
  obtain ⟨rfl, hZ, hh⟩ := hP
  have hx := Bd.exec
  have hby := Bd.bytes
  have hlk := Bd.notSynchronized
  have hret := Bd.returns
  have hml : c.maxLocals = 1 := hml0
  have hown : s.vm.findClass "com/example/conjecta/conjecta/model/NumberQueue" = some m.cls := findClass_of_methodNamed Bd.named
  have hnm := (name_of_methodNamed Bd.named Bd.method).1
  have X0 : Stand p l e ({ frames := 1, cells := 1, slots := 64, locals := 12 } : Room) s m #[(.ref q)] below meth c s₁ [] 0 0 := Stand.of_body Bd
  have e0 : s₁.heap = h0 := by rw [← hh, Bd.state]; rfl
  have N0 := Fr.nil n0
  show own_Go p e below (own_K s (own_Q_rmI Z q n0) ({ frames := 1, cells := 1, slots := 64, locals := 12 } : Room).cells ({ frames := 1, cells := 1, slots := 64, locals := 12 } : Room).slots) _
  refine own_by (fun tt kont => castTop (own_ef_rmI m q) kont) ?_
  show own_Go p e below _ (s₁.setTop (mkF m 0 #[.val (.ref q)] []))
  refine own_by (fun _ kont => XS.aloadN X0.here hx rfl (hb hby d1_0) rfl rfl kont) ?_
  show own_Go p e below _ (s₁.setTop (mkF m 1 #[.val (.ref q)] [(.ref q)]))
  obtain ⟨T101, X101, e101, st101⟩ := initO X0 hx hZ hown (hw _ (List.mem_of_getElem? (i := 6) rfl)) (hw _ (List.mem_of_getElem? (i := 7) rfl)) (hw _ (List.mem_of_getElem? (i := 8) rfl)) e0 (g := (mkF m 1 #[.val (.ref q)] [(.ref q)])) rfl (by rw [hml]; rfl) rfl (hb hby d1_1) (by decide) (W := 0) (by show 2 * 0 + _ ≤ _; exact Nat.le_of_eq rfl) (by decide)
  refine own_by st101 ?_
  show own_Go p e below _ (T101.setTop (mkF m 4 #[.val (.ref q)] []))
  refine own_by (fun _ kont => XS.aloadN X101.here hx rfl (hb hby d1_4) rfl rfl kont) ?_
  show own_Go p e below _ (T101.setTop (mkF m 5 #[.val (.ref q)] [(.ref q)]))
  refine own_by (fun _ kont => XT.bipushV X101.here hx rfl (64 : Int32) (hb hby d1_5) rfl kont) ?_
  show own_Go p e below _ (T101.setTop (mkF m 7 #[.val (.ref q)] [(.int (64 : Int32)), (.ref q)]))
  obtain ⟨T102, h102, a102, X102, e102, g102, E102, H102, st102⟩ := own_newIA X101 hx hZ (hw _ (List.mem_of_getElem? (i := 9) rfl)) e101 (g := (mkF m 7 #[.val (.ref q)] [(.int (64 : Int32)), (.ref q)])) rfl (hb hby d1_7) rfl 64 (by decide) (cap := 64) (by decide) (by decide) (by decide) (by decide)
  have ne103 : q ≠ a102 := by rw [g102]; exact Nat.ne_of_lt E.lt
  have ge102 : n0 ≤ a102 := by rw [g102]; exact Z0
  have Z102 : n0 ≤ h102.size := Nat.le_trans Z0 E102.1
  refine own_by st102 ?_
  show own_Go p e below _ (T102.setTop (mkF m 9 #[.val (.ref q)] [(.ref a102), (.ref q)]))
  have F104 : Fld Z h102 q "com/example/conjecta/conjecta/model/NumberQueue" "numbers" "[I" .null := (F1.ext E102)
  have F105 : Exa Z h102 q "com/example/conjecta/conjecta/model/NumberQueue" := (E.ext E102)
  obtain ⟨T106, h106, X106, e106, W106, st106⟩ := putF X102 hx hZ hown (host := "") (Or.inl (hw _ (List.mem_of_getElem? (i := 10) rfl))) Via.refl e102 F104 F105 (Or.inl (hw _ (List.mem_of_getElem? (i := 11) rfl))) (hw _ (List.mem_of_getElem? (i := 1) rfl)) (ty := (.array .int)) (by decide) rfl rfl (g := (mkF m 9 #[.val (.ref q)] [(.ref a102), (.ref q)])) rfl rfl (hb hby d1_9)
  obtain ⟨L106, X106, M106⟩ := own_hide X106 (Fr.snoc X106 N0 gq)
  have Z106 : n0 ≤ h106.size := (by rw [Wr.size W106]; exact Z102)
  have F106 : Fld Z h106 q "com/example/conjecta/conjecta/model/NumberQueue" "numbers" "[I" (.ref a102) := (F104.same W106)
  refine own_by st106 ?_
  show own_Go p e below _ (T106.setTop (mkF m 12 #[.val (.ref q)] []))
  have F107 : Exa Z h106 q "com/example/conjecta/conjecta/model/NumberQueue" := (F105.wr W106)
  have F108 : Fld Z h106 q "com/example/conjecta/conjecta/model/NumberQueue" "head" "I" (.int (0 : Int32)) := ((F2.ext E102).other W106 (Or.inr (slot_ne (t := .int) (t' := (.array .int)) (Or.inl (hw _ (List.mem_of_getElem? (i := 18) rfl))) (Or.inl (hw _ (List.mem_of_getElem? (i := 11) rfl))) (by decide) (by decide) (by decide))))
  have F109 : Fld Z h106 q "com/example/conjecta/conjecta/model/NumberQueue" "tail" "I" (.int (0 : Int32)) := ((F3.ext E102).other W106 (Or.inr (slot_ne (t := .int) (t' := (.array .int)) (Or.inl (hw _ (List.mem_of_getElem? (i := 20) rfl))) (Or.inl (hw _ (List.mem_of_getElem? (i := 11) rfl))) (by decide) (by decide) (by decide))))
  have F110 : own_IA Z h106 a102 64 (fun _ => 0) := (own_IA_other H102 W106 (Ne.symm ne103))
  refine own_retV X106 hx hlk hret (hb hby d1_12) ⟨rfl, M106, a102, ?_⟩ (by decide) (by decide)
  rw [e106]
  exact ⟨F107, F106, F108, F109, ⟨_, F110⟩, ne103, gq, ge102, Z106⟩
def own_Q_rmE (Z : State) (hd tl : Nat) (h0 : Heap) (n0 : Nat) : Option Value → Heap → List Loc → Prop := fun v h L => v = some (.int (if hd = tl then 1 else 0)) ∧ Fr n0 L ∧ h = h0
theorem own_ef_rmE (m : MethodId) (q : Addr) : entryFrame m #[(.ref q)] 1 = (mkF m 0 #[.val (.ref q)] []) := by first | (simp [entryFrame, mkF, argsToLocals, Value.category, maxLocals]; done) | rfl
set_option maxRecDepth 65536 in
set_option maxHeartbeats 40000000 in
theorem rmE (l : Launch) (Z : State) (a0 : Array Value) (hw : ∀ d ∈ tables_1, d.before a0 Z = true) (ws : List Jvm.Cond) (q t : Addr) (hd tl : Nat) (h0 : Heap) (n0 : Nat) (I : own_Inv Z h0 n0 q t hd tl) (b1 : hd ≤ 100) (b2 : tl ≤ 100) :
    MetFree l (⟨"com/example/conjecta/conjecta/model/NumberQueue", "isEmpty", "()Z"⟩ : MethodName) (head1 (Jvm.Cond.code (⟨"com/example/conjecta/conjecta/model/NumberQueue", "isEmpty", "()Z"⟩ : MethodName) prog_185_method_2_code 1 (some .boolean) :: ws) ({ frames := 0, cells := 0, slots := 0, locals := 0 } : Room)) (fun aR UR => aR = #[(.ref q)] ∧ Z.Warmed39 UR.vm ∧ UR.heap = h0) (fun _ _ _ _ _ => True) (fun _ UR oR UR' => ∃ vR LR, oR = .returned vR ∧ own_Q_rmE Z hd tl h0 n0 vR UR'.heap LR ∧ FrameEnd UR oR UR' LR ({ frames := 0, cells := 0, slots := 0, locals := 0 } : Room).cells ({ frames := 0, cells := 0, slots := 0, locals := 0 } : Room).slots) := by
  refine MetFree.of_bodySF (plainFor_of_name own_pn0) hisR ?_
  intro p e s m args below meth c s₁ Bd hml0 hP hK
  obtain ⟨rfl, hZ, hh⟩ := hP
  have hx := Bd.exec
  have hby := Bd.bytes
  have hlk := Bd.notSynchronized
  have hret := Bd.returns
  have hml : c.maxLocals = 1 := hml0
  have hown : s.vm.findClass "com/example/conjecta/conjecta/model/NumberQueue" = some m.cls := findClass_of_methodNamed Bd.named
  have hnm := (name_of_methodNamed Bd.named Bd.method).1
  have X0 : Stand p l e ({ frames := 0, cells := 0, slots := 0, locals := 0 } : Room) s m #[(.ref q)] below meth c s₁ [] 0 0 := Stand.of_body Bd
  have e0 : s₁.heap = h0 := by rw [← hh, Bd.state]; rfl
  have N0 := Fr.nil n0
  show own_Go p e below (own_K s (own_Q_rmE Z hd tl h0 n0) ({ frames := 0, cells := 0, slots := 0, locals := 0 } : Room).cells ({ frames := 0, cells := 0, slots := 0, locals := 0 } : Room).slots) _
  refine own_by (fun tt kont => castTop (own_ef_rmE m q) kont) ?_
  show own_Go p e below _ (s₁.setTop (mkF m 0 #[.val (.ref q)] []))
  obtain ⟨E, F1, F2, F3, ⟨f, H⟩, nqt, gq, gt, Z0⟩ := I
  refine own_by (fun _ kont => XS.aloadN X0.here hx rfl (hb hby d3_0) rfl rfl kont) ?_
  show own_Go p e below _ (s₁.setTop (mkF m 1 #[.val (.ref q)] [(.ref q)]))
  obtain ⟨T111, X111, e111, st111⟩ := getF X0 hx hZ hown (host := "") (Or.inl (hw _ (List.mem_of_getElem? (i := 17) rfl))) Via.refl e0 F2 (g := (mkF m 1 #[.val (.ref q)] [(.ref q)])) rfl rfl (hb hby d3_1)
  refine own_by st111 ?_
  show own_Go p e below _ (T111.setTop (mkF m 4 #[.val (.ref q)] [(.int (Int32.ofNat hd))]))
  refine own_by (fun _ kont => XS.aloadN X111.here hx rfl (hb hby d3_4) rfl rfl kont) ?_
  show own_Go p e below _ (T111.setTop (mkF m 5 #[.val (.ref q)] [(.ref q), (.int (Int32.ofNat hd))]))
  obtain ⟨T112, X112, e112, st112⟩ := getF X111 hx hZ hown (host := "") (Or.inl (hw _ (List.mem_of_getElem? (i := 19) rfl))) Via.refl e111 F3 (g := (mkF m 5 #[.val (.ref q)] [(.ref q), (.int (Int32.ofNat hd))])) rfl rfl (hb hby d3_5)
  refine own_by st112 ?_
  show own_Go p e below _ (T112.setTop (mkF m 8 #[.val (.ref q)] [(.int (Int32.ofNat tl)), (.int (Int32.ofNat hd))]))
  by_cases hq : hd = tl
  · unfold own_Q_rmE; rw [if_pos hq]
    refine own_by (fun _ kont => XS.icmpNo X112.here hx rfl (hb hby d3_8) rfl (XT.ii_ne_f ((own_inj b1 b2).mpr hq)) kont) ?_
    show own_Go p e below _ (T112.setTop (mkF m 11 #[.val (.ref q)] []))
    refine own_by (fun _ kont => XT.iconstV X112.here hx rfl (1 : Int32) (hb hby d3_11) rfl kont) ?_
    show own_Go p e below _ (T112.setTop (mkF m 12 #[.val (.ref q)] [(.int (1 : Int32))]))
    refine own_by (fun _ kont => XS.goto X112.here hx rfl (pc0 := 12) (pc' := 16) rfl (hb hby d3_12) (by decide) (by decide) kont) ?_
    show own_Go p e below _ (T112.setTop (mkF m 16 #[.val (.ref q)] [(.int (1 : Int32))]))
    exact own_ret X112 hx hlk hret rfl (Or.inl ⟨rfl, by simp, _, rfl⟩) (hb hby d3_16) ⟨rfl, N0, e112⟩ (by decide) (by decide)
  · unfold own_Q_rmE; rw [if_neg hq]
    refine own_by (fun _ kont => XS.icmpYes X112.here hx rfl (pc0 := 8) (pc' := 15) rfl (hb hby d3_8) rfl (XT.ii_ne_t (fun z => hq ((own_inj b1 b2).mp z))) (by decide) (by decide) kont) ?_
    show own_Go p e below _ (T112.setTop (mkF m 15 #[.val (.ref q)] []))
    refine own_by (fun _ kont => XT.iconstV X112.here hx rfl (0 : Int32) (hb hby d3_15) rfl kont) ?_
    show own_Go p e below _ (T112.setTop (mkF m 16 #[.val (.ref q)] [(.int (0 : Int32))]))
    exact own_ret X112 hx hlk hret rfl (Or.inl ⟨rfl, by simp, _, rfl⟩) (hb hby d3_16) ⟨rfl, N0, e112⟩ (by decide) (by decide)
def own_Q_rmA (Z : State) (q t : Addr) (hd tl : Nat) (n0 : Nat) : Option Value → Heap → List Loc → Prop := fun v h L => v = none ∧ Fr n0 L ∧ own_Inv Z h n0 q t hd (tl + 1)
theorem own_ef_rmA (m : MethodId) (q : Addr) (vx : Int32) : entryFrame m #[(.ref q), (.int vx)] 4 = (mkF m 0 #[.val (.ref q), .val (.int vx), .unset, .unset] []) := by first | (simp [entryFrame, mkF, argsToLocals, Value.category, maxLocals]; done) | rfl
set_option maxRecDepth 65536 in
set_option maxHeartbeats 40000000 in
theorem rmA (l : Launch) (Z : State) (a0 : Array Value) (hw : ∀ d ∈ tables_1, d.before a0 Z = true) (ws : List Jvm.Cond) (q t : Addr) (vx : Int32) (hd tl : Nat) (h0 : Heap) (n0 : Nat) (I : own_Inv Z h0 n0 q t hd tl) (b2 : tl < 64) :
    MetFree l (⟨"com/example/conjecta/conjecta/model/NumberQueue", "add", "(I)V"⟩ : MethodName) (head1 (Jvm.Cond.code (⟨"com/example/conjecta/conjecta/model/NumberQueue", "add", "(I)V"⟩ : MethodName) prog_185_method_3_code 4 none :: ws) ({ frames := 0, cells := 0, slots := 0, locals := 0 } : Room)) (fun aR UR => aR = #[(.ref q), (.int vx)] ∧ Z.Warmed39 UR.vm ∧ UR.heap = h0) (fun _ _ _ _ _ => True) (fun _ UR oR UR' => ∃ vR LR, oR = .returned vR ∧ own_Q_rmA Z q t hd tl n0 vR UR'.heap LR ∧ FrameEnd UR oR UR' LR ({ frames := 0, cells := 0, slots := 0, locals := 0 } : Room).cells ({ frames := 0, cells := 0, slots := 0, locals := 0 } : Room).slots) := by
  refine MetFree.of_bodySF (plainFor_of_name own_pn0) hisR ?_
  intro p e s m args below meth c s₁ Bd hml0 hP hK
  obtain ⟨rfl, hZ, hh⟩ := hP
  have hx := Bd.exec
  have hby := Bd.bytes
  have hlk := Bd.notSynchronized
  have hret := Bd.returns
  have hml : c.maxLocals = 4 := hml0
  have hown : s.vm.findClass "com/example/conjecta/conjecta/model/NumberQueue" = some m.cls := findClass_of_methodNamed Bd.named
  have hnm := (name_of_methodNamed Bd.named Bd.method).1
  have X0 : Stand p l e ({ frames := 0, cells := 0, slots := 0, locals := 0 } : Room) s m #[(.ref q), (.int vx)] below meth c s₁ [] 0 0 := Stand.of_body Bd
  have e0 : s₁.heap = h0 := by rw [← hh, Bd.state]; rfl
  have N0 := Fr.nil n0
  show own_Go p e below (own_K s (own_Q_rmA Z q t hd tl n0) ({ frames := 0, cells := 0, slots := 0, locals := 0 } : Room).cells ({ frames := 0, cells := 0, slots := 0, locals := 0 } : Room).slots) _
  refine own_by (fun tt kont => castTop (own_ef_rmA m q vx) kont) ?_
  show own_Go p e below _ (s₁.setTop (mkF m 0 #[.val (.ref q), .val (.int vx), .unset, .unset] []))
  obtain ⟨E, F1, F2, F3, ⟨f, H⟩, nqt, gq, gt, Z0⟩ := I
  have hne : ¬ Int32.ofNat tl = (64 : Int32) := fun z => absurd ((own_inj (b := 64) (by omega) (by omega)).mp z) (by omega)
  have hti := own_i (k := tl) (by omega)
  refine own_by (fun _ kont => XS.aloadN X0.here hx rfl (hb hby d5_0) rfl rfl kont) ?_
  show own_Go p e below _ (s₁.setTop (mkF m 1 #[.val (.ref q), .val (.int vx), .unset, .unset] [(.ref q)]))
  obtain ⟨T113, X113, e113, st113⟩ := getF X0 hx hZ hown (host := "") (Or.inl (hw _ (List.mem_of_getElem? (i := 19) rfl))) Via.refl e0 F3 (g := (mkF m 1 #[.val (.ref q), .val (.int vx), .unset, .unset] [(.ref q)])) rfl rfl (hb hby d5_1)
  refine own_by st113 ?_
  show own_Go p e below _ (T113.setTop (mkF m 4 #[.val (.ref q), .val (.int vx), .unset, .unset] [(.int (Int32.ofNat tl))]))
  refine own_by (fun _ kont => XS.aloadN X113.here hx rfl (hb hby d5_4) rfl rfl kont) ?_
  show own_Go p e below _ (T113.setTop (mkF m 5 #[.val (.ref q), .val (.int vx), .unset, .unset] [(.ref q), (.int (Int32.ofNat tl))]))
  obtain ⟨T114, X114, e114, st114⟩ := getF X113 hx hZ hown (host := "") (Or.inl (hw _ (List.mem_of_getElem? (i := 10) rfl))) Via.refl e113 F1 (g := (mkF m 5 #[.val (.ref q), .val (.int vx), .unset, .unset] [(.ref q), (.int (Int32.ofNat tl))])) rfl rfl (hb hby d5_5)
  refine own_by st114 ?_
  show own_Go p e below _ (T114.setTop (mkF m 8 #[.val (.ref q), .val (.int vx), .unset, .unset] [(.ref t), (.int (Int32.ofNat tl))]))
  refine own_by (fun _ kont => own_lenIA X114 hx hZ e114 H (z := (64 : Int32)) (by decide) rfl rfl (hb hby d5_8) kont) ?_
  show own_Go p e below _ (T114.setTop (mkF m 9 #[.val (.ref q), .val (.int vx), .unset, .unset] [(.int (64 : Int32)), (.int (Int32.ofNat tl))]))
  refine own_by (fun _ kont => XS.icmpYes X114.here hx rfl (pc0 := 9) (pc' := 79) rfl (hb hby d5_9) rfl (XT.ii_ne_t hne) (by decide) (by decide) kont) ?_
  show own_Go p e below _ (T114.setTop (mkF m 79 #[.val (.ref q), .val (.int vx), .unset, .unset] []))
  refine own_by (fun _ kont => XS.aloadN X114.here hx rfl (hb hby d5_79) rfl rfl kont) ?_
  show own_Go p e below _ (T114.setTop (mkF m 80 #[.val (.ref q), .val (.int vx), .unset, .unset] [(.ref q)]))
  obtain ⟨T115, X115, e115, st115⟩ := getF X114 hx hZ hown (host := "") (Or.inl (hw _ (List.mem_of_getElem? (i := 10) rfl))) Via.refl e114 F1 (g := (mkF m 80 #[.val (.ref q), .val (.int vx), .unset, .unset] [(.ref q)])) rfl rfl (hb hby d5_80)
  refine own_by st115 ?_
  show own_Go p e below _ (T115.setTop (mkF m 83 #[.val (.ref q), .val (.int vx), .unset, .unset] [(.ref t)]))
  refine own_by (fun _ kont => XS.aloadN X115.here hx rfl (hb hby d5_83) rfl rfl kont) ?_
  show own_Go p e below _ (T115.setTop (mkF m 84 #[.val (.ref q), .val (.int vx), .unset, .unset] [(.ref q), (.ref t)]))
  refine own_by (fun _ kont => XS.dup X115.here hx rfl (hb hby d5_84) rfl rfl kont) ?_
  show own_Go p e below _ (T115.setTop (mkF m 85 #[.val (.ref q), .val (.int vx), .unset, .unset] [(.ref q), (.ref q), (.ref t)]))
  obtain ⟨T116, X116, e116, st116⟩ := getF X115 hx hZ hown (host := "") (Or.inl (hw _ (List.mem_of_getElem? (i := 19) rfl))) Via.refl e115 F3 (g := (mkF m 85 #[.val (.ref q), .val (.int vx), .unset, .unset] [(.ref q), (.ref q), (.ref t)])) rfl rfl (hb hby d5_85)
  refine own_by st116 ?_
  show own_Go p e below _ (T116.setTop (mkF m 88 #[.val (.ref q), .val (.int vx), .unset, .unset] [(.int (Int32.ofNat tl)), (.ref q), (.ref t)]))
  refine own_by (fun _ kont => XT.dupX1 X116.here hx rfl (hb hby d5_88) rfl rfl rfl kont) ?_
  show own_Go p e below _ (T116.setTop (mkF m 89 #[.val (.ref q), .val (.int vx), .unset, .unset] [(.int (Int32.ofNat tl)), (.ref q), (.int (Int32.ofNat tl)), (.ref t)]))
  refine own_by (fun _ kont => XT.iconstV X116.here hx rfl (1 : Int32) (hb hby d5_89) rfl kont) ?_
  show own_Go p e below _ (T116.setTop (mkF m 90 #[.val (.ref q), .val (.int vx), .unset, .unset] [(.int (1 : Int32)), (.int (Int32.ofNat tl)), (.ref q), (.int (Int32.ofNat tl)), (.ref t)]))
  refine own_by (fun _ kont => XS.iadd X116.here hx rfl (hb hby d5_90) rfl kont) ?_
  show own_Go p e below _ (T116.setTop (mkF m 91 #[.val (.ref q), .val (.int vx), .unset, .unset] [(.int ((Int32.ofNat tl) + (1 : Int32))), (.ref q), (.int (Int32.ofNat tl)), (.ref t)]))
  obtain ⟨T117, h117, X117, e117, W117, st117⟩ := putF X116 hx hZ hown (host := "") (Or.inl (hw _ (List.mem_of_getElem? (i := 19) rfl))) Via.refl e116 F3 E (Or.inl (hw _ (List.mem_of_getElem? (i := 20) rfl))) (hw _ (List.mem_of_getElem? (i := 1) rfl)) (ty := .int) (by decide) rfl rfl (g := (mkF m 91 #[.val (.ref q), .val (.int vx), .unset, .unset] [(.int ((Int32.ofNat tl) + (1 : Int32))), (.ref q), (.int (Int32.ofNat tl)), (.ref t)])) rfl rfl (hb hby d5_91)
  obtain ⟨L117, X117, M117⟩ := own_hide X117 (Fr.snoc X117 N0 gq)
  have Z117 : n0 ≤ h117.size := (by rw [Wr.size W117]; exact Z0)
  have F117 : Fld Z h117 q "com/example/conjecta/conjecta/model/NumberQueue" "tail" "I" (.int ((Int32.ofNat tl) + (1 : Int32))) := (F3.same W117)
  refine own_by st117 ?_
  show own_Go p e below _ (T117.setTop (mkF m 94 #[.val (.ref q), .val (.int vx), .unset, .unset] [(.int (Int32.ofNat tl)), (.ref t)]))
  refine own_by (fun _ kont => XS.iloadN X117.here hx rfl (hb hby d5_94) rfl kont) ?_
  show own_Go p e below _ (T117.setTop (mkF m 95 #[.val (.ref q), .val (.int vx), .unset, .unset] [(.int vx), (.int (Int32.ofNat tl)), (.ref t)]))
  have F118 : own_IA Z h117 t 64 f := (own_IA_other H W117 (Ne.symm nqt))
  obtain ⟨T119, h119, X119, e119, W119, H119, st119⟩ := own_stN X117 hx hZ e117 F118 (j := (Int32.ofNat tl)) tl hti b2 (g := (mkF m 95 #[.val (.ref q), .val (.int vx), .unset, .unset] [(.int vx), (.int (Int32.ofNat tl)), (.ref t)])) rfl rfl (hb hby d5_95)
  obtain ⟨L119, X119, M119⟩ := own_hide X119 (Fr.snoc X119 M117 gt)
  have Z119 : n0 ≤ h119.size := (by rw [Wr.size W119]; exact Z117)
  refine own_by st119 ?_
  show own_Go p e below _ (T119.setTop (mkF m 96 #[.val (.ref q), .val (.int vx), .unset, .unset] []))
  have F120 : Exa Z h119 q "com/example/conjecta/conjecta/model/NumberQueue" := ((E.wr W117).wr W119)
  have F121 : Fld Z h119 q "com/example/conjecta/conjecta/model/NumberQueue" "numbers" "[I" (.ref t) := ((F1.other W117 (Or.inr (slot_ne (t := (.array .int)) (t' := .int) (Or.inl (hw _ (List.mem_of_getElem? (i := 11) rfl))) (Or.inl (hw _ (List.mem_of_getElem? (i := 20) rfl))) (by decide) (by decide) (by decide)))).other W119 (Or.inl nqt))
  have F122 : Fld Z h119 q "com/example/conjecta/conjecta/model/NumberQueue" "head" "I" (.int (Int32.ofNat hd)) := ((F2.other W117 (Or.inr (slot_ne (t := .int) (t' := .int) (Or.inl (hw _ (List.mem_of_getElem? (i := 18) rfl))) (Or.inl (hw _ (List.mem_of_getElem? (i := 20) rfl))) (by decide) (by decide) (by decide)))).other W119 (Or.inl nqt))
  have F123 : Fld Z h119 q "com/example/conjecta/conjecta/model/NumberQueue" "tail" "I" (.int ((Int32.ofNat tl) + (1 : Int32))) := (F117.other W119 (Or.inl nqt))
  refine own_retV X119 hx hlk hret (hb hby d5_96) ⟨rfl, M119, ?_⟩ (by decide) (by decide)
  rw [e119]
  exact ⟨F120, F121, F122, (own_inc (k := tl) (by omega) ▸ F123), ⟨_, H119⟩, nqt, gq, gt, Z119⟩
def own_Q_rmT (Z : State) (q t : Addr) (hd tl : Nat) (n0 : Nat) : Option Value → Heap → List Loc → Prop := fun v h L => (∃ z : Int32, v = some (.int z)) ∧ Fr n0 L ∧ own_Inv Z h n0 q t (hd + 1) tl
theorem own_ef_rmT (m : MethodId) (q : Addr) : entryFrame m #[(.ref q)] 1 = (mkF m 0 #[.val (.ref q)] []) := by first | (simp [entryFrame, mkF, argsToLocals, Value.category, maxLocals]; done) | rfl
set_option maxRecDepth 65536 in
set_option maxHeartbeats 40000000 in
theorem rmT (l : Launch) (Z : State) (a0 : Array Value) (hw : ∀ d ∈ tables_1, d.before a0 Z = true) (ws : List Jvm.Cond) (q t : Addr) (hd tl : Nat) (h0 : Heap) (n0 : Nat) (I : own_Inv Z h0 n0 q t hd tl) (b1 : hd < 64) :
    MetFree l (⟨"com/example/conjecta/conjecta/model/NumberQueue", "take", "()I"⟩ : MethodName) (head1 (Jvm.Cond.code (⟨"com/example/conjecta/conjecta/model/NumberQueue", "take", "()I"⟩ : MethodName) prog_185_method_4_code 1 (some .int) :: ws) ({ frames := 0, cells := 0, slots := 0, locals := 0 } : Room)) (fun aR UR => aR = #[(.ref q)] ∧ Z.Warmed39 UR.vm ∧ UR.heap = h0) (fun _ _ _ _ _ => True) (fun _ UR oR UR' => ∃ vR LR, oR = .returned vR ∧ own_Q_rmT Z q t hd tl n0 vR UR'.heap LR ∧ FrameEnd UR oR UR' LR ({ frames := 0, cells := 0, slots := 0, locals := 0 } : Room).cells ({ frames := 0, cells := 0, slots := 0, locals := 0 } : Room).slots) := by
  refine MetFree.of_bodySF (plainFor_of_name own_pn0) hisR ?_
  intro p e s m args below meth c s₁ Bd hml0 hP hK
  obtain ⟨rfl, hZ, hh⟩ := hP
  have hx := Bd.exec
  have hby := Bd.bytes
  have hlk := Bd.notSynchronized
  have hret := Bd.returns
  have hml : c.maxLocals = 1 := hml0
  have hown : s.vm.findClass "com/example/conjecta/conjecta/model/NumberQueue" = some m.cls := findClass_of_methodNamed Bd.named
  have hnm := (name_of_methodNamed Bd.named Bd.method).1
  have X0 : Stand p l e ({ frames := 0, cells := 0, slots := 0, locals := 0 } : Room) s m #[(.ref q)] below meth c s₁ [] 0 0 := Stand.of_body Bd
  have e0 : s₁.heap = h0 := by rw [← hh, Bd.state]; rfl
  have N0 := Fr.nil n0
  show own_Go p e below (own_K s (own_Q_rmT Z q t hd tl n0) ({ frames := 0, cells := 0, slots := 0, locals := 0 } : Room).cells ({ frames := 0, cells := 0, slots := 0, locals := 0 } : Room).slots) _
  refine own_by (fun tt kont => castTop (own_ef_rmT m q) kont) ?_
  show own_Go p e below _ (s₁.setTop (mkF m 0 #[.val (.ref q)] []))
  obtain ⟨E, F1, F2, F3, ⟨f, H⟩, nqt, gq, gt, Z0⟩ := I
  have hti := own_i (k := hd) (by omega)
  refine own_by (fun _ kont => XS.aloadN X0.here hx rfl (hb hby d6_0) rfl rfl kont) ?_
  show own_Go p e below _ (s₁.setTop (mkF m 1 #[.val (.ref q)] [(.ref q)]))
  obtain ⟨T124, X124, e124, st124⟩ := getF X0 hx hZ hown (host := "") (Or.inl (hw _ (List.mem_of_getElem? (i := 10) rfl))) Via.refl e0 F1 (g := (mkF m 1 #[.val (.ref q)] [(.ref q)])) rfl rfl (hb hby d6_1)
  refine own_by st124 ?_
  show own_Go p e below _ (T124.setTop (mkF m 4 #[.val (.ref q)] [(.ref t)]))
  refine own_by (fun _ kont => XS.aloadN X124.here hx rfl (hb hby d6_4) rfl rfl kont) ?_
  show own_Go p e below _ (T124.setTop (mkF m 5 #[.val (.ref q)] [(.ref q), (.ref t)]))
  refine own_by (fun _ kont => XS.dup X124.here hx rfl (hb hby d6_5) rfl rfl kont) ?_
  show own_Go p e below _ (T124.setTop (mkF m 6 #[.val (.ref q)] [(.ref q), (.ref q), (.ref t)]))
  obtain ⟨T125, X125, e125, st125⟩ := getF X124 hx hZ hown (host := "") (Or.inl (hw _ (List.mem_of_getElem? (i := 17) rfl))) Via.refl e124 F2 (g := (mkF m 6 #[.val (.ref q)] [(.ref q), (.ref q), (.ref t)])) rfl rfl (hb hby d6_6)
  refine own_by st125 ?_
  show own_Go p e below _ (T125.setTop (mkF m 9 #[.val (.ref q)] [(.int (Int32.ofNat hd)), (.ref q), (.ref t)]))
  refine own_by (fun _ kont => XT.dupX1 X125.here hx rfl (hb hby d6_9) rfl rfl rfl kont) ?_
  show own_Go p e below _ (T125.setTop (mkF m 10 #[.val (.ref q)] [(.int (Int32.ofNat hd)), (.ref q), (.int (Int32.ofNat hd)), (.ref t)]))
  refine own_by (fun _ kont => XT.iconstV X125.here hx rfl (1 : Int32) (hb hby d6_10) rfl kont) ?_
  show own_Go p e below _ (T125.setTop (mkF m 11 #[.val (.ref q)] [(.int (1 : Int32)), (.int (Int32.ofNat hd)), (.ref q), (.int (Int32.ofNat hd)), (.ref t)]))
  refine own_by (fun _ kont => XS.iadd X125.here hx rfl (hb hby d6_11) rfl kont) ?_
  show own_Go p e below _ (T125.setTop (mkF m 12 #[.val (.ref q)] [(.int ((Int32.ofNat hd) + (1 : Int32))), (.ref q), (.int (Int32.ofNat hd)), (.ref t)]))
  obtain ⟨T126, h126, X126, e126, W126, st126⟩ := putF X125 hx hZ hown (host := "") (Or.inl (hw _ (List.mem_of_getElem? (i := 17) rfl))) Via.refl e125 F2 E (Or.inl (hw _ (List.mem_of_getElem? (i := 18) rfl))) (hw _ (List.mem_of_getElem? (i := 1) rfl)) (ty := .int) (by decide) rfl rfl (g := (mkF m 12 #[.val (.ref q)] [(.int ((Int32.ofNat hd) + (1 : Int32))), (.ref q), (.int (Int32.ofNat hd)), (.ref t)])) rfl rfl (hb hby d6_12)
  obtain ⟨L126, X126, M126⟩ := own_hide X126 (Fr.snoc X126 N0 gq)
  have Z126 : n0 ≤ h126.size := (by rw [Wr.size W126]; exact Z0)
  have F126 : Fld Z h126 q "com/example/conjecta/conjecta/model/NumberQueue" "head" "I" (.int ((Int32.ofNat hd) + (1 : Int32))) := (F2.same W126)
  refine own_by st126 ?_
  show own_Go p e below _ (T126.setTop (mkF m 15 #[.val (.ref q)] [(.int (Int32.ofNat hd)), (.ref t)]))
  have F127 : own_IA Z h126 t 64 f := (own_IA_other H W126 (Ne.symm nqt))
  refine own_by (fun _ kont => own_ldN X126 hx hZ e126 F127 (j := (Int32.ofNat hd)) hd hti b1 rfl rfl (hb hby d6_15) kont) ?_
  show own_Go p e below _ (T126.setTop (mkF m 16 #[.val (.ref q)] [(.int (f hd))]))
  have F128 : Exa Z h126 q "com/example/conjecta/conjecta/model/NumberQueue" := (E.wr W126)
  have F129 : Fld Z h126 q "com/example/conjecta/conjecta/model/NumberQueue" "numbers" "[I" (.ref t) := (F1.other W126 (Or.inr (slot_ne (t := (.array .int)) (t' := .int) (Or.inl (hw _ (List.mem_of_getElem? (i := 11) rfl))) (Or.inl (hw _ (List.mem_of_getElem? (i := 18) rfl))) (by decide) (by decide) (by decide))))
  have F130 : Fld Z h126 q "com/example/conjecta/conjecta/model/NumberQueue" "tail" "I" (.int (Int32.ofNat tl)) := (F3.other W126 (Or.inr (slot_ne (t := .int) (t' := .int) (Or.inl (hw _ (List.mem_of_getElem? (i := 20) rfl))) (Or.inl (hw _ (List.mem_of_getElem? (i := 18) rfl))) (by decide) (by decide) (by decide))))
  refine own_ret X126 hx hlk hret rfl (Or.inl ⟨rfl, by simp, _, rfl⟩) (hb hby d6_16) ⟨⟨_, rfl⟩, M126, ?_⟩ (by decide) (by decide)
  rw [e126]
  exact ⟨F128, F129, (own_inc (k := hd) (by omega) ▸ F126), F130, ⟨_, F127⟩, nqt, gq, gt, Z126⟩
def own_Q_rmS (Z : State) (q t : Addr) (hd tl : Nat) (n0 : Nat) : Option Value → Heap → List Loc → Prop := fun v h L => Fr n0 L ∧ ∃ hd' tl', v = some (.int (Int32.ofNat (tl' - hd'))) ∧ hd' ≤ tl' ∧ tl' ≤ tl + 1 ∧ own_Inv Z h n0 q t hd' tl'
theorem own_ef_rmS (m : MethodId) (q : Addr) (cn : Int32) (tk : Int32) (vx : Int32) : entryFrame m #[(.ref q), (.int cn), (.int tk), (.int vx)] 4 = (mkF m 0 #[.val (.ref q), .val (.int cn), .val (.int tk), .val (.int vx)] []) := by first | (simp [entryFrame, mkF, argsToLocals, Value.category, maxLocals]; done) | rfl
set_option maxRecDepth 65536 in
set_option maxHeartbeats 40000000 in
theorem rmS (l : Launch) (Z : State) (a0 : Array Value) (hw : ∀ d ∈ tables_1, d.before a0 Z = true) (ws : List Jvm.Cond) (q t : Addr) (tk vx : Int32) (hd tl : Nat) (h0 : Heap) (n0 : Nat) (I : own_Inv Z h0 n0 q t hd tl) (b1 : hd ≤ tl) (b2 : tl < 64) :
    MetFree l (⟨"com/example/conjecta/conjecta/model/NumberQueueIsEmptyPinLaw", "step", "(Lcom/example/conjecta/conjecta/model/NumberQueue;IZI)I"⟩ : MethodName) (head1 (Jvm.Cond.code (⟨"com/example/conjecta/conjecta/model/NumberQueueIsEmptyPinLaw", "step", "(Lcom/example/conjecta/conjecta/model/NumberQueue;IZI)I"⟩ : MethodName) method_3_code 4 (some .int) :: ws) ({ frames := 1, cells := 0, slots := 0, locals := 15 } : Room)) (fun aR UR => aR = #[(.ref q), (.int (Int32.ofNat (tl - hd))), (.int tk), (.int vx)] ∧ Z.Warmed39 UR.vm ∧ UR.heap = h0) (fun _ _ _ _ _ => True) (fun _ UR oR UR' => ∃ vR LR, oR = .returned vR ∧ own_Q_rmS Z q t hd tl n0 vR UR'.heap LR ∧ FrameEnd UR oR UR' LR ({ frames := 1, cells := 0, slots := 0, locals := 15 } : Room).cells ({ frames := 1, cells := 0, slots := 0, locals := 15 } : Room).slots) := by
  refine MetFree.of_bodySF (plainFor_of_name own_pn3) hisR ?_
  intro p e s m args below meth c s₁ Bd hml0 hP hK
  obtain ⟨rfl, hZ, hh⟩ := hP
  have hx := Bd.exec
  have hby := Bd.bytes
  have hlk := Bd.notSynchronized
  have hret := Bd.returns
  have hml : c.maxLocals = 4 := hml0
  have hown : s.vm.findClass "com/example/conjecta/conjecta/model/NumberQueueIsEmptyPinLaw" = some m.cls := findClass_of_methodNamed Bd.named
  have hnm := (name_of_methodNamed Bd.named Bd.method).1
  have X0 : Stand p l e ({ frames := 1, cells := 0, slots := 0, locals := 15 } : Room) s m #[(.ref q), (.int (Int32.ofNat (tl - hd))), (.int tk), (.int vx)] below meth c s₁ [] 0 0 := Stand.of_body Bd
  have e0 : s₁.heap = h0 := by rw [← hh, Bd.state]; rfl
  have N0 := Fr.nil n0
  show own_Go p e below (own_K s (own_Q_rmS Z q t hd tl n0) ({ frames := 1, cells := 0, slots := 0, locals := 15 } : Room).cells ({ frames := 1, cells := 0, slots := 0, locals := 15 } : Room).slots) _
  refine own_by (fun tt kont => castTop (own_ef_rmS m q (Int32.ofNat (tl - hd)) tk vx) kont) ?_
  show own_Go p e below _ (s₁.setTop (mkF m 0 #[.val (.ref q), .val (.int (Int32.ofNat (tl - hd))), .val (.int tk), .val (.int vx)] []))
  have key : own_Go p e below (own_K s (own_Q_rmS Z q t hd tl n0) ({ frames := 1, cells := 0, slots := 0, locals := 15 } : Room).cells ({ frames := 1, cells := 0, slots := 0, locals := 15 } : Room).slots) (s₁.setTop (mkF m 17 #[.val (.ref q), .val (.int (Int32.ofNat (tl - hd))), .val (.int tk), .val (.int vx)] [])) := by
    refine own_by (fun _ kont => XS.aloadN X0.here hx rfl (hb hby d4_17) rfl rfl kont) ?_
    show own_Go p e below _ (s₁.setTop (mkF m 18 #[.val (.ref q), .val (.int (Int32.ofNat (tl - hd))), .val (.int tk), .val (.int vx)] [(.ref q)]))
    refine own_by (fun _ kont => XS.iloadN X0.here hx rfl (hb hby d4_18) rfl kont) ?_
    show own_Go p e below _ (s₁.setTop (mkF m 19 #[.val (.ref q), .val (.int (Int32.ofNat (tl - hd))), .val (.int tk), .val (.int vx)] [(.int vx), (.ref q)]))
    obtain ⟨cq132, kq132, qa132, qb132, qc132⟩ := isOf hZ e0 I.1
    obtain ⟨_, _, ⟨T131, L131, k131, n131⟩, -, X131, ⟨Lc131, hQ131, l131, y131, z131⟩, st131⟩ := X0.virtualBack hx (y := (⟨"com/example/conjecta/conjecta/model/NumberQueue", "add", "(I)V"⟩ : MethodName)) (z := (⟨"com/example/conjecta/conjecta/model/NumberQueue", "add", "(I)V"⟩ : MethodName)) hown (mvT hZ (hw _ (List.mem_of_getElem? (i := 25) rfl))) (mvT hZ (hw _ (List.mem_of_getElem? (i := 26) rfl))) (notFace_of_selects (args := #[]) (mvT hZ (hw _ (List.mem_of_getElem? (i := 28) rfl)))) (mvT hZ (hw _ (List.mem_of_getElem? (i := 28) rfl))) (mvT hZ (hw _ (List.mem_of_getElem? (i := 27) rfl))) (by decide) (backOf (W := 0) (rmA l Z a0 hw [] q t vx hd tl h0 n0 I b2) hZ (hw _ (List.mem_of_getElem? (i := 29) rfl)) (hw _ (List.mem_of_getElem? (i := 2) rfl)) (by decide) (by decide)) qa132 qc132 (g := (mkF m 19 #[.val (.ref q), .val (.int (Int32.ofNat (tl - hd))), .val (.int tk), .val (.int vx)] [(.int vx), (.ref q)])) rfl (by rw [hml]; rfl) (Steps.refl _) (argsL := [(.int vx)]) (rest := []) (lenOf own_pd5 rfl) rfl (by show 2 * 0 + _ ≤ _; exact Nat.le_of_eq rfl) (hb hby d4_19) (fun _ _ => ⟨rfl, e0, (by decide : 0 + 0 ≤ _), (by decide : 0 + 0 ≤ _)⟩)
    dsimp only [Pt.U, Pt.locs, Pt.cells, Pt.slots] at X131 l131 y131 z131 st131 hQ131
    subst l131 y131 z131
    refine own_tr st131 ?_
    obtain ⟨rfl, N131, I131⟩ := hQ131
    obtain ⟨L131, X131, M131⟩ := own_hide X131 (Fr.app N0 N131)
    show own_Go p e below _ (T131.setTop (mkF m 22 #[.val (.ref q), .val (.int (Int32.ofNat (tl - hd))), .val (.int tk), .val (.int vx)] []))
    refine own_by (fun _ kont => XS.iloadN X131.here hx rfl (hb hby d4_22) rfl kont) ?_
    show own_Go p e below _ (T131.setTop (mkF m 23 #[.val (.ref q), .val (.int (Int32.ofNat (tl - hd))), .val (.int tk), .val (.int vx)] [(.int (Int32.ofNat (tl - hd)))]))
    refine own_by (fun _ kont => XT.iconstV X131.here hx rfl (1 : Int32) (hb hby d4_23) rfl kont) ?_
    show own_Go p e below _ (T131.setTop (mkF m 24 #[.val (.ref q), .val (.int (Int32.ofNat (tl - hd))), .val (.int tk), .val (.int vx)] [(.int (1 : Int32)), (.int (Int32.ofNat (tl - hd)))]))
    refine own_by (fun _ kont => XS.iadd X131.here hx rfl (hb hby d4_24) rfl kont) ?_
    show own_Go p e below _ (T131.setTop (mkF m 25 #[.val (.ref q), .val (.int (Int32.ofNat (tl - hd))), .val (.int tk), .val (.int vx)] [(.int ((Int32.ofNat (tl - hd)) + (1 : Int32)))]))
    rw [own_inc (k := tl - hd) (by omega)]
    exact own_ret X131 hx hlk hret rfl (Or.inl ⟨rfl, by simp, _, rfl⟩) (hb hby d4_25) ⟨M131, hd, tl + 1, by rw [show tl + 1 - hd = tl - hd + 1 by omega], by omega, by omega, I131⟩ (by decide) (by decide)
  refine own_by (fun _ kont => XS.iloadN X0.here hx rfl (hb hby d4_0) rfl kont) ?_
  show own_Go p e below _ (s₁.setTop (mkF m 1 #[.val (.ref q), .val (.int (Int32.ofNat (tl - hd))), .val (.int tk), .val (.int vx)] [(.int tk)]))
  by_cases h1 : tk = (0 : Int32)
  · refine own_by (fun _ kont => XS.ifYes X0.here hx rfl (pc0 := 1) (pc' := 17) rfl (hb hby d4_1) rfl (XT.i0_eq_t h1) (by decide) (by decide) kont) ?_
    show own_Go p e below _ (s₁.setTop (mkF m 17 #[.val (.ref q), .val (.int (Int32.ofNat (tl - hd))), .val (.int tk), .val (.int vx)] []))
    exact key
  refine own_by (fun _ kont => XS.ifNo X0.here hx rfl (hb hby d4_1) rfl (XT.i0_eq_f h1) kont) ?_
  show own_Go p e below _ (s₁.setTop (mkF m 4 #[.val (.ref q), .val (.int (Int32.ofNat (tl - hd))), .val (.int tk), .val (.int vx)] []))
  refine own_by (fun _ kont => XS.iloadN X0.here hx rfl (hb hby d4_4) rfl kont) ?_
  show own_Go p e below _ (s₁.setTop (mkF m 5 #[.val (.ref q), .val (.int (Int32.ofNat (tl - hd))), .val (.int tk), .val (.int vx)] [(.int (Int32.ofNat (tl - hd)))]))
  by_cases h5 : (0 : Int32) < (Int32.ofNat (tl - hd))
  · have hlt : hd < tl := by
      have q := Int32.lt_iff_toInt_lt.mp h5
      rw [own_i (k := tl - hd) (by omega), show (0 : Int32).toInt = 0 from rfl] at q
      omega
    refine own_by (fun _ kont => XS.ifNo X0.here hx rfl (hb hby d4_5) rfl (XT.i0_le_f h5) kont) ?_
    show own_Go p e below _ (s₁.setTop (mkF m 8 #[.val (.ref q), .val (.int (Int32.ofNat (tl - hd))), .val (.int tk), .val (.int vx)] []))
    refine own_by (fun _ kont => XS.aloadN X0.here hx rfl (hb hby d4_8) rfl rfl kont) ?_
    show own_Go p e below _ (s₁.setTop (mkF m 9 #[.val (.ref q), .val (.int (Int32.ofNat (tl - hd))), .val (.int tk), .val (.int vx)] [(.ref q)]))
    obtain ⟨cq134, kq134, qa134, qb134, qc134⟩ := isOf hZ e0 I.1
    obtain ⟨_, _, ⟨T133, L133, k133, n133⟩, -, X133, ⟨Lc133, hQ133, l133, y133, z133⟩, st133⟩ := X0.virtualBack hx (y := (⟨"com/example/conjecta/conjecta/model/NumberQueue", "take", "()I"⟩ : MethodName)) (z := (⟨"com/example/conjecta/conjecta/model/NumberQueue", "take", "()I"⟩ : MethodName)) hown (mvT hZ (hw _ (List.mem_of_getElem? (i := 30) rfl))) (mvT hZ (hw _ (List.mem_of_getElem? (i := 31) rfl))) (notFace_of_selects (args := #[]) (mvT hZ (hw _ (List.mem_of_getElem? (i := 33) rfl)))) (mvT hZ (hw _ (List.mem_of_getElem? (i := 33) rfl))) (mvT hZ (hw _ (List.mem_of_getElem? (i := 32) rfl))) (by decide) (backOf (W := 0) (rmT l Z a0 hw [] q t hd tl h0 n0 I (by omega)) hZ (hw _ (List.mem_of_getElem? (i := 34) rfl)) (hw _ (List.mem_of_getElem? (i := 2) rfl)) (by decide) (by decide)) qa134 qc134 (g := (mkF m 9 #[.val (.ref q), .val (.int (Int32.ofNat (tl - hd))), .val (.int tk), .val (.int vx)] [(.ref q)])) rfl (by rw [hml]; rfl) (Steps.refl _) (argsL := []) (rest := []) (lenOf own_pd6 rfl) rfl (by show 2 * 0 + _ ≤ _; exact Nat.le_of_eq rfl) (hb hby d4_9) (fun _ _ => ⟨rfl, e0, (by decide : 0 + 0 ≤ _), (by decide : 0 + 0 ≤ _)⟩)
    dsimp only [Pt.U, Pt.locs, Pt.cells, Pt.slots] at X133 l133 y133 z133 st133 hQ133
    subst l133 y133 z133
    refine own_tr st133 ?_
    obtain ⟨⟨z133, rfl⟩, N133, I133⟩ := hQ133
    obtain ⟨L133, X133, M133⟩ := own_hide X133 (Fr.app N0 N133)
    show own_Go p e below _ (T133.setTop (mkF m 12 #[.val (.ref q), .val (.int (Int32.ofNat (tl - hd))), .val (.int tk), .val (.int vx)] [(.int z133)]))
    refine own_by (fun _ kont => XT.pop X133.here hx rfl (hb hby d4_12) rfl rfl kont) ?_
    show own_Go p e below _ (T133.setTop (mkF m 13 #[.val (.ref q), .val (.int (Int32.ofNat (tl - hd))), .val (.int tk), .val (.int vx)] []))
    refine own_by (fun _ kont => XS.iloadN X133.here hx rfl (hb hby d4_13) rfl kont) ?_
    show own_Go p e below _ (T133.setTop (mkF m 14 #[.val (.ref q), .val (.int (Int32.ofNat (tl - hd))), .val (.int tk), .val (.int vx)] [(.int (Int32.ofNat (tl - hd)))]))
    refine own_by (fun _ kont => XT.iconstV X133.here hx rfl (1 : Int32) (hb hby d4_14) rfl kont) ?_
    show own_Go p e below _ (T133.setTop (mkF m 15 #[.val (.ref q), .val (.int (Int32.ofNat (tl - hd))), .val (.int tk), .val (.int vx)] [(.int (1 : Int32)), (.int (Int32.ofNat (tl - hd)))]))
    refine own_by (fun _ kont => XS.isub X133.here hx rfl (hb hby d4_15) rfl kont) ?_
    show own_Go p e below _ (T133.setTop (mkF m 16 #[.val (.ref q), .val (.int (Int32.ofNat (tl - hd))), .val (.int tk), .val (.int vx)] [(.int ((Int32.ofNat (tl - hd)) - (1 : Int32)))]))
    rw [own_dec (k := tl - hd) (by omega) (by omega)]
    exact own_ret X133 hx hlk hret rfl (Or.inl ⟨rfl, by simp, _, rfl⟩) (hb hby d4_16) ⟨M133, hd + 1, tl, by rw [show tl - (hd + 1) = tl - hd - 1 by omega], by omega, by omega, I133⟩ (by decide) (by decide)
  · refine own_by (fun _ kont => XS.ifYes X0.here hx rfl (pc0 := 5) (pc' := 17) rfl (hb hby d4_5) rfl (XT.i0_le_t h5) (by decide) (by decide) kont) ?_
    show own_Go p e below _ (s₁.setTop (mkF m 17 #[.val (.ref q), .val (.int (Int32.ofNat (tl - hd))), .val (.int tk), .val (.int vx)] []))
    exact key
def own_Q_rmL (Z : State) (n0 : Nat) : Option Value → Heap → List Loc → Prop := fun v h L => v = some (.int 1) ∧ Fr n0 L
set_option maxRecDepth 65536 in
set_option maxHeartbeats 40000000 in
theorem own_t3 {p : Program} {l : Launch} {e : Env} {s : State} {m : MethodId} {args : Array Value} {below : List Frame} {meth : Method} {c : Code} {T : State} {locs : List Loc} {Z : State} {a0 : Array Value} {n0 : Nat} {h : Heap} (X : Stand p l e room_1 s m args below meth c T locs 2 67) (hx : p.tables.exec = Jvm.exec) (hby : c.code = code) (hlk : meth.locks = false) (hret : meth.sig.returnType = some .boolean) (hZ : Z.Warmed39 s.vm) (hown : s.vm.findClass "com/example/conjecta/conjecta/model/NumberQueueIsEmptyPinLaw" = some m.cls) (hw : ∀ d ∈ tables_1, d.before a0 Z = true) (hml : c.maxLocals = 8) (N : Fr n0 locs) (e1 : T.heap = h) (i0 i1 i2 i3 i4 : Int32) (q t : Addr) (hd tl : Nat) (I : own_Inv Z h n0 q t hd tl) (b1 : hd ≤ tl) (b2 : tl ≤ 3) :
    own_Go p e below (own_K s (own_Q_rmL Z  n0) 2 67) (T.setTop (mkF m 175 #[.val (.int i0), .val (.int i1), .val (.int i2), .val (.int i3), .val (.int i4), .val (.ref q), .val (.int (1 : Int32)), .val (.int (Int32.ofNat (tl - hd)))] [])) := by
  have key : ∀ tk : Int32, own_Go p e below (own_K s (own_Q_rmL Z  n0) 2 67) (T.setTop (mkF m 192 #[.val (.int i0), .val (.int i1), .val (.int i2), .val (.int i3), .val (.int i4), .val (.ref q), .val (.int (1 : Int32)), .val (.int (Int32.ofNat (tl - hd)))] [(.int tk), (.int (Int32.ofNat (tl - hd))), (.ref q)])) := by
    intro tk
    refine own_by (fun _ kont => XS.iloadN X.here hx rfl (hb hby at_192) rfl kont) ?_
    show own_Go p e below _ (T.setTop (mkF m 193 #[.val (.int i0), .val (.int i1), .val (.int i2), .val (.int i3), .val (.int i4), .val (.ref q), .val (.int (1 : Int32)), .val (.int (Int32.ofNat (tl - hd)))] [(.int i3), (.int tk), (.int (Int32.ofNat (tl - hd))), (.ref q)]))
    obtain ⟨_, _, ⟨T135, L135, k135, n135⟩, -, X135, ⟨Lc135, hQ135, l135, y135, z135⟩, st135⟩ := Jvm.LawKit.callS X hx (y := (⟨"com/example/conjecta/conjecta/model/NumberQueueIsEmptyPinLaw", "step", "(Lcom/example/conjecta/conjecta/model/NumberQueue;IZI)I"⟩ : MethodName)) hown (mvT hZ (hw _ (List.mem_of_getElem? (i := 21) rfl))) (mvT hZ (hw _ (List.mem_of_getElem? (i := 22) rfl))) (mvT hZ (hw _ (List.mem_of_getElem? (i := 23) rfl))) (mvT hZ (hw _ (List.mem_of_getElem? (i := 24) rfl))) (by decide) (backOf (W := 0) (rmS l Z a0 hw [] q t tk i3 hd tl h n0 I b1 (by omega)) hZ (hw _ (List.mem_of_getElem? (i := 24) rfl)) (hw _ (List.mem_of_getElem? (i := 23) rfl)) (by decide) (by decide)) (g := (mkF m 193 #[.val (.int i0), .val (.int i1), .val (.int i2), .val (.int i3), .val (.int i4), .val (.ref q), .val (.int (1 : Int32)), .val (.int (Int32.ofNat (tl - hd)))] [(.int i3), (.int tk), (.int (Int32.ofNat (tl - hd))), (.ref q)])) rfl (by rw [hml]; rfl) (argsL := [(.ref q), (.int (Int32.ofNat (tl - hd))), (.int tk), (.int i3)]) (rest := []) (lenOf own_pd4 rfl) rfl (by show 2 * 0 + _ ≤ _; exact Nat.le_of_eq rfl) (hb hby at_193) (fun _ _ => ⟨rfl, e1, (by decide : 2 + 0 ≤ _), (by decide : 67 + 0 ≤ _)⟩)
    dsimp only [Pt.U, Pt.locs, Pt.cells, Pt.slots] at X135 l135 y135 z135 st135 hQ135
    subst l135 y135 z135
    refine own_by st135 ?_
    obtain ⟨N135, hd135, tl135, rfl, c1135, c2135, I135⟩ := hQ135
    obtain ⟨L135, X135, M135⟩ := own_hide X135 (Fr.app N N135)
    show own_Go p e below _ (T135.setTop (mkF m 196 #[.val (.int i0), .val (.int i1), .val (.int i2), .val (.int i3), .val (.int i4), .val (.ref q), .val (.int (1 : Int32)), .val (.int (Int32.ofNat (tl - hd)))] [(.int (Int32.ofNat (tl135 - hd135)))]))
    refine own_by (fun _ kont => XS.istore X135.here hx rfl (hb hby at_196) rfl (l' := #[.val (.int i0), .val (.int i1), .val (.int i2), .val (.int i3), .val (.int i4), .val (.ref q), .val (.int (1 : Int32)), .val (.int (Int32.ofNat (tl135 - hd135)))]) rfl kont) ?_
    show own_Go p e below _ (T135.setTop (mkF m 198 #[.val (.int i0), .val (.int i1), .val (.int i2), .val (.int i3), .val (.int i4), .val (.ref q), .val (.int (1 : Int32)), .val (.int (Int32.ofNat (tl135 - hd135)))] []))
    refine own_by (fun _ kont => XS.iload X135.here hx rfl (hb hby at_198) rfl kont) ?_
    show own_Go p e below _ (T135.setTop (mkF m 200 #[.val (.int i0), .val (.int i1), .val (.int i2), .val (.int i3), .val (.int i4), .val (.ref q), .val (.int (1 : Int32)), .val (.int (Int32.ofNat (tl135 - hd135)))] [(.int (1 : Int32))]))
    refine own_by (fun _ kont => XS.ifNo X135.here hx rfl (hb hby at_200) rfl (XT.i0_eq_f (by decide)) kont) ?_
    show own_Go p e below _ (T135.setTop (mkF m 203 #[.val (.int i0), .val (.int i1), .val (.int i2), .val (.int i3), .val (.int i4), .val (.ref q), .val (.int (1 : Int32)), .val (.int (Int32.ofNat (tl135 - hd135)))] []))
    refine own_by (fun _ kont => XS.aload X135.here hx rfl (hb hby at_203) rfl rfl kont) ?_
    show own_Go p e below _ (T135.setTop (mkF m 205 #[.val (.int i0), .val (.int i1), .val (.int i2), .val (.int i3), .val (.int i4), .val (.ref q), .val (.int (1 : Int32)), .val (.int (Int32.ofNat (tl135 - hd135)))] [(.ref q)]))
    obtain ⟨cq137, kq137, qa137, qb137, qc137⟩ := isOf hZ (rfl : T135.heap = T135.heap) I135.1
    obtain ⟨_, _, ⟨T136, L136, k136, n136⟩, -, X136, ⟨Lc136, hQ136, l136, y136, z136⟩, st136⟩ := X135.virtualBack hx (y := (⟨"com/example/conjecta/conjecta/model/NumberQueue", "isEmpty", "()Z"⟩ : MethodName)) (z := (⟨"com/example/conjecta/conjecta/model/NumberQueue", "isEmpty", "()Z"⟩ : MethodName)) hown (mvT hZ (hw _ (List.mem_of_getElem? (i := 12) rfl))) (mvT hZ (hw _ (List.mem_of_getElem? (i := 13) rfl))) (notFace_of_selects (args := #[]) (mvT hZ (hw _ (List.mem_of_getElem? (i := 15) rfl)))) (mvT hZ (hw _ (List.mem_of_getElem? (i := 15) rfl))) (mvT hZ (hw _ (List.mem_of_getElem? (i := 14) rfl))) (by decide) (backOf (W := 0) (rmE l Z a0 hw [] q t hd135 tl135 T135.heap n0 I135 (by omega) (by omega)) hZ (hw _ (List.mem_of_getElem? (i := 16) rfl)) (hw _ (List.mem_of_getElem? (i := 2) rfl)) (by decide) (by decide)) qa137 qc137 (g := (mkF m 205 #[.val (.int i0), .val (.int i1), .val (.int i2), .val (.int i3), .val (.int i4), .val (.ref q), .val (.int (1 : Int32)), .val (.int (Int32.ofNat (tl135 - hd135)))] [(.ref q)])) rfl (by rw [hml]; rfl) (Steps.refl _) (argsL := []) (rest := []) (lenOf own_pd2 rfl) rfl (by show 2 * 0 + _ ≤ _; exact Nat.le_of_eq rfl) (hb hby at_205) (fun _ _ => ⟨rfl, (rfl : T135.heap = T135.heap), (by decide : 2 + 0 ≤ _), (by decide : 67 + 0 ≤ _)⟩)
    dsimp only [Pt.U, Pt.locs, Pt.cells, Pt.slots] at X136 l136 y136 z136 st136 hQ136
    subst l136 y136 z136
    refine own_tr st136 ?_
    obtain ⟨rfl, N136, e136⟩ := hQ136
    obtain ⟨L136, X136, M136⟩ := own_hide X136 (Fr.app M135 N136)
    show own_Go p e below _ (T136.setTop (mkF m 208 #[.val (.int i0), .val (.int i1), .val (.int i2), .val (.int i3), .val (.int i4), .val (.ref q), .val (.int (1 : Int32)), .val (.int (Int32.ofNat (tl135 - hd135)))] [(.int (if hd135 = tl135 then 1 else 0))]))
    refine own_by (fun _ kont => XS.iload X136.here hx rfl (hb hby at_208) rfl kont) ?_
    show own_Go p e below _ (T136.setTop (mkF m 210 #[.val (.int i0), .val (.int i1), .val (.int i2), .val (.int i3), .val (.int i4), .val (.ref q), .val (.int (1 : Int32)), .val (.int (Int32.ofNat (tl135 - hd135)))] [(.int (Int32.ofNat (tl135 - hd135))), (.int (if hd135 = tl135 then 1 else 0))]))
    by_cases hq : hd135 = tl135
    · rw [if_pos hq]
      show own_Go p e below _ (T136.setTop (mkF m 210 #[.val (.int i0), .val (.int i1), .val (.int i2), .val (.int i3), .val (.int i4), .val (.ref q), .val (.int (1 : Int32)), .val (.int (Int32.ofNat (tl135 - hd135)))] [(.int (Int32.ofNat (tl135 - hd135))), (.int (1 : Int32))]))
      refine own_by (fun _ kont => XS.ifNo X136.here hx rfl (hb hby at_210) rfl (XT.i0_ne_f ((own_inj (b := 0) (by omega) (by omega)).mpr (by omega))) kont) ?_
      show own_Go p e below _ (T136.setTop (mkF m 213 #[.val (.int i0), .val (.int i1), .val (.int i2), .val (.int i3), .val (.int i4), .val (.ref q), .val (.int (1 : Int32)), .val (.int (Int32.ofNat (tl135 - hd135)))] [(.int (1 : Int32))]))
      refine own_by (fun _ kont => XT.iconstV X136.here hx rfl (1 : Int32) (hb hby at_213) rfl kont) ?_
      show own_Go p e below _ (T136.setTop (mkF m 214 #[.val (.int i0), .val (.int i1), .val (.int i2), .val (.int i3), .val (.int i4), .val (.ref q), .val (.int (1 : Int32)), .val (.int (Int32.ofNat (tl135 - hd135)))] [(.int (1 : Int32)), (.int (1 : Int32))]))
      refine own_by (fun _ kont => XS.goto X136.here hx rfl (pc0 := 214) (pc' := 218) rfl (hb hby at_214) (by decide) (by decide) kont) ?_
      show own_Go p e below _ (T136.setTop (mkF m 218 #[.val (.int i0), .val (.int i1), .val (.int i2), .val (.int i3), .val (.int i4), .val (.ref q), .val (.int (1 : Int32)), .val (.int (Int32.ofNat (tl135 - hd135)))] [(.int (1 : Int32)), (.int (1 : Int32))]))
      refine own_by (fun _ kont => XS.icmpNo X136.here hx rfl (hb hby at_218) rfl (XT.ii_ne_f (by decide)) kont) ?_
      show own_Go p e below _ (T136.setTop (mkF m 221 #[.val (.int i0), .val (.int i1), .val (.int i2), .val (.int i3), .val (.int i4), .val (.ref q), .val (.int (1 : Int32)), .val (.int (Int32.ofNat (tl135 - hd135)))] []))
      refine own_by (fun _ kont => XT.iconstV X136.here hx rfl (1 : Int32) (hb hby at_221) rfl kont) ?_
      show own_Go p e below _ (T136.setTop (mkF m 222 #[.val (.int i0), .val (.int i1), .val (.int i2), .val (.int i3), .val (.int i4), .val (.ref q), .val (.int (1 : Int32)), .val (.int (Int32.ofNat (tl135 - hd135)))] [(.int (1 : Int32))]))
      refine own_by (fun _ kont => XS.goto X136.here hx rfl (pc0 := 222) (pc' := 226) rfl (hb hby at_222) (by decide) (by decide) kont) ?_
      show own_Go p e below _ (T136.setTop (mkF m 226 #[.val (.int i0), .val (.int i1), .val (.int i2), .val (.int i3), .val (.int i4), .val (.ref q), .val (.int (1 : Int32)), .val (.int (Int32.ofNat (tl135 - hd135)))] [(.int (1 : Int32))]))
      refine own_by (fun _ kont => XS.istore X136.here hx rfl (hb hby at_226) rfl (l' := #[.val (.int i0), .val (.int i1), .val (.int i2), .val (.int i3), .val (.int i4), .val (.ref q), .val (.int (1 : Int32)), .val (.int (Int32.ofNat (tl135 - hd135)))]) rfl kont) ?_
      show own_Go p e below _ (T136.setTop (mkF m 228 #[.val (.int i0), .val (.int i1), .val (.int i2), .val (.int i3), .val (.int i4), .val (.ref q), .val (.int (1 : Int32)), .val (.int (Int32.ofNat (tl135 - hd135)))] []))
      refine own_by (fun _ kont => XS.iload X136.here hx rfl (hb hby at_228) rfl kont) ?_
      show own_Go p e below _ (T136.setTop (mkF m 230 #[.val (.int i0), .val (.int i1), .val (.int i2), .val (.int i3), .val (.int i4), .val (.ref q), .val (.int (1 : Int32)), .val (.int (Int32.ofNat (tl135 - hd135)))] [(.int (1 : Int32))]))
      exact own_ret X136 hx hlk hret rfl (Or.inl ⟨rfl, by simp, _, rfl⟩) (hb hby at_230) ⟨rfl, M136⟩ (by decide) (by decide)
    · rw [if_neg hq]
      show own_Go p e below _ (T136.setTop (mkF m 210 #[.val (.int i0), .val (.int i1), .val (.int i2), .val (.int i3), .val (.int i4), .val (.ref q), .val (.int (1 : Int32)), .val (.int (Int32.ofNat (tl135 - hd135)))] [(.int (Int32.ofNat (tl135 - hd135))), (.int (0 : Int32))]))
      refine own_by (fun _ kont => XS.ifYes X136.here hx rfl (pc0 := 210) (pc' := 217) rfl (hb hby at_210) rfl (XT.i0_ne_t (fun z => hq (by have := (own_inj (b := 0) (by omega) (by omega)).mp z; omega))) (by decide) (by decide) kont) ?_
      show own_Go p e below _ (T136.setTop (mkF m 217 #[.val (.int i0), .val (.int i1), .val (.int i2), .val (.int i3), .val (.int i4), .val (.ref q), .val (.int (1 : Int32)), .val (.int (Int32.ofNat (tl135 - hd135)))] [(.int (0 : Int32))]))
      refine own_by (fun _ kont => XT.iconstV X136.here hx rfl (0 : Int32) (hb hby at_217) rfl kont) ?_
      show own_Go p e below _ (T136.setTop (mkF m 218 #[.val (.int i0), .val (.int i1), .val (.int i2), .val (.int i3), .val (.int i4), .val (.ref q), .val (.int (1 : Int32)), .val (.int (Int32.ofNat (tl135 - hd135)))] [(.int (0 : Int32)), (.int (0 : Int32))]))
      refine own_by (fun _ kont => XS.icmpNo X136.here hx rfl (hb hby at_218) rfl (XT.ii_ne_f (by decide)) kont) ?_
      show own_Go p e below _ (T136.setTop (mkF m 221 #[.val (.int i0), .val (.int i1), .val (.int i2), .val (.int i3), .val (.int i4), .val (.ref q), .val (.int (1 : Int32)), .val (.int (Int32.ofNat (tl135 - hd135)))] []))
      refine own_by (fun _ kont => XT.iconstV X136.here hx rfl (1 : Int32) (hb hby at_221) rfl kont) ?_
      show own_Go p e below _ (T136.setTop (mkF m 222 #[.val (.int i0), .val (.int i1), .val (.int i2), .val (.int i3), .val (.int i4), .val (.ref q), .val (.int (1 : Int32)), .val (.int (Int32.ofNat (tl135 - hd135)))] [(.int (1 : Int32))]))
      refine own_by (fun _ kont => XS.goto X136.here hx rfl (pc0 := 222) (pc' := 226) rfl (hb hby at_222) (by decide) (by decide) kont) ?_
      show own_Go p e below _ (T136.setTop (mkF m 226 #[.val (.int i0), .val (.int i1), .val (.int i2), .val (.int i3), .val (.int i4), .val (.ref q), .val (.int (1 : Int32)), .val (.int (Int32.ofNat (tl135 - hd135)))] [(.int (1 : Int32))]))
      refine own_by (fun _ kont => XS.istore X136.here hx rfl (hb hby at_226) rfl (l' := #[.val (.int i0), .val (.int i1), .val (.int i2), .val (.int i3), .val (.int i4), .val (.ref q), .val (.int (1 : Int32)), .val (.int (Int32.ofNat (tl135 - hd135)))]) rfl kont) ?_
      show own_Go p e below _ (T136.setTop (mkF m 228 #[.val (.int i0), .val (.int i1), .val (.int i2), .val (.int i3), .val (.int i4), .val (.ref q), .val (.int (1 : Int32)), .val (.int (Int32.ofNat (tl135 - hd135)))] []))
      refine own_by (fun _ kont => XS.iload X136.here hx rfl (hb hby at_228) rfl kont) ?_
      show own_Go p e below _ (T136.setTop (mkF m 230 #[.val (.int i0), .val (.int i1), .val (.int i2), .val (.int i3), .val (.int i4), .val (.ref q), .val (.int (1 : Int32)), .val (.int (Int32.ofNat (tl135 - hd135)))] [(.int (1 : Int32))]))
      exact own_ret X136 hx hlk hret rfl (Or.inl ⟨rfl, by simp, _, rfl⟩) (hb hby at_230) ⟨rfl, M136⟩ (by decide) (by decide)
  refine own_by (fun _ kont => XS.aload X.here hx rfl (hb hby at_175) rfl rfl kont) ?_
  show own_Go p e below _ (T.setTop (mkF m 177 #[.val (.int i0), .val (.int i1), .val (.int i2), .val (.int i3), .val (.int i4), .val (.ref q), .val (.int (1 : Int32)), .val (.int (Int32.ofNat (tl - hd)))] [(.ref q)]))
  refine own_by (fun _ kont => XS.iload X.here hx rfl (hb hby at_177) rfl kont) ?_
  show own_Go p e below _ (T.setTop (mkF m 179 #[.val (.int i0), .val (.int i1), .val (.int i2), .val (.int i3), .val (.int i4), .val (.ref q), .val (.int (1 : Int32)), .val (.int (Int32.ofNat (tl - hd)))] [(.int (Int32.ofNat (tl - hd))), (.ref q)]))
  refine own_by (fun _ kont => XS.iload X.here hx rfl (hb hby at_179) rfl kont) ?_
  show own_Go p e below _ (T.setTop (mkF m 181 #[.val (.int i0), .val (.int i1), .val (.int i2), .val (.int i3), .val (.int i4), .val (.ref q), .val (.int (1 : Int32)), .val (.int (Int32.ofNat (tl - hd)))] [(.int i4), (.int (Int32.ofNat (tl - hd))), (.ref q)]))
  refine own_by (fun _ kont => XT.bipushV X.here hx rfl (8 : Int32) (hb hby at_181) rfl kont) ?_
  show own_Go p e below _ (T.setTop (mkF m 183 #[.val (.int i0), .val (.int i1), .val (.int i2), .val (.int i3), .val (.int i4), .val (.ref q), .val (.int (1 : Int32)), .val (.int (Int32.ofNat (tl - hd)))] [(.int (8 : Int32)), (.int i4), (.int (Int32.ofNat (tl - hd))), (.ref q)]))
  refine own_by (fun _ kont => XS.iand X.here hx rfl (hb hby at_183) rfl kont) ?_
  show own_Go p e below _ (T.setTop (mkF m 184 #[.val (.int i0), .val (.int i1), .val (.int i2), .val (.int i3), .val (.int i4), .val (.ref q), .val (.int (1 : Int32)), .val (.int (Int32.ofNat (tl - hd)))] [(.int (i4 &&& (8 : Int32))), (.int (Int32.ofNat (tl - hd))), (.ref q)]))
  by_cases h1 : (i4 &&& (8 : Int32)) = (0 : Int32)
  · refine own_by (fun _ kont => XS.ifYes X.here hx rfl (pc0 := 184) (pc' := 191) rfl (hb hby at_184) rfl (XT.i0_eq_t h1) (by decide) (by decide) kont) ?_
    show own_Go p e below _ (T.setTop (mkF m 191 #[.val (.int i0), .val (.int i1), .val (.int i2), .val (.int i3), .val (.int i4), .val (.ref q), .val (.int (1 : Int32)), .val (.int (Int32.ofNat (tl - hd)))] [(.int (Int32.ofNat (tl - hd))), (.ref q)]))
    refine own_by (fun _ kont => XT.iconstV X.here hx rfl (0 : Int32) (hb hby at_191) rfl kont) ?_
    show own_Go p e below _ (T.setTop (mkF m 192 #[.val (.int i0), .val (.int i1), .val (.int i2), .val (.int i3), .val (.int i4), .val (.ref q), .val (.int (1 : Int32)), .val (.int (Int32.ofNat (tl - hd)))] [(.int (0 : Int32)), (.int (Int32.ofNat (tl - hd))), (.ref q)]))
    exact key _
  · refine own_by (fun _ kont => XS.ifNo X.here hx rfl (hb hby at_184) rfl (XT.i0_eq_f h1) kont) ?_
    show own_Go p e below _ (T.setTop (mkF m 187 #[.val (.int i0), .val (.int i1), .val (.int i2), .val (.int i3), .val (.int i4), .val (.ref q), .val (.int (1 : Int32)), .val (.int (Int32.ofNat (tl - hd)))] [(.int (Int32.ofNat (tl - hd))), (.ref q)]))
    refine own_by (fun _ kont => XT.iconstV X.here hx rfl (1 : Int32) (hb hby at_187) rfl kont) ?_
    show own_Go p e below _ (T.setTop (mkF m 188 #[.val (.int i0), .val (.int i1), .val (.int i2), .val (.int i3), .val (.int i4), .val (.ref q), .val (.int (1 : Int32)), .val (.int (Int32.ofNat (tl - hd)))] [(.int (1 : Int32)), (.int (Int32.ofNat (tl - hd))), (.ref q)]))
    refine own_by (fun _ kont => XS.goto X.here hx rfl (pc0 := 188) (pc' := 192) rfl (hb hby at_188) (by decide) (by decide) kont) ?_
    show own_Go p e below _ (T.setTop (mkF m 192 #[.val (.int i0), .val (.int i1), .val (.int i2), .val (.int i3), .val (.int i4), .val (.ref q), .val (.int (1 : Int32)), .val (.int (Int32.ofNat (tl - hd)))] [(.int (1 : Int32)), (.int (Int32.ofNat (tl - hd))), (.ref q)]))
    exact key _
set_option maxRecDepth 65536 in
set_option maxHeartbeats 40000000 in
theorem own_t2 {p : Program} {l : Launch} {e : Env} {s : State} {m : MethodId} {args : Array Value} {below : List Frame} {meth : Method} {c : Code} {T : State} {locs : List Loc} {Z : State} {a0 : Array Value} {n0 : Nat} {h : Heap} (X : Stand p l e room_1 s m args below meth c T locs 2 67) (hx : p.tables.exec = Jvm.exec) (hby : c.code = code) (hlk : meth.locks = false) (hret : meth.sig.returnType = some .boolean) (hZ : Z.Warmed39 s.vm) (hown : s.vm.findClass "com/example/conjecta/conjecta/model/NumberQueueIsEmptyPinLaw" = some m.cls) (hw : ∀ d ∈ tables_1, d.before a0 Z = true) (hml : c.maxLocals = 8) (N : Fr n0 locs) (e1 : T.heap = h) (i0 i1 i2 i3 i4 : Int32) (q t : Addr) (hd tl : Nat) (I : own_Inv Z h n0 q t hd tl) (b1 : hd ≤ tl) (b2 : tl ≤ 2) :
    own_Go p e below (own_K s (own_Q_rmL Z  n0) 2 67) (T.setTop (mkF m 123 #[.val (.int i0), .val (.int i1), .val (.int i2), .val (.int i3), .val (.int i4), .val (.ref q), .val (.int (1 : Int32)), .val (.int (Int32.ofNat (tl - hd)))] [])) := by
  have key : ∀ tk : Int32, own_Go p e below (own_K s (own_Q_rmL Z  n0) 2 67) (T.setTop (mkF m 139 #[.val (.int i0), .val (.int i1), .val (.int i2), .val (.int i3), .val (.int i4), .val (.ref q), .val (.int (1 : Int32)), .val (.int (Int32.ofNat (tl - hd)))] [(.int tk), (.int (Int32.ofNat (tl - hd))), (.ref q)])) := by
    intro tk
    refine own_by (fun _ kont => XS.iloadN X.here hx rfl (hb hby at_139) rfl kont) ?_
    show own_Go p e below _ (T.setTop (mkF m 140 #[.val (.int i0), .val (.int i1), .val (.int i2), .val (.int i3), .val (.int i4), .val (.ref q), .val (.int (1 : Int32)), .val (.int (Int32.ofNat (tl - hd)))] [(.int i2), (.int tk), (.int (Int32.ofNat (tl - hd))), (.ref q)]))
    obtain ⟨_, _, ⟨T138, L138, k138, n138⟩, -, X138, ⟨Lc138, hQ138, l138, y138, z138⟩, st138⟩ := Jvm.LawKit.callS X hx (y := (⟨"com/example/conjecta/conjecta/model/NumberQueueIsEmptyPinLaw", "step", "(Lcom/example/conjecta/conjecta/model/NumberQueue;IZI)I"⟩ : MethodName)) hown (mvT hZ (hw _ (List.mem_of_getElem? (i := 21) rfl))) (mvT hZ (hw _ (List.mem_of_getElem? (i := 22) rfl))) (mvT hZ (hw _ (List.mem_of_getElem? (i := 23) rfl))) (mvT hZ (hw _ (List.mem_of_getElem? (i := 24) rfl))) (by decide) (backOf (W := 0) (rmS l Z a0 hw [] q t tk i2 hd tl h n0 I b1 (by omega)) hZ (hw _ (List.mem_of_getElem? (i := 24) rfl)) (hw _ (List.mem_of_getElem? (i := 23) rfl)) (by decide) (by decide)) (g := (mkF m 140 #[.val (.int i0), .val (.int i1), .val (.int i2), .val (.int i3), .val (.int i4), .val (.ref q), .val (.int (1 : Int32)), .val (.int (Int32.ofNat (tl - hd)))] [(.int i2), (.int tk), (.int (Int32.ofNat (tl - hd))), (.ref q)])) rfl (by rw [hml]; rfl) (argsL := [(.ref q), (.int (Int32.ofNat (tl - hd))), (.int tk), (.int i2)]) (rest := []) (lenOf own_pd4 rfl) rfl (by show 2 * 0 + _ ≤ _; exact Nat.le_of_eq rfl) (hb hby at_140) (fun _ _ => ⟨rfl, e1, (by decide : 2 + 0 ≤ _), (by decide : 67 + 0 ≤ _)⟩)
    dsimp only [Pt.U, Pt.locs, Pt.cells, Pt.slots] at X138 l138 y138 z138 st138 hQ138
    subst l138 y138 z138
    refine own_by st138 ?_
    obtain ⟨N138, hd138, tl138, rfl, c1138, c2138, I138⟩ := hQ138
    obtain ⟨L138, X138, M138⟩ := own_hide X138 (Fr.app N N138)
    show own_Go p e below _ (T138.setTop (mkF m 143 #[.val (.int i0), .val (.int i1), .val (.int i2), .val (.int i3), .val (.int i4), .val (.ref q), .val (.int (1 : Int32)), .val (.int (Int32.ofNat (tl - hd)))] [(.int (Int32.ofNat (tl138 - hd138)))]))
    refine own_by (fun _ kont => XS.istore X138.here hx rfl (hb hby at_143) rfl (l' := #[.val (.int i0), .val (.int i1), .val (.int i2), .val (.int i3), .val (.int i4), .val (.ref q), .val (.int (1 : Int32)), .val (.int (Int32.ofNat (tl138 - hd138)))]) rfl kont) ?_
    show own_Go p e below _ (T138.setTop (mkF m 145 #[.val (.int i0), .val (.int i1), .val (.int i2), .val (.int i3), .val (.int i4), .val (.ref q), .val (.int (1 : Int32)), .val (.int (Int32.ofNat (tl138 - hd138)))] []))
    refine own_by (fun _ kont => XS.iload X138.here hx rfl (hb hby at_145) rfl kont) ?_
    show own_Go p e below _ (T138.setTop (mkF m 147 #[.val (.int i0), .val (.int i1), .val (.int i2), .val (.int i3), .val (.int i4), .val (.ref q), .val (.int (1 : Int32)), .val (.int (Int32.ofNat (tl138 - hd138)))] [(.int (1 : Int32))]))
    refine own_by (fun _ kont => XS.ifNo X138.here hx rfl (hb hby at_147) rfl (XT.i0_eq_f (by decide)) kont) ?_
    show own_Go p e below _ (T138.setTop (mkF m 150 #[.val (.int i0), .val (.int i1), .val (.int i2), .val (.int i3), .val (.int i4), .val (.ref q), .val (.int (1 : Int32)), .val (.int (Int32.ofNat (tl138 - hd138)))] []))
    refine own_by (fun _ kont => XS.aload X138.here hx rfl (hb hby at_150) rfl rfl kont) ?_
    show own_Go p e below _ (T138.setTop (mkF m 152 #[.val (.int i0), .val (.int i1), .val (.int i2), .val (.int i3), .val (.int i4), .val (.ref q), .val (.int (1 : Int32)), .val (.int (Int32.ofNat (tl138 - hd138)))] [(.ref q)]))
    obtain ⟨cq140, kq140, qa140, qb140, qc140⟩ := isOf hZ (rfl : T138.heap = T138.heap) I138.1
    obtain ⟨_, _, ⟨T139, L139, k139, n139⟩, -, X139, ⟨Lc139, hQ139, l139, y139, z139⟩, st139⟩ := X138.virtualBack hx (y := (⟨"com/example/conjecta/conjecta/model/NumberQueue", "isEmpty", "()Z"⟩ : MethodName)) (z := (⟨"com/example/conjecta/conjecta/model/NumberQueue", "isEmpty", "()Z"⟩ : MethodName)) hown (mvT hZ (hw _ (List.mem_of_getElem? (i := 12) rfl))) (mvT hZ (hw _ (List.mem_of_getElem? (i := 13) rfl))) (notFace_of_selects (args := #[]) (mvT hZ (hw _ (List.mem_of_getElem? (i := 15) rfl)))) (mvT hZ (hw _ (List.mem_of_getElem? (i := 15) rfl))) (mvT hZ (hw _ (List.mem_of_getElem? (i := 14) rfl))) (by decide) (backOf (W := 0) (rmE l Z a0 hw [] q t hd138 tl138 T138.heap n0 I138 (by omega) (by omega)) hZ (hw _ (List.mem_of_getElem? (i := 16) rfl)) (hw _ (List.mem_of_getElem? (i := 2) rfl)) (by decide) (by decide)) qa140 qc140 (g := (mkF m 152 #[.val (.int i0), .val (.int i1), .val (.int i2), .val (.int i3), .val (.int i4), .val (.ref q), .val (.int (1 : Int32)), .val (.int (Int32.ofNat (tl138 - hd138)))] [(.ref q)])) rfl (by rw [hml]; rfl) (Steps.refl _) (argsL := []) (rest := []) (lenOf own_pd2 rfl) rfl (by show 2 * 0 + _ ≤ _; exact Nat.le_of_eq rfl) (hb hby at_152) (fun _ _ => ⟨rfl, (rfl : T138.heap = T138.heap), (by decide : 2 + 0 ≤ _), (by decide : 67 + 0 ≤ _)⟩)
    dsimp only [Pt.U, Pt.locs, Pt.cells, Pt.slots] at X139 l139 y139 z139 st139 hQ139
    subst l139 y139 z139
    refine own_tr st139 ?_
    obtain ⟨rfl, N139, e139⟩ := hQ139
    obtain ⟨L139, X139, M139⟩ := own_hide X139 (Fr.app M138 N139)
    show own_Go p e below _ (T139.setTop (mkF m 155 #[.val (.int i0), .val (.int i1), .val (.int i2), .val (.int i3), .val (.int i4), .val (.ref q), .val (.int (1 : Int32)), .val (.int (Int32.ofNat (tl138 - hd138)))] [(.int (if hd138 = tl138 then 1 else 0))]))
    refine own_by (fun _ kont => XS.iload X139.here hx rfl (hb hby at_155) rfl kont) ?_
    show own_Go p e below _ (T139.setTop (mkF m 157 #[.val (.int i0), .val (.int i1), .val (.int i2), .val (.int i3), .val (.int i4), .val (.ref q), .val (.int (1 : Int32)), .val (.int (Int32.ofNat (tl138 - hd138)))] [(.int (Int32.ofNat (tl138 - hd138))), (.int (if hd138 = tl138 then 1 else 0))]))
    by_cases hq : hd138 = tl138
    · rw [if_pos hq]
      show own_Go p e below _ (T139.setTop (mkF m 157 #[.val (.int i0), .val (.int i1), .val (.int i2), .val (.int i3), .val (.int i4), .val (.ref q), .val (.int (1 : Int32)), .val (.int (Int32.ofNat (tl138 - hd138)))] [(.int (Int32.ofNat (tl138 - hd138))), (.int (1 : Int32))]))
      refine own_by (fun _ kont => XS.ifNo X139.here hx rfl (hb hby at_157) rfl (XT.i0_ne_f ((own_inj (b := 0) (by omega) (by omega)).mpr (by omega))) kont) ?_
      show own_Go p e below _ (T139.setTop (mkF m 160 #[.val (.int i0), .val (.int i1), .val (.int i2), .val (.int i3), .val (.int i4), .val (.ref q), .val (.int (1 : Int32)), .val (.int (Int32.ofNat (tl138 - hd138)))] [(.int (1 : Int32))]))
      refine own_by (fun _ kont => XT.iconstV X139.here hx rfl (1 : Int32) (hb hby at_160) rfl kont) ?_
      show own_Go p e below _ (T139.setTop (mkF m 161 #[.val (.int i0), .val (.int i1), .val (.int i2), .val (.int i3), .val (.int i4), .val (.ref q), .val (.int (1 : Int32)), .val (.int (Int32.ofNat (tl138 - hd138)))] [(.int (1 : Int32)), (.int (1 : Int32))]))
      refine own_by (fun _ kont => XS.goto X139.here hx rfl (pc0 := 161) (pc' := 165) rfl (hb hby at_161) (by decide) (by decide) kont) ?_
      show own_Go p e below _ (T139.setTop (mkF m 165 #[.val (.int i0), .val (.int i1), .val (.int i2), .val (.int i3), .val (.int i4), .val (.ref q), .val (.int (1 : Int32)), .val (.int (Int32.ofNat (tl138 - hd138)))] [(.int (1 : Int32)), (.int (1 : Int32))]))
      refine own_by (fun _ kont => XS.icmpNo X139.here hx rfl (hb hby at_165) rfl (XT.ii_ne_f (by decide)) kont) ?_
      show own_Go p e below _ (T139.setTop (mkF m 168 #[.val (.int i0), .val (.int i1), .val (.int i2), .val (.int i3), .val (.int i4), .val (.ref q), .val (.int (1 : Int32)), .val (.int (Int32.ofNat (tl138 - hd138)))] []))
      refine own_by (fun _ kont => XT.iconstV X139.here hx rfl (1 : Int32) (hb hby at_168) rfl kont) ?_
      show own_Go p e below _ (T139.setTop (mkF m 169 #[.val (.int i0), .val (.int i1), .val (.int i2), .val (.int i3), .val (.int i4), .val (.ref q), .val (.int (1 : Int32)), .val (.int (Int32.ofNat (tl138 - hd138)))] [(.int (1 : Int32))]))
      refine own_by (fun _ kont => XS.goto X139.here hx rfl (pc0 := 169) (pc' := 173) rfl (hb hby at_169) (by decide) (by decide) kont) ?_
      show own_Go p e below _ (T139.setTop (mkF m 173 #[.val (.int i0), .val (.int i1), .val (.int i2), .val (.int i3), .val (.int i4), .val (.ref q), .val (.int (1 : Int32)), .val (.int (Int32.ofNat (tl138 - hd138)))] [(.int (1 : Int32))]))
      refine own_by (fun _ kont => XS.istore X139.here hx rfl (hb hby at_173) rfl (l' := #[.val (.int i0), .val (.int i1), .val (.int i2), .val (.int i3), .val (.int i4), .val (.ref q), .val (.int (1 : Int32)), .val (.int (Int32.ofNat (tl138 - hd138)))]) rfl kont) ?_
      show own_Go p e below _ (T139.setTop (mkF m 175 #[.val (.int i0), .val (.int i1), .val (.int i2), .val (.int i3), .val (.int i4), .val (.ref q), .val (.int (1 : Int32)), .val (.int (Int32.ofNat (tl138 - hd138)))] []))
      exact own_t3 X139 hx hby hlk hret hZ hown hw hml M139 e139 i0 i1 i2 i3 i4 q t hd138 tl138 I138 c1138 (by omega)
    · rw [if_neg hq]
      show own_Go p e below _ (T139.setTop (mkF m 157 #[.val (.int i0), .val (.int i1), .val (.int i2), .val (.int i3), .val (.int i4), .val (.ref q), .val (.int (1 : Int32)), .val (.int (Int32.ofNat (tl138 - hd138)))] [(.int (Int32.ofNat (tl138 - hd138))), (.int (0 : Int32))]))
      refine own_by (fun _ kont => XS.ifYes X139.here hx rfl (pc0 := 157) (pc' := 164) rfl (hb hby at_157) rfl (XT.i0_ne_t (fun z => hq (by have := (own_inj (b := 0) (by omega) (by omega)).mp z; omega))) (by decide) (by decide) kont) ?_
      show own_Go p e below _ (T139.setTop (mkF m 164 #[.val (.int i0), .val (.int i1), .val (.int i2), .val (.int i3), .val (.int i4), .val (.ref q), .val (.int (1 : Int32)), .val (.int (Int32.ofNat (tl138 - hd138)))] [(.int (0 : Int32))]))
      refine own_by (fun _ kont => XT.iconstV X139.here hx rfl (0 : Int32) (hb hby at_164) rfl kont) ?_
      show own_Go p e below _ (T139.setTop (mkF m 165 #[.val (.int i0), .val (.int i1), .val (.int i2), .val (.int i3), .val (.int i4), .val (.ref q), .val (.int (1 : Int32)), .val (.int (Int32.ofNat (tl138 - hd138)))] [(.int (0 : Int32)), (.int (0 : Int32))]))
      refine own_by (fun _ kont => XS.icmpNo X139.here hx rfl (hb hby at_165) rfl (XT.ii_ne_f (by decide)) kont) ?_
      show own_Go p e below _ (T139.setTop (mkF m 168 #[.val (.int i0), .val (.int i1), .val (.int i2), .val (.int i3), .val (.int i4), .val (.ref q), .val (.int (1 : Int32)), .val (.int (Int32.ofNat (tl138 - hd138)))] []))
      refine own_by (fun _ kont => XT.iconstV X139.here hx rfl (1 : Int32) (hb hby at_168) rfl kont) ?_
      show own_Go p e below _ (T139.setTop (mkF m 169 #[.val (.int i0), .val (.int i1), .val (.int i2), .val (.int i3), .val (.int i4), .val (.ref q), .val (.int (1 : Int32)), .val (.int (Int32.ofNat (tl138 - hd138)))] [(.int (1 : Int32))]))
      refine own_by (fun _ kont => XS.goto X139.here hx rfl (pc0 := 169) (pc' := 173) rfl (hb hby at_169) (by decide) (by decide) kont) ?_
      show own_Go p e below _ (T139.setTop (mkF m 173 #[.val (.int i0), .val (.int i1), .val (.int i2), .val (.int i3), .val (.int i4), .val (.ref q), .val (.int (1 : Int32)), .val (.int (Int32.ofNat (tl138 - hd138)))] [(.int (1 : Int32))]))
      refine own_by (fun _ kont => XS.istore X139.here hx rfl (hb hby at_173) rfl (l' := #[.val (.int i0), .val (.int i1), .val (.int i2), .val (.int i3), .val (.int i4), .val (.ref q), .val (.int (1 : Int32)), .val (.int (Int32.ofNat (tl138 - hd138)))]) rfl kont) ?_
      show own_Go p e below _ (T139.setTop (mkF m 175 #[.val (.int i0), .val (.int i1), .val (.int i2), .val (.int i3), .val (.int i4), .val (.ref q), .val (.int (1 : Int32)), .val (.int (Int32.ofNat (tl138 - hd138)))] []))
      exact own_t3 X139 hx hby hlk hret hZ hown hw hml M139 e139 i0 i1 i2 i3 i4 q t hd138 tl138 I138 c1138 (by omega)
  refine own_by (fun _ kont => XS.aload X.here hx rfl (hb hby at_123) rfl rfl kont) ?_
  show own_Go p e below _ (T.setTop (mkF m 125 #[.val (.int i0), .val (.int i1), .val (.int i2), .val (.int i3), .val (.int i4), .val (.ref q), .val (.int (1 : Int32)), .val (.int (Int32.ofNat (tl - hd)))] [(.ref q)]))
  refine own_by (fun _ kont => XS.iload X.here hx rfl (hb hby at_125) rfl kont) ?_
  show own_Go p e below _ (T.setTop (mkF m 127 #[.val (.int i0), .val (.int i1), .val (.int i2), .val (.int i3), .val (.int i4), .val (.ref q), .val (.int (1 : Int32)), .val (.int (Int32.ofNat (tl - hd)))] [(.int (Int32.ofNat (tl - hd))), (.ref q)]))
  refine own_by (fun _ kont => XS.iload X.here hx rfl (hb hby at_127) rfl kont) ?_
  show own_Go p e below _ (T.setTop (mkF m 129 #[.val (.int i0), .val (.int i1), .val (.int i2), .val (.int i3), .val (.int i4), .val (.ref q), .val (.int (1 : Int32)), .val (.int (Int32.ofNat (tl - hd)))] [(.int i4), (.int (Int32.ofNat (tl - hd))), (.ref q)]))
  refine own_by (fun _ kont => XT.iconstV X.here hx rfl (4 : Int32) (hb hby at_129) rfl kont) ?_
  show own_Go p e below _ (T.setTop (mkF m 130 #[.val (.int i0), .val (.int i1), .val (.int i2), .val (.int i3), .val (.int i4), .val (.ref q), .val (.int (1 : Int32)), .val (.int (Int32.ofNat (tl - hd)))] [(.int (4 : Int32)), (.int i4), (.int (Int32.ofNat (tl - hd))), (.ref q)]))
  refine own_by (fun _ kont => XS.iand X.here hx rfl (hb hby at_130) rfl kont) ?_
  show own_Go p e below _ (T.setTop (mkF m 131 #[.val (.int i0), .val (.int i1), .val (.int i2), .val (.int i3), .val (.int i4), .val (.ref q), .val (.int (1 : Int32)), .val (.int (Int32.ofNat (tl - hd)))] [(.int (i4 &&& (4 : Int32))), (.int (Int32.ofNat (tl - hd))), (.ref q)]))
  by_cases h1 : (i4 &&& (4 : Int32)) = (0 : Int32)
  · refine own_by (fun _ kont => XS.ifYes X.here hx rfl (pc0 := 131) (pc' := 138) rfl (hb hby at_131) rfl (XT.i0_eq_t h1) (by decide) (by decide) kont) ?_
    show own_Go p e below _ (T.setTop (mkF m 138 #[.val (.int i0), .val (.int i1), .val (.int i2), .val (.int i3), .val (.int i4), .val (.ref q), .val (.int (1 : Int32)), .val (.int (Int32.ofNat (tl - hd)))] [(.int (Int32.ofNat (tl - hd))), (.ref q)]))
    refine own_by (fun _ kont => XT.iconstV X.here hx rfl (0 : Int32) (hb hby at_138) rfl kont) ?_
    show own_Go p e below _ (T.setTop (mkF m 139 #[.val (.int i0), .val (.int i1), .val (.int i2), .val (.int i3), .val (.int i4), .val (.ref q), .val (.int (1 : Int32)), .val (.int (Int32.ofNat (tl - hd)))] [(.int (0 : Int32)), (.int (Int32.ofNat (tl - hd))), (.ref q)]))
    exact key _
  · refine own_by (fun _ kont => XS.ifNo X.here hx rfl (hb hby at_131) rfl (XT.i0_eq_f h1) kont) ?_
    show own_Go p e below _ (T.setTop (mkF m 134 #[.val (.int i0), .val (.int i1), .val (.int i2), .val (.int i3), .val (.int i4), .val (.ref q), .val (.int (1 : Int32)), .val (.int (Int32.ofNat (tl - hd)))] [(.int (Int32.ofNat (tl - hd))), (.ref q)]))
    refine own_by (fun _ kont => XT.iconstV X.here hx rfl (1 : Int32) (hb hby at_134) rfl kont) ?_
    show own_Go p e below _ (T.setTop (mkF m 135 #[.val (.int i0), .val (.int i1), .val (.int i2), .val (.int i3), .val (.int i4), .val (.ref q), .val (.int (1 : Int32)), .val (.int (Int32.ofNat (tl - hd)))] [(.int (1 : Int32)), (.int (Int32.ofNat (tl - hd))), (.ref q)]))
    refine own_by (fun _ kont => XS.goto X.here hx rfl (pc0 := 135) (pc' := 139) rfl (hb hby at_135) (by decide) (by decide) kont) ?_
    show own_Go p e below _ (T.setTop (mkF m 139 #[.val (.int i0), .val (.int i1), .val (.int i2), .val (.int i3), .val (.int i4), .val (.ref q), .val (.int (1 : Int32)), .val (.int (Int32.ofNat (tl - hd)))] [(.int (1 : Int32)), (.int (Int32.ofNat (tl - hd))), (.ref q)]))
    exact key _
set_option maxRecDepth 65536 in
set_option maxHeartbeats 40000000 in
theorem own_t1 {p : Program} {l : Launch} {e : Env} {s : State} {m : MethodId} {args : Array Value} {below : List Frame} {meth : Method} {c : Code} {T : State} {locs : List Loc} {Z : State} {a0 : Array Value} {n0 : Nat} {h : Heap} (X : Stand p l e room_1 s m args below meth c T locs 2 67) (hx : p.tables.exec = Jvm.exec) (hby : c.code = code) (hlk : meth.locks = false) (hret : meth.sig.returnType = some .boolean) (hZ : Z.Warmed39 s.vm) (hown : s.vm.findClass "com/example/conjecta/conjecta/model/NumberQueueIsEmptyPinLaw" = some m.cls) (hw : ∀ d ∈ tables_1, d.before a0 Z = true) (hml : c.maxLocals = 8) (N : Fr n0 locs) (e1 : T.heap = h) (i0 i1 i2 i3 i4 : Int32) (q t : Addr) (hd tl : Nat) (I : own_Inv Z h n0 q t hd tl) (b1 : hd ≤ tl) (b2 : tl ≤ 1) :
    own_Go p e below (own_K s (own_Q_rmL Z  n0) 2 67) (T.setTop (mkF m 71 #[.val (.int i0), .val (.int i1), .val (.int i2), .val (.int i3), .val (.int i4), .val (.ref q), .val (.int (1 : Int32)), .val (.int (Int32.ofNat (tl - hd)))] [])) := by
  have key : ∀ tk : Int32, own_Go p e below (own_K s (own_Q_rmL Z  n0) 2 67) (T.setTop (mkF m 87 #[.val (.int i0), .val (.int i1), .val (.int i2), .val (.int i3), .val (.int i4), .val (.ref q), .val (.int (1 : Int32)), .val (.int (Int32.ofNat (tl - hd)))] [(.int tk), (.int (Int32.ofNat (tl - hd))), (.ref q)])) := by
    intro tk
    refine own_by (fun _ kont => XS.iloadN X.here hx rfl (hb hby at_87) rfl kont) ?_
    show own_Go p e below _ (T.setTop (mkF m 88 #[.val (.int i0), .val (.int i1), .val (.int i2), .val (.int i3), .val (.int i4), .val (.ref q), .val (.int (1 : Int32)), .val (.int (Int32.ofNat (tl - hd)))] [(.int i1), (.int tk), (.int (Int32.ofNat (tl - hd))), (.ref q)]))
    obtain ⟨_, _, ⟨T141, L141, k141, n141⟩, -, X141, ⟨Lc141, hQ141, l141, y141, z141⟩, st141⟩ := Jvm.LawKit.callS X hx (y := (⟨"com/example/conjecta/conjecta/model/NumberQueueIsEmptyPinLaw", "step", "(Lcom/example/conjecta/conjecta/model/NumberQueue;IZI)I"⟩ : MethodName)) hown (mvT hZ (hw _ (List.mem_of_getElem? (i := 21) rfl))) (mvT hZ (hw _ (List.mem_of_getElem? (i := 22) rfl))) (mvT hZ (hw _ (List.mem_of_getElem? (i := 23) rfl))) (mvT hZ (hw _ (List.mem_of_getElem? (i := 24) rfl))) (by decide) (backOf (W := 0) (rmS l Z a0 hw [] q t tk i1 hd tl h n0 I b1 (by omega)) hZ (hw _ (List.mem_of_getElem? (i := 24) rfl)) (hw _ (List.mem_of_getElem? (i := 23) rfl)) (by decide) (by decide)) (g := (mkF m 88 #[.val (.int i0), .val (.int i1), .val (.int i2), .val (.int i3), .val (.int i4), .val (.ref q), .val (.int (1 : Int32)), .val (.int (Int32.ofNat (tl - hd)))] [(.int i1), (.int tk), (.int (Int32.ofNat (tl - hd))), (.ref q)])) rfl (by rw [hml]; rfl) (argsL := [(.ref q), (.int (Int32.ofNat (tl - hd))), (.int tk), (.int i1)]) (rest := []) (lenOf own_pd4 rfl) rfl (by show 2 * 0 + _ ≤ _; exact Nat.le_of_eq rfl) (hb hby at_88) (fun _ _ => ⟨rfl, e1, (by decide : 2 + 0 ≤ _), (by decide : 67 + 0 ≤ _)⟩)
    dsimp only [Pt.U, Pt.locs, Pt.cells, Pt.slots] at X141 l141 y141 z141 st141 hQ141
    subst l141 y141 z141
    refine own_by st141 ?_
    obtain ⟨N141, hd141, tl141, rfl, c1141, c2141, I141⟩ := hQ141
    obtain ⟨L141, X141, M141⟩ := own_hide X141 (Fr.app N N141)
    show own_Go p e below _ (T141.setTop (mkF m 91 #[.val (.int i0), .val (.int i1), .val (.int i2), .val (.int i3), .val (.int i4), .val (.ref q), .val (.int (1 : Int32)), .val (.int (Int32.ofNat (tl - hd)))] [(.int (Int32.ofNat (tl141 - hd141)))]))
    refine own_by (fun _ kont => XS.istore X141.here hx rfl (hb hby at_91) rfl (l' := #[.val (.int i0), .val (.int i1), .val (.int i2), .val (.int i3), .val (.int i4), .val (.ref q), .val (.int (1 : Int32)), .val (.int (Int32.ofNat (tl141 - hd141)))]) rfl kont) ?_
    show own_Go p e below _ (T141.setTop (mkF m 93 #[.val (.int i0), .val (.int i1), .val (.int i2), .val (.int i3), .val (.int i4), .val (.ref q), .val (.int (1 : Int32)), .val (.int (Int32.ofNat (tl141 - hd141)))] []))
    refine own_by (fun _ kont => XS.iload X141.here hx rfl (hb hby at_93) rfl kont) ?_
    show own_Go p e below _ (T141.setTop (mkF m 95 #[.val (.int i0), .val (.int i1), .val (.int i2), .val (.int i3), .val (.int i4), .val (.ref q), .val (.int (1 : Int32)), .val (.int (Int32.ofNat (tl141 - hd141)))] [(.int (1 : Int32))]))
    refine own_by (fun _ kont => XS.ifNo X141.here hx rfl (hb hby at_95) rfl (XT.i0_eq_f (by decide)) kont) ?_
    show own_Go p e below _ (T141.setTop (mkF m 98 #[.val (.int i0), .val (.int i1), .val (.int i2), .val (.int i3), .val (.int i4), .val (.ref q), .val (.int (1 : Int32)), .val (.int (Int32.ofNat (tl141 - hd141)))] []))
    refine own_by (fun _ kont => XS.aload X141.here hx rfl (hb hby at_98) rfl rfl kont) ?_
    show own_Go p e below _ (T141.setTop (mkF m 100 #[.val (.int i0), .val (.int i1), .val (.int i2), .val (.int i3), .val (.int i4), .val (.ref q), .val (.int (1 : Int32)), .val (.int (Int32.ofNat (tl141 - hd141)))] [(.ref q)]))
    obtain ⟨cq143, kq143, qa143, qb143, qc143⟩ := isOf hZ (rfl : T141.heap = T141.heap) I141.1
    obtain ⟨_, _, ⟨T142, L142, k142, n142⟩, -, X142, ⟨Lc142, hQ142, l142, y142, z142⟩, st142⟩ := X141.virtualBack hx (y := (⟨"com/example/conjecta/conjecta/model/NumberQueue", "isEmpty", "()Z"⟩ : MethodName)) (z := (⟨"com/example/conjecta/conjecta/model/NumberQueue", "isEmpty", "()Z"⟩ : MethodName)) hown (mvT hZ (hw _ (List.mem_of_getElem? (i := 12) rfl))) (mvT hZ (hw _ (List.mem_of_getElem? (i := 13) rfl))) (notFace_of_selects (args := #[]) (mvT hZ (hw _ (List.mem_of_getElem? (i := 15) rfl)))) (mvT hZ (hw _ (List.mem_of_getElem? (i := 15) rfl))) (mvT hZ (hw _ (List.mem_of_getElem? (i := 14) rfl))) (by decide) (backOf (W := 0) (rmE l Z a0 hw [] q t hd141 tl141 T141.heap n0 I141 (by omega) (by omega)) hZ (hw _ (List.mem_of_getElem? (i := 16) rfl)) (hw _ (List.mem_of_getElem? (i := 2) rfl)) (by decide) (by decide)) qa143 qc143 (g := (mkF m 100 #[.val (.int i0), .val (.int i1), .val (.int i2), .val (.int i3), .val (.int i4), .val (.ref q), .val (.int (1 : Int32)), .val (.int (Int32.ofNat (tl141 - hd141)))] [(.ref q)])) rfl (by rw [hml]; rfl) (Steps.refl _) (argsL := []) (rest := []) (lenOf own_pd2 rfl) rfl (by show 2 * 0 + _ ≤ _; exact Nat.le_of_eq rfl) (hb hby at_100) (fun _ _ => ⟨rfl, (rfl : T141.heap = T141.heap), (by decide : 2 + 0 ≤ _), (by decide : 67 + 0 ≤ _)⟩)
    dsimp only [Pt.U, Pt.locs, Pt.cells, Pt.slots] at X142 l142 y142 z142 st142 hQ142
    subst l142 y142 z142
    refine own_tr st142 ?_
    obtain ⟨rfl, N142, e142⟩ := hQ142
    obtain ⟨L142, X142, M142⟩ := own_hide X142 (Fr.app M141 N142)
    show own_Go p e below _ (T142.setTop (mkF m 103 #[.val (.int i0), .val (.int i1), .val (.int i2), .val (.int i3), .val (.int i4), .val (.ref q), .val (.int (1 : Int32)), .val (.int (Int32.ofNat (tl141 - hd141)))] [(.int (if hd141 = tl141 then 1 else 0))]))
    refine own_by (fun _ kont => XS.iload X142.here hx rfl (hb hby at_103) rfl kont) ?_
    show own_Go p e below _ (T142.setTop (mkF m 105 #[.val (.int i0), .val (.int i1), .val (.int i2), .val (.int i3), .val (.int i4), .val (.ref q), .val (.int (1 : Int32)), .val (.int (Int32.ofNat (tl141 - hd141)))] [(.int (Int32.ofNat (tl141 - hd141))), (.int (if hd141 = tl141 then 1 else 0))]))
    by_cases hq : hd141 = tl141
    · rw [if_pos hq]
      show own_Go p e below _ (T142.setTop (mkF m 105 #[.val (.int i0), .val (.int i1), .val (.int i2), .val (.int i3), .val (.int i4), .val (.ref q), .val (.int (1 : Int32)), .val (.int (Int32.ofNat (tl141 - hd141)))] [(.int (Int32.ofNat (tl141 - hd141))), (.int (1 : Int32))]))
      refine own_by (fun _ kont => XS.ifNo X142.here hx rfl (hb hby at_105) rfl (XT.i0_ne_f ((own_inj (b := 0) (by omega) (by omega)).mpr (by omega))) kont) ?_
      show own_Go p e below _ (T142.setTop (mkF m 108 #[.val (.int i0), .val (.int i1), .val (.int i2), .val (.int i3), .val (.int i4), .val (.ref q), .val (.int (1 : Int32)), .val (.int (Int32.ofNat (tl141 - hd141)))] [(.int (1 : Int32))]))
      refine own_by (fun _ kont => XT.iconstV X142.here hx rfl (1 : Int32) (hb hby at_108) rfl kont) ?_
      show own_Go p e below _ (T142.setTop (mkF m 109 #[.val (.int i0), .val (.int i1), .val (.int i2), .val (.int i3), .val (.int i4), .val (.ref q), .val (.int (1 : Int32)), .val (.int (Int32.ofNat (tl141 - hd141)))] [(.int (1 : Int32)), (.int (1 : Int32))]))
      refine own_by (fun _ kont => XS.goto X142.here hx rfl (pc0 := 109) (pc' := 113) rfl (hb hby at_109) (by decide) (by decide) kont) ?_
      show own_Go p e below _ (T142.setTop (mkF m 113 #[.val (.int i0), .val (.int i1), .val (.int i2), .val (.int i3), .val (.int i4), .val (.ref q), .val (.int (1 : Int32)), .val (.int (Int32.ofNat (tl141 - hd141)))] [(.int (1 : Int32)), (.int (1 : Int32))]))
      refine own_by (fun _ kont => XS.icmpNo X142.here hx rfl (hb hby at_113) rfl (XT.ii_ne_f (by decide)) kont) ?_
      show own_Go p e below _ (T142.setTop (mkF m 116 #[.val (.int i0), .val (.int i1), .val (.int i2), .val (.int i3), .val (.int i4), .val (.ref q), .val (.int (1 : Int32)), .val (.int (Int32.ofNat (tl141 - hd141)))] []))
      refine own_by (fun _ kont => XT.iconstV X142.here hx rfl (1 : Int32) (hb hby at_116) rfl kont) ?_
      show own_Go p e below _ (T142.setTop (mkF m 117 #[.val (.int i0), .val (.int i1), .val (.int i2), .val (.int i3), .val (.int i4), .val (.ref q), .val (.int (1 : Int32)), .val (.int (Int32.ofNat (tl141 - hd141)))] [(.int (1 : Int32))]))
      refine own_by (fun _ kont => XS.goto X142.here hx rfl (pc0 := 117) (pc' := 121) rfl (hb hby at_117) (by decide) (by decide) kont) ?_
      show own_Go p e below _ (T142.setTop (mkF m 121 #[.val (.int i0), .val (.int i1), .val (.int i2), .val (.int i3), .val (.int i4), .val (.ref q), .val (.int (1 : Int32)), .val (.int (Int32.ofNat (tl141 - hd141)))] [(.int (1 : Int32))]))
      refine own_by (fun _ kont => XS.istore X142.here hx rfl (hb hby at_121) rfl (l' := #[.val (.int i0), .val (.int i1), .val (.int i2), .val (.int i3), .val (.int i4), .val (.ref q), .val (.int (1 : Int32)), .val (.int (Int32.ofNat (tl141 - hd141)))]) rfl kont) ?_
      show own_Go p e below _ (T142.setTop (mkF m 123 #[.val (.int i0), .val (.int i1), .val (.int i2), .val (.int i3), .val (.int i4), .val (.ref q), .val (.int (1 : Int32)), .val (.int (Int32.ofNat (tl141 - hd141)))] []))
      exact own_t2 X142 hx hby hlk hret hZ hown hw hml M142 e142 i0 i1 i2 i3 i4 q t hd141 tl141 I141 c1141 (by omega)
    · rw [if_neg hq]
      show own_Go p e below _ (T142.setTop (mkF m 105 #[.val (.int i0), .val (.int i1), .val (.int i2), .val (.int i3), .val (.int i4), .val (.ref q), .val (.int (1 : Int32)), .val (.int (Int32.ofNat (tl141 - hd141)))] [(.int (Int32.ofNat (tl141 - hd141))), (.int (0 : Int32))]))
      refine own_by (fun _ kont => XS.ifYes X142.here hx rfl (pc0 := 105) (pc' := 112) rfl (hb hby at_105) rfl (XT.i0_ne_t (fun z => hq (by have := (own_inj (b := 0) (by omega) (by omega)).mp z; omega))) (by decide) (by decide) kont) ?_
      show own_Go p e below _ (T142.setTop (mkF m 112 #[.val (.int i0), .val (.int i1), .val (.int i2), .val (.int i3), .val (.int i4), .val (.ref q), .val (.int (1 : Int32)), .val (.int (Int32.ofNat (tl141 - hd141)))] [(.int (0 : Int32))]))
      refine own_by (fun _ kont => XT.iconstV X142.here hx rfl (0 : Int32) (hb hby at_112) rfl kont) ?_
      show own_Go p e below _ (T142.setTop (mkF m 113 #[.val (.int i0), .val (.int i1), .val (.int i2), .val (.int i3), .val (.int i4), .val (.ref q), .val (.int (1 : Int32)), .val (.int (Int32.ofNat (tl141 - hd141)))] [(.int (0 : Int32)), (.int (0 : Int32))]))
      refine own_by (fun _ kont => XS.icmpNo X142.here hx rfl (hb hby at_113) rfl (XT.ii_ne_f (by decide)) kont) ?_
      show own_Go p e below _ (T142.setTop (mkF m 116 #[.val (.int i0), .val (.int i1), .val (.int i2), .val (.int i3), .val (.int i4), .val (.ref q), .val (.int (1 : Int32)), .val (.int (Int32.ofNat (tl141 - hd141)))] []))
      refine own_by (fun _ kont => XT.iconstV X142.here hx rfl (1 : Int32) (hb hby at_116) rfl kont) ?_
      show own_Go p e below _ (T142.setTop (mkF m 117 #[.val (.int i0), .val (.int i1), .val (.int i2), .val (.int i3), .val (.int i4), .val (.ref q), .val (.int (1 : Int32)), .val (.int (Int32.ofNat (tl141 - hd141)))] [(.int (1 : Int32))]))
      refine own_by (fun _ kont => XS.goto X142.here hx rfl (pc0 := 117) (pc' := 121) rfl (hb hby at_117) (by decide) (by decide) kont) ?_
      show own_Go p e below _ (T142.setTop (mkF m 121 #[.val (.int i0), .val (.int i1), .val (.int i2), .val (.int i3), .val (.int i4), .val (.ref q), .val (.int (1 : Int32)), .val (.int (Int32.ofNat (tl141 - hd141)))] [(.int (1 : Int32))]))
      refine own_by (fun _ kont => XS.istore X142.here hx rfl (hb hby at_121) rfl (l' := #[.val (.int i0), .val (.int i1), .val (.int i2), .val (.int i3), .val (.int i4), .val (.ref q), .val (.int (1 : Int32)), .val (.int (Int32.ofNat (tl141 - hd141)))]) rfl kont) ?_
      show own_Go p e below _ (T142.setTop (mkF m 123 #[.val (.int i0), .val (.int i1), .val (.int i2), .val (.int i3), .val (.int i4), .val (.ref q), .val (.int (1 : Int32)), .val (.int (Int32.ofNat (tl141 - hd141)))] []))
      exact own_t2 X142 hx hby hlk hret hZ hown hw hml M142 e142 i0 i1 i2 i3 i4 q t hd141 tl141 I141 c1141 (by omega)
  refine own_by (fun _ kont => XS.aload X.here hx rfl (hb hby at_71) rfl rfl kont) ?_
  show own_Go p e below _ (T.setTop (mkF m 73 #[.val (.int i0), .val (.int i1), .val (.int i2), .val (.int i3), .val (.int i4), .val (.ref q), .val (.int (1 : Int32)), .val (.int (Int32.ofNat (tl - hd)))] [(.ref q)]))
  refine own_by (fun _ kont => XS.iload X.here hx rfl (hb hby at_73) rfl kont) ?_
  show own_Go p e below _ (T.setTop (mkF m 75 #[.val (.int i0), .val (.int i1), .val (.int i2), .val (.int i3), .val (.int i4), .val (.ref q), .val (.int (1 : Int32)), .val (.int (Int32.ofNat (tl - hd)))] [(.int (Int32.ofNat (tl - hd))), (.ref q)]))
  refine own_by (fun _ kont => XS.iload X.here hx rfl (hb hby at_75) rfl kont) ?_
  show own_Go p e below _ (T.setTop (mkF m 77 #[.val (.int i0), .val (.int i1), .val (.int i2), .val (.int i3), .val (.int i4), .val (.ref q), .val (.int (1 : Int32)), .val (.int (Int32.ofNat (tl - hd)))] [(.int i4), (.int (Int32.ofNat (tl - hd))), (.ref q)]))
  refine own_by (fun _ kont => XT.iconstV X.here hx rfl (2 : Int32) (hb hby at_77) rfl kont) ?_
  show own_Go p e below _ (T.setTop (mkF m 78 #[.val (.int i0), .val (.int i1), .val (.int i2), .val (.int i3), .val (.int i4), .val (.ref q), .val (.int (1 : Int32)), .val (.int (Int32.ofNat (tl - hd)))] [(.int (2 : Int32)), (.int i4), (.int (Int32.ofNat (tl - hd))), (.ref q)]))
  refine own_by (fun _ kont => XS.iand X.here hx rfl (hb hby at_78) rfl kont) ?_
  show own_Go p e below _ (T.setTop (mkF m 79 #[.val (.int i0), .val (.int i1), .val (.int i2), .val (.int i3), .val (.int i4), .val (.ref q), .val (.int (1 : Int32)), .val (.int (Int32.ofNat (tl - hd)))] [(.int (i4 &&& (2 : Int32))), (.int (Int32.ofNat (tl - hd))), (.ref q)]))
  by_cases h1 : (i4 &&& (2 : Int32)) = (0 : Int32)
  · refine own_by (fun _ kont => XS.ifYes X.here hx rfl (pc0 := 79) (pc' := 86) rfl (hb hby at_79) rfl (XT.i0_eq_t h1) (by decide) (by decide) kont) ?_
    show own_Go p e below _ (T.setTop (mkF m 86 #[.val (.int i0), .val (.int i1), .val (.int i2), .val (.int i3), .val (.int i4), .val (.ref q), .val (.int (1 : Int32)), .val (.int (Int32.ofNat (tl - hd)))] [(.int (Int32.ofNat (tl - hd))), (.ref q)]))
    refine own_by (fun _ kont => XT.iconstV X.here hx rfl (0 : Int32) (hb hby at_86) rfl kont) ?_
    show own_Go p e below _ (T.setTop (mkF m 87 #[.val (.int i0), .val (.int i1), .val (.int i2), .val (.int i3), .val (.int i4), .val (.ref q), .val (.int (1 : Int32)), .val (.int (Int32.ofNat (tl - hd)))] [(.int (0 : Int32)), (.int (Int32.ofNat (tl - hd))), (.ref q)]))
    exact key _
  · refine own_by (fun _ kont => XS.ifNo X.here hx rfl (hb hby at_79) rfl (XT.i0_eq_f h1) kont) ?_
    show own_Go p e below _ (T.setTop (mkF m 82 #[.val (.int i0), .val (.int i1), .val (.int i2), .val (.int i3), .val (.int i4), .val (.ref q), .val (.int (1 : Int32)), .val (.int (Int32.ofNat (tl - hd)))] [(.int (Int32.ofNat (tl - hd))), (.ref q)]))
    refine own_by (fun _ kont => XT.iconstV X.here hx rfl (1 : Int32) (hb hby at_82) rfl kont) ?_
    show own_Go p e below _ (T.setTop (mkF m 83 #[.val (.int i0), .val (.int i1), .val (.int i2), .val (.int i3), .val (.int i4), .val (.ref q), .val (.int (1 : Int32)), .val (.int (Int32.ofNat (tl - hd)))] [(.int (1 : Int32)), (.int (Int32.ofNat (tl - hd))), (.ref q)]))
    refine own_by (fun _ kont => XS.goto X.here hx rfl (pc0 := 83) (pc' := 87) rfl (hb hby at_83) (by decide) (by decide) kont) ?_
    show own_Go p e below _ (T.setTop (mkF m 87 #[.val (.int i0), .val (.int i1), .val (.int i2), .val (.int i3), .val (.int i4), .val (.ref q), .val (.int (1 : Int32)), .val (.int (Int32.ofNat (tl - hd)))] [(.int (1 : Int32)), (.int (Int32.ofNat (tl - hd))), (.ref q)]))
    exact key _
set_option maxRecDepth 65536 in
set_option maxHeartbeats 40000000 in
theorem own_t0 {p : Program} {l : Launch} {e : Env} {s : State} {m : MethodId} {args : Array Value} {below : List Frame} {meth : Method} {c : Code} {T : State} {locs : List Loc} {Z : State} {a0 : Array Value} {n0 : Nat} {h : Heap} (X : Stand p l e room_1 s m args below meth c T locs 2 67) (hx : p.tables.exec = Jvm.exec) (hby : c.code = code) (hlk : meth.locks = false) (hret : meth.sig.returnType = some .boolean) (hZ : Z.Warmed39 s.vm) (hown : s.vm.findClass "com/example/conjecta/conjecta/model/NumberQueueIsEmptyPinLaw" = some m.cls) (hw : ∀ d ∈ tables_1, d.before a0 Z = true) (hml : c.maxLocals = 8) (N : Fr n0 locs) (e1 : T.heap = h) (i0 i1 i2 i3 i4 : Int32) (q t : Addr) (hd tl : Nat) (I : own_Inv Z h n0 q t hd tl) (b1 : hd ≤ tl) (b2 : tl ≤ 0) :
    own_Go p e below (own_K s (own_Q_rmL Z  n0) 2 67) (T.setTop (mkF m 19 #[.val (.int i0), .val (.int i1), .val (.int i2), .val (.int i3), .val (.int i4), .val (.ref q), .val (.int (1 : Int32)), .val (.int (Int32.ofNat (tl - hd)))] [])) := by
  have key : ∀ tk : Int32, own_Go p e below (own_K s (own_Q_rmL Z  n0) 2 67) (T.setTop (mkF m 35 #[.val (.int i0), .val (.int i1), .val (.int i2), .val (.int i3), .val (.int i4), .val (.ref q), .val (.int (1 : Int32)), .val (.int (Int32.ofNat (tl - hd)))] [(.int tk), (.int (Int32.ofNat (tl - hd))), (.ref q)])) := by
    intro tk
    refine own_by (fun _ kont => XS.iloadN X.here hx rfl (hb hby at_35) rfl kont) ?_
    show own_Go p e below _ (T.setTop (mkF m 36 #[.val (.int i0), .val (.int i1), .val (.int i2), .val (.int i3), .val (.int i4), .val (.ref q), .val (.int (1 : Int32)), .val (.int (Int32.ofNat (tl - hd)))] [(.int i0), (.int tk), (.int (Int32.ofNat (tl - hd))), (.ref q)]))
    obtain ⟨_, _, ⟨T144, L144, k144, n144⟩, -, X144, ⟨Lc144, hQ144, l144, y144, z144⟩, st144⟩ := Jvm.LawKit.callS X hx (y := (⟨"com/example/conjecta/conjecta/model/NumberQueueIsEmptyPinLaw", "step", "(Lcom/example/conjecta/conjecta/model/NumberQueue;IZI)I"⟩ : MethodName)) hown (mvT hZ (hw _ (List.mem_of_getElem? (i := 21) rfl))) (mvT hZ (hw _ (List.mem_of_getElem? (i := 22) rfl))) (mvT hZ (hw _ (List.mem_of_getElem? (i := 23) rfl))) (mvT hZ (hw _ (List.mem_of_getElem? (i := 24) rfl))) (by decide) (backOf (W := 0) (rmS l Z a0 hw [] q t tk i0 hd tl h n0 I b1 (by omega)) hZ (hw _ (List.mem_of_getElem? (i := 24) rfl)) (hw _ (List.mem_of_getElem? (i := 23) rfl)) (by decide) (by decide)) (g := (mkF m 36 #[.val (.int i0), .val (.int i1), .val (.int i2), .val (.int i3), .val (.int i4), .val (.ref q), .val (.int (1 : Int32)), .val (.int (Int32.ofNat (tl - hd)))] [(.int i0), (.int tk), (.int (Int32.ofNat (tl - hd))), (.ref q)])) rfl (by rw [hml]; rfl) (argsL := [(.ref q), (.int (Int32.ofNat (tl - hd))), (.int tk), (.int i0)]) (rest := []) (lenOf own_pd4 rfl) rfl (by show 2 * 0 + _ ≤ _; exact Nat.le_of_eq rfl) (hb hby at_36) (fun _ _ => ⟨rfl, e1, (by decide : 2 + 0 ≤ _), (by decide : 67 + 0 ≤ _)⟩)
    dsimp only [Pt.U, Pt.locs, Pt.cells, Pt.slots] at X144 l144 y144 z144 st144 hQ144
    subst l144 y144 z144
    refine own_by st144 ?_
    obtain ⟨N144, hd144, tl144, rfl, c1144, c2144, I144⟩ := hQ144
    obtain ⟨L144, X144, M144⟩ := own_hide X144 (Fr.app N N144)
    show own_Go p e below _ (T144.setTop (mkF m 39 #[.val (.int i0), .val (.int i1), .val (.int i2), .val (.int i3), .val (.int i4), .val (.ref q), .val (.int (1 : Int32)), .val (.int (Int32.ofNat (tl - hd)))] [(.int (Int32.ofNat (tl144 - hd144)))]))
    refine own_by (fun _ kont => XS.istore X144.here hx rfl (hb hby at_39) rfl (l' := #[.val (.int i0), .val (.int i1), .val (.int i2), .val (.int i3), .val (.int i4), .val (.ref q), .val (.int (1 : Int32)), .val (.int (Int32.ofNat (tl144 - hd144)))]) rfl kont) ?_
    show own_Go p e below _ (T144.setTop (mkF m 41 #[.val (.int i0), .val (.int i1), .val (.int i2), .val (.int i3), .val (.int i4), .val (.ref q), .val (.int (1 : Int32)), .val (.int (Int32.ofNat (tl144 - hd144)))] []))
    refine own_by (fun _ kont => XS.iload X144.here hx rfl (hb hby at_41) rfl kont) ?_
    show own_Go p e below _ (T144.setTop (mkF m 43 #[.val (.int i0), .val (.int i1), .val (.int i2), .val (.int i3), .val (.int i4), .val (.ref q), .val (.int (1 : Int32)), .val (.int (Int32.ofNat (tl144 - hd144)))] [(.int (1 : Int32))]))
    refine own_by (fun _ kont => XS.ifNo X144.here hx rfl (hb hby at_43) rfl (XT.i0_eq_f (by decide)) kont) ?_
    show own_Go p e below _ (T144.setTop (mkF m 46 #[.val (.int i0), .val (.int i1), .val (.int i2), .val (.int i3), .val (.int i4), .val (.ref q), .val (.int (1 : Int32)), .val (.int (Int32.ofNat (tl144 - hd144)))] []))
    refine own_by (fun _ kont => XS.aload X144.here hx rfl (hb hby at_46) rfl rfl kont) ?_
    show own_Go p e below _ (T144.setTop (mkF m 48 #[.val (.int i0), .val (.int i1), .val (.int i2), .val (.int i3), .val (.int i4), .val (.ref q), .val (.int (1 : Int32)), .val (.int (Int32.ofNat (tl144 - hd144)))] [(.ref q)]))
    obtain ⟨cq146, kq146, qa146, qb146, qc146⟩ := isOf hZ (rfl : T144.heap = T144.heap) I144.1
    obtain ⟨_, _, ⟨T145, L145, k145, n145⟩, -, X145, ⟨Lc145, hQ145, l145, y145, z145⟩, st145⟩ := X144.virtualBack hx (y := (⟨"com/example/conjecta/conjecta/model/NumberQueue", "isEmpty", "()Z"⟩ : MethodName)) (z := (⟨"com/example/conjecta/conjecta/model/NumberQueue", "isEmpty", "()Z"⟩ : MethodName)) hown (mvT hZ (hw _ (List.mem_of_getElem? (i := 12) rfl))) (mvT hZ (hw _ (List.mem_of_getElem? (i := 13) rfl))) (notFace_of_selects (args := #[]) (mvT hZ (hw _ (List.mem_of_getElem? (i := 15) rfl)))) (mvT hZ (hw _ (List.mem_of_getElem? (i := 15) rfl))) (mvT hZ (hw _ (List.mem_of_getElem? (i := 14) rfl))) (by decide) (backOf (W := 0) (rmE l Z a0 hw [] q t hd144 tl144 T144.heap n0 I144 (by omega) (by omega)) hZ (hw _ (List.mem_of_getElem? (i := 16) rfl)) (hw _ (List.mem_of_getElem? (i := 2) rfl)) (by decide) (by decide)) qa146 qc146 (g := (mkF m 48 #[.val (.int i0), .val (.int i1), .val (.int i2), .val (.int i3), .val (.int i4), .val (.ref q), .val (.int (1 : Int32)), .val (.int (Int32.ofNat (tl144 - hd144)))] [(.ref q)])) rfl (by rw [hml]; rfl) (Steps.refl _) (argsL := []) (rest := []) (lenOf own_pd2 rfl) rfl (by show 2 * 0 + _ ≤ _; exact Nat.le_of_eq rfl) (hb hby at_48) (fun _ _ => ⟨rfl, (rfl : T144.heap = T144.heap), (by decide : 2 + 0 ≤ _), (by decide : 67 + 0 ≤ _)⟩)
    dsimp only [Pt.U, Pt.locs, Pt.cells, Pt.slots] at X145 l145 y145 z145 st145 hQ145
    subst l145 y145 z145
    refine own_tr st145 ?_
    obtain ⟨rfl, N145, e145⟩ := hQ145
    obtain ⟨L145, X145, M145⟩ := own_hide X145 (Fr.app M144 N145)
    show own_Go p e below _ (T145.setTop (mkF m 51 #[.val (.int i0), .val (.int i1), .val (.int i2), .val (.int i3), .val (.int i4), .val (.ref q), .val (.int (1 : Int32)), .val (.int (Int32.ofNat (tl144 - hd144)))] [(.int (if hd144 = tl144 then 1 else 0))]))
    refine own_by (fun _ kont => XS.iload X145.here hx rfl (hb hby at_51) rfl kont) ?_
    show own_Go p e below _ (T145.setTop (mkF m 53 #[.val (.int i0), .val (.int i1), .val (.int i2), .val (.int i3), .val (.int i4), .val (.ref q), .val (.int (1 : Int32)), .val (.int (Int32.ofNat (tl144 - hd144)))] [(.int (Int32.ofNat (tl144 - hd144))), (.int (if hd144 = tl144 then 1 else 0))]))
    by_cases hq : hd144 = tl144
    · rw [if_pos hq]
      show own_Go p e below _ (T145.setTop (mkF m 53 #[.val (.int i0), .val (.int i1), .val (.int i2), .val (.int i3), .val (.int i4), .val (.ref q), .val (.int (1 : Int32)), .val (.int (Int32.ofNat (tl144 - hd144)))] [(.int (Int32.ofNat (tl144 - hd144))), (.int (1 : Int32))]))
      refine own_by (fun _ kont => XS.ifNo X145.here hx rfl (hb hby at_53) rfl (XT.i0_ne_f ((own_inj (b := 0) (by omega) (by omega)).mpr (by omega))) kont) ?_
      show own_Go p e below _ (T145.setTop (mkF m 56 #[.val (.int i0), .val (.int i1), .val (.int i2), .val (.int i3), .val (.int i4), .val (.ref q), .val (.int (1 : Int32)), .val (.int (Int32.ofNat (tl144 - hd144)))] [(.int (1 : Int32))]))
      refine own_by (fun _ kont => XT.iconstV X145.here hx rfl (1 : Int32) (hb hby at_56) rfl kont) ?_
      show own_Go p e below _ (T145.setTop (mkF m 57 #[.val (.int i0), .val (.int i1), .val (.int i2), .val (.int i3), .val (.int i4), .val (.ref q), .val (.int (1 : Int32)), .val (.int (Int32.ofNat (tl144 - hd144)))] [(.int (1 : Int32)), (.int (1 : Int32))]))
      refine own_by (fun _ kont => XS.goto X145.here hx rfl (pc0 := 57) (pc' := 61) rfl (hb hby at_57) (by decide) (by decide) kont) ?_
      show own_Go p e below _ (T145.setTop (mkF m 61 #[.val (.int i0), .val (.int i1), .val (.int i2), .val (.int i3), .val (.int i4), .val (.ref q), .val (.int (1 : Int32)), .val (.int (Int32.ofNat (tl144 - hd144)))] [(.int (1 : Int32)), (.int (1 : Int32))]))
      refine own_by (fun _ kont => XS.icmpNo X145.here hx rfl (hb hby at_61) rfl (XT.ii_ne_f (by decide)) kont) ?_
      show own_Go p e below _ (T145.setTop (mkF m 64 #[.val (.int i0), .val (.int i1), .val (.int i2), .val (.int i3), .val (.int i4), .val (.ref q), .val (.int (1 : Int32)), .val (.int (Int32.ofNat (tl144 - hd144)))] []))
      refine own_by (fun _ kont => XT.iconstV X145.here hx rfl (1 : Int32) (hb hby at_64) rfl kont) ?_
      show own_Go p e below _ (T145.setTop (mkF m 65 #[.val (.int i0), .val (.int i1), .val (.int i2), .val (.int i3), .val (.int i4), .val (.ref q), .val (.int (1 : Int32)), .val (.int (Int32.ofNat (tl144 - hd144)))] [(.int (1 : Int32))]))
      refine own_by (fun _ kont => XS.goto X145.here hx rfl (pc0 := 65) (pc' := 69) rfl (hb hby at_65) (by decide) (by decide) kont) ?_
      show own_Go p e below _ (T145.setTop (mkF m 69 #[.val (.int i0), .val (.int i1), .val (.int i2), .val (.int i3), .val (.int i4), .val (.ref q), .val (.int (1 : Int32)), .val (.int (Int32.ofNat (tl144 - hd144)))] [(.int (1 : Int32))]))
      refine own_by (fun _ kont => XS.istore X145.here hx rfl (hb hby at_69) rfl (l' := #[.val (.int i0), .val (.int i1), .val (.int i2), .val (.int i3), .val (.int i4), .val (.ref q), .val (.int (1 : Int32)), .val (.int (Int32.ofNat (tl144 - hd144)))]) rfl kont) ?_
      show own_Go p e below _ (T145.setTop (mkF m 71 #[.val (.int i0), .val (.int i1), .val (.int i2), .val (.int i3), .val (.int i4), .val (.ref q), .val (.int (1 : Int32)), .val (.int (Int32.ofNat (tl144 - hd144)))] []))
      exact own_t1 X145 hx hby hlk hret hZ hown hw hml M145 e145 i0 i1 i2 i3 i4 q t hd144 tl144 I144 c1144 (by omega)
    · rw [if_neg hq]
      show own_Go p e below _ (T145.setTop (mkF m 53 #[.val (.int i0), .val (.int i1), .val (.int i2), .val (.int i3), .val (.int i4), .val (.ref q), .val (.int (1 : Int32)), .val (.int (Int32.ofNat (tl144 - hd144)))] [(.int (Int32.ofNat (tl144 - hd144))), (.int (0 : Int32))]))
      refine own_by (fun _ kont => XS.ifYes X145.here hx rfl (pc0 := 53) (pc' := 60) rfl (hb hby at_53) rfl (XT.i0_ne_t (fun z => hq (by have := (own_inj (b := 0) (by omega) (by omega)).mp z; omega))) (by decide) (by decide) kont) ?_
      show own_Go p e below _ (T145.setTop (mkF m 60 #[.val (.int i0), .val (.int i1), .val (.int i2), .val (.int i3), .val (.int i4), .val (.ref q), .val (.int (1 : Int32)), .val (.int (Int32.ofNat (tl144 - hd144)))] [(.int (0 : Int32))]))
      refine own_by (fun _ kont => XT.iconstV X145.here hx rfl (0 : Int32) (hb hby at_60) rfl kont) ?_
      show own_Go p e below _ (T145.setTop (mkF m 61 #[.val (.int i0), .val (.int i1), .val (.int i2), .val (.int i3), .val (.int i4), .val (.ref q), .val (.int (1 : Int32)), .val (.int (Int32.ofNat (tl144 - hd144)))] [(.int (0 : Int32)), (.int (0 : Int32))]))
      refine own_by (fun _ kont => XS.icmpNo X145.here hx rfl (hb hby at_61) rfl (XT.ii_ne_f (by decide)) kont) ?_
      show own_Go p e below _ (T145.setTop (mkF m 64 #[.val (.int i0), .val (.int i1), .val (.int i2), .val (.int i3), .val (.int i4), .val (.ref q), .val (.int (1 : Int32)), .val (.int (Int32.ofNat (tl144 - hd144)))] []))
      refine own_by (fun _ kont => XT.iconstV X145.here hx rfl (1 : Int32) (hb hby at_64) rfl kont) ?_
      show own_Go p e below _ (T145.setTop (mkF m 65 #[.val (.int i0), .val (.int i1), .val (.int i2), .val (.int i3), .val (.int i4), .val (.ref q), .val (.int (1 : Int32)), .val (.int (Int32.ofNat (tl144 - hd144)))] [(.int (1 : Int32))]))
      refine own_by (fun _ kont => XS.goto X145.here hx rfl (pc0 := 65) (pc' := 69) rfl (hb hby at_65) (by decide) (by decide) kont) ?_
      show own_Go p e below _ (T145.setTop (mkF m 69 #[.val (.int i0), .val (.int i1), .val (.int i2), .val (.int i3), .val (.int i4), .val (.ref q), .val (.int (1 : Int32)), .val (.int (Int32.ofNat (tl144 - hd144)))] [(.int (1 : Int32))]))
      refine own_by (fun _ kont => XS.istore X145.here hx rfl (hb hby at_69) rfl (l' := #[.val (.int i0), .val (.int i1), .val (.int i2), .val (.int i3), .val (.int i4), .val (.ref q), .val (.int (1 : Int32)), .val (.int (Int32.ofNat (tl144 - hd144)))]) rfl kont) ?_
      show own_Go p e below _ (T145.setTop (mkF m 71 #[.val (.int i0), .val (.int i1), .val (.int i2), .val (.int i3), .val (.int i4), .val (.ref q), .val (.int (1 : Int32)), .val (.int (Int32.ofNat (tl144 - hd144)))] []))
      exact own_t1 X145 hx hby hlk hret hZ hown hw hml M145 e145 i0 i1 i2 i3 i4 q t hd144 tl144 I144 c1144 (by omega)
  refine own_by (fun _ kont => XS.aload X.here hx rfl (hb hby at_19) rfl rfl kont) ?_
  show own_Go p e below _ (T.setTop (mkF m 21 #[.val (.int i0), .val (.int i1), .val (.int i2), .val (.int i3), .val (.int i4), .val (.ref q), .val (.int (1 : Int32)), .val (.int (Int32.ofNat (tl - hd)))] [(.ref q)]))
  refine own_by (fun _ kont => XS.iload X.here hx rfl (hb hby at_21) rfl kont) ?_
  show own_Go p e below _ (T.setTop (mkF m 23 #[.val (.int i0), .val (.int i1), .val (.int i2), .val (.int i3), .val (.int i4), .val (.ref q), .val (.int (1 : Int32)), .val (.int (Int32.ofNat (tl - hd)))] [(.int (Int32.ofNat (tl - hd))), (.ref q)]))
  refine own_by (fun _ kont => XS.iload X.here hx rfl (hb hby at_23) rfl kont) ?_
  show own_Go p e below _ (T.setTop (mkF m 25 #[.val (.int i0), .val (.int i1), .val (.int i2), .val (.int i3), .val (.int i4), .val (.ref q), .val (.int (1 : Int32)), .val (.int (Int32.ofNat (tl - hd)))] [(.int i4), (.int (Int32.ofNat (tl - hd))), (.ref q)]))
  refine own_by (fun _ kont => XT.iconstV X.here hx rfl (1 : Int32) (hb hby at_25) rfl kont) ?_
  show own_Go p e below _ (T.setTop (mkF m 26 #[.val (.int i0), .val (.int i1), .val (.int i2), .val (.int i3), .val (.int i4), .val (.ref q), .val (.int (1 : Int32)), .val (.int (Int32.ofNat (tl - hd)))] [(.int (1 : Int32)), (.int i4), (.int (Int32.ofNat (tl - hd))), (.ref q)]))
  refine own_by (fun _ kont => XS.iand X.here hx rfl (hb hby at_26) rfl kont) ?_
  show own_Go p e below _ (T.setTop (mkF m 27 #[.val (.int i0), .val (.int i1), .val (.int i2), .val (.int i3), .val (.int i4), .val (.ref q), .val (.int (1 : Int32)), .val (.int (Int32.ofNat (tl - hd)))] [(.int (i4 &&& (1 : Int32))), (.int (Int32.ofNat (tl - hd))), (.ref q)]))
  by_cases h1 : (i4 &&& (1 : Int32)) = (0 : Int32)
  · refine own_by (fun _ kont => XS.ifYes X.here hx rfl (pc0 := 27) (pc' := 34) rfl (hb hby at_27) rfl (XT.i0_eq_t h1) (by decide) (by decide) kont) ?_
    show own_Go p e below _ (T.setTop (mkF m 34 #[.val (.int i0), .val (.int i1), .val (.int i2), .val (.int i3), .val (.int i4), .val (.ref q), .val (.int (1 : Int32)), .val (.int (Int32.ofNat (tl - hd)))] [(.int (Int32.ofNat (tl - hd))), (.ref q)]))
    refine own_by (fun _ kont => XT.iconstV X.here hx rfl (0 : Int32) (hb hby at_34) rfl kont) ?_
    show own_Go p e below _ (T.setTop (mkF m 35 #[.val (.int i0), .val (.int i1), .val (.int i2), .val (.int i3), .val (.int i4), .val (.ref q), .val (.int (1 : Int32)), .val (.int (Int32.ofNat (tl - hd)))] [(.int (0 : Int32)), (.int (Int32.ofNat (tl - hd))), (.ref q)]))
    exact key _
  · refine own_by (fun _ kont => XS.ifNo X.here hx rfl (hb hby at_27) rfl (XT.i0_eq_f h1) kont) ?_
    show own_Go p e below _ (T.setTop (mkF m 30 #[.val (.int i0), .val (.int i1), .val (.int i2), .val (.int i3), .val (.int i4), .val (.ref q), .val (.int (1 : Int32)), .val (.int (Int32.ofNat (tl - hd)))] [(.int (Int32.ofNat (tl - hd))), (.ref q)]))
    refine own_by (fun _ kont => XT.iconstV X.here hx rfl (1 : Int32) (hb hby at_30) rfl kont) ?_
    show own_Go p e below _ (T.setTop (mkF m 31 #[.val (.int i0), .val (.int i1), .val (.int i2), .val (.int i3), .val (.int i4), .val (.ref q), .val (.int (1 : Int32)), .val (.int (Int32.ofNat (tl - hd)))] [(.int (1 : Int32)), (.int (Int32.ofNat (tl - hd))), (.ref q)]))
    refine own_by (fun _ kont => XS.goto X.here hx rfl (pc0 := 31) (pc' := 35) rfl (hb hby at_31) (by decide) (by decide) kont) ?_
    show own_Go p e below _ (T.setTop (mkF m 35 #[.val (.int i0), .val (.int i1), .val (.int i2), .val (.int i3), .val (.int i4), .val (.ref q), .val (.int (1 : Int32)), .val (.int (Int32.ofNat (tl - hd)))] [(.int (1 : Int32)), (.int (Int32.ofNat (tl - hd))), (.ref q)]))
    exact key _
theorem own_ef_rmL (m : MethodId) (i0 : Int32) (i1 : Int32) (i2 : Int32) (i3 : Int32) (i4 : Int32) : entryFrame m #[(.int i0), (.int i1), (.int i2), (.int i3), (.int i4)] maxLocals = (mkF m 0 #[.val (.int i0), .val (.int i1), .val (.int i2), .val (.int i3), .val (.int i4), .unset, .unset, .unset] []) := by first | (simp [entryFrame, mkF, argsToLocals, Value.category, maxLocals]; done) | rfl
set_option maxRecDepth 65536 in
set_option maxHeartbeats 40000000 in
theorem rmL (l : Launch) (Z : State) (a0 : Array Value) (hw : ∀ d ∈ tables_1, d.before a0 Z = true) (ws : List Jvm.Cond) (i0 i1 i2 i3 i4 : Int32) (h0 : Heap) (n0 : Nat) (Z0 : n0 ≤ h0.size) :
    MetFree l x (head1 (Jvm.Cond.code x code maxLocals ret :: ws) room_1) (fun aR UR => aR = #[(.int i0), (.int i1), (.int i2), (.int i3), (.int i4)] ∧ Z.Warmed39 UR.vm ∧ UR.heap = h0) (fun _ _ _ _ _ => True) (fun _ UR oR UR' => ∃ vR LR, oR = .returned vR ∧ own_Q_rmL Z  n0 vR UR'.heap LR ∧ FrameEnd UR oR UR' LR 2 67) := by
  refine MetFree.of_bodySF (plainFor_of_name own_pn3) hisR ?_
  intro p e s m args below meth c s₁ Bd hml0 hP hK
  obtain ⟨rfl, hZ, hh⟩ := hP
  have hx := Bd.exec
  have hby := Bd.bytes
  have hlk := Bd.notSynchronized
  have hret := Bd.returns
  have hml : c.maxLocals = 8 := hml0
  have hown : s.vm.findClass "com/example/conjecta/conjecta/model/NumberQueueIsEmptyPinLaw" = some m.cls := findClass_of_methodNamed Bd.named
  have hnm := (name_of_methodNamed Bd.named Bd.method).1
  have X0 : Stand p l e room_1 s m #[(.int i0), (.int i1), (.int i2), (.int i3), (.int i4)] below meth c s₁ [] 0 0 := Stand.of_body Bd
  have e0 : s₁.heap = h0 := by rw [← hh, Bd.state]; rfl
  have N0 := Fr.nil n0
  show own_Go p e below (own_K s (own_Q_rmL Z  n0) 2 67) _
  refine own_by (fun tt kont => castTop (own_ef_rmL m i0 i1 i2 i3 i4) kont) ?_
  show own_Go p e below _ (s₁.setTop (mkF m 0 #[.val (.int i0), .val (.int i1), .val (.int i2), .val (.int i3), .val (.int i4), .unset, .unset, .unset] []))
  obtain ⟨T147, h147, X147, e147, E147, A147, D147, -, st147⟩ := newO X0 hx hZ hown (hw _ (List.mem_of_getElem? (i := 0) rfl)) (hw _ (List.mem_of_getElem? (i := 1) rfl)) (hw _ (List.mem_of_getElem? (i := 2) rfl)) e0 (g := (mkF m 0 #[.val (.int i0), .val (.int i1), .val (.int i2), .val (.int i3), .val (.int i4), .unset, .unset, .unset] [])) rfl (hb hby at_0) (by decide) (by decide)
  obtain ⟨a147, g147⟩ : ∃ z, z = h0.size := ⟨_, rfl⟩
  rw [← g147] at A147 D147 st147
  have ge147 : n0 ≤ a147 := by rw [g147]; exact Z0
  have Z147 : n0 ≤ h147.size := Nat.le_trans Z0 E147.1
  have F148 : Fld Z h147 a147 "com/example/conjecta/conjecta/model/NumberQueue" "numbers" "[I" .null := D147 (Or.inl (hw _ (List.mem_of_getElem? (i := 11) rfl))) (ty := (.array .int)) (by decide)
  have F149 : Fld Z h147 a147 "com/example/conjecta/conjecta/model/NumberQueue" "head" "I" (.int (0 : Int32)) := D147 (Or.inl (hw _ (List.mem_of_getElem? (i := 18) rfl))) (ty := .int) (by decide)
  have F150 : Fld Z h147 a147 "com/example/conjecta/conjecta/model/NumberQueue" "tail" "I" (.int (0 : Int32)) := D147 (Or.inl (hw _ (List.mem_of_getElem? (i := 20) rfl))) (ty := .int) (by decide)
  refine own_by st147 ?_
  show own_Go p e below _ (T147.setTop (mkF m 3 #[.val (.int i0), .val (.int i1), .val (.int i2), .val (.int i3), .val (.int i4), .unset, .unset, .unset] [(.ref a147)]))
  refine own_by (fun _ kont => XS.dup X147.here hx rfl (hb hby at_3) rfl rfl kont) ?_
  show own_Go p e below _ (T147.setTop (mkF m 4 #[.val (.int i0), .val (.int i1), .val (.int i2), .val (.int i3), .val (.int i4), .unset, .unset, .unset] [(.ref a147), (.ref a147)]))
  obtain ⟨_, _, ⟨T151, L151, k151, n151⟩, -, X151, ⟨Lc151, hQ151, l151, y151, z151⟩, st151⟩ := X147.specialBack hx (y := (⟨"com/example/conjecta/conjecta/model/NumberQueue", "<init>", "()V"⟩ : MethodName)) rfl hown (mvT hZ (hw _ (List.mem_of_getElem? (i := 3) rfl))) (mvT hZ (hw _ (List.mem_of_getElem? (i := 4) rfl))) (mvT hZ (hw _ (List.mem_of_getElem? (i := 5) rfl))) (by decide) (backOf (W := 1) (rmI l Z a0 hw [] a147 h147 n0 A147 F148 F149 F150 ge147 Z147) hZ (hw _ (List.mem_of_getElem? (i := 5) rfl)) (hw _ (List.mem_of_getElem? (i := 2) rfl)) (by decide) (by decide)) (g := (mkF m 4 #[.val (.int i0), .val (.int i1), .val (.int i2), .val (.int i3), .val (.int i4), .unset, .unset, .unset] [(.ref a147), (.ref a147)])) rfl (by rw [hml]; rfl) (Steps.refl _) (a := a147) (argsL := []) (rest := [(.ref a147)]) (lenOf own_pd1 rfl) rfl (by show 2 * 0 + _ ≤ _; exact Nat.le_of_eq rfl) (hb hby at_4) (fun _ _ => ⟨rfl, e147, (by decide : 1 + 1 ≤ _), (by decide : 3 + 64 ≤ _)⟩)
  dsimp only [Pt.U, Pt.locs, Pt.cells, Pt.slots] at X151 l151 y151 z151 st151 hQ151
  subst l151 y151 z151
  refine own_tr st151 ?_
  obtain ⟨rfl, N151, t151, I151⟩ := hQ151
  obtain ⟨L151, X151, M151⟩ := own_hide X151 (Fr.app N0 N151)
  show own_Go p e below _ (T151.setTop (mkF m 7 #[.val (.int i0), .val (.int i1), .val (.int i2), .val (.int i3), .val (.int i4), .unset, .unset, .unset] [(.ref a147)]))
  refine own_by (fun _ kont => XS.astore X151.here hx rfl (hb hby at_7) rfl rfl (l' := #[.val (.int i0), .val (.int i1), .val (.int i2), .val (.int i3), .val (.int i4), .val (.ref a147), .unset, .unset]) rfl kont) ?_
  show own_Go p e below _ (T151.setTop (mkF m 9 #[.val (.int i0), .val (.int i1), .val (.int i2), .val (.int i3), .val (.int i4), .val (.ref a147), .unset, .unset] []))
  refine own_by (fun _ kont => XS.aload X151.here hx rfl (hb hby at_9) rfl rfl kont) ?_
  show own_Go p e below _ (T151.setTop (mkF m 11 #[.val (.int i0), .val (.int i1), .val (.int i2), .val (.int i3), .val (.int i4), .val (.ref a147), .unset, .unset] [(.ref a147)]))
  obtain ⟨cq153, kq153, qa153, qb153, qc153⟩ := isOf hZ (rfl : T151.heap = T151.heap) I151.1
  obtain ⟨_, _, ⟨T152, L152, k152, n152⟩, -, X152, ⟨Lc152, hQ152, l152, y152, z152⟩, st152⟩ := X151.virtualBack hx (y := (⟨"com/example/conjecta/conjecta/model/NumberQueue", "isEmpty", "()Z"⟩ : MethodName)) (z := (⟨"com/example/conjecta/conjecta/model/NumberQueue", "isEmpty", "()Z"⟩ : MethodName)) hown (mvT hZ (hw _ (List.mem_of_getElem? (i := 12) rfl))) (mvT hZ (hw _ (List.mem_of_getElem? (i := 13) rfl))) (notFace_of_selects (args := #[]) (mvT hZ (hw _ (List.mem_of_getElem? (i := 15) rfl)))) (mvT hZ (hw _ (List.mem_of_getElem? (i := 15) rfl))) (mvT hZ (hw _ (List.mem_of_getElem? (i := 14) rfl))) (by decide) (backOf (W := 0) (rmE l Z a0 hw [] a147 t151 0 0 T151.heap n0 I151 (by omega) (by omega)) hZ (hw _ (List.mem_of_getElem? (i := 16) rfl)) (hw _ (List.mem_of_getElem? (i := 2) rfl)) (by decide) (by decide)) qa153 qc153 (g := (mkF m 11 #[.val (.int i0), .val (.int i1), .val (.int i2), .val (.int i3), .val (.int i4), .val (.ref a147), .unset, .unset] [(.ref a147)])) rfl (by rw [hml]; rfl) (Steps.refl _) (argsL := []) (rest := []) (lenOf own_pd2 rfl) rfl (by show 2 * 0 + _ ≤ _; exact Nat.le_of_eq rfl) (hb hby at_11) (fun _ _ => ⟨rfl, (rfl : T151.heap = T151.heap), (by decide : 2 + 0 ≤ _), (by decide : 67 + 0 ≤ _)⟩)
  dsimp only [Pt.U, Pt.locs, Pt.cells, Pt.slots] at X152 l152 y152 z152 st152 hQ152
  subst l152 y152 z152
  refine own_tr st152 ?_
  obtain ⟨rfl, N152, e152⟩ := hQ152
  obtain ⟨L152, X152, M152⟩ := own_hide X152 (Fr.app M151 N152)
  show own_Go p e below _ (T152.setTop (mkF m 14 #[.val (.int i0), .val (.int i1), .val (.int i2), .val (.int i3), .val (.int i4), .val (.ref a147), .unset, .unset] [(.int (if 0 = 0 then 1 else 0))]))
  show own_Go p e below _ (T152.setTop (mkF m 14 #[.val (.int i0), .val (.int i1), .val (.int i2), .val (.int i3), .val (.int i4), .val (.ref a147), .unset, .unset] [(.int (1 : Int32))]))
  refine own_by (fun _ kont => XS.istore X152.here hx rfl (hb hby at_14) rfl (l' := #[.val (.int i0), .val (.int i1), .val (.int i2), .val (.int i3), .val (.int i4), .val (.ref a147), .val (.int (1 : Int32)), .unset]) rfl kont) ?_
  show own_Go p e below _ (T152.setTop (mkF m 16 #[.val (.int i0), .val (.int i1), .val (.int i2), .val (.int i3), .val (.int i4), .val (.ref a147), .val (.int (1 : Int32)), .unset] []))
  refine own_by (fun _ kont => XT.iconstV X152.here hx rfl (0 : Int32) (hb hby at_16) rfl kont) ?_
  show own_Go p e below _ (T152.setTop (mkF m 17 #[.val (.int i0), .val (.int i1), .val (.int i2), .val (.int i3), .val (.int i4), .val (.ref a147), .val (.int (1 : Int32)), .unset] [(.int (0 : Int32))]))
  refine own_by (fun _ kont => XS.istore X152.here hx rfl (hb hby at_17) rfl (l' := #[.val (.int i0), .val (.int i1), .val (.int i2), .val (.int i3), .val (.int i4), .val (.ref a147), .val (.int (1 : Int32)), .val (.int (0 : Int32))]) rfl kont) ?_
  show own_Go p e below _ (T152.setTop (mkF m 19 #[.val (.int i0), .val (.int i1), .val (.int i2), .val (.int i3), .val (.int i4), .val (.ref a147), .val (.int (1 : Int32)), .val (.int (0 : Int32))] []))
  exact own_t0 X152 hx hby hlk hret hZ hown hw hml M152 e152 i0 i1 i2 i3 i4 a147 t151 0 0 I151 (by omega) (by omega)
set_option maxRecDepth 65536 in
set_option maxHeartbeats 4000000 in
theorem comes_1 {Post : Tables → Env → Array Value → State → Outcome → State → Prop} (hpost : ∀ tb e args s v u, (limb_1_1.after args s (.returned v) u = true ∧ limb_1_2.after args s (.returned v) u = true ∧ True) → FrameEnd s (.returned v) u (Jvm.fieldLocs frame_1_writes args s ++ Jvm.arrayLocs frame_1_arrays args s ++ Jvm.staticLocs frame_1_statics s) 16 256 → Post tb e args s (.returned v) u) :
    ArmFor flags0 classFile x code maxLocals ret World_1 tables_1 room_1 Calls_1 rest_1 Pre_1 Post := by
  intro l hfl _ _ p e ha hc hk s m args below hf hA hF happ hP
  obtain ⟨hcalls, hrest, hpre⟩ := hP
  obtain ⟨-, -, -, hnamed, -, -, -, hat⟩ := (Spec.applies_iff hf).mp happ
  obtain ⟨hg, hn⟩ := and_e (Cond.before_iff.mp (show (Jvm.Cond.and given_1 narrow_1).before args s = true from hpre))
  obtain ⟨h1, g0⟩ := and_e hg
  obtain ⟨q0, g1⟩ := and_e g0
  obtain ⟨q1, g2⟩ := and_e g1
  obtain ⟨q2, g3⟩ := and_e g2
  obtain ⟨q3, g4⟩ := and_e g3
  obtain ⟨w0, w1, w2, w3, w4, rfl⟩ : ∃ w0 w1 w2 w3 w4 : Value, args = #[w0, w1, w2, w3, w4] := by
    have hs : args.size = 5 := by simpa [Cond.value, given_1] using h1
    obtain ⟨L⟩ := args
    match L, hs with
    | [w0, w1, w2, w3, w4], _ => exact ⟨w0, w1, w2, w3, w4, rfl⟩
  have hw := fun d (hd : d ∈ tables_1) => atoms_spec (ws := Jvm.Cond.code x code maxLocals ret :: tables_1) hat d (List.mem_cons_of_mem _ hd)
  obtain ⟨i0, ei0⟩ := is_v q0
  obtain rfl : w0 = (.int i0) := Option.some.inj ei0
  obtain ⟨i1, ei1⟩ := is_v q1
  obtain rfl : w1 = (.int i1) := Option.some.inj ei1
  obtain ⟨i2, ei2⟩ := is_v q2
  obtain rfl : w2 = (.int i2) := Option.some.inj ei2
  obtain ⟨i3, ei3⟩ := is_v q3
  obtain rfl : w3 = (.int i3) := Option.some.inj ei3
  obtain ⟨i4, ei4⟩ := is_v g4
  obtain rfl : w4 = (.int i4) := Option.some.inj ei4
  obtain ⟨n, o, h1, h2, h3, _, L, rfl, ⟨rfl, N⟩, hq⟩ := rmL l s _ hw tables_1 i0 i1 i2 i3 i4 s.heap s.heap.size (Nat.le_refl _) p e ha hc hk s m _ below hf ((Spec.applies_iff_loose hf).mp happ).1 ⟨rfl, State.Warmed39.refl s, rfl⟩ trivial
  refine ⟨n, _, h1, h2, h3, hpost _ _ _ _ _ _ ⟨Cond.after_iff.mpr rfl, Cond.after_iff.mpr (eq_i res_at (Term.int_eval (1)) rfl), trivial⟩ ⟨hq.1, hq.2.1, (hq.2.2.sift fun y hy => Or.inr (N y hy)).mono (by decide) (by decide)⟩⟩
theorem main_1_1 : Claimed_1_1 := comes_1 fun _ _ _ _ _ _ h hF => ⟨h.1, hF⟩
theorem main_1_2 : Claimed_1_2 := comes_1 fun _ _ _ _ _ _ h hF => ⟨h.2.1, hF⟩
end Jvm.Pilot.@@N@@
namespace Jvm.Pilot.@@N@@
open Jvm Jvm.ClassFile Sem Op Lib Jvm.Free Jvm.Stand Jvm.Pilot.@@N@@.Jvm.D
/-! MADE BY PROGRAM (witnessworld.py) out of the Statement's table words and the real class files: 9 classes; the members and pool entries that the words name. The judged class is class 1, her method 1. -/
namespace start1
open Jvm.ClassFile
def u (s : String) : CpInfo := .utf8 (stringToUtf16 s)
/-- a pool by its gaps: so many unusable entries, then the entry; so many at the end -/
def gap : Nat → List CpInfo → List CpInfo
  | 0, r => r
  | n + 1, r => .unusable :: gap n r
def poolList (es : List (Nat × CpInfo)) (last : Nat) : List CpInfo := es.foldr (fun e r => gap e.1 (e.2 :: r)) (gap last [])
def pool (es : List (Nat × CpInfo)) (last : Nat) : Array CpInfo := ⟨poolList es last⟩
def fileOf (pool : Array CpInfo) (this : Nat) (attrs : Array Attribute := #[]) (ms : Array MethodInfo := #[]) (fl : Nat := 33) (sup : Nat := 0) (ifs : Array Nat := #[]) (fds : Array FieldInfo := #[]) : ClassFile where
  minorVersion := 0
  majorVersion := 65
  constantPool := pool
  accessFlags := fl
  thisClass := this
  superClass := sup
  interfaces := ifs
  fields := fds
  methods := ms
  attributes := attrs
def plain (name : String) (sup : Option ClassId) : Class where
  name := name
  kind := .ordinary
  loader := none
  accessFlags := 33
  super := sup
  interfaces := #[]
  cf := none
  fields := #[]
  methods := #[]
  instanceTypes := #[]
  staticTypes := #[]
  resolved := #[]
  callSites := []
  init := .initialized
  statics := none
  mirror := none

def pool0 : Array CpInfo := pool [(5, u "<init>"), (0, u "()V"), (1, .class_ 10), (1, u "java/lang/Object")] 113

def k0c0 : Code := { maxStack := 0, maxLocals := 1, code := object_method_1_code, exceptionTable := #[], attributes := #[] }
def k0m0 : Method := { name := "<init>", desc := "()V", sig := { parameters := [], returnType := none }, accessFlags := 1, code := some k0c0 }
/-- java/lang/Object -/
def k0 : Class := { plain "java/lang/Object" none with
  accessFlags := 33
  interfaces := #[]
  cf := some (fileOf pool0 8 #[] #[{ accessFlags := 1, nameIndex := 5, descriptorIndex := 6, attributes := #[] }] 33 0 #[] #[])
  fields := #[]
  methods := #[k0m0]
  instanceTypes := #[]
  staticTypes := #[]
  resolved := Array.replicate 124 none
  statics := none }

def pool1 : Array CpInfo := pool [(2, .class_ 4), (0, .nameAndType 5 6), (0, u "java/lang/Object"), (0, u "<init>"), (0, u "()V"), (0, .class_ 8), (0, u "com/example/conjecta/conjecta/model/NumberQueue"), (0, .methodref 7 3), (0, .methodref 7 11), (0, .nameAndType 12 13), (0, u "isEmpty"), (0, u "()Z"), (0, .methodref 15 16), (0, .class_ 17), (0, .nameAndType 18 19), (0, u "com/example/conjecta/conjecta/model/NumberQueueIsEmptyPinLaw"), (0, u "step"), (0, u "(Lcom/example/conjecta/conjecta/model/NumberQueue;IZI)I"), (0, .methodref 7 21), (0, .nameAndType 22 23), (0, u "take"), (0, u "()I"), (0, .methodref 7 25), (0, .nameAndType 26 27), (0, u "add"), (0, u "(I)V"), (2, u "law"), (0, u "(IIIII)Z")] 3

def k1m0 : Method := { name := "<init>", desc := "()V", sig := { parameters := [], returnType := none }, accessFlags := 1, code := none }
def k1c1 : Code := { maxStack := 4, maxLocals := 8, code := code, exceptionTable := #[], attributes := #[] }
def k1m1 : Method := { name := "law", desc := "(IIIII)Z", sig := { parameters := [.int, .int, .int, .int, .int], returnType := some .boolean }, accessFlags := 9, code := some k1c1 }
def k1c2 : Code := { maxStack := 2, maxLocals := 4, code := method_3_code, exceptionTable := #[], attributes := #[] }
def k1m2 : Method := { name := "step", desc := "(Lcom/example/conjecta/conjecta/model/NumberQueue;IZI)I", sig := { parameters := [(.object "com/example/conjecta/conjecta/model/NumberQueue"), .int, .boolean, .int], returnType := some .int }, accessFlags := 10, code := some k1c2 }
/-- com/example/conjecta/conjecta/model/NumberQueueIsEmptyPinLaw -/
def k1 : Class := { plain "com/example/conjecta/conjecta/model/NumberQueueIsEmptyPinLaw" (some 0) with
  accessFlags := 49
  interfaces := #[]
  cf := some (fileOf pool1 15 #[] #[{ accessFlags := 1, nameIndex := 5, descriptorIndex := 6, attributes := #[] }, { accessFlags := 9, nameIndex := 30, descriptorIndex := 31, attributes := #[] }, { accessFlags := 10, nameIndex := 18, descriptorIndex := 19, attributes := #[] }] 49 2 #[] #[])
  fields := #[]
  methods := #[k1m0, k1m1, k1m2]
  instanceTypes := #[]
  staticTypes := #[]
  resolved := Array.replicate 35 none
  statics := none }

def pool2 : Array CpInfo := pool [(1, .methodref 2 3), (0, .class_ 4), (0, .nameAndType 5 6), (0, u "java/lang/Object"), (0, u "<init>"), (0, u "()V"), (0, .fieldref 8 9), (0, .class_ 10), (0, .nameAndType 11 12), (0, u "com/example/conjecta/conjecta/model/NumberQueue"), (0, u "numbers"), (0, u "[I"), (0, .fieldref 8 14), (0, .nameAndType 15 16), (0, u "head"), (0, u "I"), (0, .fieldref 8 18), (0, .nameAndType 19 16), (0, u "tail"), (8, u "isEmpty"), (0, u "()Z"), (1, u "add"), (0, u "(I)V"), (1, u "take"), (0, u "()I")] 2

def k2c0 : Code := { maxStack := 2, maxLocals := 1, code := prog_185_method_1_code, exceptionTable := #[], attributes := #[] }
def k2m0 : Method := { name := "<init>", desc := "()V", sig := { parameters := [], returnType := none }, accessFlags := 0, code := some k2c0 }
def k2c1 : Code := { maxStack := 2, maxLocals := 1, code := prog_185_method_2_code, exceptionTable := #[], attributes := #[] }
def k2m1 : Method := { name := "isEmpty", desc := "()Z", sig := { parameters := [], returnType := some .boolean }, accessFlags := 0, code := some k2c1 }
def k2c2 : Code := { maxStack := 5, maxLocals := 4, code := prog_185_method_3_code, exceptionTable := #[], attributes := #[] }
def k2m2 : Method := { name := "add", desc := "(I)V", sig := { parameters := [.int], returnType := none }, accessFlags := 0, code := some k2c2 }
def k2c3 : Code := { maxStack := 5, maxLocals := 1, code := prog_185_method_4_code, exceptionTable := #[], attributes := #[] }
def k2m3 : Method := { name := "take", desc := "()I", sig := { parameters := [], returnType := some .int }, accessFlags := 0, code := some k2c3 }
/-- com/example/conjecta/conjecta/model/NumberQueue -/
def k2 : Class := { plain "com/example/conjecta/conjecta/model/NumberQueue" (some 0) with
  accessFlags := 48
  interfaces := #[]
  cf := some (fileOf pool2 8 #[] #[{ accessFlags := 0, nameIndex := 5, descriptorIndex := 6, attributes := #[] }, { accessFlags := 0, nameIndex := 28, descriptorIndex := 29, attributes := #[] }, { accessFlags := 0, nameIndex := 31, descriptorIndex := 32, attributes := #[] }, { accessFlags := 0, nameIndex := 34, descriptorIndex := 35, attributes := #[] }] 48 2 #[] #[{ accessFlags := 2, nameIndex := 11, descriptorIndex := 12, attributes := #[] }, { accessFlags := 2, nameIndex := 15, descriptorIndex := 16, attributes := #[] }, { accessFlags := 2, nameIndex := 19, descriptorIndex := 16, attributes := #[] }])
  fields := #[{ name := "numbers", type := (.array .int), accessFlags := 2, slot := 0, constantValue := 0 }, { name := "head", type := .int, accessFlags := 2, slot := 1, constantValue := 0 }, { name := "tail", type := .int, accessFlags := 2, slot := 2, constantValue := 0 }]
  methods := #[k2m0, k2m1, k2m2, k2m3]
  instanceTypes := #[(.array .int), .int, .int]
  staticTypes := #[]
  resolved := Array.replicate 38 none
  statics := none }

def pool3 : Array CpInfo := pool [(1, u "java/lang/Cloneable"), (0, .class_ 1), (0, u "java/lang/Object"), (0, .class_ 3)] 3

/-- java/lang/Cloneable -/
def k3 : Class := { plain "java/lang/Cloneable" (some 0) with
  accessFlags := 1537
  interfaces := #[]
  cf := some (fileOf pool3 2 #[] #[] 1537 4 #[] #[])
  fields := #[]
  methods := #[]
  instanceTypes := #[]
  staticTypes := #[]
  resolved := Array.replicate 8 none
  statics := none }

def pool4 : Array CpInfo := pool [(1, u "java/io/Serializable"), (0, .class_ 1), (0, u "java/lang/Object"), (0, .class_ 3)] 3

/-- java/io/Serializable -/
def k4 : Class := { plain "java/io/Serializable" (some 0) with
  accessFlags := 1537
  interfaces := #[]
  cf := some (fileOf pool4 2 #[] #[] 1537 4 #[] #[])
  fields := #[]
  methods := #[]
  instanceTypes := #[]
  staticTypes := #[]
  resolved := Array.replicate 8 none
  statics := none }

/-- the primitive byte -/
def k5 : Class := { plain "byte" none with kind := .primitive 'B', accessFlags := 0x411 }
/-- [B -/
def k6 : Class := { plain "[B" (some 0) with kind := .array 5 .byte, interfaces := #[3, 4], accessFlags := 1041 }

/-- the primitive int -/
def k7 : Class := { plain "int" none with kind := .primitive 'I', accessFlags := 0x411 }
/-- [I -/
def k8 : Class := { plain "[I" (some 0) with kind := .array 7 .int, interfaces := #[3, 4], accessFlags := 1041 }

def heap : Heap := #[]
def classes : Array Class := #[k0, k1, k2, k3, k4, k5, k6, k7, k8]
def interned : List (Array UInt16 × Addr) := []
def slotsUsed : Nat := 0
def theMethod : MethodId := ⟨1, 1⟩
def args0 : Array Value := #[.int 0, .int 1, .int 2, .int 3, .int 4]
def aboutOver (below : List Frame) : State where
  vm := { classes := classes, interned := interned.toArray }
  heap := heap
  slotsUsed := slotsUsed
  threads := #[{ frames := .invoking theMethod args0 :: below }]
def below0 : List Frame := [.native { method := ⟨0, 0⟩, args := #[] }]
def about1 : State := aboutOver below0
def p0 : Program := .bare "" "" ""
def e0 : Env := launch0.env 0 0 0
theorem w_frames : about1.frames = Frame.invoking theMethod args0 :: below0 := rfl
set_option maxRecDepth 65536 in
theorem w_args : argsFit about1.vm theMethod args0 = true := by decide +kernel
set_option maxRecDepth 65536 in
theorem w_heap : heapFits about1 = true := by decide +kernel
set_option maxRecDepth 65536 in
theorem w_runnable : about1.curStatus? = some .runnable := by decide +kernel
set_option maxRecDepth 65536 in
theorem w_alone : about1.alone = true := by decide +kernel
set_option maxRecDepth 65536 in
theorem w_named : about1.methodNamed? x = some theMethod := by decide +kernel
set_option maxRecDepth 65536 in
theorem w_hears : about1.hears theMethod below0 = true := by decide +kernel
set_option maxRecDepth 65536 in
theorem w_ripe : about1.ripe theMethod args0 below0 = true := by decide +kernel
theorem w_running : about1.status = .running := rfl
set_option maxRecDepth 65536 in
theorem w_room : about1.hasRoom e0.platform room_1 = true :=
  launch0.hasRoom_least _ room_1 (by decide +kernel) (by decide +kernel) (by decide +kernel) (by decide +kernel) (by decide +kernel) (by decide +kernel)
theorem allAtoms_all (ts : List Jvm.Cond) (a : Array Jvm.Value) (st : Jvm.State) : (allAtoms ts).before a st = ts.all (fun c => c.before a st) := by
  induction ts with
  | nil => rfl
  | cons c t ih =>
    show (Jvm.Cond.and c (allAtoms t)).before a st = _
    rw [Jvm.Cond.before_and, ih, List.all_cons]
def words1 : List Jvm.Cond := Jvm.Cond.code x code maxLocals ret :: tables_1
/-- a 'code' word, met by the world's own term for the bytes: nothing is compared byte by byte -/
theorem code_word {y : MethodName} {bytes : ByteArray} {mx : Nat} {rt : Option FieldType} {a : Array Value} {s : State} {m : MethodId} {meth : Method} {c : Code} (h1 : s.methodNamed? y = some m) (h2 : s.vm.method? m = some meth) (h3 : meth.code = some c) (h4 : c.code = bytes)
    (h5 : (c.maxLocals == mx && c.exceptionTable.isEmpty && decide (c.maxStack ≤ mostOperands) && decide (meth.sig.returnType = rt) && !meth.locks && decide (parseMethodDescriptor y.desc = some meth.sig)) = true) : (Jvm.Cond.code y bytes mx rt).before a s = true := by
  simp only [Bool.and_eq_true, beq_iff_eq, Bool.not_eq_true', decide_eq_true_eq] at h5
  obtain ⟨⟨⟨⟨⟨g1, g2⟩, g3⟩, g4⟩, g5⟩, g6⟩ := h5
  simp [Cond.before, Cond.holds, Cond.value, h1, h2, h3, h4, g1, g2, g3, g4, g5, g6]
def isCode : Jvm.Cond → Bool
  | .code _ _ _ _ => true
  | _ => false
theorem all_split {L : List Jvm.Cond} {P : Jvm.Cond → Bool} (h1 : L.all (fun c => isCode c || P c) = true) (h2 : ∀ c ∈ L.filter isCode, P c = true) : L.all P = true := by
  refine List.all_eq_true.mpr fun c hc => ?_
  have h := List.all_eq_true.mp h1 c hc
  rcases Bool.eq_false_or_eq_true (isCode c) with hi | hi
  · exact h2 c (List.mem_filter.mpr ⟨hc, hi⟩)
  · simpa [hi] using h
set_option maxRecDepth 65536 in
theorem w_c0 : (Jvm.Cond.code x code maxLocals ret).before args0 about1 = true := code_word (m := ⟨1, 1⟩) (meth := k1m1) (c := k1c1) (by decide +kernel) rfl rfl rfl (by decide +kernel)
set_option maxRecDepth 65536 in
theorem w_c1 : (Jvm.Cond.code ({ cls := "com/example/conjecta/conjecta/model/NumberQueue", name := "<init>", desc := "()V" } : Jvm.MethodName) prog_185_method_1_code (1 : Nat) (Option.none : Option Jvm.ClassFile.FieldType)).before args0 about1 = true := code_word (m := ⟨2, 0⟩) (meth := k2m0) (c := k2c0) (by decide +kernel) rfl rfl rfl (by decide +kernel)
set_option maxRecDepth 65536 in
theorem w_c2 : (Jvm.Cond.code ({ cls := "java/lang/Object", name := "<init>", desc := "()V" } : Jvm.MethodName) object_method_1_code (1 : Nat) (Option.none : Option Jvm.ClassFile.FieldType)).before args0 about1 = true := code_word (m := ⟨0, 0⟩) (meth := k0m0) (c := k0c0) (by decide +kernel) rfl rfl rfl (by decide +kernel)
set_option maxRecDepth 65536 in
theorem w_c3 : (Jvm.Cond.code ({ cls := "com/example/conjecta/conjecta/model/NumberQueue", name := "isEmpty", desc := "()Z" } : Jvm.MethodName) prog_185_method_2_code (1 : Nat) (Option.some Jvm.ClassFile.FieldType.boolean)).before args0 about1 = true := code_word (m := ⟨2, 1⟩) (meth := k2m1) (c := k2c1) (by decide +kernel) rfl rfl rfl (by decide +kernel)
set_option maxRecDepth 65536 in
theorem w_c4 : (Jvm.Cond.code ({ cls := "com/example/conjecta/conjecta/model/NumberQueueIsEmptyPinLaw", name := "step", desc := "(Lcom/example/conjecta/conjecta/model/NumberQueue;IZI)I" } : Jvm.MethodName) method_3_code (4 : Nat) (Option.some Jvm.ClassFile.FieldType.int)).before args0 about1 = true := code_word (m := ⟨1, 2⟩) (meth := k1m2) (c := k1c2) (by decide +kernel) rfl rfl rfl (by decide +kernel)
set_option maxRecDepth 65536 in
theorem w_c5 : (Jvm.Cond.code ({ cls := "com/example/conjecta/conjecta/model/NumberQueue", name := "add", desc := "(I)V" } : Jvm.MethodName) prog_185_method_3_code (4 : Nat) (Option.none : Option Jvm.ClassFile.FieldType)).before args0 about1 = true := code_word (m := ⟨2, 2⟩) (meth := k2m2) (c := k2c2) (by decide +kernel) rfl rfl rfl (by decide +kernel)
set_option maxRecDepth 65536 in
theorem w_c6 : (Jvm.Cond.code ({ cls := "com/example/conjecta/conjecta/model/NumberQueue", name := "take", desc := "()I" } : Jvm.MethodName) prog_185_method_4_code (1 : Nat) (Option.some Jvm.ClassFile.FieldType.int)).before args0 about1 = true := code_word (m := ⟨2, 3⟩) (meth := k2m3) (c := k2c3) (by decide +kernel) rfl rfl rfl (by decide +kernel)
def codes1 : List Jvm.Cond := [Jvm.Cond.code x code maxLocals ret, Jvm.Cond.code ({ cls := "com/example/conjecta/conjecta/model/NumberQueue", name := "<init>", desc := "()V" } : Jvm.MethodName) prog_185_method_1_code (1 : Nat) (Option.none : Option Jvm.ClassFile.FieldType), Jvm.Cond.code ({ cls := "java/lang/Object", name := "<init>", desc := "()V" } : Jvm.MethodName) object_method_1_code (1 : Nat) (Option.none : Option Jvm.ClassFile.FieldType), Jvm.Cond.code ({ cls := "com/example/conjecta/conjecta/model/NumberQueue", name := "isEmpty", desc := "()Z" } : Jvm.MethodName) prog_185_method_2_code (1 : Nat) (Option.some Jvm.ClassFile.FieldType.boolean), Jvm.Cond.code ({ cls := "com/example/conjecta/conjecta/model/NumberQueueIsEmptyPinLaw", name := "step", desc := "(Lcom/example/conjecta/conjecta/model/NumberQueue;IZI)I" } : Jvm.MethodName) method_3_code (4 : Nat) (Option.some Jvm.ClassFile.FieldType.int), Jvm.Cond.code ({ cls := "com/example/conjecta/conjecta/model/NumberQueue", name := "add", desc := "(I)V" } : Jvm.MethodName) prog_185_method_3_code (4 : Nat) (Option.none : Option Jvm.ClassFile.FieldType), Jvm.Cond.code ({ cls := "com/example/conjecta/conjecta/model/NumberQueue", name := "take", desc := "()I" } : Jvm.MethodName) prog_185_method_4_code (1 : Nat) (Option.some Jvm.ClassFile.FieldType.int)]
set_option maxRecDepth 65536 in
theorem codes_eq : words1.filter isCode = codes1 := rfl
theorem w_codes : ∀ c ∈ words1.filter isCode, c.before args0 about1 = true := by
  rw [codes_eq]
  intro c hc
  simp only [codes1, List.mem_cons, List.not_mem_nil, or_false] at hc
  rcases hc with rfl | rfl | rfl | rfl | rfl | rfl | rfl
  · exact w_c0
  · exact w_c1
  · exact w_c2
  · exact w_c3
  · exact w_c4
  · exact w_c5
  · exact w_c6
set_option maxRecDepth 65536 in
theorem w_t1 : (words1.take 24).all (fun c => isCode c || c.before args0 about1) = true := by decide +kernel
set_option maxRecDepth 65536 in
theorem w_t2 : (words1.drop 24).all (fun c => isCode c || c.before args0 about1) = true := by decide +kernel
theorem w_tables : (allAtoms (Jvm.Cond.code x code maxLocals ret :: tables_1)).before args0 about1 = true := by
  rw [allAtoms_all]
  show words1.all (fun c => c.before args0 about1) = true
  refine all_split ?_ w_codes
  rw [← List.take_append_drop 24 words1, List.all_append, w_t1, w_t2]
  rfl
set_option maxRecDepth 65536 in
theorem w_case : (Jvm.Cond.and given_1 narrow_1).before args0 about1 = true := by decide +kernel
theorem w_applies : (headSpec (Jvm.Cond.code x code maxLocals ret :: tables_1) room_1).applies x e0.platform about1 = true :=
  (Spec.applies_iff w_frames).mpr ⟨w_running, w_runnable, w_alone, w_named, w_hears, w_ripe, w_room, w_tables⟩
theorem atStart : AtStart classFile x code maxLocals ret World_1 tables_1 room_1 Calls_1 rest_1 Pre_1 launch0 p0 e0 about1 theMethod args0 below0 :=
  ⟨lists_1, trivial, launch0.admits_env _ _ _, launch0.least_env, fairChoices_fair.cas, fairChoices_fair.clock, w_frames, w_args, w_heap, w_applies, trivial, trivial, w_case⟩
end start1
theorem witness_1 : WitnessClaimed_1 := ⟨start1.p0, start1.e0, start1.about1, start1.theMethod, start1.args0, start1.below0, start1.atStart⟩
end Jvm.Pilot.@@N@@
