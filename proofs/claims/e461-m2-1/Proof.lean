import JvmDerived
import JvmDerived.Pilot.@@N@@Statement
import JvmDerived.Pilot.@@N@@Code
set_option linter.unusedVariables false
set_option linter.unusedSimpArgs false
namespace Jvm.Pilot.@@N@@
open Jvm Jvm.ClassFile Sem Op Lib Jvm.Free Jvm.Stand Jvm.LawKit Jvm.RoadKit Bundle Jvm.Pilot.@@N@@.Jvm.D
/-- what the end of a body says -/
def own_K (s : State) (Q : Option Value → Heap → List Loc → Prop) (C S : Nat) (o : Outcome) (U : State) : Prop := ∃ v L, o = .returned v ∧ Q v U.heap L ∧ FrameEnd s o U L C S
/-- the run goes from S to a return of which K is true -/
def own_Go (p : Program) (e : Env) (below : List Frame) (K : Outcome → State → Prop) (S : State) : Prop := ∃ s₂ o, Steps p.tables e below S s₂ ∧ s₂.status = .running ∧ Ended s₂ below o ∧ K o s₂
/-- the answer of a body that leaves the heap alone -/
def own_Q (val : Value) (h0 : Heap) (n0 : Nat) (v : Option Value) (h : Heap) (L : List Loc) : Prop := v = some val ∧ Fr n0 L ∧ h = h0
section Own
variable {p : Program} {l : Launch} {e : Env} {R : Room} {s : State} {m : MethodId} {args : Array Value} {below : List Frame} {meth : Method} {c : Code} {T : State} {locs : List Loc} {cells slots : Nat} {K : Outcome → State → Prop} {Q : Option Value → Heap → List Loc → Prop} {C S : Nat}
theorem own_by {S S' : State} (h : ∀ t, Steps p.tables e below S' t → Steps p.tables e below S t) (g : own_Go p e below K S') : own_Go p e below K S := by
  obtain ⟨u, o, st, r⟩ := g
  exact ⟨u, o, h u st, r⟩
theorem own_tr {S S' : State} (h : Steps p.tables e below S S') (g : own_Go p e below K S') : own_Go p e below K S := own_by (fun _ k => h.trans k) g
/-- return of a value that is of its kind -/
theorem own_ret (X : Stand p l e R s m args below meth c T locs cells slots) (hx : p.tables.exec = Jvm.exec) (hlk : meth.locks = false) {pc : Nat} {Ls : Array Slot} {w : Value} {t : FieldType} {i : Instr} {rest : List Value} (hret : meth.sig.returnType = some t) (hn : narrow t w = w)
    (hi : (i = .ireturn ∧ (t = .int ∨ t = .boolean ∨ t = .byte ∨ t = .char ∨ t = .short) ∧ ∃ z, w = .int z) ∨ (i = .lreturn ∧ t = .long ∧ ∃ z, w = .long z) ∨ (i = .dreturn ∧ t = .double ∧ ∃ z, w = .double z) ∨ (i = .freturn ∧ t = .float ∧ ∃ z, w = .float z) ∨ (i = .areturn ∧ t.isReference = true ∧ w.isRef = true))
    (hd : decode c.code pc = .ok (i, 1)) (hQ : Q (some w) T.heap locs) (hc : cells ≤ C) (hs : slots ≤ S) : own_Go p e below (own_K s Q C S) (T.setTop (mkF m pc Ls (w :: rest))) := by
  obtain ⟨fs, hr, hrun, hended, hW, hsame⟩ := X.leave (v := some w) (fun h => by rw [hret] at h; cases h) hlk
  exact ⟨_, _, retOut X hx hret hn hi hd hr, hrun, hended, _, _, rfl, hQ, ⟨_, rfl⟩, hW, hsame.mono hc hs⟩
/-- return of a boolean, byte, char or short, narrowed -/
theorem own_retN (X : Stand p l e R s m args below meth c T locs cells slots) (hx : p.tables.exec = Jvm.exec) (hlk : meth.locks = false) {pc : Nat} {Ls : Array Slot} {z : Int32} {t : FieldType} {rest : List Value} (hret : meth.sig.returnType = some t) (ht : t = .boolean ∨ t = .byte ∨ t = .char ∨ t = .short)
    (hd : decode c.code pc = .ok (.ireturn, 1)) (hQ : Q (some (.int (nar t z))) T.heap locs) (hc : cells ≤ C) (hs : slots ≤ S) : own_Go p e below (own_K s Q C S) (T.setTop (mkF m pc Ls (.int z :: rest))) := by
  obtain ⟨fs, hr, hrun, hended, hW, hsame⟩ := X.leave (v := some (.int (nar t z))) (fun h => by rw [hret] at h; cases h) hlk
  exact ⟨_, _, retN X hx hret ht hd hr, hrun, hended, _, _, rfl, hQ, ⟨_, rfl⟩, hW, hsame.mono hc hs⟩
/-- return of nothing -/
theorem own_retV (X : Stand p l e R s m args below meth c T locs cells slots) (hx : p.tables.exec = Jvm.exec) (hlk : meth.locks = false) {pc : Nat} {Ls : Array Slot} (hret : meth.sig.returnType = none)
    (hd : decode c.code pc = .ok (.return_, 1)) (hQ : Q none T.heap locs) (hc : cells ≤ C) (hs : slots ≤ S) : own_Go p e below (own_K s Q C S) (T.setTop (mkF m pc Ls [])) := by
  obtain ⟨fs, hr, hrun, hended, hW, hsame⟩ := X.leave (v := none) (fun _ => rfl) hlk
  exact ⟨_, _, X.returnOut hx hret hd hr, hrun, hended, _, _, rfl, hQ, ⟨_, rfl⟩, hW, hsame.mono hc hs⟩
end Own
theorem own_few (c : Int32) (a : Int) (n : Nat) (h1 : a ≤ c.toInt) (h2 : c.toInt < a + n) (P : Int32 → Prop) (h : ∀ k : Fin n, P (Int32.ofInt (a + k))) : P c := by
  have e : Int32.ofInt (a + ((c.toInt - a).toNat : Nat)) = c := by
    rw [show a + ((c.toInt - a).toNat : Nat) = c.toInt by omega]; exact Int32.ofInt_toInt c
  have := h ⟨(c.toInt - a).toNat, by omega⟩
  rwa [e] at this
theorem own_pn0 : plainName "com/example/conjecta/conjecta/model/Tokens" = true := by first | (simp [plainName, overriddenIn]; done) | decide +kernel
theorem own_pd1 : parseMethodDescriptor "(I)Z" = some ⟨[.int], some .boolean⟩ := by decide +kernel
theorem d1_0 : decode prog_202_method_11_code 0 = .ok (.iload_n 0, 1) := by decide +kernel
theorem d1_1 : decode prog_202_method_11_code 1 = .ok (.bipush 65, 2) := by decide +kernel
theorem d1_3 : decode prog_202_method_11_code 3 = .ok (.if_icmp .lt 9, 3) := by decide +kernel
theorem d1_6 : decode prog_202_method_11_code 6 = .ok (.iload_n 0, 1) := by decide +kernel
theorem d1_7 : decode prog_202_method_11_code 7 = .ok (.bipush 90, 2) := by decide +kernel
theorem d1_9 : decode prog_202_method_11_code 9 = .ok (.if_icmp .le 33, 3) := by decide +kernel
theorem d1_12 : decode prog_202_method_11_code 12 = .ok (.iload_n 0, 1) := by decide +kernel
theorem d1_13 : decode prog_202_method_11_code 13 = .ok (.bipush 97, 2) := by decide +kernel
theorem d1_15 : decode prog_202_method_11_code 15 = .ok (.if_icmp .lt 9, 3) := by decide +kernel
theorem d1_18 : decode prog_202_method_11_code 18 = .ok (.iload_n 0, 1) := by decide +kernel
theorem d1_19 : decode prog_202_method_11_code 19 = .ok (.bipush 122, 2) := by decide +kernel
theorem d1_21 : decode prog_202_method_11_code 21 = .ok (.if_icmp .le 21, 3) := by decide +kernel
theorem d1_24 : decode prog_202_method_11_code 24 = .ok (.iload_n 0, 1) := by decide +kernel
theorem d1_25 : decode prog_202_method_11_code 25 = .ok (.bipush 48, 2) := by decide +kernel
theorem d1_27 : decode prog_202_method_11_code 27 = .ok (.if_icmp .lt 9, 3) := by decide +kernel
theorem d1_30 : decode prog_202_method_11_code 30 = .ok (.iload_n 0, 1) := by decide +kernel
theorem d1_31 : decode prog_202_method_11_code 31 = .ok (.bipush 57, 2) := by decide +kernel
theorem d1_33 : decode prog_202_method_11_code 33 = .ok (.if_icmp .le 9, 3) := by decide +kernel
theorem d1_36 : decode prog_202_method_11_code 36 = .ok (.iload_n 0, 1) := by decide +kernel
theorem d1_37 : decode prog_202_method_11_code 37 = .ok (.bipush 95, 2) := by decide +kernel
theorem d1_39 : decode prog_202_method_11_code 39 = .ok (.if_icmp .ne 7, 3) := by decide +kernel
theorem d1_42 : decode prog_202_method_11_code 42 = .ok (.iconst 1, 1) := by decide +kernel
theorem d1_43 : decode prog_202_method_11_code 43 = .ok (.goto 4, 3) := by decide +kernel
theorem d1_46 : decode prog_202_method_11_code 46 = .ok (.iconst 0, 1) := by decide +kernel
theorem d1_47 : decode prog_202_method_11_code 47 = .ok (.ireturn, 1) := by decide +kernel
def f1_46 (l0 : Int32) : Int32 := (0 : Int32)
set_option maxRecDepth 65536 in
set_option maxHeartbeats 4000000 in
theorem w1_46 {p : Program} {l : Launch} {e : Env} {s : State} {m : MethodId} {args : Array Value} {below : List Frame} {meth : Method} {c : Code} {T : State} {locs : List Loc} {Z : State} {a0 : Array Value} {n0 : Nat} {h0 : Heap} (X : Stand p l e ({ frames := 0, cells := 0, slots := 0, locals := 0 } : Room) s m args below meth c T locs 0 0) (hx : p.tables.exec = Jvm.exec) (hby : c.code = prog_202_method_11_code) (hlk : meth.locks = false) (hret : meth.sig.returnType = some .boolean) (hZ : Z.Warmed39 s.vm) (hown : s.vm.findClass "com/example/conjecta/conjecta/model/Tokens" = some m.cls) (hw : ∀ d ∈ tables_1, d.before a0 Z = true) (hml : c.maxLocals = 1) (N : Fr n0 locs) (eT : T.heap = h0) (l0 : Int32) :
    own_Go p e below (own_K s (own_Q (.int (f1_46 l0)) h0 n0) 0 0) (T.setTop (mkF m 46 #[.val (.int l0)] [])) := by
  unfold f1_46
  refine own_by (fun _ kont => XT.iconstV X.here hx rfl (0 : Int32) (hb hby d1_46) rfl kont) ?_
  show own_Go p e below _ (T.setTop (mkF m 47 #[.val (.int l0)] [(.int (0 : Int32))]))
  exact own_ret X hx hlk hret rfl (Or.inl ⟨rfl, by simp, _, rfl⟩) (hb hby d1_47) ⟨rfl, N, eT⟩ (Nat.le_refl _) (Nat.le_refl _)
def f1_42 (l0 : Int32) : Int32 := (1 : Int32)
set_option maxRecDepth 65536 in
set_option maxHeartbeats 4000000 in
theorem w1_42 {p : Program} {l : Launch} {e : Env} {s : State} {m : MethodId} {args : Array Value} {below : List Frame} {meth : Method} {c : Code} {T : State} {locs : List Loc} {Z : State} {a0 : Array Value} {n0 : Nat} {h0 : Heap} (X : Stand p l e ({ frames := 0, cells := 0, slots := 0, locals := 0 } : Room) s m args below meth c T locs 0 0) (hx : p.tables.exec = Jvm.exec) (hby : c.code = prog_202_method_11_code) (hlk : meth.locks = false) (hret : meth.sig.returnType = some .boolean) (hZ : Z.Warmed39 s.vm) (hown : s.vm.findClass "com/example/conjecta/conjecta/model/Tokens" = some m.cls) (hw : ∀ d ∈ tables_1, d.before a0 Z = true) (hml : c.maxLocals = 1) (N : Fr n0 locs) (eT : T.heap = h0) (l0 : Int32) :
    own_Go p e below (own_K s (own_Q (.int (f1_42 l0)) h0 n0) 0 0) (T.setTop (mkF m 42 #[.val (.int l0)] [])) := by
  unfold f1_42
  refine own_by (fun _ kont => XT.iconstV X.here hx rfl (1 : Int32) (hb hby d1_42) rfl kont) ?_
  show own_Go p e below _ (T.setTop (mkF m 43 #[.val (.int l0)] [(.int (1 : Int32))]))
  refine own_by (fun _ kont => XS.goto X.here hx rfl (pc0 := 43) (pc' := 47) rfl (hb hby d1_43) (by decide) (by decide) kont) ?_
  show own_Go p e below _ (T.setTop (mkF m 47 #[.val (.int l0)] [(.int (1 : Int32))]))
  exact own_ret X hx hlk hret rfl (Or.inl ⟨rfl, by simp, _, rfl⟩) (hb hby d1_47) ⟨rfl, N, eT⟩ (Nat.le_refl _) (Nat.le_refl _)
def f1_36 (l0 : Int32) : Int32 := (if l0 = (95 : Int32) then (f1_42 l0) else (f1_46 l0))
set_option maxRecDepth 65536 in
set_option maxHeartbeats 4000000 in
theorem w1_36 {p : Program} {l : Launch} {e : Env} {s : State} {m : MethodId} {args : Array Value} {below : List Frame} {meth : Method} {c : Code} {T : State} {locs : List Loc} {Z : State} {a0 : Array Value} {n0 : Nat} {h0 : Heap} (X : Stand p l e ({ frames := 0, cells := 0, slots := 0, locals := 0 } : Room) s m args below meth c T locs 0 0) (hx : p.tables.exec = Jvm.exec) (hby : c.code = prog_202_method_11_code) (hlk : meth.locks = false) (hret : meth.sig.returnType = some .boolean) (hZ : Z.Warmed39 s.vm) (hown : s.vm.findClass "com/example/conjecta/conjecta/model/Tokens" = some m.cls) (hw : ∀ d ∈ tables_1, d.before a0 Z = true) (hml : c.maxLocals = 1) (N : Fr n0 locs) (eT : T.heap = h0) (l0 : Int32) :
    own_Go p e below (own_K s (own_Q (.int (f1_36 l0)) h0 n0) 0 0) (T.setTop (mkF m 36 #[.val (.int l0)] [])) := by
  unfold f1_36
  refine own_by (fun _ kont => XS.iloadN X.here hx rfl (hb hby d1_36) rfl kont) ?_
  show own_Go p e below _ (T.setTop (mkF m 37 #[.val (.int l0)] [(.int l0)]))
  refine own_by (fun _ kont => XT.bipushV X.here hx rfl (95 : Int32) (hb hby d1_37) rfl kont) ?_
  show own_Go p e below _ (T.setTop (mkF m 39 #[.val (.int l0)] [(.int (95 : Int32)), (.int l0)]))
  by_cases c39 : l0 = (95 : Int32)
  · rw [if_pos c39]
    refine own_by (fun _ kont => XS.icmpNo X.here hx rfl (hb hby d1_39) rfl (XT.ii_ne_f c39) kont) ?_
    show own_Go p e below _ (T.setTop (mkF m 42 #[.val (.int l0)] []))
    exact w1_42 X hx hby hlk hret hZ hown hw hml N eT l0
  · rw [if_neg c39]
    refine own_by (fun _ kont => XS.icmpYes X.here hx rfl (pc0 := 39) (pc' := 46) rfl (hb hby d1_39) rfl (XT.ii_ne_t c39) (by decide) (by decide) kont) ?_
    show own_Go p e below _ (T.setTop (mkF m 46 #[.val (.int l0)] []))
    exact w1_46 X hx hby hlk hret hZ hown hw hml N eT l0
def f1_24 (l0 : Int32) : Int32 := (if l0 < (48 : Int32) then (f1_36 l0) else (if (57 : Int32) < l0 then (f1_36 l0) else (f1_42 l0)))
set_option maxRecDepth 65536 in
set_option maxHeartbeats 4000000 in
theorem w1_24 {p : Program} {l : Launch} {e : Env} {s : State} {m : MethodId} {args : Array Value} {below : List Frame} {meth : Method} {c : Code} {T : State} {locs : List Loc} {Z : State} {a0 : Array Value} {n0 : Nat} {h0 : Heap} (X : Stand p l e ({ frames := 0, cells := 0, slots := 0, locals := 0 } : Room) s m args below meth c T locs 0 0) (hx : p.tables.exec = Jvm.exec) (hby : c.code = prog_202_method_11_code) (hlk : meth.locks = false) (hret : meth.sig.returnType = some .boolean) (hZ : Z.Warmed39 s.vm) (hown : s.vm.findClass "com/example/conjecta/conjecta/model/Tokens" = some m.cls) (hw : ∀ d ∈ tables_1, d.before a0 Z = true) (hml : c.maxLocals = 1) (N : Fr n0 locs) (eT : T.heap = h0) (l0 : Int32) :
    own_Go p e below (own_K s (own_Q (.int (f1_24 l0)) h0 n0) 0 0) (T.setTop (mkF m 24 #[.val (.int l0)] [])) := by
  unfold f1_24
  refine own_by (fun _ kont => XS.iloadN X.here hx rfl (hb hby d1_24) rfl kont) ?_
  show own_Go p e below _ (T.setTop (mkF m 25 #[.val (.int l0)] [(.int l0)]))
  refine own_by (fun _ kont => XT.bipushV X.here hx rfl (48 : Int32) (hb hby d1_25) rfl kont) ?_
  show own_Go p e below _ (T.setTop (mkF m 27 #[.val (.int l0)] [(.int (48 : Int32)), (.int l0)]))
  by_cases c27 : l0 < (48 : Int32)
  · rw [if_pos c27]
    refine own_by (fun _ kont => XS.icmpYes X.here hx rfl (pc0 := 27) (pc' := 36) rfl (hb hby d1_27) rfl (XT.ii_lt_t c27) (by decide) (by decide) kont) ?_
    show own_Go p e below _ (T.setTop (mkF m 36 #[.val (.int l0)] []))
    exact w1_36 X hx hby hlk hret hZ hown hw hml N eT l0
  · rw [if_neg c27]
    refine own_by (fun _ kont => XS.icmpNo X.here hx rfl (hb hby d1_27) rfl (XT.ii_lt_f c27) kont) ?_
    show own_Go p e below _ (T.setTop (mkF m 30 #[.val (.int l0)] []))
    refine own_by (fun _ kont => XS.iloadN X.here hx rfl (hb hby d1_30) rfl kont) ?_
    show own_Go p e below _ (T.setTop (mkF m 31 #[.val (.int l0)] [(.int l0)]))
    refine own_by (fun _ kont => XT.bipushV X.here hx rfl (57 : Int32) (hb hby d1_31) rfl kont) ?_
    show own_Go p e below _ (T.setTop (mkF m 33 #[.val (.int l0)] [(.int (57 : Int32)), (.int l0)]))
    by_cases c33 : (57 : Int32) < l0
    · rw [if_pos c33]
      refine own_by (fun _ kont => XS.icmpNo X.here hx rfl (hb hby d1_33) rfl (XT.ii_le_f c33) kont) ?_
      show own_Go p e below _ (T.setTop (mkF m 36 #[.val (.int l0)] []))
      exact w1_36 X hx hby hlk hret hZ hown hw hml N eT l0
    · rw [if_neg c33]
      refine own_by (fun _ kont => XS.icmpYes X.here hx rfl (pc0 := 33) (pc' := 42) rfl (hb hby d1_33) rfl (XT.ii_le_t c33) (by decide) (by decide) kont) ?_
      show own_Go p e below _ (T.setTop (mkF m 42 #[.val (.int l0)] []))
      exact w1_42 X hx hby hlk hret hZ hown hw hml N eT l0
def f1_12 (l0 : Int32) : Int32 := (if l0 < (97 : Int32) then (f1_24 l0) else (if (122 : Int32) < l0 then (f1_24 l0) else (f1_42 l0)))
set_option maxRecDepth 65536 in
set_option maxHeartbeats 4000000 in
theorem w1_12 {p : Program} {l : Launch} {e : Env} {s : State} {m : MethodId} {args : Array Value} {below : List Frame} {meth : Method} {c : Code} {T : State} {locs : List Loc} {Z : State} {a0 : Array Value} {n0 : Nat} {h0 : Heap} (X : Stand p l e ({ frames := 0, cells := 0, slots := 0, locals := 0 } : Room) s m args below meth c T locs 0 0) (hx : p.tables.exec = Jvm.exec) (hby : c.code = prog_202_method_11_code) (hlk : meth.locks = false) (hret : meth.sig.returnType = some .boolean) (hZ : Z.Warmed39 s.vm) (hown : s.vm.findClass "com/example/conjecta/conjecta/model/Tokens" = some m.cls) (hw : ∀ d ∈ tables_1, d.before a0 Z = true) (hml : c.maxLocals = 1) (N : Fr n0 locs) (eT : T.heap = h0) (l0 : Int32) :
    own_Go p e below (own_K s (own_Q (.int (f1_12 l0)) h0 n0) 0 0) (T.setTop (mkF m 12 #[.val (.int l0)] [])) := by
  unfold f1_12
  refine own_by (fun _ kont => XS.iloadN X.here hx rfl (hb hby d1_12) rfl kont) ?_
  show own_Go p e below _ (T.setTop (mkF m 13 #[.val (.int l0)] [(.int l0)]))
  refine own_by (fun _ kont => XT.bipushV X.here hx rfl (97 : Int32) (hb hby d1_13) rfl kont) ?_
  show own_Go p e below _ (T.setTop (mkF m 15 #[.val (.int l0)] [(.int (97 : Int32)), (.int l0)]))
  by_cases c15 : l0 < (97 : Int32)
  · rw [if_pos c15]
    refine own_by (fun _ kont => XS.icmpYes X.here hx rfl (pc0 := 15) (pc' := 24) rfl (hb hby d1_15) rfl (XT.ii_lt_t c15) (by decide) (by decide) kont) ?_
    show own_Go p e below _ (T.setTop (mkF m 24 #[.val (.int l0)] []))
    exact w1_24 X hx hby hlk hret hZ hown hw hml N eT l0
  · rw [if_neg c15]
    refine own_by (fun _ kont => XS.icmpNo X.here hx rfl (hb hby d1_15) rfl (XT.ii_lt_f c15) kont) ?_
    show own_Go p e below _ (T.setTop (mkF m 18 #[.val (.int l0)] []))
    refine own_by (fun _ kont => XS.iloadN X.here hx rfl (hb hby d1_18) rfl kont) ?_
    show own_Go p e below _ (T.setTop (mkF m 19 #[.val (.int l0)] [(.int l0)]))
    refine own_by (fun _ kont => XT.bipushV X.here hx rfl (122 : Int32) (hb hby d1_19) rfl kont) ?_
    show own_Go p e below _ (T.setTop (mkF m 21 #[.val (.int l0)] [(.int (122 : Int32)), (.int l0)]))
    by_cases c21 : (122 : Int32) < l0
    · rw [if_pos c21]
      refine own_by (fun _ kont => XS.icmpNo X.here hx rfl (hb hby d1_21) rfl (XT.ii_le_f c21) kont) ?_
      show own_Go p e below _ (T.setTop (mkF m 24 #[.val (.int l0)] []))
      exact w1_24 X hx hby hlk hret hZ hown hw hml N eT l0
    · rw [if_neg c21]
      refine own_by (fun _ kont => XS.icmpYes X.here hx rfl (pc0 := 21) (pc' := 42) rfl (hb hby d1_21) rfl (XT.ii_le_t c21) (by decide) (by decide) kont) ?_
      show own_Go p e below _ (T.setTop (mkF m 42 #[.val (.int l0)] []))
      exact w1_42 X hx hby hlk hret hZ hown hw hml N eT l0
def f1_0 (l0 : Int32) : Int32 := (if l0 < (65 : Int32) then (f1_12 l0) else (if (90 : Int32) < l0 then (f1_12 l0) else (f1_42 l0)))
set_option maxRecDepth 65536 in
set_option maxHeartbeats 4000000 in
theorem w1_0 {p : Program} {l : Launch} {e : Env} {s : State} {m : MethodId} {args : Array Value} {below : List Frame} {meth : Method} {c : Code} {T : State} {locs : List Loc} {Z : State} {a0 : Array Value} {n0 : Nat} {h0 : Heap} (X : Stand p l e ({ frames := 0, cells := 0, slots := 0, locals := 0 } : Room) s m args below meth c T locs 0 0) (hx : p.tables.exec = Jvm.exec) (hby : c.code = prog_202_method_11_code) (hlk : meth.locks = false) (hret : meth.sig.returnType = some .boolean) (hZ : Z.Warmed39 s.vm) (hown : s.vm.findClass "com/example/conjecta/conjecta/model/Tokens" = some m.cls) (hw : ∀ d ∈ tables_1, d.before a0 Z = true) (hml : c.maxLocals = 1) (N : Fr n0 locs) (eT : T.heap = h0) (l0 : Int32) :
    own_Go p e below (own_K s (own_Q (.int (f1_0 l0)) h0 n0) 0 0) (T.setTop (mkF m 0 #[.val (.int l0)] [])) := by
  unfold f1_0
  refine own_by (fun _ kont => XS.iloadN X.here hx rfl (hb hby d1_0) rfl kont) ?_
  show own_Go p e below _ (T.setTop (mkF m 1 #[.val (.int l0)] [(.int l0)]))
  refine own_by (fun _ kont => XT.bipushV X.here hx rfl (65 : Int32) (hb hby d1_1) rfl kont) ?_
  show own_Go p e below _ (T.setTop (mkF m 3 #[.val (.int l0)] [(.int (65 : Int32)), (.int l0)]))
  by_cases c3 : l0 < (65 : Int32)
  · rw [if_pos c3]
    refine own_by (fun _ kont => XS.icmpYes X.here hx rfl (pc0 := 3) (pc' := 12) rfl (hb hby d1_3) rfl (XT.ii_lt_t c3) (by decide) (by decide) kont) ?_
    show own_Go p e below _ (T.setTop (mkF m 12 #[.val (.int l0)] []))
    exact w1_12 X hx hby hlk hret hZ hown hw hml N eT l0
  · rw [if_neg c3]
    refine own_by (fun _ kont => XS.icmpNo X.here hx rfl (hb hby d1_3) rfl (XT.ii_lt_f c3) kont) ?_
    show own_Go p e below _ (T.setTop (mkF m 6 #[.val (.int l0)] []))
    refine own_by (fun _ kont => XS.iloadN X.here hx rfl (hb hby d1_6) rfl kont) ?_
    show own_Go p e below _ (T.setTop (mkF m 7 #[.val (.int l0)] [(.int l0)]))
    refine own_by (fun _ kont => XT.bipushV X.here hx rfl (90 : Int32) (hb hby d1_7) rfl kont) ?_
    show own_Go p e below _ (T.setTop (mkF m 9 #[.val (.int l0)] [(.int (90 : Int32)), (.int l0)]))
    by_cases c9 : (90 : Int32) < l0
    · rw [if_pos c9]
      refine own_by (fun _ kont => XS.icmpNo X.here hx rfl (hb hby d1_9) rfl (XT.ii_le_f c9) kont) ?_
      show own_Go p e below _ (T.setTop (mkF m 12 #[.val (.int l0)] []))
      exact w1_12 X hx hby hlk hret hZ hown hw hml N eT l0
    · rw [if_neg c9]
      refine own_by (fun _ kont => XS.icmpYes X.here hx rfl (pc0 := 9) (pc' := 42) rfl (hb hby d1_9) rfl (XT.ii_le_t c9) (by decide) (by decide) kont) ?_
      show own_Go p e below _ (T.setTop (mkF m 42 #[.val (.int l0)] []))
      exact w1_42 X hx hby hlk hret hZ hown hw hml N eT l0
theorem own_ef1 (m : MethodId) (l0 : Int32) : entryFrame m #[(.int l0)] 1 = (mkF m 0 #[.val (.int l0)] []) := by first | (simp [entryFrame, mkF, argsToLocals, Value.category, maxLocals]; done) | rfl
set_option maxRecDepth 65536 in
set_option maxHeartbeats 4000000 in
theorem rm1 (l : Launch) (Z : State) (a0 : Array Value) (hw : ∀ d ∈ tables_1, d.before a0 Z = true) (ws : List Jvm.Cond) (l0 : Int32) (h0 : Heap) (n0 : Nat) :
    MetFree l (⟨"com/example/conjecta/conjecta/model/Tokens", "isNameCharacter", "(I)Z"⟩ : MethodName) (head1 (Jvm.Cond.code (⟨"com/example/conjecta/conjecta/model/Tokens", "isNameCharacter", "(I)Z"⟩ : MethodName) prog_202_method_11_code 1 (some .boolean) :: ws) ({ frames := 0, cells := 0, slots := 0, locals := 0 } : Room)) (fun a U => a = #[(.int l0)] ∧ Z.Warmed39 U.vm ∧ U.heap = h0) (fun _ _ _ _ _ => True) (fun _ U o U' => ∃ v L, o = .returned v ∧ own_Q (.int (f1_0 l0)) h0 n0 v U'.heap L ∧ FrameEnd U o U' L ({ frames := 0, cells := 0, slots := 0, locals := 0 } : Room).cells ({ frames := 0, cells := 0, slots := 0, locals := 0 } : Room).slots) := by
  refine MetFree.of_bodySF (plainFor_of_name own_pn0) hisR ?_
  intro p e s m args below meth c s₁ Bd hml0 hP hK
  obtain ⟨rfl, hZ, hh⟩ := hP
  have hx := Bd.exec
  have hby := Bd.bytes
  have hml : c.maxLocals = 1 := hml0
  have hown : s.vm.findClass "com/example/conjecta/conjecta/model/Tokens" = some m.cls := findClass_of_methodNamed Bd.named
  have X0 : Stand p l e ({ frames := 0, cells := 0, slots := 0, locals := 0 } : Room) s m #[(.int l0)] below meth c s₁ [] 0 0 := Stand.of_body Bd
  have e0 : s₁.heap = h0 := by rw [← hh, Bd.state]; rfl
  have N0 := Fr.nil n0
  exact own_by (fun t k => castTop (own_ef1 m l0) k) (w1_0 X0 hx hby Bd.notSynchronized Bd.returns hZ hown hw hml N0 e0 l0)
theorem own_pn2 : plainName "com/example/conjecta/conjecta/model/TokensIsNameCharacterPinLaw" = true := by first | (simp [plainName, overriddenIn]; done) | decide +kernel
theorem d2_0 : decode method_3_code 0 = .ok (.iload_n 0, 1) := by decide +kernel
theorem d2_1 : decode method_3_code 1 = .ok (.ifCond .lt 9, 3) := by decide +kernel
theorem d2_4 : decode method_3_code 4 = .ok (.iload_n 0, 1) := by decide +kernel
theorem d2_5 : decode method_3_code 5 = .ok (.bipush 127, 2) := by decide +kernel
theorem d2_7 : decode method_3_code 7 = .ok (.if_icmp .le 5, 3) := by decide +kernel
theorem d2_10 : decode method_3_code 10 = .ok (.iconst 0, 1) := by decide +kernel
theorem d2_11 : decode method_3_code 11 = .ok (.ireturn, 1) := by decide +kernel
theorem d2_12 : decode method_3_code 12 = .ok (.iload_n 0, 1) := by decide +kernel
theorem d2_13 : decode method_3_code 13 = .ok (.bipush 32, 2) := by decide +kernel
theorem d2_15 : decode method_3_code 15 = .ok (.ior, 1) := by decide +kernel
theorem d2_16 : decode method_3_code 16 = .ok (.istore_n 1, 1) := by decide +kernel
theorem d2_17 : decode method_3_code 17 = .ok (.iload_n 1, 1) := by decide +kernel
theorem d2_18 : decode method_3_code 18 = .ok (.bipush 97, 2) := by decide +kernel
theorem d2_20 : decode method_3_code 20 = .ok (.if_icmp .lt 13, 3) := by decide +kernel
theorem d2_23 : decode method_3_code 23 = .ok (.iload_n 1, 1) := by decide +kernel
theorem d2_24 : decode method_3_code 24 = .ok (.bipush 122, 2) := by decide +kernel
theorem d2_26 : decode method_3_code 26 = .ok (.if_icmp .gt 7, 3) := by decide +kernel
theorem d2_29 : decode method_3_code 29 = .ok (.iconst 1, 1) := by decide +kernel
theorem d2_30 : decode method_3_code 30 = .ok (.goto 4, 3) := by decide +kernel
theorem d2_33 : decode method_3_code 33 = .ok (.iconst 0, 1) := by decide +kernel
theorem d2_34 : decode method_3_code 34 = .ok (.istore_n 2, 1) := by decide +kernel
theorem d2_35 : decode method_3_code 35 = .ok (.iload_n 0, 1) := by decide +kernel
theorem d2_36 : decode method_3_code 36 = .ok (.bipush 48, 2) := by decide +kernel
theorem d2_38 : decode method_3_code 38 = .ok (.ixor, 1) := by decide +kernel
theorem d2_39 : decode method_3_code 39 = .ok (.bipush 10, 2) := by decide +kernel
theorem d2_41 : decode method_3_code 41 = .ok (.if_icmp .ge 7, 3) := by decide +kernel
theorem d2_44 : decode method_3_code 44 = .ok (.iconst 1, 1) := by decide +kernel
theorem d2_45 : decode method_3_code 45 = .ok (.goto 4, 3) := by decide +kernel
theorem d2_48 : decode method_3_code 48 = .ok (.iconst 0, 1) := by decide +kernel
theorem d2_49 : decode method_3_code 49 = .ok (.istore_n 3, 1) := by decide +kernel
theorem d2_50 : decode method_3_code 50 = .ok (.iload_n 0, 1) := by decide +kernel
theorem d2_51 : decode method_3_code 51 = .ok (.bipush 95, 2) := by decide +kernel
theorem d2_53 : decode method_3_code 53 = .ok (.if_icmp .ne 7, 3) := by decide +kernel
theorem d2_56 : decode method_3_code 56 = .ok (.iconst 1, 1) := by decide +kernel
theorem d2_57 : decode method_3_code 57 = .ok (.goto 4, 3) := by decide +kernel
theorem d2_60 : decode method_3_code 60 = .ok (.iconst 0, 1) := by decide +kernel
theorem d2_61 : decode method_3_code 61 = .ok (.istore 4, 2) := by decide +kernel
theorem d2_63 : decode method_3_code 63 = .ok (.iload_n 2, 1) := by decide +kernel
theorem d2_64 : decode method_3_code 64 = .ok (.ifCond .ne 12, 3) := by decide +kernel
theorem d2_67 : decode method_3_code 67 = .ok (.iload_n 3, 1) := by decide +kernel
theorem d2_68 : decode method_3_code 68 = .ok (.ifCond .ne 8, 3) := by decide +kernel
theorem d2_71 : decode method_3_code 71 = .ok (.iload 4, 2) := by decide +kernel
theorem d2_73 : decode method_3_code 73 = .ok (.ifCond .eq 7, 3) := by decide +kernel
theorem d2_76 : decode method_3_code 76 = .ok (.iconst 1, 1) := by decide +kernel
theorem d2_77 : decode method_3_code 77 = .ok (.goto 4, 3) := by decide +kernel
theorem d2_80 : decode method_3_code 80 = .ok (.iconst 0, 1) := by decide +kernel
theorem d2_81 : decode method_3_code 81 = .ok (.ireturn, 1) := by decide +kernel
def f2_80 (l0 : Int32) (l1 : Int32) (l2 : Int32) (l3 : Int32) (l4 : Int32) : Int32 := (0 : Int32)
set_option maxRecDepth 65536 in
set_option maxHeartbeats 4000000 in
theorem w2_80 {p : Program} {l : Launch} {e : Env} {s : State} {m : MethodId} {args : Array Value} {below : List Frame} {meth : Method} {c : Code} {T : State} {locs : List Loc} {Z : State} {a0 : Array Value} {n0 : Nat} {h0 : Heap} (X : Stand p l e ({ frames := 0, cells := 0, slots := 0, locals := 0 } : Room) s m args below meth c T locs 0 0) (hx : p.tables.exec = Jvm.exec) (hby : c.code = method_3_code) (hlk : meth.locks = false) (hret : meth.sig.returnType = some .boolean) (hZ : Z.Warmed39 s.vm) (hown : s.vm.findClass "com/example/conjecta/conjecta/model/TokensIsNameCharacterPinLaw" = some m.cls) (hw : ∀ d ∈ tables_1, d.before a0 Z = true) (hml : c.maxLocals = 5) (N : Fr n0 locs) (eT : T.heap = h0) (l0 : Int32) (l1 : Int32) (l2 : Int32) (l3 : Int32) (l4 : Int32) :
    own_Go p e below (own_K s (own_Q (.int (f2_80 l0 l1 l2 l3 l4)) h0 n0) 0 0) (T.setTop (mkF m 80 #[.val (.int l0), .val (.int l1), .val (.int l2), .val (.int l3), .val (.int l4)] [])) := by
  unfold f2_80
  refine own_by (fun _ kont => XT.iconstV X.here hx rfl (0 : Int32) (hb hby d2_80) rfl kont) ?_
  show own_Go p e below _ (T.setTop (mkF m 81 #[.val (.int l0), .val (.int l1), .val (.int l2), .val (.int l3), .val (.int l4)] [(.int (0 : Int32))]))
  exact own_ret X hx hlk hret rfl (Or.inl ⟨rfl, by simp, _, rfl⟩) (hb hby d2_81) ⟨rfl, N, eT⟩ (Nat.le_refl _) (Nat.le_refl _)
def f2_76 (l0 : Int32) (l1 : Int32) (l2 : Int32) (l3 : Int32) (l4 : Int32) : Int32 := (1 : Int32)
set_option maxRecDepth 65536 in
set_option maxHeartbeats 4000000 in
theorem w2_76 {p : Program} {l : Launch} {e : Env} {s : State} {m : MethodId} {args : Array Value} {below : List Frame} {meth : Method} {c : Code} {T : State} {locs : List Loc} {Z : State} {a0 : Array Value} {n0 : Nat} {h0 : Heap} (X : Stand p l e ({ frames := 0, cells := 0, slots := 0, locals := 0 } : Room) s m args below meth c T locs 0 0) (hx : p.tables.exec = Jvm.exec) (hby : c.code = method_3_code) (hlk : meth.locks = false) (hret : meth.sig.returnType = some .boolean) (hZ : Z.Warmed39 s.vm) (hown : s.vm.findClass "com/example/conjecta/conjecta/model/TokensIsNameCharacterPinLaw" = some m.cls) (hw : ∀ d ∈ tables_1, d.before a0 Z = true) (hml : c.maxLocals = 5) (N : Fr n0 locs) (eT : T.heap = h0) (l0 : Int32) (l1 : Int32) (l2 : Int32) (l3 : Int32) (l4 : Int32) :
    own_Go p e below (own_K s (own_Q (.int (f2_76 l0 l1 l2 l3 l4)) h0 n0) 0 0) (T.setTop (mkF m 76 #[.val (.int l0), .val (.int l1), .val (.int l2), .val (.int l3), .val (.int l4)] [])) := by
  unfold f2_76
  refine own_by (fun _ kont => XT.iconstV X.here hx rfl (1 : Int32) (hb hby d2_76) rfl kont) ?_
  show own_Go p e below _ (T.setTop (mkF m 77 #[.val (.int l0), .val (.int l1), .val (.int l2), .val (.int l3), .val (.int l4)] [(.int (1 : Int32))]))
  refine own_by (fun _ kont => XS.goto X.here hx rfl (pc0 := 77) (pc' := 81) rfl (hb hby d2_77) (by decide) (by decide) kont) ?_
  show own_Go p e below _ (T.setTop (mkF m 81 #[.val (.int l0), .val (.int l1), .val (.int l2), .val (.int l3), .val (.int l4)] [(.int (1 : Int32))]))
  exact own_ret X hx hlk hret rfl (Or.inl ⟨rfl, by simp, _, rfl⟩) (hb hby d2_81) ⟨rfl, N, eT⟩ (Nat.le_refl _) (Nat.le_refl _)
def f2_61 (l0 : Int32) (l1 : Int32) (l2 : Int32) (l3 : Int32) (s0 : Int32) : Int32 := (if l2 = (0 : Int32) then (if l3 = (0 : Int32) then (if s0 = (0 : Int32) then (f2_80 l0 l1 l2 l3 s0) else (f2_76 l0 l1 l2 l3 s0)) else (f2_76 l0 l1 l2 l3 s0)) else (f2_76 l0 l1 l2 l3 s0))
set_option maxRecDepth 65536 in
set_option maxHeartbeats 4000000 in
theorem w2_61 {p : Program} {l : Launch} {e : Env} {s : State} {m : MethodId} {args : Array Value} {below : List Frame} {meth : Method} {c : Code} {T : State} {locs : List Loc} {Z : State} {a0 : Array Value} {n0 : Nat} {h0 : Heap} (X : Stand p l e ({ frames := 0, cells := 0, slots := 0, locals := 0 } : Room) s m args below meth c T locs 0 0) (hx : p.tables.exec = Jvm.exec) (hby : c.code = method_3_code) (hlk : meth.locks = false) (hret : meth.sig.returnType = some .boolean) (hZ : Z.Warmed39 s.vm) (hown : s.vm.findClass "com/example/conjecta/conjecta/model/TokensIsNameCharacterPinLaw" = some m.cls) (hw : ∀ d ∈ tables_1, d.before a0 Z = true) (hml : c.maxLocals = 5) (N : Fr n0 locs) (eT : T.heap = h0) (l0 : Int32) (l1 : Int32) (l2 : Int32) (l3 : Int32) (s0 : Int32) :
    own_Go p e below (own_K s (own_Q (.int (f2_61 l0 l1 l2 l3 s0)) h0 n0) 0 0) (T.setTop (mkF m 61 #[.val (.int l0), .val (.int l1), .val (.int l2), .val (.int l3), .unset] [(.int s0)])) := by
  unfold f2_61
  refine own_by (fun _ kont => XS.istore X.here hx rfl (hb hby d2_61) rfl (l' := #[.val (.int l0), .val (.int l1), .val (.int l2), .val (.int l3), .val (.int s0)]) rfl kont) ?_
  show own_Go p e below _ (T.setTop (mkF m 63 #[.val (.int l0), .val (.int l1), .val (.int l2), .val (.int l3), .val (.int s0)] []))
  refine own_by (fun _ kont => XS.iloadN X.here hx rfl (hb hby d2_63) rfl kont) ?_
  show own_Go p e below _ (T.setTop (mkF m 64 #[.val (.int l0), .val (.int l1), .val (.int l2), .val (.int l3), .val (.int s0)] [(.int l2)]))
  by_cases c64 : l2 = (0 : Int32)
  · rw [if_pos c64]
    refine own_by (fun _ kont => XS.ifNo X.here hx rfl (hb hby d2_64) rfl (XT.i0_ne_f c64) kont) ?_
    show own_Go p e below _ (T.setTop (mkF m 67 #[.val (.int l0), .val (.int l1), .val (.int l2), .val (.int l3), .val (.int s0)] []))
    refine own_by (fun _ kont => XS.iloadN X.here hx rfl (hb hby d2_67) rfl kont) ?_
    show own_Go p e below _ (T.setTop (mkF m 68 #[.val (.int l0), .val (.int l1), .val (.int l2), .val (.int l3), .val (.int s0)] [(.int l3)]))
    by_cases c68 : l3 = (0 : Int32)
    · rw [if_pos c68]
      refine own_by (fun _ kont => XS.ifNo X.here hx rfl (hb hby d2_68) rfl (XT.i0_ne_f c68) kont) ?_
      show own_Go p e below _ (T.setTop (mkF m 71 #[.val (.int l0), .val (.int l1), .val (.int l2), .val (.int l3), .val (.int s0)] []))
      refine own_by (fun _ kont => XS.iload X.here hx rfl (hb hby d2_71) rfl kont) ?_
      show own_Go p e below _ (T.setTop (mkF m 73 #[.val (.int l0), .val (.int l1), .val (.int l2), .val (.int l3), .val (.int s0)] [(.int s0)]))
      by_cases c73 : s0 = (0 : Int32)
      · rw [if_pos c73]
        refine own_by (fun _ kont => XS.ifYes X.here hx rfl (pc0 := 73) (pc' := 80) rfl (hb hby d2_73) rfl (XT.i0_eq_t c73) (by decide) (by decide) kont) ?_
        show own_Go p e below _ (T.setTop (mkF m 80 #[.val (.int l0), .val (.int l1), .val (.int l2), .val (.int l3), .val (.int s0)] []))
        exact w2_80 X hx hby hlk hret hZ hown hw hml N eT l0 l1 l2 l3 s0
      · rw [if_neg c73]
        refine own_by (fun _ kont => XS.ifNo X.here hx rfl (hb hby d2_73) rfl (XT.i0_eq_f c73) kont) ?_
        show own_Go p e below _ (T.setTop (mkF m 76 #[.val (.int l0), .val (.int l1), .val (.int l2), .val (.int l3), .val (.int s0)] []))
        exact w2_76 X hx hby hlk hret hZ hown hw hml N eT l0 l1 l2 l3 s0
    · rw [if_neg c68]
      refine own_by (fun _ kont => XS.ifYes X.here hx rfl (pc0 := 68) (pc' := 76) rfl (hb hby d2_68) rfl (XT.i0_ne_t c68) (by decide) (by decide) kont) ?_
      show own_Go p e below _ (T.setTop (mkF m 76 #[.val (.int l0), .val (.int l1), .val (.int l2), .val (.int l3), .val (.int s0)] []))
      exact w2_76 X hx hby hlk hret hZ hown hw hml N eT l0 l1 l2 l3 s0
  · rw [if_neg c64]
    refine own_by (fun _ kont => XS.ifYes X.here hx rfl (pc0 := 64) (pc' := 76) rfl (hb hby d2_64) rfl (XT.i0_ne_t c64) (by decide) (by decide) kont) ?_
    show own_Go p e below _ (T.setTop (mkF m 76 #[.val (.int l0), .val (.int l1), .val (.int l2), .val (.int l3), .val (.int s0)] []))
    exact w2_76 X hx hby hlk hret hZ hown hw hml N eT l0 l1 l2 l3 s0
def f2_60 (l0 : Int32) (l1 : Int32) (l2 : Int32) (l3 : Int32) : Int32 := (f2_61 l0 l1 l2 l3 (0 : Int32))
set_option maxRecDepth 65536 in
set_option maxHeartbeats 4000000 in
theorem w2_60 {p : Program} {l : Launch} {e : Env} {s : State} {m : MethodId} {args : Array Value} {below : List Frame} {meth : Method} {c : Code} {T : State} {locs : List Loc} {Z : State} {a0 : Array Value} {n0 : Nat} {h0 : Heap} (X : Stand p l e ({ frames := 0, cells := 0, slots := 0, locals := 0 } : Room) s m args below meth c T locs 0 0) (hx : p.tables.exec = Jvm.exec) (hby : c.code = method_3_code) (hlk : meth.locks = false) (hret : meth.sig.returnType = some .boolean) (hZ : Z.Warmed39 s.vm) (hown : s.vm.findClass "com/example/conjecta/conjecta/model/TokensIsNameCharacterPinLaw" = some m.cls) (hw : ∀ d ∈ tables_1, d.before a0 Z = true) (hml : c.maxLocals = 5) (N : Fr n0 locs) (eT : T.heap = h0) (l0 : Int32) (l1 : Int32) (l2 : Int32) (l3 : Int32) :
    own_Go p e below (own_K s (own_Q (.int (f2_60 l0 l1 l2 l3)) h0 n0) 0 0) (T.setTop (mkF m 60 #[.val (.int l0), .val (.int l1), .val (.int l2), .val (.int l3), .unset] [])) := by
  unfold f2_60
  refine own_by (fun _ kont => XT.iconstV X.here hx rfl (0 : Int32) (hb hby d2_60) rfl kont) ?_
  show own_Go p e below _ (T.setTop (mkF m 61 #[.val (.int l0), .val (.int l1), .val (.int l2), .val (.int l3), .unset] [(.int (0 : Int32))]))
  exact w2_61 X hx hby hlk hret hZ hown hw hml N eT l0 l1 l2 l3 (0 : Int32)
def f2_49 (l0 : Int32) (l1 : Int32) (l2 : Int32) (s0 : Int32) : Int32 := (if l0 = (95 : Int32) then (f2_61 l0 l1 l2 s0 (1 : Int32)) else (f2_60 l0 l1 l2 s0))
set_option maxRecDepth 65536 in
set_option maxHeartbeats 4000000 in
theorem w2_49 {p : Program} {l : Launch} {e : Env} {s : State} {m : MethodId} {args : Array Value} {below : List Frame} {meth : Method} {c : Code} {T : State} {locs : List Loc} {Z : State} {a0 : Array Value} {n0 : Nat} {h0 : Heap} (X : Stand p l e ({ frames := 0, cells := 0, slots := 0, locals := 0 } : Room) s m args below meth c T locs 0 0) (hx : p.tables.exec = Jvm.exec) (hby : c.code = method_3_code) (hlk : meth.locks = false) (hret : meth.sig.returnType = some .boolean) (hZ : Z.Warmed39 s.vm) (hown : s.vm.findClass "com/example/conjecta/conjecta/model/TokensIsNameCharacterPinLaw" = some m.cls) (hw : ∀ d ∈ tables_1, d.before a0 Z = true) (hml : c.maxLocals = 5) (N : Fr n0 locs) (eT : T.heap = h0) (l0 : Int32) (l1 : Int32) (l2 : Int32) (s0 : Int32) :
    own_Go p e below (own_K s (own_Q (.int (f2_49 l0 l1 l2 s0)) h0 n0) 0 0) (T.setTop (mkF m 49 #[.val (.int l0), .val (.int l1), .val (.int l2), .unset, .unset] [(.int s0)])) := by
  unfold f2_49
  refine own_by (fun _ kont => XS.istoreN X.here hx rfl (hb hby d2_49) rfl (l' := #[.val (.int l0), .val (.int l1), .val (.int l2), .val (.int s0), .unset]) rfl kont) ?_
  show own_Go p e below _ (T.setTop (mkF m 50 #[.val (.int l0), .val (.int l1), .val (.int l2), .val (.int s0), .unset] []))
  refine own_by (fun _ kont => XS.iloadN X.here hx rfl (hb hby d2_50) rfl kont) ?_
  show own_Go p e below _ (T.setTop (mkF m 51 #[.val (.int l0), .val (.int l1), .val (.int l2), .val (.int s0), .unset] [(.int l0)]))
  refine own_by (fun _ kont => XT.bipushV X.here hx rfl (95 : Int32) (hb hby d2_51) rfl kont) ?_
  show own_Go p e below _ (T.setTop (mkF m 53 #[.val (.int l0), .val (.int l1), .val (.int l2), .val (.int s0), .unset] [(.int (95 : Int32)), (.int l0)]))
  by_cases c53 : l0 = (95 : Int32)
  · rw [if_pos c53]
    refine own_by (fun _ kont => XS.icmpNo X.here hx rfl (hb hby d2_53) rfl (XT.ii_ne_f c53) kont) ?_
    show own_Go p e below _ (T.setTop (mkF m 56 #[.val (.int l0), .val (.int l1), .val (.int l2), .val (.int s0), .unset] []))
    refine own_by (fun _ kont => XT.iconstV X.here hx rfl (1 : Int32) (hb hby d2_56) rfl kont) ?_
    show own_Go p e below _ (T.setTop (mkF m 57 #[.val (.int l0), .val (.int l1), .val (.int l2), .val (.int s0), .unset] [(.int (1 : Int32))]))
    refine own_by (fun _ kont => XS.goto X.here hx rfl (pc0 := 57) (pc' := 61) rfl (hb hby d2_57) (by decide) (by decide) kont) ?_
    show own_Go p e below _ (T.setTop (mkF m 61 #[.val (.int l0), .val (.int l1), .val (.int l2), .val (.int s0), .unset] [(.int (1 : Int32))]))
    exact w2_61 X hx hby hlk hret hZ hown hw hml N eT l0 l1 l2 s0 (1 : Int32)
  · rw [if_neg c53]
    refine own_by (fun _ kont => XS.icmpYes X.here hx rfl (pc0 := 53) (pc' := 60) rfl (hb hby d2_53) rfl (XT.ii_ne_t c53) (by decide) (by decide) kont) ?_
    show own_Go p e below _ (T.setTop (mkF m 60 #[.val (.int l0), .val (.int l1), .val (.int l2), .val (.int s0), .unset] []))
    exact w2_60 X hx hby hlk hret hZ hown hw hml N eT l0 l1 l2 s0
def f2_48 (l0 : Int32) (l1 : Int32) (l2 : Int32) : Int32 := (f2_49 l0 l1 l2 (0 : Int32))
set_option maxRecDepth 65536 in
set_option maxHeartbeats 4000000 in
theorem w2_48 {p : Program} {l : Launch} {e : Env} {s : State} {m : MethodId} {args : Array Value} {below : List Frame} {meth : Method} {c : Code} {T : State} {locs : List Loc} {Z : State} {a0 : Array Value} {n0 : Nat} {h0 : Heap} (X : Stand p l e ({ frames := 0, cells := 0, slots := 0, locals := 0 } : Room) s m args below meth c T locs 0 0) (hx : p.tables.exec = Jvm.exec) (hby : c.code = method_3_code) (hlk : meth.locks = false) (hret : meth.sig.returnType = some .boolean) (hZ : Z.Warmed39 s.vm) (hown : s.vm.findClass "com/example/conjecta/conjecta/model/TokensIsNameCharacterPinLaw" = some m.cls) (hw : ∀ d ∈ tables_1, d.before a0 Z = true) (hml : c.maxLocals = 5) (N : Fr n0 locs) (eT : T.heap = h0) (l0 : Int32) (l1 : Int32) (l2 : Int32) :
    own_Go p e below (own_K s (own_Q (.int (f2_48 l0 l1 l2)) h0 n0) 0 0) (T.setTop (mkF m 48 #[.val (.int l0), .val (.int l1), .val (.int l2), .unset, .unset] [])) := by
  unfold f2_48
  refine own_by (fun _ kont => XT.iconstV X.here hx rfl (0 : Int32) (hb hby d2_48) rfl kont) ?_
  show own_Go p e below _ (T.setTop (mkF m 49 #[.val (.int l0), .val (.int l1), .val (.int l2), .unset, .unset] [(.int (0 : Int32))]))
  exact w2_49 X hx hby hlk hret hZ hown hw hml N eT l0 l1 l2 (0 : Int32)
def f2_34 (l0 : Int32) (l1 : Int32) (s0 : Int32) : Int32 := (if (l0 ^^^ (48 : Int32)) < (10 : Int32) then (f2_49 l0 l1 s0 (1 : Int32)) else (f2_48 l0 l1 s0))
set_option maxRecDepth 65536 in
set_option maxHeartbeats 4000000 in
theorem w2_34 {p : Program} {l : Launch} {e : Env} {s : State} {m : MethodId} {args : Array Value} {below : List Frame} {meth : Method} {c : Code} {T : State} {locs : List Loc} {Z : State} {a0 : Array Value} {n0 : Nat} {h0 : Heap} (X : Stand p l e ({ frames := 0, cells := 0, slots := 0, locals := 0 } : Room) s m args below meth c T locs 0 0) (hx : p.tables.exec = Jvm.exec) (hby : c.code = method_3_code) (hlk : meth.locks = false) (hret : meth.sig.returnType = some .boolean) (hZ : Z.Warmed39 s.vm) (hown : s.vm.findClass "com/example/conjecta/conjecta/model/TokensIsNameCharacterPinLaw" = some m.cls) (hw : ∀ d ∈ tables_1, d.before a0 Z = true) (hml : c.maxLocals = 5) (N : Fr n0 locs) (eT : T.heap = h0) (l0 : Int32) (l1 : Int32) (s0 : Int32) :
    own_Go p e below (own_K s (own_Q (.int (f2_34 l0 l1 s0)) h0 n0) 0 0) (T.setTop (mkF m 34 #[.val (.int l0), .val (.int l1), .unset, .unset, .unset] [(.int s0)])) := by
  unfold f2_34
  refine own_by (fun _ kont => XS.istoreN X.here hx rfl (hb hby d2_34) rfl (l' := #[.val (.int l0), .val (.int l1), .val (.int s0), .unset, .unset]) rfl kont) ?_
  show own_Go p e below _ (T.setTop (mkF m 35 #[.val (.int l0), .val (.int l1), .val (.int s0), .unset, .unset] []))
  refine own_by (fun _ kont => XS.iloadN X.here hx rfl (hb hby d2_35) rfl kont) ?_
  show own_Go p e below _ (T.setTop (mkF m 36 #[.val (.int l0), .val (.int l1), .val (.int s0), .unset, .unset] [(.int l0)]))
  refine own_by (fun _ kont => XT.bipushV X.here hx rfl (48 : Int32) (hb hby d2_36) rfl kont) ?_
  show own_Go p e below _ (T.setTop (mkF m 38 #[.val (.int l0), .val (.int l1), .val (.int s0), .unset, .unset] [(.int (48 : Int32)), (.int l0)]))
  refine own_by (fun _ kont => XT.ixor X.here hx rfl (hb hby d2_38) rfl kont) ?_
  show own_Go p e below _ (T.setTop (mkF m 39 #[.val (.int l0), .val (.int l1), .val (.int s0), .unset, .unset] [(.int (l0 ^^^ (48 : Int32)))]))
  refine own_by (fun _ kont => XT.bipushV X.here hx rfl (10 : Int32) (hb hby d2_39) rfl kont) ?_
  show own_Go p e below _ (T.setTop (mkF m 41 #[.val (.int l0), .val (.int l1), .val (.int s0), .unset, .unset] [(.int (10 : Int32)), (.int (l0 ^^^ (48 : Int32)))]))
  by_cases c41 : (l0 ^^^ (48 : Int32)) < (10 : Int32)
  · rw [if_pos c41]
    refine own_by (fun _ kont => XS.icmpNo X.here hx rfl (hb hby d2_41) rfl (XT.ii_ge_f c41) kont) ?_
    show own_Go p e below _ (T.setTop (mkF m 44 #[.val (.int l0), .val (.int l1), .val (.int s0), .unset, .unset] []))
    refine own_by (fun _ kont => XT.iconstV X.here hx rfl (1 : Int32) (hb hby d2_44) rfl kont) ?_
    show own_Go p e below _ (T.setTop (mkF m 45 #[.val (.int l0), .val (.int l1), .val (.int s0), .unset, .unset] [(.int (1 : Int32))]))
    refine own_by (fun _ kont => XS.goto X.here hx rfl (pc0 := 45) (pc' := 49) rfl (hb hby d2_45) (by decide) (by decide) kont) ?_
    show own_Go p e below _ (T.setTop (mkF m 49 #[.val (.int l0), .val (.int l1), .val (.int s0), .unset, .unset] [(.int (1 : Int32))]))
    exact w2_49 X hx hby hlk hret hZ hown hw hml N eT l0 l1 s0 (1 : Int32)
  · rw [if_neg c41]
    refine own_by (fun _ kont => XS.icmpYes X.here hx rfl (pc0 := 41) (pc' := 48) rfl (hb hby d2_41) rfl (XT.ii_ge_t c41) (by decide) (by decide) kont) ?_
    show own_Go p e below _ (T.setTop (mkF m 48 #[.val (.int l0), .val (.int l1), .val (.int s0), .unset, .unset] []))
    exact w2_48 X hx hby hlk hret hZ hown hw hml N eT l0 l1 s0
def f2_33 (l0 : Int32) (l1 : Int32) : Int32 := (f2_34 l0 l1 (0 : Int32))
set_option maxRecDepth 65536 in
set_option maxHeartbeats 4000000 in
theorem w2_33 {p : Program} {l : Launch} {e : Env} {s : State} {m : MethodId} {args : Array Value} {below : List Frame} {meth : Method} {c : Code} {T : State} {locs : List Loc} {Z : State} {a0 : Array Value} {n0 : Nat} {h0 : Heap} (X : Stand p l e ({ frames := 0, cells := 0, slots := 0, locals := 0 } : Room) s m args below meth c T locs 0 0) (hx : p.tables.exec = Jvm.exec) (hby : c.code = method_3_code) (hlk : meth.locks = false) (hret : meth.sig.returnType = some .boolean) (hZ : Z.Warmed39 s.vm) (hown : s.vm.findClass "com/example/conjecta/conjecta/model/TokensIsNameCharacterPinLaw" = some m.cls) (hw : ∀ d ∈ tables_1, d.before a0 Z = true) (hml : c.maxLocals = 5) (N : Fr n0 locs) (eT : T.heap = h0) (l0 : Int32) (l1 : Int32) :
    own_Go p e below (own_K s (own_Q (.int (f2_33 l0 l1)) h0 n0) 0 0) (T.setTop (mkF m 33 #[.val (.int l0), .val (.int l1), .unset, .unset, .unset] [])) := by
  unfold f2_33
  refine own_by (fun _ kont => XT.iconstV X.here hx rfl (0 : Int32) (hb hby d2_33) rfl kont) ?_
  show own_Go p e below _ (T.setTop (mkF m 34 #[.val (.int l0), .val (.int l1), .unset, .unset, .unset] [(.int (0 : Int32))]))
  exact w2_34 X hx hby hlk hret hZ hown hw hml N eT l0 l1 (0 : Int32)
def f2_12 (l0 : Int32) : Int32 := (if (l0 ||| (32 : Int32)) < (97 : Int32) then (f2_33 l0 (l0 ||| (32 : Int32))) else (if (122 : Int32) < (l0 ||| (32 : Int32)) then (f2_33 l0 (l0 ||| (32 : Int32))) else (f2_34 l0 (l0 ||| (32 : Int32)) (1 : Int32))))
set_option maxRecDepth 65536 in
set_option maxHeartbeats 4000000 in
theorem w2_12 {p : Program} {l : Launch} {e : Env} {s : State} {m : MethodId} {args : Array Value} {below : List Frame} {meth : Method} {c : Code} {T : State} {locs : List Loc} {Z : State} {a0 : Array Value} {n0 : Nat} {h0 : Heap} (X : Stand p l e ({ frames := 0, cells := 0, slots := 0, locals := 0 } : Room) s m args below meth c T locs 0 0) (hx : p.tables.exec = Jvm.exec) (hby : c.code = method_3_code) (hlk : meth.locks = false) (hret : meth.sig.returnType = some .boolean) (hZ : Z.Warmed39 s.vm) (hown : s.vm.findClass "com/example/conjecta/conjecta/model/TokensIsNameCharacterPinLaw" = some m.cls) (hw : ∀ d ∈ tables_1, d.before a0 Z = true) (hml : c.maxLocals = 5) (N : Fr n0 locs) (eT : T.heap = h0) (l0 : Int32) :
    own_Go p e below (own_K s (own_Q (.int (f2_12 l0)) h0 n0) 0 0) (T.setTop (mkF m 12 #[.val (.int l0), .unset, .unset, .unset, .unset] [])) := by
  unfold f2_12
  refine own_by (fun _ kont => XS.iloadN X.here hx rfl (hb hby d2_12) rfl kont) ?_
  show own_Go p e below _ (T.setTop (mkF m 13 #[.val (.int l0), .unset, .unset, .unset, .unset] [(.int l0)]))
  refine own_by (fun _ kont => XT.bipushV X.here hx rfl (32 : Int32) (hb hby d2_13) rfl kont) ?_
  show own_Go p e below _ (T.setTop (mkF m 15 #[.val (.int l0), .unset, .unset, .unset, .unset] [(.int (32 : Int32)), (.int l0)]))
  refine own_by (fun _ kont => XT.ior X.here hx rfl (hb hby d2_15) rfl kont) ?_
  show own_Go p e below _ (T.setTop (mkF m 16 #[.val (.int l0), .unset, .unset, .unset, .unset] [(.int (l0 ||| (32 : Int32)))]))
  refine own_by (fun _ kont => XS.istoreN X.here hx rfl (hb hby d2_16) rfl (l' := #[.val (.int l0), .val (.int (l0 ||| (32 : Int32))), .unset, .unset, .unset]) rfl kont) ?_
  show own_Go p e below _ (T.setTop (mkF m 17 #[.val (.int l0), .val (.int (l0 ||| (32 : Int32))), .unset, .unset, .unset] []))
  refine own_by (fun _ kont => XS.iloadN X.here hx rfl (hb hby d2_17) rfl kont) ?_
  show own_Go p e below _ (T.setTop (mkF m 18 #[.val (.int l0), .val (.int (l0 ||| (32 : Int32))), .unset, .unset, .unset] [(.int (l0 ||| (32 : Int32)))]))
  refine own_by (fun _ kont => XT.bipushV X.here hx rfl (97 : Int32) (hb hby d2_18) rfl kont) ?_
  show own_Go p e below _ (T.setTop (mkF m 20 #[.val (.int l0), .val (.int (l0 ||| (32 : Int32))), .unset, .unset, .unset] [(.int (97 : Int32)), (.int (l0 ||| (32 : Int32)))]))
  by_cases c20 : (l0 ||| (32 : Int32)) < (97 : Int32)
  · rw [if_pos c20]
    refine own_by (fun _ kont => XS.icmpYes X.here hx rfl (pc0 := 20) (pc' := 33) rfl (hb hby d2_20) rfl (XT.ii_lt_t c20) (by decide) (by decide) kont) ?_
    show own_Go p e below _ (T.setTop (mkF m 33 #[.val (.int l0), .val (.int (l0 ||| (32 : Int32))), .unset, .unset, .unset] []))
    exact w2_33 X hx hby hlk hret hZ hown hw hml N eT l0 (l0 ||| (32 : Int32))
  · rw [if_neg c20]
    refine own_by (fun _ kont => XS.icmpNo X.here hx rfl (hb hby d2_20) rfl (XT.ii_lt_f c20) kont) ?_
    show own_Go p e below _ (T.setTop (mkF m 23 #[.val (.int l0), .val (.int (l0 ||| (32 : Int32))), .unset, .unset, .unset] []))
    refine own_by (fun _ kont => XS.iloadN X.here hx rfl (hb hby d2_23) rfl kont) ?_
    show own_Go p e below _ (T.setTop (mkF m 24 #[.val (.int l0), .val (.int (l0 ||| (32 : Int32))), .unset, .unset, .unset] [(.int (l0 ||| (32 : Int32)))]))
    refine own_by (fun _ kont => XT.bipushV X.here hx rfl (122 : Int32) (hb hby d2_24) rfl kont) ?_
    show own_Go p e below _ (T.setTop (mkF m 26 #[.val (.int l0), .val (.int (l0 ||| (32 : Int32))), .unset, .unset, .unset] [(.int (122 : Int32)), (.int (l0 ||| (32 : Int32)))]))
    by_cases c26 : (122 : Int32) < (l0 ||| (32 : Int32))
    · rw [if_pos c26]
      refine own_by (fun _ kont => XS.icmpYes X.here hx rfl (pc0 := 26) (pc' := 33) rfl (hb hby d2_26) rfl (XT.ii_gt_t c26) (by decide) (by decide) kont) ?_
      show own_Go p e below _ (T.setTop (mkF m 33 #[.val (.int l0), .val (.int (l0 ||| (32 : Int32))), .unset, .unset, .unset] []))
      exact w2_33 X hx hby hlk hret hZ hown hw hml N eT l0 (l0 ||| (32 : Int32))
    · rw [if_neg c26]
      refine own_by (fun _ kont => XS.icmpNo X.here hx rfl (hb hby d2_26) rfl (XT.ii_gt_f c26) kont) ?_
      show own_Go p e below _ (T.setTop (mkF m 29 #[.val (.int l0), .val (.int (l0 ||| (32 : Int32))), .unset, .unset, .unset] []))
      refine own_by (fun _ kont => XT.iconstV X.here hx rfl (1 : Int32) (hb hby d2_29) rfl kont) ?_
      show own_Go p e below _ (T.setTop (mkF m 30 #[.val (.int l0), .val (.int (l0 ||| (32 : Int32))), .unset, .unset, .unset] [(.int (1 : Int32))]))
      refine own_by (fun _ kont => XS.goto X.here hx rfl (pc0 := 30) (pc' := 34) rfl (hb hby d2_30) (by decide) (by decide) kont) ?_
      show own_Go p e below _ (T.setTop (mkF m 34 #[.val (.int l0), .val (.int (l0 ||| (32 : Int32))), .unset, .unset, .unset] [(.int (1 : Int32))]))
      exact w2_34 X hx hby hlk hret hZ hown hw hml N eT l0 (l0 ||| (32 : Int32)) (1 : Int32)
def f2_10 (l0 : Int32) : Int32 := (0 : Int32)
set_option maxRecDepth 65536 in
set_option maxHeartbeats 4000000 in
theorem w2_10 {p : Program} {l : Launch} {e : Env} {s : State} {m : MethodId} {args : Array Value} {below : List Frame} {meth : Method} {c : Code} {T : State} {locs : List Loc} {Z : State} {a0 : Array Value} {n0 : Nat} {h0 : Heap} (X : Stand p l e ({ frames := 0, cells := 0, slots := 0, locals := 0 } : Room) s m args below meth c T locs 0 0) (hx : p.tables.exec = Jvm.exec) (hby : c.code = method_3_code) (hlk : meth.locks = false) (hret : meth.sig.returnType = some .boolean) (hZ : Z.Warmed39 s.vm) (hown : s.vm.findClass "com/example/conjecta/conjecta/model/TokensIsNameCharacterPinLaw" = some m.cls) (hw : ∀ d ∈ tables_1, d.before a0 Z = true) (hml : c.maxLocals = 5) (N : Fr n0 locs) (eT : T.heap = h0) (l0 : Int32) :
    own_Go p e below (own_K s (own_Q (.int (f2_10 l0)) h0 n0) 0 0) (T.setTop (mkF m 10 #[.val (.int l0), .unset, .unset, .unset, .unset] [])) := by
  unfold f2_10
  refine own_by (fun _ kont => XT.iconstV X.here hx rfl (0 : Int32) (hb hby d2_10) rfl kont) ?_
  show own_Go p e below _ (T.setTop (mkF m 11 #[.val (.int l0), .unset, .unset, .unset, .unset] [(.int (0 : Int32))]))
  exact own_ret X hx hlk hret rfl (Or.inl ⟨rfl, by simp, _, rfl⟩) (hb hby d2_11) ⟨rfl, N, eT⟩ (Nat.le_refl _) (Nat.le_refl _)
def f2_0 (l0 : Int32) : Int32 := (if l0 < (0 : Int32) then (f2_10 l0) else (if (127 : Int32) < l0 then (f2_10 l0) else (f2_12 l0)))
set_option maxRecDepth 65536 in
set_option maxHeartbeats 4000000 in
theorem w2_0 {p : Program} {l : Launch} {e : Env} {s : State} {m : MethodId} {args : Array Value} {below : List Frame} {meth : Method} {c : Code} {T : State} {locs : List Loc} {Z : State} {a0 : Array Value} {n0 : Nat} {h0 : Heap} (X : Stand p l e ({ frames := 0, cells := 0, slots := 0, locals := 0 } : Room) s m args below meth c T locs 0 0) (hx : p.tables.exec = Jvm.exec) (hby : c.code = method_3_code) (hlk : meth.locks = false) (hret : meth.sig.returnType = some .boolean) (hZ : Z.Warmed39 s.vm) (hown : s.vm.findClass "com/example/conjecta/conjecta/model/TokensIsNameCharacterPinLaw" = some m.cls) (hw : ∀ d ∈ tables_1, d.before a0 Z = true) (hml : c.maxLocals = 5) (N : Fr n0 locs) (eT : T.heap = h0) (l0 : Int32) :
    own_Go p e below (own_K s (own_Q (.int (f2_0 l0)) h0 n0) 0 0) (T.setTop (mkF m 0 #[.val (.int l0), .unset, .unset, .unset, .unset] [])) := by
  unfold f2_0
  refine own_by (fun _ kont => XS.iloadN X.here hx rfl (hb hby d2_0) rfl kont) ?_
  show own_Go p e below _ (T.setTop (mkF m 1 #[.val (.int l0), .unset, .unset, .unset, .unset] [(.int l0)]))
  by_cases c1 : l0 < (0 : Int32)
  · rw [if_pos c1]
    refine own_by (fun _ kont => XS.ifYes X.here hx rfl (pc0 := 1) (pc' := 10) rfl (hb hby d2_1) rfl (XT.i0_lt_t c1) (by decide) (by decide) kont) ?_
    show own_Go p e below _ (T.setTop (mkF m 10 #[.val (.int l0), .unset, .unset, .unset, .unset] []))
    exact w2_10 X hx hby hlk hret hZ hown hw hml N eT l0
  · rw [if_neg c1]
    refine own_by (fun _ kont => XS.ifNo X.here hx rfl (hb hby d2_1) rfl (XT.i0_lt_f c1) kont) ?_
    show own_Go p e below _ (T.setTop (mkF m 4 #[.val (.int l0), .unset, .unset, .unset, .unset] []))
    refine own_by (fun _ kont => XS.iloadN X.here hx rfl (hb hby d2_4) rfl kont) ?_
    show own_Go p e below _ (T.setTop (mkF m 5 #[.val (.int l0), .unset, .unset, .unset, .unset] [(.int l0)]))
    refine own_by (fun _ kont => XT.bipushV X.here hx rfl (127 : Int32) (hb hby d2_5) rfl kont) ?_
    show own_Go p e below _ (T.setTop (mkF m 7 #[.val (.int l0), .unset, .unset, .unset, .unset] [(.int (127 : Int32)), (.int l0)]))
    by_cases c7 : (127 : Int32) < l0
    · rw [if_pos c7]
      refine own_by (fun _ kont => XS.icmpNo X.here hx rfl (hb hby d2_7) rfl (XT.ii_le_f c7) kont) ?_
      show own_Go p e below _ (T.setTop (mkF m 10 #[.val (.int l0), .unset, .unset, .unset, .unset] []))
      exact w2_10 X hx hby hlk hret hZ hown hw hml N eT l0
    · rw [if_neg c7]
      refine own_by (fun _ kont => XS.icmpYes X.here hx rfl (pc0 := 7) (pc' := 12) rfl (hb hby d2_7) rfl (XT.ii_le_t c7) (by decide) (by decide) kont) ?_
      show own_Go p e below _ (T.setTop (mkF m 12 #[.val (.int l0), .unset, .unset, .unset, .unset] []))
      exact w2_12 X hx hby hlk hret hZ hown hw hml N eT l0
theorem own_ef2 (m : MethodId) (l0 : Int32) : entryFrame m #[(.int l0)] 5 = (mkF m 0 #[.val (.int l0), .unset, .unset, .unset, .unset] []) := by first | (simp [entryFrame, mkF, argsToLocals, Value.category, maxLocals]; done) | rfl
set_option maxRecDepth 65536 in
set_option maxHeartbeats 4000000 in
theorem rm2 (l : Launch) (Z : State) (a0 : Array Value) (hw : ∀ d ∈ tables_1, d.before a0 Z = true) (ws : List Jvm.Cond) (l0 : Int32) (h0 : Heap) (n0 : Nat) :
    MetFree l (⟨"com/example/conjecta/conjecta/model/TokensIsNameCharacterPinLaw", "expected", "(I)Z"⟩ : MethodName) (head1 (Jvm.Cond.code (⟨"com/example/conjecta/conjecta/model/TokensIsNameCharacterPinLaw", "expected", "(I)Z"⟩ : MethodName) method_3_code 5 (some .boolean) :: ws) ({ frames := 0, cells := 0, slots := 0, locals := 0 } : Room)) (fun a U => a = #[(.int l0)] ∧ Z.Warmed39 U.vm ∧ U.heap = h0) (fun _ _ _ _ _ => True) (fun _ U o U' => ∃ v L, o = .returned v ∧ own_Q (.int (f2_0 l0)) h0 n0 v U'.heap L ∧ FrameEnd U o U' L ({ frames := 0, cells := 0, slots := 0, locals := 0 } : Room).cells ({ frames := 0, cells := 0, slots := 0, locals := 0 } : Room).slots) := by
  refine MetFree.of_bodySF (plainFor_of_name own_pn2) hisR ?_
  intro p e s m args below meth c s₁ Bd hml0 hP hK
  obtain ⟨rfl, hZ, hh⟩ := hP
  have hx := Bd.exec
  have hby := Bd.bytes
  have hml : c.maxLocals = 5 := hml0
  have hown : s.vm.findClass "com/example/conjecta/conjecta/model/TokensIsNameCharacterPinLaw" = some m.cls := findClass_of_methodNamed Bd.named
  have X0 : Stand p l e ({ frames := 0, cells := 0, slots := 0, locals := 0 } : Room) s m #[(.int l0)] below meth c s₁ [] 0 0 := Stand.of_body Bd
  have e0 : s₁.heap = h0 := by rw [← hh, Bd.state]; rfl
  have N0 := Fr.nil n0
  exact own_by (fun t k => castTop (own_ef2 m l0) k) (w2_0 X0 hx hby Bd.notSynchronized Bd.returns hZ hown hw hml N0 e0 l0)
theorem own_same (c : Int32) : f1_0 c = f2_0 c := by
  by_cases h : 0 ≤ c.toInt ∧ c.toInt < 128
  · exact own_few c 0 128 h.1 (by omega) (fun c => f1_0 c = f2_0 c) (by decide +kernel)
  simp only [f1_0, f1_12, f1_24, f1_36, f1_42, f1_46, f2_0, f2_10, Int32.lt_iff_toInt_lt, ← Int32.toInt_inj, Int32.reduceToInt]
  repeat' split
  all_goals first | rfl | (exfalso; omega)
theorem own_ef0 (m : MethodId) (i0 : Int32) (i1 : Int32) : entryFrame m #[(.int i0), (.int i1)] maxLocals = (mkF m 0 #[.val (.int i0), .val (.int i1), .unset, .unset, .unset] []) := by first | (simp [entryFrame, mkF, argsToLocals, Value.category, maxLocals]; done) | rfl
set_option maxRecDepth 65536 in
set_option maxHeartbeats 40000000 in
theorem rmL (l : Launch) (Z : State) (a0 : Array Value) (hw : ∀ d ∈ tables_1, d.before a0 Z = true) (ws : List Jvm.Cond) (i0 : Int32) (i1 : Int32) (h0 : Heap) (n0 : Nat) (Z0 : n0 ≤ h0.size) :
    MetFree l x (head1 (Jvm.Cond.code x code maxLocals ret :: ws) room_1) (fun a U => a = #[(.int i0), (.int i1)] ∧ Z.Warmed39 U.vm ∧ U.heap = h0) (fun _ _ _ _ _ => True) (fun _ U o U' => ∃ v L, o = .returned v ∧ (v = some (.int 1) ∧ Fr n0 L) ∧ FrameEnd U o U' L 0 0) := by
  refine MetFree.of_bodySF (plainFor_of_name own_pn2) hisR ?_
  intro p e s m args below meth c s₁ Bd hml0 hP hK
  obtain ⟨rfl, hZ, hh⟩ := hP
  have hx := Bd.exec
  have hby := Bd.bytes
  have hlk := Bd.notSynchronized
  have hret := Bd.returns
  have hml : c.maxLocals = 5 := hml0
  have hown : s.vm.findClass "com/example/conjecta/conjecta/model/TokensIsNameCharacterPinLaw" = some m.cls := findClass_of_methodNamed Bd.named
  have X0 : Stand p l e room_1 s m #[(.int i0), (.int i1)] below meth c s₁ [] 0 0 := Stand.of_body Bd
  have e0 : s₁.heap = h0 := by rw [← hh, Bd.state]; rfl
  have N0 := Fr.nil n0
  show own_Go p e below (own_K s (fun v h L => v = some (.int 1) ∧ Fr n0 L) 0 0) _
  refine own_by (fun t k => castTop (own_ef0 m i0 i1) k) ?_
  show own_Go p e below _ (s₁.setTop (mkF m 0 #[.val (.int i0), .val (.int i1), .unset, .unset, .unset] []))
  refine own_by (fun _ kont => XS.iloadN X0.here hx rfl (hb hby at_0) rfl kont) ?_
  show own_Go p e below _ (s₁.setTop (mkF m 1 #[.val (.int i0), .val (.int i1), .unset, .unset, .unset] [(.int i1)]))
  refine own_by (fun _ kont => XT.bipushV X0.here hx rfl (127 : Int32) (hb hby at_1) rfl kont) ?_
  show own_Go p e below _ (s₁.setTop (mkF m 3 #[.val (.int i0), .val (.int i1), .unset, .unset, .unset] [(.int (127 : Int32)), (.int i1)]))
  refine own_by (fun _ kont => XS.iand X0.here hx rfl (hb hby at_3) rfl kont) ?_
  show own_Go p e below _ (s₁.setTop (mkF m 4 #[.val (.int i0), .val (.int i1), .unset, .unset, .unset] [(.int (i1 &&& (127 : Int32)))]))
  refine own_by (fun _ kont => XS.istoreN X0.here hx rfl (hb hby at_4) rfl (l' := #[.val (.int i0), .val (.int i1), .val (.int (i1 &&& (127 : Int32))), .unset, .unset]) rfl kont) ?_
  show own_Go p e below _ (s₁.setTop (mkF m 5 #[.val (.int i0), .val (.int i1), .val (.int (i1 &&& (127 : Int32))), .unset, .unset] []))
  refine own_by (fun _ kont => XS.iloadN X0.here hx rfl (hb hby at_5) rfl kont) ?_
  show own_Go p e below _ (s₁.setTop (mkF m 6 #[.val (.int i0), .val (.int i1), .val (.int (i1 &&& (127 : Int32))), .unset, .unset] [(.int i0)]))
  obtain ⟨_, _, ⟨T101, L101, k101, n101⟩, -, X101, ⟨Lc101, hQ101, l101, y101, z101⟩, st101⟩ := Jvm.LawKit.callS X0 hx (y := (⟨"com/example/conjecta/conjecta/model/Tokens", "isNameCharacter", "(I)Z"⟩ : MethodName)) hown (mvT hZ (hw _ (List.mem_of_getElem? (i := 0) rfl))) (mvT hZ (hw _ (List.mem_of_getElem? (i := 1) rfl))) (mvT hZ (hw _ (List.mem_of_getElem? (i := 2) rfl))) (mvT hZ (hw _ (List.mem_of_getElem? (i := 3) rfl))) (by decide) (backOf (W := 0) (rm1 l Z a0 hw [] i0 h0 n0) hZ (hw _ (List.mem_of_getElem? (i := 3) rfl)) (hw _ (List.mem_of_getElem? (i := 2) rfl)) (by decide) (by decide)) (g := (mkF m 6 #[.val (.int i0), .val (.int i1), .val (.int (i1 &&& (127 : Int32))), .unset, .unset] [(.int i0)])) rfl (by rw [hml]; rfl) (argsL := [(.int i0)]) (rest := []) (lenOf own_pd1 rfl) rfl (by show 2 * 0 + _ ≤ _; exact Nat.le_of_eq rfl) (hb hby at_6) (fun _ _ => ⟨rfl, e0, (by decide : 0 + 0 ≤ _), (by decide : 0 + 0 ≤ _)⟩)
  dsimp only [Pt.U, Pt.locs, Pt.cells, Pt.slots] at X101 l101 y101 z101 st101 hQ101
  subst l101 y101 z101
  obtain ⟨rfl, N101, e101⟩ := hQ101
  have M101 := Fr.app N0 N101
  refine own_by st101 ?_
  show own_Go p e below _ (T101.setTop (mkF m 9 #[.val (.int i0), .val (.int i1), .val (.int (i1 &&& (127 : Int32))), .unset, .unset] [(.int (f1_0 i0))]))
  refine own_by (fun _ kont => XS.iloadN X101.here hx rfl (hb hby at_9) rfl kont) ?_
  show own_Go p e below _ (T101.setTop (mkF m 10 #[.val (.int i0), .val (.int i1), .val (.int (i1 &&& (127 : Int32))), .unset, .unset] [(.int i0), (.int (f1_0 i0))]))
  obtain ⟨_, _, ⟨T102, L102, k102, n102⟩, -, X102, ⟨Lc102, hQ102, l102, y102, z102⟩, st102⟩ := Jvm.LawKit.callS X101 hx (y := (⟨"com/example/conjecta/conjecta/model/TokensIsNameCharacterPinLaw", "expected", "(I)Z"⟩ : MethodName)) hown (mvT hZ (hw _ (List.mem_of_getElem? (i := 4) rfl))) (mvT hZ (hw _ (List.mem_of_getElem? (i := 5) rfl))) (mvT hZ (hw _ (List.mem_of_getElem? (i := 6) rfl))) (mvT hZ (hw _ (List.mem_of_getElem? (i := 7) rfl))) (by decide) (backOf (W := 1) (rm2 l Z a0 hw [] i0 h0 n0) hZ (hw _ (List.mem_of_getElem? (i := 7) rfl)) (hw _ (List.mem_of_getElem? (i := 6) rfl)) (by decide) (by decide)) (g := (mkF m 10 #[.val (.int i0), .val (.int i1), .val (.int (i1 &&& (127 : Int32))), .unset, .unset] [(.int i0), (.int (f1_0 i0))])) rfl (by rw [hml]; rfl) (argsL := [(.int i0)]) (rest := [(.int (f1_0 i0))]) (lenOf own_pd1 rfl) rfl (by show 2 * 0 + _ ≤ _; exact Nat.le_of_eq rfl) (hb hby at_10) (fun _ _ => ⟨rfl, e101, (by decide : 0 + 0 ≤ _), (by decide : 0 + 0 ≤ _)⟩)
  dsimp only [Pt.U, Pt.locs, Pt.cells, Pt.slots] at X102 l102 y102 z102 st102 hQ102
  subst l102 y102 z102
  obtain ⟨rfl, N102, e102⟩ := hQ102
  have M102 := Fr.app M101 N102
  refine own_by st102 ?_
  show own_Go p e below _ (T102.setTop (mkF m 13 #[.val (.int i0), .val (.int i1), .val (.int (i1 &&& (127 : Int32))), .unset, .unset] [(.int (f2_0 i0)), (.int (f1_0 i0))]))
  refine own_by (fun _ kont => XS.icmpNo X102.here hx rfl (hb hby at_13) rfl (XT.ii_ne_f (own_same _)) kont) ?_
  show own_Go p e below _ (T102.setTop (mkF m 16 #[.val (.int i0), .val (.int i1), .val (.int (i1 &&& (127 : Int32))), .unset, .unset] []))
  refine own_by (fun _ kont => XT.iconstV X102.here hx rfl (1 : Int32) (hb hby at_16) rfl kont) ?_
  show own_Go p e below _ (T102.setTop (mkF m 17 #[.val (.int i0), .val (.int i1), .val (.int (i1 &&& (127 : Int32))), .unset, .unset] [(.int (1 : Int32))]))
  refine own_by (fun _ kont => XS.goto X102.here hx rfl (pc0 := 17) (pc' := 21) rfl (hb hby at_17) (by decide) (by decide) kont) ?_
  show own_Go p e below _ (T102.setTop (mkF m 21 #[.val (.int i0), .val (.int i1), .val (.int (i1 &&& (127 : Int32))), .unset, .unset] [(.int (1 : Int32))]))
  refine own_by (fun _ kont => XS.istoreN X102.here hx rfl (hb hby at_21) rfl (l' := #[.val (.int i0), .val (.int i1), .val (.int (i1 &&& (127 : Int32))), .val (.int (1 : Int32)), .unset]) rfl kont) ?_
  show own_Go p e below _ (T102.setTop (mkF m 22 #[.val (.int i0), .val (.int i1), .val (.int (i1 &&& (127 : Int32))), .val (.int (1 : Int32)), .unset] []))
  refine own_by (fun _ kont => XS.iloadN X102.here hx rfl (hb hby at_22) rfl kont) ?_
  show own_Go p e below _ (T102.setTop (mkF m 23 #[.val (.int i0), .val (.int i1), .val (.int (i1 &&& (127 : Int32))), .val (.int (1 : Int32)), .unset] [(.int (i1 &&& (127 : Int32)))]))
  obtain ⟨_, _, ⟨T103, L103, k103, n103⟩, -, X103, ⟨Lc103, hQ103, l103, y103, z103⟩, st103⟩ := Jvm.LawKit.callS X102 hx (y := (⟨"com/example/conjecta/conjecta/model/Tokens", "isNameCharacter", "(I)Z"⟩ : MethodName)) hown (mvT hZ (hw _ (List.mem_of_getElem? (i := 0) rfl))) (mvT hZ (hw _ (List.mem_of_getElem? (i := 1) rfl))) (mvT hZ (hw _ (List.mem_of_getElem? (i := 2) rfl))) (mvT hZ (hw _ (List.mem_of_getElem? (i := 3) rfl))) (by decide) (backOf (W := 0) (rm1 l Z a0 hw [] (i1 &&& (127 : Int32)) h0 n0) hZ (hw _ (List.mem_of_getElem? (i := 3) rfl)) (hw _ (List.mem_of_getElem? (i := 2) rfl)) (by decide) (by decide)) (g := (mkF m 23 #[.val (.int i0), .val (.int i1), .val (.int (i1 &&& (127 : Int32))), .val (.int (1 : Int32)), .unset] [(.int (i1 &&& (127 : Int32)))])) rfl (by rw [hml]; rfl) (argsL := [(.int (i1 &&& (127 : Int32)))]) (rest := []) (lenOf own_pd1 rfl) rfl (by show 2 * 0 + _ ≤ _; exact Nat.le_of_eq rfl) (hb hby at_23) (fun _ _ => ⟨rfl, e102, (by decide : 0 + 0 ≤ _), (by decide : 0 + 0 ≤ _)⟩)
  dsimp only [Pt.U, Pt.locs, Pt.cells, Pt.slots] at X103 l103 y103 z103 st103 hQ103
  subst l103 y103 z103
  obtain ⟨rfl, N103, e103⟩ := hQ103
  have M103 := Fr.app M102 N103
  refine own_by st103 ?_
  show own_Go p e below _ (T103.setTop (mkF m 26 #[.val (.int i0), .val (.int i1), .val (.int (i1 &&& (127 : Int32))), .val (.int (1 : Int32)), .unset] [(.int (f1_0 (i1 &&& (127 : Int32))))]))
  refine own_by (fun _ kont => XS.iloadN X103.here hx rfl (hb hby at_26) rfl kont) ?_
  show own_Go p e below _ (T103.setTop (mkF m 27 #[.val (.int i0), .val (.int i1), .val (.int (i1 &&& (127 : Int32))), .val (.int (1 : Int32)), .unset] [(.int (i1 &&& (127 : Int32))), (.int (f1_0 (i1 &&& (127 : Int32))))]))
  obtain ⟨_, _, ⟨T104, L104, k104, n104⟩, -, X104, ⟨Lc104, hQ104, l104, y104, z104⟩, st104⟩ := Jvm.LawKit.callS X103 hx (y := (⟨"com/example/conjecta/conjecta/model/TokensIsNameCharacterPinLaw", "expected", "(I)Z"⟩ : MethodName)) hown (mvT hZ (hw _ (List.mem_of_getElem? (i := 4) rfl))) (mvT hZ (hw _ (List.mem_of_getElem? (i := 5) rfl))) (mvT hZ (hw _ (List.mem_of_getElem? (i := 6) rfl))) (mvT hZ (hw _ (List.mem_of_getElem? (i := 7) rfl))) (by decide) (backOf (W := 1) (rm2 l Z a0 hw [] (i1 &&& (127 : Int32)) h0 n0) hZ (hw _ (List.mem_of_getElem? (i := 7) rfl)) (hw _ (List.mem_of_getElem? (i := 6) rfl)) (by decide) (by decide)) (g := (mkF m 27 #[.val (.int i0), .val (.int i1), .val (.int (i1 &&& (127 : Int32))), .val (.int (1 : Int32)), .unset] [(.int (i1 &&& (127 : Int32))), (.int (f1_0 (i1 &&& (127 : Int32))))])) rfl (by rw [hml]; rfl) (argsL := [(.int (i1 &&& (127 : Int32)))]) (rest := [(.int (f1_0 (i1 &&& (127 : Int32))))]) (lenOf own_pd1 rfl) rfl (by show 2 * 0 + _ ≤ _; exact Nat.le_of_eq rfl) (hb hby at_27) (fun _ _ => ⟨rfl, e103, (by decide : 0 + 0 ≤ _), (by decide : 0 + 0 ≤ _)⟩)
  dsimp only [Pt.U, Pt.locs, Pt.cells, Pt.slots] at X104 l104 y104 z104 st104 hQ104
  subst l104 y104 z104
  obtain ⟨rfl, N104, e104⟩ := hQ104
  have M104 := Fr.app M103 N104
  refine own_by st104 ?_
  show own_Go p e below _ (T104.setTop (mkF m 30 #[.val (.int i0), .val (.int i1), .val (.int (i1 &&& (127 : Int32))), .val (.int (1 : Int32)), .unset] [(.int (f2_0 (i1 &&& (127 : Int32)))), (.int (f1_0 (i1 &&& (127 : Int32))))]))
  refine own_by (fun _ kont => XS.icmpNo X104.here hx rfl (hb hby at_30) rfl (XT.ii_ne_f (own_same _)) kont) ?_
  show own_Go p e below _ (T104.setTop (mkF m 33 #[.val (.int i0), .val (.int i1), .val (.int (i1 &&& (127 : Int32))), .val (.int (1 : Int32)), .unset] []))
  refine own_by (fun _ kont => XT.iconstV X104.here hx rfl (1 : Int32) (hb hby at_33) rfl kont) ?_
  show own_Go p e below _ (T104.setTop (mkF m 34 #[.val (.int i0), .val (.int i1), .val (.int (i1 &&& (127 : Int32))), .val (.int (1 : Int32)), .unset] [(.int (1 : Int32))]))
  refine own_by (fun _ kont => XS.goto X104.here hx rfl (pc0 := 34) (pc' := 38) rfl (hb hby at_34) (by decide) (by decide) kont) ?_
  show own_Go p e below _ (T104.setTop (mkF m 38 #[.val (.int i0), .val (.int i1), .val (.int (i1 &&& (127 : Int32))), .val (.int (1 : Int32)), .unset] [(.int (1 : Int32))]))
  refine own_by (fun _ kont => XS.istore X104.here hx rfl (hb hby at_38) rfl (l' := #[.val (.int i0), .val (.int i1), .val (.int (i1 &&& (127 : Int32))), .val (.int (1 : Int32)), .val (.int (1 : Int32))]) rfl kont) ?_
  show own_Go p e below _ (T104.setTop (mkF m 40 #[.val (.int i0), .val (.int i1), .val (.int (i1 &&& (127 : Int32))), .val (.int (1 : Int32)), .val (.int (1 : Int32))] []))
  refine own_by (fun _ kont => XS.iloadN X104.here hx rfl (hb hby at_40) rfl kont) ?_
  show own_Go p e below _ (T104.setTop (mkF m 41 #[.val (.int i0), .val (.int i1), .val (.int (i1 &&& (127 : Int32))), .val (.int (1 : Int32)), .val (.int (1 : Int32))] [(.int (1 : Int32))]))
  refine own_by (fun _ kont => XS.ifNo X104.here hx rfl (hb hby at_41) rfl (XT.i0_eq_f (by decide)) kont) ?_
  show own_Go p e below _ (T104.setTop (mkF m 44 #[.val (.int i0), .val (.int i1), .val (.int (i1 &&& (127 : Int32))), .val (.int (1 : Int32)), .val (.int (1 : Int32))] []))
  refine own_by (fun _ kont => XS.iload X104.here hx rfl (hb hby at_44) rfl kont) ?_
  show own_Go p e below _ (T104.setTop (mkF m 46 #[.val (.int i0), .val (.int i1), .val (.int (i1 &&& (127 : Int32))), .val (.int (1 : Int32)), .val (.int (1 : Int32))] [(.int (1 : Int32))]))
  refine own_by (fun _ kont => XS.ifNo X104.here hx rfl (hb hby at_46) rfl (XT.i0_eq_f (by decide)) kont) ?_
  show own_Go p e below _ (T104.setTop (mkF m 49 #[.val (.int i0), .val (.int i1), .val (.int (i1 &&& (127 : Int32))), .val (.int (1 : Int32)), .val (.int (1 : Int32))] []))
  refine own_by (fun _ kont => XT.iconstV X104.here hx rfl (1 : Int32) (hb hby at_49) rfl kont) ?_
  show own_Go p e below _ (T104.setTop (mkF m 50 #[.val (.int i0), .val (.int i1), .val (.int (i1 &&& (127 : Int32))), .val (.int (1 : Int32)), .val (.int (1 : Int32))] [(.int (1 : Int32))]))
  refine own_by (fun _ kont => XS.goto X104.here hx rfl (pc0 := 50) (pc' := 54) rfl (hb hby at_50) (by decide) (by decide) kont) ?_
  show own_Go p e below _ (T104.setTop (mkF m 54 #[.val (.int i0), .val (.int i1), .val (.int (i1 &&& (127 : Int32))), .val (.int (1 : Int32)), .val (.int (1 : Int32))] [(.int (1 : Int32))]))
  exact own_ret X104 hx hlk hret rfl (Or.inl ⟨rfl, by simp, _, rfl⟩) (hb hby at_54) ⟨rfl, M104⟩ (by decide) (by decide)
set_option maxRecDepth 65536 in
set_option maxHeartbeats 4000000 in
theorem comes_1 {Post : Tables → Env → Array Value → State → Outcome → State → Prop} (hpost : ∀ tb e args s v u, (limb_1_1.after args s (.returned v) u = true ∧ limb_1_2.after args s (.returned v) u = true ∧ True) → FrameEnd s (.returned v) u (Jvm.fieldLocs frame_1_writes args s ++ Jvm.arrayLocs frame_1_arrays args s ++ Jvm.staticLocs frame_1_statics s) 0 0 → Post tb e args s (.returned v) u) :
    ArmFor flags0 classFile x code maxLocals ret World_1 tables_1 room_1 Calls_1 rest_1 Pre_1 Post := by
  intro l hfl _ _ p e ha hc hk s m args below hf hA hF happ hP
  obtain ⟨hcalls, hrest, hpre⟩ := hP
  obtain ⟨-, -, -, hnamed, -, -, -, hat⟩ := (Spec.applies_iff hf).mp happ
  obtain ⟨hg, hn⟩ := and_e (Cond.before_iff.mp (show (Jvm.Cond.and given_1 narrow_1).before args s = true from hpre))
  obtain ⟨h1, g0⟩ := and_e hg
  obtain ⟨q0, g1⟩ := and_e g0
  obtain ⟨w0, w1, rfl⟩ : ∃ w0 w1 : Value, args = #[w0, w1] := by
    have hs : args.size = 2 := by simpa [Cond.value, given_1] using h1
    obtain ⟨L⟩ := args
    match L, hs with
    | [w0, w1], _ => exact ⟨w0, w1, rfl⟩
  have hw := fun d (hd : d ∈ tables_1) => atoms_spec (ws := Jvm.Cond.code x code maxLocals ret :: tables_1) hat d (List.mem_cons_of_mem _ hd)
  obtain ⟨i0, ei0⟩ := is_v q0
  obtain rfl : w0 = (.int i0) := Option.some.inj ei0
  obtain ⟨i1, ei1⟩ := is_v g1
  obtain rfl : w1 = (.int i1) := Option.some.inj ei1
  obtain ⟨n, o, h1, h2, h3, _, L, rfl, ⟨rfl, N⟩, hq⟩ := rmL l s _ hw tables_1 i0 i1 s.heap s.heap.size (Nat.le_refl _) p e ha hc hk s m _ below hf ((Spec.applies_iff_loose hf).mp happ).1 ⟨rfl, State.Warmed39.refl s, rfl⟩ trivial
  refine ⟨n, _, h1, h2, h3, hpost _ _ _ _ _ _ ⟨Cond.after_iff.mpr rfl, Cond.after_iff.mpr (eq_i res_at (Term.int_eval (1)) rfl), trivial⟩ ⟨hq.1, hq.2.1, (hq.2.2.sift fun y hy => Or.inr (N y hy)).mono (by decide) (by decide)⟩⟩
theorem main_1_1 : Claimed_1_1 := comes_1 fun _ _ _ _ _ _ h hF => ⟨h.1, hF⟩
theorem main_1_2 : Claimed_1_2 := comes_1 fun _ _ _ _ _ _ h hF => ⟨h.2.1, hF⟩
end Jvm.Pilot.@@N@@
namespace Jvm.Pilot.@@N@@
open Jvm Jvm.ClassFile Sem Op Lib Jvm.Free Jvm.Stand Jvm.Pilot.@@N@@.Jvm.D
/-! MADE BY PROGRAM (witnessworld.py) out of the Statement's table words and the real class files: 9 classes; the members and pool entries that the words name. The judged class is class 1, her method 1. -/
namespace start1
open Jvm.ClassFile
def u (s : String) : CpInfo := .utf8 (stringToUtf16 s)
/-- a pool by its gaps: so many unusable entries, then the entry; so many at the end -/
def gap : Nat → List CpInfo → List CpInfo
  | 0, r => r
  | n + 1, r => .unusable :: gap n r
def poolList (es : List (Nat × CpInfo)) (last : Nat) : List CpInfo := es.foldr (fun e r => gap e.1 (e.2 :: r)) (gap last [])
def pool (es : List (Nat × CpInfo)) (last : Nat) : Array CpInfo := ⟨poolList es last⟩
def fileOf (pool : Array CpInfo) (this : Nat) (attrs : Array Attribute := #[]) (ms : Array MethodInfo := #[]) (fl : Nat := 33) (sup : Nat := 0) (ifs : Array Nat := #[]) (fds : Array FieldInfo := #[]) : ClassFile where
  minorVersion := 0
  majorVersion := 65
  constantPool := pool
  accessFlags := fl
  thisClass := this
  superClass := sup
  interfaces := ifs
  fields := fds
  methods := ms
  attributes := attrs
def plain (name : String) (sup : Option ClassId) : Class where
  name := name
  kind := .ordinary
  loader := none
  accessFlags := 33
  super := sup
  interfaces := #[]
  cf := none
  fields := #[]
  methods := #[]
  instanceTypes := #[]
  staticTypes := #[]
  resolved := #[]
  callSites := []
  init := .initialized
  statics := none
  mirror := none

def pool0 : Array CpInfo := pool [(5, u "<init>"), (0, u "()V"), (1, .class_ 10), (1, u "java/lang/Object")] 113

def k0m0 : Method := { name := "<init>", desc := "()V", sig := { parameters := [], returnType := none }, accessFlags := 1, code := none }
/-- java/lang/Object -/
def k0 : Class := { plain "java/lang/Object" none with
  accessFlags := 33
  interfaces := #[]
  cf := some (fileOf pool0 8 #[] #[{ accessFlags := 1, nameIndex := 5, descriptorIndex := 6, attributes := #[] }] 33 0 #[] #[])
  fields := #[]
  methods := #[k0m0]
  instanceTypes := #[]
  staticTypes := #[]
  resolved := Array.replicate 124 none
  statics := none }

def pool1 : Array CpInfo := pool [(2, .class_ 4), (1, u "java/lang/Object"), (0, u "<init>"), (0, u "()V"), (0, .methodref 8 9), (0, .class_ 10), (0, .nameAndType 11 12), (0, u "com/example/conjecta/conjecta/model/Tokens"), (0, u "isNameCharacter"), (0, u "(I)Z"), (0, .methodref 14 15), (0, .class_ 16), (0, .nameAndType 17 12), (0, u "com/example/conjecta/conjecta/model/TokensIsNameCharacterPinLaw"), (0, u "expected"), (2, u "law"), (0, u "(II)Z")] 3

def k1m0 : Method := { name := "<init>", desc := "()V", sig := { parameters := [], returnType := none }, accessFlags := 1, code := none }
def k1c1 : Code := { maxStack := 2, maxLocals := 5, code := code, exceptionTable := #[], attributes := #[] }
def k1m1 : Method := { name := "law", desc := "(II)Z", sig := { parameters := [.int, .int], returnType := some .boolean }, accessFlags := 9, code := some k1c1 }
def k1c2 : Code := { maxStack := 2, maxLocals := 5, code := method_3_code, exceptionTable := #[], attributes := #[] }
def k1m2 : Method := { name := "expected", desc := "(I)Z", sig := { parameters := [.int], returnType := some .boolean }, accessFlags := 10, code := some k1c2 }
/-- com/example/conjecta/conjecta/model/TokensIsNameCharacterPinLaw -/
def k1 : Class := { plain "com/example/conjecta/conjecta/model/TokensIsNameCharacterPinLaw" (some 0) with
  accessFlags := 49
  interfaces := #[]
  cf := some (fileOf pool1 14 #[] #[{ accessFlags := 1, nameIndex := 5, descriptorIndex := 6, attributes := #[] }, { accessFlags := 9, nameIndex := 20, descriptorIndex := 21, attributes := #[] }, { accessFlags := 10, nameIndex := 17, descriptorIndex := 12, attributes := #[] }] 49 2 #[] #[])
  fields := #[]
  methods := #[k1m0, k1m1, k1m2]
  instanceTypes := #[]
  staticTypes := #[]
  resolved := Array.replicate 25 none
  statics := none }

def pool2 : Array CpInfo := pool [(2, .class_ 4), (1, u "java/lang/Object"), (3, .class_ 10), (1, u "com/example/conjecta/conjecta/model/Tokens"), (0, u "text"), (0, u "Lcom/example/conjecta/conjecta/model/DecodedText;"), (2, u "file"), (0, u "Ljava/lang/String;"), (2, u "lexicon"), (0, u "Lcom/example/conjecta/conjecta/model/Tokens$Lexicon;"), (2, u "token"), (2, u "line"), (0, u "I"), (2, u "column"), (0, .class_ 32), (0, u "com/example/conjecta/conjecta/model/Tokens$Position"), (12, .class_ 47), (1, u "com/example/conjecta/conjecta/model/Tokens$Lexicon"), (19, u "isNameCharacter"), (0, u "(I)Z"), (174, u "SHOWN_LENGTH")] 71

def k2c0 : Code := { maxStack := 2, maxLocals := 1, code := prog_202_method_11_code, exceptionTable := #[], attributes := #[] }
def k2m0 : Method := { name := "isNameCharacter", desc := "(I)Z", sig := { parameters := [.int], returnType := some .boolean }, accessFlags := 8, code := some k2c0 }
/-- com/example/conjecta/conjecta/model/Tokens -/
def k2 : Class := { plain "com/example/conjecta/conjecta/model/Tokens" (some 0) with
  accessFlags := 48
  interfaces := #[]
  cf := some (fileOf pool2 8 #[.nestMembers #[31, 45]] #[{ accessFlags := 8, nameIndex := 67, descriptorIndex := 68, attributes := #[] }] 48 2 #[] #[{ accessFlags := 26, nameIndex := 243, descriptorIndex := 27, attributes := #[] }, { accessFlags := 18, nameIndex := 11, descriptorIndex := 12, attributes := #[] }, { accessFlags := 18, nameIndex := 15, descriptorIndex := 16, attributes := #[] }, { accessFlags := 2, nameIndex := 19, descriptorIndex := 20, attributes := #[] }, { accessFlags := 2, nameIndex := 23, descriptorIndex := 16, attributes := #[] }, { accessFlags := 2, nameIndex := 26, descriptorIndex := 27, attributes := #[] }, { accessFlags := 2, nameIndex := 30, descriptorIndex := 27, attributes := #[] }])
  fields := #[{ name := "SHOWN_LENGTH", type := .int, accessFlags := 26, slot := 0, constantValue := 0 }, { name := "text", type := (.object "com/example/conjecta/conjecta/model/DecodedText"), accessFlags := 18, slot := 0, constantValue := 0 }, { name := "file", type := (.object "java/lang/String"), accessFlags := 18, slot := 1, constantValue := 0 }, { name := "lexicon", type := (.object "com/example/conjecta/conjecta/model/Tokens$Lexicon"), accessFlags := 2, slot := 2, constantValue := 0 }, { name := "token", type := (.object "java/lang/String"), accessFlags := 2, slot := 3, constantValue := 0 }, { name := "line", type := .int, accessFlags := 2, slot := 4, constantValue := 0 }, { name := "column", type := .int, accessFlags := 2, slot := 5, constantValue := 0 }]
  methods := #[k2m0]
  instanceTypes := #[(.object "com/example/conjecta/conjecta/model/DecodedText"), (.object "java/lang/String"), (.object "com/example/conjecta/conjecta/model/Tokens$Lexicon"), (.object "java/lang/String"), .int, .int]
  staticTypes := #[.int]
  resolved := Array.replicate 315 none
  statics := none }

def pool3 : Array CpInfo := pool [(1, u "java/lang/Cloneable"), (0, .class_ 1), (0, u "java/lang/Object"), (0, .class_ 3)] 3

/-- java/lang/Cloneable -/
def k3 : Class := { plain "java/lang/Cloneable" (some 0) with
  accessFlags := 1537
  interfaces := #[]
  cf := some (fileOf pool3 2 #[] #[] 1537 4 #[] #[])
  fields := #[]
  methods := #[]
  instanceTypes := #[]
  staticTypes := #[]
  resolved := Array.replicate 8 none
  statics := none }

def pool4 : Array CpInfo := pool [(1, u "java/io/Serializable"), (0, .class_ 1), (0, u "java/lang/Object"), (0, .class_ 3)] 3

/-- java/io/Serializable -/
def k4 : Class := { plain "java/io/Serializable" (some 0) with
  accessFlags := 1537
  interfaces := #[]
  cf := some (fileOf pool4 2 #[] #[] 1537 4 #[] #[])
  fields := #[]
  methods := #[]
  instanceTypes := #[]
  staticTypes := #[]
  resolved := Array.replicate 8 none
  statics := none }

/-- the primitive byte -/
def k5 : Class := { plain "byte" none with kind := .primitive 'B', accessFlags := 0x411 }
/-- [B -/
def k6 : Class := { plain "[B" (some 0) with kind := .array 5 .byte, interfaces := #[3, 4], accessFlags := 1041 }

/-- the primitive int -/
def k7 : Class := { plain "int" none with kind := .primitive 'I', accessFlags := 0x411 }
/-- [I -/
def k8 : Class := { plain "[I" (some 0) with kind := .array 7 .int, interfaces := #[3, 4], accessFlags := 1041 }

def heap : Heap := #[]
def classes : Array Class := #[k0, k1, k2, k3, k4, k5, k6, k7, k8]
def interned : List (Array UInt16 × Addr) := []
def slotsUsed : Nat := 0
def theMethod : MethodId := ⟨1, 1⟩
def args0 : Array Value := #[.int 5, .int 6]
def aboutOver (below : List Frame) : State where
  vm := { classes := classes, interned := interned.toArray }
  heap := heap
  slotsUsed := slotsUsed
  threads := #[{ frames := .invoking theMethod args0 :: below }]
def below0 : List Frame := [.native { method := ⟨0, 0⟩, args := #[] }]
def about1 : State := aboutOver below0
def p0 : Program := .bare "" "" ""
def e0 : Env := launch0.env 0 0 0
theorem w_frames : about1.frames = Frame.invoking theMethod args0 :: below0 := rfl
set_option maxRecDepth 65536 in
theorem w_args : argsFit about1.vm theMethod args0 = true := by decide +kernel
set_option maxRecDepth 65536 in
theorem w_heap : heapFits about1 = true := by decide +kernel
set_option maxRecDepth 65536 in
theorem w_runnable : about1.curStatus? = some .runnable := by decide +kernel
set_option maxRecDepth 65536 in
theorem w_alone : about1.alone = true := by decide +kernel
set_option maxRecDepth 65536 in
theorem w_named : about1.methodNamed? x = some theMethod := by decide +kernel
set_option maxRecDepth 65536 in
theorem w_hears : about1.hears theMethod below0 = true := by decide +kernel
set_option maxRecDepth 65536 in
theorem w_ripe : about1.ripe theMethod args0 below0 = true := by decide +kernel
theorem w_running : about1.status = .running := rfl
set_option maxRecDepth 65536 in
theorem w_room : about1.hasRoom e0.platform room_1 = true :=
  launch0.hasRoom_least _ room_1 (by decide +kernel) (by decide +kernel) (by decide +kernel) (by decide +kernel) (by decide +kernel) (by decide +kernel)
theorem allAtoms_all (ts : List Jvm.Cond) (a : Array Jvm.Value) (st : Jvm.State) : (allAtoms ts).before a st = ts.all (fun c => c.before a st) := by
  induction ts with
  | nil => rfl
  | cons c t ih =>
    show (Jvm.Cond.and c (allAtoms t)).before a st = _
    rw [Jvm.Cond.before_and, ih, List.all_cons]
def words1 : List Jvm.Cond := Jvm.Cond.code x code maxLocals ret :: tables_1
/-- a 'code' word, met by the world's own term for the bytes: nothing is compared byte by byte -/
theorem code_word {y : MethodName} {bytes : ByteArray} {mx : Nat} {rt : Option FieldType} {a : Array Value} {s : State} {m : MethodId} {meth : Method} {c : Code} (h1 : s.methodNamed? y = some m) (h2 : s.vm.method? m = some meth) (h3 : meth.code = some c) (h4 : c.code = bytes)
    (h5 : (c.maxLocals == mx && c.exceptionTable.isEmpty && decide (c.maxStack ≤ mostOperands) && decide (meth.sig.returnType = rt) && !meth.locks && decide (parseMethodDescriptor y.desc = some meth.sig)) = true) : (Jvm.Cond.code y bytes mx rt).before a s = true := by
  simp only [Bool.and_eq_true, beq_iff_eq, Bool.not_eq_true', decide_eq_true_eq] at h5
  obtain ⟨⟨⟨⟨⟨g1, g2⟩, g3⟩, g4⟩, g5⟩, g6⟩ := h5
  simp [Cond.before, Cond.holds, Cond.value, h1, h2, h3, h4, g1, g2, g3, g4, g5, g6]
def isCode : Jvm.Cond → Bool
  | .code _ _ _ _ => true
  | _ => false
theorem all_split {L : List Jvm.Cond} {P : Jvm.Cond → Bool} (h1 : L.all (fun c => isCode c || P c) = true) (h2 : ∀ c ∈ L.filter isCode, P c = true) : L.all P = true := by
  refine List.all_eq_true.mpr fun c hc => ?_
  have h := List.all_eq_true.mp h1 c hc
  rcases Bool.eq_false_or_eq_true (isCode c) with hi | hi
  · exact h2 c (List.mem_filter.mpr ⟨hc, hi⟩)
  · simpa [hi] using h
set_option maxRecDepth 65536 in
theorem w_c0 : (Jvm.Cond.code x code maxLocals ret).before args0 about1 = true := code_word (m := ⟨1, 1⟩) (meth := k1m1) (c := k1c1) (by decide +kernel) rfl rfl rfl (by decide +kernel)
set_option maxRecDepth 65536 in
theorem w_c1 : (Jvm.Cond.code ({ cls := "com/example/conjecta/conjecta/model/Tokens", name := "isNameCharacter", desc := "(I)Z" } : Jvm.MethodName) prog_202_method_11_code (1 : Nat) (Option.some Jvm.ClassFile.FieldType.boolean)).before args0 about1 = true := code_word (m := ⟨2, 0⟩) (meth := k2m0) (c := k2c0) (by decide +kernel) rfl rfl rfl (by decide +kernel)
set_option maxRecDepth 65536 in
theorem w_c2 : (Jvm.Cond.code ({ cls := "com/example/conjecta/conjecta/model/TokensIsNameCharacterPinLaw", name := "expected", desc := "(I)Z" } : Jvm.MethodName) method_3_code (5 : Nat) (Option.some Jvm.ClassFile.FieldType.boolean)).before args0 about1 = true := code_word (m := ⟨1, 2⟩) (meth := k1m2) (c := k1c2) (by decide +kernel) rfl rfl rfl (by decide +kernel)
def codes1 : List Jvm.Cond := [Jvm.Cond.code x code maxLocals ret, Jvm.Cond.code ({ cls := "com/example/conjecta/conjecta/model/Tokens", name := "isNameCharacter", desc := "(I)Z" } : Jvm.MethodName) prog_202_method_11_code (1 : Nat) (Option.some Jvm.ClassFile.FieldType.boolean), Jvm.Cond.code ({ cls := "com/example/conjecta/conjecta/model/TokensIsNameCharacterPinLaw", name := "expected", desc := "(I)Z" } : Jvm.MethodName) method_3_code (5 : Nat) (Option.some Jvm.ClassFile.FieldType.boolean)]
set_option maxRecDepth 65536 in
theorem codes_eq : words1.filter isCode = codes1 := rfl
theorem w_codes : ∀ c ∈ words1.filter isCode, c.before args0 about1 = true := by
  rw [codes_eq]
  intro c hc
  simp only [codes1, List.mem_cons, List.not_mem_nil, or_false] at hc
  rcases hc with rfl | rfl | rfl
  · exact w_c0
  · exact w_c1
  · exact w_c2
set_option maxRecDepth 65536 in
theorem w_t1 : words1.all (fun c => isCode c || c.before args0 about1) = true := by decide +kernel
theorem w_tables : (allAtoms (Jvm.Cond.code x code maxLocals ret :: tables_1)).before args0 about1 = true := by
  rw [allAtoms_all]
  show words1.all (fun c => c.before args0 about1) = true
  refine all_split ?_ w_codes
  rw [w_t1]
set_option maxRecDepth 65536 in
theorem w_case : (Jvm.Cond.and given_1 narrow_1).before args0 about1 = true := by decide +kernel
theorem w_applies : (headSpec (Jvm.Cond.code x code maxLocals ret :: tables_1) room_1).applies x e0.platform about1 = true :=
  (Spec.applies_iff w_frames).mpr ⟨w_running, w_runnable, w_alone, w_named, w_hears, w_ripe, w_room, w_tables⟩
theorem atStart : AtStart classFile x code maxLocals ret World_1 tables_1 room_1 Calls_1 rest_1 Pre_1 launch0 p0 e0 about1 theMethod args0 below0 :=
  ⟨lists_1, trivial, launch0.admits_env _ _ _, launch0.least_env, fairChoices_fair.cas, fairChoices_fair.clock, w_frames, w_args, w_heap, w_applies, trivial, trivial, w_case⟩
end start1
theorem witness_1 : WitnessClaimed_1 := ⟨start1.p0, start1.e0, start1.about1, start1.theMethod, start1.args0, start1.below0, start1.atStart⟩
end Jvm.Pilot.@@N@@
