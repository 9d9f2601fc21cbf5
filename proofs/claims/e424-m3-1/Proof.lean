import JvmDerived
import JvmDerived.Pilot.@@N@@Statement
import JvmDerived.Pilot.@@N@@Code
set_option linter.unusedVariables false
set_option linter.unusedSimpArgs false
namespace Jvm.Pilot.@@N@@
open Jvm Jvm.ClassFile Sem Op Lib Jvm.Free Jvm.Stand Jvm.LawKit Jvm.RoadKit Bundle Jvm.Pilot.@@N@@.Jvm.D
/-- what the end of a body says -/
def own_K (s : State) (Q : Option Value → Heap → List Loc → Prop) (C S : Nat) (o : Outcome) (U : State) : Prop := ∃ v L, o = .returned v ∧ Q v U.heap L ∧ FrameEnd s o U L C S
/-- the run goes from S to a return of which K is true -/
def own_Go (p : Program) (e : Env) (below : List Frame) (K : Outcome → State → Prop) (S : State) : Prop := ∃ s₂ o, Steps p.tables e below S s₂ ∧ s₂.status = .running ∧ Ended s₂ below o ∧ K o s₂
/-- the answer of a body that leaves the heap alone -/
def own_Q (val : Value) (h0 : Heap) (n0 : Nat) (v : Option Value) (h : Heap) (L : List Loc) : Prop := v = some val ∧ Fr n0 L ∧ h = h0
section Own
variable {p : Program} {l : Launch} {e : Env} {R : Room} {s : State} {m : MethodId} {args : Array Value} {below : List Frame} {meth : Method} {c : Code} {T : State} {locs : List Loc} {cells slots : Nat} {K : Outcome → State → Prop} {Q : Option Value → Heap → List Loc → Prop} {C S : Nat}
theorem own_by {S S' : State} (h : ∀ t, Steps p.tables e below S' t → Steps p.tables e below S t) (g : own_Go p e below K S') : own_Go p e below K S := by
  obtain ⟨u, o, st, r⟩ := g
  exact ⟨u, o, h u st, r⟩
theorem own_tr {S S' : State} (h : Steps p.tables e below S S') (g : own_Go p e below K S') : own_Go p e below K S := own_by (fun _ k => h.trans k) g
/-- return of a value that is of its kind -/
theorem own_ret (X : Stand p l e R s m args below meth c T locs cells slots) (hx : p.tables.exec = Jvm.exec) (hlk : meth.locks = false) {pc : Nat} {Ls : Array Slot} {w : Value} {t : FieldType} {i : Instr} {rest : List Value} (hret : meth.sig.returnType = some t) (hn : narrow t w = w)
    (hi : (i = .ireturn ∧ (t = .int ∨ t = .boolean ∨ t = .byte ∨ t = .char ∨ t = .short) ∧ ∃ z, w = .int z) ∨ (i = .lreturn ∧ t = .long ∧ ∃ z, w = .long z) ∨ (i = .dreturn ∧ t = .double ∧ ∃ z, w = .double z) ∨ (i = .freturn ∧ t = .float ∧ ∃ z, w = .float z) ∨ (i = .areturn ∧ t.isReference = true ∧ w.isRef = true))
    (hd : decode c.code pc = .ok (i, 1)) (hQ : Q (some w) T.heap locs) (hc : cells ≤ C) (hs : slots ≤ S) : own_Go p e below (own_K s Q C S) (T.setTop (mkF m pc Ls (w :: rest))) := by
  obtain ⟨fs, hr, hrun, hended, hW, hsame⟩ := X.leave (v := some w) (fun h => by rw [hret] at h; cases h) hlk
  exact ⟨_, _, retOut X hx hret hn hi hd hr, hrun, hended, _, _, rfl, hQ, ⟨_, rfl⟩, hW, hsame.mono hc hs⟩
/-- return of a boolean, byte, char or short, narrowed -/
theorem own_retN (X : Stand p l e R s m args below meth c T locs cells slots) (hx : p.tables.exec = Jvm.exec) (hlk : meth.locks = false) {pc : Nat} {Ls : Array Slot} {z : Int32} {t : FieldType} {rest : List Value} (hret : meth.sig.returnType = some t) (ht : t = .boolean ∨ t = .byte ∨ t = .char ∨ t = .short)
    (hd : decode c.code pc = .ok (.ireturn, 1)) (hQ : Q (some (.int (nar t z))) T.heap locs) (hc : cells ≤ C) (hs : slots ≤ S) : own_Go p e below (own_K s Q C S) (T.setTop (mkF m pc Ls (.int z :: rest))) := by
  obtain ⟨fs, hr, hrun, hended, hW, hsame⟩ := X.leave (v := some (.int (nar t z))) (fun h => by rw [hret] at h; cases h) hlk
  exact ⟨_, _, retN X hx hret ht hd hr, hrun, hended, _, _, rfl, hQ, ⟨_, rfl⟩, hW, hsame.mono hc hs⟩
/-- return of nothing -/
theorem own_retV (X : Stand p l e R s m args below meth c T locs cells slots) (hx : p.tables.exec = Jvm.exec) (hlk : meth.locks = false) {pc : Nat} {Ls : Array Slot} (hret : meth.sig.returnType = none)
    (hd : decode c.code pc = .ok (.return_, 1)) (hQ : Q none T.heap locs) (hc : cells ≤ C) (hs : slots ≤ S) : own_Go p e below (own_K s Q C S) (T.setTop (mkF m pc Ls [])) := by
  obtain ⟨fs, hr, hrun, hended, hW, hsame⟩ := X.leave (v := none) (fun _ => rfl) hlk
  exact ⟨_, _, X.returnOut hx hret hd hr, hrun, hended, _, _, rfl, hQ, ⟨_, rfl⟩, hW, hsame.mono hc hs⟩
end Own
theorem own_pn0 : plainName "com/example/templates_on_trees/templatesontrees/json/JsonEscapes" = true := by first | (simp [plainName, overriddenIn]; done) | decide +kernel
theorem own_pd1 : parseMethodDescriptor "(C)I" = some ⟨[.char], some .int⟩ := by decide +kernel
theorem d1_0 : decode prog_20_method_4_code 0 = .ok (.iload_n 0, 1) := by decide +kernel
theorem d1_1 : decode prog_20_method_4_code 1 = .ok (.bipush 48, 2) := by decide +kernel
theorem d1_3 : decode prog_20_method_4_code 3 = .ok (.if_icmp .lt 14, 3) := by decide +kernel
theorem d1_6 : decode prog_20_method_4_code 6 = .ok (.iload_n 0, 1) := by decide +kernel
theorem d1_7 : decode prog_20_method_4_code 7 = .ok (.bipush 57, 2) := by decide +kernel
theorem d1_9 : decode prog_20_method_4_code 9 = .ok (.if_icmp .gt 8, 3) := by decide +kernel
theorem d1_12 : decode prog_20_method_4_code 12 = .ok (.iload_n 0, 1) := by decide +kernel
theorem d1_13 : decode prog_20_method_4_code 13 = .ok (.bipush 48, 2) := by decide +kernel
theorem d1_15 : decode prog_20_method_4_code 15 = .ok (.isub, 1) := by decide +kernel
theorem d1_16 : decode prog_20_method_4_code 16 = .ok (.ireturn, 1) := by decide +kernel
theorem d1_17 : decode prog_20_method_4_code 17 = .ok (.iload_n 0, 1) := by decide +kernel
theorem d1_18 : decode prog_20_method_4_code 18 = .ok (.bipush 97, 2) := by decide +kernel
theorem d1_20 : decode prog_20_method_4_code 20 = .ok (.if_icmp .lt 17, 3) := by decide +kernel
theorem d1_23 : decode prog_20_method_4_code 23 = .ok (.iload_n 0, 1) := by decide +kernel
theorem d1_24 : decode prog_20_method_4_code 24 = .ok (.bipush 102, 2) := by decide +kernel
theorem d1_26 : decode prog_20_method_4_code 26 = .ok (.if_icmp .gt 11, 3) := by decide +kernel
theorem d1_29 : decode prog_20_method_4_code 29 = .ok (.iload_n 0, 1) := by decide +kernel
theorem d1_30 : decode prog_20_method_4_code 30 = .ok (.bipush 97, 2) := by decide +kernel
theorem d1_32 : decode prog_20_method_4_code 32 = .ok (.isub, 1) := by decide +kernel
theorem d1_33 : decode prog_20_method_4_code 33 = .ok (.bipush 10, 2) := by decide +kernel
theorem d1_35 : decode prog_20_method_4_code 35 = .ok (.iadd, 1) := by decide +kernel
theorem d1_36 : decode prog_20_method_4_code 36 = .ok (.ireturn, 1) := by decide +kernel
theorem d1_37 : decode prog_20_method_4_code 37 = .ok (.iload_n 0, 1) := by decide +kernel
theorem d1_38 : decode prog_20_method_4_code 38 = .ok (.bipush 65, 2) := by decide +kernel
theorem d1_40 : decode prog_20_method_4_code 40 = .ok (.if_icmp .lt 17, 3) := by decide +kernel
theorem d1_43 : decode prog_20_method_4_code 43 = .ok (.iload_n 0, 1) := by decide +kernel
theorem d1_44 : decode prog_20_method_4_code 44 = .ok (.bipush 70, 2) := by decide +kernel
theorem d1_46 : decode prog_20_method_4_code 46 = .ok (.if_icmp .gt 11, 3) := by decide +kernel
theorem d1_49 : decode prog_20_method_4_code 49 = .ok (.iload_n 0, 1) := by decide +kernel
theorem d1_50 : decode prog_20_method_4_code 50 = .ok (.bipush 65, 2) := by decide +kernel
theorem d1_52 : decode prog_20_method_4_code 52 = .ok (.isub, 1) := by decide +kernel
theorem d1_53 : decode prog_20_method_4_code 53 = .ok (.bipush 10, 2) := by decide +kernel
theorem d1_55 : decode prog_20_method_4_code 55 = .ok (.iadd, 1) := by decide +kernel
theorem d1_56 : decode prog_20_method_4_code 56 = .ok (.ireturn, 1) := by decide +kernel
theorem d1_57 : decode prog_20_method_4_code 57 = .ok (.iconst (-1), 1) := by decide +kernel
theorem d1_58 : decode prog_20_method_4_code 58 = .ok (.ireturn, 1) := by decide +kernel
def f1_57 (l0 : Int32) : Int32 := (-1 : Int32)
set_option maxRecDepth 65536 in
set_option maxHeartbeats 4000000 in
theorem w1_57 {p : Program} {l : Launch} {e : Env} {s : State} {m : MethodId} {args : Array Value} {below : List Frame} {meth : Method} {c : Code} {T : State} {locs : List Loc} {Z : State} {a0 : Array Value} {n0 : Nat} {h0 : Heap} (X : Stand p l e ({ frames := 0, cells := 0, slots := 0, locals := 0 } : Room) s m args below meth c T locs 0 0) (hx : p.tables.exec = Jvm.exec) (hby : c.code = prog_20_method_4_code) (hlk : meth.locks = false) (hret : meth.sig.returnType = some .int) (hZ : Z.Warmed39 s.vm) (hown : s.vm.findClass "com/example/templates_on_trees/templatesontrees/json/JsonEscapes" = some m.cls) (hw : ∀ d ∈ tables_1, d.before a0 Z = true) (hml : c.maxLocals = 1) (N : Fr n0 locs) (eT : T.heap = h0) (l0 : Int32) :
    own_Go p e below (own_K s (own_Q (.int (f1_57 l0)) h0 n0) 0 0) (T.setTop (mkF m 57 #[.val (.int l0)] [])) := by
  unfold f1_57
  refine own_by (fun _ kont => XT.iconstV X.here hx rfl (-1 : Int32) (hb hby d1_57) rfl kont) ?_
  show own_Go p e below _ (T.setTop (mkF m 58 #[.val (.int l0)] [(.int (-1 : Int32))]))
  exact own_ret X hx hlk hret rfl (Or.inl ⟨rfl, by simp, _, rfl⟩) (hb hby d1_58) ⟨rfl, N, eT⟩ (Nat.le_refl _) (Nat.le_refl _)
def f1_37 (l0 : Int32) : Int32 := (if l0 < (65 : Int32) then (f1_57 l0) else (if (70 : Int32) < l0 then (f1_57 l0) else ((l0 - (65 : Int32)) + (10 : Int32))))
set_option maxRecDepth 65536 in
set_option maxHeartbeats 4000000 in
theorem w1_37 {p : Program} {l : Launch} {e : Env} {s : State} {m : MethodId} {args : Array Value} {below : List Frame} {meth : Method} {c : Code} {T : State} {locs : List Loc} {Z : State} {a0 : Array Value} {n0 : Nat} {h0 : Heap} (X : Stand p l e ({ frames := 0, cells := 0, slots := 0, locals := 0 } : Room) s m args below meth c T locs 0 0) (hx : p.tables.exec = Jvm.exec) (hby : c.code = prog_20_method_4_code) (hlk : meth.locks = false) (hret : meth.sig.returnType = some .int) (hZ : Z.Warmed39 s.vm) (hown : s.vm.findClass "com/example/templates_on_trees/templatesontrees/json/JsonEscapes" = some m.cls) (hw : ∀ d ∈ tables_1, d.before a0 Z = true) (hml : c.maxLocals = 1) (N : Fr n0 locs) (eT : T.heap = h0) (l0 : Int32) :
    own_Go p e below (own_K s (own_Q (.int (f1_37 l0)) h0 n0) 0 0) (T.setTop (mkF m 37 #[.val (.int l0)] [])) := by
  unfold f1_37
  refine own_by (fun _ kont => XS.iloadN X.here hx rfl (hb hby d1_37) rfl kont) ?_
  show own_Go p e below _ (T.setTop (mkF m 38 #[.val (.int l0)] [(.int l0)]))
  refine own_by (fun _ kont => XT.bipushV X.here hx rfl (65 : Int32) (hb hby d1_38) rfl kont) ?_
  show own_Go p e below _ (T.setTop (mkF m 40 #[.val (.int l0)] [(.int (65 : Int32)), (.int l0)]))
  by_cases c40 : l0 < (65 : Int32)
  · rw [if_pos c40]
    refine own_by (fun _ kont => XS.icmpYes X.here hx rfl (pc0 := 40) (pc' := 57) rfl (hb hby d1_40) rfl (XT.ii_lt_t c40) (by decide) (by decide) kont) ?_
    show own_Go p e below _ (T.setTop (mkF m 57 #[.val (.int l0)] []))
    exact w1_57 X hx hby hlk hret hZ hown hw hml N eT l0
  · rw [if_neg c40]
    refine own_by (fun _ kont => XS.icmpNo X.here hx rfl (hb hby d1_40) rfl (XT.ii_lt_f c40) kont) ?_
    show own_Go p e below _ (T.setTop (mkF m 43 #[.val (.int l0)] []))
    refine own_by (fun _ kont => XS.iloadN X.here hx rfl (hb hby d1_43) rfl kont) ?_
    show own_Go p e below _ (T.setTop (mkF m 44 #[.val (.int l0)] [(.int l0)]))
    refine own_by (fun _ kont => XT.bipushV X.here hx rfl (70 : Int32) (hb hby d1_44) rfl kont) ?_
    show own_Go p e below _ (T.setTop (mkF m 46 #[.val (.int l0)] [(.int (70 : Int32)), (.int l0)]))
    by_cases c46 : (70 : Int32) < l0
    · rw [if_pos c46]
      refine own_by (fun _ kont => XS.icmpYes X.here hx rfl (pc0 := 46) (pc' := 57) rfl (hb hby d1_46) rfl (XT.ii_gt_t c46) (by decide) (by decide) kont) ?_
      show own_Go p e below _ (T.setTop (mkF m 57 #[.val (.int l0)] []))
      exact w1_57 X hx hby hlk hret hZ hown hw hml N eT l0
    · rw [if_neg c46]
      refine own_by (fun _ kont => XS.icmpNo X.here hx rfl (hb hby d1_46) rfl (XT.ii_gt_f c46) kont) ?_
      show own_Go p e below _ (T.setTop (mkF m 49 #[.val (.int l0)] []))
      refine own_by (fun _ kont => XS.iloadN X.here hx rfl (hb hby d1_49) rfl kont) ?_
      show own_Go p e below _ (T.setTop (mkF m 50 #[.val (.int l0)] [(.int l0)]))
      refine own_by (fun _ kont => XT.bipushV X.here hx rfl (65 : Int32) (hb hby d1_50) rfl kont) ?_
      show own_Go p e below _ (T.setTop (mkF m 52 #[.val (.int l0)] [(.int (65 : Int32)), (.int l0)]))
      refine own_by (fun _ kont => XS.isub X.here hx rfl (hb hby d1_52) rfl kont) ?_
      show own_Go p e below _ (T.setTop (mkF m 53 #[.val (.int l0)] [(.int (l0 - (65 : Int32)))]))
      refine own_by (fun _ kont => XT.bipushV X.here hx rfl (10 : Int32) (hb hby d1_53) rfl kont) ?_
      show own_Go p e below _ (T.setTop (mkF m 55 #[.val (.int l0)] [(.int (10 : Int32)), (.int (l0 - (65 : Int32)))]))
      refine own_by (fun _ kont => XS.iadd X.here hx rfl (hb hby d1_55) rfl kont) ?_
      show own_Go p e below _ (T.setTop (mkF m 56 #[.val (.int l0)] [(.int ((l0 - (65 : Int32)) + (10 : Int32)))]))
      exact own_ret X hx hlk hret rfl (Or.inl ⟨rfl, by simp, _, rfl⟩) (hb hby d1_56) ⟨rfl, N, eT⟩ (Nat.le_refl _) (Nat.le_refl _)
def f1_17 (l0 : Int32) : Int32 := (if l0 < (97 : Int32) then (f1_37 l0) else (if (102 : Int32) < l0 then (f1_37 l0) else ((l0 - (97 : Int32)) + (10 : Int32))))
set_option maxRecDepth 65536 in
set_option maxHeartbeats 4000000 in
theorem w1_17 {p : Program} {l : Launch} {e : Env} {s : State} {m : MethodId} {args : Array Value} {below : List Frame} {meth : Method} {c : Code} {T : State} {locs : List Loc} {Z : State} {a0 : Array Value} {n0 : Nat} {h0 : Heap} (X : Stand p l e ({ frames := 0, cells := 0, slots := 0, locals := 0 } : Room) s m args below meth c T locs 0 0) (hx : p.tables.exec = Jvm.exec) (hby : c.code = prog_20_method_4_code) (hlk : meth.locks = false) (hret : meth.sig.returnType = some .int) (hZ : Z.Warmed39 s.vm) (hown : s.vm.findClass "com/example/templates_on_trees/templatesontrees/json/JsonEscapes" = some m.cls) (hw : ∀ d ∈ tables_1, d.before a0 Z = true) (hml : c.maxLocals = 1) (N : Fr n0 locs) (eT : T.heap = h0) (l0 : Int32) :
    own_Go p e below (own_K s (own_Q (.int (f1_17 l0)) h0 n0) 0 0) (T.setTop (mkF m 17 #[.val (.int l0)] [])) := by
  unfold f1_17
  refine own_by (fun _ kont => XS.iloadN X.here hx rfl (hb hby d1_17) rfl kont) ?_
  show own_Go p e below _ (T.setTop (mkF m 18 #[.val (.int l0)] [(.int l0)]))
  refine own_by (fun _ kont => XT.bipushV X.here hx rfl (97 : Int32) (hb hby d1_18) rfl kont) ?_
  show own_Go p e below _ (T.setTop (mkF m 20 #[.val (.int l0)] [(.int (97 : Int32)), (.int l0)]))
  by_cases c20 : l0 < (97 : Int32)
  · rw [if_pos c20]
    refine own_by (fun _ kont => XS.icmpYes X.here hx rfl (pc0 := 20) (pc' := 37) rfl (hb hby d1_20) rfl (XT.ii_lt_t c20) (by decide) (by decide) kont) ?_
    show own_Go p e below _ (T.setTop (mkF m 37 #[.val (.int l0)] []))
    exact w1_37 X hx hby hlk hret hZ hown hw hml N eT l0
  · rw [if_neg c20]
    refine own_by (fun _ kont => XS.icmpNo X.here hx rfl (hb hby d1_20) rfl (XT.ii_lt_f c20) kont) ?_
    show own_Go p e below _ (T.setTop (mkF m 23 #[.val (.int l0)] []))
    refine own_by (fun _ kont => XS.iloadN X.here hx rfl (hb hby d1_23) rfl kont) ?_
    show own_Go p e below _ (T.setTop (mkF m 24 #[.val (.int l0)] [(.int l0)]))
    refine own_by (fun _ kont => XT.bipushV X.here hx rfl (102 : Int32) (hb hby d1_24) rfl kont) ?_
    show own_Go p e below _ (T.setTop (mkF m 26 #[.val (.int l0)] [(.int (102 : Int32)), (.int l0)]))
    by_cases c26 : (102 : Int32) < l0
    · rw [if_pos c26]
      refine own_by (fun _ kont => XS.icmpYes X.here hx rfl (pc0 := 26) (pc' := 37) rfl (hb hby d1_26) rfl (XT.ii_gt_t c26) (by decide) (by decide) kont) ?_
      show own_Go p e below _ (T.setTop (mkF m 37 #[.val (.int l0)] []))
      exact w1_37 X hx hby hlk hret hZ hown hw hml N eT l0
    · rw [if_neg c26]
      refine own_by (fun _ kont => XS.icmpNo X.here hx rfl (hb hby d1_26) rfl (XT.ii_gt_f c26) kont) ?_
      show own_Go p e below _ (T.setTop (mkF m 29 #[.val (.int l0)] []))
      refine own_by (fun _ kont => XS.iloadN X.here hx rfl (hb hby d1_29) rfl kont) ?_
      show own_Go p e below _ (T.setTop (mkF m 30 #[.val (.int l0)] [(.int l0)]))
      refine own_by (fun _ kont => XT.bipushV X.here hx rfl (97 : Int32) (hb hby d1_30) rfl kont) ?_
      show own_Go p e below _ (T.setTop (mkF m 32 #[.val (.int l0)] [(.int (97 : Int32)), (.int l0)]))
      refine own_by (fun _ kont => XS.isub X.here hx rfl (hb hby d1_32) rfl kont) ?_
      show own_Go p e below _ (T.setTop (mkF m 33 #[.val (.int l0)] [(.int (l0 - (97 : Int32)))]))
      refine own_by (fun _ kont => XT.bipushV X.here hx rfl (10 : Int32) (hb hby d1_33) rfl kont) ?_
      show own_Go p e below _ (T.setTop (mkF m 35 #[.val (.int l0)] [(.int (10 : Int32)), (.int (l0 - (97 : Int32)))]))
      refine own_by (fun _ kont => XS.iadd X.here hx rfl (hb hby d1_35) rfl kont) ?_
      show own_Go p e below _ (T.setTop (mkF m 36 #[.val (.int l0)] [(.int ((l0 - (97 : Int32)) + (10 : Int32)))]))
      exact own_ret X hx hlk hret rfl (Or.inl ⟨rfl, by simp, _, rfl⟩) (hb hby d1_36) ⟨rfl, N, eT⟩ (Nat.le_refl _) (Nat.le_refl _)
def f1_0 (l0 : Int32) : Int32 := (if l0 < (48 : Int32) then (f1_17 l0) else (if (57 : Int32) < l0 then (f1_17 l0) else (l0 - (48 : Int32))))
set_option maxRecDepth 65536 in
set_option maxHeartbeats 4000000 in
theorem w1_0 {p : Program} {l : Launch} {e : Env} {s : State} {m : MethodId} {args : Array Value} {below : List Frame} {meth : Method} {c : Code} {T : State} {locs : List Loc} {Z : State} {a0 : Array Value} {n0 : Nat} {h0 : Heap} (X : Stand p l e ({ frames := 0, cells := 0, slots := 0, locals := 0 } : Room) s m args below meth c T locs 0 0) (hx : p.tables.exec = Jvm.exec) (hby : c.code = prog_20_method_4_code) (hlk : meth.locks = false) (hret : meth.sig.returnType = some .int) (hZ : Z.Warmed39 s.vm) (hown : s.vm.findClass "com/example/templates_on_trees/templatesontrees/json/JsonEscapes" = some m.cls) (hw : ∀ d ∈ tables_1, d.before a0 Z = true) (hml : c.maxLocals = 1) (N : Fr n0 locs) (eT : T.heap = h0) (l0 : Int32) :
    own_Go p e below (own_K s (own_Q (.int (f1_0 l0)) h0 n0) 0 0) (T.setTop (mkF m 0 #[.val (.int l0)] [])) := by
  unfold f1_0
  refine own_by (fun _ kont => XS.iloadN X.here hx rfl (hb hby d1_0) rfl kont) ?_
  show own_Go p e below _ (T.setTop (mkF m 1 #[.val (.int l0)] [(.int l0)]))
  refine own_by (fun _ kont => XT.bipushV X.here hx rfl (48 : Int32) (hb hby d1_1) rfl kont) ?_
  show own_Go p e below _ (T.setTop (mkF m 3 #[.val (.int l0)] [(.int (48 : Int32)), (.int l0)]))
  by_cases c3 : l0 < (48 : Int32)
  · rw [if_pos c3]
    refine own_by (fun _ kont => XS.icmpYes X.here hx rfl (pc0 := 3) (pc' := 17) rfl (hb hby d1_3) rfl (XT.ii_lt_t c3) (by decide) (by decide) kont) ?_
    show own_Go p e below _ (T.setTop (mkF m 17 #[.val (.int l0)] []))
    exact w1_17 X hx hby hlk hret hZ hown hw hml N eT l0
  · rw [if_neg c3]
    refine own_by (fun _ kont => XS.icmpNo X.here hx rfl (hb hby d1_3) rfl (XT.ii_lt_f c3) kont) ?_
    show own_Go p e below _ (T.setTop (mkF m 6 #[.val (.int l0)] []))
    refine own_by (fun _ kont => XS.iloadN X.here hx rfl (hb hby d1_6) rfl kont) ?_
    show own_Go p e below _ (T.setTop (mkF m 7 #[.val (.int l0)] [(.int l0)]))
    refine own_by (fun _ kont => XT.bipushV X.here hx rfl (57 : Int32) (hb hby d1_7) rfl kont) ?_
    show own_Go p e below _ (T.setTop (mkF m 9 #[.val (.int l0)] [(.int (57 : Int32)), (.int l0)]))
    by_cases c9 : (57 : Int32) < l0
    · rw [if_pos c9]
      refine own_by (fun _ kont => XS.icmpYes X.here hx rfl (pc0 := 9) (pc' := 17) rfl (hb hby d1_9) rfl (XT.ii_gt_t c9) (by decide) (by decide) kont) ?_
      show own_Go p e below _ (T.setTop (mkF m 17 #[.val (.int l0)] []))
      exact w1_17 X hx hby hlk hret hZ hown hw hml N eT l0
    · rw [if_neg c9]
      refine own_by (fun _ kont => XS.icmpNo X.here hx rfl (hb hby d1_9) rfl (XT.ii_gt_f c9) kont) ?_
      show own_Go p e below _ (T.setTop (mkF m 12 #[.val (.int l0)] []))
      refine own_by (fun _ kont => XS.iloadN X.here hx rfl (hb hby d1_12) rfl kont) ?_
      show own_Go p e below _ (T.setTop (mkF m 13 #[.val (.int l0)] [(.int l0)]))
      refine own_by (fun _ kont => XT.bipushV X.here hx rfl (48 : Int32) (hb hby d1_13) rfl kont) ?_
      show own_Go p e below _ (T.setTop (mkF m 15 #[.val (.int l0)] [(.int (48 : Int32)), (.int l0)]))
      refine own_by (fun _ kont => XS.isub X.here hx rfl (hb hby d1_15) rfl kont) ?_
      show own_Go p e below _ (T.setTop (mkF m 16 #[.val (.int l0)] [(.int (l0 - (48 : Int32)))]))
      exact own_ret X hx hlk hret rfl (Or.inl ⟨rfl, by simp, _, rfl⟩) (hb hby d1_16) ⟨rfl, N, eT⟩ (Nat.le_refl _) (Nat.le_refl _)
theorem own_ef1 (m : MethodId) (l0 : Int32) : entryFrame m #[(.int l0)] 1 = (mkF m 0 #[.val (.int l0)] []) := by first | (simp [entryFrame, mkF, argsToLocals, Value.category, maxLocals]; done) | rfl
set_option maxRecDepth 65536 in
set_option maxHeartbeats 4000000 in
theorem rm1 (l : Launch) (Z : State) (a0 : Array Value) (hw : ∀ d ∈ tables_1, d.before a0 Z = true) (ws : List Jvm.Cond) (l0 : Int32) (h0 : Heap) (n0 : Nat) :
    MetFree l (⟨"com/example/templates_on_trees/templatesontrees/json/JsonEscapes", "hexValue", "(C)I"⟩ : MethodName) (head1 (Jvm.Cond.code (⟨"com/example/templates_on_trees/templatesontrees/json/JsonEscapes", "hexValue", "(C)I"⟩ : MethodName) prog_20_method_4_code 1 (some .int) :: ws) ({ frames := 0, cells := 0, slots := 0, locals := 0 } : Room)) (fun a U => a = #[(.int l0)] ∧ Z.Warmed39 U.vm ∧ U.heap = h0) (fun _ _ _ _ _ => True) (fun _ U o U' => ∃ v L, o = .returned v ∧ own_Q (.int (f1_0 l0)) h0 n0 v U'.heap L ∧ FrameEnd U o U' L ({ frames := 0, cells := 0, slots := 0, locals := 0 } : Room).cells ({ frames := 0, cells := 0, slots := 0, locals := 0 } : Room).slots) := by
  refine MetFree.of_bodySF (plainFor_of_name own_pn0) hisR ?_
  intro p e s m args below meth c s₁ Bd hml0 hP hK
  obtain ⟨rfl, hZ, hh⟩ := hP
  have hx := Bd.exec
  have hby := Bd.bytes
  have hml : c.maxLocals = 1 := hml0
  have hown : s.vm.findClass "com/example/templates_on_trees/templatesontrees/json/JsonEscapes" = some m.cls := findClass_of_methodNamed Bd.named
  have X0 : Stand p l e ({ frames := 0, cells := 0, slots := 0, locals := 0 } : Room) s m #[(.int l0)] below meth c s₁ [] 0 0 := Stand.of_body Bd
  have e0 : s₁.heap = h0 := by rw [← hh, Bd.state]; rfl
  have N0 := Fr.nil n0
  exact own_by (fun t k => castTop (own_ef1 m l0) k) (w1_0 X0 hx hby Bd.notSynchronized Bd.returns hZ hown hw hml N0 e0 l0)
theorem own_pn2 : plainName "com/example/templates_on_trees/templatesontrees/json/JsonEscapesHexValuePinLaw" = true := by first | (simp [plainName, overriddenIn]; done) | decide +kernel
theorem own_pd3 : parseMethodDescriptor "(I)C" = some ⟨[.int], some .char⟩ := by decide +kernel
theorem d2_0 : decode method_3_code 0 = .ok (.iload_n 0, 1) := by decide +kernel
theorem d2_1 : decode method_3_code 1 = .ok (.bipush 10, 2) := by decide +kernel
theorem d2_3 : decode method_3_code 3 = .ok (.if_icmp .ge 9, 3) := by decide +kernel
theorem d2_6 : decode method_3_code 6 = .ok (.bipush 48, 2) := by decide +kernel
theorem d2_8 : decode method_3_code 8 = .ok (.iload_n 0, 1) := by decide +kernel
theorem d2_9 : decode method_3_code 9 = .ok (.iadd, 1) := by decide +kernel
theorem d2_10 : decode method_3_code 10 = .ok (.i2c, 1) := by decide +kernel
theorem d2_11 : decode method_3_code 11 = .ok (.ireturn, 1) := by decide +kernel
theorem d2_12 : decode method_3_code 12 = .ok (.bipush 97, 2) := by decide +kernel
theorem d2_14 : decode method_3_code 14 = .ok (.iload_n 0, 1) := by decide +kernel
theorem d2_15 : decode method_3_code 15 = .ok (.bipush 10, 2) := by decide +kernel
theorem d2_17 : decode method_3_code 17 = .ok (.isub, 1) := by decide +kernel
theorem d2_18 : decode method_3_code 18 = .ok (.iadd, 1) := by decide +kernel
theorem d2_19 : decode method_3_code 19 = .ok (.i2c, 1) := by decide +kernel
theorem d2_20 : decode method_3_code 20 = .ok (.ireturn, 1) := by decide +kernel
def f2_12 (l0 : Int32) : Int32 := (nar .char (((97 : Int32) + (l0 - (10 : Int32))).toUInt32.toUInt16.toUInt32.toInt32))
set_option maxRecDepth 65536 in
set_option maxHeartbeats 4000000 in
theorem w2_12 {p : Program} {l : Launch} {e : Env} {s : State} {m : MethodId} {args : Array Value} {below : List Frame} {meth : Method} {c : Code} {T : State} {locs : List Loc} {Z : State} {a0 : Array Value} {n0 : Nat} {h0 : Heap} (X : Stand p l e ({ frames := 0, cells := 0, slots := 0, locals := 0 } : Room) s m args below meth c T locs 0 0) (hx : p.tables.exec = Jvm.exec) (hby : c.code = method_3_code) (hlk : meth.locks = false) (hret : meth.sig.returnType = some .char) (hZ : Z.Warmed39 s.vm) (hown : s.vm.findClass "com/example/templates_on_trees/templatesontrees/json/JsonEscapesHexValuePinLaw" = some m.cls) (hw : ∀ d ∈ tables_1, d.before a0 Z = true) (hml : c.maxLocals = 1) (N : Fr n0 locs) (eT : T.heap = h0) (l0 : Int32) :
    own_Go p e below (own_K s (own_Q (.int (f2_12 l0)) h0 n0) 0 0) (T.setTop (mkF m 12 #[.val (.int l0)] [])) := by
  unfold f2_12
  refine own_by (fun _ kont => XT.bipushV X.here hx rfl (97 : Int32) (hb hby d2_12) rfl kont) ?_
  show own_Go p e below _ (T.setTop (mkF m 14 #[.val (.int l0)] [(.int (97 : Int32))]))
  refine own_by (fun _ kont => XS.iloadN X.here hx rfl (hb hby d2_14) rfl kont) ?_
  show own_Go p e below _ (T.setTop (mkF m 15 #[.val (.int l0)] [(.int l0), (.int (97 : Int32))]))
  refine own_by (fun _ kont => XT.bipushV X.here hx rfl (10 : Int32) (hb hby d2_15) rfl kont) ?_
  show own_Go p e below _ (T.setTop (mkF m 17 #[.val (.int l0)] [(.int (10 : Int32)), (.int l0), (.int (97 : Int32))]))
  refine own_by (fun _ kont => XS.isub X.here hx rfl (hb hby d2_17) rfl kont) ?_
  show own_Go p e below _ (T.setTop (mkF m 18 #[.val (.int l0)] [(.int (l0 - (10 : Int32))), (.int (97 : Int32))]))
  refine own_by (fun _ kont => XS.iadd X.here hx rfl (hb hby d2_18) rfl kont) ?_
  show own_Go p e below _ (T.setTop (mkF m 19 #[.val (.int l0)] [(.int ((97 : Int32) + (l0 - (10 : Int32))))]))
  refine own_by (fun _ kont => XT.i2c X.here hx rfl (hb hby d2_19) rfl kont) ?_
  show own_Go p e below _ (T.setTop (mkF m 20 #[.val (.int l0)] [(.int (((97 : Int32) + (l0 - (10 : Int32))).toUInt32.toUInt16.toUInt32.toInt32))]))
  exact own_retN X hx hlk hret (by simp) (hb hby d2_20) ⟨rfl, N, eT⟩ (Nat.le_refl _) (Nat.le_refl _)
def f2_0 (l0 : Int32) : Int32 := (if l0 < (10 : Int32) then (nar .char (((48 : Int32) + l0).toUInt32.toUInt16.toUInt32.toInt32)) else (f2_12 l0))
set_option maxRecDepth 65536 in
set_option maxHeartbeats 4000000 in
theorem w2_0 {p : Program} {l : Launch} {e : Env} {s : State} {m : MethodId} {args : Array Value} {below : List Frame} {meth : Method} {c : Code} {T : State} {locs : List Loc} {Z : State} {a0 : Array Value} {n0 : Nat} {h0 : Heap} (X : Stand p l e ({ frames := 0, cells := 0, slots := 0, locals := 0 } : Room) s m args below meth c T locs 0 0) (hx : p.tables.exec = Jvm.exec) (hby : c.code = method_3_code) (hlk : meth.locks = false) (hret : meth.sig.returnType = some .char) (hZ : Z.Warmed39 s.vm) (hown : s.vm.findClass "com/example/templates_on_trees/templatesontrees/json/JsonEscapesHexValuePinLaw" = some m.cls) (hw : ∀ d ∈ tables_1, d.before a0 Z = true) (hml : c.maxLocals = 1) (N : Fr n0 locs) (eT : T.heap = h0) (l0 : Int32) :
    own_Go p e below (own_K s (own_Q (.int (f2_0 l0)) h0 n0) 0 0) (T.setTop (mkF m 0 #[.val (.int l0)] [])) := by
  unfold f2_0
  refine own_by (fun _ kont => XS.iloadN X.here hx rfl (hb hby d2_0) rfl kont) ?_
  show own_Go p e below _ (T.setTop (mkF m 1 #[.val (.int l0)] [(.int l0)]))
  refine own_by (fun _ kont => XT.bipushV X.here hx rfl (10 : Int32) (hb hby d2_1) rfl kont) ?_
  show own_Go p e below _ (T.setTop (mkF m 3 #[.val (.int l0)] [(.int (10 : Int32)), (.int l0)]))
  by_cases c3 : l0 < (10 : Int32)
  · rw [if_pos c3]
    refine own_by (fun _ kont => XS.icmpNo X.here hx rfl (hb hby d2_3) rfl (XT.ii_ge_f c3) kont) ?_
    show own_Go p e below _ (T.setTop (mkF m 6 #[.val (.int l0)] []))
    refine own_by (fun _ kont => XT.bipushV X.here hx rfl (48 : Int32) (hb hby d2_6) rfl kont) ?_
    show own_Go p e below _ (T.setTop (mkF m 8 #[.val (.int l0)] [(.int (48 : Int32))]))
    refine own_by (fun _ kont => XS.iloadN X.here hx rfl (hb hby d2_8) rfl kont) ?_
    show own_Go p e below _ (T.setTop (mkF m 9 #[.val (.int l0)] [(.int l0), (.int (48 : Int32))]))
    refine own_by (fun _ kont => XS.iadd X.here hx rfl (hb hby d2_9) rfl kont) ?_
    show own_Go p e below _ (T.setTop (mkF m 10 #[.val (.int l0)] [(.int ((48 : Int32) + l0))]))
    refine own_by (fun _ kont => XT.i2c X.here hx rfl (hb hby d2_10) rfl kont) ?_
    show own_Go p e below _ (T.setTop (mkF m 11 #[.val (.int l0)] [(.int (((48 : Int32) + l0).toUInt32.toUInt16.toUInt32.toInt32))]))
    exact own_retN X hx hlk hret (by simp) (hb hby d2_11) ⟨rfl, N, eT⟩ (Nat.le_refl _) (Nat.le_refl _)
  · rw [if_neg c3]
    refine own_by (fun _ kont => XS.icmpYes X.here hx rfl (pc0 := 3) (pc' := 12) rfl (hb hby d2_3) rfl (XT.ii_ge_t c3) (by decide) (by decide) kont) ?_
    show own_Go p e below _ (T.setTop (mkF m 12 #[.val (.int l0)] []))
    exact w2_12 X hx hby hlk hret hZ hown hw hml N eT l0
theorem own_ef2 (m : MethodId) (l0 : Int32) : entryFrame m #[(.int l0)] 1 = (mkF m 0 #[.val (.int l0)] []) := by first | (simp [entryFrame, mkF, argsToLocals, Value.category, maxLocals]; done) | rfl
set_option maxRecDepth 65536 in
set_option maxHeartbeats 4000000 in
theorem rm2 (l : Launch) (Z : State) (a0 : Array Value) (hw : ∀ d ∈ tables_1, d.before a0 Z = true) (ws : List Jvm.Cond) (l0 : Int32) (h0 : Heap) (n0 : Nat) :
    MetFree l (⟨"com/example/templates_on_trees/templatesontrees/json/JsonEscapesHexValuePinLaw", "lower", "(I)C"⟩ : MethodName) (head1 (Jvm.Cond.code (⟨"com/example/templates_on_trees/templatesontrees/json/JsonEscapesHexValuePinLaw", "lower", "(I)C"⟩ : MethodName) method_3_code 1 (some .char) :: ws) ({ frames := 0, cells := 0, slots := 0, locals := 0 } : Room)) (fun a U => a = #[(.int l0)] ∧ Z.Warmed39 U.vm ∧ U.heap = h0) (fun _ _ _ _ _ => True) (fun _ U o U' => ∃ v L, o = .returned v ∧ own_Q (.int (f2_0 l0)) h0 n0 v U'.heap L ∧ FrameEnd U o U' L ({ frames := 0, cells := 0, slots := 0, locals := 0 } : Room).cells ({ frames := 0, cells := 0, slots := 0, locals := 0 } : Room).slots) := by
  refine MetFree.of_bodySF (plainFor_of_name own_pn2) hisR ?_
  intro p e s m args below meth c s₁ Bd hml0 hP hK
  obtain ⟨rfl, hZ, hh⟩ := hP
  have hx := Bd.exec
  have hby := Bd.bytes
  have hml : c.maxLocals = 1 := hml0
  have hown : s.vm.findClass "com/example/templates_on_trees/templatesontrees/json/JsonEscapesHexValuePinLaw" = some m.cls := findClass_of_methodNamed Bd.named
  have X0 : Stand p l e ({ frames := 0, cells := 0, slots := 0, locals := 0 } : Room) s m #[(.int l0)] below meth c s₁ [] 0 0 := Stand.of_body Bd
  have e0 : s₁.heap = h0 := by rw [← hh, Bd.state]; rfl
  have N0 := Fr.nil n0
  exact own_by (fun t k => castTop (own_ef2 m l0) k) (w2_0 X0 hx hby Bd.notSynchronized Bd.returns hZ hown hw hml N0 e0 l0)
theorem d3_0 : decode method_4_code 0 = .ok (.iload_n 0, 1) := by decide +kernel
theorem d3_1 : decode method_4_code 1 = .ok (.bipush 10, 2) := by decide +kernel
theorem d3_3 : decode method_4_code 3 = .ok (.if_icmp .ge 9, 3) := by decide +kernel
theorem d3_6 : decode method_4_code 6 = .ok (.bipush 48, 2) := by decide +kernel
theorem d3_8 : decode method_4_code 8 = .ok (.iload_n 0, 1) := by decide +kernel
theorem d3_9 : decode method_4_code 9 = .ok (.iadd, 1) := by decide +kernel
theorem d3_10 : decode method_4_code 10 = .ok (.i2c, 1) := by decide +kernel
theorem d3_11 : decode method_4_code 11 = .ok (.ireturn, 1) := by decide +kernel
theorem d3_12 : decode method_4_code 12 = .ok (.bipush 65, 2) := by decide +kernel
theorem d3_14 : decode method_4_code 14 = .ok (.iload_n 0, 1) := by decide +kernel
theorem d3_15 : decode method_4_code 15 = .ok (.bipush 10, 2) := by decide +kernel
theorem d3_17 : decode method_4_code 17 = .ok (.isub, 1) := by decide +kernel
theorem d3_18 : decode method_4_code 18 = .ok (.iadd, 1) := by decide +kernel
theorem d3_19 : decode method_4_code 19 = .ok (.i2c, 1) := by decide +kernel
theorem d3_20 : decode method_4_code 20 = .ok (.ireturn, 1) := by decide +kernel
def f3_12 (l0 : Int32) : Int32 := (nar .char (((65 : Int32) + (l0 - (10 : Int32))).toUInt32.toUInt16.toUInt32.toInt32))
set_option maxRecDepth 65536 in
set_option maxHeartbeats 4000000 in
theorem w3_12 {p : Program} {l : Launch} {e : Env} {s : State} {m : MethodId} {args : Array Value} {below : List Frame} {meth : Method} {c : Code} {T : State} {locs : List Loc} {Z : State} {a0 : Array Value} {n0 : Nat} {h0 : Heap} (X : Stand p l e ({ frames := 0, cells := 0, slots := 0, locals := 0 } : Room) s m args below meth c T locs 0 0) (hx : p.tables.exec = Jvm.exec) (hby : c.code = method_4_code) (hlk : meth.locks = false) (hret : meth.sig.returnType = some .char) (hZ : Z.Warmed39 s.vm) (hown : s.vm.findClass "com/example/templates_on_trees/templatesontrees/json/JsonEscapesHexValuePinLaw" = some m.cls) (hw : ∀ d ∈ tables_1, d.before a0 Z = true) (hml : c.maxLocals = 1) (N : Fr n0 locs) (eT : T.heap = h0) (l0 : Int32) :
    own_Go p e below (own_K s (own_Q (.int (f3_12 l0)) h0 n0) 0 0) (T.setTop (mkF m 12 #[.val (.int l0)] [])) := by
  unfold f3_12
  refine own_by (fun _ kont => XT.bipushV X.here hx rfl (65 : Int32) (hb hby d3_12) rfl kont) ?_
  show own_Go p e below _ (T.setTop (mkF m 14 #[.val (.int l0)] [(.int (65 : Int32))]))
  refine own_by (fun _ kont => XS.iloadN X.here hx rfl (hb hby d3_14) rfl kont) ?_
  show own_Go p e below _ (T.setTop (mkF m 15 #[.val (.int l0)] [(.int l0), (.int (65 : Int32))]))
  refine own_by (fun _ kont => XT.bipushV X.here hx rfl (10 : Int32) (hb hby d3_15) rfl kont) ?_
  show own_Go p e below _ (T.setTop (mkF m 17 #[.val (.int l0)] [(.int (10 : Int32)), (.int l0), (.int (65 : Int32))]))
  refine own_by (fun _ kont => XS.isub X.here hx rfl (hb hby d3_17) rfl kont) ?_
  show own_Go p e below _ (T.setTop (mkF m 18 #[.val (.int l0)] [(.int (l0 - (10 : Int32))), (.int (65 : Int32))]))
  refine own_by (fun _ kont => XS.iadd X.here hx rfl (hb hby d3_18) rfl kont) ?_
  show own_Go p e below _ (T.setTop (mkF m 19 #[.val (.int l0)] [(.int ((65 : Int32) + (l0 - (10 : Int32))))]))
  refine own_by (fun _ kont => XT.i2c X.here hx rfl (hb hby d3_19) rfl kont) ?_
  show own_Go p e below _ (T.setTop (mkF m 20 #[.val (.int l0)] [(.int (((65 : Int32) + (l0 - (10 : Int32))).toUInt32.toUInt16.toUInt32.toInt32))]))
  exact own_retN X hx hlk hret (by simp) (hb hby d3_20) ⟨rfl, N, eT⟩ (Nat.le_refl _) (Nat.le_refl _)
def f3_0 (l0 : Int32) : Int32 := (if l0 < (10 : Int32) then (nar .char (((48 : Int32) + l0).toUInt32.toUInt16.toUInt32.toInt32)) else (f3_12 l0))
set_option maxRecDepth 65536 in
set_option maxHeartbeats 4000000 in
theorem w3_0 {p : Program} {l : Launch} {e : Env} {s : State} {m : MethodId} {args : Array Value} {below : List Frame} {meth : Method} {c : Code} {T : State} {locs : List Loc} {Z : State} {a0 : Array Value} {n0 : Nat} {h0 : Heap} (X : Stand p l e ({ frames := 0, cells := 0, slots := 0, locals := 0 } : Room) s m args below meth c T locs 0 0) (hx : p.tables.exec = Jvm.exec) (hby : c.code = method_4_code) (hlk : meth.locks = false) (hret : meth.sig.returnType = some .char) (hZ : Z.Warmed39 s.vm) (hown : s.vm.findClass "com/example/templates_on_trees/templatesontrees/json/JsonEscapesHexValuePinLaw" = some m.cls) (hw : ∀ d ∈ tables_1, d.before a0 Z = true) (hml : c.maxLocals = 1) (N : Fr n0 locs) (eT : T.heap = h0) (l0 : Int32) :
    own_Go p e below (own_K s (own_Q (.int (f3_0 l0)) h0 n0) 0 0) (T.setTop (mkF m 0 #[.val (.int l0)] [])) := by
  unfold f3_0
  refine own_by (fun _ kont => XS.iloadN X.here hx rfl (hb hby d3_0) rfl kont) ?_
  show own_Go p e below _ (T.setTop (mkF m 1 #[.val (.int l0)] [(.int l0)]))
  refine own_by (fun _ kont => XT.bipushV X.here hx rfl (10 : Int32) (hb hby d3_1) rfl kont) ?_
  show own_Go p e below _ (T.setTop (mkF m 3 #[.val (.int l0)] [(.int (10 : Int32)), (.int l0)]))
  by_cases c3 : l0 < (10 : Int32)
  · rw [if_pos c3]
    refine own_by (fun _ kont => XS.icmpNo X.here hx rfl (hb hby d3_3) rfl (XT.ii_ge_f c3) kont) ?_
    show own_Go p e below _ (T.setTop (mkF m 6 #[.val (.int l0)] []))
    refine own_by (fun _ kont => XT.bipushV X.here hx rfl (48 : Int32) (hb hby d3_6) rfl kont) ?_
    show own_Go p e below _ (T.setTop (mkF m 8 #[.val (.int l0)] [(.int (48 : Int32))]))
    refine own_by (fun _ kont => XS.iloadN X.here hx rfl (hb hby d3_8) rfl kont) ?_
    show own_Go p e below _ (T.setTop (mkF m 9 #[.val (.int l0)] [(.int l0), (.int (48 : Int32))]))
    refine own_by (fun _ kont => XS.iadd X.here hx rfl (hb hby d3_9) rfl kont) ?_
    show own_Go p e below _ (T.setTop (mkF m 10 #[.val (.int l0)] [(.int ((48 : Int32) + l0))]))
    refine own_by (fun _ kont => XT.i2c X.here hx rfl (hb hby d3_10) rfl kont) ?_
    show own_Go p e below _ (T.setTop (mkF m 11 #[.val (.int l0)] [(.int (((48 : Int32) + l0).toUInt32.toUInt16.toUInt32.toInt32))]))
    exact own_retN X hx hlk hret (by simp) (hb hby d3_11) ⟨rfl, N, eT⟩ (Nat.le_refl _) (Nat.le_refl _)
  · rw [if_neg c3]
    refine own_by (fun _ kont => XS.icmpYes X.here hx rfl (pc0 := 3) (pc' := 12) rfl (hb hby d3_3) rfl (XT.ii_ge_t c3) (by decide) (by decide) kont) ?_
    show own_Go p e below _ (T.setTop (mkF m 12 #[.val (.int l0)] []))
    exact w3_12 X hx hby hlk hret hZ hown hw hml N eT l0
theorem own_ef3 (m : MethodId) (l0 : Int32) : entryFrame m #[(.int l0)] 1 = (mkF m 0 #[.val (.int l0)] []) := by first | (simp [entryFrame, mkF, argsToLocals, Value.category, maxLocals]; done) | rfl
set_option maxRecDepth 65536 in
set_option maxHeartbeats 4000000 in
theorem rm3 (l : Launch) (Z : State) (a0 : Array Value) (hw : ∀ d ∈ tables_1, d.before a0 Z = true) (ws : List Jvm.Cond) (l0 : Int32) (h0 : Heap) (n0 : Nat) :
    MetFree l (⟨"com/example/templates_on_trees/templatesontrees/json/JsonEscapesHexValuePinLaw", "upper", "(I)C"⟩ : MethodName) (head1 (Jvm.Cond.code (⟨"com/example/templates_on_trees/templatesontrees/json/JsonEscapesHexValuePinLaw", "upper", "(I)C"⟩ : MethodName) method_4_code 1 (some .char) :: ws) ({ frames := 0, cells := 0, slots := 0, locals := 0 } : Room)) (fun a U => a = #[(.int l0)] ∧ Z.Warmed39 U.vm ∧ U.heap = h0) (fun _ _ _ _ _ => True) (fun _ U o U' => ∃ v L, o = .returned v ∧ own_Q (.int (f3_0 l0)) h0 n0 v U'.heap L ∧ FrameEnd U o U' L ({ frames := 0, cells := 0, slots := 0, locals := 0 } : Room).cells ({ frames := 0, cells := 0, slots := 0, locals := 0 } : Room).slots) := by
  refine MetFree.of_bodySF (plainFor_of_name own_pn2) hisR ?_
  intro p e s m args below meth c s₁ Bd hml0 hP hK
  obtain ⟨rfl, hZ, hh⟩ := hP
  have hx := Bd.exec
  have hby := Bd.bytes
  have hml : c.maxLocals = 1 := hml0
  have hown : s.vm.findClass "com/example/templates_on_trees/templatesontrees/json/JsonEscapesHexValuePinLaw" = some m.cls := findClass_of_methodNamed Bd.named
  have X0 : Stand p l e ({ frames := 0, cells := 0, slots := 0, locals := 0 } : Room) s m #[(.int l0)] below meth c s₁ [] 0 0 := Stand.of_body Bd
  have e0 : s₁.heap = h0 := by rw [← hh, Bd.state]; rfl
  have N0 := Fr.nil n0
  exact own_by (fun t k => castTop (own_ef3 m l0) k) (w3_0 X0 hx hby Bd.notSynchronized Bd.returns hZ hown hw hml N0 e0 l0)
theorem own_pd4 : parseMethodDescriptor "(II)Z" = some ⟨[.int, .int], some .boolean⟩ := by decide +kernel
def f0_107 (l0 : Int32) (l1 : Int32) (l2 : Int32) (l3 : Int32) (l4 : Int32) (l5 : Int32) : Int32 := (0 : Int32)
set_option maxRecDepth 65536 in
set_option maxHeartbeats 4000000 in
theorem w0_107 {p : Program} {l : Launch} {e : Env} {s : State} {m : MethodId} {args : Array Value} {below : List Frame} {meth : Method} {c : Code} {T : State} {locs : List Loc} {Z : State} {a0 : Array Value} {n0 : Nat} {h0 : Heap} (X : Stand p l e room_1 s m args below meth c T locs 0 0) (hx : p.tables.exec = Jvm.exec) (hby : c.code = code) (hlk : meth.locks = false) (hret : meth.sig.returnType = some .boolean) (hZ : Z.Warmed39 s.vm) (hown : s.vm.findClass "com/example/templates_on_trees/templatesontrees/json/JsonEscapesHexValuePinLaw" = some m.cls) (hw : ∀ d ∈ tables_1, d.before a0 Z = true) (hml : c.maxLocals = 6) (N : Fr n0 locs) (eT : T.heap = h0) (l0 : Int32) (l1 : Int32) (l2 : Int32) (l3 : Int32) (l4 : Int32) (l5 : Int32) :
    own_Go p e below (own_K s (own_Q (.int (f0_107 l0 l1 l2 l3 l4 l5)) h0 n0) 0 0) (T.setTop (mkF m 107 #[.val (.int l0), .val (.int l1), .val (.int l2), .val (.int l3), .val (.int l4), .val (.int l5)] [])) := by
  unfold f0_107
  refine own_by (fun _ kont => XT.iconstV X.here hx rfl (0 : Int32) (hb hby at_107) rfl kont) ?_
  show own_Go p e below _ (T.setTop (mkF m 108 #[.val (.int l0), .val (.int l1), .val (.int l2), .val (.int l3), .val (.int l4), .val (.int l5)] [(.int (0 : Int32))]))
  exact own_ret X hx hlk hret rfl (Or.inl ⟨rfl, by simp, _, rfl⟩) (hb hby at_108) ⟨rfl, N, eT⟩ (Nat.le_refl _) (Nat.le_refl _)
def f0_92 (l0 : Int32) (l1 : Int32) (l2 : Int32) (l3 : Int32) (l4 : Int32) (l5 : Int32) : Int32 := (if (f1_0 (f3_0 l3)) = l3 then (1 : Int32) else (f0_107 l0 l1 l2 l3 l4 l5))
set_option maxRecDepth 65536 in
set_option maxHeartbeats 4000000 in
theorem w0_92 {p : Program} {l : Launch} {e : Env} {s : State} {m : MethodId} {args : Array Value} {below : List Frame} {meth : Method} {c : Code} {T : State} {locs : List Loc} {Z : State} {a0 : Array Value} {n0 : Nat} {h0 : Heap} (X : Stand p l e room_1 s m args below meth c T locs 0 0) (hx : p.tables.exec = Jvm.exec) (hby : c.code = code) (hlk : meth.locks = false) (hret : meth.sig.returnType = some .boolean) (hZ : Z.Warmed39 s.vm) (hown : s.vm.findClass "com/example/templates_on_trees/templatesontrees/json/JsonEscapesHexValuePinLaw" = some m.cls) (hw : ∀ d ∈ tables_1, d.before a0 Z = true) (hml : c.maxLocals = 6) (N : Fr n0 locs) (eT : T.heap = h0) (l0 : Int32) (l1 : Int32) (l2 : Int32) (l3 : Int32) (l4 : Int32) (l5 : Int32) :
    own_Go p e below (own_K s (own_Q (.int (f0_92 l0 l1 l2 l3 l4 l5)) h0 n0) 0 0) (T.setTop (mkF m 92 #[.val (.int l0), .val (.int l1), .val (.int l2), .val (.int l3), .val (.int l4), .val (.int l5)] [])) := by
  unfold f0_92
  refine own_by (fun _ kont => XS.iloadN X.here hx rfl (hb hby at_92) rfl kont) ?_
  show own_Go p e below _ (T.setTop (mkF m 93 #[.val (.int l0), .val (.int l1), .val (.int l2), .val (.int l3), .val (.int l4), .val (.int l5)] [(.int l3)]))
  obtain ⟨_, _, ⟨T101, L101, k101, n101⟩, -, X101, ⟨Lc101, hQ101, l101, y101, z101⟩, st101⟩ := Jvm.LawKit.callS X hx (y := (⟨"com/example/templates_on_trees/templatesontrees/json/JsonEscapesHexValuePinLaw", "upper", "(I)C"⟩ : MethodName)) hown (mvT hZ (hw _ (List.mem_of_getElem? (i := 9) rfl))) (mvT hZ (hw _ (List.mem_of_getElem? (i := 10) rfl))) (mvT hZ (hw _ (List.mem_of_getElem? (i := 7) rfl))) (mvT hZ (hw _ (List.mem_of_getElem? (i := 11) rfl))) (by decide) (backOf (W := 0) (rm3 l Z a0 hw [] l3 h0 n0) hZ (hw _ (List.mem_of_getElem? (i := 11) rfl)) (hw _ (List.mem_of_getElem? (i := 7) rfl)) (by decide) (by decide)) (g := (mkF m 93 #[.val (.int l0), .val (.int l1), .val (.int l2), .val (.int l3), .val (.int l4), .val (.int l5)] [(.int l3)])) rfl (by rw [hml]; rfl) (argsL := [(.int l3)]) (rest := []) (lenOf own_pd3 rfl) rfl (by show 2 * 0 + _ ≤ _; exact Nat.le_of_eq rfl) (hb hby at_93) (fun _ _ => ⟨rfl, eT, (by decide : 0 + 0 ≤ _), (by decide : 0 + 0 ≤ _)⟩)
  dsimp only [Pt.U, Pt.locs, Pt.cells, Pt.slots] at X101 l101 y101 z101 st101 hQ101
  subst l101 y101 z101
  obtain ⟨rfl, N101, e101⟩ := hQ101
  have M101 := Fr.app N N101
  refine own_by st101 ?_
  show own_Go p e below _ (T101.setTop (mkF m 96 #[.val (.int l0), .val (.int l1), .val (.int l2), .val (.int l3), .val (.int l4), .val (.int l5)] [(.int (f3_0 l3))]))
  obtain ⟨_, _, ⟨T102, L102, k102, n102⟩, -, X102, ⟨Lc102, hQ102, l102, y102, z102⟩, st102⟩ := Jvm.LawKit.callS X101 hx (y := (⟨"com/example/templates_on_trees/templatesontrees/json/JsonEscapes", "hexValue", "(C)I"⟩ : MethodName)) hown (mvT hZ (hw _ (List.mem_of_getElem? (i := 1) rfl))) (mvT hZ (hw _ (List.mem_of_getElem? (i := 2) rfl))) (mvT hZ (hw _ (List.mem_of_getElem? (i := 3) rfl))) (mvT hZ (hw _ (List.mem_of_getElem? (i := 4) rfl))) (by decide) (backOf (W := 0) (rm1 l Z a0 hw [] (f3_0 l3) h0 n0) hZ (hw _ (List.mem_of_getElem? (i := 4) rfl)) (hw _ (List.mem_of_getElem? (i := 3) rfl)) (by decide) (by decide)) (g := (mkF m 96 #[.val (.int l0), .val (.int l1), .val (.int l2), .val (.int l3), .val (.int l4), .val (.int l5)] [(.int (f3_0 l3))])) rfl (by rw [hml]; rfl) (argsL := [(.int (f3_0 l3))]) (rest := []) (lenOf own_pd1 rfl) rfl (by show 2 * 0 + _ ≤ _; exact Nat.le_of_eq rfl) (hb hby at_96) (fun _ _ => ⟨rfl, e101, (by decide : 0 + 0 ≤ _), (by decide : 0 + 0 ≤ _)⟩)
  dsimp only [Pt.U, Pt.locs, Pt.cells, Pt.slots] at X102 l102 y102 z102 st102 hQ102
  subst l102 y102 z102
  obtain ⟨rfl, N102, e102⟩ := hQ102
  have M102 := Fr.app M101 N102
  refine own_by st102 ?_
  show own_Go p e below _ (T102.setTop (mkF m 99 #[.val (.int l0), .val (.int l1), .val (.int l2), .val (.int l3), .val (.int l4), .val (.int l5)] [(.int (f1_0 (f3_0 l3)))]))
  refine own_by (fun _ kont => XS.iloadN X102.here hx rfl (hb hby at_99) rfl kont) ?_
  show own_Go p e below _ (T102.setTop (mkF m 100 #[.val (.int l0), .val (.int l1), .val (.int l2), .val (.int l3), .val (.int l4), .val (.int l5)] [(.int l3), (.int (f1_0 (f3_0 l3)))]))
  by_cases c100 : (f1_0 (f3_0 l3)) = l3
  · rw [if_pos c100]
    refine own_by (fun _ kont => XS.icmpNo X102.here hx rfl (hb hby at_100) rfl (XT.ii_ne_f c100) kont) ?_
    show own_Go p e below _ (T102.setTop (mkF m 103 #[.val (.int l0), .val (.int l1), .val (.int l2), .val (.int l3), .val (.int l4), .val (.int l5)] []))
    refine own_by (fun _ kont => XT.iconstV X102.here hx rfl (1 : Int32) (hb hby at_103) rfl kont) ?_
    show own_Go p e below _ (T102.setTop (mkF m 104 #[.val (.int l0), .val (.int l1), .val (.int l2), .val (.int l3), .val (.int l4), .val (.int l5)] [(.int (1 : Int32))]))
    refine own_by (fun _ kont => XS.goto X102.here hx rfl (pc0 := 104) (pc' := 108) rfl (hb hby at_104) (by decide) (by decide) kont) ?_
    show own_Go p e below _ (T102.setTop (mkF m 108 #[.val (.int l0), .val (.int l1), .val (.int l2), .val (.int l3), .val (.int l4), .val (.int l5)] [(.int (1 : Int32))]))
    exact own_ret X102 hx hlk hret rfl (Or.inl ⟨rfl, by simp, _, rfl⟩) (hb hby at_108) ⟨rfl, M102, e102⟩ (Nat.le_refl _) (Nat.le_refl _)
  · rw [if_neg c100]
    refine own_by (fun _ kont => XS.icmpYes X102.here hx rfl (pc0 := 100) (pc' := 107) rfl (hb hby at_100) rfl (XT.ii_ne_t c100) (by decide) (by decide) kont) ?_
    show own_Go p e below _ (T102.setTop (mkF m 107 #[.val (.int l0), .val (.int l1), .val (.int l2), .val (.int l3), .val (.int l4), .val (.int l5)] []))
    exact w0_107 X102 hx hby hlk hret hZ hown hw hml M102 e102 l0 l1 l2 l3 l4 l5
def f0_79 (l0 : Int32) (l1 : Int32) (l2 : Int32) (l3 : Int32) (l4 : Int32) (l5 : Int32) : Int32 := (if (f1_0 (f2_0 l3)) = l3 then (f0_92 l0 l1 l2 l3 l4 l5) else (0 : Int32))
set_option maxRecDepth 65536 in
set_option maxHeartbeats 4000000 in
theorem w0_79 {p : Program} {l : Launch} {e : Env} {s : State} {m : MethodId} {args : Array Value} {below : List Frame} {meth : Method} {c : Code} {T : State} {locs : List Loc} {Z : State} {a0 : Array Value} {n0 : Nat} {h0 : Heap} (X : Stand p l e room_1 s m args below meth c T locs 0 0) (hx : p.tables.exec = Jvm.exec) (hby : c.code = code) (hlk : meth.locks = false) (hret : meth.sig.returnType = some .boolean) (hZ : Z.Warmed39 s.vm) (hown : s.vm.findClass "com/example/templates_on_trees/templatesontrees/json/JsonEscapesHexValuePinLaw" = some m.cls) (hw : ∀ d ∈ tables_1, d.before a0 Z = true) (hml : c.maxLocals = 6) (N : Fr n0 locs) (eT : T.heap = h0) (l0 : Int32) (l1 : Int32) (l2 : Int32) (l3 : Int32) (l4 : Int32) (l5 : Int32) :
    own_Go p e below (own_K s (own_Q (.int (f0_79 l0 l1 l2 l3 l4 l5)) h0 n0) 0 0) (T.setTop (mkF m 79 #[.val (.int l0), .val (.int l1), .val (.int l2), .val (.int l3), .val (.int l4), .val (.int l5)] [])) := by
  unfold f0_79
  refine own_by (fun _ kont => XS.iloadN X.here hx rfl (hb hby at_79) rfl kont) ?_
  show own_Go p e below _ (T.setTop (mkF m 80 #[.val (.int l0), .val (.int l1), .val (.int l2), .val (.int l3), .val (.int l4), .val (.int l5)] [(.int l3)]))
  obtain ⟨_, _, ⟨T103, L103, k103, n103⟩, -, X103, ⟨Lc103, hQ103, l103, y103, z103⟩, st103⟩ := Jvm.LawKit.callS X hx (y := (⟨"com/example/templates_on_trees/templatesontrees/json/JsonEscapesHexValuePinLaw", "lower", "(I)C"⟩ : MethodName)) hown (mvT hZ (hw _ (List.mem_of_getElem? (i := 5) rfl))) (mvT hZ (hw _ (List.mem_of_getElem? (i := 6) rfl))) (mvT hZ (hw _ (List.mem_of_getElem? (i := 7) rfl))) (mvT hZ (hw _ (List.mem_of_getElem? (i := 8) rfl))) (by decide) (backOf (W := 0) (rm2 l Z a0 hw [] l3 h0 n0) hZ (hw _ (List.mem_of_getElem? (i := 8) rfl)) (hw _ (List.mem_of_getElem? (i := 7) rfl)) (by decide) (by decide)) (g := (mkF m 80 #[.val (.int l0), .val (.int l1), .val (.int l2), .val (.int l3), .val (.int l4), .val (.int l5)] [(.int l3)])) rfl (by rw [hml]; rfl) (argsL := [(.int l3)]) (rest := []) (lenOf own_pd3 rfl) rfl (by show 2 * 0 + _ ≤ _; exact Nat.le_of_eq rfl) (hb hby at_80) (fun _ _ => ⟨rfl, eT, (by decide : 0 + 0 ≤ _), (by decide : 0 + 0 ≤ _)⟩)
  dsimp only [Pt.U, Pt.locs, Pt.cells, Pt.slots] at X103 l103 y103 z103 st103 hQ103
  subst l103 y103 z103
  obtain ⟨rfl, N103, e103⟩ := hQ103
  have M103 := Fr.app N N103
  refine own_by st103 ?_
  show own_Go p e below _ (T103.setTop (mkF m 83 #[.val (.int l0), .val (.int l1), .val (.int l2), .val (.int l3), .val (.int l4), .val (.int l5)] [(.int (f2_0 l3))]))
  obtain ⟨_, _, ⟨T104, L104, k104, n104⟩, -, X104, ⟨Lc104, hQ104, l104, y104, z104⟩, st104⟩ := Jvm.LawKit.callS X103 hx (y := (⟨"com/example/templates_on_trees/templatesontrees/json/JsonEscapes", "hexValue", "(C)I"⟩ : MethodName)) hown (mvT hZ (hw _ (List.mem_of_getElem? (i := 1) rfl))) (mvT hZ (hw _ (List.mem_of_getElem? (i := 2) rfl))) (mvT hZ (hw _ (List.mem_of_getElem? (i := 3) rfl))) (mvT hZ (hw _ (List.mem_of_getElem? (i := 4) rfl))) (by decide) (backOf (W := 0) (rm1 l Z a0 hw [] (f2_0 l3) h0 n0) hZ (hw _ (List.mem_of_getElem? (i := 4) rfl)) (hw _ (List.mem_of_getElem? (i := 3) rfl)) (by decide) (by decide)) (g := (mkF m 83 #[.val (.int l0), .val (.int l1), .val (.int l2), .val (.int l3), .val (.int l4), .val (.int l5)] [(.int (f2_0 l3))])) rfl (by rw [hml]; rfl) (argsL := [(.int (f2_0 l3))]) (rest := []) (lenOf own_pd1 rfl) rfl (by show 2 * 0 + _ ≤ _; exact Nat.le_of_eq rfl) (hb hby at_83) (fun _ _ => ⟨rfl, e103, (by decide : 0 + 0 ≤ _), (by decide : 0 + 0 ≤ _)⟩)
  dsimp only [Pt.U, Pt.locs, Pt.cells, Pt.slots] at X104 l104 y104 z104 st104 hQ104
  subst l104 y104 z104
  obtain ⟨rfl, N104, e104⟩ := hQ104
  have M104 := Fr.app M103 N104
  refine own_by st104 ?_
  show own_Go p e below _ (T104.setTop (mkF m 86 #[.val (.int l0), .val (.int l1), .val (.int l2), .val (.int l3), .val (.int l4), .val (.int l5)] [(.int (f1_0 (f2_0 l3)))]))
  refine own_by (fun _ kont => XS.iloadN X104.here hx rfl (hb hby at_86) rfl kont) ?_
  show own_Go p e below _ (T104.setTop (mkF m 87 #[.val (.int l0), .val (.int l1), .val (.int l2), .val (.int l3), .val (.int l4), .val (.int l5)] [(.int l3), (.int (f1_0 (f2_0 l3)))]))
  by_cases c87 : (f1_0 (f2_0 l3)) = l3
  · rw [if_pos c87]
    refine own_by (fun _ kont => XS.icmpYes X104.here hx rfl (pc0 := 87) (pc' := 92) rfl (hb hby at_87) rfl (XT.ii_eq_t c87) (by decide) (by decide) kont) ?_
    show own_Go p e below _ (T104.setTop (mkF m 92 #[.val (.int l0), .val (.int l1), .val (.int l2), .val (.int l3), .val (.int l4), .val (.int l5)] []))
    exact w0_92 X104 hx hby hlk hret hZ hown hw hml M104 e104 l0 l1 l2 l3 l4 l5
  · rw [if_neg c87]
    refine own_by (fun _ kont => XS.icmpNo X104.here hx rfl (hb hby at_87) rfl (XT.ii_eq_f c87) kont) ?_
    show own_Go p e below _ (T104.setTop (mkF m 90 #[.val (.int l0), .val (.int l1), .val (.int l2), .val (.int l3), .val (.int l4), .val (.int l5)] []))
    refine own_by (fun _ kont => XT.iconstV X104.here hx rfl (0 : Int32) (hb hby at_90) rfl kont) ?_
    show own_Go p e below _ (T104.setTop (mkF m 91 #[.val (.int l0), .val (.int l1), .val (.int l2), .val (.int l3), .val (.int l4), .val (.int l5)] [(.int (0 : Int32))]))
    exact own_ret X104 hx hlk hret rfl (Or.inl ⟨rfl, by simp, _, rfl⟩) (hb hby at_91) ⟨rfl, M104, e104⟩ (Nat.le_refl _) (Nat.le_refl _)
def f0_72 (l0 : Int32) (l1 : Int32) (l2 : Int32) (l3 : Int32) (l4 : Int32) (l5 : Int32) : Int32 := (if l5 = (0 : Int32) then (0 : Int32) else (f0_79 l0 l1 l2 l3 l4 l5))
set_option maxRecDepth 65536 in
set_option maxHeartbeats 4000000 in
theorem w0_72 {p : Program} {l : Launch} {e : Env} {s : State} {m : MethodId} {args : Array Value} {below : List Frame} {meth : Method} {c : Code} {T : State} {locs : List Loc} {Z : State} {a0 : Array Value} {n0 : Nat} {h0 : Heap} (X : Stand p l e room_1 s m args below meth c T locs 0 0) (hx : p.tables.exec = Jvm.exec) (hby : c.code = code) (hlk : meth.locks = false) (hret : meth.sig.returnType = some .boolean) (hZ : Z.Warmed39 s.vm) (hown : s.vm.findClass "com/example/templates_on_trees/templatesontrees/json/JsonEscapesHexValuePinLaw" = some m.cls) (hw : ∀ d ∈ tables_1, d.before a0 Z = true) (hml : c.maxLocals = 6) (N : Fr n0 locs) (eT : T.heap = h0) (l0 : Int32) (l1 : Int32) (l2 : Int32) (l3 : Int32) (l4 : Int32) (l5 : Int32) :
    own_Go p e below (own_K s (own_Q (.int (f0_72 l0 l1 l2 l3 l4 l5)) h0 n0) 0 0) (T.setTop (mkF m 72 #[.val (.int l0), .val (.int l1), .val (.int l2), .val (.int l3), .val (.int l4), .val (.int l5)] [])) := by
  unfold f0_72
  refine own_by (fun _ kont => XS.iload X.here hx rfl (hb hby at_72) rfl kont) ?_
  show own_Go p e below _ (T.setTop (mkF m 74 #[.val (.int l0), .val (.int l1), .val (.int l2), .val (.int l3), .val (.int l4), .val (.int l5)] [(.int l5)]))
  by_cases c74 : l5 = (0 : Int32)
  · rw [if_pos c74]
    refine own_by (fun _ kont => XS.ifNo X.here hx rfl (hb hby at_74) rfl (XT.i0_ne_f c74) kont) ?_
    show own_Go p e below _ (T.setTop (mkF m 77 #[.val (.int l0), .val (.int l1), .val (.int l2), .val (.int l3), .val (.int l4), .val (.int l5)] []))
    refine own_by (fun _ kont => XT.iconstV X.here hx rfl (0 : Int32) (hb hby at_77) rfl kont) ?_
    show own_Go p e below _ (T.setTop (mkF m 78 #[.val (.int l0), .val (.int l1), .val (.int l2), .val (.int l3), .val (.int l4), .val (.int l5)] [(.int (0 : Int32))]))
    exact own_ret X hx hlk hret rfl (Or.inl ⟨rfl, by simp, _, rfl⟩) (hb hby at_78) ⟨rfl, N, eT⟩ (Nat.le_refl _) (Nat.le_refl _)
  · rw [if_neg c74]
    refine own_by (fun _ kont => XS.ifYes X.here hx rfl (pc0 := 74) (pc' := 79) rfl (hb hby at_74) rfl (XT.i0_ne_t c74) (by decide) (by decide) kont) ?_
    show own_Go p e below _ (T.setTop (mkF m 79 #[.val (.int l0), .val (.int l1), .val (.int l2), .val (.int l3), .val (.int l4), .val (.int l5)] []))
    exact w0_79 X hx hby hlk hret hZ hown hw hml N eT l0 l1 l2 l3 l4 l5
def f0_69 (l0 : Int32) (l1 : Int32) (l2 : Int32) (l3 : Int32) (l4 : Int32) : Int32 := (f0_72 l0 l1 l2 l3 l4 (0 : Int32))
set_option maxRecDepth 65536 in
set_option maxHeartbeats 4000000 in
theorem w0_69 {p : Program} {l : Launch} {e : Env} {s : State} {m : MethodId} {args : Array Value} {below : List Frame} {meth : Method} {c : Code} {T : State} {locs : List Loc} {Z : State} {a0 : Array Value} {n0 : Nat} {h0 : Heap} (X : Stand p l e room_1 s m args below meth c T locs 0 0) (hx : p.tables.exec = Jvm.exec) (hby : c.code = code) (hlk : meth.locks = false) (hret : meth.sig.returnType = some .boolean) (hZ : Z.Warmed39 s.vm) (hown : s.vm.findClass "com/example/templates_on_trees/templatesontrees/json/JsonEscapesHexValuePinLaw" = some m.cls) (hw : ∀ d ∈ tables_1, d.before a0 Z = true) (hml : c.maxLocals = 6) (N : Fr n0 locs) (eT : T.heap = h0) (l0 : Int32) (l1 : Int32) (l2 : Int32) (l3 : Int32) (l4 : Int32) :
    own_Go p e below (own_K s (own_Q (.int (f0_69 l0 l1 l2 l3 l4)) h0 n0) 0 0) (T.setTop (mkF m 69 #[.val (.int l0), .val (.int l1), .val (.int l2), .val (.int l3), .val (.int l4), .unset] [])) := by
  unfold f0_69
  refine own_by (fun _ kont => XT.iconstV X.here hx rfl (0 : Int32) (hb hby at_69) rfl kont) ?_
  show own_Go p e below _ (T.setTop (mkF m 70 #[.val (.int l0), .val (.int l1), .val (.int l2), .val (.int l3), .val (.int l4), .unset] [(.int (0 : Int32))]))
  refine own_by (fun _ kont => XS.istore X.here hx rfl (hb hby at_70) rfl (l' := #[.val (.int l0), .val (.int l1), .val (.int l2), .val (.int l3), .val (.int l4), .val (.int (0 : Int32))]) rfl kont) ?_
  show own_Go p e below _ (T.setTop (mkF m 72 #[.val (.int l0), .val (.int l1), .val (.int l2), .val (.int l3), .val (.int l4), .val (.int (0 : Int32))] []))
  exact w0_72 X hx hby hlk hret hZ hown hw hml N eT l0 l1 l2 l3 l4 (0 : Int32)
def f0_64 (l0 : Int32) (l1 : Int32) (l2 : Int32) (l3 : Int32) (l4 : Int32) (s0 : Int32) : Int32 := (f0_72 l0 l1 l2 l3 l4 s0)
set_option maxRecDepth 65536 in
set_option maxHeartbeats 4000000 in
theorem w0_64 {p : Program} {l : Launch} {e : Env} {s : State} {m : MethodId} {args : Array Value} {below : List Frame} {meth : Method} {c : Code} {T : State} {locs : List Loc} {Z : State} {a0 : Array Value} {n0 : Nat} {h0 : Heap} (X : Stand p l e room_1 s m args below meth c T locs 0 0) (hx : p.tables.exec = Jvm.exec) (hby : c.code = code) (hlk : meth.locks = false) (hret : meth.sig.returnType = some .boolean) (hZ : Z.Warmed39 s.vm) (hown : s.vm.findClass "com/example/templates_on_trees/templatesontrees/json/JsonEscapesHexValuePinLaw" = some m.cls) (hw : ∀ d ∈ tables_1, d.before a0 Z = true) (hml : c.maxLocals = 6) (N : Fr n0 locs) (eT : T.heap = h0) (l0 : Int32) (l1 : Int32) (l2 : Int32) (l3 : Int32) (l4 : Int32) (s0 : Int32) :
    own_Go p e below (own_K s (own_Q (.int (f0_64 l0 l1 l2 l3 l4 s0)) h0 n0) 0 0) (T.setTop (mkF m 64 #[.val (.int l0), .val (.int l1), .val (.int l2), .val (.int l3), .val (.int l4), .unset] [(.int s0)])) := by
  unfold f0_64
  refine own_by (fun _ kont => XS.istore X.here hx rfl (hb hby at_64) rfl (l' := #[.val (.int l0), .val (.int l1), .val (.int l2), .val (.int l3), .val (.int l4), .val (.int s0)]) rfl kont) ?_
  show own_Go p e below _ (T.setTop (mkF m 66 #[.val (.int l0), .val (.int l1), .val (.int l2), .val (.int l3), .val (.int l4), .val (.int s0)] []))
  refine own_by (fun _ kont => XS.goto X.here hx rfl (pc0 := 66) (pc' := 72) rfl (hb hby at_66) (by decide) (by decide) kont) ?_
  show own_Go p e below _ (T.setTop (mkF m 72 #[.val (.int l0), .val (.int l1), .val (.int l2), .val (.int l3), .val (.int l4), .val (.int s0)] []))
  exact w0_72 X hx hby hlk hret hZ hown hw hml N eT l0 l1 l2 l3 l4 s0
def f0_63 (l0 : Int32) (l1 : Int32) (l2 : Int32) (l3 : Int32) (l4 : Int32) : Int32 := (f0_64 l0 l1 l2 l3 l4 (0 : Int32))
set_option maxRecDepth 65536 in
set_option maxHeartbeats 4000000 in
theorem w0_63 {p : Program} {l : Launch} {e : Env} {s : State} {m : MethodId} {args : Array Value} {below : List Frame} {meth : Method} {c : Code} {T : State} {locs : List Loc} {Z : State} {a0 : Array Value} {n0 : Nat} {h0 : Heap} (X : Stand p l e room_1 s m args below meth c T locs 0 0) (hx : p.tables.exec = Jvm.exec) (hby : c.code = code) (hlk : meth.locks = false) (hret : meth.sig.returnType = some .boolean) (hZ : Z.Warmed39 s.vm) (hown : s.vm.findClass "com/example/templates_on_trees/templatesontrees/json/JsonEscapesHexValuePinLaw" = some m.cls) (hw : ∀ d ∈ tables_1, d.before a0 Z = true) (hml : c.maxLocals = 6) (N : Fr n0 locs) (eT : T.heap = h0) (l0 : Int32) (l1 : Int32) (l2 : Int32) (l3 : Int32) (l4 : Int32) :
    own_Go p e below (own_K s (own_Q (.int (f0_63 l0 l1 l2 l3 l4)) h0 n0) 0 0) (T.setTop (mkF m 63 #[.val (.int l0), .val (.int l1), .val (.int l2), .val (.int l3), .val (.int l4), .unset] [])) := by
  unfold f0_63
  refine own_by (fun _ kont => XT.iconstV X.here hx rfl (0 : Int32) (hb hby at_63) rfl kont) ?_
  show own_Go p e below _ (T.setTop (mkF m 64 #[.val (.int l0), .val (.int l1), .val (.int l2), .val (.int l3), .val (.int l4), .unset] [(.int (0 : Int32))]))
  exact w0_64 X hx hby hlk hret hZ hown hw hml N eT l0 l1 l2 l3 l4 (0 : Int32)
def f0_59 (l0 : Int32) (l1 : Int32) (l2 : Int32) (l3 : Int32) (l4 : Int32) : Int32 := (f0_64 l0 l1 l2 l3 l4 (1 : Int32))
set_option maxRecDepth 65536 in
set_option maxHeartbeats 4000000 in
theorem w0_59 {p : Program} {l : Launch} {e : Env} {s : State} {m : MethodId} {args : Array Value} {below : List Frame} {meth : Method} {c : Code} {T : State} {locs : List Loc} {Z : State} {a0 : Array Value} {n0 : Nat} {h0 : Heap} (X : Stand p l e room_1 s m args below meth c T locs 0 0) (hx : p.tables.exec = Jvm.exec) (hby : c.code = code) (hlk : meth.locks = false) (hret : meth.sig.returnType = some .boolean) (hZ : Z.Warmed39 s.vm) (hown : s.vm.findClass "com/example/templates_on_trees/templatesontrees/json/JsonEscapesHexValuePinLaw" = some m.cls) (hw : ∀ d ∈ tables_1, d.before a0 Z = true) (hml : c.maxLocals = 6) (N : Fr n0 locs) (eT : T.heap = h0) (l0 : Int32) (l1 : Int32) (l2 : Int32) (l3 : Int32) (l4 : Int32) :
    own_Go p e below (own_K s (own_Q (.int (f0_59 l0 l1 l2 l3 l4)) h0 n0) 0 0) (T.setTop (mkF m 59 #[.val (.int l0), .val (.int l1), .val (.int l2), .val (.int l3), .val (.int l4), .unset] [])) := by
  unfold f0_59
  refine own_by (fun _ kont => XT.iconstV X.here hx rfl (1 : Int32) (hb hby at_59) rfl kont) ?_
  show own_Go p e below _ (T.setTop (mkF m 60 #[.val (.int l0), .val (.int l1), .val (.int l2), .val (.int l3), .val (.int l4), .unset] [(.int (1 : Int32))]))
  refine own_by (fun _ kont => XS.goto X.here hx rfl (pc0 := 60) (pc' := 64) rfl (hb hby at_60) (by decide) (by decide) kont) ?_
  show own_Go p e below _ (T.setTop (mkF m 64 #[.val (.int l0), .val (.int l1), .val (.int l2), .val (.int l3), .val (.int l4), .unset] [(.int (1 : Int32))]))
  exact w0_64 X hx hby hlk hret hZ hown hw hml N eT l0 l1 l2 l3 l4 (1 : Int32)
def f0_29 (l0 : Int32) (l1 : Int32) (l2 : Int32) (l3 : Int32) (l4 : Int32) : Int32 := (if l4 < (0 : Int32) then (f0_69 l0 l1 l2 l3 l4) else (if (15 : Int32) < l4 then (f0_69 l0 l1 l2 l3 l4) else (if l2 = (f2_0 l4) then (f0_59 l0 l1 l2 l3 l4) else (if l2 = (f3_0 l4) then (f0_59 l0 l1 l2 l3 l4) else (f0_63 l0 l1 l2 l3 l4)))))
set_option maxRecDepth 65536 in
set_option maxHeartbeats 4000000 in
theorem w0_29 {p : Program} {l : Launch} {e : Env} {s : State} {m : MethodId} {args : Array Value} {below : List Frame} {meth : Method} {c : Code} {T : State} {locs : List Loc} {Z : State} {a0 : Array Value} {n0 : Nat} {h0 : Heap} (X : Stand p l e room_1 s m args below meth c T locs 0 0) (hx : p.tables.exec = Jvm.exec) (hby : c.code = code) (hlk : meth.locks = false) (hret : meth.sig.returnType = some .boolean) (hZ : Z.Warmed39 s.vm) (hown : s.vm.findClass "com/example/templates_on_trees/templatesontrees/json/JsonEscapesHexValuePinLaw" = some m.cls) (hw : ∀ d ∈ tables_1, d.before a0 Z = true) (hml : c.maxLocals = 6) (N : Fr n0 locs) (eT : T.heap = h0) (l0 : Int32) (l1 : Int32) (l2 : Int32) (l3 : Int32) (l4 : Int32) :
    own_Go p e below (own_K s (own_Q (.int (f0_29 l0 l1 l2 l3 l4)) h0 n0) 0 0) (T.setTop (mkF m 29 #[.val (.int l0), .val (.int l1), .val (.int l2), .val (.int l3), .val (.int l4), .unset] [])) := by
  unfold f0_29
  refine own_by (fun _ kont => XS.iload X.here hx rfl (hb hby at_29) rfl kont) ?_
  show own_Go p e below _ (T.setTop (mkF m 31 #[.val (.int l0), .val (.int l1), .val (.int l2), .val (.int l3), .val (.int l4), .unset] [(.int l4)]))
  by_cases c31 : l4 < (0 : Int32)
  · rw [if_pos c31]
    refine own_by (fun _ kont => XS.ifYes X.here hx rfl (pc0 := 31) (pc' := 69) rfl (hb hby at_31) rfl (XT.i0_lt_t c31) (by decide) (by decide) kont) ?_
    show own_Go p e below _ (T.setTop (mkF m 69 #[.val (.int l0), .val (.int l1), .val (.int l2), .val (.int l3), .val (.int l4), .unset] []))
    exact w0_69 X hx hby hlk hret hZ hown hw hml N eT l0 l1 l2 l3 l4
  · rw [if_neg c31]
    refine own_by (fun _ kont => XS.ifNo X.here hx rfl (hb hby at_31) rfl (XT.i0_lt_f c31) kont) ?_
    show own_Go p e below _ (T.setTop (mkF m 34 #[.val (.int l0), .val (.int l1), .val (.int l2), .val (.int l3), .val (.int l4), .unset] []))
    refine own_by (fun _ kont => XS.iload X.here hx rfl (hb hby at_34) rfl kont) ?_
    show own_Go p e below _ (T.setTop (mkF m 36 #[.val (.int l0), .val (.int l1), .val (.int l2), .val (.int l3), .val (.int l4), .unset] [(.int l4)]))
    refine own_by (fun _ kont => XT.bipushV X.here hx rfl (15 : Int32) (hb hby at_36) rfl kont) ?_
    show own_Go p e below _ (T.setTop (mkF m 38 #[.val (.int l0), .val (.int l1), .val (.int l2), .val (.int l3), .val (.int l4), .unset] [(.int (15 : Int32)), (.int l4)]))
    by_cases c38 : (15 : Int32) < l4
    · rw [if_pos c38]
      refine own_by (fun _ kont => XS.icmpYes X.here hx rfl (pc0 := 38) (pc' := 69) rfl (hb hby at_38) rfl (XT.ii_gt_t c38) (by decide) (by decide) kont) ?_
      show own_Go p e below _ (T.setTop (mkF m 69 #[.val (.int l0), .val (.int l1), .val (.int l2), .val (.int l3), .val (.int l4), .unset] []))
      exact w0_69 X hx hby hlk hret hZ hown hw hml N eT l0 l1 l2 l3 l4
    · rw [if_neg c38]
      refine own_by (fun _ kont => XS.icmpNo X.here hx rfl (hb hby at_38) rfl (XT.ii_gt_f c38) kont) ?_
      show own_Go p e below _ (T.setTop (mkF m 41 #[.val (.int l0), .val (.int l1), .val (.int l2), .val (.int l3), .val (.int l4), .unset] []))
      refine own_by (fun _ kont => XS.iloadN X.here hx rfl (hb hby at_41) rfl kont) ?_
      show own_Go p e below _ (T.setTop (mkF m 42 #[.val (.int l0), .val (.int l1), .val (.int l2), .val (.int l3), .val (.int l4), .unset] [(.int l2)]))
      refine own_by (fun _ kont => XS.iload X.here hx rfl (hb hby at_42) rfl kont) ?_
      show own_Go p e below _ (T.setTop (mkF m 44 #[.val (.int l0), .val (.int l1), .val (.int l2), .val (.int l3), .val (.int l4), .unset] [(.int l4), (.int l2)]))
      obtain ⟨_, _, ⟨T105, L105, k105, n105⟩, -, X105, ⟨Lc105, hQ105, l105, y105, z105⟩, st105⟩ := Jvm.LawKit.callS X hx (y := (⟨"com/example/templates_on_trees/templatesontrees/json/JsonEscapesHexValuePinLaw", "lower", "(I)C"⟩ : MethodName)) hown (mvT hZ (hw _ (List.mem_of_getElem? (i := 5) rfl))) (mvT hZ (hw _ (List.mem_of_getElem? (i := 6) rfl))) (mvT hZ (hw _ (List.mem_of_getElem? (i := 7) rfl))) (mvT hZ (hw _ (List.mem_of_getElem? (i := 8) rfl))) (by decide) (backOf (W := 1) (rm2 l Z a0 hw [] l4 h0 n0) hZ (hw _ (List.mem_of_getElem? (i := 8) rfl)) (hw _ (List.mem_of_getElem? (i := 7) rfl)) (by decide) (by decide)) (g := (mkF m 44 #[.val (.int l0), .val (.int l1), .val (.int l2), .val (.int l3), .val (.int l4), .unset] [(.int l4), (.int l2)])) rfl (by rw [hml]; rfl) (argsL := [(.int l4)]) (rest := [(.int l2)]) (lenOf own_pd3 rfl) rfl (by show 2 * 0 + _ ≤ _; exact Nat.le_of_eq rfl) (hb hby at_44) (fun _ _ => ⟨rfl, eT, (by decide : 0 + 0 ≤ _), (by decide : 0 + 0 ≤ _)⟩)
      dsimp only [Pt.U, Pt.locs, Pt.cells, Pt.slots] at X105 l105 y105 z105 st105 hQ105
      subst l105 y105 z105
      obtain ⟨rfl, N105, e105⟩ := hQ105
      have M105 := Fr.app N N105
      refine own_by st105 ?_
      show own_Go p e below _ (T105.setTop (mkF m 47 #[.val (.int l0), .val (.int l1), .val (.int l2), .val (.int l3), .val (.int l4), .unset] [(.int (f2_0 l4)), (.int l2)]))
      by_cases c47 : l2 = (f2_0 l4)
      · rw [if_pos c47]
        refine own_by (fun _ kont => XS.icmpYes X105.here hx rfl (pc0 := 47) (pc' := 59) rfl (hb hby at_47) rfl (XT.ii_eq_t c47) (by decide) (by decide) kont) ?_
        show own_Go p e below _ (T105.setTop (mkF m 59 #[.val (.int l0), .val (.int l1), .val (.int l2), .val (.int l3), .val (.int l4), .unset] []))
        exact w0_59 X105 hx hby hlk hret hZ hown hw hml M105 e105 l0 l1 l2 l3 l4
      · rw [if_neg c47]
        refine own_by (fun _ kont => XS.icmpNo X105.here hx rfl (hb hby at_47) rfl (XT.ii_eq_f c47) kont) ?_
        show own_Go p e below _ (T105.setTop (mkF m 50 #[.val (.int l0), .val (.int l1), .val (.int l2), .val (.int l3), .val (.int l4), .unset] []))
        refine own_by (fun _ kont => XS.iloadN X105.here hx rfl (hb hby at_50) rfl kont) ?_
        show own_Go p e below _ (T105.setTop (mkF m 51 #[.val (.int l0), .val (.int l1), .val (.int l2), .val (.int l3), .val (.int l4), .unset] [(.int l2)]))
        refine own_by (fun _ kont => XS.iload X105.here hx rfl (hb hby at_51) rfl kont) ?_
        show own_Go p e below _ (T105.setTop (mkF m 53 #[.val (.int l0), .val (.int l1), .val (.int l2), .val (.int l3), .val (.int l4), .unset] [(.int l4), (.int l2)]))
        obtain ⟨_, _, ⟨T106, L106, k106, n106⟩, -, X106, ⟨Lc106, hQ106, l106, y106, z106⟩, st106⟩ := Jvm.LawKit.callS X105 hx (y := (⟨"com/example/templates_on_trees/templatesontrees/json/JsonEscapesHexValuePinLaw", "upper", "(I)C"⟩ : MethodName)) hown (mvT hZ (hw _ (List.mem_of_getElem? (i := 9) rfl))) (mvT hZ (hw _ (List.mem_of_getElem? (i := 10) rfl))) (mvT hZ (hw _ (List.mem_of_getElem? (i := 7) rfl))) (mvT hZ (hw _ (List.mem_of_getElem? (i := 11) rfl))) (by decide) (backOf (W := 1) (rm3 l Z a0 hw [] l4 h0 n0) hZ (hw _ (List.mem_of_getElem? (i := 11) rfl)) (hw _ (List.mem_of_getElem? (i := 7) rfl)) (by decide) (by decide)) (g := (mkF m 53 #[.val (.int l0), .val (.int l1), .val (.int l2), .val (.int l3), .val (.int l4), .unset] [(.int l4), (.int l2)])) rfl (by rw [hml]; rfl) (argsL := [(.int l4)]) (rest := [(.int l2)]) (lenOf own_pd3 rfl) rfl (by show 2 * 0 + _ ≤ _; exact Nat.le_of_eq rfl) (hb hby at_53) (fun _ _ => ⟨rfl, e105, (by decide : 0 + 0 ≤ _), (by decide : 0 + 0 ≤ _)⟩)
        dsimp only [Pt.U, Pt.locs, Pt.cells, Pt.slots] at X106 l106 y106 z106 st106 hQ106
        subst l106 y106 z106
        obtain ⟨rfl, N106, e106⟩ := hQ106
        have M106 := Fr.app M105 N106
        refine own_by st106 ?_
        show own_Go p e below _ (T106.setTop (mkF m 56 #[.val (.int l0), .val (.int l1), .val (.int l2), .val (.int l3), .val (.int l4), .unset] [(.int (f3_0 l4)), (.int l2)]))
        by_cases c56 : l2 = (f3_0 l4)
        · rw [if_pos c56]
          refine own_by (fun _ kont => XS.icmpNo X106.here hx rfl (hb hby at_56) rfl (XT.ii_ne_f c56) kont) ?_
          show own_Go p e below _ (T106.setTop (mkF m 59 #[.val (.int l0), .val (.int l1), .val (.int l2), .val (.int l3), .val (.int l4), .unset] []))
          exact w0_59 X106 hx hby hlk hret hZ hown hw hml M106 e106 l0 l1 l2 l3 l4
        · rw [if_neg c56]
          refine own_by (fun _ kont => XS.icmpYes X106.here hx rfl (pc0 := 56) (pc' := 63) rfl (hb hby at_56) rfl (XT.ii_ne_t c56) (by decide) (by decide) kont) ?_
          show own_Go p e below _ (T106.setTop (mkF m 63 #[.val (.int l0), .val (.int l1), .val (.int l2), .val (.int l3), .val (.int l4), .unset] []))
          exact w0_63 X106 hx hby hlk hret hZ hown hw hml M106 e106 l0 l1 l2 l3 l4
def f0_0 (l0 : Int32) (l1 : Int32) : Int32 := (if (f1_0 ((l0 &&& (65535 : Int32)).toUInt32.toUInt16.toUInt32.toInt32)) = (-1 : Int32) then (f0_72 l0 l1 ((l0 &&& (65535 : Int32)).toUInt32.toUInt16.toUInt32.toInt32) (l1 &&& (15 : Int32)) (f1_0 ((l0 &&& (65535 : Int32)).toUInt32.toUInt16.toUInt32.toInt32)) (1 : Int32)) else (f0_29 l0 l1 ((l0 &&& (65535 : Int32)).toUInt32.toUInt16.toUInt32.toInt32) (l1 &&& (15 : Int32)) (f1_0 ((l0 &&& (65535 : Int32)).toUInt32.toUInt16.toUInt32.toInt32))))
set_option maxRecDepth 65536 in
set_option maxHeartbeats 4000000 in
theorem w0_0 {p : Program} {l : Launch} {e : Env} {s : State} {m : MethodId} {args : Array Value} {below : List Frame} {meth : Method} {c : Code} {T : State} {locs : List Loc} {Z : State} {a0 : Array Value} {n0 : Nat} {h0 : Heap} (X : Stand p l e room_1 s m args below meth c T locs 0 0) (hx : p.tables.exec = Jvm.exec) (hby : c.code = code) (hlk : meth.locks = false) (hret : meth.sig.returnType = some .boolean) (hZ : Z.Warmed39 s.vm) (hown : s.vm.findClass "com/example/templates_on_trees/templatesontrees/json/JsonEscapesHexValuePinLaw" = some m.cls) (hw : ∀ d ∈ tables_1, d.before a0 Z = true) (hml : c.maxLocals = 6) (N : Fr n0 locs) (eT : T.heap = h0) (l0 : Int32) (l1 : Int32) :
    own_Go p e below (own_K s (own_Q (.int (f0_0 l0 l1)) h0 n0) 0 0) (T.setTop (mkF m 0 #[.val (.int l0), .val (.int l1), .unset, .unset, .unset, .unset] [])) := by
  unfold f0_0
  refine own_by (fun _ kont => XS.iloadN X.here hx rfl (hb hby at_0) rfl kont) ?_
  show own_Go p e below _ (T.setTop (mkF m 1 #[.val (.int l0), .val (.int l1), .unset, .unset, .unset, .unset] [(.int l0)]))
  refine own_by (fun _ kont => X.ldcI hx hown (v := (65535 : Int32)) (mvT hZ (hw _ (List.mem_of_getElem? (i := 0) rfl))) rfl (hb hby at_1) kont) ?_
  show own_Go p e below _ (T.setTop (mkF m 3 #[.val (.int l0), .val (.int l1), .unset, .unset, .unset, .unset] [(.int (65535 : Int32)), (.int l0)]))
  refine own_by (fun _ kont => XS.iand X.here hx rfl (hb hby at_3) rfl kont) ?_
  show own_Go p e below _ (T.setTop (mkF m 4 #[.val (.int l0), .val (.int l1), .unset, .unset, .unset, .unset] [(.int (l0 &&& (65535 : Int32)))]))
  refine own_by (fun _ kont => XT.i2c X.here hx rfl (hb hby at_4) rfl kont) ?_
  show own_Go p e below _ (T.setTop (mkF m 5 #[.val (.int l0), .val (.int l1), .unset, .unset, .unset, .unset] [(.int ((l0 &&& (65535 : Int32)).toUInt32.toUInt16.toUInt32.toInt32))]))
  refine own_by (fun _ kont => XS.istoreN X.here hx rfl (hb hby at_5) rfl (l' := #[.val (.int l0), .val (.int l1), .val (.int ((l0 &&& (65535 : Int32)).toUInt32.toUInt16.toUInt32.toInt32)), .unset, .unset, .unset]) rfl kont) ?_
  show own_Go p e below _ (T.setTop (mkF m 6 #[.val (.int l0), .val (.int l1), .val (.int ((l0 &&& (65535 : Int32)).toUInt32.toUInt16.toUInt32.toInt32)), .unset, .unset, .unset] []))
  refine own_by (fun _ kont => XS.iloadN X.here hx rfl (hb hby at_6) rfl kont) ?_
  show own_Go p e below _ (T.setTop (mkF m 7 #[.val (.int l0), .val (.int l1), .val (.int ((l0 &&& (65535 : Int32)).toUInt32.toUInt16.toUInt32.toInt32)), .unset, .unset, .unset] [(.int l1)]))
  refine own_by (fun _ kont => XT.bipushV X.here hx rfl (15 : Int32) (hb hby at_7) rfl kont) ?_
  show own_Go p e below _ (T.setTop (mkF m 9 #[.val (.int l0), .val (.int l1), .val (.int ((l0 &&& (65535 : Int32)).toUInt32.toUInt16.toUInt32.toInt32)), .unset, .unset, .unset] [(.int (15 : Int32)), (.int l1)]))
  refine own_by (fun _ kont => XS.iand X.here hx rfl (hb hby at_9) rfl kont) ?_
  show own_Go p e below _ (T.setTop (mkF m 10 #[.val (.int l0), .val (.int l1), .val (.int ((l0 &&& (65535 : Int32)).toUInt32.toUInt16.toUInt32.toInt32)), .unset, .unset, .unset] [(.int (l1 &&& (15 : Int32)))]))
  refine own_by (fun _ kont => XS.istoreN X.here hx rfl (hb hby at_10) rfl (l' := #[.val (.int l0), .val (.int l1), .val (.int ((l0 &&& (65535 : Int32)).toUInt32.toUInt16.toUInt32.toInt32)), .val (.int (l1 &&& (15 : Int32))), .unset, .unset]) rfl kont) ?_
  show own_Go p e below _ (T.setTop (mkF m 11 #[.val (.int l0), .val (.int l1), .val (.int ((l0 &&& (65535 : Int32)).toUInt32.toUInt16.toUInt32.toInt32)), .val (.int (l1 &&& (15 : Int32))), .unset, .unset] []))
  refine own_by (fun _ kont => XS.iloadN X.here hx rfl (hb hby at_11) rfl kont) ?_
  show own_Go p e below _ (T.setTop (mkF m 12 #[.val (.int l0), .val (.int l1), .val (.int ((l0 &&& (65535 : Int32)).toUInt32.toUInt16.toUInt32.toInt32)), .val (.int (l1 &&& (15 : Int32))), .unset, .unset] [(.int ((l0 &&& (65535 : Int32)).toUInt32.toUInt16.toUInt32.toInt32))]))
  obtain ⟨_, _, ⟨T107, L107, k107, n107⟩, -, X107, ⟨Lc107, hQ107, l107, y107, z107⟩, st107⟩ := Jvm.LawKit.callS X hx (y := (⟨"com/example/templates_on_trees/templatesontrees/json/JsonEscapes", "hexValue", "(C)I"⟩ : MethodName)) hown (mvT hZ (hw _ (List.mem_of_getElem? (i := 1) rfl))) (mvT hZ (hw _ (List.mem_of_getElem? (i := 2) rfl))) (mvT hZ (hw _ (List.mem_of_getElem? (i := 3) rfl))) (mvT hZ (hw _ (List.mem_of_getElem? (i := 4) rfl))) (by decide) (backOf (W := 0) (rm1 l Z a0 hw [] ((l0 &&& (65535 : Int32)).toUInt32.toUInt16.toUInt32.toInt32) h0 n0) hZ (hw _ (List.mem_of_getElem? (i := 4) rfl)) (hw _ (List.mem_of_getElem? (i := 3) rfl)) (by decide) (by decide)) (g := (mkF m 12 #[.val (.int l0), .val (.int l1), .val (.int ((l0 &&& (65535 : Int32)).toUInt32.toUInt16.toUInt32.toInt32)), .val (.int (l1 &&& (15 : Int32))), .unset, .unset] [(.int ((l0 &&& (65535 : Int32)).toUInt32.toUInt16.toUInt32.toInt32))])) rfl (by rw [hml]; rfl) (argsL := [(.int ((l0 &&& (65535 : Int32)).toUInt32.toUInt16.toUInt32.toInt32))]) (rest := []) (lenOf own_pd1 rfl) rfl (by show 2 * 0 + _ ≤ _; exact Nat.le_of_eq rfl) (hb hby at_12) (fun _ _ => ⟨rfl, eT, (by decide : 0 + 0 ≤ _), (by decide : 0 + 0 ≤ _)⟩)
  dsimp only [Pt.U, Pt.locs, Pt.cells, Pt.slots] at X107 l107 y107 z107 st107 hQ107
  subst l107 y107 z107
  obtain ⟨rfl, N107, e107⟩ := hQ107
  have M107 := Fr.app N N107
  refine own_by st107 ?_
  show own_Go p e below _ (T107.setTop (mkF m 15 #[.val (.int l0), .val (.int l1), .val (.int ((l0 &&& (65535 : Int32)).toUInt32.toUInt16.toUInt32.toInt32)), .val (.int (l1 &&& (15 : Int32))), .unset, .unset] [(.int (f1_0 ((l0 &&& (65535 : Int32)).toUInt32.toUInt16.toUInt32.toInt32)))]))
  refine own_by (fun _ kont => XS.istore X107.here hx rfl (hb hby at_15) rfl (l' := #[.val (.int l0), .val (.int l1), .val (.int ((l0 &&& (65535 : Int32)).toUInt32.toUInt16.toUInt32.toInt32)), .val (.int (l1 &&& (15 : Int32))), .val (.int (f1_0 ((l0 &&& (65535 : Int32)).toUInt32.toUInt16.toUInt32.toInt32))), .unset]) rfl kont) ?_
  show own_Go p e below _ (T107.setTop (mkF m 17 #[.val (.int l0), .val (.int l1), .val (.int ((l0 &&& (65535 : Int32)).toUInt32.toUInt16.toUInt32.toInt32)), .val (.int (l1 &&& (15 : Int32))), .val (.int (f1_0 ((l0 &&& (65535 : Int32)).toUInt32.toUInt16.toUInt32.toInt32))), .unset] []))
  refine own_by (fun _ kont => XS.iload X107.here hx rfl (hb hby at_17) rfl kont) ?_
  show own_Go p e below _ (T107.setTop (mkF m 19 #[.val (.int l0), .val (.int l1), .val (.int ((l0 &&& (65535 : Int32)).toUInt32.toUInt16.toUInt32.toInt32)), .val (.int (l1 &&& (15 : Int32))), .val (.int (f1_0 ((l0 &&& (65535 : Int32)).toUInt32.toUInt16.toUInt32.toInt32))), .unset] [(.int (f1_0 ((l0 &&& (65535 : Int32)).toUInt32.toUInt16.toUInt32.toInt32)))]))
  refine own_by (fun _ kont => XT.iconstV X107.here hx rfl (-1 : Int32) (hb hby at_19) rfl kont) ?_
  show own_Go p e below _ (T107.setTop (mkF m 20 #[.val (.int l0), .val (.int l1), .val (.int ((l0 &&& (65535 : Int32)).toUInt32.toUInt16.toUInt32.toInt32)), .val (.int (l1 &&& (15 : Int32))), .val (.int (f1_0 ((l0 &&& (65535 : Int32)).toUInt32.toUInt16.toUInt32.toInt32))), .unset] [(.int (-1 : Int32)), (.int (f1_0 ((l0 &&& (65535 : Int32)).toUInt32.toUInt16.toUInt32.toInt32)))]))
  by_cases c20 : (f1_0 ((l0 &&& (65535 : Int32)).toUInt32.toUInt16.toUInt32.toInt32)) = (-1 : Int32)
  · rw [if_pos c20]
    refine own_by (fun _ kont => XS.icmpNo X107.here hx rfl (hb hby at_20) rfl (XT.ii_ne_f c20) kont) ?_
    show own_Go p e below _ (T107.setTop (mkF m 23 #[.val (.int l0), .val (.int l1), .val (.int ((l0 &&& (65535 : Int32)).toUInt32.toUInt16.toUInt32.toInt32)), .val (.int (l1 &&& (15 : Int32))), .val (.int (f1_0 ((l0 &&& (65535 : Int32)).toUInt32.toUInt16.toUInt32.toInt32))), .unset] []))
    refine own_by (fun _ kont => XT.iconstV X107.here hx rfl (1 : Int32) (hb hby at_23) rfl kont) ?_
    show own_Go p e below _ (T107.setTop (mkF m 24 #[.val (.int l0), .val (.int l1), .val (.int ((l0 &&& (65535 : Int32)).toUInt32.toUInt16.toUInt32.toInt32)), .val (.int (l1 &&& (15 : Int32))), .val (.int (f1_0 ((l0 &&& (65535 : Int32)).toUInt32.toUInt16.toUInt32.toInt32))), .unset] [(.int (1 : Int32))]))
    refine own_by (fun _ kont => XS.istore X107.here hx rfl (hb hby at_24) rfl (l' := #[.val (.int l0), .val (.int l1), .val (.int ((l0 &&& (65535 : Int32)).toUInt32.toUInt16.toUInt32.toInt32)), .val (.int (l1 &&& (15 : Int32))), .val (.int (f1_0 ((l0 &&& (65535 : Int32)).toUInt32.toUInt16.toUInt32.toInt32))), .val (.int (1 : Int32))]) rfl kont) ?_
    show own_Go p e below _ (T107.setTop (mkF m 26 #[.val (.int l0), .val (.int l1), .val (.int ((l0 &&& (65535 : Int32)).toUInt32.toUInt16.toUInt32.toInt32)), .val (.int (l1 &&& (15 : Int32))), .val (.int (f1_0 ((l0 &&& (65535 : Int32)).toUInt32.toUInt16.toUInt32.toInt32))), .val (.int (1 : Int32))] []))
    refine own_by (fun _ kont => XS.goto X107.here hx rfl (pc0 := 26) (pc' := 72) rfl (hb hby at_26) (by decide) (by decide) kont) ?_
    show own_Go p e below _ (T107.setTop (mkF m 72 #[.val (.int l0), .val (.int l1), .val (.int ((l0 &&& (65535 : Int32)).toUInt32.toUInt16.toUInt32.toInt32)), .val (.int (l1 &&& (15 : Int32))), .val (.int (f1_0 ((l0 &&& (65535 : Int32)).toUInt32.toUInt16.toUInt32.toInt32))), .val (.int (1 : Int32))] []))
    exact w0_72 X107 hx hby hlk hret hZ hown hw hml M107 e107 l0 l1 ((l0 &&& (65535 : Int32)).toUInt32.toUInt16.toUInt32.toInt32) (l1 &&& (15 : Int32)) (f1_0 ((l0 &&& (65535 : Int32)).toUInt32.toUInt16.toUInt32.toInt32)) (1 : Int32)
  · rw [if_neg c20]
    refine own_by (fun _ kont => XS.icmpYes X107.here hx rfl (pc0 := 20) (pc' := 29) rfl (hb hby at_20) rfl (XT.ii_ne_t c20) (by decide) (by decide) kont) ?_
    show own_Go p e below _ (T107.setTop (mkF m 29 #[.val (.int l0), .val (.int l1), .val (.int ((l0 &&& (65535 : Int32)).toUInt32.toUInt16.toUInt32.toInt32)), .val (.int (l1 &&& (15 : Int32))), .val (.int (f1_0 ((l0 &&& (65535 : Int32)).toUInt32.toUInt16.toUInt32.toInt32))), .unset] []))
    exact w0_29 X107 hx hby hlk hret hZ hown hw hml M107 e107 l0 l1 ((l0 &&& (65535 : Int32)).toUInt32.toUInt16.toUInt32.toInt32) (l1 &&& (15 : Int32)) (f1_0 ((l0 &&& (65535 : Int32)).toUInt32.toUInt16.toUInt32.toInt32))
theorem own_ef0 (m : MethodId) (l0 : Int32) (l1 : Int32) : entryFrame m #[(.int l0), (.int l1)] maxLocals = (mkF m 0 #[.val (.int l0), .val (.int l1), .unset, .unset, .unset, .unset] []) := by first | (simp [entryFrame, mkF, argsToLocals, Value.category, maxLocals]; done) | rfl
set_option maxRecDepth 65536 in
set_option maxHeartbeats 4000000 in
theorem rm0 (l : Launch) (Z : State) (a0 : Array Value) (hw : ∀ d ∈ tables_1, d.before a0 Z = true) (ws : List Jvm.Cond) (l0 : Int32) (l1 : Int32) (h0 : Heap) (n0 : Nat) :
    MetFree l x (head1 (Jvm.Cond.code x code maxLocals ret :: ws) room_1) (fun a U => a = #[(.int l0), (.int l1)] ∧ Z.Warmed39 U.vm ∧ U.heap = h0) (fun _ _ _ _ _ => True) (fun _ U o U' => ∃ v L, o = .returned v ∧ own_Q (.int (f0_0 l0 l1)) h0 n0 v U'.heap L ∧ FrameEnd U o U' L 0 0) := by
  refine MetFree.of_bodySF (plainFor_of_name own_pn2) hisR ?_
  intro p e s m args below meth c s₁ Bd hml0 hP hK
  obtain ⟨rfl, hZ, hh⟩ := hP
  have hx := Bd.exec
  have hby := Bd.bytes
  have hml : c.maxLocals = 6 := hml0
  have hown : s.vm.findClass "com/example/templates_on_trees/templatesontrees/json/JsonEscapesHexValuePinLaw" = some m.cls := findClass_of_methodNamed Bd.named
  have X0 : Stand p l e room_1 s m #[(.int l0), (.int l1)] below meth c s₁ [] 0 0 := Stand.of_body Bd
  have e0 : s₁.heap = h0 := by rw [← hh, Bd.state]; rfl
  have N0 := Fr.nil n0
  exact own_by (fun t k => castTop (own_ef0 m l0 l1) k) (w0_0 X0 hx hby Bd.notSynchronized Bd.returns hZ hown hw hml N0 e0 l0 l1)
theorem own_and15 (y : Int32) : ∃ k : Fin 16, y &&& 15 = Int32.ofNat k := by
  have h : (y.toBitVec &&& 15#32).toNat < 16 := by
    rw [BitVec.toNat_and]
    exact Nat.lt_of_le_of_lt Nat.and_le_right (by decide)
  refine ⟨⟨_, h⟩, Int32.toBitVec_inj.mp ?_⟩
  apply BitVec.eq_of_toNat_eq
  show (y.toBitVec &&& 15#32).toNat = (BitVec.ofNat 32 _).toNat
  rw [BitVec.toNat_ofNat, Nat.mod_eq_of_lt (by omega)]
theorem own_lo : ∀ k : Fin 16, f1_0 (f2_0 (Int32.ofNat k)) = Int32.ofNat k := by decide +kernel
theorem own_up : ∀ k : Fin 16, f1_0 (f3_0 (Int32.ofNat k)) = Int32.ofNat k := by decide +kernel
/-- an int between two bounds is one of the few -/
theorem own_few (c : Int32) (a : Int) (n : Nat) (h1 : a ≤ c.toInt) (h2 : c.toInt < a + n) (P : Int32 → Prop) (h : ∀ k : Fin n, P (Int32.ofInt (a + k))) : P c := by
  have e : Int32.ofInt (a + ((c.toInt - a).toNat : Nat)) = c := by
    rw [show a + ((c.toInt - a).toNat : Nat) = c.toInt by omega]; exact Int32.ofInt_toInt c
  have := h ⟨(c.toInt - a).toNat, by omega⟩
  rwa [e] at this
abbrev own_P (c : Int32) : Prop := ¬ f1_0 c < 0 ∧ ¬ (15 : Int32) < f1_0 c ∧ (c = f2_0 (f1_0 c) ∨ c = f3_0 (f1_0 c))
theorem own_hex (c : Int32) : f1_0 c = -1 ∨ own_P c := by
  by_cases h1 : (48 ≤ c.toInt ∧ c.toInt < 58)
  · exact Or.inr (own_few c 48 10 h1.1 h1.2 _ (by decide +kernel))
  by_cases h2 : (97 ≤ c.toInt ∧ c.toInt < 103)
  · exact Or.inr (own_few c 97 6 h2.1 h2.2 _ (by decide +kernel))
  by_cases h3 : (65 ≤ c.toInt ∧ c.toInt < 71)
  · exact Or.inr (own_few c 65 6 h3.1 h3.2 _ (by decide +kernel))
  left
  simp only [f1_0, f1_17, f1_37, f1_57, Int32.lt_iff_toInt_lt, Int32.reduceToInt]
  repeat' split
  all_goals first | rfl | (exfalso; omega)
theorem plain (x y : Int32) : f0_0 x y = 1 := by
  have t : ∀ a b c d, f0_72 a b c (y &&& 15) d 1 = 1 := by
    intro a b c d
    obtain ⟨k, hk⟩ := own_and15 y
    rw [hk]
    simp only [f0_72, f0_79, f0_92, own_lo, own_up, if_true]
    rfl
  unfold f0_0
  generalize (x &&& 65535).toUInt32.toUInt16.toUInt32.toInt32 = c
  rcases own_hex c with h | ⟨h1, h2, h3⟩
  · rw [if_pos h]; exact t _ _ _ _
  · split
    · exact t _ _ _ _
    · simp only [f0_29, f0_59, f0_64, if_neg h1, if_neg h2, t]
      rcases h3 with h | h
      · rw [if_pos h]
      · rw [if_pos h]; split <;> rfl
theorem rmL (l : Launch) (Z : State) (a0 : Array Value) (hw : ∀ d ∈ tables_1, d.before a0 Z = true) (ws : List Jvm.Cond) (i0 : Int32) (i1 : Int32) (h0 : Heap) (n0 : Nat) :
    MetFree l x (head1 (Jvm.Cond.code x code maxLocals ret :: ws) room_1) (fun a U => a = #[(.int i0), (.int i1)] ∧ Z.Warmed39 U.vm ∧ U.heap = h0) (fun _ _ _ _ _ => True) (fun _ U o U' => ∃ v L, o = .returned v ∧ (v = some (.int 1) ∧ Fr n0 L) ∧ FrameEnd U o U' L 0 0) := by
  intro p e ha hc hk s m args below hf happ hP hK
  obtain ⟨n, o, h1, h2, h3, v, L, ho, ⟨hv, N, _⟩, hq⟩ := rm0 l Z a0 hw ws i0 i1 h0 n0 p e ha hc hk s m args below hf happ hP hK
  exact ⟨n, o, h1, h2, h3, v, L, ho, ⟨by rw [hv, plain], N⟩, hq⟩
set_option maxRecDepth 65536 in
set_option maxHeartbeats 4000000 in
theorem comes_1 {Post : Tables → Env → Array Value → State → Outcome → State → Prop} (hpost : ∀ tb e args s v u, (limb_1_1.after args s (.returned v) u = true ∧ limb_1_2.after args s (.returned v) u = true ∧ True) → FrameEnd s (.returned v) u (Jvm.fieldLocs frame_1_writes args s ++ Jvm.arrayLocs frame_1_arrays args s ++ Jvm.staticLocs frame_1_statics s) 0 0 → Post tb e args s (.returned v) u) :
    ArmFor flags0 classFile x code maxLocals ret World_1 tables_1 room_1 Calls_1 rest_1 Pre_1 Post := by
  intro l hfl _ _ p e ha hc hk s m args below hf hA hF happ hP
  obtain ⟨hcalls, hrest, hpre⟩ := hP
  obtain ⟨-, -, -, hnamed, -, -, -, hat⟩ := (Spec.applies_iff hf).mp happ
  obtain ⟨hg, hn⟩ := and_e (Cond.before_iff.mp (show (Jvm.Cond.and given_1 narrow_1).before args s = true from hpre))
  obtain ⟨h1, g0⟩ := and_e hg
  obtain ⟨q0, g1⟩ := and_e g0
  obtain ⟨w0, w1, rfl⟩ : ∃ w0 w1 : Value, args = #[w0, w1] := by
    have hs : args.size = 2 := by simpa [Cond.value, given_1] using h1
    obtain ⟨L⟩ := args
    match L, hs with
    | [w0, w1], _ => exact ⟨w0, w1, rfl⟩
  have hw := fun d (hd : d ∈ tables_1) => atoms_spec (ws := Jvm.Cond.code x code maxLocals ret :: tables_1) hat d (List.mem_cons_of_mem _ hd)
  obtain ⟨i0, ei0⟩ := is_v q0
  obtain rfl : w0 = (.int i0) := Option.some.inj ei0
  obtain ⟨i1, ei1⟩ := is_v g1
  obtain rfl : w1 = (.int i1) := Option.some.inj ei1
  obtain ⟨n, o, h1, h2, h3, _, L, rfl, ⟨rfl, N⟩, hq⟩ := rmL l s _ hw tables_1 i0 i1 s.heap s.heap.size  p e ha hc hk s m _ below hf ((Spec.applies_iff_loose hf).mp happ).1 ⟨rfl, State.Warmed39.refl s, rfl⟩ trivial
  refine ⟨n, _, h1, h2, h3, hpost _ _ _ _ _ _ ⟨Cond.after_iff.mpr rfl, Cond.after_iff.mpr (eq_i res_at (Term.int_eval (1)) rfl), trivial⟩ ⟨hq.1, hq.2.1, (hq.2.2.sift fun y hy => Or.inr (N y hy)).mono (by decide) (by decide)⟩⟩
theorem main_1_1 : Claimed_1_1 := comes_1 fun _ _ _ _ _ _ h hF => ⟨h.1, hF⟩
theorem main_1_2 : Claimed_1_2 := comes_1 fun _ _ _ _ _ _ h hF => ⟨h.2.1, hF⟩
end Jvm.Pilot.@@N@@
namespace Jvm.Pilot.@@N@@
open Jvm Jvm.ClassFile Sem Op Lib Jvm.Free Jvm.Stand Jvm.Pilot.@@N@@.Jvm.D
/-! MADE BY PROGRAM (witnessworld.py) out of the Statement's table words and the real class files: 9 classes; the members and pool entries that the words name. The judged class is class 1, her method 1. -/
namespace start1
open Jvm.ClassFile
def u (s : String) : CpInfo := .utf8 (stringToUtf16 s)
/-- a pool by its gaps: so many unusable entries, then the entry; so many at the end -/
def gap : Nat → List CpInfo → List CpInfo
  | 0, r => r
  | n + 1, r => .unusable :: gap n r
def poolList (es : List (Nat × CpInfo)) (last : Nat) : List CpInfo := es.foldr (fun e r => gap e.1 (e.2 :: r)) (gap last [])
def pool (es : List (Nat × CpInfo)) (last : Nat) : Array CpInfo := ⟨poolList es last⟩
def fileOf (pool : Array CpInfo) (this : Nat) (attrs : Array Attribute := #[]) (ms : Array MethodInfo := #[]) (fl : Nat := 33) (sup : Nat := 0) (ifs : Array Nat := #[]) (fds : Array FieldInfo := #[]) : ClassFile where
  minorVersion := 0
  majorVersion := 65
  constantPool := pool
  accessFlags := fl
  thisClass := this
  superClass := sup
  interfaces := ifs
  fields := fds
  methods := ms
  attributes := attrs
def plain (name : String) (sup : Option ClassId) : Class where
  name := name
  kind := .ordinary
  loader := none
  accessFlags := 33
  super := sup
  interfaces := #[]
  cf := none
  fields := #[]
  methods := #[]
  instanceTypes := #[]
  staticTypes := #[]
  resolved := #[]
  callSites := []
  init := .initialized
  statics := none
  mirror := none

def pool0 : Array CpInfo := pool [(5, u "<init>"), (0, u "()V"), (1, .class_ 10), (1, u "java/lang/Object")] 113

def k0m0 : Method := { name := "<init>", desc := "()V", sig := { parameters := [], returnType := none }, accessFlags := 1, code := none }
/-- java/lang/Object -/
def k0 : Class := { plain "java/lang/Object" none with
  accessFlags := 33
  interfaces := #[]
  cf := some (fileOf pool0 8 #[] #[{ accessFlags := 1, nameIndex := 5, descriptorIndex := 6, attributes := #[] }] 33 0 #[] #[])
  fields := #[]
  methods := #[k0m0]
  instanceTypes := #[]
  staticTypes := #[]
  resolved := Array.replicate 124 none
  statics := none }

def pool1 : Array CpInfo := pool [(2, .class_ 4), (1, u "java/lang/Object"), (0, u "<init>"), (0, u "()V"), (0, .integer 65535), (0, .methodref 9 10), (0, .class_ 11), (0, .nameAndType 12 13), (0, u "com/example/templates_on_trees/templatesontrees/json/JsonEscapes"), (0, u "hexValue"), (0, u "(C)I"), (0, .methodref 15 16), (0, .class_ 17), (0, .nameAndType 18 19), (0, u "com/example/templates_on_trees/templatesontrees/json/JsonEscapesHexValuePinLaw"), (0, u "lower"), (0, u "(I)C"), (0, .methodref 15 21), (0, .nameAndType 22 19), (0, u "upper"), (2, u "law"), (0, u "(II)Z")] 3

def k1m0 : Method := { name := "<init>", desc := "()V", sig := { parameters := [], returnType := none }, accessFlags := 2, code := none }
def k1c1 : Code := { maxStack := 2, maxLocals := 6, code := code, exceptionTable := #[], attributes := #[] }
def k1m1 : Method := { name := "law", desc := "(II)Z", sig := { parameters := [.int, .int], returnType := some .boolean }, accessFlags := 9, code := some k1c1 }
def k1c2 : Code := { maxStack := 3, maxLocals := 1, code := method_3_code, exceptionTable := #[], attributes := #[] }
def k1m2 : Method := { name := "lower", desc := "(I)C", sig := { parameters := [.int], returnType := some .char }, accessFlags := 10, code := some k1c2 }
def k1c3 : Code := { maxStack := 3, maxLocals := 1, code := method_4_code, exceptionTable := #[], attributes := #[] }
def k1m3 : Method := { name := "upper", desc := "(I)C", sig := { parameters := [.int], returnType := some .char }, accessFlags := 10, code := some k1c3 }
/-- com/example/templates_on_trees/templatesontrees/json/JsonEscapesHexValuePinLaw -/
def k1 : Class := { plain "com/example/templates_on_trees/templatesontrees/json/JsonEscapesHexValuePinLaw" (some 0) with
  accessFlags := 49
  interfaces := #[]
  cf := some (fileOf pool1 15 #[] #[{ accessFlags := 2, nameIndex := 5, descriptorIndex := 6, attributes := #[] }, { accessFlags := 9, nameIndex := 25, descriptorIndex := 26, attributes := #[] }, { accessFlags := 10, nameIndex := 18, descriptorIndex := 19, attributes := #[] }, { accessFlags := 10, nameIndex := 22, descriptorIndex := 19, attributes := #[] }] 49 2 #[] #[])
  fields := #[]
  methods := #[k1m0, k1m1, k1m2, k1m3]
  instanceTypes := #[]
  staticTypes := #[]
  resolved := Array.replicate 30 none
  statics := none }

def pool2 : Array CpInfo := pool [(2, .class_ 4), (1, u "java/lang/Object"), (0, u "<init>"), (0, u "()V"), (11, .class_ 20), (1, u "com/example/templates_on_trees/templatesontrees/json/JsonEscapes"), (0, u "hexValue"), (0, u "(C)I"), (20, u "HEX_DIGITS"), (0, u "[C")] 19

def k2m0 : Method := { name := "<init>", desc := "()V", sig := { parameters := [], returnType := none }, accessFlags := 2, code := none }
def k2c1 : Code := { maxStack := 2, maxLocals := 1, code := prog_20_method_4_code, exceptionTable := #[], attributes := #[] }
def k2m1 : Method := { name := "hexValue", desc := "(C)I", sig := { parameters := [.char], returnType := some .int }, accessFlags := 8, code := some k2c1 }
/-- com/example/templates_on_trees/templatesontrees/json/JsonEscapes -/
def k2 : Class := { plain "com/example/templates_on_trees/templatesontrees/json/JsonEscapes" (some 0) with
  accessFlags := 48
  interfaces := #[]
  cf := some (fileOf pool2 18 #[] #[{ accessFlags := 2, nameIndex := 5, descriptorIndex := 6, attributes := #[] }, { accessFlags := 8, nameIndex := 21, descriptorIndex := 22, attributes := #[] }] 48 2 #[] #[{ accessFlags := 26, nameIndex := 43, descriptorIndex := 44, attributes := #[] }])
  fields := #[{ name := "HEX_DIGITS", type := (.array .char), accessFlags := 26, slot := 0, constantValue := 0 }]
  methods := #[k2m0, k2m1]
  instanceTypes := #[]
  staticTypes := #[(.array .char)]
  resolved := Array.replicate 64 none
  statics := none }

def pool3 : Array CpInfo := pool [(1, u "java/lang/Cloneable"), (0, .class_ 1), (0, u "java/lang/Object"), (0, .class_ 3)] 3

/-- java/lang/Cloneable -/
def k3 : Class := { plain "java/lang/Cloneable" (some 0) with
  accessFlags := 1537
  interfaces := #[]
  cf := some (fileOf pool3 2 #[] #[] 1537 4 #[] #[])
  fields := #[]
  methods := #[]
  instanceTypes := #[]
  staticTypes := #[]
  resolved := Array.replicate 8 none
  statics := none }

def pool4 : Array CpInfo := pool [(1, u "java/io/Serializable"), (0, .class_ 1), (0, u "java/lang/Object"), (0, .class_ 3)] 3

/-- java/io/Serializable -/
def k4 : Class := { plain "java/io/Serializable" (some 0) with
  accessFlags := 1537
  interfaces := #[]
  cf := some (fileOf pool4 2 #[] #[] 1537 4 #[] #[])
  fields := #[]
  methods := #[]
  instanceTypes := #[]
  staticTypes := #[]
  resolved := Array.replicate 8 none
  statics := none }

/-- the primitive byte -/
def k5 : Class := { plain "byte" none with kind := .primitive 'B', accessFlags := 0x411 }
/-- [B -/
def k6 : Class := { plain "[B" (some 0) with kind := .array 5 .byte, interfaces := #[3, 4], accessFlags := 1041 }

/-- the primitive int -/
def k7 : Class := { plain "int" none with kind := .primitive 'I', accessFlags := 0x411 }
/-- [I -/
def k8 : Class := { plain "[I" (some 0) with kind := .array 7 .int, interfaces := #[3, 4], accessFlags := 1041 }

def heap : Heap := #[]
def classes : Array Class := #[k0, k1, k2, k3, k4, k5, k6, k7, k8]
def interned : List (Array UInt16 × Addr) := []
def slotsUsed : Nat := 0
def theMethod : MethodId := ⟨1, 1⟩
def args0 : Array Value := #[.int 5, .int 6]
def aboutOver (below : List Frame) : State where
  vm := { classes := classes, interned := interned.toArray }
  heap := heap
  slotsUsed := slotsUsed
  threads := #[{ frames := .invoking theMethod args0 :: below }]
def below0 : List Frame := [.native { method := ⟨0, 0⟩, args := #[] }]
def about1 : State := aboutOver below0
def p0 : Program := .bare "" "" ""
def e0 : Env := launch0.env 0 0 0
theorem w_frames : about1.frames = Frame.invoking theMethod args0 :: below0 := rfl
set_option maxRecDepth 65536 in
theorem w_args : argsFit about1.vm theMethod args0 = true := by decide +kernel
set_option maxRecDepth 65536 in
theorem w_heap : heapFits about1 = true := by decide +kernel
set_option maxRecDepth 65536 in
theorem w_runnable : about1.curStatus? = some .runnable := by decide +kernel
set_option maxRecDepth 65536 in
theorem w_alone : about1.alone = true := by decide +kernel
set_option maxRecDepth 65536 in
theorem w_named : about1.methodNamed? x = some theMethod := by decide +kernel
set_option maxRecDepth 65536 in
theorem w_hears : about1.hears theMethod below0 = true := by decide +kernel
set_option maxRecDepth 65536 in
theorem w_ripe : about1.ripe theMethod args0 below0 = true := by decide +kernel
theorem w_running : about1.status = .running := rfl
set_option maxRecDepth 65536 in
theorem w_room : about1.hasRoom e0.platform room_1 = true :=
  launch0.hasRoom_least _ room_1 (by decide +kernel) (by decide +kernel) (by decide +kernel) (by decide +kernel) (by decide +kernel) (by decide +kernel)
theorem allAtoms_all (ts : List Jvm.Cond) (a : Array Jvm.Value) (st : Jvm.State) : (allAtoms ts).before a st = ts.all (fun c => c.before a st) := by
  induction ts with
  | nil => rfl
  | cons c t ih =>
    show (Jvm.Cond.and c (allAtoms t)).before a st = _
    rw [Jvm.Cond.before_and, ih, List.all_cons]
def words1 : List Jvm.Cond := Jvm.Cond.code x code maxLocals ret :: tables_1
/-- a 'code' word, met by the world's own term for the bytes: nothing is compared byte by byte -/
theorem code_word {y : MethodName} {bytes : ByteArray} {mx : Nat} {rt : Option FieldType} {a : Array Value} {s : State} {m : MethodId} {meth : Method} {c : Code} (h1 : s.methodNamed? y = some m) (h2 : s.vm.method? m = some meth) (h3 : meth.code = some c) (h4 : c.code = bytes)
    (h5 : (c.maxLocals == mx && c.exceptionTable.isEmpty && decide (c.maxStack ≤ mostOperands) && decide (meth.sig.returnType = rt) && !meth.locks && decide (parseMethodDescriptor y.desc = some meth.sig)) = true) : (Jvm.Cond.code y bytes mx rt).before a s = true := by
  simp only [Bool.and_eq_true, beq_iff_eq, Bool.not_eq_true', decide_eq_true_eq] at h5
  obtain ⟨⟨⟨⟨⟨g1, g2⟩, g3⟩, g4⟩, g5⟩, g6⟩ := h5
  simp [Cond.before, Cond.holds, Cond.value, h1, h2, h3, h4, g1, g2, g3, g4, g5, g6]
def isCode : Jvm.Cond → Bool
  | .code _ _ _ _ => true
  | _ => false
theorem all_split {L : List Jvm.Cond} {P : Jvm.Cond → Bool} (h1 : L.all (fun c => isCode c || P c) = true) (h2 : ∀ c ∈ L.filter isCode, P c = true) : L.all P = true := by
  refine List.all_eq_true.mpr fun c hc => ?_
  have h := List.all_eq_true.mp h1 c hc
  rcases Bool.eq_false_or_eq_true (isCode c) with hi | hi
  · exact h2 c (List.mem_filter.mpr ⟨hc, hi⟩)
  · simpa [hi] using h
set_option maxRecDepth 65536 in
theorem w_c0 : (Jvm.Cond.code x code maxLocals ret).before args0 about1 = true := code_word (m := ⟨1, 1⟩) (meth := k1m1) (c := k1c1) (by decide +kernel) rfl rfl rfl (by decide +kernel)
set_option maxRecDepth 65536 in
theorem w_c1 : (Jvm.Cond.code ({ cls := "com/example/templates_on_trees/templatesontrees/json/JsonEscapes", name := "hexValue", desc := "(C)I" } : Jvm.MethodName) prog_20_method_4_code (1 : Nat) (Option.some Jvm.ClassFile.FieldType.int)).before args0 about1 = true := code_word (m := ⟨2, 1⟩) (meth := k2m1) (c := k2c1) (by decide +kernel) rfl rfl rfl (by decide +kernel)
set_option maxRecDepth 65536 in
theorem w_c2 : (Jvm.Cond.code ({ cls := "com/example/templates_on_trees/templatesontrees/json/JsonEscapesHexValuePinLaw", name := "lower", desc := "(I)C" } : Jvm.MethodName) method_3_code (1 : Nat) (Option.some Jvm.ClassFile.FieldType.char)).before args0 about1 = true := code_word (m := ⟨1, 2⟩) (meth := k1m2) (c := k1c2) (by decide +kernel) rfl rfl rfl (by decide +kernel)
set_option maxRecDepth 65536 in
theorem w_c3 : (Jvm.Cond.code ({ cls := "com/example/templates_on_trees/templatesontrees/json/JsonEscapesHexValuePinLaw", name := "upper", desc := "(I)C" } : Jvm.MethodName) method_4_code (1 : Nat) (Option.some Jvm.ClassFile.FieldType.char)).before args0 about1 = true := code_word (m := ⟨1, 3⟩) (meth := k1m3) (c := k1c3) (by decide +kernel) rfl rfl rfl (by decide +kernel)
def codes1 : List Jvm.Cond := [Jvm.Cond.code x code maxLocals ret, Jvm.Cond.code ({ cls := "com/example/templates_on_trees/templatesontrees/json/JsonEscapes", name := "hexValue", desc := "(C)I" } : Jvm.MethodName) prog_20_method_4_code (1 : Nat) (Option.some Jvm.ClassFile.FieldType.int), Jvm.Cond.code ({ cls := "com/example/templates_on_trees/templatesontrees/json/JsonEscapesHexValuePinLaw", name := "lower", desc := "(I)C" } : Jvm.MethodName) method_3_code (1 : Nat) (Option.some Jvm.ClassFile.FieldType.char), Jvm.Cond.code ({ cls := "com/example/templates_on_trees/templatesontrees/json/JsonEscapesHexValuePinLaw", name := "upper", desc := "(I)C" } : Jvm.MethodName) method_4_code (1 : Nat) (Option.some Jvm.ClassFile.FieldType.char)]
set_option maxRecDepth 65536 in
theorem codes_eq : words1.filter isCode = codes1 := rfl
theorem w_codes : ∀ c ∈ words1.filter isCode, c.before args0 about1 = true := by
  rw [codes_eq]
  intro c hc
  simp only [codes1, List.mem_cons, List.not_mem_nil, or_false] at hc
  rcases hc with rfl | rfl | rfl | rfl
  · exact w_c0
  · exact w_c1
  · exact w_c2
  · exact w_c3
set_option maxRecDepth 65536 in
theorem w_t1 : words1.all (fun c => isCode c || c.before args0 about1) = true := by decide +kernel
theorem w_tables : (allAtoms (Jvm.Cond.code x code maxLocals ret :: tables_1)).before args0 about1 = true := by
  rw [allAtoms_all]
  show words1.all (fun c => c.before args0 about1) = true
  refine all_split ?_ w_codes
  rw [w_t1]
set_option maxRecDepth 65536 in
theorem w_case : (Jvm.Cond.and given_1 narrow_1).before args0 about1 = true := by decide +kernel
theorem w_applies : (headSpec (Jvm.Cond.code x code maxLocals ret :: tables_1) room_1).applies x e0.platform about1 = true :=
  (Spec.applies_iff w_frames).mpr ⟨w_running, w_runnable, w_alone, w_named, w_hears, w_ripe, w_room, w_tables⟩
theorem atStart : AtStart classFile x code maxLocals ret World_1 tables_1 room_1 Calls_1 rest_1 Pre_1 launch0 p0 e0 about1 theMethod args0 below0 :=
  ⟨lists_1, trivial, launch0.admits_env _ _ _, launch0.least_env, fairChoices_fair.cas, fairChoices_fair.clock, w_frames, w_args, w_heap, w_applies, trivial, trivial, w_case⟩
end start1
theorem witness_1 : WitnessClaimed_1 := ⟨start1.p0, start1.e0, start1.about1, start1.theMethod, start1.args0, start1.below0, start1.atStart⟩
end Jvm.Pilot.@@N@@
