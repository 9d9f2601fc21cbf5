import JvmDerived
import JvmDerived.Pilot.@@N@@Statement
import JvmDerived.Pilot.@@N@@Code
set_option linter.unusedVariables false
set_option linter.unusedSimpArgs false
namespace Jvm.Pilot.@@N@@
open Jvm Jvm.ClassFile Sem Op Lib Jvm.Free Jvm.Stand Jvm.LawKit Jvm.RoadKit Bundle Jvm.Pilot.@@N@@.Jvm.D
/-- what the end of a body says -/
def own_K (s : State) (Q : Option Value → Heap → List Loc → Prop) (C S : Nat) (o : Outcome) (U : State) : Prop := ∃ v L, o = .returned v ∧ Q v U.heap L ∧ FrameEnd s o U L C S
/-- the run goes from S to a return of which K is true -/
def own_Go (p : Program) (e : Env) (below : List Frame) (K : Outcome → State → Prop) (S : State) : Prop := ∃ s₂ o, Steps p.tables e below S s₂ ∧ s₂.status = .running ∧ Ended s₂ below o ∧ K o s₂
/-- the answer of a body that leaves the heap alone -/
def own_Q (val : Value) (h0 : Heap) (n0 : Nat) (v : Option Value) (h : Heap) (L : List Loc) : Prop := v = some val ∧ Fr n0 L ∧ h = h0
section Own
variable {p : Program} {l : Launch} {e : Env} {R : Room} {s : State} {m : MethodId} {args : Array Value} {below : List Frame} {meth : Method} {c : Code} {T : State} {locs : List Loc} {cells slots : Nat} {K : Outcome → State → Prop} {Q : Option Value → Heap → List Loc → Prop} {C S : Nat}
theorem own_by {S S' : State} (h : ∀ t, Steps p.tables e below S' t → Steps p.tables e below S t) (g : own_Go p e below K S') : own_Go p e below K S := by
  obtain ⟨u, o, st, r⟩ := g
  exact ⟨u, o, h u st, r⟩
theorem own_tr {S S' : State} (h : Steps p.tables e below S S') (g : own_Go p e below K S') : own_Go p e below K S := own_by (fun _ k => h.trans k) g
/-- return of a value that is of its kind -/
theorem own_ret (X : Stand p l e R s m args below meth c T locs cells slots) (hx : p.tables.exec = Jvm.exec) (hlk : meth.locks = false) {pc : Nat} {Ls : Array Slot} {w : Value} {t : FieldType} {i : Instr} {rest : List Value} (hret : meth.sig.returnType = some t) (hn : narrow t w = w)
    (hi : (i = .ireturn ∧ (t = .int ∨ t = .boolean ∨ t = .byte ∨ t = .char ∨ t = .short) ∧ ∃ z, w = .int z) ∨ (i = .lreturn ∧ t = .long ∧ ∃ z, w = .long z) ∨ (i = .dreturn ∧ t = .double ∧ ∃ z, w = .double z) ∨ (i = .freturn ∧ t = .float ∧ ∃ z, w = .float z) ∨ (i = .areturn ∧ t.isReference = true ∧ w.isRef = true))
    (hd : decode c.code pc = .ok (i, 1)) (hQ : Q (some w) T.heap locs) (hc : cells ≤ C) (hs : slots ≤ S) : own_Go p e below (own_K s Q C S) (T.setTop (mkF m pc Ls (w :: rest))) := by
  obtain ⟨fs, hr, hrun, hended, hW, hsame⟩ := X.leave (v := some w) (fun h => by rw [hret] at h; cases h) hlk
  exact ⟨_, _, retOut X hx hret hn hi hd hr, hrun, hended, _, _, rfl, hQ, ⟨_, rfl⟩, hW, hsame.mono hc hs⟩
/-- return of a boolean, byte, char or short, narrowed -/
theorem own_retN (X : Stand p l e R s m args below meth c T locs cells slots) (hx : p.tables.exec = Jvm.exec) (hlk : meth.locks = false) {pc : Nat} {Ls : Array Slot} {z : Int32} {t : FieldType} {rest : List Value} (hret : meth.sig.returnType = some t) (ht : t = .boolean ∨ t = .byte ∨ t = .char ∨ t = .short)
    (hd : decode c.code pc = .ok (.ireturn, 1)) (hQ : Q (some (.int (nar t z))) T.heap locs) (hc : cells ≤ C) (hs : slots ≤ S) : own_Go p e below (own_K s Q C S) (T.setTop (mkF m pc Ls (.int z :: rest))) := by
  obtain ⟨fs, hr, hrun, hended, hW, hsame⟩ := X.leave (v := some (.int (nar t z))) (fun h => by rw [hret] at h; cases h) hlk
  exact ⟨_, _, retN X hx hret ht hd hr, hrun, hended, _, _, rfl, hQ, ⟨_, rfl⟩, hW, hsame.mono hc hs⟩
/-- return of nothing -/
theorem own_retV (X : Stand p l e R s m args below meth c T locs cells slots) (hx : p.tables.exec = Jvm.exec) (hlk : meth.locks = false) {pc : Nat} {Ls : Array Slot} (hret : meth.sig.returnType = none)
    (hd : decode c.code pc = .ok (.return_, 1)) (hQ : Q none T.heap locs) (hc : cells ≤ C) (hs : slots ≤ S) : own_Go p e below (own_K s Q C S) (T.setTop (mkF m pc Ls [])) := by
  obtain ⟨fs, hr, hrun, hended, hW, hsame⟩ := X.leave (v := none) (fun _ => rfl) hlk
  exact ⟨_, _, X.returnOut hx hret hd hr, hrun, hended, _, _, rfl, hQ, ⟨_, rfl⟩, hW, hsame.mono hc hs⟩
end Own
theorem own_rem_eq {x m : Int32} (hx : 0 ≤ x.toInt) (hm : 0 < m.toInt) : (x - (x / m) * m).toInt = x.toInt % m.toInt := by
  have h1 := x.toInt_lt
  have h2 := m.toInt_lt
  have q0 : 0 ≤ x.toInt / m.toInt := Int.ediv_nonneg hx (by omega)
  have q1 : x.toInt / m.toInt ≤ x.toInt := Int.ediv_le_self _ hx
  have e : x.toInt % m.toInt + m.toInt * (x.toInt / m.toInt) = x.toInt := Int.emod_add_mul_ediv ..
  have r0 : 0 ≤ x.toInt % m.toInt := Int.emod_nonneg _ (by omega)
  have r1 : x.toInt % m.toInt < m.toInt := Int.emod_lt_of_pos _ hm
  have hd : (x / m).toInt = x.toInt / m.toInt := by
    rw [Int32.toInt_div, Int.tdiv_eq_ediv_of_nonneg hx]
    exact Int.bmod_eq_of_le (by omega) (by omega)
  have hmul : ((x / m) * m).toInt = m.toInt * (x.toInt / m.toInt) := by
    rw [Int32.toInt_mul, hd, Int.mul_comm]
    exact Int.bmod_eq_of_le (by omega) (by omega)
  rw [Int32.toInt_sub, hmul, show x.toInt - m.toInt * (x.toInt / m.toInt) = x.toInt % m.toInt by omega]
  exact Int.bmod_eq_of_le (by omega) (by omega)
theorem own_rem {x m : Int32} (hx : 0 ≤ x.toInt) (hm : 0 < m.toInt) : 0 ≤ (x - (x / m) * m).toInt ∧ (x - (x / m) * m).toInt < m.toInt := by
  rw [own_rem_eq hx hm]
  exact ⟨Int.emod_nonneg _ (by omega), Int.emod_lt_of_pos _ hm⟩
theorem own_toInt_nonneg {x : Int32} (h : x.toBitVec.toNat < 2 ^ 31) : x.toInt = x.toBitVec.toNat := by
  show x.toBitVec.toInt = _
  rw [BitVec.toInt_eq_toNat_cond, if_pos (by omega)]
theorem own_and {x : Int32} (k : Nat) (hk : k < 2 ^ 31) {m : Int32} (hm : m.toBitVec = BitVec.ofNat 32 k) : 0 ≤ (x &&& m).toInt ∧ (x &&& m).toInt ≤ k := by
  have h : (x &&& m).toBitVec.toNat ≤ k := by
    rw [Int32.toBitVec_and, BitVec.toNat_and, hm, BitVec.toNat_ofNat, Nat.mod_eq_of_lt (by omega)]
    exact Nat.and_le_right
  rw [own_toInt_nonneg (by omega)]
  omega
theorem own_ushr {x y : Int32} (k : Nat) (hk : (y &&& 31).toUInt32.toNat % 32 = k) : (XT.ushr x y).toBitVec.toNat = x.toBitVec.toNat / 2 ^ k := by
  show (x.toUInt32 >>> (y &&& 31).toUInt32).toNat = _
  rw [UInt32.toNat_shiftRight, hk, Nat.shiftRight_eq_div_pow]; rfl
theorem own_ushr1 (x : Int32) : 0 ≤ (XT.ushr x 1).toInt := by
  have h := own_ushr (x := x) (y := 1) 1 (by decide)
  have hx := x.toBitVec.isLt
  rw [own_toInt_nonneg (by omega)]; omega
def own_luby (n : Nat) : Nat := if n ≤ 1 then 1 else if n = 2 ^ (Nat.log2 n + 1) - 1 then 2 ^ Nat.log2 n else own_luby (n - (2 ^ Nat.log2 n - 1))
termination_by n
decreasing_by
  rename_i h _
  have h1 : 1 ≤ Nat.log2 n := (Nat.le_log2 (by omega)).mpr (by omega)
  have h2 : 2 ^ 1 ≤ 2 ^ Nat.log2 n := Nat.pow_le_pow_right (by omega) h1
  have h3 : 2 ^ Nat.log2 n ≤ n := Nat.log2_self_le (by omega)
  omega
theorem own_luby_hi {n k : Nat} (hk : 1 ≤ k) (h : n = 2 ^ k - 1) : own_luby n = 2 ^ (k - 1) := by
  have e : Nat.log2 n = k - 1 := by
    have h2 : 2 ^ k = 2 * 2 ^ (k - 1) := by rw [← Nat.pow_succ']; congr 1; omega
    have h3 : 0 < 2 ^ (k - 1) := Nat.two_pow_pos _
    refine (Nat.log2_eq_iff (by omega)).mpr ⟨by omega, ?_⟩
    rw [show k - 1 + 1 = k by omega]; omega
  have h3 : 0 < 2 ^ (k - 1) := Nat.two_pow_pos _
  rw [own_luby]
  split
  · rename_i q
    have h2 : 2 ^ k = 2 * 2 ^ (k - 1) := by rw [← Nat.pow_succ']; congr 1; omega
    omega
  · rw [e, show k - 1 + 1 = k by omega, if_pos h]
theorem own_luby_lo {n k : Nat} (hk : 1 ≤ k) (h0 : 2 ^ (k - 1) ≤ n) (h1 : n < 2 ^ k) (h : ¬ n = 2 ^ k - 1) : own_luby n = own_luby (n - (2 ^ (k - 1) - 1)) := by
  have h2 : 2 ^ k = 2 * 2 ^ (k - 1) := by rw [← Nat.pow_succ']; congr 1; omega
  have h3 : 0 < 2 ^ (k - 1) := Nat.two_pow_pos _
  have e : Nat.log2 n = k - 1 := by
    refine (Nat.log2_eq_iff (by omega)).mpr ⟨h0, ?_⟩
    rw [show k - 1 + 1 = k by omega]; omega
  conv => lhs; rw [own_luby]
  rw [if_neg (by omega), e, show k - 1 + 1 = k by omega, if_neg h]
theorem own_sh : ∀ k : Fin 64, 1 ≤ k.val → (((1 : Int64) <<< ((Int32.ofNat k).toInt64 &&& 63)) - 1).toInt = 2 ^ k.val - 1 := by decide +kernel
theorem own_sh1 : ∀ k : Fin 64, 1 ≤ k.val → ((1 : Int64) <<< ((Int32.ofNat k - 1).toInt64 &&& 63)) = Int64.ofNat (2 ^ (k.val - 1)) := by decide +kernel
theorem own_sh2 : ∀ k : Fin 64, 1 ≤ k.val → (Int64.ofNat (2 ^ (k.val - 1))).toInt = 2 ^ (k.val - 1) := by decide +kernel
theorem own_inc : ∀ k : Fin 64, Int32.ofNat k + 1 = Int32.ofNat (k + 1) := by decide +kernel
theorem own_msk : ∀ k : Fin 64, 1 ≤ k.val → (Int64.ofNat (2 ^ (k.val - 1)) - 1).toBitVec = BitVec.ofNat 64 (2 ^ (k.val - 1) - 1) := by decide +kernel
theorem own_and64 {x : Int64} (k : Nat) (hk : k < 2 ^ 63) {m : Int64} (hm : m.toBitVec = BitVec.ofNat 64 k) : 0 ≤ (x &&& m).toInt ∧ (x &&& m).toInt ≤ k := by
  have h : (x &&& m).toBitVec.toNat ≤ k := by
    rw [Int64.toBitVec_and, BitVec.toNat_and, hm, BitVec.toNat_ofNat, Nat.mod_eq_of_lt (by omega)]
    exact Nat.and_le_right
  have e : (x &&& m).toInt = (x &&& m).toBitVec.toNat := by
    show (x &&& m).toBitVec.toInt = _
    rw [BitVec.toInt_eq_toNat_cond, if_pos (by omega)]
  rw [e]; omega
theorem own_ofNat32 {x : Int32} {k : Nat} (h : x.toInt = k) : x = Int32.ofNat k := by
  have := x.toInt_lt
  exact Int32.toInt_inj.mp (by rw [h, Int32.toInt_ofNat_of_lt (by omega)])

theorem own_pn0 : plainName "com/example/lambdalane/lambdalane/TripletBacktracking" = true := by first | (simp [plainName, overriddenIn]; done) | decide +kernel
theorem own_pd1 : parseMethodDescriptor "(J)J" = some ⟨[.long], some .long⟩ := by decide +kernel
theorem d1_0 : decode prog_66_method_7_code 0 = .ok (.lload_n 0, 1) := by decide +kernel
theorem d1_1 : decode prog_66_method_7_code 1 = .ok (.lstore_n 2, 1) := by decide +kernel
theorem d1_2 : decode prog_66_method_7_code 2 = .ok (.iconst 1, 1) := by decide +kernel
theorem d1_3 : decode prog_66_method_7_code 3 = .ok (.istore 4, 2) := by decide +kernel
theorem d1_5 : decode prog_66_method_7_code 5 = .ok (.lconst 1, 1) := by decide +kernel
theorem d1_6 : decode prog_66_method_7_code 6 = .ok (.iload 4, 2) := by decide +kernel
theorem d1_8 : decode prog_66_method_7_code 8 = .ok (.lshl, 1) := by decide +kernel
theorem d1_9 : decode prog_66_method_7_code 9 = .ok (.lconst 1, 1) := by decide +kernel
theorem d1_10 : decode prog_66_method_7_code 10 = .ok (.lsub, 1) := by decide +kernel
theorem d1_11 : decode prog_66_method_7_code 11 = .ok (.lload_n 2, 1) := by decide +kernel
theorem d1_12 : decode prog_66_method_7_code 12 = .ok (.lcmp, 1) := by decide +kernel
theorem d1_13 : decode prog_66_method_7_code 13 = .ok (.ifCond .ge 9, 3) := by decide +kernel
theorem d1_16 : decode prog_66_method_7_code 16 = .ok (.iinc 4 1, 3) := by decide +kernel
theorem d1_19 : decode prog_66_method_7_code 19 = .ok (.goto (-14), 3) := by decide +kernel
theorem d1_22 : decode prog_66_method_7_code 22 = .ok (.lload_n 2, 1) := by decide +kernel
theorem d1_23 : decode prog_66_method_7_code 23 = .ok (.lconst 1, 1) := by decide +kernel
theorem d1_24 : decode prog_66_method_7_code 24 = .ok (.iload 4, 2) := by decide +kernel
theorem d1_26 : decode prog_66_method_7_code 26 = .ok (.lshl, 1) := by decide +kernel
theorem d1_27 : decode prog_66_method_7_code 27 = .ok (.lconst 1, 1) := by decide +kernel
theorem d1_28 : decode prog_66_method_7_code 28 = .ok (.lsub, 1) := by decide +kernel
theorem d1_29 : decode prog_66_method_7_code 29 = .ok (.lcmp, 1) := by decide +kernel
theorem d1_30 : decode prog_66_method_7_code 30 = .ok (.ifCond .eq 34, 3) := by decide +kernel
theorem d1_33 : decode prog_66_method_7_code 33 = .ok (.lload_n 2, 1) := by decide +kernel
theorem d1_34 : decode prog_66_method_7_code 34 = .ok (.lconst 1, 1) := by decide +kernel
theorem d1_35 : decode prog_66_method_7_code 35 = .ok (.iload 4, 2) := by decide +kernel
theorem d1_37 : decode prog_66_method_7_code 37 = .ok (.iconst 1, 1) := by decide +kernel
theorem d1_38 : decode prog_66_method_7_code 38 = .ok (.isub, 1) := by decide +kernel
theorem d1_39 : decode prog_66_method_7_code 39 = .ok (.lshl, 1) := by decide +kernel
theorem d1_40 : decode prog_66_method_7_code 40 = .ok (.lconst 1, 1) := by decide +kernel
theorem d1_41 : decode prog_66_method_7_code 41 = .ok (.lsub, 1) := by decide +kernel
theorem d1_42 : decode prog_66_method_7_code 42 = .ok (.lsub, 1) := by decide +kernel
theorem d1_43 : decode prog_66_method_7_code 43 = .ok (.lstore_n 2, 1) := by decide +kernel
theorem d1_44 : decode prog_66_method_7_code 44 = .ok (.iconst 1, 1) := by decide +kernel
theorem d1_45 : decode prog_66_method_7_code 45 = .ok (.istore 4, 2) := by decide +kernel
theorem d1_47 : decode prog_66_method_7_code 47 = .ok (.lconst 1, 1) := by decide +kernel
theorem d1_48 : decode prog_66_method_7_code 48 = .ok (.iload 4, 2) := by decide +kernel
theorem d1_50 : decode prog_66_method_7_code 50 = .ok (.lshl, 1) := by decide +kernel
theorem d1_51 : decode prog_66_method_7_code 51 = .ok (.lconst 1, 1) := by decide +kernel
theorem d1_52 : decode prog_66_method_7_code 52 = .ok (.lsub, 1) := by decide +kernel
theorem d1_53 : decode prog_66_method_7_code 53 = .ok (.lload_n 2, 1) := by decide +kernel
theorem d1_54 : decode prog_66_method_7_code 54 = .ok (.lcmp, 1) := by decide +kernel
theorem d1_55 : decode prog_66_method_7_code 55 = .ok (.ifCond .ge (-33), 3) := by decide +kernel
theorem d1_58 : decode prog_66_method_7_code 58 = .ok (.iinc 4 1, 3) := by decide +kernel
theorem d1_61 : decode prog_66_method_7_code 61 = .ok (.goto (-14), 3) := by decide +kernel
theorem d1_64 : decode prog_66_method_7_code 64 = .ok (.lconst 1, 1) := by decide +kernel
theorem d1_65 : decode prog_66_method_7_code 65 = .ok (.iload 4, 2) := by decide +kernel
theorem d1_67 : decode prog_66_method_7_code 67 = .ok (.iconst 1, 1) := by decide +kernel
theorem d1_68 : decode prog_66_method_7_code 68 = .ok (.isub, 1) := by decide +kernel
theorem d1_69 : decode prog_66_method_7_code 69 = .ok (.lshl, 1) := by decide +kernel
theorem d1_70 : decode prog_66_method_7_code 70 = .ok (.lreturn, 1) := by decide +kernel
set_option maxRecDepth 65536 in
set_option maxHeartbeats 4000000 in
theorem own_l5 {p : Program} {l : Launch} {e : Env} {s : State} {m : MethodId} {args : Array Value} {below : List Frame} {meth : Method} {c : Code} {T : State} {locs : List Loc} {Z : State} {a0 : Array Value} {n0 : Nat} {h0 : Heap} {K : Outcome → State → Prop} (X : Stand p l e ({ frames := 0, cells := 0, slots := 0, locals := 0 } : Room) s m args below meth c T locs 0 0) (hx : p.tables.exec = Jvm.exec) (hby : c.code = prog_66_method_7_code) (hlk : meth.locks = false) (hret : meth.sig.returnType = some .long) (hZ : Z.Warmed39 s.vm) (hown : s.vm.findClass "com/example/lambdalane/lambdalane/TripletBacktracking" = some m.cls) (hw : ∀ d ∈ tables_1, d.before a0 Z = true) (hml : c.maxLocals = 5) (N : Fr n0 locs) (eT : T.heap = h0) (l0 x : Int64) (n : Nat) (hn : x.toInt = n) (h1 : 1 ≤ n) (hc : own_Go p e below K (T.setTop (mkF m 22 #[.val (.long l0), .second, .val (.long x), .second, .val (.int (Int32.ofNat (Nat.log2 n + 1)))] []))) (d k : Nat) (hk1 : 1 ≤ k) (hk : k + d = Nat.log2 n + 1) :
    own_Go p e below K (T.setTop (mkF m 5 #[.val (.long l0), .second, .val (.long x), .second, .val (.int (Int32.ofNat k))] [])) := by
  have hlt := Int64.toInt_lt x
  have hself : 2 ^ Nat.log2 n ≤ n := Nat.log2_self_le (by omega)
  have hup : n < 2 ^ (Nat.log2 n + 1) := Nat.lt_log2_self
  have h63 : Nat.log2 n < 63 := (Nat.log2_lt (by omega)).mpr (by omega)
  induction d generalizing k with
  | zero =>
    have ek : k = Nat.log2 n + 1 := by omega
    have q := own_sh ⟨k, by omega⟩ hk1
    simp only at q
    have hp : (2 : Int) ^ k = ((2 ^ k : Nat) : Int) := by simp
    rw [← ek] at hup
    have nl : ¬ (((1 : Int64) <<< ((Int32.ofNat k).toInt64 &&& 63)) - (1 : Int64)) < x := by rw [Int64.lt_iff_toInt_lt, q, hn, hp]; omega
    refine own_by (fun _ kont => XT.lconstV X.here hx rfl (1 : Int64) (hb hby d1_5) rfl kont) ?_
    show own_Go p e below _ (T.setTop (mkF m 6 #[.val (.long l0), .second, .val (.long x), .second, .val (.int (Int32.ofNat k))] [(.long (1 : Int64))]))
    refine own_by (fun _ kont => XS.iload X.here hx rfl (hb hby d1_6) rfl kont) ?_
    show own_Go p e below _ (T.setTop (mkF m 8 #[.val (.long l0), .second, .val (.long x), .second, .val (.int (Int32.ofNat k))] [(.int (Int32.ofNat k)), (.long (1 : Int64))]))
    refine own_by (fun _ kont => XT.lshl X.here hx rfl (hb hby d1_8) rfl kont) ?_
    show own_Go p e below _ (T.setTop (mkF m 9 #[.val (.long l0), .second, .val (.long x), .second, .val (.int (Int32.ofNat k))] [(.long ((1 : Int64) <<< ((Int32.ofNat k).toInt64 &&& 63)))]))
    refine own_by (fun _ kont => XT.lconstV X.here hx rfl (1 : Int64) (hb hby d1_9) rfl kont) ?_
    show own_Go p e below _ (T.setTop (mkF m 10 #[.val (.long l0), .second, .val (.long x), .second, .val (.int (Int32.ofNat k))] [(.long (1 : Int64)), (.long ((1 : Int64) <<< ((Int32.ofNat k).toInt64 &&& 63)))]))
    refine own_by (fun _ kont => XT.lsub X.here hx rfl (hb hby d1_10) rfl kont) ?_
    show own_Go p e below _ (T.setTop (mkF m 11 #[.val (.long l0), .second, .val (.long x), .second, .val (.int (Int32.ofNat k))] [(.long (((1 : Int64) <<< ((Int32.ofNat k).toInt64 &&& 63)) - (1 : Int64)))]))
    refine own_by (fun _ kont => XT.lloadN X.here hx rfl (hb hby d1_11) rfl kont) ?_
    show own_Go p e below _ (T.setTop (mkF m 12 #[.val (.long l0), .second, .val (.long x), .second, .val (.int (Int32.ofNat k))] [(.long x), (.long (((1 : Int64) <<< ((Int32.ofNat k).toInt64 &&& 63)) - (1 : Int64)))]))
    refine own_by (fun _ kont => XT.lcmp X.here hx rfl (hb hby d1_12) rfl kont) ?_
    show own_Go p e below _ (T.setTop (mkF m 13 #[.val (.long l0), .second, .val (.long x), .second, .val (.int (Int32.ofNat k))] [(.int (XT.cmpL (((1 : Int64) <<< ((Int32.ofNat k).toInt64 &&& 63)) - (1 : Int64)) x))]))
    refine own_by (fun _ kont => XS.ifYes X.here hx rfl (pc0 := 13) (pc' := 22) rfl (hb hby d1_13) rfl (XT.ll_ge_t nl) (by decide) (by decide) kont) ?_
    show own_Go p e below _ (T.setTop (mkF m 22 #[.val (.long l0), .second, .val (.long x), .second, .val (.int (Int32.ofNat k))] []))
    rw [ek]
    exact hc
  | succ d ih =>
    have q := own_sh ⟨k, by omega⟩ hk1
    simp only at q
    have hp : (2 : Int) ^ k = ((2 ^ k : Nat) : Int) := by simp
    have hle : 2 ^ k ≤ 2 ^ Nat.log2 n := Nat.pow_le_pow_right (by omega) (by omega)
    have hpos : 0 < 2 ^ k := Nat.two_pow_pos k
    have il : (((1 : Int64) <<< ((Int32.ofNat k).toInt64 &&& 63)) - (1 : Int64)) < x := by rw [Int64.lt_iff_toInt_lt, q, hn, hp]; omega
    refine own_by (fun _ kont => XT.lconstV X.here hx rfl (1 : Int64) (hb hby d1_5) rfl kont) ?_
    show own_Go p e below _ (T.setTop (mkF m 6 #[.val (.long l0), .second, .val (.long x), .second, .val (.int (Int32.ofNat k))] [(.long (1 : Int64))]))
    refine own_by (fun _ kont => XS.iload X.here hx rfl (hb hby d1_6) rfl kont) ?_
    show own_Go p e below _ (T.setTop (mkF m 8 #[.val (.long l0), .second, .val (.long x), .second, .val (.int (Int32.ofNat k))] [(.int (Int32.ofNat k)), (.long (1 : Int64))]))
    refine own_by (fun _ kont => XT.lshl X.here hx rfl (hb hby d1_8) rfl kont) ?_
    show own_Go p e below _ (T.setTop (mkF m 9 #[.val (.long l0), .second, .val (.long x), .second, .val (.int (Int32.ofNat k))] [(.long ((1 : Int64) <<< ((Int32.ofNat k).toInt64 &&& 63)))]))
    refine own_by (fun _ kont => XT.lconstV X.here hx rfl (1 : Int64) (hb hby d1_9) rfl kont) ?_
    show own_Go p e below _ (T.setTop (mkF m 10 #[.val (.long l0), .second, .val (.long x), .second, .val (.int (Int32.ofNat k))] [(.long (1 : Int64)), (.long ((1 : Int64) <<< ((Int32.ofNat k).toInt64 &&& 63)))]))
    refine own_by (fun _ kont => XT.lsub X.here hx rfl (hb hby d1_10) rfl kont) ?_
    show own_Go p e below _ (T.setTop (mkF m 11 #[.val (.long l0), .second, .val (.long x), .second, .val (.int (Int32.ofNat k))] [(.long (((1 : Int64) <<< ((Int32.ofNat k).toInt64 &&& 63)) - (1 : Int64)))]))
    refine own_by (fun _ kont => XT.lloadN X.here hx rfl (hb hby d1_11) rfl kont) ?_
    show own_Go p e below _ (T.setTop (mkF m 12 #[.val (.long l0), .second, .val (.long x), .second, .val (.int (Int32.ofNat k))] [(.long x), (.long (((1 : Int64) <<< ((Int32.ofNat k).toInt64 &&& 63)) - (1 : Int64)))]))
    refine own_by (fun _ kont => XT.lcmp X.here hx rfl (hb hby d1_12) rfl kont) ?_
    show own_Go p e below _ (T.setTop (mkF m 13 #[.val (.long l0), .second, .val (.long x), .second, .val (.int (Int32.ofNat k))] [(.int (XT.cmpL (((1 : Int64) <<< ((Int32.ofNat k).toInt64 &&& 63)) - (1 : Int64)) x))]))
    refine own_by (fun _ kont => XS.ifNo X.here hx rfl (hb hby d1_13) rfl (XT.ll_ge_f il) kont) ?_
    show own_Go p e below _ (T.setTop (mkF m 16 #[.val (.long l0), .second, .val (.long x), .second, .val (.int (Int32.ofNat k))] []))
    refine own_by (fun _ kont => XT.iincV X.here hx rfl (1 : Int32) (hb hby d1_16) rfl rfl (l' := #[.val (.long l0), .second, .val (.long x), .second, .val (.int ((Int32.ofNat k) + (1 : Int32)))]) rfl kont) ?_
    show own_Go p e below _ (T.setTop (mkF m 19 #[.val (.long l0), .second, .val (.long x), .second, .val (.int ((Int32.ofNat k) + (1 : Int32)))] []))
    refine own_by (fun _ kont => XS.goto X.here hx rfl (pc0 := 19) (pc' := 5) rfl (hb hby d1_19) (by decide) (by decide) kont) ?_
    show own_Go p e below _ (T.setTop (mkF m 5 #[.val (.long l0), .second, .val (.long x), .second, .val (.int ((Int32.ofNat k) + (1 : Int32)))] []))
    have i1 : Int32.ofNat k + (1 : Int32) = Int32.ofNat (k + 1) := own_inc ⟨k, by omega⟩
    rw [i1]
    exact ih (k + 1) (by omega) (by omega)
set_option maxRecDepth 65536 in
set_option maxHeartbeats 4000000 in
theorem own_l47 {p : Program} {l : Launch} {e : Env} {s : State} {m : MethodId} {args : Array Value} {below : List Frame} {meth : Method} {c : Code} {T : State} {locs : List Loc} {Z : State} {a0 : Array Value} {n0 : Nat} {h0 : Heap} {K : Outcome → State → Prop} (X : Stand p l e ({ frames := 0, cells := 0, slots := 0, locals := 0 } : Room) s m args below meth c T locs 0 0) (hx : p.tables.exec = Jvm.exec) (hby : c.code = prog_66_method_7_code) (hlk : meth.locks = false) (hret : meth.sig.returnType = some .long) (hZ : Z.Warmed39 s.vm) (hown : s.vm.findClass "com/example/lambdalane/lambdalane/TripletBacktracking" = some m.cls) (hw : ∀ d ∈ tables_1, d.before a0 Z = true) (hml : c.maxLocals = 5) (N : Fr n0 locs) (eT : T.heap = h0) (l0 x : Int64) (n : Nat) (hn : x.toInt = n) (h1 : 1 ≤ n) (hc : own_Go p e below K (T.setTop (mkF m 22 #[.val (.long l0), .second, .val (.long x), .second, .val (.int (Int32.ofNat (Nat.log2 n + 1)))] []))) (d k : Nat) (hk1 : 1 ≤ k) (hk : k + d = Nat.log2 n + 1) :
    own_Go p e below K (T.setTop (mkF m 47 #[.val (.long l0), .second, .val (.long x), .second, .val (.int (Int32.ofNat k))] [])) := by
  have hlt := Int64.toInt_lt x
  have hself : 2 ^ Nat.log2 n ≤ n := Nat.log2_self_le (by omega)
  have hup : n < 2 ^ (Nat.log2 n + 1) := Nat.lt_log2_self
  have h63 : Nat.log2 n < 63 := (Nat.log2_lt (by omega)).mpr (by omega)
  induction d generalizing k with
  | zero =>
    have ek : k = Nat.log2 n + 1 := by omega
    have q := own_sh ⟨k, by omega⟩ hk1
    simp only at q
    have hp : (2 : Int) ^ k = ((2 ^ k : Nat) : Int) := by simp
    rw [← ek] at hup
    have nl : ¬ (((1 : Int64) <<< ((Int32.ofNat k).toInt64 &&& 63)) - (1 : Int64)) < x := by rw [Int64.lt_iff_toInt_lt, q, hn, hp]; omega
    refine own_by (fun _ kont => XT.lconstV X.here hx rfl (1 : Int64) (hb hby d1_47) rfl kont) ?_
    show own_Go p e below _ (T.setTop (mkF m 48 #[.val (.long l0), .second, .val (.long x), .second, .val (.int (Int32.ofNat k))] [(.long (1 : Int64))]))
    refine own_by (fun _ kont => XS.iload X.here hx rfl (hb hby d1_48) rfl kont) ?_
    show own_Go p e below _ (T.setTop (mkF m 50 #[.val (.long l0), .second, .val (.long x), .second, .val (.int (Int32.ofNat k))] [(.int (Int32.ofNat k)), (.long (1 : Int64))]))
    refine own_by (fun _ kont => XT.lshl X.here hx rfl (hb hby d1_50) rfl kont) ?_
    show own_Go p e below _ (T.setTop (mkF m 51 #[.val (.long l0), .second, .val (.long x), .second, .val (.int (Int32.ofNat k))] [(.long ((1 : Int64) <<< ((Int32.ofNat k).toInt64 &&& 63)))]))
    refine own_by (fun _ kont => XT.lconstV X.here hx rfl (1 : Int64) (hb hby d1_51) rfl kont) ?_
    show own_Go p e below _ (T.setTop (mkF m 52 #[.val (.long l0), .second, .val (.long x), .second, .val (.int (Int32.ofNat k))] [(.long (1 : Int64)), (.long ((1 : Int64) <<< ((Int32.ofNat k).toInt64 &&& 63)))]))
    refine own_by (fun _ kont => XT.lsub X.here hx rfl (hb hby d1_52) rfl kont) ?_
    show own_Go p e below _ (T.setTop (mkF m 53 #[.val (.long l0), .second, .val (.long x), .second, .val (.int (Int32.ofNat k))] [(.long (((1 : Int64) <<< ((Int32.ofNat k).toInt64 &&& 63)) - (1 : Int64)))]))
    refine own_by (fun _ kont => XT.lloadN X.here hx rfl (hb hby d1_53) rfl kont) ?_
    show own_Go p e below _ (T.setTop (mkF m 54 #[.val (.long l0), .second, .val (.long x), .second, .val (.int (Int32.ofNat k))] [(.long x), (.long (((1 : Int64) <<< ((Int32.ofNat k).toInt64 &&& 63)) - (1 : Int64)))]))
    refine own_by (fun _ kont => XT.lcmp X.here hx rfl (hb hby d1_54) rfl kont) ?_
    show own_Go p e below _ (T.setTop (mkF m 55 #[.val (.long l0), .second, .val (.long x), .second, .val (.int (Int32.ofNat k))] [(.int (XT.cmpL (((1 : Int64) <<< ((Int32.ofNat k).toInt64 &&& 63)) - (1 : Int64)) x))]))
    refine own_by (fun _ kont => XS.ifYes X.here hx rfl (pc0 := 55) (pc' := 22) rfl (hb hby d1_55) rfl (XT.ll_ge_t nl) (by decide) (by decide) kont) ?_
    show own_Go p e below _ (T.setTop (mkF m 22 #[.val (.long l0), .second, .val (.long x), .second, .val (.int (Int32.ofNat k))] []))
    rw [ek]
    exact hc
  | succ d ih =>
    have q := own_sh ⟨k, by omega⟩ hk1
    simp only at q
    have hp : (2 : Int) ^ k = ((2 ^ k : Nat) : Int) := by simp
    have hle : 2 ^ k ≤ 2 ^ Nat.log2 n := Nat.pow_le_pow_right (by omega) (by omega)
    have hpos : 0 < 2 ^ k := Nat.two_pow_pos k
    have il : (((1 : Int64) <<< ((Int32.ofNat k).toInt64 &&& 63)) - (1 : Int64)) < x := by rw [Int64.lt_iff_toInt_lt, q, hn, hp]; omega
    refine own_by (fun _ kont => XT.lconstV X.here hx rfl (1 : Int64) (hb hby d1_47) rfl kont) ?_
    show own_Go p e below _ (T.setTop (mkF m 48 #[.val (.long l0), .second, .val (.long x), .second, .val (.int (Int32.ofNat k))] [(.long (1 : Int64))]))
    refine own_by (fun _ kont => XS.iload X.here hx rfl (hb hby d1_48) rfl kont) ?_
    show own_Go p e below _ (T.setTop (mkF m 50 #[.val (.long l0), .second, .val (.long x), .second, .val (.int (Int32.ofNat k))] [(.int (Int32.ofNat k)), (.long (1 : Int64))]))
    refine own_by (fun _ kont => XT.lshl X.here hx rfl (hb hby d1_50) rfl kont) ?_
    show own_Go p e below _ (T.setTop (mkF m 51 #[.val (.long l0), .second, .val (.long x), .second, .val (.int (Int32.ofNat k))] [(.long ((1 : Int64) <<< ((Int32.ofNat k).toInt64 &&& 63)))]))
    refine own_by (fun _ kont => XT.lconstV X.here hx rfl (1 : Int64) (hb hby d1_51) rfl kont) ?_
    show own_Go p e below _ (T.setTop (mkF m 52 #[.val (.long l0), .second, .val (.long x), .second, .val (.int (Int32.ofNat k))] [(.long (1 : Int64)), (.long ((1 : Int64) <<< ((Int32.ofNat k).toInt64 &&& 63)))]))
    refine own_by (fun _ kont => XT.lsub X.here hx rfl (hb hby d1_52) rfl kont) ?_
    show own_Go p e below _ (T.setTop (mkF m 53 #[.val (.long l0), .second, .val (.long x), .second, .val (.int (Int32.ofNat k))] [(.long (((1 : Int64) <<< ((Int32.ofNat k).toInt64 &&& 63)) - (1 : Int64)))]))
    refine own_by (fun _ kont => XT.lloadN X.here hx rfl (hb hby d1_53) rfl kont) ?_
    show own_Go p e below _ (T.setTop (mkF m 54 #[.val (.long l0), .second, .val (.long x), .second, .val (.int (Int32.ofNat k))] [(.long x), (.long (((1 : Int64) <<< ((Int32.ofNat k).toInt64 &&& 63)) - (1 : Int64)))]))
    refine own_by (fun _ kont => XT.lcmp X.here hx rfl (hb hby d1_54) rfl kont) ?_
    show own_Go p e below _ (T.setTop (mkF m 55 #[.val (.long l0), .second, .val (.long x), .second, .val (.int (Int32.ofNat k))] [(.int (XT.cmpL (((1 : Int64) <<< ((Int32.ofNat k).toInt64 &&& 63)) - (1 : Int64)) x))]))
    refine own_by (fun _ kont => XS.ifNo X.here hx rfl (hb hby d1_55) rfl (XT.ll_ge_f il) kont) ?_
    show own_Go p e below _ (T.setTop (mkF m 58 #[.val (.long l0), .second, .val (.long x), .second, .val (.int (Int32.ofNat k))] []))
    refine own_by (fun _ kont => XT.iincV X.here hx rfl (1 : Int32) (hb hby d1_58) rfl rfl (l' := #[.val (.long l0), .second, .val (.long x), .second, .val (.int ((Int32.ofNat k) + (1 : Int32)))]) rfl kont) ?_
    show own_Go p e below _ (T.setTop (mkF m 61 #[.val (.long l0), .second, .val (.long x), .second, .val (.int ((Int32.ofNat k) + (1 : Int32)))] []))
    refine own_by (fun _ kont => XS.goto X.here hx rfl (pc0 := 61) (pc' := 47) rfl (hb hby d1_61) (by decide) (by decide) kont) ?_
    show own_Go p e below _ (T.setTop (mkF m 47 #[.val (.long l0), .second, .val (.long x), .second, .val (.int ((Int32.ofNat k) + (1 : Int32)))] []))
    have i1 : Int32.ofNat k + (1 : Int32) = Int32.ofNat (k + 1) := own_inc ⟨k, by omega⟩
    rw [i1]
    exact ih (k + 1) (by omega) (by omega)
set_option maxRecDepth 65536 in
set_option maxHeartbeats 4000000 in
theorem own_m22 {p : Program} {l : Launch} {e : Env} {s : State} {m : MethodId} {args : Array Value} {below : List Frame} {meth : Method} {c : Code} {T : State} {locs : List Loc} {Z : State} {a0 : Array Value} {n0 : Nat} {h0 : Heap} (X : Stand p l e ({ frames := 0, cells := 0, slots := 0, locals := 0 } : Room) s m args below meth c T locs 0 0) (hx : p.tables.exec = Jvm.exec) (hby : c.code = prog_66_method_7_code) (hlk : meth.locks = false) (hret : meth.sig.returnType = some .long) (hZ : Z.Warmed39 s.vm) (hown : s.vm.findClass "com/example/lambdalane/lambdalane/TripletBacktracking" = some m.cls) (hw : ∀ d ∈ tables_1, d.before a0 Z = true) (hml : c.maxLocals = 5) (N : Fr n0 locs) (eT : T.heap = h0) (l0 : Int64) (n : Nat) : ∀ (x : Int64), x.toInt = n → 1 ≤ n →
    own_Go p e below (own_K s (own_Q (.long (Int64.ofNat (own_luby n))) h0 n0) 0 0) (T.setTop (mkF m 22 #[.val (.long l0), .second, .val (.long x), .second, .val (.int (Int32.ofNat (Nat.log2 n + 1)))] [])) := by
  induction n using Nat.strongRecOn with
  | ind n ih =>
  intro x hn h1
  have hlt := Int64.toInt_lt x
  have hself : 2 ^ Nat.log2 n ≤ n := Nat.log2_self_le (by omega)
  have hup : n < 2 ^ (Nat.log2 n + 1) := Nat.lt_log2_self
  have h63 : Nat.log2 n < 63 := (Nat.log2_lt (by omega)).mpr (by omega)
  obtain ⟨k, hk⟩ : ∃ k, k = Nat.log2 n + 1 := ⟨_, rfl⟩
  rw [← hk] at hup ⊢
  have hl : Nat.log2 n = k - 1 := by omega
  rw [hl] at hself
  have q := own_sh ⟨k, by omega⟩ (show 1 ≤ k by omega)
  have q1 := own_sh1 ⟨k, by omega⟩ (show 1 ≤ k by omega)
  have q2 := own_sh2 ⟨k, by omega⟩ (show 1 ≤ k by omega)
  simp only at q q1 q2
  have hp : (2 : Int) ^ k = ((2 ^ k : Nat) : Int) := by simp
  have hp1 : (2 : Int) ^ (k - 1) = ((2 ^ (k - 1) : Nat) : Int) := by simp
  have h2 : 2 ^ k = 2 * 2 ^ (k - 1) := by rw [← Nat.pow_succ']; congr 1; omega
  have hpos : 0 < 2 ^ (k - 1) := Nat.two_pow_pos _
  by_cases c30 : x = ((1 : Int64) <<< ((Int32.ofNat k).toInt64 &&& 63)) - (1 : Int64)
  · have hnk : n = 2 ^ k - 1 := by rw [c30, q, hp] at hn; omega
    rw [own_luby_hi (k := k) (by omega) hnk]
    refine own_by (fun _ kont => XT.lloadN X.here hx rfl (hb hby d1_22) rfl kont) ?_
    show own_Go p e below _ (T.setTop (mkF m 23 #[.val (.long l0), .second, .val (.long x), .second, .val (.int (Int32.ofNat k))] [(.long x)]))
    refine own_by (fun _ kont => XT.lconstV X.here hx rfl (1 : Int64) (hb hby d1_23) rfl kont) ?_
    show own_Go p e below _ (T.setTop (mkF m 24 #[.val (.long l0), .second, .val (.long x), .second, .val (.int (Int32.ofNat k))] [(.long (1 : Int64)), (.long x)]))
    refine own_by (fun _ kont => XS.iload X.here hx rfl (hb hby d1_24) rfl kont) ?_
    show own_Go p e below _ (T.setTop (mkF m 26 #[.val (.long l0), .second, .val (.long x), .second, .val (.int (Int32.ofNat k))] [(.int (Int32.ofNat k)), (.long (1 : Int64)), (.long x)]))
    refine own_by (fun _ kont => XT.lshl X.here hx rfl (hb hby d1_26) rfl kont) ?_
    show own_Go p e below _ (T.setTop (mkF m 27 #[.val (.long l0), .second, .val (.long x), .second, .val (.int (Int32.ofNat k))] [(.long ((1 : Int64) <<< ((Int32.ofNat k).toInt64 &&& 63))), (.long x)]))
    refine own_by (fun _ kont => XT.lconstV X.here hx rfl (1 : Int64) (hb hby d1_27) rfl kont) ?_
    show own_Go p e below _ (T.setTop (mkF m 28 #[.val (.long l0), .second, .val (.long x), .second, .val (.int (Int32.ofNat k))] [(.long (1 : Int64)), (.long ((1 : Int64) <<< ((Int32.ofNat k).toInt64 &&& 63))), (.long x)]))
    refine own_by (fun _ kont => XT.lsub X.here hx rfl (hb hby d1_28) rfl kont) ?_
    show own_Go p e below _ (T.setTop (mkF m 29 #[.val (.long l0), .second, .val (.long x), .second, .val (.int (Int32.ofNat k))] [(.long (((1 : Int64) <<< ((Int32.ofNat k).toInt64 &&& 63)) - (1 : Int64))), (.long x)]))
    refine own_by (fun _ kont => XT.lcmp X.here hx rfl (hb hby d1_29) rfl kont) ?_
    show own_Go p e below _ (T.setTop (mkF m 30 #[.val (.long l0), .second, .val (.long x), .second, .val (.int (Int32.ofNat k))] [(.int (XT.cmpL x (((1 : Int64) <<< ((Int32.ofNat k).toInt64 &&& 63)) - (1 : Int64))))]))
    refine own_by (fun _ kont => XS.ifYes X.here hx rfl (pc0 := 30) (pc' := 64) rfl (hb hby d1_30) rfl (XT.ll_eq_t c30) (by decide) (by decide) kont) ?_
    show own_Go p e below _ (T.setTop (mkF m 64 #[.val (.long l0), .second, .val (.long x), .second, .val (.int (Int32.ofNat k))] []))
    refine own_by (fun _ kont => XT.lconstV X.here hx rfl (1 : Int64) (hb hby d1_64) rfl kont) ?_
    show own_Go p e below _ (T.setTop (mkF m 65 #[.val (.long l0), .second, .val (.long x), .second, .val (.int (Int32.ofNat k))] [(.long (1 : Int64))]))
    refine own_by (fun _ kont => XS.iload X.here hx rfl (hb hby d1_65) rfl kont) ?_
    show own_Go p e below _ (T.setTop (mkF m 67 #[.val (.long l0), .second, .val (.long x), .second, .val (.int (Int32.ofNat k))] [(.int (Int32.ofNat k)), (.long (1 : Int64))]))
    refine own_by (fun _ kont => XT.iconstV X.here hx rfl (1 : Int32) (hb hby d1_67) rfl kont) ?_
    show own_Go p e below _ (T.setTop (mkF m 68 #[.val (.long l0), .second, .val (.long x), .second, .val (.int (Int32.ofNat k))] [(.int (1 : Int32)), (.int (Int32.ofNat k)), (.long (1 : Int64))]))
    refine own_by (fun _ kont => XS.isub X.here hx rfl (hb hby d1_68) rfl kont) ?_
    show own_Go p e below _ (T.setTop (mkF m 69 #[.val (.long l0), .second, .val (.long x), .second, .val (.int (Int32.ofNat k))] [(.int ((Int32.ofNat k) - (1 : Int32))), (.long (1 : Int64))]))
    refine own_by (fun _ kont => XT.lshl X.here hx rfl (hb hby d1_69) rfl kont) ?_
    show own_Go p e below _ (T.setTop (mkF m 70 #[.val (.long l0), .second, .val (.long x), .second, .val (.int (Int32.ofNat k))] [(.long ((1 : Int64) <<< (((Int32.ofNat k) - (1 : Int32)).toInt64 &&& 63)))]))
    rw [show (Int32.ofNat k - (1 : Int32)) = (Int32.ofNat k - 1) from rfl, q1]
    exact own_ret X hx hlk hret rfl (Or.inr (Or.inl ⟨rfl, rfl, _, rfl⟩)) (hb hby d1_70) ⟨rfl, N, eT⟩ (Nat.le_refl _) (Nat.le_refl _)
  · have hnk : ¬ n = 2 ^ k - 1 := fun z => c30 (Int64.toInt_inj.mp (by rw [q, hn, hp]; omega))
    rw [own_luby_lo (k := k) (by omega) (by omega) (by omega) hnk]
    refine own_by (fun _ kont => XT.lloadN X.here hx rfl (hb hby d1_22) rfl kont) ?_
    show own_Go p e below _ (T.setTop (mkF m 23 #[.val (.long l0), .second, .val (.long x), .second, .val (.int (Int32.ofNat k))] [(.long x)]))
    refine own_by (fun _ kont => XT.lconstV X.here hx rfl (1 : Int64) (hb hby d1_23) rfl kont) ?_
    show own_Go p e below _ (T.setTop (mkF m 24 #[.val (.long l0), .second, .val (.long x), .second, .val (.int (Int32.ofNat k))] [(.long (1 : Int64)), (.long x)]))
    refine own_by (fun _ kont => XS.iload X.here hx rfl (hb hby d1_24) rfl kont) ?_
    show own_Go p e below _ (T.setTop (mkF m 26 #[.val (.long l0), .second, .val (.long x), .second, .val (.int (Int32.ofNat k))] [(.int (Int32.ofNat k)), (.long (1 : Int64)), (.long x)]))
    refine own_by (fun _ kont => XT.lshl X.here hx rfl (hb hby d1_26) rfl kont) ?_
    show own_Go p e below _ (T.setTop (mkF m 27 #[.val (.long l0), .second, .val (.long x), .second, .val (.int (Int32.ofNat k))] [(.long ((1 : Int64) <<< ((Int32.ofNat k).toInt64 &&& 63))), (.long x)]))
    refine own_by (fun _ kont => XT.lconstV X.here hx rfl (1 : Int64) (hb hby d1_27) rfl kont) ?_
    show own_Go p e below _ (T.setTop (mkF m 28 #[.val (.long l0), .second, .val (.long x), .second, .val (.int (Int32.ofNat k))] [(.long (1 : Int64)), (.long ((1 : Int64) <<< ((Int32.ofNat k).toInt64 &&& 63))), (.long x)]))
    refine own_by (fun _ kont => XT.lsub X.here hx rfl (hb hby d1_28) rfl kont) ?_
    show own_Go p e below _ (T.setTop (mkF m 29 #[.val (.long l0), .second, .val (.long x), .second, .val (.int (Int32.ofNat k))] [(.long (((1 : Int64) <<< ((Int32.ofNat k).toInt64 &&& 63)) - (1 : Int64))), (.long x)]))
    refine own_by (fun _ kont => XT.lcmp X.here hx rfl (hb hby d1_29) rfl kont) ?_
    show own_Go p e below _ (T.setTop (mkF m 30 #[.val (.long l0), .second, .val (.long x), .second, .val (.int (Int32.ofNat k))] [(.int (XT.cmpL x (((1 : Int64) <<< ((Int32.ofNat k).toInt64 &&& 63)) - (1 : Int64))))]))
    refine own_by (fun _ kont => XS.ifNo X.here hx rfl (hb hby d1_30) rfl (XT.ll_eq_f c30) kont) ?_
    show own_Go p e below _ (T.setTop (mkF m 33 #[.val (.long l0), .second, .val (.long x), .second, .val (.int (Int32.ofNat k))] []))
    refine own_by (fun _ kont => XT.lloadN X.here hx rfl (hb hby d1_33) rfl kont) ?_
    show own_Go p e below _ (T.setTop (mkF m 34 #[.val (.long l0), .second, .val (.long x), .second, .val (.int (Int32.ofNat k))] [(.long x)]))
    refine own_by (fun _ kont => XT.lconstV X.here hx rfl (1 : Int64) (hb hby d1_34) rfl kont) ?_
    show own_Go p e below _ (T.setTop (mkF m 35 #[.val (.long l0), .second, .val (.long x), .second, .val (.int (Int32.ofNat k))] [(.long (1 : Int64)), (.long x)]))
    refine own_by (fun _ kont => XS.iload X.here hx rfl (hb hby d1_35) rfl kont) ?_
    show own_Go p e below _ (T.setTop (mkF m 37 #[.val (.long l0), .second, .val (.long x), .second, .val (.int (Int32.ofNat k))] [(.int (Int32.ofNat k)), (.long (1 : Int64)), (.long x)]))
    refine own_by (fun _ kont => XT.iconstV X.here hx rfl (1 : Int32) (hb hby d1_37) rfl kont) ?_
    show own_Go p e below _ (T.setTop (mkF m 38 #[.val (.long l0), .second, .val (.long x), .second, .val (.int (Int32.ofNat k))] [(.int (1 : Int32)), (.int (Int32.ofNat k)), (.long (1 : Int64)), (.long x)]))
    refine own_by (fun _ kont => XS.isub X.here hx rfl (hb hby d1_38) rfl kont) ?_
    show own_Go p e below _ (T.setTop (mkF m 39 #[.val (.long l0), .second, .val (.long x), .second, .val (.int (Int32.ofNat k))] [(.int ((Int32.ofNat k) - (1 : Int32))), (.long (1 : Int64)), (.long x)]))
    refine own_by (fun _ kont => XT.lshl X.here hx rfl (hb hby d1_39) rfl kont) ?_
    show own_Go p e below _ (T.setTop (mkF m 40 #[.val (.long l0), .second, .val (.long x), .second, .val (.int (Int32.ofNat k))] [(.long ((1 : Int64) <<< (((Int32.ofNat k) - (1 : Int32)).toInt64 &&& 63))), (.long x)]))
    refine own_by (fun _ kont => XT.lconstV X.here hx rfl (1 : Int64) (hb hby d1_40) rfl kont) ?_
    show own_Go p e below _ (T.setTop (mkF m 41 #[.val (.long l0), .second, .val (.long x), .second, .val (.int (Int32.ofNat k))] [(.long (1 : Int64)), (.long ((1 : Int64) <<< (((Int32.ofNat k) - (1 : Int32)).toInt64 &&& 63))), (.long x)]))
    refine own_by (fun _ kont => XT.lsub X.here hx rfl (hb hby d1_41) rfl kont) ?_
    show own_Go p e below _ (T.setTop (mkF m 42 #[.val (.long l0), .second, .val (.long x), .second, .val (.int (Int32.ofNat k))] [(.long (((1 : Int64) <<< (((Int32.ofNat k) - (1 : Int32)).toInt64 &&& 63)) - (1 : Int64))), (.long x)]))
    refine own_by (fun _ kont => XT.lsub X.here hx rfl (hb hby d1_42) rfl kont) ?_
    show own_Go p e below _ (T.setTop (mkF m 43 #[.val (.long l0), .second, .val (.long x), .second, .val (.int (Int32.ofNat k))] [(.long (x - (((1 : Int64) <<< (((Int32.ofNat k) - (1 : Int32)).toInt64 &&& 63)) - (1 : Int64))))]))
    refine own_by (fun _ kont => XT.lstoreN X.here hx rfl (hb hby d1_43) rfl (l' := #[.val (.long l0), .second, .val (.long (x - (((1 : Int64) <<< (((Int32.ofNat k) - (1 : Int32)).toInt64 &&& 63)) - (1 : Int64)))), .second, .val (.int (Int32.ofNat k))]) rfl kont) ?_
    show own_Go p e below _ (T.setTop (mkF m 44 #[.val (.long l0), .second, .val (.long (x - (((1 : Int64) <<< (((Int32.ofNat k) - (1 : Int32)).toInt64 &&& 63)) - (1 : Int64)))), .second, .val (.int (Int32.ofNat k))] []))
    refine own_by (fun _ kont => XT.iconstV X.here hx rfl (1 : Int32) (hb hby d1_44) rfl kont) ?_
    show own_Go p e below _ (T.setTop (mkF m 45 #[.val (.long l0), .second, .val (.long (x - (((1 : Int64) <<< (((Int32.ofNat k) - (1 : Int32)).toInt64 &&& 63)) - (1 : Int64)))), .second, .val (.int (Int32.ofNat k))] [(.int (1 : Int32))]))
    refine own_by (fun _ kont => XS.istore X.here hx rfl (hb hby d1_45) rfl (l' := #[.val (.long l0), .second, .val (.long (x - (((1 : Int64) <<< (((Int32.ofNat k) - (1 : Int32)).toInt64 &&& 63)) - (1 : Int64)))), .second, .val (.int (1 : Int32))]) rfl kont) ?_
    show own_Go p e below _ (T.setTop (mkF m 47 #[.val (.long l0), .second, .val (.long (x - (((1 : Int64) <<< (((Int32.ofNat k) - (1 : Int32)).toInt64 &&& 63)) - (1 : Int64)))), .second, .val (.int (1 : Int32))] []))
    have hk1 : 2 ≤ k := by
      rcases Nat.lt_or_ge k 2 with z | z
      · have : k = 1 := by omega
        subst this
        simp only [Nat.sub_self, Nat.pow_zero, Nat.pow_one] at *
        omega
      · exact z
    have hge : 2 ^ 1 ≤ 2 ^ (k - 1) := Nat.pow_le_pow_right (by omega) (by omega)
    have hs1 : (Int64.ofNat (2 ^ (k - 1)) - 1).toInt = 2 ^ (k - 1) - 1 := by
      rw [XT.sub64 (by rw [q2]; constructor <;> simp <;> omega), q2]; rfl
    have hx2 : ((x - (((1 : Int64) <<< (((Int32.ofNat k) - (1 : Int32)).toInt64 &&& 63)) - (1 : Int64)))).toInt = ((n - (2 ^ (k - 1) - 1) : Nat) : Int) := by
      rw [q1, XT.sub64 (by rw [hs1, hn, hp1]; constructor <;> omega), hs1, hn, hp1]; omega
    generalize (x - (((1 : Int64) <<< (((Int32.ofNat k) - (1 : Int32)).toInt64 &&& 63)) - (1 : Int64))) = y at hx2 ⊢
    refine own_l47 X hx hby hlk hret hZ hown hw hml N eT l0 y (n - (2 ^ (k - 1) - 1)) hx2 (by omega) ?_ (Nat.log2 (n - (2 ^ (k - 1) - 1))) 1 (by omega) (by omega)
    exact ih _ (by omega) y hx2 (by omega)
theorem own_ef1 (m : MethodId) (l0 : Int64) : entryFrame m #[(.long l0)] 5 = (mkF m 0 #[.val (.long l0), .second, .unset, .unset, .unset] []) := by first | (simp [entryFrame, mkF, argsToLocals, Value.category]; done) | rfl
set_option maxRecDepth 65536 in
set_option maxHeartbeats 4000000 in
theorem rm1 (l : Launch) (Z : State) (a0 : Array Value) (hw : ∀ d ∈ tables_1, d.before a0 Z = true) (ws : List Jvm.Cond) (l0 : Int64) (n : Nat) (hn : l0.toInt = n) (h1 : 1 ≤ n) (h0 : Heap) (n0 : Nat) :
    MetFree l (⟨"com/example/lambdalane/lambdalane/TripletBacktracking", "luby", "(J)J"⟩ : MethodName) (head1 (Jvm.Cond.code (⟨"com/example/lambdalane/lambdalane/TripletBacktracking", "luby", "(J)J"⟩ : MethodName) prog_66_method_7_code 5 (some .long) :: ws) ({ frames := 0, cells := 0, slots := 0, locals := 0 } : Room)) (fun a U => a = #[(.long l0)] ∧ Z.Warmed39 U.vm ∧ U.heap = h0) (fun _ _ _ _ _ => True) (fun _ U o U' => ∃ v L, o = .returned v ∧ own_Q (.long (Int64.ofNat (own_luby n))) h0 n0 v U'.heap L ∧ FrameEnd U o U' L ({ frames := 0, cells := 0, slots := 0, locals := 0 } : Room).cells ({ frames := 0, cells := 0, slots := 0, locals := 0 } : Room).slots) := by
  refine MetFree.of_bodySF (plainFor_of_name own_pn0) hisR ?_
  intro p e s m args below meth c s₁ Bd hml0 hP hK
  obtain ⟨rfl, hZ, hh⟩ := hP
  have hx := Bd.exec
  have hby := Bd.bytes
  have hml : c.maxLocals = 5 := hml0
  have hown : s.vm.findClass "com/example/lambdalane/lambdalane/TripletBacktracking" = some m.cls := findClass_of_methodNamed Bd.named
  have X0 : Stand p l e ({ frames := 0, cells := 0, slots := 0, locals := 0 } : Room) s m #[(.long l0)] below meth c s₁ [] 0 0 := Stand.of_body Bd
  have e0 : s₁.heap = h0 := by rw [← hh, Bd.state]; rfl
  have N0 := Fr.nil n0
  show own_Go p e below (own_K s (own_Q (.long (Int64.ofNat (own_luby n))) h0 n0) 0 0) _
  refine own_by (fun t k => castTop (own_ef1 m l0) k) ?_
  show own_Go p e below _ (s₁.setTop (mkF m 0 #[.val (.long l0), .second, .unset, .unset, .unset] []))
  refine own_by (fun _ kont => XT.lloadN X0.here hx rfl (hb hby d1_0) rfl kont) ?_
  show own_Go p e below _ (s₁.setTop (mkF m 1 #[.val (.long l0), .second, .unset, .unset, .unset] [(.long l0)]))
  refine own_by (fun _ kont => XT.lstoreN X0.here hx rfl (hb hby d1_1) rfl (l' := #[.val (.long l0), .second, .val (.long l0), .second, .unset]) rfl kont) ?_
  show own_Go p e below _ (s₁.setTop (mkF m 2 #[.val (.long l0), .second, .val (.long l0), .second, .unset] []))
  refine own_by (fun _ kont => XT.iconstV X0.here hx rfl (1 : Int32) (hb hby d1_2) rfl kont) ?_
  show own_Go p e below _ (s₁.setTop (mkF m 3 #[.val (.long l0), .second, .val (.long l0), .second, .unset] [(.int (1 : Int32))]))
  refine own_by (fun _ kont => XS.istore X0.here hx rfl (hb hby d1_3) rfl (l' := #[.val (.long l0), .second, .val (.long l0), .second, .val (.int (1 : Int32))]) rfl kont) ?_
  show own_Go p e below _ (s₁.setTop (mkF m 5 #[.val (.long l0), .second, .val (.long l0), .second, .val (.int (1 : Int32))] []))
  exact own_l5 X0 hx hby Bd.notSynchronized Bd.returns hZ hown hw hml N0 e0 l0 l0 n hn h1 (own_m22 X0 hx hby Bd.notSynchronized Bd.returns hZ hown hw hml N0 e0 l0 n l0 hn h1) (Nat.log2 n) 1 (by omega) (by omega)
theorem own_pn2 : plainName "com/example/lambdalane/lambdalane/TripletBacktrackingLubyPinLaw" = true := by first | (simp [plainName, overriddenIn]; done) | decide +kernel
theorem own_kk (a : Int32) : ∃ k : Nat, 1 ≤ k ∧ k ≤ 63 ∧ ((1 : Int32) + ((a &&& (2147483647 : Int32)) - ((a &&& (2147483647 : Int32)) / (63 : Int32)) * (63 : Int32))) = Int32.ofNat k := by
  have h := own_rem (x := a &&& 2147483647) (m := 63) (own_and 2147483647 (by decide) rfl).1 (by decide)
  have h63 : (63 : Int32).toInt = 63 := by decide
  have h1 : (1 : Int32).toInt = 1 := by decide
  rw [h63] at h
  have e : ((1 : Int32) + ((a &&& (2147483647 : Int32)) - ((a &&& (2147483647 : Int32)) / (63 : Int32)) * (63 : Int32))).toInt = 1 + ((a &&& (2147483647 : Int32)) - ((a &&& (2147483647 : Int32)) / (63 : Int32)) * (63 : Int32)).toInt := by
    rw [XT.add32 (by rw [h1]; constructor <;> omega), h1]
  generalize ((a &&& (2147483647 : Int32)) - ((a &&& (2147483647 : Int32)) / (63 : Int32)) * (63 : Int32)).toInt = z at h e
  exact ⟨(1 + z).toNat, by omega, by omega, own_ofNat32 (by rw [e]; omega)⟩
theorem own_ef0 (m : MethodId) (i0 : Int32) (i1 : Int64) : entryFrame m #[(.int i0), (.long i1)] maxLocals = (mkF m 0 #[.val (.int i0), .val (.long i1), .second, .unset, .unset, .unset, .unset, .unset, .unset, .unset, .unset, .unset] []) := by first | (simp [entryFrame, mkF, argsToLocals, Value.category, maxLocals]; done) | rfl
set_option maxRecDepth 65536 in
set_option maxHeartbeats 4000000 in
theorem rmL (l : Launch) (Z : State) (a0 : Array Value) (hw : ∀ d ∈ tables_1, d.before a0 Z = true) (ws : List Jvm.Cond) (i0 : Int32) (i1 : Int64) (h0 : Heap) (n0 : Nat) :
    MetFree l x (head1 (Jvm.Cond.code x code maxLocals ret :: ws) room_1) (fun a U => a = #[(.int i0), (.long i1)] ∧ Z.Warmed39 U.vm ∧ U.heap = h0) (fun _ _ _ _ _ => True) (fun _ U o U' => ∃ v L, o = .returned v ∧ (v = some (.int 1) ∧ Fr n0 L) ∧ FrameEnd U o U' L 0 0) := by
  refine MetFree.of_bodySF (plainFor_of_name own_pn2) hisR ?_
  intro p e s m args below meth c s₁ Bd hml0 hP hK
  obtain ⟨rfl, hZ, hh⟩ := hP
  have hx := Bd.exec
  have hby := Bd.bytes
  have hlk := Bd.notSynchronized
  have hret := Bd.returns
  have hml : c.maxLocals = 12 := hml0
  have hown : s.vm.findClass "com/example/lambdalane/lambdalane/TripletBacktrackingLubyPinLaw" = some m.cls := findClass_of_methodNamed Bd.named
  have X0 : Stand p l e room_1 s m #[(.int i0), (.long i1)] below meth c s₁ [] 0 0 := Stand.of_body Bd
  have e0 : s₁.heap = h0 := by rw [← hh, Bd.state]; rfl
  have N0 := Fr.nil n0
  show own_Go p e below (own_K s (fun v h L => v = some (.int 1) ∧ Fr n0 L) 0 0) _
  refine own_by (fun t k => castTop (own_ef0 m i0 i1) k) ?_
  show own_Go p e below _ (s₁.setTop (mkF m 0 #[.val (.int i0), .val (.long i1), .second, .unset, .unset, .unset, .unset, .unset, .unset, .unset, .unset, .unset] []))
  refine own_by (fun _ kont => XT.iconstV X0.here hx rfl (1 : Int32) (hb hby at_0) rfl kont) ?_
  show own_Go p e below _ (s₁.setTop (mkF m 1 #[.val (.int i0), .val (.long i1), .second, .unset, .unset, .unset, .unset, .unset, .unset, .unset, .unset, .unset] [(.int (1 : Int32))]))
  refine own_by (fun _ kont => XS.iloadN X0.here hx rfl (hb hby at_1) rfl kont) ?_
  show own_Go p e below _ (s₁.setTop (mkF m 2 #[.val (.int i0), .val (.long i1), .second, .unset, .unset, .unset, .unset, .unset, .unset, .unset, .unset, .unset] [(.int i0), (.int (1 : Int32))]))
  refine own_by (fun _ kont => X0.ldcI hx hown (v := (2147483647 : Int32)) (mvT hZ (hw _ (List.mem_of_getElem? (i := 0) rfl))) rfl (hb hby at_2) kont) ?_
  show own_Go p e below _ (s₁.setTop (mkF m 4 #[.val (.int i0), .val (.long i1), .second, .unset, .unset, .unset, .unset, .unset, .unset, .unset, .unset, .unset] [(.int (2147483647 : Int32)), (.int i0), (.int (1 : Int32))]))
  refine own_by (fun _ kont => XS.iand X0.here hx rfl (hb hby at_4) rfl kont) ?_
  show own_Go p e below _ (s₁.setTop (mkF m 5 #[.val (.int i0), .val (.long i1), .second, .unset, .unset, .unset, .unset, .unset, .unset, .unset, .unset, .unset] [(.int (i0 &&& (2147483647 : Int32))), (.int (1 : Int32))]))
  refine own_by (fun _ kont => XT.bipushV X0.here hx rfl (63 : Int32) (hb hby at_5) rfl kont) ?_
  show own_Go p e below _ (s₁.setTop (mkF m 7 #[.val (.int i0), .val (.long i1), .second, .unset, .unset, .unset, .unset, .unset, .unset, .unset, .unset, .unset] [(.int (63 : Int32)), (.int (i0 &&& (2147483647 : Int32))), (.int (1 : Int32))]))
  refine own_by (fun _ kont => XS.irem X0.here hx rfl (hb hby at_7) rfl (by decide) kont) ?_
  show own_Go p e below _ (s₁.setTop (mkF m 8 #[.val (.int i0), .val (.long i1), .second, .unset, .unset, .unset, .unset, .unset, .unset, .unset, .unset, .unset] [(.int ((i0 &&& (2147483647 : Int32)) - ((i0 &&& (2147483647 : Int32)) / (63 : Int32)) * (63 : Int32))), (.int (1 : Int32))]))
  refine own_by (fun _ kont => XS.iadd X0.here hx rfl (hb hby at_8) rfl kont) ?_
  show own_Go p e below _ (s₁.setTop (mkF m 9 #[.val (.int i0), .val (.long i1), .second, .unset, .unset, .unset, .unset, .unset, .unset, .unset, .unset, .unset] [(.int ((1 : Int32) + ((i0 &&& (2147483647 : Int32)) - ((i0 &&& (2147483647 : Int32)) / (63 : Int32)) * (63 : Int32))))]))
  obtain ⟨k, hk1, hk2, hke⟩ := own_kk i0
  rw [show ((1 : Int32) + ((i0 &&& (2147483647 : Int32)) - ((i0 &&& (2147483647 : Int32)) / (63 : Int32)) * (63 : Int32))) = Int32.ofNat k from hke]
  have hf : (⟨k, by omega⟩ : Fin 64).val = k := rfl
  have q := own_sh ⟨k, by omega⟩ hk1
  have q1 := own_sh1 ⟨k, by omega⟩ hk1
  have q2 := own_sh2 ⟨k, by omega⟩ hk1
  have q3 := own_msk ⟨k, by omega⟩ hk1
  simp only at q q1 q2 q3
  have hp : (2 : Int) ^ k = ((2 ^ k : Nat) : Int) := by simp
  have hp1 : (2 : Int) ^ (k - 1) = ((2 ^ (k - 1) : Nat) : Int) := by simp
  have h2 : 2 ^ k = 2 * 2 ^ (k - 1) := by rw [← Nat.pow_succ']; congr 1; omega
  have hpos : 0 < 2 ^ (k - 1) := Nat.two_pow_pos _
  have h63 : 2 ^ k ≤ 2 ^ 63 := Nat.pow_le_pow_right (by omega) (by omega)
  show own_Go p e below _ (s₁.setTop (mkF m 9 #[.val (.int i0), .val (.long i1), .second, .unset, .unset, .unset, .unset, .unset, .unset, .unset, .unset, .unset] [(.int (Int32.ofNat k))]))
  refine own_by (fun _ kont => XS.istoreN X0.here hx rfl (hb hby at_9) rfl (l' := #[.val (.int i0), .val (.long i1), .second, .val (.int (Int32.ofNat k)), .unset, .unset, .unset, .unset, .unset, .unset, .unset, .unset]) rfl kont) ?_
  show own_Go p e below _ (s₁.setTop (mkF m 10 #[.val (.int i0), .val (.long i1), .second, .val (.int (Int32.ofNat k)), .unset, .unset, .unset, .unset, .unset, .unset, .unset, .unset] []))
  refine own_by (fun _ kont => XT.lconstV X0.here hx rfl (1 : Int64) (hb hby at_10) rfl kont) ?_
  show own_Go p e below _ (s₁.setTop (mkF m 11 #[.val (.int i0), .val (.long i1), .second, .val (.int (Int32.ofNat k)), .unset, .unset, .unset, .unset, .unset, .unset, .unset, .unset] [(.long (1 : Int64))]))
  refine own_by (fun _ kont => XS.iloadN X0.here hx rfl (hb hby at_11) rfl kont) ?_
  show own_Go p e below _ (s₁.setTop (mkF m 12 #[.val (.int i0), .val (.long i1), .second, .val (.int (Int32.ofNat k)), .unset, .unset, .unset, .unset, .unset, .unset, .unset, .unset] [(.int (Int32.ofNat k)), (.long (1 : Int64))]))
  refine own_by (fun _ kont => XT.iconstV X0.here hx rfl (1 : Int32) (hb hby at_12) rfl kont) ?_
  show own_Go p e below _ (s₁.setTop (mkF m 13 #[.val (.int i0), .val (.long i1), .second, .val (.int (Int32.ofNat k)), .unset, .unset, .unset, .unset, .unset, .unset, .unset, .unset] [(.int (1 : Int32)), (.int (Int32.ofNat k)), (.long (1 : Int64))]))
  refine own_by (fun _ kont => XS.isub X0.here hx rfl (hb hby at_13) rfl kont) ?_
  show own_Go p e below _ (s₁.setTop (mkF m 14 #[.val (.int i0), .val (.long i1), .second, .val (.int (Int32.ofNat k)), .unset, .unset, .unset, .unset, .unset, .unset, .unset, .unset] [(.int ((Int32.ofNat k) - (1 : Int32))), (.long (1 : Int64))]))
  refine own_by (fun _ kont => XT.lshl X0.here hx rfl (hb hby at_14) rfl kont) ?_
  show own_Go p e below _ (s₁.setTop (mkF m 15 #[.val (.int i0), .val (.long i1), .second, .val (.int (Int32.ofNat k)), .unset, .unset, .unset, .unset, .unset, .unset, .unset, .unset] [(.long ((1 : Int64) <<< (((Int32.ofNat k) - (1 : Int32)).toInt64 &&& 63)))]))
  rw [q1]
  generalize hlo : Int64.ofNat (2 ^ (k - 1)) = lo at q2 q3 ⊢
  show own_Go p e below _ (s₁.setTop (mkF m 15 #[.val (.int i0), .val (.long i1), .second, .val (.int (Int32.ofNat k)), .unset, .unset, .unset, .unset, .unset, .unset, .unset, .unset] [(.long lo)]))
  refine own_by (fun _ kont => XT.lstore X0.here hx rfl (hb hby at_15) rfl (l' := #[.val (.int i0), .val (.long i1), .second, .val (.int (Int32.ofNat k)), .val (.long lo), .second, .unset, .unset, .unset, .unset, .unset, .unset]) rfl kont) ?_
  show own_Go p e below _ (s₁.setTop (mkF m 17 #[.val (.int i0), .val (.long i1), .second, .val (.int (Int32.ofNat k)), .val (.long lo), .second, .unset, .unset, .unset, .unset, .unset, .unset] []))
  refine own_by (fun _ kont => XT.lconstV X0.here hx rfl (1 : Int64) (hb hby at_17) rfl kont) ?_
  show own_Go p e below _ (s₁.setTop (mkF m 18 #[.val (.int i0), .val (.long i1), .second, .val (.int (Int32.ofNat k)), .val (.long lo), .second, .unset, .unset, .unset, .unset, .unset, .unset] [(.long (1 : Int64))]))
  refine own_by (fun _ kont => XS.iloadN X0.here hx rfl (hb hby at_18) rfl kont) ?_
  show own_Go p e below _ (s₁.setTop (mkF m 19 #[.val (.int i0), .val (.long i1), .second, .val (.int (Int32.ofNat k)), .val (.long lo), .second, .unset, .unset, .unset, .unset, .unset, .unset] [(.int (Int32.ofNat k)), (.long (1 : Int64))]))
  refine own_by (fun _ kont => XT.lshl X0.here hx rfl (hb hby at_19) rfl kont) ?_
  show own_Go p e below _ (s₁.setTop (mkF m 20 #[.val (.int i0), .val (.long i1), .second, .val (.int (Int32.ofNat k)), .val (.long lo), .second, .unset, .unset, .unset, .unset, .unset, .unset] [(.long ((1 : Int64) <<< ((Int32.ofNat k).toInt64 &&& 63)))]))
  refine own_by (fun _ kont => XT.lconstV X0.here hx rfl (1 : Int64) (hb hby at_20) rfl kont) ?_
  show own_Go p e below _ (s₁.setTop (mkF m 21 #[.val (.int i0), .val (.long i1), .second, .val (.int (Int32.ofNat k)), .val (.long lo), .second, .unset, .unset, .unset, .unset, .unset, .unset] [(.long (1 : Int64)), (.long ((1 : Int64) <<< ((Int32.ofNat k).toInt64 &&& 63)))]))
  refine own_by (fun _ kont => XT.lsub X0.here hx rfl (hb hby at_21) rfl kont) ?_
  show own_Go p e below _ (s₁.setTop (mkF m 22 #[.val (.int i0), .val (.long i1), .second, .val (.int (Int32.ofNat k)), .val (.long lo), .second, .unset, .unset, .unset, .unset, .unset, .unset] [(.long (((1 : Int64) <<< ((Int32.ofNat k).toInt64 &&& 63)) - (1 : Int64)))]))
  generalize hhi : (((1 : Int64) <<< ((Int32.ofNat k).toInt64 &&& 63)) - (1 : Int64)) = hi at q ⊢
  show own_Go p e below _ (s₁.setTop (mkF m 22 #[.val (.int i0), .val (.long i1), .second, .val (.int (Int32.ofNat k)), .val (.long lo), .second, .unset, .unset, .unset, .unset, .unset, .unset] [(.long hi)]))
  refine own_by (fun _ kont => XT.lstore X0.here hx rfl (hb hby at_22) rfl (l' := #[.val (.int i0), .val (.long i1), .second, .val (.int (Int32.ofNat k)), .val (.long lo), .second, .val (.long hi), .second, .unset, .unset, .unset, .unset]) rfl kont) ?_
  show own_Go p e below _ (s₁.setTop (mkF m 24 #[.val (.int i0), .val (.long i1), .second, .val (.int (Int32.ofNat k)), .val (.long lo), .second, .val (.long hi), .second, .unset, .unset, .unset, .unset] []))
  refine own_by (fun _ kont => XT.lload X0.here hx rfl (hb hby at_24) rfl kont) ?_
  show own_Go p e below _ (s₁.setTop (mkF m 26 #[.val (.int i0), .val (.long i1), .second, .val (.int (Int32.ofNat k)), .val (.long lo), .second, .val (.long hi), .second, .unset, .unset, .unset, .unset] [(.long lo)]))
  refine own_by (fun _ kont => XT.lloadN X0.here hx rfl (hb hby at_26) rfl kont) ?_
  show own_Go p e below _ (s₁.setTop (mkF m 27 #[.val (.int i0), .val (.long i1), .second, .val (.int (Int32.ofNat k)), .val (.long lo), .second, .val (.long hi), .second, .unset, .unset, .unset, .unset] [(.long i1), (.long lo)]))
  refine own_by (fun _ kont => XT.lload X0.here hx rfl (hb hby at_27) rfl kont) ?_
  show own_Go p e below _ (s₁.setTop (mkF m 29 #[.val (.int i0), .val (.long i1), .second, .val (.int (Int32.ofNat k)), .val (.long lo), .second, .val (.long hi), .second, .unset, .unset, .unset, .unset] [(.long lo), (.long i1), (.long lo)]))
  refine own_by (fun _ kont => XT.lconstV X0.here hx rfl (1 : Int64) (hb hby at_29) rfl kont) ?_
  show own_Go p e below _ (s₁.setTop (mkF m 30 #[.val (.int i0), .val (.long i1), .second, .val (.int (Int32.ofNat k)), .val (.long lo), .second, .val (.long hi), .second, .unset, .unset, .unset, .unset] [(.long (1 : Int64)), (.long lo), (.long i1), (.long lo)]))
  refine own_by (fun _ kont => XT.lsub X0.here hx rfl (hb hby at_30) rfl kont) ?_
  show own_Go p e below _ (s₁.setTop (mkF m 31 #[.val (.int i0), .val (.long i1), .second, .val (.int (Int32.ofNat k)), .val (.long lo), .second, .val (.long hi), .second, .unset, .unset, .unset, .unset] [(.long (lo - (1 : Int64))), (.long i1), (.long lo)]))
  refine own_by (fun _ kont => XT.land X0.here hx rfl (hb hby at_31) rfl kont) ?_
  show own_Go p e below _ (s₁.setTop (mkF m 32 #[.val (.int i0), .val (.long i1), .second, .val (.int (Int32.ofNat k)), .val (.long lo), .second, .val (.long hi), .second, .unset, .unset, .unset, .unset] [(.long (i1 &&& (lo - (1 : Int64)))), (.long lo)]))
  refine own_by (fun _ kont => XT.ladd X0.here hx rfl (hb hby at_32) rfl kont) ?_
  show own_Go p e below _ (s₁.setTop (mkF m 33 #[.val (.int i0), .val (.long i1), .second, .val (.int (Int32.ofNat k)), .val (.long lo), .second, .val (.long hi), .second, .unset, .unset, .unset, .unset] [(.long (lo + (i1 &&& (lo - (1 : Int64)))))]))
  have am := own_and64 (x := i1) (2 ^ (k - 1) - 1) (by omega) q3
  have hi0 : ((lo + (i1 &&& (lo - (1 : Int64))))).toInt = lo.toInt + (i1 &&& (lo - (1 : Int64))).toInt := XT.add64 (by rw [q2, hp1]; constructor <;> omega)
  rw [q2, hp1] at hi0
  obtain ⟨n, hn⟩ : ∃ n : Nat, ((lo + (i1 &&& (lo - (1 : Int64))))).toInt = n := ⟨((lo + (i1 &&& (lo - (1 : Int64))))).toInt.toNat, by omega⟩
  generalize (lo + (i1 &&& (lo - (1 : Int64)))) = y at hn hi0 ⊢
  have hn0 : 2 ^ (k - 1) ≤ n := by omega
  have hn1 : n < 2 ^ k := by omega
  show own_Go p e below _ (s₁.setTop (mkF m 33 #[.val (.int i0), .val (.long i1), .second, .val (.int (Int32.ofNat k)), .val (.long lo), .second, .val (.long hi), .second, .unset, .unset, .unset, .unset] [(.long y)]))
  refine own_by (fun _ kont => XT.lstore X0.here hx rfl (hb hby at_33) rfl (l' := #[.val (.int i0), .val (.long i1), .second, .val (.int (Int32.ofNat k)), .val (.long lo), .second, .val (.long hi), .second, .val (.long y), .second, .unset, .unset]) rfl kont) ?_
  show own_Go p e below _ (s₁.setTop (mkF m 35 #[.val (.int i0), .val (.long i1), .second, .val (.int (Int32.ofNat k)), .val (.long lo), .second, .val (.long hi), .second, .val (.long y), .second, .unset, .unset] []))
  refine own_by (fun _ kont => XT.lload X0.here hx rfl (hb hby at_35) rfl kont) ?_
  show own_Go p e below _ (s₁.setTop (mkF m 37 #[.val (.int i0), .val (.long i1), .second, .val (.int (Int32.ofNat k)), .val (.long lo), .second, .val (.long hi), .second, .val (.long y), .second, .unset, .unset] [(.long y)]))
  obtain ⟨_, _, ⟨T101, L101, k101, n101⟩, -, X101, ⟨Lc101, hQ101, l101, y101, z101⟩, st101⟩ := Jvm.LawKit.callS X0 hx (y := (⟨"com/example/lambdalane/lambdalane/TripletBacktracking", "luby", "(J)J"⟩ : MethodName)) hown (mvT hZ (hw _ (List.mem_of_getElem? (i := 1) rfl))) (mvT hZ (hw _ (List.mem_of_getElem? (i := 2) rfl))) (mvT hZ (hw _ (List.mem_of_getElem? (i := 3) rfl))) (mvT hZ (hw _ (List.mem_of_getElem? (i := 4) rfl))) (by decide) (backOf (W := 0) (rm1 l Z a0 hw [] y n hn (by omega) h0 n0) hZ (hw _ (List.mem_of_getElem? (i := 4) rfl)) (hw _ (List.mem_of_getElem? (i := 3) rfl)) (by decide) (by decide)) (g := (mkF m 37 #[.val (.int i0), .val (.long i1), .second, .val (.int (Int32.ofNat k)), .val (.long lo), .second, .val (.long hi), .second, .val (.long y), .second, .unset, .unset] [(.long y)])) rfl (by rw [hml]; rfl) (argsL := [(.long y)]) (rest := []) (lenOf own_pd1 rfl) rfl (by show 2 * 0 + _ ≤ _; exact Nat.le_of_eq rfl) (hb hby at_37) (fun _ _ => ⟨rfl, e0, (by decide : 0 + 0 ≤ _), (by decide : 0 + 0 ≤ _)⟩)
  dsimp only [Pt.U, Pt.locs, Pt.cells, Pt.slots] at X101 l101 y101 z101 st101 hQ101
  subst l101 y101 z101
  obtain ⟨rfl, N101, e101⟩ := hQ101
  have M101 := Fr.app N0 N101
  refine own_by st101 ?_
  show own_Go p e below _ (T101.setTop (mkF m 40 #[.val (.int i0), .val (.long i1), .second, .val (.int (Int32.ofNat k)), .val (.long lo), .second, .val (.long hi), .second, .val (.long y), .second, .unset, .unset] [(.long (Int64.ofNat (own_luby n)))]))
  refine own_by (fun _ kont => XT.lstore X101.here hx rfl (hb hby at_40) rfl (l' := #[.val (.int i0), .val (.long i1), .second, .val (.int (Int32.ofNat k)), .val (.long lo), .second, .val (.long hi), .second, .val (.long y), .second, .val (.long (Int64.ofNat (own_luby n))), .second]) rfl kont) ?_
  show own_Go p e below _ (T101.setTop (mkF m 42 #[.val (.int i0), .val (.long i1), .second, .val (.int (Int32.ofNat k)), .val (.long lo), .second, .val (.long hi), .second, .val (.long y), .second, .val (.long (Int64.ofNat (own_luby n))), .second] []))
  refine own_by (fun _ kont => XT.lload X101.here hx rfl (hb hby at_42) rfl kont) ?_
  show own_Go p e below _ (T101.setTop (mkF m 44 #[.val (.int i0), .val (.long i1), .second, .val (.int (Int32.ofNat k)), .val (.long lo), .second, .val (.long hi), .second, .val (.long y), .second, .val (.long (Int64.ofNat (own_luby n))), .second] [(.long y)]))
  refine own_by (fun _ kont => XT.lload X101.here hx rfl (hb hby at_44) rfl kont) ?_
  show own_Go p e below _ (T101.setTop (mkF m 46 #[.val (.int i0), .val (.long i1), .second, .val (.int (Int32.ofNat k)), .val (.long lo), .second, .val (.long hi), .second, .val (.long y), .second, .val (.long (Int64.ofNat (own_luby n))), .second] [(.long hi), (.long y)]))
  refine own_by (fun _ kont => XT.lcmp X101.here hx rfl (hb hby at_46) rfl kont) ?_
  show own_Go p e below _ (T101.setTop (mkF m 47 #[.val (.int i0), .val (.long i1), .second, .val (.int (Int32.ofNat k)), .val (.long lo), .second, .val (.long hi), .second, .val (.long y), .second, .val (.long (Int64.ofNat (own_luby n))), .second] [(.int (XT.cmpL y hi))]))
  by_cases c47 : y = hi
  · have hnk : n = 2 ^ k - 1 := by rw [c47, q, hp] at hn; omega
    have hgot : Int64.ofNat (own_luby n) = lo := by rw [own_luby_hi (k := k) hk1 hnk]; exact hlo
    refine own_by (fun _ kont => XS.ifNo X101.here hx rfl (hb hby at_47) rfl (XT.ll_ne_f c47) kont) ?_
    show own_Go p e below _ (T101.setTop (mkF m 50 #[.val (.int i0), .val (.long i1), .second, .val (.int (Int32.ofNat k)), .val (.long lo), .second, .val (.long hi), .second, .val (.long y), .second, .val (.long (Int64.ofNat (own_luby n))), .second] []))
    refine own_by (fun _ kont => XT.lload X101.here hx rfl (hb hby at_50) rfl kont) ?_
    show own_Go p e below _ (T101.setTop (mkF m 52 #[.val (.int i0), .val (.long i1), .second, .val (.int (Int32.ofNat k)), .val (.long lo), .second, .val (.long hi), .second, .val (.long y), .second, .val (.long (Int64.ofNat (own_luby n))), .second] [(.long (Int64.ofNat (own_luby n)))]))
    refine own_by (fun _ kont => XT.lload X101.here hx rfl (hb hby at_52) rfl kont) ?_
    show own_Go p e below _ (T101.setTop (mkF m 54 #[.val (.int i0), .val (.long i1), .second, .val (.int (Int32.ofNat k)), .val (.long lo), .second, .val (.long hi), .second, .val (.long y), .second, .val (.long (Int64.ofNat (own_luby n))), .second] [(.long lo), (.long (Int64.ofNat (own_luby n)))]))
    refine own_by (fun _ kont => XT.lcmp X101.here hx rfl (hb hby at_54) rfl kont) ?_
    show own_Go p e below _ (T101.setTop (mkF m 55 #[.val (.int i0), .val (.long i1), .second, .val (.int (Int32.ofNat k)), .val (.long lo), .second, .val (.long hi), .second, .val (.long y), .second, .val (.long (Int64.ofNat (own_luby n))), .second] [(.int (XT.cmpL (Int64.ofNat (own_luby n)) lo))]))
    refine own_by (fun _ kont => XS.ifNo X101.here hx rfl (hb hby at_55) rfl (XT.ll_ne_f hgot) kont) ?_
    show own_Go p e below _ (T101.setTop (mkF m 58 #[.val (.int i0), .val (.long i1), .second, .val (.int (Int32.ofNat k)), .val (.long lo), .second, .val (.long hi), .second, .val (.long y), .second, .val (.long (Int64.ofNat (own_luby n))), .second] []))
    refine own_by (fun _ kont => XT.iconstV X101.here hx rfl (1 : Int32) (hb hby at_58) rfl kont) ?_
    show own_Go p e below _ (T101.setTop (mkF m 59 #[.val (.int i0), .val (.long i1), .second, .val (.int (Int32.ofNat k)), .val (.long lo), .second, .val (.long hi), .second, .val (.long y), .second, .val (.long (Int64.ofNat (own_luby n))), .second] [(.int (1 : Int32))]))
    refine own_by (fun _ kont => XS.goto X101.here hx rfl (pc0 := 59) (pc' := 63) rfl (hb hby at_59) (by decide) (by decide) kont) ?_
    show own_Go p e below _ (T101.setTop (mkF m 63 #[.val (.int i0), .val (.long i1), .second, .val (.int (Int32.ofNat k)), .val (.long lo), .second, .val (.long hi), .second, .val (.long y), .second, .val (.long (Int64.ofNat (own_luby n))), .second] [(.int (1 : Int32))]))
    exact own_ret X101 hx hlk hret rfl (Or.inl ⟨rfl, by simp, _, rfl⟩) (hb hby at_63) ⟨rfl, M101⟩ (by decide) (by decide)
  · have hnk : ¬ n = 2 ^ k - 1 := fun z => c47 (Int64.toInt_inj.mp (by rw [q, hn, hp]; omega))
    have hgot := own_luby_lo (k := k) hk1 hn0 hn1 hnk
    have hd : (y - lo).toInt = y.toInt - lo.toInt := XT.sub64 (by rw [q2, hn, hp1]; constructor <;> omega)
    rw [hn, q2, hp1] at hd
    have hm0 : ((y - lo) + (1 : Int64)).toInt = (y - lo).toInt + (1 : Int64).toInt := XT.add64 (by rw [hd, show (1 : Int64).toInt = 1 from rfl]; constructor <;> omega)
    rw [hd, show (1 : Int64).toInt = 1 from rfl] at hm0
    have hm : ((y - lo) + (1 : Int64)).toInt = ((n - (2 ^ (k - 1) - 1) : Nat) : Int) := by omega
    refine own_by (fun _ kont => XS.ifYes X101.here hx rfl (pc0 := 47) (pc' := 64) rfl (hb hby at_47) rfl (XT.ll_ne_t c47) (by decide) (by decide) kont) ?_
    show own_Go p e below _ (T101.setTop (mkF m 64 #[.val (.int i0), .val (.long i1), .second, .val (.int (Int32.ofNat k)), .val (.long lo), .second, .val (.long hi), .second, .val (.long y), .second, .val (.long (Int64.ofNat (own_luby n))), .second] []))
    refine own_by (fun _ kont => XT.lload X101.here hx rfl (hb hby at_64) rfl kont) ?_
    show own_Go p e below _ (T101.setTop (mkF m 66 #[.val (.int i0), .val (.long i1), .second, .val (.int (Int32.ofNat k)), .val (.long lo), .second, .val (.long hi), .second, .val (.long y), .second, .val (.long (Int64.ofNat (own_luby n))), .second] [(.long (Int64.ofNat (own_luby n)))]))
    refine own_by (fun _ kont => XT.lload X101.here hx rfl (hb hby at_66) rfl kont) ?_
    show own_Go p e below _ (T101.setTop (mkF m 68 #[.val (.int i0), .val (.long i1), .second, .val (.int (Int32.ofNat k)), .val (.long lo), .second, .val (.long hi), .second, .val (.long y), .second, .val (.long (Int64.ofNat (own_luby n))), .second] [(.long y), (.long (Int64.ofNat (own_luby n)))]))
    refine own_by (fun _ kont => XT.lload X101.here hx rfl (hb hby at_68) rfl kont) ?_
    show own_Go p e below _ (T101.setTop (mkF m 70 #[.val (.int i0), .val (.long i1), .second, .val (.int (Int32.ofNat k)), .val (.long lo), .second, .val (.long hi), .second, .val (.long y), .second, .val (.long (Int64.ofNat (own_luby n))), .second] [(.long lo), (.long y), (.long (Int64.ofNat (own_luby n)))]))
    refine own_by (fun _ kont => XT.lsub X101.here hx rfl (hb hby at_70) rfl kont) ?_
    show own_Go p e below _ (T101.setTop (mkF m 71 #[.val (.int i0), .val (.long i1), .second, .val (.int (Int32.ofNat k)), .val (.long lo), .second, .val (.long hi), .second, .val (.long y), .second, .val (.long (Int64.ofNat (own_luby n))), .second] [(.long (y - lo)), (.long (Int64.ofNat (own_luby n)))]))
    refine own_by (fun _ kont => XT.lconstV X101.here hx rfl (1 : Int64) (hb hby at_71) rfl kont) ?_
    show own_Go p e below _ (T101.setTop (mkF m 72 #[.val (.int i0), .val (.long i1), .second, .val (.int (Int32.ofNat k)), .val (.long lo), .second, .val (.long hi), .second, .val (.long y), .second, .val (.long (Int64.ofNat (own_luby n))), .second] [(.long (1 : Int64)), (.long (y - lo)), (.long (Int64.ofNat (own_luby n)))]))
    refine own_by (fun _ kont => XT.ladd X101.here hx rfl (hb hby at_72) rfl kont) ?_
    show own_Go p e below _ (T101.setTop (mkF m 73 #[.val (.int i0), .val (.long i1), .second, .val (.int (Int32.ofNat k)), .val (.long lo), .second, .val (.long hi), .second, .val (.long y), .second, .val (.long (Int64.ofNat (own_luby n))), .second] [(.long ((y - lo) + (1 : Int64))), (.long (Int64.ofNat (own_luby n)))]))
    obtain ⟨_, _, ⟨T102, L102, k102, n102⟩, -, X102, ⟨Lc102, hQ102, l102, y102, z102⟩, st102⟩ := Jvm.LawKit.callS X101 hx (y := (⟨"com/example/lambdalane/lambdalane/TripletBacktracking", "luby", "(J)J"⟩ : MethodName)) hown (mvT hZ (hw _ (List.mem_of_getElem? (i := 1) rfl))) (mvT hZ (hw _ (List.mem_of_getElem? (i := 2) rfl))) (mvT hZ (hw _ (List.mem_of_getElem? (i := 3) rfl))) (mvT hZ (hw _ (List.mem_of_getElem? (i := 4) rfl))) (by decide) (backOf (W := 2) (rm1 l Z a0 hw [] ((y - lo) + (1 : Int64)) (n - (2 ^ (k - 1) - 1)) hm (by omega) h0 n0) hZ (hw _ (List.mem_of_getElem? (i := 4) rfl)) (hw _ (List.mem_of_getElem? (i := 3) rfl)) (by decide) (by decide)) (g := (mkF m 73 #[.val (.int i0), .val (.long i1), .second, .val (.int (Int32.ofNat k)), .val (.long lo), .second, .val (.long hi), .second, .val (.long y), .second, .val (.long (Int64.ofNat (own_luby n))), .second] [(.long ((y - lo) + (1 : Int64))), (.long (Int64.ofNat (own_luby n)))])) rfl (by rw [hml]; rfl) (argsL := [(.long ((y - lo) + (1 : Int64)))]) (rest := [(.long (Int64.ofNat (own_luby n)))]) (lenOf own_pd1 rfl) rfl (by show 2 * 0 + _ ≤ _; exact Nat.le_of_eq rfl) (hb hby at_73) (fun _ _ => ⟨rfl, e101, (by decide : 0 + 0 ≤ _), (by decide : 0 + 0 ≤ _)⟩)
    dsimp only [Pt.U, Pt.locs, Pt.cells, Pt.slots] at X102 l102 y102 z102 st102 hQ102
    subst l102 y102 z102
    obtain ⟨rfl, N102, e102⟩ := hQ102
    have M102 := Fr.app M101 N102
    refine own_by st102 ?_
    show own_Go p e below _ (T102.setTop (mkF m 76 #[.val (.int i0), .val (.long i1), .second, .val (.int (Int32.ofNat k)), .val (.long lo), .second, .val (.long hi), .second, .val (.long y), .second, .val (.long (Int64.ofNat (own_luby n))), .second] [(.long (Int64.ofNat (own_luby (n - (2 ^ (k - 1) - 1))))), (.long (Int64.ofNat (own_luby n)))]))
    refine own_by (fun _ kont => XT.lcmp X102.here hx rfl (hb hby at_76) rfl kont) ?_
    show own_Go p e below _ (T102.setTop (mkF m 77 #[.val (.int i0), .val (.long i1), .second, .val (.int (Int32.ofNat k)), .val (.long lo), .second, .val (.long hi), .second, .val (.long y), .second, .val (.long (Int64.ofNat (own_luby n))), .second] [(.int (XT.cmpL (Int64.ofNat (own_luby n)) (Int64.ofNat (own_luby (n - (2 ^ (k - 1) - 1))))))]))
    refine own_by (fun _ kont => XS.ifNo X102.here hx rfl (hb hby at_77) rfl (XT.ll_ne_f (congrArg Int64.ofNat hgot)) kont) ?_
    show own_Go p e below _ (T102.setTop (mkF m 80 #[.val (.int i0), .val (.long i1), .second, .val (.int (Int32.ofNat k)), .val (.long lo), .second, .val (.long hi), .second, .val (.long y), .second, .val (.long (Int64.ofNat (own_luby n))), .second] []))
    refine own_by (fun _ kont => XT.iconstV X102.here hx rfl (1 : Int32) (hb hby at_80) rfl kont) ?_
    show own_Go p e below _ (T102.setTop (mkF m 81 #[.val (.int i0), .val (.long i1), .second, .val (.int (Int32.ofNat k)), .val (.long lo), .second, .val (.long hi), .second, .val (.long y), .second, .val (.long (Int64.ofNat (own_luby n))), .second] [(.int (1 : Int32))]))
    refine own_by (fun _ kont => XS.goto X102.here hx rfl (pc0 := 81) (pc' := 85) rfl (hb hby at_81) (by decide) (by decide) kont) ?_
    show own_Go p e below _ (T102.setTop (mkF m 85 #[.val (.int i0), .val (.long i1), .second, .val (.int (Int32.ofNat k)), .val (.long lo), .second, .val (.long hi), .second, .val (.long y), .second, .val (.long (Int64.ofNat (own_luby n))), .second] [(.int (1 : Int32))]))
    exact own_ret X102 hx hlk hret rfl (Or.inl ⟨rfl, by simp, _, rfl⟩) (hb hby at_85) ⟨rfl, M102⟩ (by decide) (by decide)
set_option maxRecDepth 65536 in
set_option maxHeartbeats 4000000 in
theorem comes_1 {Post : Tables → Env → Array Value → State → Outcome → State → Prop} (hpost : ∀ tb e args s v u, (limb_1_1.after args s (.returned v) u = true ∧ limb_1_2.after args s (.returned v) u = true ∧ True) → FrameEnd s (.returned v) u (Jvm.fieldLocs frame_1_writes args s ++ Jvm.arrayLocs frame_1_arrays args s ++ Jvm.staticLocs frame_1_statics s) 0 0 → Post tb e args s (.returned v) u) :
    ArmFor flags0 classFile x code maxLocals ret World_1 tables_1 room_1 Calls_1 rest_1 Pre_1 Post := by
  intro l hfl _ _ p e ha hc hk s m args below hf hA hF happ hP
  obtain ⟨hcalls, hrest, hpre⟩ := hP
  obtain ⟨-, -, -, hnamed, -, -, -, hat⟩ := (Spec.applies_iff hf).mp happ
  obtain ⟨hg, hn⟩ := and_e (Cond.before_iff.mp (show (Jvm.Cond.and given_1 narrow_1).before args s = true from hpre))
  obtain ⟨h1, g0⟩ := and_e hg
  obtain ⟨q0, g1⟩ := and_e g0
  obtain ⟨w0, w1, rfl⟩ : ∃ w0 w1 : Value, args = #[w0, w1] := by
    have hs : args.size = 2 := by simpa [Cond.value, given_1] using h1
    obtain ⟨L⟩ := args
    match L, hs with
    | [w0, w1], _ => exact ⟨w0, w1, rfl⟩
  have hw := fun d (hd : d ∈ tables_1) => atoms_spec (ws := Jvm.Cond.code x code maxLocals ret :: tables_1) hat d (List.mem_cons_of_mem _ hd)
  obtain ⟨i0, ei0⟩ := is_v q0
  obtain rfl : w0 = (.int i0) := Option.some.inj ei0
  obtain ⟨i1, ei1⟩ := isL_v g1
  obtain rfl : w1 = (.long i1) := Option.some.inj ei1
  obtain ⟨n, o, h1, h2, h3, _, L, rfl, ⟨rfl, N⟩, hq⟩ := rmL l s _ hw tables_1 i0 i1 s.heap s.heap.size  p e ha hc hk s m _ below hf ((Spec.applies_iff_loose hf).mp happ).1 ⟨rfl, State.Warmed39.refl s, rfl⟩ trivial
  refine ⟨n, _, h1, h2, h3, hpost _ _ _ _ _ _ ⟨Cond.after_iff.mpr rfl, Cond.after_iff.mpr (eq_i res_at (Term.int_eval (1)) rfl), trivial⟩ ⟨hq.1, hq.2.1, (hq.2.2.sift fun y hy => Or.inr (N y hy)).mono (by decide) (by decide)⟩⟩
theorem main_1_1 : Claimed_1_1 := comes_1 fun _ _ _ _ _ _ h hF => ⟨h.1, hF⟩
theorem main_1_2 : Claimed_1_2 := comes_1 fun _ _ _ _ _ _ h hF => ⟨h.2.1, hF⟩
end Jvm.Pilot.@@N@@
namespace Jvm.Pilot.@@N@@
open Jvm Jvm.ClassFile Sem Op Lib Jvm.Free Jvm.Stand Jvm.Pilot.@@N@@.Jvm.D
/-! MADE BY PROGRAM (witnessworld.py) out of the Statement's table words and the real class files: 9 classes; the members and pool entries that the words name. The judged class is class 1, her method 1. -/
namespace start1
open Jvm.ClassFile
def u (s : String) : CpInfo := .utf8 (stringToUtf16 s)
/-- a pool by its gaps: so many unusable entries, then the entry; so many at the end -/
def gap : Nat → List CpInfo → List CpInfo
  | 0, r => r
  | n + 1, r => .unusable :: gap n r
def poolList (es : List (Nat × CpInfo)) (last : Nat) : List CpInfo := es.foldr (fun e r => gap e.1 (e.2 :: r)) (gap last [])
def pool (es : List (Nat × CpInfo)) (last : Nat) : Array CpInfo := ⟨poolList es last⟩
def fileOf (pool : Array CpInfo) (this : Nat) (attrs : Array Attribute := #[]) (ms : Array MethodInfo := #[]) (fl : Nat := 33) (sup : Nat := 0) (ifs : Array Nat := #[]) (fds : Array FieldInfo := #[]) : ClassFile where
  minorVersion := 0
  majorVersion := 65
  constantPool := pool
  accessFlags := fl
  thisClass := this
  superClass := sup
  interfaces := ifs
  fields := fds
  methods := ms
  attributes := attrs
def plain (name : String) (sup : Option ClassId) : Class where
  name := name
  kind := .ordinary
  loader := none
  accessFlags := 33
  super := sup
  interfaces := #[]
  cf := none
  fields := #[]
  methods := #[]
  instanceTypes := #[]
  staticTypes := #[]
  resolved := #[]
  callSites := []
  init := .initialized
  statics := none
  mirror := none

def pool0 : Array CpInfo := pool [(5, u "<init>"), (0, u "()V"), (1, .class_ 10), (1, u "java/lang/Object")] 113

def k0m0 : Method := { name := "<init>", desc := "()V", sig := { parameters := [], returnType := none }, accessFlags := 1, code := none }
/-- java/lang/Object -/
def k0 : Class := { plain "java/lang/Object" none with
  accessFlags := 33
  interfaces := #[]
  cf := some (fileOf pool0 8 #[] #[{ accessFlags := 1, nameIndex := 5, descriptorIndex := 6, attributes := #[] }] 33 0 #[] #[])
  fields := #[]
  methods := #[k0m0]
  instanceTypes := #[]
  staticTypes := #[]
  resolved := Array.replicate 124 none
  statics := none }

def pool1 : Array CpInfo := pool [(2, .class_ 4), (1, u "java/lang/Object"), (0, u "<init>"), (0, u "()V"), (0, .integer 2147483647), (0, .methodref 9 10), (0, .class_ 11), (0, .nameAndType 12 13), (0, u "com/example/lambdalane/lambdalane/TripletBacktracking"), (0, u "luby"), (0, u "(J)J"), (0, .class_ 15), (0, u "com/example/lambdalane/lambdalane/TripletBacktrackingLubyPinLaw"), (2, u "law"), (0, u "(IJ)Z")] 3

def k1m0 : Method := { name := "<init>", desc := "()V", sig := { parameters := [], returnType := none }, accessFlags := 1, code := none }
def k1c1 : Code := { maxStack := 8, maxLocals := 12, code := code, exceptionTable := #[], attributes := #[] }
def k1m1 : Method := { name := "law", desc := "(IJ)Z", sig := { parameters := [.int, .long], returnType := some .boolean }, accessFlags := 9, code := some k1c1 }
/-- com/example/lambdalane/lambdalane/TripletBacktrackingLubyPinLaw -/
def k1 : Class := { plain "com/example/lambdalane/lambdalane/TripletBacktrackingLubyPinLaw" (some 0) with
  accessFlags := 49
  interfaces := #[]
  cf := some (fileOf pool1 14 #[] #[{ accessFlags := 1, nameIndex := 5, descriptorIndex := 6, attributes := #[] }, { accessFlags := 9, nameIndex := 18, descriptorIndex := 19, attributes := #[] }] 49 2 #[] #[])
  fields := #[]
  methods := #[k1m0, k1m1]
  instanceTypes := #[]
  staticTypes := #[]
  resolved := Array.replicate 23 none
  statics := none }

def pool2 : Array CpInfo := pool [(2, .class_ 4), (1, u "java/lang/Object"), (8, .class_ 15), (1, u "com/example/lambdalane/lambdalane/TripletBacktracking"), (0, u "free"), (0, u "Lcom/example/lambdalane/lambdalane/IntList;"), (1, u "[I"), (2, u "bucket"), (0, u "[[I"), (2, u "bucketSize"), (2, u "order"), (2, u "graph"), (0, u "Lcom/example/lambdalane/lambdalane/NodeGraph;"), (2, u "palette"), (5, u "I"), (2, u "seen"), (2, u "outside"), (33, u "place"), (8, u "first"), (8, u "incident"), (6, u "bucketOf"), (2, u "indexInBucket"), (5, u "CALLS"), (0, u "Ljava/util/concurrent/atomic/LongAdder;"), (31, u "luby"), (0, u "(J)J"), (46, u "STEPS_PER_EDGE"), (2, u "RUN_STEPS_PER_EDGE"), (1, u "ALL"), (1, u "SEED"), (0, u "J"), (0, u "FOUND"), (1, u "NONE"), (1, u "STOPPED")] 9

def k2c0 : Code := { maxStack := 6, maxLocals := 5, code := prog_66_method_7_code, exceptionTable := #[], attributes := #[] }
def k2m0 : Method := { name := "luby", desc := "(J)J", sig := { parameters := [.long], returnType := some .long }, accessFlags := 8, code := some k2c0 }
/-- com/example/lambdalane/lambdalane/TripletBacktracking -/
def k2 : Class := { plain "com/example/lambdalane/lambdalane/TripletBacktracking" (some 0) with
  accessFlags := 48
  interfaces := #[]
  cf := some (fileOf pool2 13 #[] #[{ accessFlags := 8, nameIndex := 149, descriptorIndex := 150, attributes := #[] }] 48 2 #[] #[{ accessFlags := 24, nameIndex := 197, descriptorIndex := 42, attributes := #[] }, { accessFlags := 26, nameIndex := 200, descriptorIndex := 42, attributes := #[] }, { accessFlags := 26, nameIndex := 202, descriptorIndex := 42, attributes := #[] }, { accessFlags := 26, nameIndex := 204, descriptorIndex := 205, attributes := #[] }, { accessFlags := 26, nameIndex := 116, descriptorIndex := 117, attributes := #[] }, { accessFlags := 26, nameIndex := 206, descriptorIndex := 42, attributes := #[] }, { accessFlags := 26, nameIndex := 208, descriptorIndex := 42, attributes := #[] }, { accessFlags := 26, nameIndex := 210, descriptorIndex := 42, attributes := #[] }, { accessFlags := 18, nameIndex := 32, descriptorIndex := 33, attributes := #[] }, { accessFlags := 18, nameIndex := 36, descriptorIndex := 19, attributes := #[] }, { accessFlags := 18, nameIndex := 16, descriptorIndex := 17, attributes := #[] }, { accessFlags := 18, nameIndex := 82, descriptorIndex := 19, attributes := #[] }, { accessFlags := 18, nameIndex := 45, descriptorIndex := 19, attributes := #[] }, { accessFlags := 18, nameIndex := 48, descriptorIndex := 19, attributes := #[] }, { accessFlags := 18, nameIndex := 91, descriptorIndex := 19, attributes := #[] }, { accessFlags := 18, nameIndex := 100, descriptorIndex := 19, attributes := #[] }, { accessFlags := 18, nameIndex := 22, descriptorIndex := 23, attributes := #[] }, { accessFlags := 18, nameIndex := 26, descriptorIndex := 19, attributes := #[] }, { accessFlags := 18, nameIndex := 107, descriptorIndex := 19, attributes := #[] }, { accessFlags := 18, nameIndex := 110, descriptorIndex := 19, attributes := #[] }, { accessFlags := 18, nameIndex := 29, descriptorIndex := 19, attributes := #[] }])
  fields := #[{ name := "STEPS_PER_EDGE", type := .int, accessFlags := 24, slot := 0, constantValue := 0 }, { name := "RUN_STEPS_PER_EDGE", type := .int, accessFlags := 26, slot := 1, constantValue := 0 }, { name := "ALL", type := .int, accessFlags := 26, slot := 2, constantValue := 0 }, { name := "SEED", type := .long, accessFlags := 26, slot := 3, constantValue := 0 }, { name := "CALLS", type := (.object "java/util/concurrent/atomic/LongAdder"), accessFlags := 26, slot := 4, constantValue := 0 }, { name := "FOUND", type := .int, accessFlags := 26, slot := 5, constantValue := 0 }, { name := "NONE", type := .int, accessFlags := 26, slot := 6, constantValue := 0 }, { name := "STOPPED", type := .int, accessFlags := 26, slot := 7, constantValue := 0 }, { name := "graph", type := (.object "com/example/lambdalane/lambdalane/NodeGraph"), accessFlags := 18, slot := 0, constantValue := 0 }, { name := "palette", type := (.array .int), accessFlags := 18, slot := 1, constantValue := 0 }, { name := "free", type := (.object "com/example/lambdalane/lambdalane/IntList"), accessFlags := 18, slot := 2, constantValue := 0 }, { name := "place", type := (.array .int), accessFlags := 18, slot := 3, constantValue := 0 }, { name := "seen", type := (.array .int), accessFlags := 18, slot := 4, constantValue := 0 }, { name := "outside", type := (.array .int), accessFlags := 18, slot := 5, constantValue := 0 }, { name := "first", type := (.array .int), accessFlags := 18, slot := 6, constantValue := 0 }, { name := "incident", type := (.array .int), accessFlags := 18, slot := 7, constantValue := 0 }, { name := "bucket", type := (.array (.array .int)), accessFlags := 18, slot := 8, constantValue := 0 }, { name := "bucketSize", type := (.array .int), accessFlags := 18, slot := 9, constantValue := 0 }, { name := "bucketOf", type := (.array .int), accessFlags := 18, slot := 10, constantValue := 0 }, { name := "indexInBucket", type := (.array .int), accessFlags := 18, slot := 11, constantValue := 0 }, { name := "order", type := (.array .int), accessFlags := 18, slot := 12, constantValue := 0 }]
  methods := #[k2m0]
  instanceTypes := #[(.object "com/example/lambdalane/lambdalane/NodeGraph"), (.array .int), (.object "com/example/lambdalane/lambdalane/IntList"), (.array .int), (.array .int), (.array .int), (.array .int), (.array .int), (.array (.array .int)), (.array .int), (.array .int), (.array .int), (.array .int)]
  staticTypes := #[.int, .int, .int, .long, (.object "java/util/concurrent/atomic/LongAdder"), .int, .int, .int]
  resolved := Array.replicate 220 none
  statics := none }

def pool3 : Array CpInfo := pool [(1, u "java/lang/Cloneable"), (0, .class_ 1), (0, u "java/lang/Object"), (0, .class_ 3)] 3

/-- java/lang/Cloneable -/
def k3 : Class := { plain "java/lang/Cloneable" (some 0) with
  accessFlags := 1537
  interfaces := #[]
  cf := some (fileOf pool3 2 #[] #[] 1537 4 #[] #[])
  fields := #[]
  methods := #[]
  instanceTypes := #[]
  staticTypes := #[]
  resolved := Array.replicate 8 none
  statics := none }

def pool4 : Array CpInfo := pool [(1, u "java/io/Serializable"), (0, .class_ 1), (0, u "java/lang/Object"), (0, .class_ 3)] 3

/-- java/io/Serializable -/
def k4 : Class := { plain "java/io/Serializable" (some 0) with
  accessFlags := 1537
  interfaces := #[]
  cf := some (fileOf pool4 2 #[] #[] 1537 4 #[] #[])
  fields := #[]
  methods := #[]
  instanceTypes := #[]
  staticTypes := #[]
  resolved := Array.replicate 8 none
  statics := none }

/-- the primitive byte -/
def k5 : Class := { plain "byte" none with kind := .primitive 'B', accessFlags := 0x411 }
/-- [B -/
def k6 : Class := { plain "[B" (some 0) with kind := .array 5 .byte, interfaces := #[3, 4], accessFlags := 1041 }

/-- the primitive int -/
def k7 : Class := { plain "int" none with kind := .primitive 'I', accessFlags := 0x411 }
/-- [I -/
def k8 : Class := { plain "[I" (some 0) with kind := .array 7 .int, interfaces := #[3, 4], accessFlags := 1041 }

def heap : Heap := #[]
def classes : Array Class := #[k0, k1, k2, k3, k4, k5, k6, k7, k8]
def interned : List (Array UInt16 × Addr) := []
def slotsUsed : Nat := 0
def theMethod : MethodId := ⟨1, 1⟩
def args0 : Array Value := #[.int 5, .long 6]
def aboutOver (below : List Frame) : State where
  vm := { classes := classes, interned := interned.toArray }
  heap := heap
  slotsUsed := slotsUsed
  threads := #[{ frames := .invoking theMethod args0 :: below }]
def below0 : List Frame := [.native { method := ⟨0, 0⟩, args := #[] }]
def about1 : State := aboutOver below0
def p0 : Program := .bare "" "" ""
def e0 : Env := launch0.env 0 0 0
theorem w_frames : about1.frames = Frame.invoking theMethod args0 :: below0 := rfl
set_option maxRecDepth 65536 in
theorem w_args : argsFit about1.vm theMethod args0 = true := by decide +kernel
set_option maxRecDepth 65536 in
theorem w_heap : heapFits about1 = true := by decide +kernel
set_option maxRecDepth 65536 in
theorem w_runnable : about1.curStatus? = some .runnable := by decide +kernel
set_option maxRecDepth 65536 in
theorem w_alone : about1.alone = true := by decide +kernel
set_option maxRecDepth 65536 in
theorem w_named : about1.methodNamed? x = some theMethod := by decide +kernel
set_option maxRecDepth 65536 in
theorem w_hears : about1.hears theMethod below0 = true := by decide +kernel
set_option maxRecDepth 65536 in
theorem w_ripe : about1.ripe theMethod args0 below0 = true := by decide +kernel
theorem w_running : about1.status = .running := rfl
set_option maxRecDepth 65536 in
theorem w_room : about1.hasRoom e0.platform room_1 = true :=
  launch0.hasRoom_least _ room_1 (by decide +kernel) (by decide +kernel) (by decide +kernel) (by decide +kernel) (by decide +kernel) (by decide +kernel)
theorem allAtoms_all (ts : List Jvm.Cond) (a : Array Jvm.Value) (st : Jvm.State) : (allAtoms ts).before a st = ts.all (fun c => c.before a st) := by
  induction ts with
  | nil => rfl
  | cons c t ih =>
    show (Jvm.Cond.and c (allAtoms t)).before a st = _
    rw [Jvm.Cond.before_and, ih, List.all_cons]
def words1 : List Jvm.Cond := Jvm.Cond.code x code maxLocals ret :: tables_1
/-- a 'code' word, met by the world's own term for the bytes: nothing is compared byte by byte -/
theorem code_word {y : MethodName} {bytes : ByteArray} {mx : Nat} {rt : Option FieldType} {a : Array Value} {s : State} {m : MethodId} {meth : Method} {c : Code} (h1 : s.methodNamed? y = some m) (h2 : s.vm.method? m = some meth) (h3 : meth.code = some c) (h4 : c.code = bytes)
    (h5 : (c.maxLocals == mx && c.exceptionTable.isEmpty && decide (c.maxStack ≤ mostOperands) && decide (meth.sig.returnType = rt) && !meth.locks && decide (parseMethodDescriptor y.desc = some meth.sig)) = true) : (Jvm.Cond.code y bytes mx rt).before a s = true := by
  simp only [Bool.and_eq_true, beq_iff_eq, Bool.not_eq_true', decide_eq_true_eq] at h5
  obtain ⟨⟨⟨⟨⟨g1, g2⟩, g3⟩, g4⟩, g5⟩, g6⟩ := h5
  simp [Cond.before, Cond.holds, Cond.value, h1, h2, h3, h4, g1, g2, g3, g4, g5, g6]
def isCode : Jvm.Cond → Bool
  | .code _ _ _ _ => true
  | _ => false
theorem all_split {L : List Jvm.Cond} {P : Jvm.Cond → Bool} (h1 : L.all (fun c => isCode c || P c) = true) (h2 : ∀ c ∈ L.filter isCode, P c = true) : L.all P = true := by
  refine List.all_eq_true.mpr fun c hc => ?_
  have h := List.all_eq_true.mp h1 c hc
  rcases Bool.eq_false_or_eq_true (isCode c) with hi | hi
  · exact h2 c (List.mem_filter.mpr ⟨hc, hi⟩)
  · simpa [hi] using h
set_option maxRecDepth 65536 in
theorem w_c0 : (Jvm.Cond.code x code maxLocals ret).before args0 about1 = true := code_word (m := ⟨1, 1⟩) (meth := k1m1) (c := k1c1) (by decide +kernel) rfl rfl rfl (by decide +kernel)
set_option maxRecDepth 65536 in
theorem w_c1 : (Jvm.Cond.code ({ cls := "com/example/lambdalane/lambdalane/TripletBacktracking", name := "luby", desc := "(J)J" } : Jvm.MethodName) prog_66_method_7_code (5 : Nat) (Option.some Jvm.ClassFile.FieldType.long)).before args0 about1 = true := code_word (m := ⟨2, 0⟩) (meth := k2m0) (c := k2c0) (by decide +kernel) rfl rfl rfl (by decide +kernel)
def codes1 : List Jvm.Cond := [Jvm.Cond.code x code maxLocals ret, Jvm.Cond.code ({ cls := "com/example/lambdalane/lambdalane/TripletBacktracking", name := "luby", desc := "(J)J" } : Jvm.MethodName) prog_66_method_7_code (5 : Nat) (Option.some Jvm.ClassFile.FieldType.long)]
set_option maxRecDepth 65536 in
theorem codes_eq : words1.filter isCode = codes1 := rfl
theorem w_codes : ∀ c ∈ words1.filter isCode, c.before args0 about1 = true := by
  rw [codes_eq]
  intro c hc
  simp only [codes1, List.mem_cons, List.not_mem_nil, or_false] at hc
  rcases hc with rfl | rfl
  · exact w_c0
  · exact w_c1
set_option maxRecDepth 65536 in
theorem w_t1 : words1.all (fun c => isCode c || c.before args0 about1) = true := by decide +kernel
theorem w_tables : (allAtoms (Jvm.Cond.code x code maxLocals ret :: tables_1)).before args0 about1 = true := by
  rw [allAtoms_all]
  show words1.all (fun c => c.before args0 about1) = true
  refine all_split ?_ w_codes
  rw [w_t1]
set_option maxRecDepth 65536 in
theorem w_case : (Jvm.Cond.and given_1 narrow_1).before args0 about1 = true := by decide +kernel
theorem w_applies : (headSpec (Jvm.Cond.code x code maxLocals ret :: tables_1) room_1).applies x e0.platform about1 = true :=
  (Spec.applies_iff w_frames).mpr ⟨w_running, w_runnable, w_alone, w_named, w_hears, w_ripe, w_room, w_tables⟩
theorem atStart : AtStart classFile x code maxLocals ret World_1 tables_1 room_1 Calls_1 rest_1 Pre_1 launch0 p0 e0 about1 theMethod args0 below0 :=
  ⟨lists_1, trivial, launch0.admits_env _ _ _, launch0.least_env, fairChoices_fair.cas, fairChoices_fair.clock, w_frames, w_args, w_heap, w_applies, trivial, trivial, w_case⟩
end start1
theorem witness_1 : WitnessClaimed_1 := ⟨start1.p0, start1.e0, start1.about1, start1.theMethod, start1.args0, start1.below0, start1.atStart⟩
end Jvm.Pilot.@@N@@
