import JvmDerived
import JvmDerived.Pilot.@@N@@Statement
import JvmDerived.Pilot.@@N@@Code
set_option linter.unusedVariables false
set_option linter.unusedSimpArgs false
namespace Jvm.RoadKit
open Sem ClassFile Op Lib Jvm.Stand Jvm.Free Jvm.LawKit
section New
variable {p : Program} {l : Launch} {e : Env} {R : Room} {s : State} {m : MethodId} {args : Array Value} {below : List Frame} {meth : Method} {c : Code} {T T' : State} {locs : List Loc} {cells slots : Nat} {Q : Option Value → Heap → List Loc → Prop} {cc ss : Nat} {g g' : JFrame} {pc : Nat} {Ls : Array Slot}
/-- from here the body comes to an end that meets Q -/
def own_Goes (p : Program) (e : Env) (below : List Frame) (s : State) (Q : Option Value → Heap → List Loc → Prop) (cc ss : Nat) (T : State) (g : JFrame) : Prop :=
  ∃ s₂ o, Steps p.tables e below (T.setTop g) s₂ ∧ s₂.status = .running ∧ Ended s₂ below o ∧ ∃ v L, o = .returned v ∧ Q v s₂.heap L ∧ FrameEnd s o s₂ L cc ss
theorem own_st (h : ∀ t, Steps p.tables e below (T'.setTop g') t → Steps p.tables e below (T.setTop g) t) (k : own_Goes p e below s Q cc ss T' g') : own_Goes p e below s Q cc ss T g := by
  obtain ⟨s₂, o, h1, r⟩ := k; exact ⟨s₂, o, h _ h1, r⟩
theorem own_end {v : Option Value} (X : Stand p l e R s m args below meth c T locs cells slots) (hlk : meth.locks = false) (hv : meth.sig.returnType = none → v = none) (hc : cells ≤ cc) (hs : slots ≤ ss) (hQ : Q v T.heap locs)
    (st : ∀ fs, (∀ (f : JFrame) (acts : List Action), f.method = m → f.locked = none → f.entered = [] → (doReturn e (T.setTop f) acts v).1 = T.setFrames fs) → Steps p.tables e below (T.setTop g) (T.setFrames fs)) : own_Goes p e below s Q cc ss T g := by
  obtain ⟨fs, hr, hrun, hended, hW, hsame⟩ := X.leave (v := v) hv hlk
  exact ⟨_, _, st fs hr, hrun, hended, _, _, rfl, hQ, ⟨_, rfl⟩, hW, hsame.mono hc hs⟩
theorem own_retN (X : Stand p l e R s m args below meth c T locs cells slots) (hx : p.tables.exec = Jvm.exec) (hlk : meth.locks = false) {t : FieldType} {z : Int32} {rest : List Value} (hret : meth.sig.returnType = some t) (ht : t = .boolean ∨ t = .byte ∨ t = .char ∨ t = .short) (hd : decode c.code pc = .ok (.ireturn, 1)) (hc : cells ≤ cc) (hs : slots ≤ ss) (hQ : Q (some (.int (nar t z))) T.heap locs) : own_Goes p e below s Q cc ss T (mkF m pc Ls (.int z :: rest)) :=
  own_end X hlk (fun h => by rw [hret] at h; cases h) hc hs hQ fun fs hr => retN X hx hret ht hd hr
theorem own_retI (X : Stand p l e R s m args below meth c T locs cells slots) (hx : p.tables.exec = Jvm.exec) (hlk : meth.locks = false) {z : Int32} {rest : List Value} (hret : meth.sig.returnType = some .int) (hd : decode c.code pc = .ok (.ireturn, 1)) (hc : cells ≤ cc) (hs : slots ≤ ss) (hQ : Q (some (.int z)) T.heap locs) : own_Goes p e below s Q cc ss T (mkF m pc Ls (.int z :: rest)) :=
  own_end X hlk (fun h => by rw [hret] at h; cases h) hc hs hQ fun fs hr => retOut X hx hret rfl (Or.inl ⟨rfl, Or.inl rfl, _, rfl⟩) hd hr
theorem own_retL (X : Stand p l e R s m args below meth c T locs cells slots) (hx : p.tables.exec = Jvm.exec) (hlk : meth.locks = false) {z : Int64} {rest : List Value} (hret : meth.sig.returnType = some .long) (hd : decode c.code pc = .ok (.lreturn, 1)) (hc : cells ≤ cc) (hs : slots ≤ ss) (hQ : Q (some (.long z)) T.heap locs) : own_Goes p e below s Q cc ss T (mkF m pc Ls (.long z :: rest)) :=
  own_end X hlk (fun h => by rw [hret] at h; cases h) hc hs hQ fun fs hr => retOut X hx hret rfl (Or.inr (Or.inl ⟨rfl, rfl, _, rfl⟩)) hd hr
theorem own_narR {t : FieldType} {w : Value} (hw : w.isRef = true) : narrow t w = w := by rcases ref_cases hw with rfl | ⟨a, rfl⟩ <;> cases t <;> rfl
theorem own_fitR {n : String} {w : Value} (hw : w.isRef = true) : fits (.object n) w = true := by rcases ref_cases hw with rfl | ⟨a, rfl⟩ <;> rfl
theorem own_retA (X : Stand p l e R s m args below meth c T locs cells slots) (hx : p.tables.exec = Jvm.exec) (hlk : meth.locks = false) {w : Value} {t : FieldType} {rest : List Value} (hw : w.isRef = true) (hret : meth.sig.returnType = some t) (ht : t.isReference = true) (hd : decode c.code pc = .ok (.areturn, 1)) (hc : cells ≤ cc) (hs : slots ≤ ss) (hQ : Q (some w) T.heap locs) : own_Goes p e below s Q cc ss T (mkF m pc Ls (w :: rest)) :=
  own_end X hlk (fun h => by rw [hret] at h; cases h) hc hs hQ fun fs hr => retOut X hx hret (own_narR hw) (Or.inr (Or.inr (Or.inr (Or.inr ⟨rfl, ht, hw⟩)))) hd hr
theorem own_ret0 (X : Stand p l e R s m args below meth c T locs cells slots) (hx : p.tables.exec = Jvm.exec) (hlk : meth.locks = false) (hret : meth.sig.returnType = none) (hd : decode c.code pc = .ok (.return_, 1)) (hc : cells ≤ cc) (hs : slots ≤ ss) (hQ : Q none T.heap locs) : own_Goes p e below s Q cc ss T (mkF m pc Ls []) :=
  own_end X hlk (fun _ => rfl) hc hs hQ fun fs hr => X.returnOut hx hret hd hr
theorem own_nsr {Z : State} {a0 : Array Value} {O K : String} {n : Nat} (w : (Cond.noSuperclass O).before a0 Z = true) (wk : (Cond.instantiable K n).before a0 Z = true) (hn : O ≠ K) : NS Z O K := by
  obtain ⟨c, k, h1, h2, h3, -, -⟩ := Cond.noSuperclass_spec w
  obtain ⟨t, kt, g1, -⟩ := Cond.instantiable_spec wk
  have ne := ids_ne h1 g1 hn
  refine ⟨c, t, h1, g1, fun fuel => ?_⟩
  cases fuel with
  | zero => rfl
  | succ f => simp [Vm.isSubclassAux, ne, h2, h3]
theorem own_nsn {Z : State} {a0 : Array Value} {C S K : String} {n : Nat} (w : (Cond.superclass C S).before a0 Z = true) (wk : (Cond.instantiable K n).before a0 Z = true) (q : NS Z C K) (hn : C ≠ K) : ∃ c t, Z.vm.findClass C = some c ∧ Z.vm.findClass K = some t ∧ Z.vm.assignable c t = false := by
  obtain ⟨c, t, h0, g0, n3⟩ := q
  obtain ⟨p, k, kp, h1, h2, h3, h4, h5, -, h7⟩ := Cond.superclass_spec h0 w
  obtain ⟨t', kt, g1, g2, g5, g6, -⟩ := Cond.instantiable_spec wk
  cases g0.symm.trans g1
  have g7 : kt.isInterface = false := by simp only [Bool.or_eq_false_iff] at g6; exact g6.1
  have ne := ids_ne h0 g0 hn
  refine ⟨c, t, h0, g0, ?_⟩
  show Z.vm.assignableAux (255 + 1) c t = false
  simp [Vm.assignableAux, ne, h2, g2, h5, g5, g7, Vm.isSubclass, n3]
theorem own_Sta_keep {Z : State} {h h' : Heap} {ws : List Addr} {C n d : String} {w : Value} (F : Sta Z h C n d w) (K : Keep h h' ws) (q : ∀ x ∈ ws, ∀ cell : Cell, h[x]? = some cell → cell.vm.isStatics = false) : Sta Z h' C n d w := by
  obtain ⟨cf, i, k, f, st, cell, h1, h2, h3, h4, h5, h6, h7⟩ := F
  exact ⟨cf, i, k, f, st, cell, h1, h2, h3, h4, K.2.1 st cell h5 (fun z => by rw [q st z cell h5] at h6; cases h6), h6, h7⟩
end New
end Jvm.RoadKit
namespace Jvm.Pilot.@@N@@
open Jvm Jvm.ClassFile Sem Op Lib Jvm.Free Jvm.Stand Jvm.LawKit Jvm.RoadKit Bundle Jvm.Pilot.@@N@@.Jvm.D
def own_b (P : Prop) [Decidable P] : Int32 := if P then 1 else 0
theorem own_bt {P : Prop} [Decidable P] (h : P) : (some (Value.int (nar .boolean 1)) : Option Value) = some (.int (own_b P)) := by rw [own_b, if_pos h]; rfl
theorem own_bf {P : Prop} [Decidable P] (h : ¬ P) : (some (Value.int (nar .boolean 0)) : Option Value) = some (.int (own_b P)) := by rw [own_b, if_neg h]; rfl
theorem own_b1 {P : Prop} [Decidable P] (h : P) : own_b P = 1 := if_pos h
theorem own_b0 {P : Prop} [Decidable P] (h : ¬ P) : own_b P = 0 := if_neg h
theorem own_bc {P P' : Prop} [Decidable P] [Decidable P'] (h : P ↔ P') : own_b P = own_b P' := by simp only [own_b, h]
theorem own_narc (x : Int32) : 0 ≤ (nar .char x).toInt ∧ (nar .char x).toInt < 65536 := by
  have h := (c_i2c x).2; exact h
theorem own_narid {r : Int32} (h : 0 ≤ r.toInt ∧ r.toInt < 65536) : nar .char r = r := by
  have h2 := c_i2c r
  refine Int32.toInt_inj.mp ?_
  show (r.toUInt32.toUInt16.toUInt32.toInt32).toInt = _
  omega
theorem own_and_eq {r : Int32} (h : 0 ≤ r.toInt ∧ r.toInt < 65536) : r &&& 65535 = r := by
  refine Int32.toInt_inj.mp ?_
  have := c_mask r 65535 16 (by decide) (by decide)
  omega
theorem own_two (r : Int32) : r &&& 2 = 0 ∨ r &&& 2 = 2 := by
  have h1 := c_mask r 3 2 (by decide) (by decide)
  have h3 : r &&& 3 = 0 ∨ r &&& 3 = 1 ∨ r &&& 3 = 2 ∨ r &&& 3 = 3 := by
    simp only [← Int32.toInt_inj, Int32.reduceToInt]; omega
  have e : r &&& 2 = (r &&& 3) &&& 2 := by rw [Int32.and_assoc]; rfl
  rw [e]
  rcases h3 with h | h | h | h <;> rw [h] <;> decide
theorem own_dis (r : Int32) : (r &&& 65533) ||| (r &&& 2) = r &&& 65535 := by
  apply Int32.toBitVec_inj.mp
  simp only [Int32.toBitVec_or, Int32.toBitVec_and]
  ext i hi
  simp only [BitVec.getElem_or, BitVec.getElem_and, ← Bool.and_or_distrib_left]
  rw [← BitVec.getElem_or]
  rfl
theorem own_ends {r : Int32} (h : 0 ≤ r.toInt ∧ r.toInt < 65536) : (r &&& 65533) = 88 ↔ (r = 90 ∨ r = 88) := by
  constructor
  · intro q
    have e : r = (r &&& 65533) ||| (r &&& 2) := by rw [own_dis]; exact (own_and_eq h).symm
    rw [q] at e
    rcases own_two r with k | k <;> rw [k] at e
    · exact Or.inr e
    · exact Or.inl e
  · rintro (rfl | rfl) <;> decide
abbrev rRrm1 : Room := { frames := 0, cells := 0, slots := 0, locals := 0 }
theorem d1_0 : decode method_2_code 0 = .ok (.iload_n 1, 1) := by decide +kernel
theorem d1_1 : decode method_2_code 1 = .ok (.iconst 3, 1) := by decide +kernel
theorem d1_2 : decode method_2_code 2 = .ok (.iand, 1) := by decide +kernel
theorem d1_3 : decode method_2_code 3 = .ok (.istore_n 2, 1) := by decide +kernel
theorem d1_4 : decode method_2_code 4 = .ok (.iload_n 2, 1) := by decide +kernel
theorem d1_5 : decode method_2_code 5 = .ok (.ifCond .ne 9, 3) := by decide +kernel
theorem d1_8 : decode method_2_code 8 = .ok (.bipush 90, 2) := by decide +kernel
theorem d1_10 : decode method_2_code 10 = .ok (.istore_n 3, 1) := by decide +kernel
theorem d1_11 : decode method_2_code 11 = .ok (.goto 32, 3) := by decide +kernel
theorem d1_14 : decode method_2_code 14 = .ok (.iload_n 2, 1) := by decide +kernel
theorem d1_15 : decode method_2_code 15 = .ok (.iconst 1, 1) := by decide +kernel
theorem d1_16 : decode method_2_code 16 = .ok (.if_icmp .ne 9, 3) := by decide +kernel
theorem d1_19 : decode method_2_code 19 = .ok (.bipush 88, 2) := by decide +kernel
theorem d1_21 : decode method_2_code 21 = .ok (.istore_n 3, 1) := by decide +kernel
theorem d1_22 : decode method_2_code 22 = .ok (.goto 21, 3) := by decide +kernel
theorem d1_25 : decode method_2_code 25 = .ok (.iload_n 2, 1) := by decide +kernel
theorem d1_26 : decode method_2_code 26 = .ok (.iconst 2, 1) := by decide +kernel
theorem d1_27 : decode method_2_code 27 = .ok (.if_icmp .ne 13, 3) := by decide +kernel
theorem d1_30 : decode method_2_code 30 = .ok (.iload_n 0, 1) := by decide +kernel
theorem d1_31 : decode method_2_code 31 = .ok (.sipush 255, 3) := by decide +kernel
theorem d1_34 : decode method_2_code 34 = .ok (.iand, 1) := by decide +kernel
theorem d1_35 : decode method_2_code 35 = .ok (.i2c, 1) := by decide +kernel
theorem d1_36 : decode method_2_code 36 = .ok (.istore_n 3, 1) := by decide +kernel
theorem d1_37 : decode method_2_code 37 = .ok (.goto 6, 3) := by decide +kernel
theorem d1_40 : decode method_2_code 40 = .ok (.iload_n 0, 1) := by decide +kernel
theorem d1_41 : decode method_2_code 41 = .ok (.i2c, 1) := by decide +kernel
theorem d1_42 : decode method_2_code 42 = .ok (.istore_n 3, 1) := by decide +kernel
theorem d1_43 : decode method_2_code 43 = .ok (.iload_n 3, 1) := by decide +kernel
theorem d1_44 : decode method_2_code 44 = .ok (.ireturn, 1) := by decide +kernel
theorem pn_rm1 : plainFor (⟨"com/example/majra/majra/engine/StatIsEndedPinLaw", "pick", "(II)C"⟩ : MethodName) = true := by first | exact plainFor_of_name (by first | (simp [plainName, overriddenIn]; done) | decide +kernel) | decide +kernel
theorem ef_rm1 (m : MethodId) (p1 : Int32) (p2 : Int32) : entryFrame m #[(.int p1), (.int p2)] 4 = (mkF m 0 #[iv p1, iv p2, .unset, .unset] []) := by first | (simp [entryFrame, mkF, argsToLocals, Value.category]; done) | rfl
def Q1 (Z : State) (p1 : Int32) (p2 : Int32) (h0 : Heap) (n0 : Nat) (v_ : Option Value) (h_ : Heap) (L_ : List Loc) : Prop := ∃ r : Int32, (v_ = some (.int r)) ∧ (Fr n0 L_) ∧ (h_ = h0) ∧ (0 ≤ r.toInt ∧ r.toInt < 65536)
set_option maxRecDepth 65536 in
set_option maxHeartbeats 40000000 in
theorem rm1 (l : Launch) (Z : State) (a0 : Array Value) (hw : ∀ d ∈ tables_1, d.before a0 Z = true) (ws : List Jvm.Cond) (p1 : Int32) (p2 : Int32) (h0 : Heap) (n0 : Nat) (Z0 : n0 ≤ h0.size) :
    MetFree l (⟨"com/example/majra/majra/engine/StatIsEndedPinLaw", "pick", "(II)C"⟩ : MethodName) (head1 (Jvm.Cond.code (⟨"com/example/majra/majra/engine/StatIsEndedPinLaw", "pick", "(II)C"⟩ : MethodName) method_2_code 4 (some .char) :: ws) rRrm1) (fun a_ U_ => a_ = #[(.int p1), (.int p2)] ∧ Z.Warmed39 U_.vm ∧ U_.heap = h0) (fun _ _ _ _ _ => True) (fun _ U_ o_ U1_ => ∃ v_ L_, o_ = .returned v_ ∧ Q1 Z p1 p2 h0 n0 v_ U1_.heap L_ ∧ FrameEnd U_ o_ U1_ L_ rRrm1.cells rRrm1.slots) := by
  refine MetFree.of_bodySF pn_rm1 hisR ?_
  intro p e s m args below meth c s₁ Bd hml0 hP hK
  obtain ⟨rfl, hZ, hh⟩ := hP
  have hx := Bd.exec
  have hby := Bd.bytes
  have hlk : meth.locks = false := Bd.notSynchronized
  have hml : c.maxLocals = 4 := hml0
  have hown : s.vm.findClass "com/example/majra/majra/engine/StatIsEndedPinLaw" = some m.cls := findClass_of_methodNamed Bd.named
  have hnm := (name_of_methodNamed Bd.named Bd.method).1
  have X0 : Stand p l e rRrm1 s m #[(.int p1), (.int p2)] below meth c s₁ [] 0 0 := Stand.of_body Bd
  have e0 : s₁.heap = h0 := by rw [← hh, Bd.state]; rfl
  have N0 := Fr.nil n0
  show own_Goes p e below s (Q1 Z p1 p2 h0 n0) rRrm1.cells rRrm1.slots s₁ (entryFrame m #[(.int p1), (.int p2)] 4)
  rw [ef_rm1 m p1 p2]
  show own_Goes p e below s (Q1 Z p1 p2 h0 n0) rRrm1.cells rRrm1.slots s₁ (mkF m 0 #[iv p1, iv p2, .unset, .unset] [])
  refine own_st (fun _ kk_ => XS.iloadN X0.here hx rfl (hb hby d1_0) rfl (XS.iconst X0.here hx rfl (hb hby d1_1) (XS.iand X0.here hx rfl (hb hby d1_2) rfl (XS.istoreN X0.here hx rfl (hb hby d1_3) rfl (l' := #[iv p1, iv p2, iv (p2 &&& (3 : Int32)), .unset]) rfl (XS.iloadN X0.here hx rfl (hb hby d1_4) rfl kk_))))) ?_
  show own_Goes p e below s (Q1 Z p1 p2 h0 n0) rRrm1.cells rRrm1.slots s₁ (mkF m 5 #[iv p1, iv p2, iv (p2 &&& (3 : Int32)), .unset] [(.int (p2 &&& (3 : Int32)))])
  rcases Classical.em ((p2 &&& (3 : Int32)) = (0 : Int32)) with q0 | q0
  · refine own_st (fun _ kk_ => XS.ifNo X0.here hx rfl (hb hby d1_5) rfl (XT.i0_ne_f q0) (XS.bipush X0.here hx rfl (hb hby d1_8) (XS.istoreN X0.here hx rfl (hb hby d1_10) rfl (l' := #[iv p1, iv p2, iv (p2 &&& (3 : Int32)), iv (90 : Int32)]) rfl (XS.goto X0.here hx rfl (pc0 := 11) (pc' := 43) rfl (hb hby d1_11) (by decide) (by decide) (XS.iloadN X0.here hx rfl (hb hby d1_43) rfl kk_))))) ?_
    show own_Goes p e below s (Q1 Z p1 p2 h0 n0) rRrm1.cells rRrm1.slots s₁ (mkF m 44 #[iv p1, iv p2, iv (p2 &&& (3 : Int32)), iv (90 : Int32)] [(.int (90 : Int32))])
    refine own_retN X0 hx hlk (t := .char) Bd.returns (by simp) (hb hby d1_44) (by decide) (by decide) ?_
    show Q1 Z p1 p2 h0 n0 (some (.int (nar .char (90 : Int32)))) s₁.heap _
    rw [e0]
    exact ⟨_, rfl, N0, rfl, own_narc _⟩
  · refine own_st (fun _ kk_ => XS.ifYes X0.here hx rfl (pc0 := 5) (pc' := 14) rfl (hb hby d1_5) rfl (XT.i0_ne_t q0) (by decide) (by decide) (XS.iloadN X0.here hx rfl (hb hby d1_14) rfl (XS.iconst X0.here hx rfl (hb hby d1_15) kk_))) ?_
    show own_Goes p e below s (Q1 Z p1 p2 h0 n0) rRrm1.cells rRrm1.slots s₁ (mkF m 16 #[iv p1, iv p2, iv (p2 &&& (3 : Int32)), .unset] [(.int (1 : Int32)), (.int (p2 &&& (3 : Int32)))])
    rcases Classical.em ((p2 &&& (3 : Int32)) = (1 : Int32)) with q1 | q1
    · refine own_st (fun _ kk_ => XS.icmpNo X0.here hx rfl (hb hby d1_16) rfl (XT.ii_ne_f q1) (XS.bipush X0.here hx rfl (hb hby d1_19) (XS.istoreN X0.here hx rfl (hb hby d1_21) rfl (l' := #[iv p1, iv p2, iv (p2 &&& (3 : Int32)), iv (88 : Int32)]) rfl (XS.goto X0.here hx rfl (pc0 := 22) (pc' := 43) rfl (hb hby d1_22) (by decide) (by decide) (XS.iloadN X0.here hx rfl (hb hby d1_43) rfl kk_))))) ?_
      show own_Goes p e below s (Q1 Z p1 p2 h0 n0) rRrm1.cells rRrm1.slots s₁ (mkF m 44 #[iv p1, iv p2, iv (p2 &&& (3 : Int32)), iv (88 : Int32)] [(.int (88 : Int32))])
      refine own_retN X0 hx hlk (t := .char) Bd.returns (by simp) (hb hby d1_44) (by decide) (by decide) ?_
      show Q1 Z p1 p2 h0 n0 (some (.int (nar .char (88 : Int32)))) s₁.heap _
      rw [e0]
      exact ⟨_, rfl, N0, rfl, own_narc _⟩
    · refine own_st (fun _ kk_ => XS.icmpYes X0.here hx rfl (pc0 := 16) (pc' := 25) rfl (hb hby d1_16) rfl (XT.ii_ne_t q1) (by decide) (by decide) (XS.iloadN X0.here hx rfl (hb hby d1_25) rfl (XS.iconst X0.here hx rfl (hb hby d1_26) kk_))) ?_
      show own_Goes p e below s (Q1 Z p1 p2 h0 n0) rRrm1.cells rRrm1.slots s₁ (mkF m 27 #[iv p1, iv p2, iv (p2 &&& (3 : Int32)), .unset] [(.int (2 : Int32)), (.int (p2 &&& (3 : Int32)))])
      rcases Classical.em ((p2 &&& (3 : Int32)) = (2 : Int32)) with q2 | q2
      · refine own_st (fun _ kk_ => XS.icmpNo X0.here hx rfl (hb hby d1_27) rfl (XT.ii_ne_f q2) (XS.iloadN X0.here hx rfl (hb hby d1_30) rfl (XS.sipush X0.here hx rfl (hb hby d1_31) (XS.iand X0.here hx rfl (hb hby d1_34) rfl (XS.i2c X0.here hx rfl (hb hby d1_35) rfl (XS.istoreN X0.here hx rfl (hb hby d1_36) rfl (l' := #[iv p1, iv p2, iv (p2 &&& (3 : Int32)), iv ((p1 &&& (255 : Int32)).toUInt32.toUInt16.toUInt32.toInt32)]) rfl (XS.goto X0.here hx rfl (pc0 := 37) (pc' := 43) rfl (hb hby d1_37) (by decide) (by decide) (XS.iloadN X0.here hx rfl (hb hby d1_43) rfl kk_)))))))) ?_
        show own_Goes p e below s (Q1 Z p1 p2 h0 n0) rRrm1.cells rRrm1.slots s₁ (mkF m 44 #[iv p1, iv p2, iv (p2 &&& (3 : Int32)), iv ((p1 &&& (255 : Int32)).toUInt32.toUInt16.toUInt32.toInt32)] [(.int ((p1 &&& (255 : Int32)).toUInt32.toUInt16.toUInt32.toInt32))])
        refine own_retN X0 hx hlk (t := .char) Bd.returns (by simp) (hb hby d1_44) (by decide) (by decide) ?_
        show Q1 Z p1 p2 h0 n0 (some (.int (nar .char ((p1 &&& (255 : Int32)).toUInt32.toUInt16.toUInt32.toInt32)))) s₁.heap _
        rw [e0]
        exact ⟨_, rfl, N0, rfl, own_narc _⟩
      · refine own_st (fun _ kk_ => XS.icmpYes X0.here hx rfl (pc0 := 27) (pc' := 40) rfl (hb hby d1_27) rfl (XT.ii_ne_t q2) (by decide) (by decide) (XS.iloadN X0.here hx rfl (hb hby d1_40) rfl (XS.i2c X0.here hx rfl (hb hby d1_41) rfl (XS.istoreN X0.here hx rfl (hb hby d1_42) rfl (l' := #[iv p1, iv p2, iv (p2 &&& (3 : Int32)), iv (p1.toUInt32.toUInt16.toUInt32.toInt32)]) rfl (XS.iloadN X0.here hx rfl (hb hby d1_43) rfl kk_))))) ?_
        show own_Goes p e below s (Q1 Z p1 p2 h0 n0) rRrm1.cells rRrm1.slots s₁ (mkF m 44 #[iv p1, iv p2, iv (p2 &&& (3 : Int32)), iv (p1.toUInt32.toUInt16.toUInt32.toInt32)] [(.int (p1.toUInt32.toUInt16.toUInt32.toInt32))])
        refine own_retN X0 hx hlk (t := .char) Bd.returns (by simp) (hb hby d1_44) (by decide) (by decide) ?_
        show Q1 Z p1 p2 h0 n0 (some (.int (nar .char (p1.toUInt32.toUInt16.toUInt32.toInt32)))) s₁.heap _
        rw [e0]
        exact ⟨_, rfl, N0, rfl, own_narc _⟩
abbrev rRrm2 : Room := { frames := 1, cells := 0, slots := 0, locals := 12 }
theorem d2_0 : decode prog_13_method_1_code 0 = .ok (.aload_n 0, 1) := by decide +kernel
theorem d2_1 : decode prog_13_method_1_code 1 = .ok (.invokespecial 1, 3) := by decide +kernel
theorem d2_4 : decode prog_13_method_1_code 4 = .ok (.aload_n 0, 1) := by decide +kernel
theorem d2_5 : decode prog_13_method_1_code 5 = .ok (.iload_n 1, 1) := by decide +kernel
theorem d2_6 : decode prog_13_method_1_code 6 = .ok (.putfield 7, 3) := by decide +kernel
theorem d2_9 : decode prog_13_method_1_code 9 = .ok (.aload_n 0, 1) := by decide +kernel
theorem d2_10 : decode prog_13_method_1_code 10 = .ok (.lload_n 2, 1) := by decide +kernel
theorem d2_11 : decode prog_13_method_1_code 11 = .ok (.putfield 13, 3) := by decide +kernel
theorem d2_14 : decode prog_13_method_1_code 14 = .ok (.aload_n 0, 1) := by decide +kernel
theorem d2_15 : decode prog_13_method_1_code 15 = .ok (.lload 4, 2) := by decide +kernel
theorem d2_17 : decode prog_13_method_1_code 17 = .ok (.putfield 17, 3) := by decide +kernel
theorem d2_20 : decode prog_13_method_1_code 20 = .ok (.aload_n 0, 1) := by decide +kernel
theorem d2_21 : decode prog_13_method_1_code 21 = .ok (.lload 6, 2) := by decide +kernel
theorem d2_23 : decode prog_13_method_1_code 23 = .ok (.putfield 20, 3) := by decide +kernel
theorem d2_26 : decode prog_13_method_1_code 26 = .ok (.return_, 1) := by decide +kernel
theorem pn_rm2 : plainFor (⟨"com/example/majra/majra/engine/ProcessTable$Stat", "<init>", "(CJJJ)V"⟩ : MethodName) = true := by first | exact plainFor_of_name (by first | (simp [plainName, overriddenIn]; done) | decide +kernel) | decide +kernel
theorem ef_rm2 (m : MethodId) (a : Addr) (r : Int32) (p1 : Int64) (p2 : Int64) (p3 : Int64) : entryFrame m #[(.ref a), (.int r), (.long p1), (.long p2), (.long p3)] 8 = (mkF m 0 #[rv a, iv r, .val (.long p1), .second, .val (.long p2), .second, .val (.long p3), .second] []) := by first | (simp [entryFrame, mkF, argsToLocals, Value.category]; done) | rfl
def Q2 (Z : State) (a : Addr) (r : Int32) (p1 : Int64) (p2 : Int64) (p3 : Int64) (h0 : Heap) (n0 : Nat) (v_ : Option Value) (h_ : Heap) (L_ : List Loc) : Prop := (v_ = none) ∧ (Fr n0 L_) ∧ (Keep h0 h_ [a]) ∧ (Fld Z h_ a "com/example/majra/majra/engine/ProcessTable$Stat" "state" "C" (.int (nar .char r)))
set_option maxRecDepth 65536 in
set_option maxHeartbeats 40000000 in
theorem rm2 (l : Launch) (Z : State) (a0 : Array Value) (hw : ∀ d ∈ tables_1, d.before a0 Z = true) (ws : List Jvm.Cond) (a : Addr) (r : Int32) (p1 : Int64) (p2 : Int64) (p3 : Int64) (h0 : Heap) (n0 : Nat) (Z0 : n0 ≤ h0.size) (p_0 : Exa Z h0 a "com/example/majra/majra/engine/ProcessTable$Stat") (p_1 : Fld Z h0 a "com/example/majra/majra/engine/ProcessTable$Stat" "state" "C" (.int (0 : Int32))) (p_2 : Fld Z h0 a "com/example/majra/majra/engine/ProcessTable$Stat" "group" "J" (.long (0 : Int64))) (p_3 : Fld Z h0 a "com/example/majra/majra/engine/ProcessTable$Stat" "session" "J" (.long (0 : Int64))) (p_4 : Fld Z h0 a "com/example/majra/majra/engine/ProcessTable$Stat" "started" "J" (.long (0 : Int64))) (p_5 : n0 ≤ a) (bd : 0 ≤ r.toInt ∧ r.toInt < 65536) :
    MetFree l (⟨"com/example/majra/majra/engine/ProcessTable$Stat", "<init>", "(CJJJ)V"⟩ : MethodName) (head1 (Jvm.Cond.code (⟨"com/example/majra/majra/engine/ProcessTable$Stat", "<init>", "(CJJJ)V"⟩ : MethodName) prog_13_method_1_code 8 none :: ws) rRrm2) (fun a_ U_ => a_ = #[(.ref a), (.int r), (.long p1), (.long p2), (.long p3)] ∧ Z.Warmed39 U_.vm ∧ U_.heap = h0) (fun _ _ _ _ _ => True) (fun _ U_ o_ U1_ => ∃ v_ L_, o_ = .returned v_ ∧ Q2 Z a r p1 p2 p3 h0 n0 v_ U1_.heap L_ ∧ FrameEnd U_ o_ U1_ L_ rRrm2.cells rRrm2.slots) := by
  refine MetFree.of_bodySF pn_rm2 hisR ?_
  intro p e s m args below meth c s₁ Bd hml0 hP hK
  obtain ⟨rfl, hZ, hh⟩ := hP
  have hx := Bd.exec
  have hby := Bd.bytes
  have hlk : meth.locks = false := Bd.notSynchronized
  have hml : c.maxLocals = 8 := hml0
  have hown : s.vm.findClass "com/example/majra/majra/engine/ProcessTable$Stat" = some m.cls := findClass_of_methodNamed Bd.named
  have hnm := (name_of_methodNamed Bd.named Bd.method).1
  have X0 : Stand p l e rRrm2 s m #[(.ref a), (.int r), (.long p1), (.long p2), (.long p3)] below meth c s₁ [] 0 0 := Stand.of_body Bd
  have e0 : s₁.heap = h0 := by rw [← hh, Bd.state]; rfl
  have N0 := Fr.nil n0
  show own_Goes p e below s (Q2 Z a r p1 p2 p3 h0 n0) rRrm2.cells rRrm2.slots s₁ (entryFrame m #[(.ref a), (.int r), (.long p1), (.long p2), (.long p3)] 8)
  rw [ef_rm2 m a r p1 p2 p3]
  show own_Goes p e below s (Q2 Z a r p1 p2 p3 h0 n0) rRrm2.cells rRrm2.slots s₁ (mkF m 0 #[rv a, iv r, .val (.long p1), .second, .val (.long p2), .second, .val (.long p3), .second] [])
  refine own_st (fun _ kk_ => XS.aloadN X0.here hx rfl (hb hby d2_0) rfl rfl kk_) ?_
  show own_Goes p e below s (Q2 Z a r p1 p2 p3 h0 n0) rRrm2.cells rRrm2.slots s₁ (mkF m 1 #[rv a, iv r, .val (.long p1), .second, .val (.long p2), .second, .val (.long p3), .second] [(.ref a)])
  obtain ⟨T1, X1, e1, st1⟩ := initO X0 hx hZ hown (hw _ (List.mem_of_getElem? (i := 11) rfl)) (hw _ (List.mem_of_getElem? (i := 12) rfl)) (hw _ (List.mem_of_getElem? (i := 13) rfl)) e0 (g := (mkF m 1 #[rv a, iv r, .val (.long p1), .second, .val (.long p2), .second, .val (.long p3), .second] [(.ref a)])) rfl (by rw [hml]; rfl) rfl (hb hby d2_1) (by decide) (W := 0) (by show 2 * 0 + _ ≤ _; exact Nat.le_of_eq rfl) (by decide)
  refine own_st st1 ?_
  show own_Goes p e below s (Q2 Z a r p1 p2 p3 h0 n0) rRrm2.cells rRrm2.slots T1 (mkF m 4 #[rv a, iv r, .val (.long p1), .second, .val (.long p2), .second, .val (.long p3), .second] [])
  refine own_st (fun _ kk_ => XS.aloadN X1.here hx rfl (hb hby d2_4) rfl rfl (XS.iloadN X1.here hx rfl (hb hby d2_5) rfl kk_)) ?_
  show own_Goes p e below s (Q2 Z a r p1 p2 p3 h0 n0) rRrm2.cells rRrm2.slots T1 (mkF m 6 #[rv a, iv r, .val (.long p1), .second, .val (.long p2), .second, .val (.long p3), .second] [(.int r), (.ref a)])
  obtain ⟨T2, h2, X2, e2, W2, st2⟩ := putFN X1 hx hZ hown (hw _ (List.mem_of_getElem? (i := 14) rfl)) Via.refl e1 p_1 p_0 (Or.inr ⟨(hw _ (List.mem_of_getElem? (i := 15) rfl)), rfl, hnm⟩) (hw _ (List.mem_of_getElem? (i := 6) rfl)) (ty := .char) (v' := (.int (nar .char r))) (by decide) rfl (fits_nar_char _) (g := (mkF m 6 #[rv a, iv r, .val (.long p1), .second, .val (.long p2), .second, .val (.long p3), .second] [(.int r), (.ref a)])) rfl rfl (hb hby d2_6)
  have fw2 : Fld Z h2 a "com/example/majra/majra/engine/ProcessTable$Stat" "state" "C" (.int (nar .char r)) := p_1.same W2
  have f2_0 := p_0.wr W2
  have f2_2 := p_2.other W2 (Or.inr (slot_ne (Or.inr (hw _ (List.mem_of_getElem? (i := 17) rfl))) (Or.inr (hw _ (List.mem_of_getElem? (i := 15) rfl))) (by decide) (t := .long) (t' := .char) (by decide) (by decide)))
  have f2_3 := p_3.other W2 (Or.inr (slot_ne (Or.inr (hw _ (List.mem_of_getElem? (i := 19) rfl))) (Or.inr (hw _ (List.mem_of_getElem? (i := 15) rfl))) (by decide) (t := .long) (t' := .char) (by decide) (by decide)))
  have f2_4 := p_4.other W2 (Or.inr (slot_ne (Or.inr (hw _ (List.mem_of_getElem? (i := 21) rfl))) (Or.inr (hw _ (List.mem_of_getElem? (i := 15) rfl))) (by decide) (t := .long) (t' := .char) (by decide) (by decide)))
  have Zs2 : n0 ≤ h2.size := Nat.le_trans Z0 (Nat.le_of_eq W2.size.symm)
  have K2 := (Keep.refl h0 [a]).wr W2 (Or.inl (List.mem_of_getElem? (i := 0) rfl))
  have N2 := Fr.snoc X2 N0 p_5
  refine own_st st2 ?_
  show own_Goes p e below s (Q2 Z a r p1 p2 p3 h0 n0) rRrm2.cells rRrm2.slots T2 (mkF m 9 #[rv a, iv r, .val (.long p1), .second, .val (.long p2), .second, .val (.long p3), .second] [])
  refine own_st (fun _ kk_ => XS.aloadN X2.here hx rfl (hb hby d2_9) rfl rfl (XS.lloadN X2.here hx rfl (hb hby d2_10) rfl kk_)) ?_
  show own_Goes p e below s (Q2 Z a r p1 p2 p3 h0 n0) rRrm2.cells rRrm2.slots T2 (mkF m 11 #[rv a, iv r, .val (.long p1), .second, .val (.long p2), .second, .val (.long p3), .second] [(.long p1), (.ref a)])
  obtain ⟨T3, h3, X3, e3, W3, st3⟩ := putF X2 hx hZ hown (host := "") (Or.inl (hw _ (List.mem_of_getElem? (i := 16) rfl))) Via.refl e2 f2_2 f2_0 (Or.inr ⟨(hw _ (List.mem_of_getElem? (i := 17) rfl)), rfl, hnm⟩) (hw _ (List.mem_of_getElem? (i := 6) rfl)) (ty := .long) (by decide) rfl rfl (g := (mkF m 11 #[rv a, iv r, .val (.long p1), .second, .val (.long p2), .second, .val (.long p3), .second] [(.long p1), (.ref a)])) rfl rfl (hb hby d2_11)
  have fw3 : Fld Z h3 a "com/example/majra/majra/engine/ProcessTable$Stat" "group" "J" (.long p1) := f2_2.same W3
  have f3_0 := f2_0.wr W3
  have f3_2 := f2_3.other W3 (Or.inr (slot_ne (Or.inr (hw _ (List.mem_of_getElem? (i := 19) rfl))) (Or.inr (hw _ (List.mem_of_getElem? (i := 17) rfl))) (by decide) (t := .long) (t' := .long) (by decide) (by decide)))
  have f3_3 := f2_4.other W3 (Or.inr (slot_ne (Or.inr (hw _ (List.mem_of_getElem? (i := 21) rfl))) (Or.inr (hw _ (List.mem_of_getElem? (i := 17) rfl))) (by decide) (t := .long) (t' := .long) (by decide) (by decide)))
  have f3_4 := fw2.other W3 (Or.inr (slot_ne (Or.inr (hw _ (List.mem_of_getElem? (i := 15) rfl))) (Or.inr (hw _ (List.mem_of_getElem? (i := 17) rfl))) (by decide) (t := .char) (t' := .long) (by decide) (by decide)))
  have Zs3 : n0 ≤ h3.size := Nat.le_trans Zs2 (Nat.le_of_eq W3.size.symm)
  have K3 := K2.wr W3 (Or.inl (List.mem_of_getElem? (i := 0) rfl))
  have N3 := Fr.snoc X3 N2 p_5
  refine own_st st3 ?_
  show own_Goes p e below s (Q2 Z a r p1 p2 p3 h0 n0) rRrm2.cells rRrm2.slots T3 (mkF m 14 #[rv a, iv r, .val (.long p1), .second, .val (.long p2), .second, .val (.long p3), .second] [])
  refine own_st (fun _ kk_ => XS.aloadN X3.here hx rfl (hb hby d2_14) rfl rfl (XS.lload X3.here hx rfl (hb hby d2_15) rfl kk_)) ?_
  show own_Goes p e below s (Q2 Z a r p1 p2 p3 h0 n0) rRrm2.cells rRrm2.slots T3 (mkF m 17 #[rv a, iv r, .val (.long p1), .second, .val (.long p2), .second, .val (.long p3), .second] [(.long p2), (.ref a)])
  obtain ⟨T4, h4, X4, e4, W4, st4⟩ := putF X3 hx hZ hown (host := "") (Or.inl (hw _ (List.mem_of_getElem? (i := 18) rfl))) Via.refl e3 f3_2 f3_0 (Or.inr ⟨(hw _ (List.mem_of_getElem? (i := 19) rfl)), rfl, hnm⟩) (hw _ (List.mem_of_getElem? (i := 6) rfl)) (ty := .long) (by decide) rfl rfl (g := (mkF m 17 #[rv a, iv r, .val (.long p1), .second, .val (.long p2), .second, .val (.long p3), .second] [(.long p2), (.ref a)])) rfl rfl (hb hby d2_17)
  have fw4 : Fld Z h4 a "com/example/majra/majra/engine/ProcessTable$Stat" "session" "J" (.long p2) := f3_2.same W4
  have f4_0 := f3_0.wr W4
  have f4_2 := f3_3.other W4 (Or.inr (slot_ne (Or.inr (hw _ (List.mem_of_getElem? (i := 21) rfl))) (Or.inr (hw _ (List.mem_of_getElem? (i := 19) rfl))) (by decide) (t := .long) (t' := .long) (by decide) (by decide)))
  have f4_3 := f3_4.other W4 (Or.inr (slot_ne (Or.inr (hw _ (List.mem_of_getElem? (i := 15) rfl))) (Or.inr (hw _ (List.mem_of_getElem? (i := 19) rfl))) (by decide) (t := .char) (t' := .long) (by decide) (by decide)))
  have f4_4 := fw3.other W4 (Or.inr (slot_ne (Or.inr (hw _ (List.mem_of_getElem? (i := 17) rfl))) (Or.inr (hw _ (List.mem_of_getElem? (i := 19) rfl))) (by decide) (t := .long) (t' := .long) (by decide) (by decide)))
  have Zs4 : n0 ≤ h4.size := Nat.le_trans Zs3 (Nat.le_of_eq W4.size.symm)
  have K4 := K3.wr W4 (Or.inl (List.mem_of_getElem? (i := 0) rfl))
  have N4 := Fr.snoc X4 N3 p_5
  refine own_st st4 ?_
  show own_Goes p e below s (Q2 Z a r p1 p2 p3 h0 n0) rRrm2.cells rRrm2.slots T4 (mkF m 20 #[rv a, iv r, .val (.long p1), .second, .val (.long p2), .second, .val (.long p3), .second] [])
  refine own_st (fun _ kk_ => XS.aloadN X4.here hx rfl (hb hby d2_20) rfl rfl (XS.lload X4.here hx rfl (hb hby d2_21) rfl kk_)) ?_
  show own_Goes p e below s (Q2 Z a r p1 p2 p3 h0 n0) rRrm2.cells rRrm2.slots T4 (mkF m 23 #[rv a, iv r, .val (.long p1), .second, .val (.long p2), .second, .val (.long p3), .second] [(.long p3), (.ref a)])
  obtain ⟨T5, h5, X5, e5, W5, st5⟩ := putF X4 hx hZ hown (host := "") (Or.inl (hw _ (List.mem_of_getElem? (i := 20) rfl))) Via.refl e4 f4_2 f4_0 (Or.inr ⟨(hw _ (List.mem_of_getElem? (i := 21) rfl)), rfl, hnm⟩) (hw _ (List.mem_of_getElem? (i := 6) rfl)) (ty := .long) (by decide) rfl rfl (g := (mkF m 23 #[rv a, iv r, .val (.long p1), .second, .val (.long p2), .second, .val (.long p3), .second] [(.long p3), (.ref a)])) rfl rfl (hb hby d2_23)
  have fw5 : Fld Z h5 a "com/example/majra/majra/engine/ProcessTable$Stat" "started" "J" (.long p3) := f4_2.same W5
  have f5_0 := f4_0.wr W5
  have f5_2 := f4_3.other W5 (Or.inr (slot_ne (Or.inr (hw _ (List.mem_of_getElem? (i := 15) rfl))) (Or.inr (hw _ (List.mem_of_getElem? (i := 21) rfl))) (by decide) (t := .char) (t' := .long) (by decide) (by decide)))
  have f5_3 := f4_4.other W5 (Or.inr (slot_ne (Or.inr (hw _ (List.mem_of_getElem? (i := 17) rfl))) (Or.inr (hw _ (List.mem_of_getElem? (i := 21) rfl))) (by decide) (t := .long) (t' := .long) (by decide) (by decide)))
  have f5_4 := fw4.other W5 (Or.inr (slot_ne (Or.inr (hw _ (List.mem_of_getElem? (i := 19) rfl))) (Or.inr (hw _ (List.mem_of_getElem? (i := 21) rfl))) (by decide) (t := .long) (t' := .long) (by decide) (by decide)))
  have Zs5 : n0 ≤ h5.size := Nat.le_trans Zs4 (Nat.le_of_eq W5.size.symm)
  have K5 := K4.wr W5 (Or.inl (List.mem_of_getElem? (i := 0) rfl))
  have N5 := Fr.snoc X5 N4 p_5
  refine own_st st5 ?_
  show own_Goes p e below s (Q2 Z a r p1 p2 p3 h0 n0) rRrm2.cells rRrm2.slots T5 (mkF m 26 #[rv a, iv r, .val (.long p1), .second, .val (.long p2), .second, .val (.long p3), .second] [])
  refine own_ret0 X5 hx hlk Bd.returns (hb hby d2_26) (by decide) (by decide) ?_
  show Q2 Z a r p1 p2 p3 h0 n0 none T5.heap _
  rw [e5]
  exact ⟨rfl, N5, K5, f5_2⟩
abbrev rRrm4 : Room := { frames := 0, cells := 0, slots := 0, locals := 0 }
theorem d4_0 : decode prog_13_method_2_code 0 = .ok (.aload_n 0, 1) := by decide +kernel
theorem d4_1 : decode prog_13_method_2_code 1 = .ok (.getfield 7, 3) := by decide +kernel
theorem d4_4 : decode prog_13_method_2_code 4 = .ok (.bipush 90, 2) := by decide +kernel
theorem d4_6 : decode prog_13_method_2_code 6 = .ok (.if_icmp .eq 12, 3) := by decide +kernel
theorem d4_9 : decode prog_13_method_2_code 9 = .ok (.aload_n 0, 1) := by decide +kernel
theorem d4_10 : decode prog_13_method_2_code 10 = .ok (.getfield 7, 3) := by decide +kernel
theorem d4_13 : decode prog_13_method_2_code 13 = .ok (.bipush 88, 2) := by decide +kernel
theorem d4_15 : decode prog_13_method_2_code 15 = .ok (.if_icmp .ne 7, 3) := by decide +kernel
theorem d4_18 : decode prog_13_method_2_code 18 = .ok (.iconst 1, 1) := by decide +kernel
theorem d4_19 : decode prog_13_method_2_code 19 = .ok (.goto 4, 3) := by decide +kernel
theorem d4_22 : decode prog_13_method_2_code 22 = .ok (.iconst 0, 1) := by decide +kernel
theorem d4_23 : decode prog_13_method_2_code 23 = .ok (.ireturn, 1) := by decide +kernel
theorem pn_rm4 : plainFor (⟨"com/example/majra/majra/engine/ProcessTable$Stat", "isEnded", "()Z"⟩ : MethodName) = true := by first | exact plainFor_of_name (by first | (simp [plainName, overriddenIn]; done) | decide +kernel) | decide +kernel
theorem ef_rm4 (m : MethodId) (a : Addr) : entryFrame m #[(.ref a)] 1 = (mkF m 0 #[rv a] []) := by first | (simp [entryFrame, mkF, argsToLocals, Value.category]; done) | rfl
def Q4 (Z : State) (a : Addr) (r : Int32) (h0 : Heap) (n0 : Nat) (v_ : Option Value) (h_ : Heap) (L_ : List Loc) : Prop := (v_ = some (.int (own_b (r = 90 ∨ r = 88)))) ∧ (Fr n0 L_) ∧ (h_ = h0)
set_option maxRecDepth 65536 in
set_option maxHeartbeats 40000000 in
theorem rm4 (l : Launch) (Z : State) (a0 : Array Value) (hw : ∀ d ∈ tables_1, d.before a0 Z = true) (ws : List Jvm.Cond) (a : Addr) (r : Int32) (h0 : Heap) (n0 : Nat) (Z0 : n0 ≤ h0.size) (p_0 : Fld Z h0 a "com/example/majra/majra/engine/ProcessTable$Stat" "state" "C" (.int r)) :
    MetFree l (⟨"com/example/majra/majra/engine/ProcessTable$Stat", "isEnded", "()Z"⟩ : MethodName) (head1 (Jvm.Cond.code (⟨"com/example/majra/majra/engine/ProcessTable$Stat", "isEnded", "()Z"⟩ : MethodName) prog_13_method_2_code 1 (some .boolean) :: ws) rRrm4) (fun a_ U_ => a_ = #[(.ref a)] ∧ Z.Warmed39 U_.vm ∧ U_.heap = h0) (fun _ _ _ _ _ => True) (fun _ U_ o_ U1_ => ∃ v_ L_, o_ = .returned v_ ∧ Q4 Z a r h0 n0 v_ U1_.heap L_ ∧ FrameEnd U_ o_ U1_ L_ rRrm4.cells rRrm4.slots) := by
  refine MetFree.of_bodySF pn_rm4 hisR ?_
  intro p e s m args below meth c s₁ Bd hml0 hP hK
  obtain ⟨rfl, hZ, hh⟩ := hP
  have hx := Bd.exec
  have hby := Bd.bytes
  have hlk : meth.locks = false := Bd.notSynchronized
  have hml : c.maxLocals = 1 := hml0
  have hown : s.vm.findClass "com/example/majra/majra/engine/ProcessTable$Stat" = some m.cls := findClass_of_methodNamed Bd.named
  have hnm := (name_of_methodNamed Bd.named Bd.method).1
  have X0 : Stand p l e rRrm4 s m #[(.ref a)] below meth c s₁ [] 0 0 := Stand.of_body Bd
  have e0 : s₁.heap = h0 := by rw [← hh, Bd.state]; rfl
  have N0 := Fr.nil n0
  show own_Goes p e below s (Q4 Z a r h0 n0) rRrm4.cells rRrm4.slots s₁ (entryFrame m #[(.ref a)] 1)
  rw [ef_rm4 m a]
  show own_Goes p e below s (Q4 Z a r h0 n0) rRrm4.cells rRrm4.slots s₁ (mkF m 0 #[rv a] [])
  refine own_st (fun _ kk_ => XS.aloadN X0.here hx rfl (hb hby d4_0) rfl rfl kk_) ?_
  show own_Goes p e below s (Q4 Z a r h0 n0) rRrm4.cells rRrm4.slots s₁ (mkF m 1 #[rv a] [(.ref a)])
  obtain ⟨T1, X1, e1, st1⟩ := getF X0 hx hZ hown (host := "") (Or.inl (hw _ (List.mem_of_getElem? (i := 14) rfl))) Via.refl e0 p_0 (g := (mkF m 1 #[rv a] [(.ref a)])) rfl rfl (hb hby d4_1)
  refine own_st st1 ?_
  show own_Goes p e below s (Q4 Z a r h0 n0) rRrm4.cells rRrm4.slots T1 (mkF m 4 #[rv a] [(.int r)])
  refine own_st (fun _ kk_ => XS.bipush X1.here hx rfl (hb hby d4_4) kk_) ?_
  show own_Goes p e below s (Q4 Z a r h0 n0) rRrm4.cells rRrm4.slots T1 (mkF m 6 #[rv a] [(.int (90 : Int32)), (.int r)])
  rcases Classical.em (r = (90 : Int32)) with q0 | q0
  · refine own_st (fun _ kk_ => XS.icmpYes X1.here hx rfl (pc0 := 6) (pc' := 18) rfl (hb hby d4_6) rfl (XT.ii_eq_t q0) (by decide) (by decide) (XS.iconst X1.here hx rfl (hb hby d4_18) (XS.goto X1.here hx rfl (pc0 := 19) (pc' := 23) rfl (hb hby d4_19) (by decide) (by decide) kk_))) ?_
    show own_Goes p e below s (Q4 Z a r h0 n0) rRrm4.cells rRrm4.slots T1 (mkF m 23 #[rv a] [(.int (1 : Int32))])
    refine own_retN X1 hx hlk (t := .boolean) Bd.returns (by simp) (hb hby d4_23) (by decide) (by decide) ?_
    show Q4 Z a r h0 n0 (some (.int (nar .boolean (1 : Int32)))) T1.heap _
    rw [e1]
    exact ⟨by exact own_bt (by simp [q0]), N0, rfl⟩
  · refine own_st (fun _ kk_ => XS.icmpNo X1.here hx rfl (hb hby d4_6) rfl (XT.ii_eq_f q0) (XS.aloadN X1.here hx rfl (hb hby d4_9) rfl rfl kk_)) ?_
    show own_Goes p e below s (Q4 Z a r h0 n0) rRrm4.cells rRrm4.slots T1 (mkF m 10 #[rv a] [(.ref a)])
    obtain ⟨T2, X2, e2, st2⟩ := getF X1 hx hZ hown (host := "") (Or.inl (hw _ (List.mem_of_getElem? (i := 14) rfl))) Via.refl e1 p_0 (g := (mkF m 10 #[rv a] [(.ref a)])) rfl rfl (hb hby d4_10)
    refine own_st st2 ?_
    show own_Goes p e below s (Q4 Z a r h0 n0) rRrm4.cells rRrm4.slots T2 (mkF m 13 #[rv a] [(.int r)])
    refine own_st (fun _ kk_ => XS.bipush X2.here hx rfl (hb hby d4_13) kk_) ?_
    show own_Goes p e below s (Q4 Z a r h0 n0) rRrm4.cells rRrm4.slots T2 (mkF m 15 #[rv a] [(.int (88 : Int32)), (.int r)])
    rcases Classical.em (r = (88 : Int32)) with q1 | q1
    · refine own_st (fun _ kk_ => XS.icmpNo X2.here hx rfl (hb hby d4_15) rfl (XT.ii_ne_f q1) (XS.iconst X2.here hx rfl (hb hby d4_18) (XS.goto X2.here hx rfl (pc0 := 19) (pc' := 23) rfl (hb hby d4_19) (by decide) (by decide) kk_))) ?_
      show own_Goes p e below s (Q4 Z a r h0 n0) rRrm4.cells rRrm4.slots T2 (mkF m 23 #[rv a] [(.int (1 : Int32))])
      refine own_retN X2 hx hlk (t := .boolean) Bd.returns (by simp) (hb hby d4_23) (by decide) (by decide) ?_
      show Q4 Z a r h0 n0 (some (.int (nar .boolean (1 : Int32)))) T2.heap _
      rw [e2]
      exact ⟨by exact own_bt (by simp [q0, q1]), N0, rfl⟩
    · refine own_st (fun _ kk_ => XS.icmpYes X2.here hx rfl (pc0 := 15) (pc' := 22) rfl (hb hby d4_15) rfl (XT.ii_ne_t q1) (by decide) (by decide) (XS.iconst X2.here hx rfl (hb hby d4_22) kk_)) ?_
      show own_Goes p e below s (Q4 Z a r h0 n0) rRrm4.cells rRrm4.slots T2 (mkF m 23 #[rv a] [(.int (0 : Int32))])
      refine own_retN X2 hx hlk (t := .boolean) Bd.returns (by simp) (hb hby d4_23) (by decide) (by decide) ?_
      show Q4 Z a r h0 n0 (some (.int (nar .boolean (0 : Int32)))) T2.heap _
      rw [e2]
      exact ⟨by exact own_bf (by simp [q0, q1]), N0, rfl⟩
theorem pd_0 : parseMethodDescriptor "(II)C" = some ⟨[.int, .int], some .char⟩ := by decide +kernel
theorem pd_1 : parseMethodDescriptor "(CJJJ)V" = some ⟨[.char, .long, .long, .long], none⟩ := by decide +kernel
theorem pd_2 : parseMethodDescriptor "()Z" = some ⟨[], some .boolean⟩ := by decide +kernel
theorem pn_rm0 : plainFor x = true := by first | exact plainFor_of_name (by first | (simp [plainName, overriddenIn]; done) | decide +kernel) | decide +kernel
theorem ef_rm0 (m : MethodId) (p1 : Int32) (p2 : Int32) (p3 : Int64) (p4 : Int64) (p5 : Int64) : entryFrame m #[(.int p1), (.int p2), (.long p3), (.long p4), (.long p5)] maxLocals = (mkF m 0 #[iv p1, iv p2, .val (.long p3), .second, .val (.long p4), .second, .val (.long p5), .second, .unset, .unset, .unset, .unset] []) := by first | (simp [entryFrame, mkF, argsToLocals, Value.category, maxLocals]; done) | rfl
def Q0 (Z : State) (p1 : Int32) (p2 : Int32) (p3 : Int64) (p4 : Int64) (p5 : Int64) (h0 : Heap) (n0 : Nat) (v_ : Option Value) (h_ : Heap) (L_ : List Loc) : Prop := (v_ = some (.int (1 : Int32))) ∧ (Fr n0 L_)
set_option maxRecDepth 65536 in
set_option maxHeartbeats 40000000 in
theorem rm0 (l : Launch) (Z : State) (a0 : Array Value) (hw : ∀ d ∈ tables_1, d.before a0 Z = true) (ws : List Jvm.Cond) (p1 : Int32) (p2 : Int32) (p3 : Int64) (p4 : Int64) (p5 : Int64) (h0 : Heap) (n0 : Nat) (Z0 : n0 ≤ h0.size) :
    MetFree l x (head1 (Jvm.Cond.code x code maxLocals ret :: ws) room_1) (fun a_ U_ => a_ = #[(.int p1), (.int p2), (.long p3), (.long p4), (.long p5)] ∧ Z.Warmed39 U_.vm ∧ U_.heap = h0) (fun _ _ _ _ _ => True) (fun _ U_ o_ U1_ => ∃ v_ L_, o_ = .returned v_ ∧ Q0 Z p1 p2 p3 p4 p5 h0 n0 v_ U1_.heap L_ ∧ FrameEnd U_ o_ U1_ L_ 16 128) := by
  refine MetFree.of_bodySF pn_rm0 hisR ?_
  intro p e s m args below meth c s₁ Bd hml0 hP hK
  obtain ⟨rfl, hZ, hh⟩ := hP
  have hx := Bd.exec
  have hby := Bd.bytes
  have hlk : meth.locks = false := Bd.notSynchronized
  have hml : c.maxLocals = 12 := hml0
  have hown : s.vm.findClass "com/example/majra/majra/engine/StatIsEndedPinLaw" = some m.cls := findClass_of_methodNamed Bd.named
  have hnm := (name_of_methodNamed Bd.named Bd.method).1
  have X0 : Stand p l e room_1 s m #[(.int p1), (.int p2), (.long p3), (.long p4), (.long p5)] below meth c s₁ [] 0 0 := Stand.of_body Bd
  have e0 : s₁.heap = h0 := by rw [← hh, Bd.state]; rfl
  have N0 := Fr.nil n0
  show own_Goes p e below s (Q0 Z p1 p2 p3 p4 p5 h0 n0) 16 128 s₁ (entryFrame m #[(.int p1), (.int p2), (.long p3), (.long p4), (.long p5)] maxLocals)
  rw [ef_rm0 m p1 p2 p3 p4 p5]
  show own_Goes p e below s (Q0 Z p1 p2 p3 p4 p5 h0 n0) 16 128 s₁ (mkF m 0 #[iv p1, iv p2, .val (.long p3), .second, .val (.long p4), .second, .val (.long p5), .second, .unset, .unset, .unset, .unset] [])
  refine own_st (fun _ kk_ => XS.iloadN X0.here hx rfl (hb hby at_0) rfl (XS.iloadN X0.here hx rfl (hb hby at_1) rfl kk_)) ?_
  show own_Goes p e below s (Q0 Z p1 p2 p3 p4 p5 h0 n0) 16 128 s₁ (mkF m 2 #[iv p1, iv p2, .val (.long p3), .second, .val (.long p4), .second, .val (.long p5), .second, .unset, .unset, .unset, .unset] [(.int p2), (.int p1)])
  obtain ⟨_, _, ⟨T1, L1, k1, n1⟩, -, X1, ⟨Lc1, hQ1, l1, y1, z1⟩, st1⟩ := Jvm.LawKit.callS X0 hx (y := (⟨"com/example/majra/majra/engine/StatIsEndedPinLaw", "pick", "(II)C"⟩ : MethodName)) hown (mvT hZ (hw _ (List.mem_of_getElem? (i := 0) rfl))) (mvT hZ (hw _ (List.mem_of_getElem? (i := 1) rfl))) (mvT hZ (hw _ (List.mem_of_getElem? (i := 2) rfl))) (mvT hZ (hw _ (List.mem_of_getElem? (i := 3) rfl))) (by decide) (backOf (W := 0) (rm1 l Z a0 hw [] (p1) (p2) h0 n0 Z0) hZ (hw _ (List.mem_of_getElem? (i := 3) rfl)) (hw _ (List.mem_of_getElem? (i := 2) rfl)) (by decide) (by decide)) (g := (mkF m 2 #[iv p1, iv p2, .val (.long p3), .second, .val (.long p4), .second, .val (.long p5), .second, .unset, .unset, .unset, .unset] [(.int p2), (.int p1)])) rfl (by rw [hml]; rfl) (argsL := [(.int p1), (.int p2)]) (rest := []) (lenOf pd_0 rfl) rfl (by show 2 * 0 + _ ≤ _; exact Nat.le_of_eq rfl) (hb hby at_2) (fun _ _ => ⟨rfl, e0, (by decide : 0 + 0 ≤ _), (by decide : 0 + 0 ≤ _)⟩)
  dsimp only [Pt.U, Pt.locs, Pt.cells, Pt.slots] at X1 l1 y1 z1 st1 hQ1
  subst l1 y1 z1
  obtain ⟨x1_r, rfl, Nq1, eq1, u1_0⟩ := hQ1
  have N1 := Fr.app N0 Nq1
  refine own_st st1 ?_
  show own_Goes p e below s (Q0 Z p1 p2 p3 p4 p5 h0 n0) 16 128 T1 (mkF m 5 #[iv p1, iv p2, .val (.long p3), .second, .val (.long p4), .second, .val (.long p5), .second, .unset, .unset, .unset, .unset] [(.int x1_r)])
  refine own_st (fun _ kk_ => XS.istore X1.here hx rfl (hb hby at_5) rfl (l' := #[iv p1, iv p2, .val (.long p3), .second, .val (.long p4), .second, .val (.long p5), .second, iv x1_r, .unset, .unset, .unset]) rfl (XS.iload X1.here hx rfl (hb hby at_7) rfl (X1.ldcInt hx hown (mvT hZ (hw _ (List.mem_of_getElem? (i := 4) rfl))) (g := (mkF m 9 #[iv p1, iv p2, .val (.long p3), .second, .val (.long p4), .second, .val (.long p5), .second, iv x1_r, .unset, .unset, .unset] [(.int x1_r)])) rfl (hb hby at_9) _ (XS.iand X1.here hx rfl (hb hby at_11) rfl (XS.bipush X1.here hx rfl (hb hby at_12) kk_))))) ?_
  show own_Goes p e below s (Q0 Z p1 p2 p3 p4 p5 h0 n0) 16 128 T1 (mkF m 14 #[iv p1, iv p2, .val (.long p3), .second, .val (.long p4), .second, .val (.long p5), .second, iv x1_r, .unset, .unset, .unset] [(.int (88 : Int32)), (.int (x1_r &&& (65533 : Int32)))])
  rcases Classical.em ((x1_r &&& (65533 : Int32)) = (88 : Int32)) with q | q
  · refine own_st (fun _ kk_ => XS.icmpNo X1.here hx rfl (hb hby at_14) rfl (XT.ii_ne_f q) (XS.iconst X1.here hx rfl (hb hby at_17) (XS.goto X1.here hx rfl (pc0 := 18) (pc' := 22) rfl (hb hby at_18) (by decide) (by decide) (XS.istore X1.here hx rfl (hb hby at_22) rfl (l' := #[iv p1, iv p2, .val (.long p3), .second, .val (.long p4), .second, .val (.long p5), .second, iv x1_r, iv (1 : Int32), .unset, .unset]) rfl kk_)))) ?_
    show own_Goes p e below s (Q0 Z p1 p2 p3 p4 p5 h0 n0) 16 128 T1 (mkF m 24 #[iv p1, iv p2, .val (.long p3), .second, .val (.long p4), .second, .val (.long p5), .second, iv x1_r, iv (1 : Int32), .unset, .unset] [])
    obtain ⟨T2, h2, X2, e2, E2, A2, D2, -, st2⟩ := newO X1 hx hZ hown (hw _ (List.mem_of_getElem? (i := 5) rfl)) (hw _ (List.mem_of_getElem? (i := 6) rfl)) (hw _ (List.mem_of_getElem? (i := 7) rfl)) eq1 (g := (mkF m 24 #[iv p1, iv p2, .val (.long p3), .second, .val (.long p4), .second, .val (.long p5), .second, iv x1_r, iv (1 : Int32), .unset, .unset] [])) rfl (hb hby at_24) (by decide) (by decide)
    obtain ⟨b2, gx2⟩ : ∃ z, z = h0.size := ⟨_, rfl⟩
    rw [← gx2] at A2 D2 st2
    have gg2 : n0 ≤ b2 := Nat.le_trans Z0 (Nat.le_of_eq gx2.symm)
    have Zs2 : n0 ≤ h2.size := Nat.le_trans Z0 E2.1
    have fn2_state : Fld Z h2 b2 "com/example/majra/majra/engine/ProcessTable$Stat" "state" "C" (.int (0 : Int32)) := D2 (Or.inr (hw _ (List.mem_of_getElem? (i := 15) rfl))) (ty := .char) (by decide)
    have fn2_group : Fld Z h2 b2 "com/example/majra/majra/engine/ProcessTable$Stat" "group" "J" (.long (0 : Int64)) := D2 (Or.inr (hw _ (List.mem_of_getElem? (i := 17) rfl))) (ty := .long) (by decide)
    have fn2_session : Fld Z h2 b2 "com/example/majra/majra/engine/ProcessTable$Stat" "session" "J" (.long (0 : Int64)) := D2 (Or.inr (hw _ (List.mem_of_getElem? (i := 19) rfl))) (ty := .long) (by decide)
    have fn2_started : Fld Z h2 b2 "com/example/majra/majra/engine/ProcessTable$Stat" "started" "J" (.long (0 : Int64)) := D2 (Or.inr (hw _ (List.mem_of_getElem? (i := 21) rfl))) (ty := .long) (by decide)
    refine own_st st2 ?_
    show own_Goes p e below s (Q0 Z p1 p2 p3 p4 p5 h0 n0) 16 128 T2 (mkF m 27 #[iv p1, iv p2, .val (.long p3), .second, .val (.long p4), .second, .val (.long p5), .second, iv x1_r, iv (1 : Int32), .unset, .unset] [(.ref b2)])
    refine own_st (fun _ kk_ => XS.dup X2.here hx rfl (hb hby at_27) rfl rfl (XS.iload X2.here hx rfl (hb hby at_28) rfl (XS.lloadN X2.here hx rfl (hb hby at_30) rfl (XS.lload X2.here hx rfl (hb hby at_31) rfl (XS.lload X2.here hx rfl (hb hby at_33) rfl kk_))))) ?_
    show own_Goes p e below s (Q0 Z p1 p2 p3 p4 p5 h0 n0) 16 128 T2 (mkF m 35 #[iv p1, iv p2, .val (.long p3), .second, .val (.long p4), .second, .val (.long p5), .second, iv x1_r, iv (1 : Int32), .unset, .unset] [(.long p5), (.long p4), (.long p3), (.int x1_r), (.ref b2), (.ref b2)])
    obtain ⟨_, _, ⟨T3, L3, k3, n3⟩, -, X3, ⟨Lc3, hQ3, l3, y3, z3⟩, st3⟩ := X2.specialBack hx (y := (⟨"com/example/majra/majra/engine/ProcessTable$Stat", "<init>", "(CJJJ)V"⟩ : MethodName)) rfl hown (mvT hZ (hw _ (List.mem_of_getElem? (i := 8) rfl))) (mvT hZ (hw _ (List.mem_of_getElem? (i := 9) rfl))) (mvT hZ (hw _ (List.mem_of_getElem? (i := 10) rfl))) (by decide) (backOf (W := 1) (rm2 l Z a0 hw [] (b2) (x1_r) (p3) (p4) (p5) h2 n0 Zs2 A2 fn2_state fn2_group fn2_session fn2_started gg2 (by assumption)) hZ (hw _ (List.mem_of_getElem? (i := 10) rfl)) (hw _ (List.mem_of_getElem? (i := 7) rfl)) (by decide) (by decide)) (g := (mkF m 35 #[iv p1, iv p2, .val (.long p3), .second, .val (.long p4), .second, .val (.long p5), .second, iv x1_r, iv (1 : Int32), .unset, .unset] [(.long p5), (.long p4), (.long p3), (.int x1_r), (.ref b2), (.ref b2)])) rfl (by rw [hml]; rfl) (Steps.refl _) (a := b2) (argsL := [(.int x1_r), (.long p3), (.long p4), (.long p5)]) (rest := [(.ref b2)]) (lenOf pd_1 rfl) rfl (by show 2 * 0 + _ ≤ _; exact Nat.le_of_eq rfl) (hb hby at_35) (fun _ _ => ⟨rfl, e2, (by decide : 1 + 0 ≤ _), (by decide : 4 + 0 ≤ _)⟩)
    dsimp only [Pt.U, Pt.locs, Pt.cells, Pt.slots] at X3 l3 y3 z3 st3 hQ3
    subst l3 y3 z3
    obtain ⟨rfl, Nq3, Kq3, u3_0⟩ := hQ3
    have N3 := Fr.app N1 Nq3
    have f3_0 := A2.keep Kq3
    have Zs3 : n0 ≤ T3.heap.size := Nat.le_trans Zs2 Kq3.1
    refine own_st (fun _ kk_ => st3.trans kk_) ?_
    show own_Goes p e below s (Q0 Z p1 p2 p3 p4 p5 h0 n0) 16 128 T3 (mkF m 38 #[iv p1, iv p2, .val (.long p3), .second, .val (.long p4), .second, .val (.long p5), .second, iv x1_r, iv (1 : Int32), .unset, .unset] [(.ref b2)])
    refine own_st (fun _ kk_ => XS.astore X3.here hx rfl (hb hby at_38) rfl rfl (l' := #[iv p1, iv p2, .val (.long p3), .second, .val (.long p4), .second, .val (.long p5), .second, iv x1_r, iv (1 : Int32), rv b2, .unset]) rfl kk_) ?_
    show own_Goes p e below s (Q0 Z p1 p2 p3 p4 p5 h0 n0) 16 128 T3 (mkF m 40 #[iv p1, iv p2, .val (.long p3), .second, .val (.long p4), .second, .val (.long p5), .second, iv x1_r, iv (1 : Int32), rv b2, .unset] [])
    obtain ⟨T4, h4, X4, e4, E4, A4, D4, -, st4⟩ := newO X3 hx hZ hown (hw _ (List.mem_of_getElem? (i := 5) rfl)) (hw _ (List.mem_of_getElem? (i := 6) rfl)) (hw _ (List.mem_of_getElem? (i := 7) rfl)) rfl (g := (mkF m 40 #[iv p1, iv p2, .val (.long p3), .second, .val (.long p4), .second, .val (.long p5), .second, iv x1_r, iv (1 : Int32), rv b2, .unset] [])) rfl (hb hby at_40) (by decide) (by decide)
    obtain ⟨b4, gx4⟩ : ∃ z, z = T3.heap.size := ⟨_, rfl⟩
    rw [← gx4] at A4 D4 st4
    have ne4_b2 : b2 ≠ b4 := Nat.ne_of_lt (Nat.lt_of_lt_of_eq f3_0.lt gx4.symm)
    have gg4 : n0 ≤ b4 := Nat.le_trans Zs3 (Nat.le_of_eq gx4.symm)
    have f4_0 := f3_0.ext E4
    have f4_1 := u3_0.ext E4
    have Zs4 : n0 ≤ h4.size := Nat.le_trans Zs3 E4.1
    have fn4_state : Fld Z h4 b4 "com/example/majra/majra/engine/ProcessTable$Stat" "state" "C" (.int (0 : Int32)) := D4 (Or.inr (hw _ (List.mem_of_getElem? (i := 15) rfl))) (ty := .char) (by decide)
    have fn4_group : Fld Z h4 b4 "com/example/majra/majra/engine/ProcessTable$Stat" "group" "J" (.long (0 : Int64)) := D4 (Or.inr (hw _ (List.mem_of_getElem? (i := 17) rfl))) (ty := .long) (by decide)
    have fn4_session : Fld Z h4 b4 "com/example/majra/majra/engine/ProcessTable$Stat" "session" "J" (.long (0 : Int64)) := D4 (Or.inr (hw _ (List.mem_of_getElem? (i := 19) rfl))) (ty := .long) (by decide)
    have fn4_started : Fld Z h4 b4 "com/example/majra/majra/engine/ProcessTable$Stat" "started" "J" (.long (0 : Int64)) := D4 (Or.inr (hw _ (List.mem_of_getElem? (i := 21) rfl))) (ty := .long) (by decide)
    refine own_st st4 ?_
    show own_Goes p e below s (Q0 Z p1 p2 p3 p4 p5 h0 n0) 16 128 T4 (mkF m 43 #[iv p1, iv p2, .val (.long p3), .second, .val (.long p4), .second, .val (.long p5), .second, iv x1_r, iv (1 : Int32), rv b2, .unset] [(.ref b4)])
    refine own_st (fun _ kk_ => XS.dup X4.here hx rfl (hb hby at_43) rfl rfl (XS.iload X4.here hx rfl (hb hby at_44) rfl (XS.lload X4.here hx rfl (hb hby at_46) rfl (XS.lloadN X4.here hx rfl (hb hby at_48) rfl (XS.lload X4.here hx rfl (hb hby at_49) rfl kk_))))) ?_
    show own_Goes p e below s (Q0 Z p1 p2 p3 p4 p5 h0 n0) 16 128 T4 (mkF m 51 #[iv p1, iv p2, .val (.long p3), .second, .val (.long p4), .second, .val (.long p5), .second, iv x1_r, iv (1 : Int32), rv b2, .unset] [(.long p4), (.long p3), (.long p5), (.int x1_r), (.ref b4), (.ref b4)])
    obtain ⟨_, _, ⟨T5, L5, k5, n5⟩, -, X5, ⟨Lc5, hQ5, l5, y5, z5⟩, st5⟩ := X4.specialBack hx (y := (⟨"com/example/majra/majra/engine/ProcessTable$Stat", "<init>", "(CJJJ)V"⟩ : MethodName)) rfl hown (mvT hZ (hw _ (List.mem_of_getElem? (i := 8) rfl))) (mvT hZ (hw _ (List.mem_of_getElem? (i := 9) rfl))) (mvT hZ (hw _ (List.mem_of_getElem? (i := 10) rfl))) (by decide) (backOf (W := 1) (rm2 l Z a0 hw [] (b4) (x1_r) (p5) (p3) (p4) h4 n0 Zs4 A4 fn4_state fn4_group fn4_session fn4_started gg4 (by assumption)) hZ (hw _ (List.mem_of_getElem? (i := 10) rfl)) (hw _ (List.mem_of_getElem? (i := 7) rfl)) (by decide) (by decide)) (g := (mkF m 51 #[iv p1, iv p2, .val (.long p3), .second, .val (.long p4), .second, .val (.long p5), .second, iv x1_r, iv (1 : Int32), rv b2, .unset] [(.long p4), (.long p3), (.long p5), (.int x1_r), (.ref b4), (.ref b4)])) rfl (by rw [hml]; rfl) (Steps.refl _) (a := b4) (argsL := [(.int x1_r), (.long p5), (.long p3), (.long p4)]) (rest := [(.ref b4)]) (lenOf pd_1 rfl) rfl (by show 2 * 0 + _ ≤ _; exact Nat.le_of_eq rfl) (hb hby at_51) (fun _ _ => ⟨rfl, e4, (by decide : 2 + 0 ≤ _), (by decide : 8 + 0 ≤ _)⟩)
    dsimp only [Pt.U, Pt.locs, Pt.cells, Pt.slots] at X5 l5 y5 z5 st5 hQ5
    subst l5 y5 z5
    obtain ⟨rfl, Nq5, Kq5, u5_0⟩ := hQ5
    have N5 := Fr.app N3 Nq5
    have f5_0 := f4_0.keep Kq5
    have f5_1 := f4_1.keep Kq5 (ninS ne4_b2 nin0)
    have f5_2 := A4.keep Kq5
    have Zs5 : n0 ≤ T5.heap.size := Nat.le_trans Zs4 Kq5.1
    refine own_st (fun _ kk_ => st5.trans kk_) ?_
    show own_Goes p e below s (Q0 Z p1 p2 p3 p4 p5 h0 n0) 16 128 T5 (mkF m 54 #[iv p1, iv p2, .val (.long p3), .second, .val (.long p4), .second, .val (.long p5), .second, iv x1_r, iv (1 : Int32), rv b2, .unset] [(.ref b4)])
    refine own_st (fun _ kk_ => XS.astore X5.here hx rfl (hb hby at_54) rfl rfl (l' := #[iv p1, iv p2, .val (.long p3), .second, .val (.long p4), .second, .val (.long p5), .second, iv x1_r, iv (1 : Int32), rv b2, rv b4]) rfl (XS.aload X5.here hx rfl (hb hby at_56) rfl rfl kk_)) ?_
    show own_Goes p e below s (Q0 Z p1 p2 p3 p4 p5 h0 n0) 16 128 T5 (mkF m 58 #[iv p1, iv p2, .val (.long p3), .second, .val (.long p4), .second, .val (.long p5), .second, iv x1_r, iv (1 : Int32), rv b2, rv b4] [(.ref b2)])
    obtain ⟨cq6, kq6, q6a, q6b, q6c⟩ := isOf hZ rfl f5_0
    obtain ⟨_, _, ⟨T6, L6, k6, n6⟩, -, X6, ⟨Lc6, hQ6, l6, y6, z6⟩, st6⟩ := X5.virtualBack hx (y := (⟨"com/example/majra/majra/engine/ProcessTable$Stat", "isEnded", "()Z"⟩ : MethodName)) (z := (⟨"com/example/majra/majra/engine/ProcessTable$Stat", "isEnded", "()Z"⟩ : MethodName)) hown (mvT hZ (hw _ (List.mem_of_getElem? (i := 22) rfl))) (mvT hZ (hw _ (List.mem_of_getElem? (i := 23) rfl))) (notFace_of_selects (args := #[]) (mvT hZ (hw _ (List.mem_of_getElem? (i := 25) rfl)))) (mvT hZ (hw _ (List.mem_of_getElem? (i := 25) rfl))) (mvT hZ (hw _ (List.mem_of_getElem? (i := 24) rfl))) (by decide) (backOf (W := 0) (rm4 l Z a0 hw [] (b2) ((nar .char x1_r)) T5.heap n0 Zs5 f5_1) hZ (hw _ (List.mem_of_getElem? (i := 26) rfl)) (hw _ (List.mem_of_getElem? (i := 7) rfl)) (by decide) (by decide)) q6a q6c (g := (mkF m 58 #[iv p1, iv p2, .val (.long p3), .second, .val (.long p4), .second, .val (.long p5), .second, iv x1_r, iv (1 : Int32), rv b2, rv b4] [(.ref b2)])) rfl (by rw [hml]; rfl) (Steps.refl _) (argsL := []) (rest := []) (lenOf pd_2 rfl) rfl (by show 2 * 0 + _ ≤ _; exact Nat.le_of_eq rfl) (hb hby at_58) (fun _ _ => ⟨rfl, rfl, (by decide : 2 + 0 ≤ _), (by decide : 8 + 0 ≤ _)⟩)
    dsimp only [Pt.U, Pt.locs, Pt.cells, Pt.slots] at X6 l6 y6 z6 st6 hQ6
    subst l6 y6 z6
    obtain ⟨rfl, Nq6, eq6⟩ := hQ6
    have N6 := Fr.app N5 Nq6
    refine own_st (fun _ kk_ => st6.trans kk_) ?_
    show own_Goes p e below s (Q0 Z p1 p2 p3 p4 p5 h0 n0) 16 128 T6 (mkF m 61 #[iv p1, iv p2, .val (.long p3), .second, .val (.long p4), .second, .val (.long p5), .second, iv x1_r, iv (1 : Int32), rv b2, rv b4] [(.int (own_b ((nar .char x1_r) = 90 ∨ (nar .char x1_r) = 88)))])
    refine own_st (fun _ kk_ => XS.iload X6.here hx rfl (hb hby at_61) rfl (XS.icmpNo X6.here hx rfl (hb hby at_63) rfl (XT.ii_ne_f (own_b1 (by rw [own_narid u1_0]; first | exact (own_ends u1_0).mp q | exact fun k => q ((own_ends u1_0).mpr k)))) (XS.aload X6.here hx rfl (hb hby at_66) rfl rfl kk_))) ?_
    show own_Goes p e below s (Q0 Z p1 p2 p3 p4 p5 h0 n0) 16 128 T6 (mkF m 68 #[iv p1, iv p2, .val (.long p3), .second, .val (.long p4), .second, .val (.long p5), .second, iv x1_r, iv (1 : Int32), rv b2, rv b4] [(.ref b4)])
    obtain ⟨cq7, kq7, q7a, q7b, q7c⟩ := isOf hZ eq6 f5_2
    obtain ⟨_, _, ⟨T7, L7, k7, n7⟩, -, X7, ⟨Lc7, hQ7, l7, y7, z7⟩, st7⟩ := X6.virtualBack hx (y := (⟨"com/example/majra/majra/engine/ProcessTable$Stat", "isEnded", "()Z"⟩ : MethodName)) (z := (⟨"com/example/majra/majra/engine/ProcessTable$Stat", "isEnded", "()Z"⟩ : MethodName)) hown (mvT hZ (hw _ (List.mem_of_getElem? (i := 22) rfl))) (mvT hZ (hw _ (List.mem_of_getElem? (i := 23) rfl))) (notFace_of_selects (args := #[]) (mvT hZ (hw _ (List.mem_of_getElem? (i := 25) rfl)))) (mvT hZ (hw _ (List.mem_of_getElem? (i := 25) rfl))) (mvT hZ (hw _ (List.mem_of_getElem? (i := 24) rfl))) (by decide) (backOf (W := 0) (rm4 l Z a0 hw [] (b4) ((nar .char x1_r)) T5.heap n0 Zs5 u5_0) hZ (hw _ (List.mem_of_getElem? (i := 26) rfl)) (hw _ (List.mem_of_getElem? (i := 7) rfl)) (by decide) (by decide)) q7a q7c (g := (mkF m 68 #[iv p1, iv p2, .val (.long p3), .second, .val (.long p4), .second, .val (.long p5), .second, iv x1_r, iv (1 : Int32), rv b2, rv b4] [(.ref b4)])) rfl (by rw [hml]; rfl) (Steps.refl _) (argsL := []) (rest := []) (lenOf pd_2 rfl) rfl (by show 2 * 0 + _ ≤ _; exact Nat.le_of_eq rfl) (hb hby at_68) (fun _ _ => ⟨rfl, eq6, (by decide : 2 + 0 ≤ _), (by decide : 8 + 0 ≤ _)⟩)
    dsimp only [Pt.U, Pt.locs, Pt.cells, Pt.slots] at X7 l7 y7 z7 st7 hQ7
    subst l7 y7 z7
    obtain ⟨rfl, Nq7, eq7⟩ := hQ7
    have N7 := Fr.app N6 Nq7
    refine own_st (fun _ kk_ => st7.trans kk_) ?_
    show own_Goes p e below s (Q0 Z p1 p2 p3 p4 p5 h0 n0) 16 128 T7 (mkF m 71 #[iv p1, iv p2, .val (.long p3), .second, .val (.long p4), .second, .val (.long p5), .second, iv x1_r, iv (1 : Int32), rv b2, rv b4] [(.int (own_b ((nar .char x1_r) = 90 ∨ (nar .char x1_r) = 88)))])
    refine own_st (fun _ kk_ => XS.iload X7.here hx rfl (hb hby at_71) rfl (XS.icmpNo X7.here hx rfl (hb hby at_73) rfl (XT.ii_ne_f (own_b1 (by rw [own_narid u1_0]; first | exact (own_ends u1_0).mp q | exact fun k => q ((own_ends u1_0).mpr k)))) (XS.iconst X7.here hx rfl (hb hby at_76) (XS.goto X7.here hx rfl (pc0 := 77) (pc' := 81) rfl (hb hby at_77) (by decide) (by decide) kk_)))) ?_
    show own_Goes p e below s (Q0 Z p1 p2 p3 p4 p5 h0 n0) 16 128 T7 (mkF m 81 #[iv p1, iv p2, .val (.long p3), .second, .val (.long p4), .second, .val (.long p5), .second, iv x1_r, iv (1 : Int32), rv b2, rv b4] [(.int (1 : Int32))])
    refine own_retN X7 hx hlk (t := .boolean) Bd.returns (by simp) (hb hby at_81) (by decide) (by decide) ?_
    show Q0 Z p1 p2 p3 p4 p5 h0 n0 (some (.int (nar .boolean (1 : Int32)))) T7.heap _
    rw [eq7]
    exact ⟨rfl, N7⟩
  · refine own_st (fun _ kk_ => XS.icmpYes X1.here hx rfl (pc0 := 14) (pc' := 21) rfl (hb hby at_14) rfl (XT.ii_ne_t q) (by decide) (by decide) (XS.iconst X1.here hx rfl (hb hby at_21) (XS.istore X1.here hx rfl (hb hby at_22) rfl (l' := #[iv p1, iv p2, .val (.long p3), .second, .val (.long p4), .second, .val (.long p5), .second, iv x1_r, iv (0 : Int32), .unset, .unset]) rfl kk_))) ?_
    show own_Goes p e below s (Q0 Z p1 p2 p3 p4 p5 h0 n0) 16 128 T1 (mkF m 24 #[iv p1, iv p2, .val (.long p3), .second, .val (.long p4), .second, .val (.long p5), .second, iv x1_r, iv (0 : Int32), .unset, .unset] [])
    obtain ⟨T8, h8, X8, e8, E8, A8, D8, -, st8⟩ := newO X1 hx hZ hown (hw _ (List.mem_of_getElem? (i := 5) rfl)) (hw _ (List.mem_of_getElem? (i := 6) rfl)) (hw _ (List.mem_of_getElem? (i := 7) rfl)) eq1 (g := (mkF m 24 #[iv p1, iv p2, .val (.long p3), .second, .val (.long p4), .second, .val (.long p5), .second, iv x1_r, iv (0 : Int32), .unset, .unset] [])) rfl (hb hby at_24) (by decide) (by decide)
    obtain ⟨b8, gx8⟩ : ∃ z, z = h0.size := ⟨_, rfl⟩
    rw [← gx8] at A8 D8 st8
    have gg8 : n0 ≤ b8 := Nat.le_trans Z0 (Nat.le_of_eq gx8.symm)
    have Zs8 : n0 ≤ h8.size := Nat.le_trans Z0 E8.1
    have fn8_state : Fld Z h8 b8 "com/example/majra/majra/engine/ProcessTable$Stat" "state" "C" (.int (0 : Int32)) := D8 (Or.inr (hw _ (List.mem_of_getElem? (i := 15) rfl))) (ty := .char) (by decide)
    have fn8_group : Fld Z h8 b8 "com/example/majra/majra/engine/ProcessTable$Stat" "group" "J" (.long (0 : Int64)) := D8 (Or.inr (hw _ (List.mem_of_getElem? (i := 17) rfl))) (ty := .long) (by decide)
    have fn8_session : Fld Z h8 b8 "com/example/majra/majra/engine/ProcessTable$Stat" "session" "J" (.long (0 : Int64)) := D8 (Or.inr (hw _ (List.mem_of_getElem? (i := 19) rfl))) (ty := .long) (by decide)
    have fn8_started : Fld Z h8 b8 "com/example/majra/majra/engine/ProcessTable$Stat" "started" "J" (.long (0 : Int64)) := D8 (Or.inr (hw _ (List.mem_of_getElem? (i := 21) rfl))) (ty := .long) (by decide)
    refine own_st st8 ?_
    show own_Goes p e below s (Q0 Z p1 p2 p3 p4 p5 h0 n0) 16 128 T8 (mkF m 27 #[iv p1, iv p2, .val (.long p3), .second, .val (.long p4), .second, .val (.long p5), .second, iv x1_r, iv (0 : Int32), .unset, .unset] [(.ref b8)])
    refine own_st (fun _ kk_ => XS.dup X8.here hx rfl (hb hby at_27) rfl rfl (XS.iload X8.here hx rfl (hb hby at_28) rfl (XS.lloadN X8.here hx rfl (hb hby at_30) rfl (XS.lload X8.here hx rfl (hb hby at_31) rfl (XS.lload X8.here hx rfl (hb hby at_33) rfl kk_))))) ?_
    show own_Goes p e below s (Q0 Z p1 p2 p3 p4 p5 h0 n0) 16 128 T8 (mkF m 35 #[iv p1, iv p2, .val (.long p3), .second, .val (.long p4), .second, .val (.long p5), .second, iv x1_r, iv (0 : Int32), .unset, .unset] [(.long p5), (.long p4), (.long p3), (.int x1_r), (.ref b8), (.ref b8)])
    obtain ⟨_, _, ⟨T9, L9, k9, n9⟩, -, X9, ⟨Lc9, hQ9, l9, y9, z9⟩, st9⟩ := X8.specialBack hx (y := (⟨"com/example/majra/majra/engine/ProcessTable$Stat", "<init>", "(CJJJ)V"⟩ : MethodName)) rfl hown (mvT hZ (hw _ (List.mem_of_getElem? (i := 8) rfl))) (mvT hZ (hw _ (List.mem_of_getElem? (i := 9) rfl))) (mvT hZ (hw _ (List.mem_of_getElem? (i := 10) rfl))) (by decide) (backOf (W := 1) (rm2 l Z a0 hw [] (b8) (x1_r) (p3) (p4) (p5) h8 n0 Zs8 A8 fn8_state fn8_group fn8_session fn8_started gg8 (by assumption)) hZ (hw _ (List.mem_of_getElem? (i := 10) rfl)) (hw _ (List.mem_of_getElem? (i := 7) rfl)) (by decide) (by decide)) (g := (mkF m 35 #[iv p1, iv p2, .val (.long p3), .second, .val (.long p4), .second, .val (.long p5), .second, iv x1_r, iv (0 : Int32), .unset, .unset] [(.long p5), (.long p4), (.long p3), (.int x1_r), (.ref b8), (.ref b8)])) rfl (by rw [hml]; rfl) (Steps.refl _) (a := b8) (argsL := [(.int x1_r), (.long p3), (.long p4), (.long p5)]) (rest := [(.ref b8)]) (lenOf pd_1 rfl) rfl (by show 2 * 0 + _ ≤ _; exact Nat.le_of_eq rfl) (hb hby at_35) (fun _ _ => ⟨rfl, e8, (by decide : 1 + 0 ≤ _), (by decide : 4 + 0 ≤ _)⟩)
    dsimp only [Pt.U, Pt.locs, Pt.cells, Pt.slots] at X9 l9 y9 z9 st9 hQ9
    subst l9 y9 z9
    obtain ⟨rfl, Nq9, Kq9, u9_0⟩ := hQ9
    have N9 := Fr.app N1 Nq9
    have f9_0 := A8.keep Kq9
    have Zs9 : n0 ≤ T9.heap.size := Nat.le_trans Zs8 Kq9.1
    refine own_st (fun _ kk_ => st9.trans kk_) ?_
    show own_Goes p e below s (Q0 Z p1 p2 p3 p4 p5 h0 n0) 16 128 T9 (mkF m 38 #[iv p1, iv p2, .val (.long p3), .second, .val (.long p4), .second, .val (.long p5), .second, iv x1_r, iv (0 : Int32), .unset, .unset] [(.ref b8)])
    refine own_st (fun _ kk_ => XS.astore X9.here hx rfl (hb hby at_38) rfl rfl (l' := #[iv p1, iv p2, .val (.long p3), .second, .val (.long p4), .second, .val (.long p5), .second, iv x1_r, iv (0 : Int32), rv b8, .unset]) rfl kk_) ?_
    show own_Goes p e below s (Q0 Z p1 p2 p3 p4 p5 h0 n0) 16 128 T9 (mkF m 40 #[iv p1, iv p2, .val (.long p3), .second, .val (.long p4), .second, .val (.long p5), .second, iv x1_r, iv (0 : Int32), rv b8, .unset] [])
    obtain ⟨T10, h10, X10, e10, E10, A10, D10, -, st10⟩ := newO X9 hx hZ hown (hw _ (List.mem_of_getElem? (i := 5) rfl)) (hw _ (List.mem_of_getElem? (i := 6) rfl)) (hw _ (List.mem_of_getElem? (i := 7) rfl)) rfl (g := (mkF m 40 #[iv p1, iv p2, .val (.long p3), .second, .val (.long p4), .second, .val (.long p5), .second, iv x1_r, iv (0 : Int32), rv b8, .unset] [])) rfl (hb hby at_40) (by decide) (by decide)
    obtain ⟨b10, gx10⟩ : ∃ z, z = T9.heap.size := ⟨_, rfl⟩
    rw [← gx10] at A10 D10 st10
    have ne10_b8 : b8 ≠ b10 := Nat.ne_of_lt (Nat.lt_of_lt_of_eq f9_0.lt gx10.symm)
    have gg10 : n0 ≤ b10 := Nat.le_trans Zs9 (Nat.le_of_eq gx10.symm)
    have f10_0 := f9_0.ext E10
    have f10_1 := u9_0.ext E10
    have Zs10 : n0 ≤ h10.size := Nat.le_trans Zs9 E10.1
    have fn10_state : Fld Z h10 b10 "com/example/majra/majra/engine/ProcessTable$Stat" "state" "C" (.int (0 : Int32)) := D10 (Or.inr (hw _ (List.mem_of_getElem? (i := 15) rfl))) (ty := .char) (by decide)
    have fn10_group : Fld Z h10 b10 "com/example/majra/majra/engine/ProcessTable$Stat" "group" "J" (.long (0 : Int64)) := D10 (Or.inr (hw _ (List.mem_of_getElem? (i := 17) rfl))) (ty := .long) (by decide)
    have fn10_session : Fld Z h10 b10 "com/example/majra/majra/engine/ProcessTable$Stat" "session" "J" (.long (0 : Int64)) := D10 (Or.inr (hw _ (List.mem_of_getElem? (i := 19) rfl))) (ty := .long) (by decide)
    have fn10_started : Fld Z h10 b10 "com/example/majra/majra/engine/ProcessTable$Stat" "started" "J" (.long (0 : Int64)) := D10 (Or.inr (hw _ (List.mem_of_getElem? (i := 21) rfl))) (ty := .long) (by decide)
    refine own_st st10 ?_
    show own_Goes p e below s (Q0 Z p1 p2 p3 p4 p5 h0 n0) 16 128 T10 (mkF m 43 #[iv p1, iv p2, .val (.long p3), .second, .val (.long p4), .second, .val (.long p5), .second, iv x1_r, iv (0 : Int32), rv b8, .unset] [(.ref b10)])
    refine own_st (fun _ kk_ => XS.dup X10.here hx rfl (hb hby at_43) rfl rfl (XS.iload X10.here hx rfl (hb hby at_44) rfl (XS.lload X10.here hx rfl (hb hby at_46) rfl (XS.lloadN X10.here hx rfl (hb hby at_48) rfl (XS.lload X10.here hx rfl (hb hby at_49) rfl kk_))))) ?_
    show own_Goes p e below s (Q0 Z p1 p2 p3 p4 p5 h0 n0) 16 128 T10 (mkF m 51 #[iv p1, iv p2, .val (.long p3), .second, .val (.long p4), .second, .val (.long p5), .second, iv x1_r, iv (0 : Int32), rv b8, .unset] [(.long p4), (.long p3), (.long p5), (.int x1_r), (.ref b10), (.ref b10)])
    obtain ⟨_, _, ⟨T11, L11, k11, n11⟩, -, X11, ⟨Lc11, hQ11, l11, y11, z11⟩, st11⟩ := X10.specialBack hx (y := (⟨"com/example/majra/majra/engine/ProcessTable$Stat", "<init>", "(CJJJ)V"⟩ : MethodName)) rfl hown (mvT hZ (hw _ (List.mem_of_getElem? (i := 8) rfl))) (mvT hZ (hw _ (List.mem_of_getElem? (i := 9) rfl))) (mvT hZ (hw _ (List.mem_of_getElem? (i := 10) rfl))) (by decide) (backOf (W := 1) (rm2 l Z a0 hw [] (b10) (x1_r) (p5) (p3) (p4) h10 n0 Zs10 A10 fn10_state fn10_group fn10_session fn10_started gg10 (by assumption)) hZ (hw _ (List.mem_of_getElem? (i := 10) rfl)) (hw _ (List.mem_of_getElem? (i := 7) rfl)) (by decide) (by decide)) (g := (mkF m 51 #[iv p1, iv p2, .val (.long p3), .second, .val (.long p4), .second, .val (.long p5), .second, iv x1_r, iv (0 : Int32), rv b8, .unset] [(.long p4), (.long p3), (.long p5), (.int x1_r), (.ref b10), (.ref b10)])) rfl (by rw [hml]; rfl) (Steps.refl _) (a := b10) (argsL := [(.int x1_r), (.long p5), (.long p3), (.long p4)]) (rest := [(.ref b10)]) (lenOf pd_1 rfl) rfl (by show 2 * 0 + _ ≤ _; exact Nat.le_of_eq rfl) (hb hby at_51) (fun _ _ => ⟨rfl, e10, (by decide : 2 + 0 ≤ _), (by decide : 8 + 0 ≤ _)⟩)
    dsimp only [Pt.U, Pt.locs, Pt.cells, Pt.slots] at X11 l11 y11 z11 st11 hQ11
    subst l11 y11 z11
    obtain ⟨rfl, Nq11, Kq11, u11_0⟩ := hQ11
    have N11 := Fr.app N9 Nq11
    have f11_0 := f10_0.keep Kq11
    have f11_1 := f10_1.keep Kq11 (ninS ne10_b8 nin0)
    have f11_2 := A10.keep Kq11
    have Zs11 : n0 ≤ T11.heap.size := Nat.le_trans Zs10 Kq11.1
    refine own_st (fun _ kk_ => st11.trans kk_) ?_
    show own_Goes p e below s (Q0 Z p1 p2 p3 p4 p5 h0 n0) 16 128 T11 (mkF m 54 #[iv p1, iv p2, .val (.long p3), .second, .val (.long p4), .second, .val (.long p5), .second, iv x1_r, iv (0 : Int32), rv b8, .unset] [(.ref b10)])
    refine own_st (fun _ kk_ => XS.astore X11.here hx rfl (hb hby at_54) rfl rfl (l' := #[iv p1, iv p2, .val (.long p3), .second, .val (.long p4), .second, .val (.long p5), .second, iv x1_r, iv (0 : Int32), rv b8, rv b10]) rfl (XS.aload X11.here hx rfl (hb hby at_56) rfl rfl kk_)) ?_
    show own_Goes p e below s (Q0 Z p1 p2 p3 p4 p5 h0 n0) 16 128 T11 (mkF m 58 #[iv p1, iv p2, .val (.long p3), .second, .val (.long p4), .second, .val (.long p5), .second, iv x1_r, iv (0 : Int32), rv b8, rv b10] [(.ref b8)])
    obtain ⟨cq12, kq12, q12a, q12b, q12c⟩ := isOf hZ rfl f11_0
    obtain ⟨_, _, ⟨T12, L12, k12, n12⟩, -, X12, ⟨Lc12, hQ12, l12, y12, z12⟩, st12⟩ := X11.virtualBack hx (y := (⟨"com/example/majra/majra/engine/ProcessTable$Stat", "isEnded", "()Z"⟩ : MethodName)) (z := (⟨"com/example/majra/majra/engine/ProcessTable$Stat", "isEnded", "()Z"⟩ : MethodName)) hown (mvT hZ (hw _ (List.mem_of_getElem? (i := 22) rfl))) (mvT hZ (hw _ (List.mem_of_getElem? (i := 23) rfl))) (notFace_of_selects (args := #[]) (mvT hZ (hw _ (List.mem_of_getElem? (i := 25) rfl)))) (mvT hZ (hw _ (List.mem_of_getElem? (i := 25) rfl))) (mvT hZ (hw _ (List.mem_of_getElem? (i := 24) rfl))) (by decide) (backOf (W := 0) (rm4 l Z a0 hw [] (b8) ((nar .char x1_r)) T11.heap n0 Zs11 f11_1) hZ (hw _ (List.mem_of_getElem? (i := 26) rfl)) (hw _ (List.mem_of_getElem? (i := 7) rfl)) (by decide) (by decide)) q12a q12c (g := (mkF m 58 #[iv p1, iv p2, .val (.long p3), .second, .val (.long p4), .second, .val (.long p5), .second, iv x1_r, iv (0 : Int32), rv b8, rv b10] [(.ref b8)])) rfl (by rw [hml]; rfl) (Steps.refl _) (argsL := []) (rest := []) (lenOf pd_2 rfl) rfl (by show 2 * 0 + _ ≤ _; exact Nat.le_of_eq rfl) (hb hby at_58) (fun _ _ => ⟨rfl, rfl, (by decide : 2 + 0 ≤ _), (by decide : 8 + 0 ≤ _)⟩)
    dsimp only [Pt.U, Pt.locs, Pt.cells, Pt.slots] at X12 l12 y12 z12 st12 hQ12
    subst l12 y12 z12
    obtain ⟨rfl, Nq12, eq12⟩ := hQ12
    have N12 := Fr.app N11 Nq12
    refine own_st (fun _ kk_ => st12.trans kk_) ?_
    show own_Goes p e below s (Q0 Z p1 p2 p3 p4 p5 h0 n0) 16 128 T12 (mkF m 61 #[iv p1, iv p2, .val (.long p3), .second, .val (.long p4), .second, .val (.long p5), .second, iv x1_r, iv (0 : Int32), rv b8, rv b10] [(.int (own_b ((nar .char x1_r) = 90 ∨ (nar .char x1_r) = 88)))])
    refine own_st (fun _ kk_ => XS.iload X12.here hx rfl (hb hby at_61) rfl (XS.icmpNo X12.here hx rfl (hb hby at_63) rfl (XT.ii_ne_f (own_b0 (by rw [own_narid u1_0]; first | exact (own_ends u1_0).mp q | exact fun k => q ((own_ends u1_0).mpr k)))) (XS.aload X12.here hx rfl (hb hby at_66) rfl rfl kk_))) ?_
    show own_Goes p e below s (Q0 Z p1 p2 p3 p4 p5 h0 n0) 16 128 T12 (mkF m 68 #[iv p1, iv p2, .val (.long p3), .second, .val (.long p4), .second, .val (.long p5), .second, iv x1_r, iv (0 : Int32), rv b8, rv b10] [(.ref b10)])
    obtain ⟨cq13, kq13, q13a, q13b, q13c⟩ := isOf hZ eq12 f11_2
    obtain ⟨_, _, ⟨T13, L13, k13, n13⟩, -, X13, ⟨Lc13, hQ13, l13, y13, z13⟩, st13⟩ := X12.virtualBack hx (y := (⟨"com/example/majra/majra/engine/ProcessTable$Stat", "isEnded", "()Z"⟩ : MethodName)) (z := (⟨"com/example/majra/majra/engine/ProcessTable$Stat", "isEnded", "()Z"⟩ : MethodName)) hown (mvT hZ (hw _ (List.mem_of_getElem? (i := 22) rfl))) (mvT hZ (hw _ (List.mem_of_getElem? (i := 23) rfl))) (notFace_of_selects (args := #[]) (mvT hZ (hw _ (List.mem_of_getElem? (i := 25) rfl)))) (mvT hZ (hw _ (List.mem_of_getElem? (i := 25) rfl))) (mvT hZ (hw _ (List.mem_of_getElem? (i := 24) rfl))) (by decide) (backOf (W := 0) (rm4 l Z a0 hw [] (b10) ((nar .char x1_r)) T11.heap n0 Zs11 u11_0) hZ (hw _ (List.mem_of_getElem? (i := 26) rfl)) (hw _ (List.mem_of_getElem? (i := 7) rfl)) (by decide) (by decide)) q13a q13c (g := (mkF m 68 #[iv p1, iv p2, .val (.long p3), .second, .val (.long p4), .second, .val (.long p5), .second, iv x1_r, iv (0 : Int32), rv b8, rv b10] [(.ref b10)])) rfl (by rw [hml]; rfl) (Steps.refl _) (argsL := []) (rest := []) (lenOf pd_2 rfl) rfl (by show 2 * 0 + _ ≤ _; exact Nat.le_of_eq rfl) (hb hby at_68) (fun _ _ => ⟨rfl, eq12, (by decide : 2 + 0 ≤ _), (by decide : 8 + 0 ≤ _)⟩)
    dsimp only [Pt.U, Pt.locs, Pt.cells, Pt.slots] at X13 l13 y13 z13 st13 hQ13
    subst l13 y13 z13
    obtain ⟨rfl, Nq13, eq13⟩ := hQ13
    have N13 := Fr.app N12 Nq13
    refine own_st (fun _ kk_ => st13.trans kk_) ?_
    show own_Goes p e below s (Q0 Z p1 p2 p3 p4 p5 h0 n0) 16 128 T13 (mkF m 71 #[iv p1, iv p2, .val (.long p3), .second, .val (.long p4), .second, .val (.long p5), .second, iv x1_r, iv (0 : Int32), rv b8, rv b10] [(.int (own_b ((nar .char x1_r) = 90 ∨ (nar .char x1_r) = 88)))])
    refine own_st (fun _ kk_ => XS.iload X13.here hx rfl (hb hby at_71) rfl (XS.icmpNo X13.here hx rfl (hb hby at_73) rfl (XT.ii_ne_f (own_b0 (by rw [own_narid u1_0]; first | exact (own_ends u1_0).mp q | exact fun k => q ((own_ends u1_0).mpr k)))) (XS.iconst X13.here hx rfl (hb hby at_76) (XS.goto X13.here hx rfl (pc0 := 77) (pc' := 81) rfl (hb hby at_77) (by decide) (by decide) kk_)))) ?_
    show own_Goes p e below s (Q0 Z p1 p2 p3 p4 p5 h0 n0) 16 128 T13 (mkF m 81 #[iv p1, iv p2, .val (.long p3), .second, .val (.long p4), .second, .val (.long p5), .second, iv x1_r, iv (0 : Int32), rv b8, rv b10] [(.int (1 : Int32))])
    refine own_retN X13 hx hlk (t := .boolean) Bd.returns (by simp) (hb hby at_81) (by decide) (by decide) ?_
    show Q0 Z p1 p2 p3 p4 p5 h0 n0 (some (.int (nar .boolean (1 : Int32)))) T13.heap _
    rw [eq13]
    exact ⟨rfl, N13⟩
set_option maxRecDepth 65536 in
set_option maxHeartbeats 40000000 in
theorem comes_1 {Post : Tables → Env → Array Value → State → Outcome → State → Prop} (hpost : ∀ tb e args s v u, (limb_1_1.after args s (.returned v) u = true ∧ limb_1_2.after args s (.returned v) u = true ∧ True) → FrameEnd s (.returned v) u (Jvm.fieldLocs frame_1_writes args s ++ Jvm.arrayLocs frame_1_arrays args s ++ Jvm.staticLocs frame_1_statics s) 16 128 → Post tb e args s (.returned v) u) :
    ArmFor flags0 classFile x code maxLocals ret World_1 tables_1 room_1 Calls_1 rest_1 Pre_1 Post := by
  intro l hfl _ _ p e ha hc hk s m args below hf hA hF happ hP
  obtain ⟨hcalls, hrest, hpre⟩ := hP
  obtain ⟨-, -, -, hnamed, -, -, -, hat⟩ := (Spec.applies_iff hf).mp happ
  obtain ⟨hg, hn⟩ := and_e (Cond.before_iff.mp (show (Jvm.Cond.and given_1 narrow_1).before args s = true from hpre))
  obtain ⟨h1, g0⟩ := and_e hg
  obtain ⟨w0, w1, w2, w3, w4, rfl⟩ : ∃ w0 w1 w2 w3 w4 : Value, args = #[w0, w1, w2, w3, w4] := by
    have hs : args.size = 5 := by simpa [Cond.value, given_1] using h1
    obtain ⟨L⟩ := args
    match L, hs with
    | [w0, w1, w2, w3, w4], _ => exact ⟨w0, w1, w2, w3, w4, rfl⟩
  have hw := fun d (hd : d ∈ tables_1) => atoms_spec (ws := Jvm.Cond.code x code maxLocals ret :: tables_1) hat d (List.mem_cons_of_mem _ hd)
  have hfit : Fit s := fun {y c} hc i hi => by
    obtain ⟨ha, rfl⟩ := Array.getElem?_eq_some_iff.mp hc
    have q := List.all_eq_true.mp ((Array.all_eq_true_iff_forall_mem.mp hF) _ (Array.getElem_mem ha)) i (List.mem_range.mpr hi)
    simpa [Array.getElem?_eq_getElem hi] using q
  obtain ⟨k0, g1⟩ := and_e g0
  obtain ⟨i0, e0⟩ := is_v k0
  obtain rfl : w0 = (.int i0) := Option.some.inj e0
  obtain ⟨k1, g2⟩ := and_e g1
  obtain ⟨i1, e1⟩ := is_v k1
  obtain rfl : w1 = (.int i1) := Option.some.inj e1
  obtain ⟨k2, g3⟩ := and_e g2
  obtain ⟨i2, e2⟩ := isL_v k2
  obtain rfl : w2 = (.long i2) := Option.some.inj e2
  obtain ⟨k3, g4⟩ := and_e g3
  obtain ⟨i3, e3⟩ := isL_v k3
  obtain rfl : w3 = (.long i3) := Option.some.inj e3
  obtain ⟨i4, e4⟩ := isL_v g4
  obtain rfl : w4 = (.long i4) := Option.some.inj e4
  obtain ⟨n, o, h1, h2, h3, _, L, rfl, ⟨rfl, N⟩, hq⟩ := rm0 l s _ hw tables_1 i0 i1 i2 i3 i4  s.heap s.heap.size (Nat.le_refl _)  p e ha hc hk s m _ below hf ((Spec.applies_iff_loose hf).mp happ).1 ⟨rfl, State.Warmed39.refl s, rfl⟩ trivial
  refine ⟨n, _, h1, h2, h3, hpost _ _ _ _ _ _ ⟨Cond.after_iff.mpr rfl, Cond.after_iff.mpr (eq_i res_at (Term.int_eval (1)) rfl), trivial⟩ ⟨hq.1, hq.2.1, (hq.2.2.sift fun y hy => Or.inr (N y hy)).mono (by decide) (by decide)⟩⟩
theorem main_1_1 : Claimed_1_1 := comes_1 fun _ _ _ _ _ _ h hF => ⟨h.1, hF⟩
theorem main_1_2 : Claimed_1_2 := comes_1 fun _ _ _ _ _ _ h hF => ⟨h.2.1, hF⟩
end Jvm.Pilot.@@N@@
namespace Jvm.Pilot.@@N@@
open Jvm Jvm.ClassFile Sem Op Lib Jvm.Free Jvm.Stand Jvm.Pilot.@@N@@.Jvm.D
/-! MADE BY PROGRAM (witnessworld.py) out of the Statement's table words and the real class files: 9 classes; the members and pool entries that the words name. The judged class is class 1, her method 2. -/
namespace start1
open Jvm.ClassFile
def u (s : String) : CpInfo := .utf8 (stringToUtf16 s)
/-- a pool by its gaps: so many unusable entries, then the entry; so many at the end -/
def gap : Nat → List CpInfo → List CpInfo
  | 0, r => r
  | n + 1, r => .unusable :: gap n r
def poolList (es : List (Nat × CpInfo)) (last : Nat) : List CpInfo := es.foldr (fun e r => gap e.1 (e.2 :: r)) (gap last [])
def pool (es : List (Nat × CpInfo)) (last : Nat) : Array CpInfo := ⟨poolList es last⟩
def fileOf (pool : Array CpInfo) (this : Nat) (attrs : Array Attribute := #[]) (ms : Array MethodInfo := #[]) (fl : Nat := 33) (sup : Nat := 0) (ifs : Array Nat := #[]) (fds : Array FieldInfo := #[]) : ClassFile where
  minorVersion := 0
  majorVersion := 65
  constantPool := pool
  accessFlags := fl
  thisClass := this
  superClass := sup
  interfaces := ifs
  fields := fds
  methods := ms
  attributes := attrs
def plain (name : String) (sup : Option ClassId) : Class where
  name := name
  kind := .ordinary
  loader := none
  accessFlags := 33
  super := sup
  interfaces := #[]
  cf := none
  fields := #[]
  methods := #[]
  instanceTypes := #[]
  staticTypes := #[]
  resolved := #[]
  callSites := []
  init := .initialized
  statics := none
  mirror := none

def pool0 : Array CpInfo := pool [(5, u "<init>"), (0, u "()V"), (1, .class_ 10), (1, u "java/lang/Object")] 113

def k0c0 : Code := { maxStack := 0, maxLocals := 1, code := object_method_1_code, exceptionTable := #[], attributes := #[] }
def k0m0 : Method := { name := "<init>", desc := "()V", sig := { parameters := [], returnType := none }, accessFlags := 1, code := some k0c0 }
/-- java/lang/Object -/
def k0 : Class := { plain "java/lang/Object" none with
  accessFlags := 33
  interfaces := #[]
  cf := some (fileOf pool0 8 #[] #[{ accessFlags := 1, nameIndex := 5, descriptorIndex := 6, attributes := #[] }] 33 0 #[] #[])
  fields := #[]
  methods := #[k0m0]
  instanceTypes := #[]
  staticTypes := #[]
  resolved := Array.replicate 124 none
  statics := none }

def pool1 : Array CpInfo := pool [(2, .class_ 4), (1, u "java/lang/Object"), (0, u "<init>"), (0, u "()V"), (0, .methodref 8 9), (0, .class_ 10), (0, .nameAndType 11 12), (0, u "com/example/majra/majra/engine/StatIsEndedPinLaw"), (0, u "pick"), (0, u "(II)C"), (0, .integer 65533), (0, .class_ 15), (0, u "com/example/majra/majra/engine/ProcessTable$Stat"), (0, .methodref 14 17), (0, .nameAndType 5 18), (0, u "(CJJJ)V"), (0, .methodref 14 20), (0, .nameAndType 21 22), (0, u "isEnded"), (0, u "()Z"), (3, u "law"), (0, u "(IIJJJ)Z")] 6

def k1m0 : Method := { name := "<init>", desc := "()V", sig := { parameters := [], returnType := none }, accessFlags := 2, code := none }
def k1c1 : Code := { maxStack := 2, maxLocals := 4, code := method_2_code, exceptionTable := #[], attributes := #[] }
def k1m1 : Method := { name := "pick", desc := "(II)C", sig := { parameters := [.int, .int], returnType := some .char }, accessFlags := 10, code := some k1c1 }
def k1c2 : Code := { maxStack := 9, maxLocals := 12, code := code, exceptionTable := #[], attributes := #[] }
def k1m2 : Method := { name := "law", desc := "(IIJJJ)Z", sig := { parameters := [.int, .int, .long, .long, .long], returnType := some .boolean }, accessFlags := 9, code := some k1c2 }
/-- com/example/majra/majra/engine/StatIsEndedPinLaw -/
def k1 : Class := { plain "com/example/majra/majra/engine/StatIsEndedPinLaw" (some 0) with
  accessFlags := 49
  interfaces := #[]
  cf := some (fileOf pool1 8 #[] #[{ accessFlags := 2, nameIndex := 5, descriptorIndex := 6, attributes := #[] }, { accessFlags := 10, nameIndex := 11, descriptorIndex := 12, attributes := #[] }, { accessFlags := 9, nameIndex := 26, descriptorIndex := 27, attributes := #[] }] 49 2 #[] #[])
  fields := #[]
  methods := #[k1m0, k1m1, k1m2]
  instanceTypes := #[]
  staticTypes := #[]
  resolved := Array.replicate 34 none
  statics := none }

def pool2 : Array CpInfo := pool [(1, .methodref 2 3), (0, .class_ 4), (0, .nameAndType 5 6), (0, u "java/lang/Object"), (0, u "<init>"), (0, u "()V"), (0, .fieldref 8 9), (0, .class_ 10), (0, .nameAndType 11 12), (0, u "com/example/majra/majra/engine/ProcessTable$Stat"), (0, u "state"), (0, u "C"), (0, .fieldref 8 14), (0, .nameAndType 15 16), (0, u "group"), (0, u "J"), (0, .fieldref 8 18), (0, .nameAndType 19 16), (0, u "session"), (0, .fieldref 8 21), (0, .nameAndType 22 16), (0, u "started"), (0, u "(CJJJ)V"), (2, u "isEnded"), (0, u "()Z"), (8, .class_ 37), (0, u "com/example/majra/majra/engine/ProcessTable")] 2

def k2c0 : Code := { maxStack := 3, maxLocals := 8, code := prog_13_method_1_code, exceptionTable := #[], attributes := #[] }
def k2m0 : Method := { name := "<init>", desc := "(CJJJ)V", sig := { parameters := [.char, .long, .long, .long], returnType := none }, accessFlags := 0, code := some k2c0 }
def k2c1 : Code := { maxStack := 2, maxLocals := 1, code := prog_13_method_2_code, exceptionTable := #[], attributes := #[] }
def k2m1 : Method := { name := "isEnded", desc := "()Z", sig := { parameters := [], returnType := some .boolean }, accessFlags := 0, code := some k2c1 }
/-- com/example/majra/majra/engine/ProcessTable$Stat -/
def k2 : Class := { plain "com/example/majra/majra/engine/ProcessTable$Stat" (some 0) with
  accessFlags := 48
  interfaces := #[]
  cf := some (fileOf pool2 8 #[.nestHost 36] #[{ accessFlags := 0, nameIndex := 5, descriptorIndex := 23, attributes := #[] }, { accessFlags := 0, nameIndex := 26, descriptorIndex := 27, attributes := #[] }] 48 2 #[] #[{ accessFlags := 18, nameIndex := 11, descriptorIndex := 12, attributes := #[] }, { accessFlags := 18, nameIndex := 15, descriptorIndex := 16, attributes := #[] }, { accessFlags := 18, nameIndex := 19, descriptorIndex := 16, attributes := #[] }, { accessFlags := 18, nameIndex := 22, descriptorIndex := 16, attributes := #[] }])
  fields := #[{ name := "state", type := .char, accessFlags := 18, slot := 0, constantValue := 0 }, { name := "group", type := .long, accessFlags := 18, slot := 1, constantValue := 0 }, { name := "session", type := .long, accessFlags := 18, slot := 2, constantValue := 0 }, { name := "started", type := .long, accessFlags := 18, slot := 3, constantValue := 0 }]
  methods := #[k2m0, k2m1]
  instanceTypes := #[.char, .long, .long, .long]
  staticTypes := #[]
  resolved := Array.replicate 40 none
  statics := none }

def pool3 : Array CpInfo := pool [(1, u "java/lang/Cloneable"), (0, .class_ 1), (0, u "java/lang/Object"), (0, .class_ 3)] 3

/-- java/lang/Cloneable -/
def k3 : Class := { plain "java/lang/Cloneable" (some 0) with
  accessFlags := 1537
  interfaces := #[]
  cf := some (fileOf pool3 2 #[] #[] 1537 4 #[] #[])
  fields := #[]
  methods := #[]
  instanceTypes := #[]
  staticTypes := #[]
  resolved := Array.replicate 8 none
  statics := none }

def pool4 : Array CpInfo := pool [(1, u "java/io/Serializable"), (0, .class_ 1), (0, u "java/lang/Object"), (0, .class_ 3)] 3

/-- java/io/Serializable -/
def k4 : Class := { plain "java/io/Serializable" (some 0) with
  accessFlags := 1537
  interfaces := #[]
  cf := some (fileOf pool4 2 #[] #[] 1537 4 #[] #[])
  fields := #[]
  methods := #[]
  instanceTypes := #[]
  staticTypes := #[]
  resolved := Array.replicate 8 none
  statics := none }

/-- the primitive byte -/
def k5 : Class := { plain "byte" none with kind := .primitive 'B', accessFlags := 0x411 }
/-- [B -/
def k6 : Class := { plain "[B" (some 0) with kind := .array 5 .byte, interfaces := #[3, 4], accessFlags := 1041 }

/-- the primitive int -/
def k7 : Class := { plain "int" none with kind := .primitive 'I', accessFlags := 0x411 }
/-- [I -/
def k8 : Class := { plain "[I" (some 0) with kind := .array 7 .int, interfaces := #[3, 4], accessFlags := 1041 }

def heap : Heap := #[]
def classes : Array Class := #[k0, k1, k2, k3, k4, k5, k6, k7, k8]
def interned : List (Array UInt16 × Addr) := []
def slotsUsed : Nat := 0
def theMethod : MethodId := ⟨1, 2⟩
def args0 : Array Value := #[.int 5, .int 7, .long 1, .long 2, .long 3]
def aboutOver (below : List Frame) : State where
  vm := { classes := classes, interned := interned.toArray }
  heap := heap
  slotsUsed := slotsUsed
  threads := #[{ frames := .invoking theMethod args0 :: below }]
def below0 : List Frame := [.native { method := ⟨0, 0⟩, args := #[] }]
def about1 : State := aboutOver below0
def p0 : Program := .bare "" "" ""
def e0 : Env := launch0.env 0 0 0
theorem w_frames : about1.frames = Frame.invoking theMethod args0 :: below0 := rfl
set_option maxRecDepth 65536 in
theorem w_args : argsFit about1.vm theMethod args0 = true := by decide +kernel
set_option maxRecDepth 65536 in
theorem w_heap : heapFits about1 = true := by decide +kernel
set_option maxRecDepth 65536 in
theorem w_runnable : about1.curStatus? = some .runnable := by decide +kernel
set_option maxRecDepth 65536 in
theorem w_alone : about1.alone = true := by decide +kernel
set_option maxRecDepth 65536 in
theorem w_named : about1.methodNamed? x = some theMethod := by decide +kernel
set_option maxRecDepth 65536 in
theorem w_hears : about1.hears theMethod below0 = true := by decide +kernel
set_option maxRecDepth 65536 in
theorem w_ripe : about1.ripe theMethod args0 below0 = true := by decide +kernel
theorem w_running : about1.status = .running := rfl
set_option maxRecDepth 65536 in
theorem w_room : about1.hasRoom e0.platform room_1 = true :=
  launch0.hasRoom_least _ room_1 (by decide +kernel) (by decide +kernel) (by decide +kernel) (by decide +kernel) (by decide +kernel) (by decide +kernel)
theorem allAtoms_all (ts : List Jvm.Cond) (a : Array Jvm.Value) (st : Jvm.State) : (allAtoms ts).before a st = ts.all (fun c => c.before a st) := by
  induction ts with
  | nil => rfl
  | cons c t ih =>
    show (Jvm.Cond.and c (allAtoms t)).before a st = _
    rw [Jvm.Cond.before_and, ih, List.all_cons]
def words1 : List Jvm.Cond := Jvm.Cond.code x code maxLocals ret :: tables_1
/-- a 'code' word, met by the world's own term for the bytes: nothing is compared byte by byte -/
theorem code_word {y : MethodName} {bytes : ByteArray} {mx : Nat} {rt : Option FieldType} {a : Array Value} {s : State} {m : MethodId} {meth : Method} {c : Code} (h1 : s.methodNamed? y = some m) (h2 : s.vm.method? m = some meth) (h3 : meth.code = some c) (h4 : c.code = bytes)
    (h5 : (c.maxLocals == mx && c.exceptionTable.isEmpty && decide (c.maxStack ≤ mostOperands) && decide (meth.sig.returnType = rt) && !meth.locks && decide (parseMethodDescriptor y.desc = some meth.sig)) = true) : (Jvm.Cond.code y bytes mx rt).before a s = true := by
  simp only [Bool.and_eq_true, beq_iff_eq, Bool.not_eq_true', decide_eq_true_eq] at h5
  obtain ⟨⟨⟨⟨⟨g1, g2⟩, g3⟩, g4⟩, g5⟩, g6⟩ := h5
  simp [Cond.before, Cond.holds, Cond.value, h1, h2, h3, h4, g1, g2, g3, g4, g5, g6]
def isCode : Jvm.Cond → Bool
  | .code _ _ _ _ => true
  | _ => false
theorem all_split {L : List Jvm.Cond} {P : Jvm.Cond → Bool} (h1 : L.all (fun c => isCode c || P c) = true) (h2 : ∀ c ∈ L.filter isCode, P c = true) : L.all P = true := by
  refine List.all_eq_true.mpr fun c hc => ?_
  have h := List.all_eq_true.mp h1 c hc
  rcases Bool.eq_false_or_eq_true (isCode c) with hi | hi
  · exact h2 c (List.mem_filter.mpr ⟨hc, hi⟩)
  · simpa [hi] using h
set_option maxRecDepth 65536 in
theorem w_c0 : (Jvm.Cond.code x code maxLocals ret).before args0 about1 = true := code_word (m := ⟨1, 2⟩) (meth := k1m2) (c := k1c2) (by decide +kernel) rfl rfl rfl (by decide +kernel)
set_option maxRecDepth 65536 in
theorem w_c1 : (Jvm.Cond.code ({ cls := "com/example/majra/majra/engine/StatIsEndedPinLaw", name := "pick", desc := "(II)C" } : Jvm.MethodName) method_2_code (4 : Nat) (Option.some Jvm.ClassFile.FieldType.char)).before args0 about1 = true := code_word (m := ⟨1, 1⟩) (meth := k1m1) (c := k1c1) (by decide +kernel) rfl rfl rfl (by decide +kernel)
set_option maxRecDepth 65536 in
theorem w_c2 : (Jvm.Cond.code ({ cls := "com/example/majra/majra/engine/ProcessTable$Stat", name := "<init>", desc := "(CJJJ)V" } : Jvm.MethodName) prog_13_method_1_code (8 : Nat) (Option.none : Option Jvm.ClassFile.FieldType)).before args0 about1 = true := code_word (m := ⟨2, 0⟩) (meth := k2m0) (c := k2c0) (by decide +kernel) rfl rfl rfl (by decide +kernel)
set_option maxRecDepth 65536 in
theorem w_c3 : (Jvm.Cond.code ({ cls := "java/lang/Object", name := "<init>", desc := "()V" } : Jvm.MethodName) object_method_1_code (1 : Nat) (Option.none : Option Jvm.ClassFile.FieldType)).before args0 about1 = true := code_word (m := ⟨0, 0⟩) (meth := k0m0) (c := k0c0) (by decide +kernel) rfl rfl rfl (by decide +kernel)
set_option maxRecDepth 65536 in
theorem w_c4 : (Jvm.Cond.code ({ cls := "com/example/majra/majra/engine/ProcessTable$Stat", name := "isEnded", desc := "()Z" } : Jvm.MethodName) prog_13_method_2_code (1 : Nat) (Option.some Jvm.ClassFile.FieldType.boolean)).before args0 about1 = true := code_word (m := ⟨2, 1⟩) (meth := k2m1) (c := k2c1) (by decide +kernel) rfl rfl rfl (by decide +kernel)
def codes1 : List Jvm.Cond := [Jvm.Cond.code x code maxLocals ret, Jvm.Cond.code ({ cls := "com/example/majra/majra/engine/StatIsEndedPinLaw", name := "pick", desc := "(II)C" } : Jvm.MethodName) method_2_code (4 : Nat) (Option.some Jvm.ClassFile.FieldType.char), Jvm.Cond.code ({ cls := "com/example/majra/majra/engine/ProcessTable$Stat", name := "<init>", desc := "(CJJJ)V" } : Jvm.MethodName) prog_13_method_1_code (8 : Nat) (Option.none : Option Jvm.ClassFile.FieldType), Jvm.Cond.code ({ cls := "java/lang/Object", name := "<init>", desc := "()V" } : Jvm.MethodName) object_method_1_code (1 : Nat) (Option.none : Option Jvm.ClassFile.FieldType), Jvm.Cond.code ({ cls := "com/example/majra/majra/engine/ProcessTable$Stat", name := "isEnded", desc := "()Z" } : Jvm.MethodName) prog_13_method_2_code (1 : Nat) (Option.some Jvm.ClassFile.FieldType.boolean)]
set_option maxRecDepth 65536 in
theorem codes_eq : words1.filter isCode = codes1 := rfl
theorem w_codes : ∀ c ∈ words1.filter isCode, c.before args0 about1 = true := by
  rw [codes_eq]
  intro c hc
  simp only [codes1, List.mem_cons, List.not_mem_nil, or_false] at hc
  rcases hc with rfl | rfl | rfl | rfl | rfl
  · exact w_c0
  · exact w_c1
  · exact w_c2
  · exact w_c3
  · exact w_c4
set_option maxRecDepth 65536 in
theorem w_t1 : (words1.take 24).all (fun c => isCode c || c.before args0 about1) = true := by decide +kernel
set_option maxRecDepth 65536 in
theorem w_t2 : (words1.drop 24).all (fun c => isCode c || c.before args0 about1) = true := by decide +kernel
theorem w_tables : (allAtoms (Jvm.Cond.code x code maxLocals ret :: tables_1)).before args0 about1 = true := by
  rw [allAtoms_all]
  show words1.all (fun c => c.before args0 about1) = true
  refine all_split ?_ w_codes
  rw [← List.take_append_drop 24 words1, List.all_append, w_t1, w_t2]
  rfl
set_option maxRecDepth 65536 in
theorem w_case : (Jvm.Cond.and given_1 narrow_1).before args0 about1 = true := by decide +kernel
theorem w_applies : (headSpec (Jvm.Cond.code x code maxLocals ret :: tables_1) room_1).applies x e0.platform about1 = true :=
  (Spec.applies_iff w_frames).mpr ⟨w_running, w_runnable, w_alone, w_named, w_hears, w_ripe, w_room, w_tables⟩
theorem atStart : AtStart classFile x code maxLocals ret World_1 tables_1 room_1 Calls_1 rest_1 Pre_1 launch0 p0 e0 about1 theMethod args0 below0 :=
  ⟨lists_1, trivial, launch0.admits_env _ _ _, launch0.least_env, fairChoices_fair.cas, fairChoices_fair.clock, w_frames, w_args, w_heap, w_applies, trivial, trivial, w_case⟩
end start1
theorem witness_1 : WitnessClaimed_1 := ⟨start1.p0, start1.e0, start1.about1, start1.theMethod, start1.args0, start1.below0, start1.atStart⟩
end Jvm.Pilot.@@N@@
