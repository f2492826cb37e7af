import JvmDerived
import JvmDerived.Pilot.@@N@@Statement
import JvmDerived.Pilot.@@N@@Code
set_option linter.unusedVariables false
set_option linter.unusedSimpArgs false
namespace Jvm.RoadKit
open Sem ClassFile Op Lib Jvm.Stand Jvm.Free Jvm.LawKit
section New
variable {p : Program} {l : Launch} {e : Env} {R : Room} {s : State} {m : MethodId} {args : Array Value} {below : List Frame} {meth : Method} {c : Code} {T T' : State} {locs : List Loc} {cells slots : Nat} {Q : Option Value → Heap → List Loc → Prop} {cc ss : Nat} {g g' : JFrame} {pc : Nat} {Ls : Array Slot}
/-- from here the body comes to an end that meets Q -/
def own_Goes (p : Program) (e : Env) (below : List Frame) (s : State) (Q : Option Value → Heap → List Loc → Prop) (cc ss : Nat) (T : State) (g : JFrame) : Prop :=
  ∃ s₂ o, Steps p.tables e below (T.setTop g) s₂ ∧ s₂.status = .running ∧ Ended s₂ below o ∧ ∃ v L, o = .returned v ∧ Q v s₂.heap L ∧ FrameEnd s o s₂ L cc ss
theorem own_st (h : ∀ t, Steps p.tables e below (T'.setTop g') t → Steps p.tables e below (T.setTop g) t) (k : own_Goes p e below s Q cc ss T' g') : own_Goes p e below s Q cc ss T g := by
  obtain ⟨s₂, o, h1, r⟩ := k; exact ⟨s₂, o, h _ h1, r⟩
theorem own_end {v : Option Value} (X : Stand p l e R s m args below meth c T locs cells slots) (hlk : meth.locks = false) (hv : meth.sig.returnType = none → v = none) (hc : cells ≤ cc) (hs : slots ≤ ss) (hQ : Q v T.heap locs)
    (st : ∀ fs, (∀ (f : JFrame) (acts : List Action), f.method = m → f.locked = none → f.entered = [] → (doReturn e (T.setTop f) acts v).1 = T.setFrames fs) → Steps p.tables e below (T.setTop g) (T.setFrames fs)) : own_Goes p e below s Q cc ss T g := by
  obtain ⟨fs, hr, hrun, hended, hW, hsame⟩ := X.leave (v := v) hv hlk
  exact ⟨_, _, st fs hr, hrun, hended, _, _, rfl, hQ, ⟨_, rfl⟩, hW, hsame.mono hc hs⟩
theorem own_retN (X : Stand p l e R s m args below meth c T locs cells slots) (hx : p.tables.exec = Jvm.exec) (hlk : meth.locks = false) {t : FieldType} {z : Int32} {rest : List Value} (hret : meth.sig.returnType = some t) (ht : t = .boolean ∨ t = .byte ∨ t = .char ∨ t = .short) (hd : decode c.code pc = .ok (.ireturn, 1)) (hc : cells ≤ cc) (hs : slots ≤ ss) (hQ : Q (some (.int (nar t z))) T.heap locs) : own_Goes p e below s Q cc ss T (mkF m pc Ls (.int z :: rest)) :=
  own_end X hlk (fun h => by rw [hret] at h; cases h) hc hs hQ fun fs hr => retN X hx hret ht hd hr
theorem own_retI (X : Stand p l e R s m args below meth c T locs cells slots) (hx : p.tables.exec = Jvm.exec) (hlk : meth.locks = false) {z : Int32} {rest : List Value} (hret : meth.sig.returnType = some .int) (hd : decode c.code pc = .ok (.ireturn, 1)) (hc : cells ≤ cc) (hs : slots ≤ ss) (hQ : Q (some (.int z)) T.heap locs) : own_Goes p e below s Q cc ss T (mkF m pc Ls (.int z :: rest)) :=
  own_end X hlk (fun h => by rw [hret] at h; cases h) hc hs hQ fun fs hr => retOut X hx hret rfl (Or.inl ⟨rfl, Or.inl rfl, _, rfl⟩) hd hr
theorem own_retL (X : Stand p l e R s m args below meth c T locs cells slots) (hx : p.tables.exec = Jvm.exec) (hlk : meth.locks = false) {z : Int64} {rest : List Value} (hret : meth.sig.returnType = some .long) (hd : decode c.code pc = .ok (.lreturn, 1)) (hc : cells ≤ cc) (hs : slots ≤ ss) (hQ : Q (some (.long z)) T.heap locs) : own_Goes p e below s Q cc ss T (mkF m pc Ls (.long z :: rest)) :=
  own_end X hlk (fun h => by rw [hret] at h; cases h) hc hs hQ fun fs hr => retOut X hx hret rfl (Or.inr (Or.inl ⟨rfl, rfl, _, rfl⟩)) hd hr
theorem own_narR {t : FieldType} {w : Value} (hw : w.isRef = true) : narrow t w = w := by rcases ref_cases hw with rfl | ⟨a, rfl⟩ <;> cases t <;> rfl
theorem own_fitR {n : String} {w : Value} (hw : w.isRef = true) : fits (.object n) w = true := by rcases ref_cases hw with rfl | ⟨a, rfl⟩ <;> rfl
theorem own_retA (X : Stand p l e R s m args below meth c T locs cells slots) (hx : p.tables.exec = Jvm.exec) (hlk : meth.locks = false) {w : Value} {t : FieldType} {rest : List Value} (hw : w.isRef = true) (hret : meth.sig.returnType = some t) (ht : t.isReference = true) (hd : decode c.code pc = .ok (.areturn, 1)) (hc : cells ≤ cc) (hs : slots ≤ ss) (hQ : Q (some w) T.heap locs) : own_Goes p e below s Q cc ss T (mkF m pc Ls (w :: rest)) :=
  own_end X hlk (fun h => by rw [hret] at h; cases h) hc hs hQ fun fs hr => retOut X hx hret (own_narR hw) (Or.inr (Or.inr (Or.inr (Or.inr ⟨rfl, ht, hw⟩)))) hd hr
theorem own_ret0 (X : Stand p l e R s m args below meth c T locs cells slots) (hx : p.tables.exec = Jvm.exec) (hlk : meth.locks = false) (hret : meth.sig.returnType = none) (hd : decode c.code pc = .ok (.return_, 1)) (hc : cells ≤ cc) (hs : slots ≤ ss) (hQ : Q none T.heap locs) : own_Goes p e below s Q cc ss T (mkF m pc Ls []) :=
  own_end X hlk (fun _ => rfl) hc hs hQ fun fs hr => X.returnOut hx hret hd hr
theorem own_nsr {Z : State} {a0 : Array Value} {O K : String} {n : Nat} (w : (Cond.noSuperclass O).before a0 Z = true) (wk : (Cond.instantiable K n).before a0 Z = true) (hn : O ≠ K) : NS Z O K := by
  obtain ⟨c, k, h1, h2, h3, -, -⟩ := Cond.noSuperclass_spec w
  obtain ⟨t, kt, g1, -⟩ := Cond.instantiable_spec wk
  have ne := ids_ne h1 g1 hn
  refine ⟨c, t, h1, g1, fun fuel => ?_⟩
  cases fuel with
  | zero => rfl
  | succ f => simp [Vm.isSubclassAux, ne, h2, h3]
theorem own_nsn {Z : State} {a0 : Array Value} {C S K : String} {n : Nat} (w : (Cond.superclass C S).before a0 Z = true) (wk : (Cond.instantiable K n).before a0 Z = true) (q : NS Z C K) (hn : C ≠ K) : ∃ c t, Z.vm.findClass C = some c ∧ Z.vm.findClass K = some t ∧ Z.vm.assignable c t = false := by
  obtain ⟨c, t, h0, g0, n3⟩ := q
  obtain ⟨p, k, kp, h1, h2, h3, h4, h5, -, h7⟩ := Cond.superclass_spec h0 w
  obtain ⟨t', kt, g1, g2, g5, g6, -⟩ := Cond.instantiable_spec wk
  cases g0.symm.trans g1
  have g7 : kt.isInterface = false := by simp only [Bool.or_eq_false_iff] at g6; exact g6.1
  have ne := ids_ne h0 g0 hn
  refine ⟨c, t, h0, g0, ?_⟩
  show Z.vm.assignableAux (255 + 1) c t = false
  simp [Vm.assignableAux, ne, h2, g2, h5, g5, g7, Vm.isSubclass, n3]
theorem own_Sta_keep {Z : State} {h h' : Heap} {ws : List Addr} {C n d : String} {w : Value} (F : Sta Z h C n d w) (K : Keep h h' ws) (q : ∀ x ∈ ws, ∀ cell : Cell, h[x]? = some cell → cell.vm.isStatics = false) : Sta Z h' C n d w := by
  obtain ⟨cf, i, k, f, st, cell, h1, h2, h3, h4, h5, h6, h7⟩ := F
  exact ⟨cf, i, k, f, st, cell, h1, h2, h3, h4, K.2.1 st cell h5 (fun z => by rw [q st z cell h5] at h6; cases h6), h6, h7⟩
end New
end Jvm.RoadKit
namespace Jvm.Pilot.@@N@@
open Jvm Jvm.ClassFile Sem Op Lib Jvm.Free Jvm.Stand Jvm.LawKit Jvm.RoadKit Bundle Jvm.Pilot.@@N@@.Jvm.D
def own_b (P : Prop) [Decidable P] : Int32 := if P then 1 else 0
theorem own_bt {P : Prop} [Decidable P] (h : P) : (some (Value.int (nar .boolean 1)) : Option Value) = some (.int (own_b P)) := by rw [own_b, if_pos h]; rfl
theorem own_bf {P : Prop} [Decidable P] (h : ¬ P) : (some (Value.int (nar .boolean 0)) : Option Value) = some (.int (own_b P)) := by rw [own_b, if_neg h]; rfl
theorem own_b1 {P : Prop} [Decidable P] (h : P) : own_b P = 1 := if_pos h
theorem own_b0 {P : Prop} [Decidable P] (h : ¬ P) : own_b P = 0 := if_neg h
theorem own_bc {P P' : Prop} [Decidable P] [Decidable P'] (h : P ↔ P') : own_b P = own_b P' := by simp only [own_b, h]
theorem own_ord {args : Array Value} {s : State} {t : Term} {a : Addr} {C n d : String} {k : Int32} (et : t.eval args s none [] s = some (.ref a)) (h : (Jvm.Cond.eq (.field t C n d) (.int k)).value args s none s [] = some true) : Fld s s.heap a C n d (.int k) := by
  refine Fld.start ?_
  have e1 := fld_at (C := C) (n := n) (dd := d) et
  obtain ⟨x, y, h1, h2, h3, -⟩ := cmp_v (Or.inl h)
  rw [e1] at h1
  have h4 : y = .int k := (Option.some.inj h2).symm
  subst h4
  cases x <;> simp [Kin, Value.isRef] at h3
  rename_i z
  have q : (Jvm.Cond.eq (.field t C n d) (.int k)).value args s none s [] = some (decide (z = k)) := by simp [Cond.value, Term.eval, et, h1]
  rw [h1, gotT q h]
theorem own_fref {args : Array Value} {s : State} {t : Term} {a : Addr} {C n d K : String} (et : t.eval args s none [] s = some (.ref a)) (h : (Jvm.Cond.exactly (.field t C n d) K).value args s none s [] = some true) : ∃ k, Fld s s.heap a C n d (.ref k) := by
  obtain ⟨k, e⟩ := exa_v h
  exact ⟨k, Fld.start ((fld_at et).symm.trans e)⟩
theorem own_fnull {args : Array Value} {s : State} {t : Term} {a : Addr} {C n d : String} (et : t.eval args s none [] s = some (.ref a)) (h : (Jvm.Cond.eq (.field t C n d) .null).value args s none s [] = some true) : Fld s s.heap a C n d .null :=
  Fld.start ((fld_at et).symm.trans (null_v h))
def own_can (r s : Addr) (x : Int64) : Int64 := if r = s ∧ ¬ x = 0 then 1 else x
theorem own_c0 {r s : Addr} {x : Int64} (h : x = 0) : own_can r s x = 0 := by subst h; exact if_neg (fun k => k.2 rfl)
theorem own_c1 {r s : Addr} {x : Int64} (hr : r = s) (h : ¬ x = 0) : own_can r s x = 1 := if_pos ⟨hr, h⟩
theorem own_cn {r s : Addr} {x : Int64} (hr : ¬ r = s) : own_can r s x = x := if_neg (fun k => hr k.1)
theorem own_ci {r s : Addr} {x : Int64} : own_can r s (own_can r s x) = own_can r s x := by
  rcases Classical.em (r = s) with hr | hr
  · rcases Classical.em (x = 0) with h | h
    · rw [own_c0 h]; exact own_c0 rfl
    · rw [own_c1 hr h]; exact own_c1 hr (by decide)
  · exact own_cn hr
theorem own_rng (p : Int32) : 0 ≤ ((p &&& 2147483647) % 17).toInt ∧ ((p &&& 2147483647) % 17).toInt < 17 := by
  have h1 := (c_and p 2147483647 (by decide)).1
  have h2 := (c_irem (p &&& 2147483647) 17 17 (by decide)).1 h1
  omega
theorem own_clamp {q : Int32} (h : 0 ≤ q.toInt ∧ q.toInt < 17) : ¬ q < 0 ∧ q < (17 : Int32) := by
  simp only [Int32.lt_iff_toInt_lt, Int32.reduceToInt]; omega
theorem own_pick17 {i : Int32} (h : 0 ≤ i.toInt ∧ i.toInt < 17) {Pr : Addr → Prop} {s0 s1 s2 s3 s4 s5 s6 s7 s8 s9 s10 s11 s12 s13 s14 s15 s16 : Addr} (e0 : Pr s0) (e1 : Pr s1) (e2 : Pr s2) (e3 : Pr s3) (e4 : Pr s4) (e5 : Pr s5) (e6 : Pr s6) (e7 : Pr s7) (e8 : Pr s8) (e9 : Pr s9) (e10 : Pr s10) (e11 : Pr s11) (e12 : Pr s12) (e13 : Pr s13) (e14 : Pr s14) (e15 : Pr s15) (e16 : Pr s16) (n0 : s0 ≠ s7) (n1 : s1 ≠ s7) (n2 : s2 ≠ s7) (n3 : s3 ≠ s7) (n4 : s4 ≠ s7) (n5 : s5 ≠ s7) (n6 : s6 ≠ s7) (n8 : s8 ≠ s7) (n9 : s9 ≠ s7) (n10 : s10 ≠ s7) (n11 : s11 ≠ s7) (n12 : s12 ≠ s7) (n13 : s13 ≠ s7) (n14 : s14 ≠ s7) (n15 : s15 ≠ s7) (n16 : s16 ≠ s7) : ∃ r, [Value.ref s0, Value.ref s1, Value.ref s2, Value.ref s3, Value.ref s4, Value.ref s5, Value.ref s6, Value.ref s7, Value.ref s8, Value.ref s9, Value.ref s10, Value.ref s11, Value.ref s12, Value.ref s13, Value.ref s14, Value.ref s15, Value.ref s16].getD i.toNatClampNeg .null = .ref r ∧ Pr r ∧ ((i = 7 ∧ r = s7) ∨ (¬ i = 7 ∧ ¬ r = s7)) := by
  have q : i = 0 ∨ i = 1 ∨ i = 2 ∨ i = 3 ∨ i = 4 ∨ i = 5 ∨ i = 6 ∨ i = 7 ∨ i = 8 ∨ i = 9 ∨ i = 10 ∨ i = 11 ∨ i = 12 ∨ i = 13 ∨ i = 14 ∨ i = 15 ∨ i = 16 := by simp only [← Int32.toInt_inj, Int32.reduceToInt]; omega
  rcases q with rfl | rfl | rfl | rfl | rfl | rfl | rfl | rfl | rfl | rfl | rfl | rfl | rfl | rfl | rfl | rfl | rfl
  · exact ⟨s0, rfl, e0, Or.inr ⟨by decide, n0⟩⟩
  · exact ⟨s1, rfl, e1, Or.inr ⟨by decide, n1⟩⟩
  · exact ⟨s2, rfl, e2, Or.inr ⟨by decide, n2⟩⟩
  · exact ⟨s3, rfl, e3, Or.inr ⟨by decide, n3⟩⟩
  · exact ⟨s4, rfl, e4, Or.inr ⟨by decide, n4⟩⟩
  · exact ⟨s5, rfl, e5, Or.inr ⟨by decide, n5⟩⟩
  · exact ⟨s6, rfl, e6, Or.inr ⟨by decide, n6⟩⟩
  · exact ⟨s7, rfl, e7, Or.inl ⟨rfl, rfl⟩⟩
  · exact ⟨s8, rfl, e8, Or.inr ⟨by decide, n8⟩⟩
  · exact ⟨s9, rfl, e9, Or.inr ⟨by decide, n9⟩⟩
  · exact ⟨s10, rfl, e10, Or.inr ⟨by decide, n10⟩⟩
  · exact ⟨s11, rfl, e11, Or.inr ⟨by decide, n11⟩⟩
  · exact ⟨s12, rfl, e12, Or.inr ⟨by decide, n12⟩⟩
  · exact ⟨s13, rfl, e13, Or.inr ⟨by decide, n13⟩⟩
  · exact ⟨s14, rfl, e14, Or.inr ⟨by decide, n14⟩⟩
  · exact ⟨s15, rfl, e15, Or.inr ⟨by decide, n15⟩⟩
  · exact ⟨s16, rfl, e16, Or.inr ⟨by decide, n16⟩⟩
abbrev rRrm1 : Room := { frames := 0, cells := 0, slots := 0, locals := 0 }
theorem d1_0 : decode prog_4_method_12_code 0 = .ok (.aload_n 0, 1) := by decide +kernel
theorem d1_1 : decode prog_4_method_12_code 1 = .ok (.getstatic 25, 3) := by decide +kernel
theorem d1_4 : decode prog_4_method_12_code 4 = .ok (.if_acmp .ne 13, 3) := by decide +kernel
theorem d1_7 : decode prog_4_method_12_code 7 = .ok (.lload_n 1, 1) := by decide +kernel
theorem d1_8 : decode prog_4_method_12_code 8 = .ok (.lconst 0, 1) := by decide +kernel
theorem d1_9 : decode prog_4_method_12_code 9 = .ok (.lcmp, 1) := by decide +kernel
theorem d1_10 : decode prog_4_method_12_code 10 = .ok (.ifCond .eq 7, 3) := by decide +kernel
theorem d1_13 : decode prog_4_method_12_code 13 = .ok (.lconst 1, 1) := by decide +kernel
theorem d1_14 : decode prog_4_method_12_code 14 = .ok (.goto 4, 3) := by decide +kernel
theorem d1_17 : decode prog_4_method_12_code 17 = .ok (.lload_n 1, 1) := by decide +kernel
theorem d1_18 : decode prog_4_method_12_code 18 = .ok (.lreturn, 1) := by decide +kernel
theorem pn_rm1 : plainFor (⟨"com/example/wirefold/wirefold/FieldType", "canonical", "(J)J"⟩ : MethodName) = true := by first | exact plainFor_of_name (by first | (simp [plainName, overriddenIn]; done) | decide +kernel) | decide +kernel
theorem ef_rm1 (m : MethodId) (r : Addr) (x : Int64) : entryFrame m #[(.ref r), (.long x)] 3 = (mkF m 0 #[rv r, .val (.long x), .second] []) := by first | (simp [entryFrame, mkF, argsToLocals, Value.category]; done) | rfl
def Q1 (Z : State) (r : Addr) (x : Int64) (s7 : Addr) (h0 : Heap) (n0 : Nat) (v_ : Option Value) (h_ : Heap) (L_ : List Loc) : Prop := (v_ = some (.long (own_can r s7 x))) ∧ (Fr n0 L_) ∧ (h_ = h0)
set_option maxRecDepth 65536 in
set_option maxHeartbeats 40000000 in
theorem rm1 (l : Launch) (Z : State) (a0 : Array Value) (hw : ∀ d ∈ tables_1, d.before a0 Z = true) (ws : List Jvm.Cond) (r : Addr) (x : Int64) (s7 : Addr) (h0 : Heap) (n0 : Nat) (Z0 : n0 ≤ h0.size) (p_0 : Sta Z h0 "com/example/wirefold/wirefold/FieldType" "BOOL" "Lcom/example/wirefold/wirefold/FieldType;" (.ref s7)) :
    MetFree l (⟨"com/example/wirefold/wirefold/FieldType", "canonical", "(J)J"⟩ : MethodName) (head1 (Jvm.Cond.code (⟨"com/example/wirefold/wirefold/FieldType", "canonical", "(J)J"⟩ : MethodName) prog_4_method_12_code 3 (some .long) :: ws) rRrm1) (fun a_ U_ => a_ = #[(.ref r), (.long x)] ∧ Z.Warmed39 U_.vm ∧ U_.heap = h0) (fun _ _ _ _ _ => True) (fun _ U_ o_ U1_ => ∃ v_ L_, o_ = .returned v_ ∧ Q1 Z r x s7 h0 n0 v_ U1_.heap L_ ∧ FrameEnd U_ o_ U1_ L_ rRrm1.cells rRrm1.slots) := by
  refine MetFree.of_bodySF pn_rm1 hisR ?_
  intro p e s m args below meth c s₁ Bd hml0 hP hK
  obtain ⟨rfl, hZ, hh⟩ := hP
  have hx := Bd.exec
  have hby := Bd.bytes
  have hlk : meth.locks = false := Bd.notSynchronized
  have hml : c.maxLocals = 3 := hml0
  have hown : s.vm.findClass "com/example/wirefold/wirefold/FieldType" = some m.cls := findClass_of_methodNamed Bd.named
  have hnm := (name_of_methodNamed Bd.named Bd.method).1
  have X0 : Stand p l e rRrm1 s m #[(.ref r), (.long x)] below meth c s₁ [] 0 0 := Stand.of_body Bd
  have e0 : s₁.heap = h0 := by rw [← hh, Bd.state]; rfl
  have N0 := Fr.nil n0
  show own_Goes p e below s (Q1 Z r x s7 h0 n0) rRrm1.cells rRrm1.slots s₁ (entryFrame m #[(.ref r), (.long x)] 3)
  rw [ef_rm1 m r x]
  show own_Goes p e below s (Q1 Z r x s7 h0 n0) rRrm1.cells rRrm1.slots s₁ (mkF m 0 #[rv r, .val (.long x), .second] [])
  refine own_st (fun _ kk_ => XS.aloadN X0.here hx rfl (hb hby d1_0) rfl rfl kk_) ?_
  show own_Goes p e below s (Q1 Z r x s7 h0 n0) rRrm1.cells rRrm1.slots s₁ (mkF m 1 #[rv r, .val (.long x), .second] [(.ref r)])
  obtain ⟨T1, X1, e1, st1⟩ := getS2 X0 hx hZ hown (host := "") (Or.inl (hw _ (List.mem_of_getElem? (i := 44) rfl))) Via.refl e0 p_0 (g := (mkF m 1 #[rv r, .val (.long x), .second] [(.ref r)])) rfl (hb hby d1_1)
  refine own_st st1 ?_
  show own_Goes p e below s (Q1 Z r x s7 h0 n0) rRrm1.cells rRrm1.slots T1 (mkF m 4 #[rv r, .val (.long x), .second] [(.ref s7), (.ref r)])
  rcases Classical.em ((Value.ref r) = (Value.ref s7)) with q0 | q0
  · refine own_st (fun _ kk_ => XT.acmpNo X1.here hx rfl (hb hby d1_4) rfl rfl rfl (XT.aa_ne_f q0) (XS.lloadN X1.here hx rfl (hb hby d1_7) rfl (XS.lconst X1.here hx rfl (hb hby d1_8) (XT.lcmp X1.here hx rfl (hb hby d1_9) rfl kk_)))) ?_
    show own_Goes p e below s (Q1 Z r x s7 h0 n0) rRrm1.cells rRrm1.slots T1 (mkF m 10 #[rv r, .val (.long x), .second] [(.int (XT.cmpL x (0 : Int64)))])
    rcases Classical.em (x = (0 : Int64)) with q1 | q1
    · refine own_st (fun _ kk_ => XS.ifYes X1.here hx rfl (pc0 := 10) (pc' := 17) rfl (hb hby d1_10) rfl (XT.ll_eq_t q1) (by decide) (by decide) (XS.lloadN X1.here hx rfl (hb hby d1_17) rfl kk_)) ?_
      show own_Goes p e below s (Q1 Z r x s7 h0 n0) rRrm1.cells rRrm1.slots T1 (mkF m 18 #[rv r, .val (.long x), .second] [(.long x)])
      refine own_retL X1 hx hlk Bd.returns (hb hby d1_18) (by decide) (by decide) ?_
      show Q1 Z r x s7 h0 n0 (some (.long x)) T1.heap _
      rw [e1]
      exact ⟨by exact congrArg (fun z => some (Value.long z)) (q1.trans (own_c0 q1).symm), N0, rfl⟩
    · refine own_st (fun _ kk_ => XS.ifNo X1.here hx rfl (hb hby d1_10) rfl (XT.ll_eq_f q1) (XS.lconst X1.here hx rfl (hb hby d1_13) (XS.goto X1.here hx rfl (pc0 := 14) (pc' := 18) rfl (hb hby d1_14) (by decide) (by decide) kk_))) ?_
      show own_Goes p e below s (Q1 Z r x s7 h0 n0) rRrm1.cells rRrm1.slots T1 (mkF m 18 #[rv r, .val (.long x), .second] [(.long (1 : Int64))])
      refine own_retL X1 hx hlk Bd.returns (hb hby d1_18) (by decide) (by decide) ?_
      show Q1 Z r x s7 h0 n0 (some (.long (1 : Int64))) T1.heap _
      rw [e1]
      exact ⟨by exact congrArg (fun z => some (Value.long z)) (if_pos ⟨Value.ref.inj q0, q1⟩).symm, N0, rfl⟩
  · refine own_st (fun _ kk_ => XT.acmpYes X1.here hx rfl (pc0 := 4) (pc' := 17) rfl (hb hby d1_4) rfl rfl rfl (XT.aa_ne_t q0) (by decide) (by decide) (XS.lloadN X1.here hx rfl (hb hby d1_17) rfl kk_)) ?_
    show own_Goes p e below s (Q1 Z r x s7 h0 n0) rRrm1.cells rRrm1.slots T1 (mkF m 18 #[rv r, .val (.long x), .second] [(.long x)])
    refine own_retL X1 hx hlk Bd.returns (hb hby d1_18) (by decide) (by decide) ?_
    show Q1 Z r x s7 h0 n0 (some (.long x)) T1.heap _
    rw [e1]
    exact ⟨by exact congrArg (fun z => some (Value.long z)) (if_neg (fun k => q0 (congrArg Value.ref k.1))).symm, N0, rfl⟩
theorem pd_0 : parseMethodDescriptor "(J)J" = some ⟨[.long], some .long⟩ := by decide +kernel
theorem pn_rm0 : plainFor x = true := by first | exact plainFor_of_name (by first | (simp [plainName, overriddenIn]; done) | decide +kernel) | decide +kernel
theorem ef_rm0 (m : MethodId) (p1 : Int32) (p2 : Int64) (p3 : Int64) (p4 : Int32) : entryFrame m #[(.int p1), (.long p2), (.long p3), (.int p4)] maxLocals = (mkF m 0 #[iv p1, .val (.long p2), .second, .val (.long p3), .second, iv p4, .unset, .unset, .unset, .unset, .unset, .unset, .unset, .unset, .unset, .unset, .unset, .unset, .unset] []) := by first | (simp [entryFrame, mkF, argsToLocals, Value.category, maxLocals]; done) | rfl
def Q0 (Z : State) (p1 : Int32) (p2 : Int64) (p3 : Int64) (p4 : Int32) (s0 : Addr) (s1 : Addr) (s2 : Addr) (s3 : Addr) (s4 : Addr) (s5 : Addr) (s6 : Addr) (s7 : Addr) (s8 : Addr) (s9 : Addr) (s10 : Addr) (s11 : Addr) (s12 : Addr) (s13 : Addr) (s14 : Addr) (s15 : Addr) (s16 : Addr) (h0 : Heap) (n0 : Nat) (v_ : Option Value) (h_ : Heap) (L_ : List Loc) : Prop := (v_ = some (.int (1 : Int32))) ∧ (Fr n0 L_)
set_option maxRecDepth 65536 in
set_option maxHeartbeats 40000000 in
theorem rm0 (l : Launch) (Z : State) (a0 : Array Value) (hw : ∀ d ∈ tables_1, d.before a0 Z = true) (ws : List Jvm.Cond) (p1 : Int32) (p2 : Int64) (p3 : Int64) (p4 : Int32) (s0 : Addr) (s1 : Addr) (s2 : Addr) (s3 : Addr) (s4 : Addr) (s5 : Addr) (s6 : Addr) (s7 : Addr) (s8 : Addr) (s9 : Addr) (s10 : Addr) (s11 : Addr) (s12 : Addr) (s13 : Addr) (s14 : Addr) (s15 : Addr) (s16 : Addr) (h0 : Heap) (n0 : Nat) (Z0 : n0 ≤ h0.size) (p_0 : Sta Z h0 "com/example/wirefold/wirefold/FieldType" "DOUBLE" "Lcom/example/wirefold/wirefold/FieldType;" (.ref s0)) (p_1 : Sta Z h0 "com/example/wirefold/wirefold/FieldType" "FLOAT" "Lcom/example/wirefold/wirefold/FieldType;" (.ref s1)) (p_2 : Sta Z h0 "com/example/wirefold/wirefold/FieldType" "INT64" "Lcom/example/wirefold/wirefold/FieldType;" (.ref s2)) (p_3 : Sta Z h0 "com/example/wirefold/wirefold/FieldType" "UINT64" "Lcom/example/wirefold/wirefold/FieldType;" (.ref s3)) (p_4 : Sta Z h0 "com/example/wirefold/wirefold/FieldType" "INT32" "Lcom/example/wirefold/wirefold/FieldType;" (.ref s4)) (p_5 : Sta Z h0 "com/example/wirefold/wirefold/FieldType" "FIXED64" "Lcom/example/wirefold/wirefold/FieldType;" (.ref s5)) (p_6 : Sta Z h0 "com/example/wirefold/wirefold/FieldType" "FIXED32" "Lcom/example/wirefold/wirefold/FieldType;" (.ref s6)) (p_7 : Sta Z h0 "com/example/wirefold/wirefold/FieldType" "BOOL" "Lcom/example/wirefold/wirefold/FieldType;" (.ref s7)) (p_8 : Sta Z h0 "com/example/wirefold/wirefold/FieldType" "STRING" "Lcom/example/wirefold/wirefold/FieldType;" (.ref s8)) (p_9 : Sta Z h0 "com/example/wirefold/wirefold/FieldType" "BYTES" "Lcom/example/wirefold/wirefold/FieldType;" (.ref s9)) (p_10 : Sta Z h0 "com/example/wirefold/wirefold/FieldType" "UINT32" "Lcom/example/wirefold/wirefold/FieldType;" (.ref s10)) (p_11 : Sta Z h0 "com/example/wirefold/wirefold/FieldType" "SFIXED32" "Lcom/example/wirefold/wirefold/FieldType;" (.ref s11)) (p_12 : Sta Z h0 "com/example/wirefold/wirefold/FieldType" "SFIXED64" "Lcom/example/wirefold/wirefold/FieldType;" (.ref s12)) (p_13 : Sta Z h0 "com/example/wirefold/wirefold/FieldType" "SINT32" "Lcom/example/wirefold/wirefold/FieldType;" (.ref s13)) (p_14 : Sta Z h0 "com/example/wirefold/wirefold/FieldType" "SINT64" "Lcom/example/wirefold/wirefold/FieldType;" (.ref s14)) (p_15 : Sta Z h0 "com/example/wirefold/wirefold/FieldType" "MESSAGE" "Lcom/example/wirefold/wirefold/FieldType;" (.ref s15)) (p_16 : Sta Z h0 "com/example/wirefold/wirefold/FieldType" "ENUM" "Lcom/example/wirefold/wirefold/FieldType;" (.ref s16)) (p_17 : Exa Z h0 s0 "com/example/wirefold/wirefold/FieldType") (p_18 : Exa Z h0 s1 "com/example/wirefold/wirefold/FieldType") (p_19 : Exa Z h0 s2 "com/example/wirefold/wirefold/FieldType") (p_20 : Exa Z h0 s3 "com/example/wirefold/wirefold/FieldType") (p_21 : Exa Z h0 s4 "com/example/wirefold/wirefold/FieldType") (p_22 : Exa Z h0 s5 "com/example/wirefold/wirefold/FieldType") (p_23 : Exa Z h0 s6 "com/example/wirefold/wirefold/FieldType") (p_24 : Exa Z h0 s7 "com/example/wirefold/wirefold/FieldType") (p_25 : Exa Z h0 s8 "com/example/wirefold/wirefold/FieldType") (p_26 : Exa Z h0 s9 "com/example/wirefold/wirefold/FieldType") (p_27 : Exa Z h0 s10 "com/example/wirefold/wirefold/FieldType") (p_28 : Exa Z h0 s11 "com/example/wirefold/wirefold/FieldType") (p_29 : Exa Z h0 s12 "com/example/wirefold/wirefold/FieldType") (p_30 : Exa Z h0 s13 "com/example/wirefold/wirefold/FieldType") (p_31 : Exa Z h0 s14 "com/example/wirefold/wirefold/FieldType") (p_32 : Exa Z h0 s15 "com/example/wirefold/wirefold/FieldType") (p_33 : Exa Z h0 s16 "com/example/wirefold/wirefold/FieldType") (p_34 : s0 ≠ s7) (p_35 : s1 ≠ s7) (p_36 : s2 ≠ s7) (p_37 : s3 ≠ s7) (p_38 : s4 ≠ s7) (p_39 : s5 ≠ s7) (p_40 : s6 ≠ s7) (p_41 : s8 ≠ s7) (p_42 : s9 ≠ s7) (p_43 : s10 ≠ s7) (p_44 : s11 ≠ s7) (p_45 : s12 ≠ s7) (p_46 : s13 ≠ s7) (p_47 : s14 ≠ s7) (p_48 : s15 ≠ s7) (p_49 : s16 ≠ s7) :
    MetFree l x (head1 (Jvm.Cond.code x code maxLocals ret :: ws) room_1) (fun a_ U_ => a_ = #[(.int p1), (.long p2), (.long p3), (.int p4)] ∧ Z.Warmed39 U_.vm ∧ U_.heap = h0) (fun _ _ _ _ _ => True) (fun _ U_ o_ U1_ => ∃ v_ L_, o_ = .returned v_ ∧ Q0 Z p1 p2 p3 p4 s0 s1 s2 s3 s4 s5 s6 s7 s8 s9 s10 s11 s12 s13 s14 s15 s16 h0 n0 v_ U1_.heap L_ ∧ FrameEnd U_ o_ U1_ L_ 16 128) := by
  refine MetFree.of_bodySF pn_rm0 hisR ?_
  intro p e s m args below meth c s₁ Bd hml0 hP hK
  obtain ⟨rfl, hZ, hh⟩ := hP
  have hx := Bd.exec
  have hby := Bd.bytes
  have hlk : meth.locks = false := Bd.notSynchronized
  have hml : c.maxLocals = 19 := hml0
  have hown : s.vm.findClass "com/example/wirefold/wirefold/FieldTypeCanonicalPinLaw" = some m.cls := findClass_of_methodNamed Bd.named
  have hnm := (name_of_methodNamed Bd.named Bd.method).1
  have X0 : Stand p l e room_1 s m #[(.int p1), (.long p2), (.long p3), (.int p4)] below meth c s₁ [] 0 0 := Stand.of_body Bd
  have e0 : s₁.heap = h0 := by rw [← hh, Bd.state]; rfl
  have N0 := Fr.nil n0
  show own_Goes p e below s (Q0 Z p1 p2 p3 p4 s0 s1 s2 s3 s4 s5 s6 s7 s8 s9 s10 s11 s12 s13 s14 s15 s16 h0 n0) 16 128 s₁ (entryFrame m #[(.int p1), (.long p2), (.long p3), (.int p4)] maxLocals)
  rw [ef_rm0 m p1 p2 p3 p4]
  show own_Goes p e below s (Q0 Z p1 p2 p3 p4 s0 s1 s2 s3 s4 s5 s6 s7 s8 s9 s10 s11 s12 s13 s14 s15 s16 h0 n0) 16 128 s₁ (mkF m 0 #[iv p1, .val (.long p2), .second, .val (.long p3), .second, iv p4, .unset, .unset, .unset, .unset, .unset, .unset, .unset, .unset, .unset, .unset, .unset, .unset, .unset] [])
  refine own_st (fun _ kk_ => XS.bipush X0.here hx rfl (hb hby at_0) kk_) ?_
  show own_Goes p e below s (Q0 Z p1 p2 p3 p4 s0 s1 s2 s3 s4 s5 s6 s7 s8 s9 s10 s11 s12 s13 s14 s15 s16 h0 n0) 16 128 s₁ (mkF m 2 #[iv p1, .val (.long p2), .second, .val (.long p3), .second, iv p4, .unset, .unset, .unset, .unset, .unset, .unset, .unset, .unset, .unset, .unset, .unset, .unset, .unset] [(.int (17 : Int32))])
  obtain ⟨T1, h1, k1, X1, e1, E1, A1, O1, st1⟩ := newR X0 hx hZ hown (hw _ (List.mem_of_getElem? (i := 0) rfl)) (hw _ (List.mem_of_getElem? (i := 1) rfl)) e0 (g := (mkF m 2 #[iv p1, .val (.long p2), .second, .val (.long p3), .second, iv p4, .unset, .unset, .unset, .unset, .unset, .unset, .unset, .unset, .unset, .unset, .unset, .unset, .unset] [(.int (17 : Int32))])) rfl (hb hby at_2) rfl (by decide) (cap := 17) (by decide) (by decide) (by decide) (by decide)
  obtain ⟨b1, gx1⟩ : ∃ z, z = h0.size := ⟨_, rfl⟩
  rw [← gx1] at A1 st1
  have ne1_s0 : s0 ≠ b1 := Nat.ne_of_lt (Nat.lt_of_lt_of_eq p_17.lt gx1.symm)
  have ne1_s1 : s1 ≠ b1 := Nat.ne_of_lt (Nat.lt_of_lt_of_eq p_18.lt gx1.symm)
  have ne1_s2 : s2 ≠ b1 := Nat.ne_of_lt (Nat.lt_of_lt_of_eq p_19.lt gx1.symm)
  have ne1_s3 : s3 ≠ b1 := Nat.ne_of_lt (Nat.lt_of_lt_of_eq p_20.lt gx1.symm)
  have ne1_s4 : s4 ≠ b1 := Nat.ne_of_lt (Nat.lt_of_lt_of_eq p_21.lt gx1.symm)
  have ne1_s5 : s5 ≠ b1 := Nat.ne_of_lt (Nat.lt_of_lt_of_eq p_22.lt gx1.symm)
  have ne1_s6 : s6 ≠ b1 := Nat.ne_of_lt (Nat.lt_of_lt_of_eq p_23.lt gx1.symm)
  have ne1_s7 : s7 ≠ b1 := Nat.ne_of_lt (Nat.lt_of_lt_of_eq p_24.lt gx1.symm)
  have ne1_s8 : s8 ≠ b1 := Nat.ne_of_lt (Nat.lt_of_lt_of_eq p_25.lt gx1.symm)
  have ne1_s9 : s9 ≠ b1 := Nat.ne_of_lt (Nat.lt_of_lt_of_eq p_26.lt gx1.symm)
  have ne1_s10 : s10 ≠ b1 := Nat.ne_of_lt (Nat.lt_of_lt_of_eq p_27.lt gx1.symm)
  have ne1_s11 : s11 ≠ b1 := Nat.ne_of_lt (Nat.lt_of_lt_of_eq p_28.lt gx1.symm)
  have ne1_s12 : s12 ≠ b1 := Nat.ne_of_lt (Nat.lt_of_lt_of_eq p_29.lt gx1.symm)
  have ne1_s13 : s13 ≠ b1 := Nat.ne_of_lt (Nat.lt_of_lt_of_eq p_30.lt gx1.symm)
  have ne1_s14 : s14 ≠ b1 := Nat.ne_of_lt (Nat.lt_of_lt_of_eq p_31.lt gx1.symm)
  have ne1_s15 : s15 ≠ b1 := Nat.ne_of_lt (Nat.lt_of_lt_of_eq p_32.lt gx1.symm)
  have ne1_s16 : s16 ≠ b1 := Nat.ne_of_lt (Nat.lt_of_lt_of_eq p_33.lt gx1.symm)
  have gg1 : n0 ≤ b1 := Nat.le_trans Z0 (Nat.le_of_eq gx1.symm)
  have f1_0 := p_0.ext E1
  have f1_1 := p_1.ext E1
  have f1_2 := p_2.ext E1
  have f1_3 := p_3.ext E1
  have f1_4 := p_4.ext E1
  have f1_5 := p_5.ext E1
  have f1_6 := p_6.ext E1
  have f1_7 := p_7.ext E1
  have f1_8 := p_8.ext E1
  have f1_9 := p_9.ext E1
  have f1_10 := p_10.ext E1
  have f1_11 := p_11.ext E1
  have f1_12 := p_12.ext E1
  have f1_13 := p_13.ext E1
  have f1_14 := p_14.ext E1
  have f1_15 := p_15.ext E1
  have f1_16 := p_16.ext E1
  have f1_17 := p_17.ext E1
  have f1_18 := p_18.ext E1
  have f1_19 := p_19.ext E1
  have f1_20 := p_20.ext E1
  have f1_21 := p_21.ext E1
  have f1_22 := p_22.ext E1
  have f1_23 := p_23.ext E1
  have f1_24 := p_24.ext E1
  have f1_25 := p_25.ext E1
  have f1_26 := p_26.ext E1
  have f1_27 := p_27.ext E1
  have f1_28 := p_28.ext E1
  have f1_29 := p_29.ext E1
  have f1_30 := p_30.ext E1
  have f1_31 := p_31.ext E1
  have f1_32 := p_32.ext E1
  have f1_33 := p_33.ext E1
  have Zs1 : n0 ≤ h1.size := Nat.le_trans Z0 E1.1
  have V1 : Arv Z h1 b1 k1 (.object "com/example/wirefold/wirefold/FieldType") (17 : Int32) [.null, .null, .null, .null, .null, .null, .null, .null, .null, .null, .null, .null, .null, .null, .null, .null, .null] .null := (Arv.new A1 (by decide)).pad (pad_rep [] .null 17)
  refine own_st st1 ?_
  show own_Goes p e below s (Q0 Z p1 p2 p3 p4 s0 s1 s2 s3 s4 s5 s6 s7 s8 s9 s10 s11 s12 s13 s14 s15 s16 h0 n0) 16 128 T1 (mkF m 5 #[iv p1, .val (.long p2), .second, .val (.long p3), .second, iv p4, .unset, .unset, .unset, .unset, .unset, .unset, .unset, .unset, .unset, .unset, .unset, .unset, .unset] [(.ref b1)])
  refine own_st (fun _ kk_ => XS.dup X1.here hx rfl (hb hby at_5) rfl rfl (XS.iconst X1.here hx rfl (hb hby at_6) kk_)) ?_
  show own_Goes p e below s (Q0 Z p1 p2 p3 p4 s0 s1 s2 s3 s4 s5 s6 s7 s8 s9 s10 s11 s12 s13 s14 s15 s16 h0 n0) 16 128 T1 (mkF m 7 #[iv p1, .val (.long p2), .second, .val (.long p3), .second, iv p4, .unset, .unset, .unset, .unset, .unset, .unset, .unset, .unset, .unset, .unset, .unset, .unset, .unset] [(.int (0 : Int32)), (.ref b1), (.ref b1)])
  obtain ⟨T2, X2, e2, st2⟩ := getS2 X1 hx hZ hown (host := "") (Or.inl (hw _ (List.mem_of_getElem? (i := 2) rfl))) Via.refl e1 f1_0 (g := (mkF m 7 #[iv p1, .val (.long p2), .second, .val (.long p3), .second, iv p4, .unset, .unset, .unset, .unset, .unset, .unset, .unset, .unset, .unset, .unset, .unset, .unset, .unset] [(.int (0 : Int32)), (.ref b1), (.ref b1)])) rfl (hb hby at_7)
  refine own_st st2 ?_
  show own_Goes p e below s (Q0 Z p1 p2 p3 p4 s0 s1 s2 s3 s4 s5 s6 s7 s8 s9 s10 s11 s12 s13 s14 s15 s16 h0 n0) 16 128 T2 (mkF m 10 #[iv p1, .val (.long p2), .second, .val (.long p3), .second, iv p4, .unset, .unset, .unset, .unset, .unset, .unset, .unset, .unset, .unset, .unset, .unset, .unset, .unset] [(.ref s0), (.int (0 : Int32)), (.ref b1), (.ref b1)])
  obtain ⟨cl3, Ar3, q3, Sz3, Nn3, Hh3, Gg3⟩ := V1
  obtain ⟨T3, h3, X3, e3, W3, st3⟩ := stR X2 hx hZ e2 Ar3 (j := (0 : Int32)) (inb_of Sz3 ⟨by decide, by decide⟩) rfl (Sto.ofV Ar3 q3 O1 (Ins.self f1_17)) (g := (mkF m 10 #[iv p1, .val (.long p2), .second, .val (.long p3), .second, iv p4, .unset, .unset, .unset, .unset, .unset, .unset, .unset, .unset, .unset, .unset, .unset, .unset, .unset] [(.ref s0), (.int (0 : Int32)), (.ref b1), (.ref b1)])) rfl rfl (hb hby at_10)
  have V3 : Arv Z h3 b1 k1 (.object "com/example/wirefold/wirefold/FieldType") (17 : Int32) [(.ref s0), .null, .null, .null, .null, .null, .null, .null, .null, .null, .null, .null, .null, .null, .null, .null, .null] .null := Arv.set Ar3 q3 Sz3 Nn3 Hh3 Gg3 rfl W3 0 rfl (Nat.le_of_ble_eq_true rfl)
  have f3_0 := f1_1.wr W3
  have f3_1 := f1_2.wr W3
  have f3_2 := f1_3.wr W3
  have f3_3 := f1_4.wr W3
  have f3_4 := f1_5.wr W3
  have f3_5 := f1_6.wr W3
  have f3_6 := f1_7.wr W3
  have f3_7 := f1_8.wr W3
  have f3_8 := f1_9.wr W3
  have f3_9 := f1_10.wr W3
  have f3_10 := f1_11.wr W3
  have f3_11 := f1_12.wr W3
  have f3_12 := f1_13.wr W3
  have f3_13 := f1_14.wr W3
  have f3_14 := f1_15.wr W3
  have f3_15 := f1_16.wr W3
  have f3_16 := f1_17.wr W3
  have f3_17 := f1_18.wr W3
  have f3_18 := f1_19.wr W3
  have f3_19 := f1_20.wr W3
  have f3_20 := f1_21.wr W3
  have f3_21 := f1_22.wr W3
  have f3_22 := f1_23.wr W3
  have f3_23 := f1_24.wr W3
  have f3_24 := f1_25.wr W3
  have f3_25 := f1_26.wr W3
  have f3_26 := f1_27.wr W3
  have f3_27 := f1_28.wr W3
  have f3_28 := f1_29.wr W3
  have f3_29 := f1_30.wr W3
  have f3_30 := f1_31.wr W3
  have f3_31 := f1_32.wr W3
  have f3_32 := f1_33.wr W3
  have Zs3 : n0 ≤ h3.size := Nat.le_trans Zs1 (Nat.le_of_eq W3.size.symm)
  have N3 := Fr.snoc X3 N0 gg1
  refine own_st st3 ?_
  show own_Goes p e below s (Q0 Z p1 p2 p3 p4 s0 s1 s2 s3 s4 s5 s6 s7 s8 s9 s10 s11 s12 s13 s14 s15 s16 h0 n0) 16 128 T3 (mkF m 11 #[iv p1, .val (.long p2), .second, .val (.long p3), .second, iv p4, .unset, .unset, .unset, .unset, .unset, .unset, .unset, .unset, .unset, .unset, .unset, .unset, .unset] [(.ref b1)])
  refine own_st (fun _ kk_ => XS.dup X3.here hx rfl (hb hby at_11) rfl rfl (XS.iconst X3.here hx rfl (hb hby at_12) kk_)) ?_
  show own_Goes p e below s (Q0 Z p1 p2 p3 p4 s0 s1 s2 s3 s4 s5 s6 s7 s8 s9 s10 s11 s12 s13 s14 s15 s16 h0 n0) 16 128 T3 (mkF m 13 #[iv p1, .val (.long p2), .second, .val (.long p3), .second, iv p4, .unset, .unset, .unset, .unset, .unset, .unset, .unset, .unset, .unset, .unset, .unset, .unset, .unset] [(.int (1 : Int32)), (.ref b1), (.ref b1)])
  obtain ⟨T4, X4, e4, st4⟩ := getS2 X3 hx hZ hown (host := "") (Or.inl (hw _ (List.mem_of_getElem? (i := 6) rfl))) Via.refl e3 f3_0 (g := (mkF m 13 #[iv p1, .val (.long p2), .second, .val (.long p3), .second, iv p4, .unset, .unset, .unset, .unset, .unset, .unset, .unset, .unset, .unset, .unset, .unset, .unset, .unset] [(.int (1 : Int32)), (.ref b1), (.ref b1)])) rfl (hb hby at_13)
  refine own_st st4 ?_
  show own_Goes p e below s (Q0 Z p1 p2 p3 p4 s0 s1 s2 s3 s4 s5 s6 s7 s8 s9 s10 s11 s12 s13 s14 s15 s16 h0 n0) 16 128 T4 (mkF m 16 #[iv p1, .val (.long p2), .second, .val (.long p3), .second, iv p4, .unset, .unset, .unset, .unset, .unset, .unset, .unset, .unset, .unset, .unset, .unset, .unset, .unset] [(.ref s1), (.int (1 : Int32)), (.ref b1), (.ref b1)])
  obtain ⟨cl5, Ar5, q5, Sz5, Nn5, Hh5, Gg5⟩ := V3
  obtain ⟨T5, h5, X5, e5, W5, st5⟩ := stR X4 hx hZ e4 Ar5 (j := (1 : Int32)) (inb_of Sz5 ⟨by decide, by decide⟩) rfl (Sto.ofV Ar5 q5 O1 (Ins.self f3_17)) (g := (mkF m 16 #[iv p1, .val (.long p2), .second, .val (.long p3), .second, iv p4, .unset, .unset, .unset, .unset, .unset, .unset, .unset, .unset, .unset, .unset, .unset, .unset, .unset] [(.ref s1), (.int (1 : Int32)), (.ref b1), (.ref b1)])) rfl rfl (hb hby at_16)
  have V5 : Arv Z h5 b1 k1 (.object "com/example/wirefold/wirefold/FieldType") (17 : Int32) [(.ref s0), (.ref s1), .null, .null, .null, .null, .null, .null, .null, .null, .null, .null, .null, .null, .null, .null, .null] .null := Arv.set Ar5 q5 Sz5 Nn5 Hh5 Gg5 rfl W5 1 rfl (Nat.le_of_ble_eq_true rfl)
  have f5_0 := f3_1.wr W5
  have f5_1 := f3_2.wr W5
  have f5_2 := f3_3.wr W5
  have f5_3 := f3_4.wr W5
  have f5_4 := f3_5.wr W5
  have f5_5 := f3_6.wr W5
  have f5_6 := f3_7.wr W5
  have f5_7 := f3_8.wr W5
  have f5_8 := f3_9.wr W5
  have f5_9 := f3_10.wr W5
  have f5_10 := f3_11.wr W5
  have f5_11 := f3_12.wr W5
  have f5_12 := f3_13.wr W5
  have f5_13 := f3_14.wr W5
  have f5_14 := f3_15.wr W5
  have f5_15 := f3_16.wr W5
  have f5_16 := f3_17.wr W5
  have f5_17 := f3_18.wr W5
  have f5_18 := f3_19.wr W5
  have f5_19 := f3_20.wr W5
  have f5_20 := f3_21.wr W5
  have f5_21 := f3_22.wr W5
  have f5_22 := f3_23.wr W5
  have f5_23 := f3_24.wr W5
  have f5_24 := f3_25.wr W5
  have f5_25 := f3_26.wr W5
  have f5_26 := f3_27.wr W5
  have f5_27 := f3_28.wr W5
  have f5_28 := f3_29.wr W5
  have f5_29 := f3_30.wr W5
  have f5_30 := f3_31.wr W5
  have f5_31 := f3_32.wr W5
  have Zs5 : n0 ≤ h5.size := Nat.le_trans Zs3 (Nat.le_of_eq W5.size.symm)
  have N5 := Fr.snoc X5 N3 gg1
  refine own_st st5 ?_
  show own_Goes p e below s (Q0 Z p1 p2 p3 p4 s0 s1 s2 s3 s4 s5 s6 s7 s8 s9 s10 s11 s12 s13 s14 s15 s16 h0 n0) 16 128 T5 (mkF m 17 #[iv p1, .val (.long p2), .second, .val (.long p3), .second, iv p4, .unset, .unset, .unset, .unset, .unset, .unset, .unset, .unset, .unset, .unset, .unset, .unset, .unset] [(.ref b1)])
  refine own_st (fun _ kk_ => XS.dup X5.here hx rfl (hb hby at_17) rfl rfl (XS.iconst X5.here hx rfl (hb hby at_18) kk_)) ?_
  show own_Goes p e below s (Q0 Z p1 p2 p3 p4 s0 s1 s2 s3 s4 s5 s6 s7 s8 s9 s10 s11 s12 s13 s14 s15 s16 h0 n0) 16 128 T5 (mkF m 19 #[iv p1, .val (.long p2), .second, .val (.long p3), .second, iv p4, .unset, .unset, .unset, .unset, .unset, .unset, .unset, .unset, .unset, .unset, .unset, .unset, .unset] [(.int (2 : Int32)), (.ref b1), (.ref b1)])
  obtain ⟨T6, X6, e6, st6⟩ := getS2 X5 hx hZ hown (host := "") (Or.inl (hw _ (List.mem_of_getElem? (i := 8) rfl))) Via.refl e5 f5_0 (g := (mkF m 19 #[iv p1, .val (.long p2), .second, .val (.long p3), .second, iv p4, .unset, .unset, .unset, .unset, .unset, .unset, .unset, .unset, .unset, .unset, .unset, .unset, .unset] [(.int (2 : Int32)), (.ref b1), (.ref b1)])) rfl (hb hby at_19)
  refine own_st st6 ?_
  show own_Goes p e below s (Q0 Z p1 p2 p3 p4 s0 s1 s2 s3 s4 s5 s6 s7 s8 s9 s10 s11 s12 s13 s14 s15 s16 h0 n0) 16 128 T6 (mkF m 22 #[iv p1, .val (.long p2), .second, .val (.long p3), .second, iv p4, .unset, .unset, .unset, .unset, .unset, .unset, .unset, .unset, .unset, .unset, .unset, .unset, .unset] [(.ref s2), (.int (2 : Int32)), (.ref b1), (.ref b1)])
  obtain ⟨cl7, Ar7, q7, Sz7, Nn7, Hh7, Gg7⟩ := V5
  obtain ⟨T7, h7, X7, e7, W7, st7⟩ := stR X6 hx hZ e6 Ar7 (j := (2 : Int32)) (inb_of Sz7 ⟨by decide, by decide⟩) rfl (Sto.ofV Ar7 q7 O1 (Ins.self f5_17)) (g := (mkF m 22 #[iv p1, .val (.long p2), .second, .val (.long p3), .second, iv p4, .unset, .unset, .unset, .unset, .unset, .unset, .unset, .unset, .unset, .unset, .unset, .unset, .unset] [(.ref s2), (.int (2 : Int32)), (.ref b1), (.ref b1)])) rfl rfl (hb hby at_22)
  have V7 : Arv Z h7 b1 k1 (.object "com/example/wirefold/wirefold/FieldType") (17 : Int32) [(.ref s0), (.ref s1), (.ref s2), .null, .null, .null, .null, .null, .null, .null, .null, .null, .null, .null, .null, .null, .null] .null := Arv.set Ar7 q7 Sz7 Nn7 Hh7 Gg7 rfl W7 2 rfl (Nat.le_of_ble_eq_true rfl)
  have f7_0 := f5_1.wr W7
  have f7_1 := f5_2.wr W7
  have f7_2 := f5_3.wr W7
  have f7_3 := f5_4.wr W7
  have f7_4 := f5_5.wr W7
  have f7_5 := f5_6.wr W7
  have f7_6 := f5_7.wr W7
  have f7_7 := f5_8.wr W7
  have f7_8 := f5_9.wr W7
  have f7_9 := f5_10.wr W7
  have f7_10 := f5_11.wr W7
  have f7_11 := f5_12.wr W7
  have f7_12 := f5_13.wr W7
  have f7_13 := f5_14.wr W7
  have f7_14 := f5_15.wr W7
  have f7_15 := f5_16.wr W7
  have f7_16 := f5_17.wr W7
  have f7_17 := f5_18.wr W7
  have f7_18 := f5_19.wr W7
  have f7_19 := f5_20.wr W7
  have f7_20 := f5_21.wr W7
  have f7_21 := f5_22.wr W7
  have f7_22 := f5_23.wr W7
  have f7_23 := f5_24.wr W7
  have f7_24 := f5_25.wr W7
  have f7_25 := f5_26.wr W7
  have f7_26 := f5_27.wr W7
  have f7_27 := f5_28.wr W7
  have f7_28 := f5_29.wr W7
  have f7_29 := f5_30.wr W7
  have f7_30 := f5_31.wr W7
  have Zs7 : n0 ≤ h7.size := Nat.le_trans Zs5 (Nat.le_of_eq W7.size.symm)
  have N7 := Fr.snoc X7 N5 gg1
  refine own_st st7 ?_
  show own_Goes p e below s (Q0 Z p1 p2 p3 p4 s0 s1 s2 s3 s4 s5 s6 s7 s8 s9 s10 s11 s12 s13 s14 s15 s16 h0 n0) 16 128 T7 (mkF m 23 #[iv p1, .val (.long p2), .second, .val (.long p3), .second, iv p4, .unset, .unset, .unset, .unset, .unset, .unset, .unset, .unset, .unset, .unset, .unset, .unset, .unset] [(.ref b1)])
  refine own_st (fun _ kk_ => XS.dup X7.here hx rfl (hb hby at_23) rfl rfl (XS.iconst X7.here hx rfl (hb hby at_24) kk_)) ?_
  show own_Goes p e below s (Q0 Z p1 p2 p3 p4 s0 s1 s2 s3 s4 s5 s6 s7 s8 s9 s10 s11 s12 s13 s14 s15 s16 h0 n0) 16 128 T7 (mkF m 25 #[iv p1, .val (.long p2), .second, .val (.long p3), .second, iv p4, .unset, .unset, .unset, .unset, .unset, .unset, .unset, .unset, .unset, .unset, .unset, .unset, .unset] [(.int (3 : Int32)), (.ref b1), (.ref b1)])
  obtain ⟨T8, X8, e8, st8⟩ := getS2 X7 hx hZ hown (host := "") (Or.inl (hw _ (List.mem_of_getElem? (i := 10) rfl))) Via.refl e7 f7_0 (g := (mkF m 25 #[iv p1, .val (.long p2), .second, .val (.long p3), .second, iv p4, .unset, .unset, .unset, .unset, .unset, .unset, .unset, .unset, .unset, .unset, .unset, .unset, .unset] [(.int (3 : Int32)), (.ref b1), (.ref b1)])) rfl (hb hby at_25)
  refine own_st st8 ?_
  show own_Goes p e below s (Q0 Z p1 p2 p3 p4 s0 s1 s2 s3 s4 s5 s6 s7 s8 s9 s10 s11 s12 s13 s14 s15 s16 h0 n0) 16 128 T8 (mkF m 28 #[iv p1, .val (.long p2), .second, .val (.long p3), .second, iv p4, .unset, .unset, .unset, .unset, .unset, .unset, .unset, .unset, .unset, .unset, .unset, .unset, .unset] [(.ref s3), (.int (3 : Int32)), (.ref b1), (.ref b1)])
  obtain ⟨cl9, Ar9, q9, Sz9, Nn9, Hh9, Gg9⟩ := V7
  obtain ⟨T9, h9, X9, e9, W9, st9⟩ := stR X8 hx hZ e8 Ar9 (j := (3 : Int32)) (inb_of Sz9 ⟨by decide, by decide⟩) rfl (Sto.ofV Ar9 q9 O1 (Ins.self f7_17)) (g := (mkF m 28 #[iv p1, .val (.long p2), .second, .val (.long p3), .second, iv p4, .unset, .unset, .unset, .unset, .unset, .unset, .unset, .unset, .unset, .unset, .unset, .unset, .unset] [(.ref s3), (.int (3 : Int32)), (.ref b1), (.ref b1)])) rfl rfl (hb hby at_28)
  have V9 : Arv Z h9 b1 k1 (.object "com/example/wirefold/wirefold/FieldType") (17 : Int32) [(.ref s0), (.ref s1), (.ref s2), (.ref s3), .null, .null, .null, .null, .null, .null, .null, .null, .null, .null, .null, .null, .null] .null := Arv.set Ar9 q9 Sz9 Nn9 Hh9 Gg9 rfl W9 3 rfl (Nat.le_of_ble_eq_true rfl)
  have f9_0 := f7_1.wr W9
  have f9_1 := f7_2.wr W9
  have f9_2 := f7_3.wr W9
  have f9_3 := f7_4.wr W9
  have f9_4 := f7_5.wr W9
  have f9_5 := f7_6.wr W9
  have f9_6 := f7_7.wr W9
  have f9_7 := f7_8.wr W9
  have f9_8 := f7_9.wr W9
  have f9_9 := f7_10.wr W9
  have f9_10 := f7_11.wr W9
  have f9_11 := f7_12.wr W9
  have f9_12 := f7_13.wr W9
  have f9_13 := f7_14.wr W9
  have f9_14 := f7_15.wr W9
  have f9_15 := f7_16.wr W9
  have f9_16 := f7_17.wr W9
  have f9_17 := f7_18.wr W9
  have f9_18 := f7_19.wr W9
  have f9_19 := f7_20.wr W9
  have f9_20 := f7_21.wr W9
  have f9_21 := f7_22.wr W9
  have f9_22 := f7_23.wr W9
  have f9_23 := f7_24.wr W9
  have f9_24 := f7_25.wr W9
  have f9_25 := f7_26.wr W9
  have f9_26 := f7_27.wr W9
  have f9_27 := f7_28.wr W9
  have f9_28 := f7_29.wr W9
  have f9_29 := f7_30.wr W9
  have Zs9 : n0 ≤ h9.size := Nat.le_trans Zs7 (Nat.le_of_eq W9.size.symm)
  have N9 := Fr.snoc X9 N7 gg1
  refine own_st st9 ?_
  show own_Goes p e below s (Q0 Z p1 p2 p3 p4 s0 s1 s2 s3 s4 s5 s6 s7 s8 s9 s10 s11 s12 s13 s14 s15 s16 h0 n0) 16 128 T9 (mkF m 29 #[iv p1, .val (.long p2), .second, .val (.long p3), .second, iv p4, .unset, .unset, .unset, .unset, .unset, .unset, .unset, .unset, .unset, .unset, .unset, .unset, .unset] [(.ref b1)])
  refine own_st (fun _ kk_ => XS.dup X9.here hx rfl (hb hby at_29) rfl rfl (XS.iconst X9.here hx rfl (hb hby at_30) kk_)) ?_
  show own_Goes p e below s (Q0 Z p1 p2 p3 p4 s0 s1 s2 s3 s4 s5 s6 s7 s8 s9 s10 s11 s12 s13 s14 s15 s16 h0 n0) 16 128 T9 (mkF m 31 #[iv p1, .val (.long p2), .second, .val (.long p3), .second, iv p4, .unset, .unset, .unset, .unset, .unset, .unset, .unset, .unset, .unset, .unset, .unset, .unset, .unset] [(.int (4 : Int32)), (.ref b1), (.ref b1)])
  obtain ⟨T10, X10, e10, st10⟩ := getS2 X9 hx hZ hown (host := "") (Or.inl (hw _ (List.mem_of_getElem? (i := 12) rfl))) Via.refl e9 f9_0 (g := (mkF m 31 #[iv p1, .val (.long p2), .second, .val (.long p3), .second, iv p4, .unset, .unset, .unset, .unset, .unset, .unset, .unset, .unset, .unset, .unset, .unset, .unset, .unset] [(.int (4 : Int32)), (.ref b1), (.ref b1)])) rfl (hb hby at_31)
  refine own_st st10 ?_
  show own_Goes p e below s (Q0 Z p1 p2 p3 p4 s0 s1 s2 s3 s4 s5 s6 s7 s8 s9 s10 s11 s12 s13 s14 s15 s16 h0 n0) 16 128 T10 (mkF m 34 #[iv p1, .val (.long p2), .second, .val (.long p3), .second, iv p4, .unset, .unset, .unset, .unset, .unset, .unset, .unset, .unset, .unset, .unset, .unset, .unset, .unset] [(.ref s4), (.int (4 : Int32)), (.ref b1), (.ref b1)])
  obtain ⟨cl11, Ar11, q11, Sz11, Nn11, Hh11, Gg11⟩ := V9
  obtain ⟨T11, h11, X11, e11, W11, st11⟩ := stR X10 hx hZ e10 Ar11 (j := (4 : Int32)) (inb_of Sz11 ⟨by decide, by decide⟩) rfl (Sto.ofV Ar11 q11 O1 (Ins.self f9_17)) (g := (mkF m 34 #[iv p1, .val (.long p2), .second, .val (.long p3), .second, iv p4, .unset, .unset, .unset, .unset, .unset, .unset, .unset, .unset, .unset, .unset, .unset, .unset, .unset] [(.ref s4), (.int (4 : Int32)), (.ref b1), (.ref b1)])) rfl rfl (hb hby at_34)
  have V11 : Arv Z h11 b1 k1 (.object "com/example/wirefold/wirefold/FieldType") (17 : Int32) [(.ref s0), (.ref s1), (.ref s2), (.ref s3), (.ref s4), .null, .null, .null, .null, .null, .null, .null, .null, .null, .null, .null, .null] .null := Arv.set Ar11 q11 Sz11 Nn11 Hh11 Gg11 rfl W11 4 rfl (Nat.le_of_ble_eq_true rfl)
  have f11_0 := f9_1.wr W11
  have f11_1 := f9_2.wr W11
  have f11_2 := f9_3.wr W11
  have f11_3 := f9_4.wr W11
  have f11_4 := f9_5.wr W11
  have f11_5 := f9_6.wr W11
  have f11_6 := f9_7.wr W11
  have f11_7 := f9_8.wr W11
  have f11_8 := f9_9.wr W11
  have f11_9 := f9_10.wr W11
  have f11_10 := f9_11.wr W11
  have f11_11 := f9_12.wr W11
  have f11_12 := f9_13.wr W11
  have f11_13 := f9_14.wr W11
  have f11_14 := f9_15.wr W11
  have f11_15 := f9_16.wr W11
  have f11_16 := f9_17.wr W11
  have f11_17 := f9_18.wr W11
  have f11_18 := f9_19.wr W11
  have f11_19 := f9_20.wr W11
  have f11_20 := f9_21.wr W11
  have f11_21 := f9_22.wr W11
  have f11_22 := f9_23.wr W11
  have f11_23 := f9_24.wr W11
  have f11_24 := f9_25.wr W11
  have f11_25 := f9_26.wr W11
  have f11_26 := f9_27.wr W11
  have f11_27 := f9_28.wr W11
  have f11_28 := f9_29.wr W11
  have Zs11 : n0 ≤ h11.size := Nat.le_trans Zs9 (Nat.le_of_eq W11.size.symm)
  have N11 := Fr.snoc X11 N9 gg1
  refine own_st st11 ?_
  show own_Goes p e below s (Q0 Z p1 p2 p3 p4 s0 s1 s2 s3 s4 s5 s6 s7 s8 s9 s10 s11 s12 s13 s14 s15 s16 h0 n0) 16 128 T11 (mkF m 35 #[iv p1, .val (.long p2), .second, .val (.long p3), .second, iv p4, .unset, .unset, .unset, .unset, .unset, .unset, .unset, .unset, .unset, .unset, .unset, .unset, .unset] [(.ref b1)])
  refine own_st (fun _ kk_ => XS.dup X11.here hx rfl (hb hby at_35) rfl rfl (XS.iconst X11.here hx rfl (hb hby at_36) kk_)) ?_
  show own_Goes p e below s (Q0 Z p1 p2 p3 p4 s0 s1 s2 s3 s4 s5 s6 s7 s8 s9 s10 s11 s12 s13 s14 s15 s16 h0 n0) 16 128 T11 (mkF m 37 #[iv p1, .val (.long p2), .second, .val (.long p3), .second, iv p4, .unset, .unset, .unset, .unset, .unset, .unset, .unset, .unset, .unset, .unset, .unset, .unset, .unset] [(.int (5 : Int32)), (.ref b1), (.ref b1)])
  obtain ⟨T12, X12, e12, st12⟩ := getS2 X11 hx hZ hown (host := "") (Or.inl (hw _ (List.mem_of_getElem? (i := 14) rfl))) Via.refl e11 f11_0 (g := (mkF m 37 #[iv p1, .val (.long p2), .second, .val (.long p3), .second, iv p4, .unset, .unset, .unset, .unset, .unset, .unset, .unset, .unset, .unset, .unset, .unset, .unset, .unset] [(.int (5 : Int32)), (.ref b1), (.ref b1)])) rfl (hb hby at_37)
  refine own_st st12 ?_
  show own_Goes p e below s (Q0 Z p1 p2 p3 p4 s0 s1 s2 s3 s4 s5 s6 s7 s8 s9 s10 s11 s12 s13 s14 s15 s16 h0 n0) 16 128 T12 (mkF m 40 #[iv p1, .val (.long p2), .second, .val (.long p3), .second, iv p4, .unset, .unset, .unset, .unset, .unset, .unset, .unset, .unset, .unset, .unset, .unset, .unset, .unset] [(.ref s5), (.int (5 : Int32)), (.ref b1), (.ref b1)])
  obtain ⟨cl13, Ar13, q13, Sz13, Nn13, Hh13, Gg13⟩ := V11
  obtain ⟨T13, h13, X13, e13, W13, st13⟩ := stR X12 hx hZ e12 Ar13 (j := (5 : Int32)) (inb_of Sz13 ⟨by decide, by decide⟩) rfl (Sto.ofV Ar13 q13 O1 (Ins.self f11_17)) (g := (mkF m 40 #[iv p1, .val (.long p2), .second, .val (.long p3), .second, iv p4, .unset, .unset, .unset, .unset, .unset, .unset, .unset, .unset, .unset, .unset, .unset, .unset, .unset] [(.ref s5), (.int (5 : Int32)), (.ref b1), (.ref b1)])) rfl rfl (hb hby at_40)
  have V13 : Arv Z h13 b1 k1 (.object "com/example/wirefold/wirefold/FieldType") (17 : Int32) [(.ref s0), (.ref s1), (.ref s2), (.ref s3), (.ref s4), (.ref s5), .null, .null, .null, .null, .null, .null, .null, .null, .null, .null, .null] .null := Arv.set Ar13 q13 Sz13 Nn13 Hh13 Gg13 rfl W13 5 rfl (Nat.le_of_ble_eq_true rfl)
  have f13_0 := f11_1.wr W13
  have f13_1 := f11_2.wr W13
  have f13_2 := f11_3.wr W13
  have f13_3 := f11_4.wr W13
  have f13_4 := f11_5.wr W13
  have f13_5 := f11_6.wr W13
  have f13_6 := f11_7.wr W13
  have f13_7 := f11_8.wr W13
  have f13_8 := f11_9.wr W13
  have f13_9 := f11_10.wr W13
  have f13_10 := f11_11.wr W13
  have f13_11 := f11_12.wr W13
  have f13_12 := f11_13.wr W13
  have f13_13 := f11_14.wr W13
  have f13_14 := f11_15.wr W13
  have f13_15 := f11_16.wr W13
  have f13_16 := f11_17.wr W13
  have f13_17 := f11_18.wr W13
  have f13_18 := f11_19.wr W13
  have f13_19 := f11_20.wr W13
  have f13_20 := f11_21.wr W13
  have f13_21 := f11_22.wr W13
  have f13_22 := f11_23.wr W13
  have f13_23 := f11_24.wr W13
  have f13_24 := f11_25.wr W13
  have f13_25 := f11_26.wr W13
  have f13_26 := f11_27.wr W13
  have f13_27 := f11_28.wr W13
  have Zs13 : n0 ≤ h13.size := Nat.le_trans Zs11 (Nat.le_of_eq W13.size.symm)
  have N13 := Fr.snoc X13 N11 gg1
  refine own_st st13 ?_
  show own_Goes p e below s (Q0 Z p1 p2 p3 p4 s0 s1 s2 s3 s4 s5 s6 s7 s8 s9 s10 s11 s12 s13 s14 s15 s16 h0 n0) 16 128 T13 (mkF m 41 #[iv p1, .val (.long p2), .second, .val (.long p3), .second, iv p4, .unset, .unset, .unset, .unset, .unset, .unset, .unset, .unset, .unset, .unset, .unset, .unset, .unset] [(.ref b1)])
  refine own_st (fun _ kk_ => XS.dup X13.here hx rfl (hb hby at_41) rfl rfl (XS.bipush X13.here hx rfl (hb hby at_42) kk_)) ?_
  show own_Goes p e below s (Q0 Z p1 p2 p3 p4 s0 s1 s2 s3 s4 s5 s6 s7 s8 s9 s10 s11 s12 s13 s14 s15 s16 h0 n0) 16 128 T13 (mkF m 44 #[iv p1, .val (.long p2), .second, .val (.long p3), .second, iv p4, .unset, .unset, .unset, .unset, .unset, .unset, .unset, .unset, .unset, .unset, .unset, .unset, .unset] [(.int (6 : Int32)), (.ref b1), (.ref b1)])
  obtain ⟨T14, X14, e14, st14⟩ := getS2 X13 hx hZ hown (host := "") (Or.inl (hw _ (List.mem_of_getElem? (i := 16) rfl))) Via.refl e13 f13_0 (g := (mkF m 44 #[iv p1, .val (.long p2), .second, .val (.long p3), .second, iv p4, .unset, .unset, .unset, .unset, .unset, .unset, .unset, .unset, .unset, .unset, .unset, .unset, .unset] [(.int (6 : Int32)), (.ref b1), (.ref b1)])) rfl (hb hby at_44)
  refine own_st st14 ?_
  show own_Goes p e below s (Q0 Z p1 p2 p3 p4 s0 s1 s2 s3 s4 s5 s6 s7 s8 s9 s10 s11 s12 s13 s14 s15 s16 h0 n0) 16 128 T14 (mkF m 47 #[iv p1, .val (.long p2), .second, .val (.long p3), .second, iv p4, .unset, .unset, .unset, .unset, .unset, .unset, .unset, .unset, .unset, .unset, .unset, .unset, .unset] [(.ref s6), (.int (6 : Int32)), (.ref b1), (.ref b1)])
  obtain ⟨cl15, Ar15, q15, Sz15, Nn15, Hh15, Gg15⟩ := V13
  obtain ⟨T15, h15, X15, e15, W15, st15⟩ := stR X14 hx hZ e14 Ar15 (j := (6 : Int32)) (inb_of Sz15 ⟨by decide, by decide⟩) rfl (Sto.ofV Ar15 q15 O1 (Ins.self f13_17)) (g := (mkF m 47 #[iv p1, .val (.long p2), .second, .val (.long p3), .second, iv p4, .unset, .unset, .unset, .unset, .unset, .unset, .unset, .unset, .unset, .unset, .unset, .unset, .unset] [(.ref s6), (.int (6 : Int32)), (.ref b1), (.ref b1)])) rfl rfl (hb hby at_47)
  have V15 : Arv Z h15 b1 k1 (.object "com/example/wirefold/wirefold/FieldType") (17 : Int32) [(.ref s0), (.ref s1), (.ref s2), (.ref s3), (.ref s4), (.ref s5), (.ref s6), .null, .null, .null, .null, .null, .null, .null, .null, .null, .null] .null := Arv.set Ar15 q15 Sz15 Nn15 Hh15 Gg15 rfl W15 6 rfl (Nat.le_of_ble_eq_true rfl)
  have f15_0 := f13_1.wr W15
  have f15_1 := f13_2.wr W15
  have f15_2 := f13_3.wr W15
  have f15_3 := f13_4.wr W15
  have f15_4 := f13_5.wr W15
  have f15_5 := f13_6.wr W15
  have f15_6 := f13_7.wr W15
  have f15_7 := f13_8.wr W15
  have f15_8 := f13_9.wr W15
  have f15_9 := f13_10.wr W15
  have f15_10 := f13_11.wr W15
  have f15_11 := f13_12.wr W15
  have f15_12 := f13_13.wr W15
  have f15_13 := f13_14.wr W15
  have f15_14 := f13_15.wr W15
  have f15_15 := f13_16.wr W15
  have f15_16 := f13_17.wr W15
  have f15_17 := f13_18.wr W15
  have f15_18 := f13_19.wr W15
  have f15_19 := f13_20.wr W15
  have f15_20 := f13_21.wr W15
  have f15_21 := f13_22.wr W15
  have f15_22 := f13_23.wr W15
  have f15_23 := f13_24.wr W15
  have f15_24 := f13_25.wr W15
  have f15_25 := f13_26.wr W15
  have f15_26 := f13_27.wr W15
  have Zs15 : n0 ≤ h15.size := Nat.le_trans Zs13 (Nat.le_of_eq W15.size.symm)
  have N15 := Fr.snoc X15 N13 gg1
  refine own_st st15 ?_
  show own_Goes p e below s (Q0 Z p1 p2 p3 p4 s0 s1 s2 s3 s4 s5 s6 s7 s8 s9 s10 s11 s12 s13 s14 s15 s16 h0 n0) 16 128 T15 (mkF m 48 #[iv p1, .val (.long p2), .second, .val (.long p3), .second, iv p4, .unset, .unset, .unset, .unset, .unset, .unset, .unset, .unset, .unset, .unset, .unset, .unset, .unset] [(.ref b1)])
  refine own_st (fun _ kk_ => XS.dup X15.here hx rfl (hb hby at_48) rfl rfl (XS.bipush X15.here hx rfl (hb hby at_49) kk_)) ?_
  show own_Goes p e below s (Q0 Z p1 p2 p3 p4 s0 s1 s2 s3 s4 s5 s6 s7 s8 s9 s10 s11 s12 s13 s14 s15 s16 h0 n0) 16 128 T15 (mkF m 51 #[iv p1, .val (.long p2), .second, .val (.long p3), .second, iv p4, .unset, .unset, .unset, .unset, .unset, .unset, .unset, .unset, .unset, .unset, .unset, .unset, .unset] [(.int (7 : Int32)), (.ref b1), (.ref b1)])
  obtain ⟨T16, X16, e16, st16⟩ := getS2 X15 hx hZ hown (host := "") (Or.inl (hw _ (List.mem_of_getElem? (i := 18) rfl))) Via.refl e15 f15_0 (g := (mkF m 51 #[iv p1, .val (.long p2), .second, .val (.long p3), .second, iv p4, .unset, .unset, .unset, .unset, .unset, .unset, .unset, .unset, .unset, .unset, .unset, .unset, .unset] [(.int (7 : Int32)), (.ref b1), (.ref b1)])) rfl (hb hby at_51)
  refine own_st st16 ?_
  show own_Goes p e below s (Q0 Z p1 p2 p3 p4 s0 s1 s2 s3 s4 s5 s6 s7 s8 s9 s10 s11 s12 s13 s14 s15 s16 h0 n0) 16 128 T16 (mkF m 54 #[iv p1, .val (.long p2), .second, .val (.long p3), .second, iv p4, .unset, .unset, .unset, .unset, .unset, .unset, .unset, .unset, .unset, .unset, .unset, .unset, .unset] [(.ref s7), (.int (7 : Int32)), (.ref b1), (.ref b1)])
  obtain ⟨cl17, Ar17, q17, Sz17, Nn17, Hh17, Gg17⟩ := V15
  obtain ⟨T17, h17, X17, e17, W17, st17⟩ := stR X16 hx hZ e16 Ar17 (j := (7 : Int32)) (inb_of Sz17 ⟨by decide, by decide⟩) rfl (Sto.ofV Ar17 q17 O1 (Ins.self f15_17)) (g := (mkF m 54 #[iv p1, .val (.long p2), .second, .val (.long p3), .second, iv p4, .unset, .unset, .unset, .unset, .unset, .unset, .unset, .unset, .unset, .unset, .unset, .unset, .unset] [(.ref s7), (.int (7 : Int32)), (.ref b1), (.ref b1)])) rfl rfl (hb hby at_54)
  have V17 : Arv Z h17 b1 k1 (.object "com/example/wirefold/wirefold/FieldType") (17 : Int32) [(.ref s0), (.ref s1), (.ref s2), (.ref s3), (.ref s4), (.ref s5), (.ref s6), (.ref s7), .null, .null, .null, .null, .null, .null, .null, .null, .null] .null := Arv.set Ar17 q17 Sz17 Nn17 Hh17 Gg17 rfl W17 7 rfl (Nat.le_of_ble_eq_true rfl)
  have f17_0 := f15_0.wr W17
  have f17_1 := f15_1.wr W17
  have f17_2 := f15_2.wr W17
  have f17_3 := f15_3.wr W17
  have f17_4 := f15_4.wr W17
  have f17_5 := f15_5.wr W17
  have f17_6 := f15_6.wr W17
  have f17_7 := f15_7.wr W17
  have f17_8 := f15_8.wr W17
  have f17_9 := f15_9.wr W17
  have f17_10 := f15_10.wr W17
  have f17_11 := f15_11.wr W17
  have f17_12 := f15_12.wr W17
  have f17_13 := f15_13.wr W17
  have f17_14 := f15_14.wr W17
  have f17_15 := f15_15.wr W17
  have f17_16 := f15_16.wr W17
  have f17_17 := f15_17.wr W17
  have f17_18 := f15_18.wr W17
  have f17_19 := f15_19.wr W17
  have f17_20 := f15_20.wr W17
  have f17_21 := f15_21.wr W17
  have f17_22 := f15_22.wr W17
  have f17_23 := f15_23.wr W17
  have f17_24 := f15_24.wr W17
  have f17_25 := f15_25.wr W17
  have f17_26 := f15_26.wr W17
  have Zs17 : n0 ≤ h17.size := Nat.le_trans Zs15 (Nat.le_of_eq W17.size.symm)
  have N17 := Fr.snoc X17 N15 gg1
  refine own_st st17 ?_
  show own_Goes p e below s (Q0 Z p1 p2 p3 p4 s0 s1 s2 s3 s4 s5 s6 s7 s8 s9 s10 s11 s12 s13 s14 s15 s16 h0 n0) 16 128 T17 (mkF m 55 #[iv p1, .val (.long p2), .second, .val (.long p3), .second, iv p4, .unset, .unset, .unset, .unset, .unset, .unset, .unset, .unset, .unset, .unset, .unset, .unset, .unset] [(.ref b1)])
  refine own_st (fun _ kk_ => XS.dup X17.here hx rfl (hb hby at_55) rfl rfl (XS.bipush X17.here hx rfl (hb hby at_56) kk_)) ?_
  show own_Goes p e below s (Q0 Z p1 p2 p3 p4 s0 s1 s2 s3 s4 s5 s6 s7 s8 s9 s10 s11 s12 s13 s14 s15 s16 h0 n0) 16 128 T17 (mkF m 58 #[iv p1, .val (.long p2), .second, .val (.long p3), .second, iv p4, .unset, .unset, .unset, .unset, .unset, .unset, .unset, .unset, .unset, .unset, .unset, .unset, .unset] [(.int (8 : Int32)), (.ref b1), (.ref b1)])
  obtain ⟨T18, X18, e18, st18⟩ := getS2 X17 hx hZ hown (host := "") (Or.inl (hw _ (List.mem_of_getElem? (i := 20) rfl))) Via.refl e17 f17_1 (g := (mkF m 58 #[iv p1, .val (.long p2), .second, .val (.long p3), .second, iv p4, .unset, .unset, .unset, .unset, .unset, .unset, .unset, .unset, .unset, .unset, .unset, .unset, .unset] [(.int (8 : Int32)), (.ref b1), (.ref b1)])) rfl (hb hby at_58)
  refine own_st st18 ?_
  show own_Goes p e below s (Q0 Z p1 p2 p3 p4 s0 s1 s2 s3 s4 s5 s6 s7 s8 s9 s10 s11 s12 s13 s14 s15 s16 h0 n0) 16 128 T18 (mkF m 61 #[iv p1, .val (.long p2), .second, .val (.long p3), .second, iv p4, .unset, .unset, .unset, .unset, .unset, .unset, .unset, .unset, .unset, .unset, .unset, .unset, .unset] [(.ref s8), (.int (8 : Int32)), (.ref b1), (.ref b1)])
  obtain ⟨cl19, Ar19, q19, Sz19, Nn19, Hh19, Gg19⟩ := V17
  obtain ⟨T19, h19, X19, e19, W19, st19⟩ := stR X18 hx hZ e18 Ar19 (j := (8 : Int32)) (inb_of Sz19 ⟨by decide, by decide⟩) rfl (Sto.ofV Ar19 q19 O1 (Ins.self f17_18)) (g := (mkF m 61 #[iv p1, .val (.long p2), .second, .val (.long p3), .second, iv p4, .unset, .unset, .unset, .unset, .unset, .unset, .unset, .unset, .unset, .unset, .unset, .unset, .unset] [(.ref s8), (.int (8 : Int32)), (.ref b1), (.ref b1)])) rfl rfl (hb hby at_61)
  have V19 : Arv Z h19 b1 k1 (.object "com/example/wirefold/wirefold/FieldType") (17 : Int32) [(.ref s0), (.ref s1), (.ref s2), (.ref s3), (.ref s4), (.ref s5), (.ref s6), (.ref s7), (.ref s8), .null, .null, .null, .null, .null, .null, .null, .null] .null := Arv.set Ar19 q19 Sz19 Nn19 Hh19 Gg19 rfl W19 8 rfl (Nat.le_of_ble_eq_true rfl)
  have f19_0 := f17_0.wr W19
  have f19_1 := f17_2.wr W19
  have f19_2 := f17_3.wr W19
  have f19_3 := f17_4.wr W19
  have f19_4 := f17_5.wr W19
  have f19_5 := f17_6.wr W19
  have f19_6 := f17_7.wr W19
  have f19_7 := f17_8.wr W19
  have f19_8 := f17_9.wr W19
  have f19_9 := f17_10.wr W19
  have f19_10 := f17_11.wr W19
  have f19_11 := f17_12.wr W19
  have f19_12 := f17_13.wr W19
  have f19_13 := f17_14.wr W19
  have f19_14 := f17_15.wr W19
  have f19_15 := f17_16.wr W19
  have f19_16 := f17_17.wr W19
  have f19_17 := f17_18.wr W19
  have f19_18 := f17_19.wr W19
  have f19_19 := f17_20.wr W19
  have f19_20 := f17_21.wr W19
  have f19_21 := f17_22.wr W19
  have f19_22 := f17_23.wr W19
  have f19_23 := f17_24.wr W19
  have f19_24 := f17_25.wr W19
  have f19_25 := f17_26.wr W19
  have Zs19 : n0 ≤ h19.size := Nat.le_trans Zs17 (Nat.le_of_eq W19.size.symm)
  have N19 := Fr.snoc X19 N17 gg1
  refine own_st st19 ?_
  show own_Goes p e below s (Q0 Z p1 p2 p3 p4 s0 s1 s2 s3 s4 s5 s6 s7 s8 s9 s10 s11 s12 s13 s14 s15 s16 h0 n0) 16 128 T19 (mkF m 62 #[iv p1, .val (.long p2), .second, .val (.long p3), .second, iv p4, .unset, .unset, .unset, .unset, .unset, .unset, .unset, .unset, .unset, .unset, .unset, .unset, .unset] [(.ref b1)])
  refine own_st (fun _ kk_ => XS.dup X19.here hx rfl (hb hby at_62) rfl rfl (XS.bipush X19.here hx rfl (hb hby at_63) kk_)) ?_
  show own_Goes p e below s (Q0 Z p1 p2 p3 p4 s0 s1 s2 s3 s4 s5 s6 s7 s8 s9 s10 s11 s12 s13 s14 s15 s16 h0 n0) 16 128 T19 (mkF m 65 #[iv p1, .val (.long p2), .second, .val (.long p3), .second, iv p4, .unset, .unset, .unset, .unset, .unset, .unset, .unset, .unset, .unset, .unset, .unset, .unset, .unset] [(.int (9 : Int32)), (.ref b1), (.ref b1)])
  obtain ⟨T20, X20, e20, st20⟩ := getS2 X19 hx hZ hown (host := "") (Or.inl (hw _ (List.mem_of_getElem? (i := 22) rfl))) Via.refl e19 f19_1 (g := (mkF m 65 #[iv p1, .val (.long p2), .second, .val (.long p3), .second, iv p4, .unset, .unset, .unset, .unset, .unset, .unset, .unset, .unset, .unset, .unset, .unset, .unset, .unset] [(.int (9 : Int32)), (.ref b1), (.ref b1)])) rfl (hb hby at_65)
  refine own_st st20 ?_
  show own_Goes p e below s (Q0 Z p1 p2 p3 p4 s0 s1 s2 s3 s4 s5 s6 s7 s8 s9 s10 s11 s12 s13 s14 s15 s16 h0 n0) 16 128 T20 (mkF m 68 #[iv p1, .val (.long p2), .second, .val (.long p3), .second, iv p4, .unset, .unset, .unset, .unset, .unset, .unset, .unset, .unset, .unset, .unset, .unset, .unset, .unset] [(.ref s9), (.int (9 : Int32)), (.ref b1), (.ref b1)])
  obtain ⟨cl21, Ar21, q21, Sz21, Nn21, Hh21, Gg21⟩ := V19
  obtain ⟨T21, h21, X21, e21, W21, st21⟩ := stR X20 hx hZ e20 Ar21 (j := (9 : Int32)) (inb_of Sz21 ⟨by decide, by decide⟩) rfl (Sto.ofV Ar21 q21 O1 (Ins.self f19_18)) (g := (mkF m 68 #[iv p1, .val (.long p2), .second, .val (.long p3), .second, iv p4, .unset, .unset, .unset, .unset, .unset, .unset, .unset, .unset, .unset, .unset, .unset, .unset, .unset] [(.ref s9), (.int (9 : Int32)), (.ref b1), (.ref b1)])) rfl rfl (hb hby at_68)
  have V21 : Arv Z h21 b1 k1 (.object "com/example/wirefold/wirefold/FieldType") (17 : Int32) [(.ref s0), (.ref s1), (.ref s2), (.ref s3), (.ref s4), (.ref s5), (.ref s6), (.ref s7), (.ref s8), (.ref s9), .null, .null, .null, .null, .null, .null, .null] .null := Arv.set Ar21 q21 Sz21 Nn21 Hh21 Gg21 rfl W21 9 rfl (Nat.le_of_ble_eq_true rfl)
  have f21_0 := f19_0.wr W21
  have f21_1 := f19_2.wr W21
  have f21_2 := f19_3.wr W21
  have f21_3 := f19_4.wr W21
  have f21_4 := f19_5.wr W21
  have f21_5 := f19_6.wr W21
  have f21_6 := f19_7.wr W21
  have f21_7 := f19_8.wr W21
  have f21_8 := f19_9.wr W21
  have f21_9 := f19_10.wr W21
  have f21_10 := f19_11.wr W21
  have f21_11 := f19_12.wr W21
  have f21_12 := f19_13.wr W21
  have f21_13 := f19_14.wr W21
  have f21_14 := f19_15.wr W21
  have f21_15 := f19_16.wr W21
  have f21_16 := f19_17.wr W21
  have f21_17 := f19_18.wr W21
  have f21_18 := f19_19.wr W21
  have f21_19 := f19_20.wr W21
  have f21_20 := f19_21.wr W21
  have f21_21 := f19_22.wr W21
  have f21_22 := f19_23.wr W21
  have f21_23 := f19_24.wr W21
  have f21_24 := f19_25.wr W21
  have Zs21 : n0 ≤ h21.size := Nat.le_trans Zs19 (Nat.le_of_eq W21.size.symm)
  have N21 := Fr.snoc X21 N19 gg1
  refine own_st st21 ?_
  show own_Goes p e below s (Q0 Z p1 p2 p3 p4 s0 s1 s2 s3 s4 s5 s6 s7 s8 s9 s10 s11 s12 s13 s14 s15 s16 h0 n0) 16 128 T21 (mkF m 69 #[iv p1, .val (.long p2), .second, .val (.long p3), .second, iv p4, .unset, .unset, .unset, .unset, .unset, .unset, .unset, .unset, .unset, .unset, .unset, .unset, .unset] [(.ref b1)])
  refine own_st (fun _ kk_ => XS.dup X21.here hx rfl (hb hby at_69) rfl rfl (XS.bipush X21.here hx rfl (hb hby at_70) kk_)) ?_
  show own_Goes p e below s (Q0 Z p1 p2 p3 p4 s0 s1 s2 s3 s4 s5 s6 s7 s8 s9 s10 s11 s12 s13 s14 s15 s16 h0 n0) 16 128 T21 (mkF m 72 #[iv p1, .val (.long p2), .second, .val (.long p3), .second, iv p4, .unset, .unset, .unset, .unset, .unset, .unset, .unset, .unset, .unset, .unset, .unset, .unset, .unset] [(.int (10 : Int32)), (.ref b1), (.ref b1)])
  obtain ⟨T22, X22, e22, st22⟩ := getS2 X21 hx hZ hown (host := "") (Or.inl (hw _ (List.mem_of_getElem? (i := 24) rfl))) Via.refl e21 f21_1 (g := (mkF m 72 #[iv p1, .val (.long p2), .second, .val (.long p3), .second, iv p4, .unset, .unset, .unset, .unset, .unset, .unset, .unset, .unset, .unset, .unset, .unset, .unset, .unset] [(.int (10 : Int32)), (.ref b1), (.ref b1)])) rfl (hb hby at_72)
  refine own_st st22 ?_
  show own_Goes p e below s (Q0 Z p1 p2 p3 p4 s0 s1 s2 s3 s4 s5 s6 s7 s8 s9 s10 s11 s12 s13 s14 s15 s16 h0 n0) 16 128 T22 (mkF m 75 #[iv p1, .val (.long p2), .second, .val (.long p3), .second, iv p4, .unset, .unset, .unset, .unset, .unset, .unset, .unset, .unset, .unset, .unset, .unset, .unset, .unset] [(.ref s10), (.int (10 : Int32)), (.ref b1), (.ref b1)])
  obtain ⟨cl23, Ar23, q23, Sz23, Nn23, Hh23, Gg23⟩ := V21
  obtain ⟨T23, h23, X23, e23, W23, st23⟩ := stR X22 hx hZ e22 Ar23 (j := (10 : Int32)) (inb_of Sz23 ⟨by decide, by decide⟩) rfl (Sto.ofV Ar23 q23 O1 (Ins.self f21_18)) (g := (mkF m 75 #[iv p1, .val (.long p2), .second, .val (.long p3), .second, iv p4, .unset, .unset, .unset, .unset, .unset, .unset, .unset, .unset, .unset, .unset, .unset, .unset, .unset] [(.ref s10), (.int (10 : Int32)), (.ref b1), (.ref b1)])) rfl rfl (hb hby at_75)
  have V23 : Arv Z h23 b1 k1 (.object "com/example/wirefold/wirefold/FieldType") (17 : Int32) [(.ref s0), (.ref s1), (.ref s2), (.ref s3), (.ref s4), (.ref s5), (.ref s6), (.ref s7), (.ref s8), (.ref s9), (.ref s10), .null, .null, .null, .null, .null, .null] .null := Arv.set Ar23 q23 Sz23 Nn23 Hh23 Gg23 rfl W23 10 rfl (Nat.le_of_ble_eq_true rfl)
  have f23_0 := f21_0.wr W23
  have f23_1 := f21_2.wr W23
  have f23_2 := f21_3.wr W23
  have f23_3 := f21_4.wr W23
  have f23_4 := f21_5.wr W23
  have f23_5 := f21_6.wr W23
  have f23_6 := f21_7.wr W23
  have f23_7 := f21_8.wr W23
  have f23_8 := f21_9.wr W23
  have f23_9 := f21_10.wr W23
  have f23_10 := f21_11.wr W23
  have f23_11 := f21_12.wr W23
  have f23_12 := f21_13.wr W23
  have f23_13 := f21_14.wr W23
  have f23_14 := f21_15.wr W23
  have f23_15 := f21_16.wr W23
  have f23_16 := f21_17.wr W23
  have f23_17 := f21_18.wr W23
  have f23_18 := f21_19.wr W23
  have f23_19 := f21_20.wr W23
  have f23_20 := f21_21.wr W23
  have f23_21 := f21_22.wr W23
  have f23_22 := f21_23.wr W23
  have f23_23 := f21_24.wr W23
  have Zs23 : n0 ≤ h23.size := Nat.le_trans Zs21 (Nat.le_of_eq W23.size.symm)
  have N23 := Fr.snoc X23 N21 gg1
  refine own_st st23 ?_
  show own_Goes p e below s (Q0 Z p1 p2 p3 p4 s0 s1 s2 s3 s4 s5 s6 s7 s8 s9 s10 s11 s12 s13 s14 s15 s16 h0 n0) 16 128 T23 (mkF m 76 #[iv p1, .val (.long p2), .second, .val (.long p3), .second, iv p4, .unset, .unset, .unset, .unset, .unset, .unset, .unset, .unset, .unset, .unset, .unset, .unset, .unset] [(.ref b1)])
  refine own_st (fun _ kk_ => XS.dup X23.here hx rfl (hb hby at_76) rfl rfl (XS.bipush X23.here hx rfl (hb hby at_77) kk_)) ?_
  show own_Goes p e below s (Q0 Z p1 p2 p3 p4 s0 s1 s2 s3 s4 s5 s6 s7 s8 s9 s10 s11 s12 s13 s14 s15 s16 h0 n0) 16 128 T23 (mkF m 79 #[iv p1, .val (.long p2), .second, .val (.long p3), .second, iv p4, .unset, .unset, .unset, .unset, .unset, .unset, .unset, .unset, .unset, .unset, .unset, .unset, .unset] [(.int (11 : Int32)), (.ref b1), (.ref b1)])
  obtain ⟨T24, X24, e24, st24⟩ := getS2 X23 hx hZ hown (host := "") (Or.inl (hw _ (List.mem_of_getElem? (i := 26) rfl))) Via.refl e23 f23_1 (g := (mkF m 79 #[iv p1, .val (.long p2), .second, .val (.long p3), .second, iv p4, .unset, .unset, .unset, .unset, .unset, .unset, .unset, .unset, .unset, .unset, .unset, .unset, .unset] [(.int (11 : Int32)), (.ref b1), (.ref b1)])) rfl (hb hby at_79)
  refine own_st st24 ?_
  show own_Goes p e below s (Q0 Z p1 p2 p3 p4 s0 s1 s2 s3 s4 s5 s6 s7 s8 s9 s10 s11 s12 s13 s14 s15 s16 h0 n0) 16 128 T24 (mkF m 82 #[iv p1, .val (.long p2), .second, .val (.long p3), .second, iv p4, .unset, .unset, .unset, .unset, .unset, .unset, .unset, .unset, .unset, .unset, .unset, .unset, .unset] [(.ref s11), (.int (11 : Int32)), (.ref b1), (.ref b1)])
  obtain ⟨cl25, Ar25, q25, Sz25, Nn25, Hh25, Gg25⟩ := V23
  obtain ⟨T25, h25, X25, e25, W25, st25⟩ := stR X24 hx hZ e24 Ar25 (j := (11 : Int32)) (inb_of Sz25 ⟨by decide, by decide⟩) rfl (Sto.ofV Ar25 q25 O1 (Ins.self f23_18)) (g := (mkF m 82 #[iv p1, .val (.long p2), .second, .val (.long p3), .second, iv p4, .unset, .unset, .unset, .unset, .unset, .unset, .unset, .unset, .unset, .unset, .unset, .unset, .unset] [(.ref s11), (.int (11 : Int32)), (.ref b1), (.ref b1)])) rfl rfl (hb hby at_82)
  have V25 : Arv Z h25 b1 k1 (.object "com/example/wirefold/wirefold/FieldType") (17 : Int32) [(.ref s0), (.ref s1), (.ref s2), (.ref s3), (.ref s4), (.ref s5), (.ref s6), (.ref s7), (.ref s8), (.ref s9), (.ref s10), (.ref s11), .null, .null, .null, .null, .null] .null := Arv.set Ar25 q25 Sz25 Nn25 Hh25 Gg25 rfl W25 11 rfl (Nat.le_of_ble_eq_true rfl)
  have f25_0 := f23_0.wr W25
  have f25_1 := f23_2.wr W25
  have f25_2 := f23_3.wr W25
  have f25_3 := f23_4.wr W25
  have f25_4 := f23_5.wr W25
  have f25_5 := f23_6.wr W25
  have f25_6 := f23_7.wr W25
  have f25_7 := f23_8.wr W25
  have f25_8 := f23_9.wr W25
  have f25_9 := f23_10.wr W25
  have f25_10 := f23_11.wr W25
  have f25_11 := f23_12.wr W25
  have f25_12 := f23_13.wr W25
  have f25_13 := f23_14.wr W25
  have f25_14 := f23_15.wr W25
  have f25_15 := f23_16.wr W25
  have f25_16 := f23_17.wr W25
  have f25_17 := f23_18.wr W25
  have f25_18 := f23_19.wr W25
  have f25_19 := f23_20.wr W25
  have f25_20 := f23_21.wr W25
  have f25_21 := f23_22.wr W25
  have f25_22 := f23_23.wr W25
  have Zs25 : n0 ≤ h25.size := Nat.le_trans Zs23 (Nat.le_of_eq W25.size.symm)
  have N25 := Fr.snoc X25 N23 gg1
  refine own_st st25 ?_
  show own_Goes p e below s (Q0 Z p1 p2 p3 p4 s0 s1 s2 s3 s4 s5 s6 s7 s8 s9 s10 s11 s12 s13 s14 s15 s16 h0 n0) 16 128 T25 (mkF m 83 #[iv p1, .val (.long p2), .second, .val (.long p3), .second, iv p4, .unset, .unset, .unset, .unset, .unset, .unset, .unset, .unset, .unset, .unset, .unset, .unset, .unset] [(.ref b1)])
  refine own_st (fun _ kk_ => XS.dup X25.here hx rfl (hb hby at_83) rfl rfl (XS.bipush X25.here hx rfl (hb hby at_84) kk_)) ?_
  show own_Goes p e below s (Q0 Z p1 p2 p3 p4 s0 s1 s2 s3 s4 s5 s6 s7 s8 s9 s10 s11 s12 s13 s14 s15 s16 h0 n0) 16 128 T25 (mkF m 86 #[iv p1, .val (.long p2), .second, .val (.long p3), .second, iv p4, .unset, .unset, .unset, .unset, .unset, .unset, .unset, .unset, .unset, .unset, .unset, .unset, .unset] [(.int (12 : Int32)), (.ref b1), (.ref b1)])
  obtain ⟨T26, X26, e26, st26⟩ := getS2 X25 hx hZ hown (host := "") (Or.inl (hw _ (List.mem_of_getElem? (i := 28) rfl))) Via.refl e25 f25_1 (g := (mkF m 86 #[iv p1, .val (.long p2), .second, .val (.long p3), .second, iv p4, .unset, .unset, .unset, .unset, .unset, .unset, .unset, .unset, .unset, .unset, .unset, .unset, .unset] [(.int (12 : Int32)), (.ref b1), (.ref b1)])) rfl (hb hby at_86)
  refine own_st st26 ?_
  show own_Goes p e below s (Q0 Z p1 p2 p3 p4 s0 s1 s2 s3 s4 s5 s6 s7 s8 s9 s10 s11 s12 s13 s14 s15 s16 h0 n0) 16 128 T26 (mkF m 89 #[iv p1, .val (.long p2), .second, .val (.long p3), .second, iv p4, .unset, .unset, .unset, .unset, .unset, .unset, .unset, .unset, .unset, .unset, .unset, .unset, .unset] [(.ref s12), (.int (12 : Int32)), (.ref b1), (.ref b1)])
  obtain ⟨cl27, Ar27, q27, Sz27, Nn27, Hh27, Gg27⟩ := V25
  obtain ⟨T27, h27, X27, e27, W27, st27⟩ := stR X26 hx hZ e26 Ar27 (j := (12 : Int32)) (inb_of Sz27 ⟨by decide, by decide⟩) rfl (Sto.ofV Ar27 q27 O1 (Ins.self f25_18)) (g := (mkF m 89 #[iv p1, .val (.long p2), .second, .val (.long p3), .second, iv p4, .unset, .unset, .unset, .unset, .unset, .unset, .unset, .unset, .unset, .unset, .unset, .unset, .unset] [(.ref s12), (.int (12 : Int32)), (.ref b1), (.ref b1)])) rfl rfl (hb hby at_89)
  have V27 : Arv Z h27 b1 k1 (.object "com/example/wirefold/wirefold/FieldType") (17 : Int32) [(.ref s0), (.ref s1), (.ref s2), (.ref s3), (.ref s4), (.ref s5), (.ref s6), (.ref s7), (.ref s8), (.ref s9), (.ref s10), (.ref s11), (.ref s12), .null, .null, .null, .null] .null := Arv.set Ar27 q27 Sz27 Nn27 Hh27 Gg27 rfl W27 12 rfl (Nat.le_of_ble_eq_true rfl)
  have f27_0 := f25_0.wr W27
  have f27_1 := f25_2.wr W27
  have f27_2 := f25_3.wr W27
  have f27_3 := f25_4.wr W27
  have f27_4 := f25_5.wr W27
  have f27_5 := f25_6.wr W27
  have f27_6 := f25_7.wr W27
  have f27_7 := f25_8.wr W27
  have f27_8 := f25_9.wr W27
  have f27_9 := f25_10.wr W27
  have f27_10 := f25_11.wr W27
  have f27_11 := f25_12.wr W27
  have f27_12 := f25_13.wr W27
  have f27_13 := f25_14.wr W27
  have f27_14 := f25_15.wr W27
  have f27_15 := f25_16.wr W27
  have f27_16 := f25_17.wr W27
  have f27_17 := f25_18.wr W27
  have f27_18 := f25_19.wr W27
  have f27_19 := f25_20.wr W27
  have f27_20 := f25_21.wr W27
  have f27_21 := f25_22.wr W27
  have Zs27 : n0 ≤ h27.size := Nat.le_trans Zs25 (Nat.le_of_eq W27.size.symm)
  have N27 := Fr.snoc X27 N25 gg1
  refine own_st st27 ?_
  show own_Goes p e below s (Q0 Z p1 p2 p3 p4 s0 s1 s2 s3 s4 s5 s6 s7 s8 s9 s10 s11 s12 s13 s14 s15 s16 h0 n0) 16 128 T27 (mkF m 90 #[iv p1, .val (.long p2), .second, .val (.long p3), .second, iv p4, .unset, .unset, .unset, .unset, .unset, .unset, .unset, .unset, .unset, .unset, .unset, .unset, .unset] [(.ref b1)])
  refine own_st (fun _ kk_ => XS.dup X27.here hx rfl (hb hby at_90) rfl rfl (XS.bipush X27.here hx rfl (hb hby at_91) kk_)) ?_
  show own_Goes p e below s (Q0 Z p1 p2 p3 p4 s0 s1 s2 s3 s4 s5 s6 s7 s8 s9 s10 s11 s12 s13 s14 s15 s16 h0 n0) 16 128 T27 (mkF m 93 #[iv p1, .val (.long p2), .second, .val (.long p3), .second, iv p4, .unset, .unset, .unset, .unset, .unset, .unset, .unset, .unset, .unset, .unset, .unset, .unset, .unset] [(.int (13 : Int32)), (.ref b1), (.ref b1)])
  obtain ⟨T28, X28, e28, st28⟩ := getS2 X27 hx hZ hown (host := "") (Or.inl (hw _ (List.mem_of_getElem? (i := 30) rfl))) Via.refl e27 f27_1 (g := (mkF m 93 #[iv p1, .val (.long p2), .second, .val (.long p3), .second, iv p4, .unset, .unset, .unset, .unset, .unset, .unset, .unset, .unset, .unset, .unset, .unset, .unset, .unset] [(.int (13 : Int32)), (.ref b1), (.ref b1)])) rfl (hb hby at_93)
  refine own_st st28 ?_
  show own_Goes p e below s (Q0 Z p1 p2 p3 p4 s0 s1 s2 s3 s4 s5 s6 s7 s8 s9 s10 s11 s12 s13 s14 s15 s16 h0 n0) 16 128 T28 (mkF m 96 #[iv p1, .val (.long p2), .second, .val (.long p3), .second, iv p4, .unset, .unset, .unset, .unset, .unset, .unset, .unset, .unset, .unset, .unset, .unset, .unset, .unset] [(.ref s13), (.int (13 : Int32)), (.ref b1), (.ref b1)])
  obtain ⟨cl29, Ar29, q29, Sz29, Nn29, Hh29, Gg29⟩ := V27
  obtain ⟨T29, h29, X29, e29, W29, st29⟩ := stR X28 hx hZ e28 Ar29 (j := (13 : Int32)) (inb_of Sz29 ⟨by decide, by decide⟩) rfl (Sto.ofV Ar29 q29 O1 (Ins.self f27_18)) (g := (mkF m 96 #[iv p1, .val (.long p2), .second, .val (.long p3), .second, iv p4, .unset, .unset, .unset, .unset, .unset, .unset, .unset, .unset, .unset, .unset, .unset, .unset, .unset] [(.ref s13), (.int (13 : Int32)), (.ref b1), (.ref b1)])) rfl rfl (hb hby at_96)
  have V29 : Arv Z h29 b1 k1 (.object "com/example/wirefold/wirefold/FieldType") (17 : Int32) [(.ref s0), (.ref s1), (.ref s2), (.ref s3), (.ref s4), (.ref s5), (.ref s6), (.ref s7), (.ref s8), (.ref s9), (.ref s10), (.ref s11), (.ref s12), (.ref s13), .null, .null, .null] .null := Arv.set Ar29 q29 Sz29 Nn29 Hh29 Gg29 rfl W29 13 rfl (Nat.le_of_ble_eq_true rfl)
  have f29_0 := f27_0.wr W29
  have f29_1 := f27_2.wr W29
  have f29_2 := f27_3.wr W29
  have f29_3 := f27_4.wr W29
  have f29_4 := f27_5.wr W29
  have f29_5 := f27_6.wr W29
  have f29_6 := f27_7.wr W29
  have f29_7 := f27_8.wr W29
  have f29_8 := f27_9.wr W29
  have f29_9 := f27_10.wr W29
  have f29_10 := f27_11.wr W29
  have f29_11 := f27_12.wr W29
  have f29_12 := f27_13.wr W29
  have f29_13 := f27_14.wr W29
  have f29_14 := f27_15.wr W29
  have f29_15 := f27_16.wr W29
  have f29_16 := f27_17.wr W29
  have f29_17 := f27_18.wr W29
  have f29_18 := f27_19.wr W29
  have f29_19 := f27_20.wr W29
  have f29_20 := f27_21.wr W29
  have Zs29 : n0 ≤ h29.size := Nat.le_trans Zs27 (Nat.le_of_eq W29.size.symm)
  have N29 := Fr.snoc X29 N27 gg1
  refine own_st st29 ?_
  show own_Goes p e below s (Q0 Z p1 p2 p3 p4 s0 s1 s2 s3 s4 s5 s6 s7 s8 s9 s10 s11 s12 s13 s14 s15 s16 h0 n0) 16 128 T29 (mkF m 97 #[iv p1, .val (.long p2), .second, .val (.long p3), .second, iv p4, .unset, .unset, .unset, .unset, .unset, .unset, .unset, .unset, .unset, .unset, .unset, .unset, .unset] [(.ref b1)])
  refine own_st (fun _ kk_ => XS.dup X29.here hx rfl (hb hby at_97) rfl rfl (XS.bipush X29.here hx rfl (hb hby at_98) kk_)) ?_
  show own_Goes p e below s (Q0 Z p1 p2 p3 p4 s0 s1 s2 s3 s4 s5 s6 s7 s8 s9 s10 s11 s12 s13 s14 s15 s16 h0 n0) 16 128 T29 (mkF m 100 #[iv p1, .val (.long p2), .second, .val (.long p3), .second, iv p4, .unset, .unset, .unset, .unset, .unset, .unset, .unset, .unset, .unset, .unset, .unset, .unset, .unset] [(.int (14 : Int32)), (.ref b1), (.ref b1)])
  obtain ⟨T30, X30, e30, st30⟩ := getS2 X29 hx hZ hown (host := "") (Or.inl (hw _ (List.mem_of_getElem? (i := 32) rfl))) Via.refl e29 f29_1 (g := (mkF m 100 #[iv p1, .val (.long p2), .second, .val (.long p3), .second, iv p4, .unset, .unset, .unset, .unset, .unset, .unset, .unset, .unset, .unset, .unset, .unset, .unset, .unset] [(.int (14 : Int32)), (.ref b1), (.ref b1)])) rfl (hb hby at_100)
  refine own_st st30 ?_
  show own_Goes p e below s (Q0 Z p1 p2 p3 p4 s0 s1 s2 s3 s4 s5 s6 s7 s8 s9 s10 s11 s12 s13 s14 s15 s16 h0 n0) 16 128 T30 (mkF m 103 #[iv p1, .val (.long p2), .second, .val (.long p3), .second, iv p4, .unset, .unset, .unset, .unset, .unset, .unset, .unset, .unset, .unset, .unset, .unset, .unset, .unset] [(.ref s14), (.int (14 : Int32)), (.ref b1), (.ref b1)])
  obtain ⟨cl31, Ar31, q31, Sz31, Nn31, Hh31, Gg31⟩ := V29
  obtain ⟨T31, h31, X31, e31, W31, st31⟩ := stR X30 hx hZ e30 Ar31 (j := (14 : Int32)) (inb_of Sz31 ⟨by decide, by decide⟩) rfl (Sto.ofV Ar31 q31 O1 (Ins.self f29_18)) (g := (mkF m 103 #[iv p1, .val (.long p2), .second, .val (.long p3), .second, iv p4, .unset, .unset, .unset, .unset, .unset, .unset, .unset, .unset, .unset, .unset, .unset, .unset, .unset] [(.ref s14), (.int (14 : Int32)), (.ref b1), (.ref b1)])) rfl rfl (hb hby at_103)
  have V31 : Arv Z h31 b1 k1 (.object "com/example/wirefold/wirefold/FieldType") (17 : Int32) [(.ref s0), (.ref s1), (.ref s2), (.ref s3), (.ref s4), (.ref s5), (.ref s6), (.ref s7), (.ref s8), (.ref s9), (.ref s10), (.ref s11), (.ref s12), (.ref s13), (.ref s14), .null, .null] .null := Arv.set Ar31 q31 Sz31 Nn31 Hh31 Gg31 rfl W31 14 rfl (Nat.le_of_ble_eq_true rfl)
  have f31_0 := f29_0.wr W31
  have f31_1 := f29_2.wr W31
  have f31_2 := f29_3.wr W31
  have f31_3 := f29_4.wr W31
  have f31_4 := f29_5.wr W31
  have f31_5 := f29_6.wr W31
  have f31_6 := f29_7.wr W31
  have f31_7 := f29_8.wr W31
  have f31_8 := f29_9.wr W31
  have f31_9 := f29_10.wr W31
  have f31_10 := f29_11.wr W31
  have f31_11 := f29_12.wr W31
  have f31_12 := f29_13.wr W31
  have f31_13 := f29_14.wr W31
  have f31_14 := f29_15.wr W31
  have f31_15 := f29_16.wr W31
  have f31_16 := f29_17.wr W31
  have f31_17 := f29_18.wr W31
  have f31_18 := f29_19.wr W31
  have f31_19 := f29_20.wr W31
  have Zs31 : n0 ≤ h31.size := Nat.le_trans Zs29 (Nat.le_of_eq W31.size.symm)
  have N31 := Fr.snoc X31 N29 gg1
  refine own_st st31 ?_
  show own_Goes p e below s (Q0 Z p1 p2 p3 p4 s0 s1 s2 s3 s4 s5 s6 s7 s8 s9 s10 s11 s12 s13 s14 s15 s16 h0 n0) 16 128 T31 (mkF m 104 #[iv p1, .val (.long p2), .second, .val (.long p3), .second, iv p4, .unset, .unset, .unset, .unset, .unset, .unset, .unset, .unset, .unset, .unset, .unset, .unset, .unset] [(.ref b1)])
  refine own_st (fun _ kk_ => XS.dup X31.here hx rfl (hb hby at_104) rfl rfl (XS.bipush X31.here hx rfl (hb hby at_105) kk_)) ?_
  show own_Goes p e below s (Q0 Z p1 p2 p3 p4 s0 s1 s2 s3 s4 s5 s6 s7 s8 s9 s10 s11 s12 s13 s14 s15 s16 h0 n0) 16 128 T31 (mkF m 107 #[iv p1, .val (.long p2), .second, .val (.long p3), .second, iv p4, .unset, .unset, .unset, .unset, .unset, .unset, .unset, .unset, .unset, .unset, .unset, .unset, .unset] [(.int (15 : Int32)), (.ref b1), (.ref b1)])
  obtain ⟨T32, X32, e32, st32⟩ := getS2 X31 hx hZ hown (host := "") (Or.inl (hw _ (List.mem_of_getElem? (i := 34) rfl))) Via.refl e31 f31_1 (g := (mkF m 107 #[iv p1, .val (.long p2), .second, .val (.long p3), .second, iv p4, .unset, .unset, .unset, .unset, .unset, .unset, .unset, .unset, .unset, .unset, .unset, .unset, .unset] [(.int (15 : Int32)), (.ref b1), (.ref b1)])) rfl (hb hby at_107)
  refine own_st st32 ?_
  show own_Goes p e below s (Q0 Z p1 p2 p3 p4 s0 s1 s2 s3 s4 s5 s6 s7 s8 s9 s10 s11 s12 s13 s14 s15 s16 h0 n0) 16 128 T32 (mkF m 110 #[iv p1, .val (.long p2), .second, .val (.long p3), .second, iv p4, .unset, .unset, .unset, .unset, .unset, .unset, .unset, .unset, .unset, .unset, .unset, .unset, .unset] [(.ref s15), (.int (15 : Int32)), (.ref b1), (.ref b1)])
  obtain ⟨cl33, Ar33, q33, Sz33, Nn33, Hh33, Gg33⟩ := V31
  obtain ⟨T33, h33, X33, e33, W33, st33⟩ := stR X32 hx hZ e32 Ar33 (j := (15 : Int32)) (inb_of Sz33 ⟨by decide, by decide⟩) rfl (Sto.ofV Ar33 q33 O1 (Ins.self f31_18)) (g := (mkF m 110 #[iv p1, .val (.long p2), .second, .val (.long p3), .second, iv p4, .unset, .unset, .unset, .unset, .unset, .unset, .unset, .unset, .unset, .unset, .unset, .unset, .unset] [(.ref s15), (.int (15 : Int32)), (.ref b1), (.ref b1)])) rfl rfl (hb hby at_110)
  have V33 : Arv Z h33 b1 k1 (.object "com/example/wirefold/wirefold/FieldType") (17 : Int32) [(.ref s0), (.ref s1), (.ref s2), (.ref s3), (.ref s4), (.ref s5), (.ref s6), (.ref s7), (.ref s8), (.ref s9), (.ref s10), (.ref s11), (.ref s12), (.ref s13), (.ref s14), (.ref s15), .null] .null := Arv.set Ar33 q33 Sz33 Nn33 Hh33 Gg33 rfl W33 15 rfl (Nat.le_of_ble_eq_true rfl)
  have f33_0 := f31_0.wr W33
  have f33_1 := f31_2.wr W33
  have f33_2 := f31_3.wr W33
  have f33_3 := f31_4.wr W33
  have f33_4 := f31_5.wr W33
  have f33_5 := f31_6.wr W33
  have f33_6 := f31_7.wr W33
  have f33_7 := f31_8.wr W33
  have f33_8 := f31_9.wr W33
  have f33_9 := f31_10.wr W33
  have f33_10 := f31_11.wr W33
  have f33_11 := f31_12.wr W33
  have f33_12 := f31_13.wr W33
  have f33_13 := f31_14.wr W33
  have f33_14 := f31_15.wr W33
  have f33_15 := f31_16.wr W33
  have f33_16 := f31_17.wr W33
  have f33_17 := f31_18.wr W33
  have f33_18 := f31_19.wr W33
  have Zs33 : n0 ≤ h33.size := Nat.le_trans Zs31 (Nat.le_of_eq W33.size.symm)
  have N33 := Fr.snoc X33 N31 gg1
  refine own_st st33 ?_
  show own_Goes p e below s (Q0 Z p1 p2 p3 p4 s0 s1 s2 s3 s4 s5 s6 s7 s8 s9 s10 s11 s12 s13 s14 s15 s16 h0 n0) 16 128 T33 (mkF m 111 #[iv p1, .val (.long p2), .second, .val (.long p3), .second, iv p4, .unset, .unset, .unset, .unset, .unset, .unset, .unset, .unset, .unset, .unset, .unset, .unset, .unset] [(.ref b1)])
  refine own_st (fun _ kk_ => XS.dup X33.here hx rfl (hb hby at_111) rfl rfl (XS.bipush X33.here hx rfl (hb hby at_112) kk_)) ?_
  show own_Goes p e below s (Q0 Z p1 p2 p3 p4 s0 s1 s2 s3 s4 s5 s6 s7 s8 s9 s10 s11 s12 s13 s14 s15 s16 h0 n0) 16 128 T33 (mkF m 114 #[iv p1, .val (.long p2), .second, .val (.long p3), .second, iv p4, .unset, .unset, .unset, .unset, .unset, .unset, .unset, .unset, .unset, .unset, .unset, .unset, .unset] [(.int (16 : Int32)), (.ref b1), (.ref b1)])
  obtain ⟨T34, X34, e34, st34⟩ := getS2 X33 hx hZ hown (host := "") (Or.inl (hw _ (List.mem_of_getElem? (i := 36) rfl))) Via.refl e33 f33_1 (g := (mkF m 114 #[iv p1, .val (.long p2), .second, .val (.long p3), .second, iv p4, .unset, .unset, .unset, .unset, .unset, .unset, .unset, .unset, .unset, .unset, .unset, .unset, .unset] [(.int (16 : Int32)), (.ref b1), (.ref b1)])) rfl (hb hby at_114)
  refine own_st st34 ?_
  show own_Goes p e below s (Q0 Z p1 p2 p3 p4 s0 s1 s2 s3 s4 s5 s6 s7 s8 s9 s10 s11 s12 s13 s14 s15 s16 h0 n0) 16 128 T34 (mkF m 117 #[iv p1, .val (.long p2), .second, .val (.long p3), .second, iv p4, .unset, .unset, .unset, .unset, .unset, .unset, .unset, .unset, .unset, .unset, .unset, .unset, .unset] [(.ref s16), (.int (16 : Int32)), (.ref b1), (.ref b1)])
  obtain ⟨cl35, Ar35, q35, Sz35, Nn35, Hh35, Gg35⟩ := V33
  obtain ⟨T35, h35, X35, e35, W35, st35⟩ := stR X34 hx hZ e34 Ar35 (j := (16 : Int32)) (inb_of Sz35 ⟨by decide, by decide⟩) rfl (Sto.ofV Ar35 q35 O1 (Ins.self f33_18)) (g := (mkF m 117 #[iv p1, .val (.long p2), .second, .val (.long p3), .second, iv p4, .unset, .unset, .unset, .unset, .unset, .unset, .unset, .unset, .unset, .unset, .unset, .unset, .unset] [(.ref s16), (.int (16 : Int32)), (.ref b1), (.ref b1)])) rfl rfl (hb hby at_117)
  have V35 : Arv Z h35 b1 k1 (.object "com/example/wirefold/wirefold/FieldType") (17 : Int32) [(.ref s0), (.ref s1), (.ref s2), (.ref s3), (.ref s4), (.ref s5), (.ref s6), (.ref s7), (.ref s8), (.ref s9), (.ref s10), (.ref s11), (.ref s12), (.ref s13), (.ref s14), (.ref s15), (.ref s16)] .null := Arv.set Ar35 q35 Sz35 Nn35 Hh35 Gg35 rfl W35 16 rfl (Nat.le_of_ble_eq_true rfl)
  have f35_0 := f33_0.wr W35
  have f35_1 := f33_2.wr W35
  have f35_2 := f33_3.wr W35
  have f35_3 := f33_4.wr W35
  have f35_4 := f33_5.wr W35
  have f35_5 := f33_6.wr W35
  have f35_6 := f33_7.wr W35
  have f35_7 := f33_8.wr W35
  have f35_8 := f33_9.wr W35
  have f35_9 := f33_10.wr W35
  have f35_10 := f33_11.wr W35
  have f35_11 := f33_12.wr W35
  have f35_12 := f33_13.wr W35
  have f35_13 := f33_14.wr W35
  have f35_14 := f33_15.wr W35
  have f35_15 := f33_16.wr W35
  have f35_16 := f33_17.wr W35
  have f35_17 := f33_18.wr W35
  have Zs35 : n0 ≤ h35.size := Nat.le_trans Zs33 (Nat.le_of_eq W35.size.symm)
  have N35 := Fr.snoc X35 N33 gg1
  refine own_st st35 ?_
  show own_Goes p e below s (Q0 Z p1 p2 p3 p4 s0 s1 s2 s3 s4 s5 s6 s7 s8 s9 s10 s11 s12 s13 s14 s15 s16 h0 n0) 16 128 T35 (mkF m 118 #[iv p1, .val (.long p2), .second, .val (.long p3), .second, iv p4, .unset, .unset, .unset, .unset, .unset, .unset, .unset, .unset, .unset, .unset, .unset, .unset, .unset] [(.ref b1)])
  refine own_st (fun _ kk_ => XS.astore X35.here hx rfl (hb hby at_118) rfl rfl (l' := #[iv p1, .val (.long p2), .second, .val (.long p3), .second, iv p4, rv b1, .unset, .unset, .unset, .unset, .unset, .unset, .unset, .unset, .unset, .unset, .unset, .unset]) rfl (XS.iloadN X35.here hx rfl (hb hby at_120) rfl (X35.ldcInt hx hown (mvT hZ (hw _ (List.mem_of_getElem? (i := 38) rfl))) (g := (mkF m 121 #[iv p1, .val (.long p2), .second, .val (.long p3), .second, iv p4, rv b1, .unset, .unset, .unset, .unset, .unset, .unset, .unset, .unset, .unset, .unset, .unset, .unset] [(.int p1)])) rfl (hb hby at_121) _ (XS.iand X35.here hx rfl (hb hby at_123) rfl (XS.bipush X35.here hx rfl (hb hby at_124) (iremM X35 hx rfl (hb hby at_126) rfl (by decide) (XS.istore X35.here hx rfl (hb hby at_127) rfl (l' := #[iv p1, .val (.long p2), .second, .val (.long p3), .second, iv p4, rv b1, iv ((p1 &&& (2147483647 : Int32)) % (17 : Int32)), .unset, .unset, .unset, .unset, .unset, .unset, .unset, .unset, .unset, .unset, .unset]) rfl kk_))))))) ?_
  show own_Goes p e below s (Q0 Z p1 p2 p3 p4 s0 s1 s2 s3 s4 s5 s6 s7 s8 s9 s10 s11 s12 s13 s14 s15 s16 h0 n0) 16 128 T35 (mkF m 129 #[iv p1, .val (.long p2), .second, .val (.long p3), .second, iv p4, rv b1, iv ((p1 &&& (2147483647 : Int32)) % (17 : Int32)), .unset, .unset, .unset, .unset, .unset, .unset, .unset, .unset, .unset, .unset, .unset] [])
  obtain ⟨i, h_i⟩ : ∃ z, z = ((p1 &&& (2147483647 : Int32)) % (17 : Int32)) := ⟨_, rfl⟩
  rw [← h_i]
  show own_Goes p e below s (Q0 Z p1 p2 p3 p4 s0 s1 s2 s3 s4 s5 s6 s7 s8 s9 s10 s11 s12 s13 s14 s15 s16 h0 n0) 16 128 T35 (mkF m 129 #[iv p1, .val (.long p2), .second, .val (.long p3), .second, iv p4, rv b1, iv i, .unset, .unset, .unset, .unset, .unset, .unset, .unset, .unset, .unset, .unset, .unset] [])
  have hi : 0 ≤ i.toInt ∧ i.toInt < 17 := by rw [h_i]; exact own_rng p1
  refine own_st (fun _ kk_ => XS.aload X35.here hx rfl (hb hby at_129) rfl rfl (XS.iload X35.here hx rfl (hb hby at_131) rfl kk_)) ?_
  show own_Goes p e below s (Q0 Z p1 p2 p3 p4 s0 s1 s2 s3 s4 s5 s6 s7 s8 s9 s10 s11 s12 s13 s14 s15 s16 h0 n0) 16 128 T35 (mkF m 133 #[iv p1, .val (.long p2), .second, .val (.long p3), .second, iv p4, rv b1, iv i, .unset, .unset, .unset, .unset, .unset, .unset, .unset, .unset, .unset, .unset, .unset] [(.int i), (.ref b1)])
  obtain ⟨r, hr1, hr2, hr3⟩ := own_pick17 (Pr := fun z => Exa Z h35 z "com/example/wirefold/wirefold/FieldType") hi f35_1 f35_2 f35_3 f35_4 f35_5 f35_6 f35_7 f35_8 f35_9 f35_10 f35_11 f35_12 f35_13 f35_14 f35_15 f35_16 f35_17 p_34 p_35 p_36 p_37 p_38 p_39 p_40 p_41 p_42 p_43 p_44 p_45 p_46 p_47 p_48 p_49
  obtain ⟨cl36, Ar36, q36, Sz36, Nn36, Hh36, Gg36⟩ := V35
  refine own_st (fun _ kk_ => X35.aaload hx (j := i) (v := (.ref r)) (by rw [e35]; exact Ar36.1) (State.isArrayOf_alike hZ.alike Ar36.2.1) rfl Ar36.2.2 (inb_of Sz36 (own_clamp hi)) (Hh36.at (inb_of Sz36 (own_clamp hi)) hr1) (g := (mkF m 133 #[iv p1, .val (.long p2), .second, .val (.long p3), .second, iv p4, rv b1, iv i, .unset, .unset, .unset, .unset, .unset, .unset, .unset, .unset, .unset, .unset, .unset] [(.int i), (.ref b1)])) rfl rfl (hb hby at_133) _ kk_) ?_
  show own_Goes p e below s (Q0 Z p1 p2 p3 p4 s0 s1 s2 s3 s4 s5 s6 s7 s8 s9 s10 s11 s12 s13 s14 s15 s16 h0 n0) 16 128 T35 (mkF m 134 #[iv p1, .val (.long p2), .second, .val (.long p3), .second, iv p4, rv b1, iv i, .unset, .unset, .unset, .unset, .unset, .unset, .unset, .unset, .unset, .unset, .unset] [(.ref r)])
  refine own_st (fun _ kk_ => XS.astore X35.here hx rfl (hb hby at_134) rfl rfl (l' := #[iv p1, .val (.long p2), .second, .val (.long p3), .second, iv p4, rv b1, iv i, rv r, .unset, .unset, .unset, .unset, .unset, .unset, .unset, .unset, .unset, .unset]) rfl (XS.iload X35.here hx rfl (hb hby at_136) rfl (XS.bipush X35.here hx rfl (hb hby at_138) kk_))) ?_
  show own_Goes p e below s (Q0 Z p1 p2 p3 p4 s0 s1 s2 s3 s4 s5 s6 s7 s8 s9 s10 s11 s12 s13 s14 s15 s16 h0 n0) 16 128 T35 (mkF m 140 #[iv p1, .val (.long p2), .second, .val (.long p3), .second, iv p4, rv b1, iv i, rv r, .unset, .unset, .unset, .unset, .unset, .unset, .unset, .unset, .unset, .unset] [(.int (7 : Int32)), (.int i)])
  rcases hr3 with ⟨h7, hr⟩ | ⟨h7, hr⟩
  · refine own_st (fun _ kk_ => XS.icmpNo X35.here hx rfl (hb hby at_140) rfl (XT.ii_ne_f h7) (XS.iconst X35.here hx rfl (hb hby at_143) (XS.goto X35.here hx rfl (pc0 := 144) (pc' := 148) rfl (hb hby at_144) (by decide) (by decide) (XS.istore X35.here hx rfl (hb hby at_148) rfl (l' := #[iv p1, .val (.long p2), .second, .val (.long p3), .second, iv p4, rv b1, iv i, rv r, iv (1 : Int32), .unset, .unset, .unset, .unset, .unset, .unset, .unset, .unset, .unset]) rfl (XS.iload X35.here hx rfl (hb hby at_150) rfl (XS.iconst X35.here hx rfl (hb hby at_152) (XS.iand X35.here hx rfl (hb hby at_153) rfl kk_))))))) ?_
    show own_Goes p e below s (Q0 Z p1 p2 p3 p4 s0 s1 s2 s3 s4 s5 s6 s7 s8 s9 s10 s11 s12 s13 s14 s15 s16 h0 n0) 16 128 T35 (mkF m 154 #[iv p1, .val (.long p2), .second, .val (.long p3), .second, iv p4, rv b1, iv i, rv r, iv (1 : Int32), .unset, .unset, .unset, .unset, .unset, .unset, .unset, .unset, .unset] [(.int (p4 &&& (1 : Int32)))])
    have J162 : ∀ (xx : Int64), own_Goes p e below s (Q0 Z p1 p2 p3 p4 s0 s1 s2 s3 s4 s5 s6 s7 s8 s9 s10 s11 s12 s13 s14 s15 s16 h0 n0) 16 128 T35 (mkF m 162 #[iv p1, .val (.long p2), .second, .val (.long p3), .second, iv p4, rv b1, iv i, rv r, iv (1 : Int32), .unset, .unset, .unset, .unset, .unset, .unset, .unset, .unset, .unset] [(.long xx)]) := by
      intro xx
      show own_Goes p e below s (Q0 Z p1 p2 p3 p4 s0 s1 s2 s3 s4 s5 s6 s7 s8 s9 s10 s11 s12 s13 s14 s15 s16 h0 n0) 16 128 T35 (mkF m 162 #[iv p1, .val (.long p2), .second, .val (.long p3), .second, iv p4, rv b1, iv i, rv r, iv (1 : Int32), .unset, .unset, .unset, .unset, .unset, .unset, .unset, .unset, .unset] [(.long xx)])
      refine own_st (fun _ kk_ => XS.lstore X35.here hx rfl (hb hby at_162) rfl (l' := #[iv p1, .val (.long p2), .second, .val (.long p3), .second, iv p4, rv b1, iv i, rv r, iv (1 : Int32), .val (.long xx), .second, .unset, .unset, .unset, .unset, .unset, .unset, .unset]) rfl (XS.iload X35.here hx rfl (hb hby at_164) rfl (XS.iconst X35.here hx rfl (hb hby at_166) (XS.iand X35.here hx rfl (hb hby at_167) rfl kk_)))) ?_
      show own_Goes p e below s (Q0 Z p1 p2 p3 p4 s0 s1 s2 s3 s4 s5 s6 s7 s8 s9 s10 s11 s12 s13 s14 s15 s16 h0 n0) 16 128 T35 (mkF m 168 #[iv p1, .val (.long p2), .second, .val (.long p3), .second, iv p4, rv b1, iv i, rv r, iv (1 : Int32), .val (.long xx), .second, .unset, .unset, .unset, .unset, .unset, .unset, .unset] [(.int (p4 &&& (2 : Int32)))])
      have J176 : ∀ (yy : Int64), own_Goes p e below s (Q0 Z p1 p2 p3 p4 s0 s1 s2 s3 s4 s5 s6 s7 s8 s9 s10 s11 s12 s13 s14 s15 s16 h0 n0) 16 128 T35 (mkF m 176 #[iv p1, .val (.long p2), .second, .val (.long p3), .second, iv p4, rv b1, iv i, rv r, iv (1 : Int32), .val (.long xx), .second, .unset, .unset, .unset, .unset, .unset, .unset, .unset] [(.long yy)]) := by
        intro yy
        show own_Goes p e below s (Q0 Z p1 p2 p3 p4 s0 s1 s2 s3 s4 s5 s6 s7 s8 s9 s10 s11 s12 s13 s14 s15 s16 h0 n0) 16 128 T35 (mkF m 176 #[iv p1, .val (.long p2), .second, .val (.long p3), .second, iv p4, rv b1, iv i, rv r, iv (1 : Int32), .val (.long xx), .second, .unset, .unset, .unset, .unset, .unset, .unset, .unset] [(.long yy)])
        refine own_st (fun _ kk_ => XS.lstore X35.here hx rfl (hb hby at_176) rfl (l' := #[iv p1, .val (.long p2), .second, .val (.long p3), .second, iv p4, rv b1, iv i, rv r, iv (1 : Int32), .val (.long xx), .second, .val (.long yy), .second, .unset, .unset, .unset, .unset, .unset]) rfl (XS.aload X35.here hx rfl (hb hby at_178) rfl rfl (XS.lload X35.here hx rfl (hb hby at_180) rfl kk_))) ?_
        show own_Goes p e below s (Q0 Z p1 p2 p3 p4 s0 s1 s2 s3 s4 s5 s6 s7 s8 s9 s10 s11 s12 s13 s14 s15 s16 h0 n0) 16 128 T35 (mkF m 182 #[iv p1, .val (.long p2), .second, .val (.long p3), .second, iv p4, rv b1, iv i, rv r, iv (1 : Int32), .val (.long xx), .second, .val (.long yy), .second, .unset, .unset, .unset, .unset, .unset] [(.long xx), (.ref r)])
        obtain ⟨cq37, kq37, q37a, q37b, q37c⟩ := isOf hZ e35 hr2
        obtain ⟨_, _, ⟨T37, L37, k37, n37⟩, -, X37, ⟨Lc37, hQ37, l37, y37, z37⟩, st37⟩ := X35.virtualBack hx (y := (⟨"com/example/wirefold/wirefold/FieldType", "canonical", "(J)J"⟩ : MethodName)) (z := (⟨"com/example/wirefold/wirefold/FieldType", "canonical", "(J)J"⟩ : MethodName)) hown (mvT hZ (hw _ (List.mem_of_getElem? (i := 39) rfl))) (mvT hZ (hw _ (List.mem_of_getElem? (i := 40) rfl))) (notFace_of_selects (args := #[]) (mvT hZ (hw _ (List.mem_of_getElem? (i := 42) rfl)))) (mvT hZ (hw _ (List.mem_of_getElem? (i := 42) rfl))) (mvT hZ (hw _ (List.mem_of_getElem? (i := 41) rfl))) (by decide) (backOf (W := 0) (rm1 l Z a0 hw [] (r) (xx) (s7) h35 n0 Zs35 f35_0) hZ (hw _ (List.mem_of_getElem? (i := 43) rfl)) (hw _ (List.mem_of_getElem? (i := 3) rfl)) (by decide) (by decide)) q37a q37c (g := (mkF m 182 #[iv p1, .val (.long p2), .second, .val (.long p3), .second, iv p4, rv b1, iv i, rv r, iv (1 : Int32), .val (.long xx), .second, .val (.long yy), .second, .unset, .unset, .unset, .unset, .unset] [(.long xx), (.ref r)])) rfl (by rw [hml]; rfl) (Steps.refl _) (argsL := [(.long xx)]) (rest := []) (lenOf pd_0 rfl) rfl (by show 2 * 0 + _ ≤ _; exact Nat.le_of_eq rfl) (hb hby at_182) (fun _ _ => ⟨rfl, e35, (by decide : 1 + 0 ≤ _), (by decide : 17 + 0 ≤ _)⟩)
        dsimp only [Pt.U, Pt.locs, Pt.cells, Pt.slots] at X37 l37 y37 z37 st37 hQ37
        subst l37 y37 z37
        obtain ⟨rfl, Nq37, eq37⟩ := hQ37
        have N37 := Fr.app N35 Nq37
        refine own_st (fun _ kk_ => st37.trans kk_) ?_
        show own_Goes p e below s (Q0 Z p1 p2 p3 p4 s0 s1 s2 s3 s4 s5 s6 s7 s8 s9 s10 s11 s12 s13 s14 s15 s16 h0 n0) 16 128 T37 (mkF m 185 #[iv p1, .val (.long p2), .second, .val (.long p3), .second, iv p4, rv b1, iv i, rv r, iv (1 : Int32), .val (.long xx), .second, .val (.long yy), .second, .unset, .unset, .unset, .unset, .unset] [(.long (own_can r s7 xx))])
        refine own_st (fun _ kk_ => XS.lstore X37.here hx rfl (hb hby at_185) rfl (l' := #[iv p1, .val (.long p2), .second, .val (.long p3), .second, iv p4, rv b1, iv i, rv r, iv (1 : Int32), .val (.long xx), .second, .val (.long yy), .second, .val (.long (own_can r s7 xx)), .second, .unset, .unset, .unset]) rfl (XS.aload X37.here hx rfl (hb hby at_187) rfl rfl (XS.lload X37.here hx rfl (hb hby at_189) rfl kk_))) ?_
        show own_Goes p e below s (Q0 Z p1 p2 p3 p4 s0 s1 s2 s3 s4 s5 s6 s7 s8 s9 s10 s11 s12 s13 s14 s15 s16 h0 n0) 16 128 T37 (mkF m 191 #[iv p1, .val (.long p2), .second, .val (.long p3), .second, iv p4, rv b1, iv i, rv r, iv (1 : Int32), .val (.long xx), .second, .val (.long yy), .second, .val (.long (own_can r s7 xx)), .second, .unset, .unset, .unset] [(.long yy), (.ref r)])
        obtain ⟨cq38, kq38, q38a, q38b, q38c⟩ := isOf hZ eq37 hr2
        obtain ⟨_, _, ⟨T38, L38, k38, n38⟩, -, X38, ⟨Lc38, hQ38, l38, y38, z38⟩, st38⟩ := X37.virtualBack hx (y := (⟨"com/example/wirefold/wirefold/FieldType", "canonical", "(J)J"⟩ : MethodName)) (z := (⟨"com/example/wirefold/wirefold/FieldType", "canonical", "(J)J"⟩ : MethodName)) hown (mvT hZ (hw _ (List.mem_of_getElem? (i := 39) rfl))) (mvT hZ (hw _ (List.mem_of_getElem? (i := 40) rfl))) (notFace_of_selects (args := #[]) (mvT hZ (hw _ (List.mem_of_getElem? (i := 42) rfl)))) (mvT hZ (hw _ (List.mem_of_getElem? (i := 42) rfl))) (mvT hZ (hw _ (List.mem_of_getElem? (i := 41) rfl))) (by decide) (backOf (W := 0) (rm1 l Z a0 hw [] (r) (yy) (s7) h35 n0 Zs35 f35_0) hZ (hw _ (List.mem_of_getElem? (i := 43) rfl)) (hw _ (List.mem_of_getElem? (i := 3) rfl)) (by decide) (by decide)) q38a q38c (g := (mkF m 191 #[iv p1, .val (.long p2), .second, .val (.long p3), .second, iv p4, rv b1, iv i, rv r, iv (1 : Int32), .val (.long xx), .second, .val (.long yy), .second, .val (.long (own_can r s7 xx)), .second, .unset, .unset, .unset] [(.long yy), (.ref r)])) rfl (by rw [hml]; rfl) (Steps.refl _) (argsL := [(.long yy)]) (rest := []) (lenOf pd_0 rfl) rfl (by show 2 * 0 + _ ≤ _; exact Nat.le_of_eq rfl) (hb hby at_191) (fun _ _ => ⟨rfl, eq37, (by decide : 1 + 0 ≤ _), (by decide : 17 + 0 ≤ _)⟩)
        dsimp only [Pt.U, Pt.locs, Pt.cells, Pt.slots] at X38 l38 y38 z38 st38 hQ38
        subst l38 y38 z38
        obtain ⟨rfl, Nq38, eq38⟩ := hQ38
        have N38 := Fr.app N37 Nq38
        refine own_st (fun _ kk_ => st38.trans kk_) ?_
        show own_Goes p e below s (Q0 Z p1 p2 p3 p4 s0 s1 s2 s3 s4 s5 s6 s7 s8 s9 s10 s11 s12 s13 s14 s15 s16 h0 n0) 16 128 T38 (mkF m 194 #[iv p1, .val (.long p2), .second, .val (.long p3), .second, iv p4, rv b1, iv i, rv r, iv (1 : Int32), .val (.long xx), .second, .val (.long yy), .second, .val (.long (own_can r s7 xx)), .second, .unset, .unset, .unset] [(.long (own_can r s7 yy))])
        refine own_st (fun _ kk_ => XS.lstore X38.here hx rfl (hb hby at_194) rfl (l' := #[iv p1, .val (.long p2), .second, .val (.long p3), .second, iv p4, rv b1, iv i, rv r, iv (1 : Int32), .val (.long xx), .second, .val (.long yy), .second, .val (.long (own_can r s7 xx)), .second, .val (.long (own_can r s7 yy)), .second, .unset]) rfl (XS.iload X38.here hx rfl (hb hby at_196) rfl (XS.ifNo X38.here hx rfl (hb hby at_198) rfl (XT.i0_eq_f (by decide)) (XS.lload X38.here hx rfl (hb hby at_201) rfl (XS.lconst X38.here hx rfl (hb hby at_203) (XT.lcmp X38.here hx rfl (hb hby at_204) rfl kk_)))))) ?_
        show own_Goes p e below s (Q0 Z p1 p2 p3 p4 s0 s1 s2 s3 s4 s5 s6 s7 s8 s9 s10 s11 s12 s13 s14 s15 s16 h0 n0) 16 128 T38 (mkF m 205 #[iv p1, .val (.long p2), .second, .val (.long p3), .second, iv p4, rv b1, iv i, rv r, iv (1 : Int32), .val (.long xx), .second, .val (.long yy), .second, .val (.long (own_can r s7 xx)), .second, .val (.long (own_can r s7 yy)), .second, .unset] [(.int (XT.cmpL xx (0 : Int64)))])
        rcases Classical.em (xx = (0 : Int64)) with hx0 | hx0
        · refine own_st (fun _ kk_ => XS.ifNo X38.here hx rfl (hb hby at_205) rfl (XT.ll_ne_f hx0) (XS.lload X38.here hx rfl (hb hby at_208) rfl (XS.lconst X38.here hx rfl (hb hby at_210) (XT.lcmp X38.here hx rfl (hb hby at_211) rfl (XS.ifNo X38.here hx rfl (hb hby at_212) rfl (XT.ll_ne_f (own_c0 hx0)) (XS.iconst X38.here hx rfl (hb hby at_215) (XS.goto X38.here hx rfl (pc0 := 216) (pc' := 235) rfl (hb hby at_216) (by decide) (by decide) (XS.istore X38.here hx rfl (hb hby at_235) rfl (l' := #[iv p1, .val (.long p2), .second, .val (.long p3), .second, iv p4, rv b1, iv i, rv r, iv (1 : Int32), .val (.long xx), .second, .val (.long yy), .second, .val (.long (own_can r s7 xx)), .second, .val (.long (own_can r s7 yy)), .second, iv (1 : Int32)]) rfl kk_)))))))) ?_
          show own_Goes p e below s (Q0 Z p1 p2 p3 p4 s0 s1 s2 s3 s4 s5 s6 s7 s8 s9 s10 s11 s12 s13 s14 s15 s16 h0 n0) 16 128 T38 (mkF m 237 #[iv p1, .val (.long p2), .second, .val (.long p3), .second, iv p4, rv b1, iv i, rv r, iv (1 : Int32), .val (.long xx), .second, .val (.long yy), .second, .val (.long (own_can r s7 xx)), .second, .val (.long (own_can r s7 yy)), .second, iv (1 : Int32)] [])
          refine own_st (fun _ kk_ => XS.iload X38.here hx rfl (hb hby at_237) rfl (XS.ifNo X38.here hx rfl (hb hby at_239) rfl (XT.i0_eq_f (by decide)) (XS.lload X38.here hx rfl (hb hby at_242) rfl (XS.lload X38.here hx rfl (hb hby at_244) rfl (XT.lcmp X38.here hx rfl (hb hby at_246) rfl kk_))))) ?_
          show own_Goes p e below s (Q0 Z p1 p2 p3 p4 s0 s1 s2 s3 s4 s5 s6 s7 s8 s9 s10 s11 s12 s13 s14 s15 s16 h0 n0) 16 128 T38 (mkF m 247 #[iv p1, .val (.long p2), .second, .val (.long p3), .second, iv p4, rv b1, iv i, rv r, iv (1 : Int32), .val (.long xx), .second, .val (.long yy), .second, .val (.long (own_can r s7 xx)), .second, .val (.long (own_can r s7 yy)), .second, iv (1 : Int32)] [(.int (XT.cmpL (own_can r s7 xx) (own_can r s7 yy)))])
          rcases Classical.em (yy = (0 : Int64)) with hy0 | hy0
          · refine own_st (fun _ kk_ => XS.ifNo X38.here hx rfl (hb hby at_247) rfl (XT.ll_ne_f ((own_c0 hx0).trans (own_c0 hy0).symm)) (XS.iconst X38.here hx rfl (hb hby at_250) (XS.goto X38.here hx rfl (pc0 := 251) (pc' := 255) rfl (hb hby at_251) (by decide) (by decide) (XS.lload X38.here hx rfl (hb hby at_255) rfl (XS.lconst X38.here hx rfl (hb hby at_257) (XT.lcmp X38.here hx rfl (hb hby at_258) rfl (XS.ifYes X38.here hx rfl (pc0 := 259) (pc' := 266) rfl (hb hby at_259) rfl (XT.ll_eq_t hx0) (by decide) (by decide) (XS.iconst X38.here hx rfl (hb hby at_266) kk_)))))))) ?_
            show own_Goes p e below s (Q0 Z p1 p2 p3 p4 s0 s1 s2 s3 s4 s5 s6 s7 s8 s9 s10 s11 s12 s13 s14 s15 s16 h0 n0) 16 128 T38 (mkF m 267 #[iv p1, .val (.long p2), .second, .val (.long p3), .second, iv p4, rv b1, iv i, rv r, iv (1 : Int32), .val (.long xx), .second, .val (.long yy), .second, .val (.long (own_can r s7 xx)), .second, .val (.long (own_can r s7 yy)), .second, iv (1 : Int32)] [(.int (0 : Int32)), (.int (1 : Int32))])
            refine own_st (fun _ kk_ => XS.lload X38.here hx rfl (hb hby at_267) rfl (XS.lconst X38.here hx rfl (hb hby at_269) (XT.lcmp X38.here hx rfl (hb hby at_270) rfl (XS.ifYes X38.here hx rfl (pc0 := 271) (pc' := 278) rfl (hb hby at_271) rfl (XT.ll_eq_t hy0) (by decide) (by decide) (XS.iconst X38.here hx rfl (hb hby at_278) (XS.icmpNo X38.here hx rfl (hb hby at_279) rfl (XT.ii_ne_f (by decide)) (XS.iconst X38.here hx rfl (hb hby at_282) (XS.goto X38.here hx rfl (pc0 := 283) (pc' := 287) rfl (hb hby at_283) (by decide) (by decide) kk_)))))))) ?_
            show own_Goes p e below s (Q0 Z p1 p2 p3 p4 s0 s1 s2 s3 s4 s5 s6 s7 s8 s9 s10 s11 s12 s13 s14 s15 s16 h0 n0) 16 128 T38 (mkF m 287 #[iv p1, .val (.long p2), .second, .val (.long p3), .second, iv p4, rv b1, iv i, rv r, iv (1 : Int32), .val (.long xx), .second, .val (.long yy), .second, .val (.long (own_can r s7 xx)), .second, .val (.long (own_can r s7 yy)), .second, iv (1 : Int32)] [(.int (1 : Int32)), (.int (1 : Int32))])
            refine own_st (fun _ kk_ => XS.icmpNo X38.here hx rfl (hb hby at_287) rfl (XT.ii_ne_f (by decide)) (XS.iconst X38.here hx rfl (hb hby at_290) (XS.goto X38.here hx rfl (pc0 := 291) (pc' := 295) rfl (hb hby at_291) (by decide) (by decide) (XS.istore X38.here hx rfl (hb hby at_295) rfl (l' := #[iv p1, .val (.long p2), .second, .val (.long p3), .second, iv p4, rv b1, iv i, rv r, iv (1 : Int32), .val (.long xx), .second, .val (.long yy), .second, .val (.long (own_can r s7 xx)), .second, .val (.long (own_can r s7 yy)), .second, iv (1 : Int32)]) rfl (XS.goto X38.here hx rfl (pc0 := 297) (pc' := 323) rfl (hb hby at_297) (by decide) (by decide) (XS.iload X38.here hx rfl (hb hby at_323) rfl (XS.ifNo X38.here hx rfl (hb hby at_325) rfl (XT.i0_eq_f (by decide)) (XS.aload X38.here hx rfl (hb hby at_328) rfl rfl kk_)))))))) ?_
            show own_Goes p e below s (Q0 Z p1 p2 p3 p4 s0 s1 s2 s3 s4 s5 s6 s7 s8 s9 s10 s11 s12 s13 s14 s15 s16 h0 n0) 16 128 T38 (mkF m 330 #[iv p1, .val (.long p2), .second, .val (.long p3), .second, iv p4, rv b1, iv i, rv r, iv (1 : Int32), .val (.long xx), .second, .val (.long yy), .second, .val (.long (own_can r s7 xx)), .second, .val (.long (own_can r s7 yy)), .second, iv (1 : Int32)] [(.ref r)])
            refine own_st (fun _ kk_ => XS.lload X38.here hx rfl (hb hby at_330) rfl kk_) ?_
            show own_Goes p e below s (Q0 Z p1 p2 p3 p4 s0 s1 s2 s3 s4 s5 s6 s7 s8 s9 s10 s11 s12 s13 s14 s15 s16 h0 n0) 16 128 T38 (mkF m 332 #[iv p1, .val (.long p2), .second, .val (.long p3), .second, iv p4, rv b1, iv i, rv r, iv (1 : Int32), .val (.long xx), .second, .val (.long yy), .second, .val (.long (own_can r s7 xx)), .second, .val (.long (own_can r s7 yy)), .second, iv (1 : Int32)] [(.long (own_can r s7 xx)), (.ref r)])
            obtain ⟨cq39, kq39, q39a, q39b, q39c⟩ := isOf hZ eq38 hr2
            obtain ⟨_, _, ⟨T39, L39, k39, n39⟩, -, X39, ⟨Lc39, hQ39, l39, y39, z39⟩, st39⟩ := X38.virtualBack hx (y := (⟨"com/example/wirefold/wirefold/FieldType", "canonical", "(J)J"⟩ : MethodName)) (z := (⟨"com/example/wirefold/wirefold/FieldType", "canonical", "(J)J"⟩ : MethodName)) hown (mvT hZ (hw _ (List.mem_of_getElem? (i := 39) rfl))) (mvT hZ (hw _ (List.mem_of_getElem? (i := 40) rfl))) (notFace_of_selects (args := #[]) (mvT hZ (hw _ (List.mem_of_getElem? (i := 42) rfl)))) (mvT hZ (hw _ (List.mem_of_getElem? (i := 42) rfl))) (mvT hZ (hw _ (List.mem_of_getElem? (i := 41) rfl))) (by decide) (backOf (W := 0) (rm1 l Z a0 hw [] (r) ((own_can r s7 xx)) (s7) h35 n0 Zs35 f35_0) hZ (hw _ (List.mem_of_getElem? (i := 43) rfl)) (hw _ (List.mem_of_getElem? (i := 3) rfl)) (by decide) (by decide)) q39a q39c (g := (mkF m 332 #[iv p1, .val (.long p2), .second, .val (.long p3), .second, iv p4, rv b1, iv i, rv r, iv (1 : Int32), .val (.long xx), .second, .val (.long yy), .second, .val (.long (own_can r s7 xx)), .second, .val (.long (own_can r s7 yy)), .second, iv (1 : Int32)] [(.long (own_can r s7 xx)), (.ref r)])) rfl (by rw [hml]; rfl) (Steps.refl _) (argsL := [(.long (own_can r s7 xx))]) (rest := []) (lenOf pd_0 rfl) rfl (by show 2 * 0 + _ ≤ _; exact Nat.le_of_eq rfl) (hb hby at_332) (fun _ _ => ⟨rfl, eq38, (by decide : 1 + 0 ≤ _), (by decide : 17 + 0 ≤ _)⟩)
            dsimp only [Pt.U, Pt.locs, Pt.cells, Pt.slots] at X39 l39 y39 z39 st39 hQ39
            subst l39 y39 z39
            obtain ⟨rfl, Nq39, eq39⟩ := hQ39
            have N39 := Fr.app N38 Nq39
            refine own_st (fun _ kk_ => st39.trans kk_) ?_
            show own_Goes p e below s (Q0 Z p1 p2 p3 p4 s0 s1 s2 s3 s4 s5 s6 s7 s8 s9 s10 s11 s12 s13 s14 s15 s16 h0 n0) 16 128 T39 (mkF m 335 #[iv p1, .val (.long p2), .second, .val (.long p3), .second, iv p4, rv b1, iv i, rv r, iv (1 : Int32), .val (.long xx), .second, .val (.long yy), .second, .val (.long (own_can r s7 xx)), .second, .val (.long (own_can r s7 yy)), .second, iv (1 : Int32)] [(.long (own_can r s7 (own_can r s7 xx)))])
            refine own_st (fun _ kk_ => XS.lload X39.here hx rfl (hb hby at_335) rfl (XT.lcmp X39.here hx rfl (hb hby at_337) rfl (XS.ifNo X39.here hx rfl (hb hby at_338) rfl (XT.ll_ne_f own_ci) (XS.iconst X39.here hx rfl (hb hby at_341) (XS.goto X39.here hx rfl (pc0 := 342) (pc' := 346) rfl (hb hby at_342) (by decide) (by decide) (XS.istore X39.here hx rfl (hb hby at_346) rfl (l' := #[iv p1, .val (.long p2), .second, .val (.long p3), .second, iv p4, rv b1, iv i, rv r, iv (1 : Int32), .val (.long xx), .second, .val (.long yy), .second, .val (.long (own_can r s7 xx)), .second, .val (.long (own_can r s7 yy)), .second, iv (1 : Int32)]) rfl (XS.iload X39.here hx rfl (hb hby at_348) rfl kk_))))))) ?_
            show own_Goes p e below s (Q0 Z p1 p2 p3 p4 s0 s1 s2 s3 s4 s5 s6 s7 s8 s9 s10 s11 s12 s13 s14 s15 s16 h0 n0) 16 128 T39 (mkF m 350 #[iv p1, .val (.long p2), .second, .val (.long p3), .second, iv p4, rv b1, iv i, rv r, iv (1 : Int32), .val (.long xx), .second, .val (.long yy), .second, .val (.long (own_can r s7 xx)), .second, .val (.long (own_can r s7 yy)), .second, iv (1 : Int32)] [(.int (1 : Int32))])
            refine own_retN X39 hx hlk (t := .boolean) Bd.returns (by simp) (hb hby at_350) (by decide) (by decide) ?_
            show Q0 Z p1 p2 p3 p4 s0 s1 s2 s3 s4 s5 s6 s7 s8 s9 s10 s11 s12 s13 s14 s15 s16 h0 n0 (some (.int (nar .boolean (1 : Int32)))) T39.heap _
            rw [eq39]
            exact ⟨rfl, N39⟩
          · refine own_st (fun _ kk_ => XS.ifYes X38.here hx rfl (pc0 := 247) (pc' := 254) rfl (hb hby at_247) rfl (XT.ll_ne_t (by rw [own_c0 hx0, own_c1 hr hy0]; decide)) (by decide) (by decide) (XS.iconst X38.here hx rfl (hb hby at_254) (XS.lload X38.here hx rfl (hb hby at_255) rfl (XS.lconst X38.here hx rfl (hb hby at_257) (XT.lcmp X38.here hx rfl (hb hby at_258) rfl (XS.ifYes X38.here hx rfl (pc0 := 259) (pc' := 266) rfl (hb hby at_259) rfl (XT.ll_eq_t hx0) (by decide) (by decide) (XS.iconst X38.here hx rfl (hb hby at_266) (XS.lload X38.here hx rfl (hb hby at_267) rfl kk_)))))))) ?_
            show own_Goes p e below s (Q0 Z p1 p2 p3 p4 s0 s1 s2 s3 s4 s5 s6 s7 s8 s9 s10 s11 s12 s13 s14 s15 s16 h0 n0) 16 128 T38 (mkF m 269 #[iv p1, .val (.long p2), .second, .val (.long p3), .second, iv p4, rv b1, iv i, rv r, iv (1 : Int32), .val (.long xx), .second, .val (.long yy), .second, .val (.long (own_can r s7 xx)), .second, .val (.long (own_can r s7 yy)), .second, iv (1 : Int32)] [(.long yy), (.int (0 : Int32)), (.int (0 : Int32))])
            refine own_st (fun _ kk_ => XS.lconst X38.here hx rfl (hb hby at_269) (XT.lcmp X38.here hx rfl (hb hby at_270) rfl (XS.ifNo X38.here hx rfl (hb hby at_271) rfl (XT.ll_eq_f hy0) (XS.iconst X38.here hx rfl (hb hby at_274) (XS.goto X38.here hx rfl (pc0 := 275) (pc' := 279) rfl (hb hby at_275) (by decide) (by decide) (XS.icmpYes X38.here hx rfl (pc0 := 279) (pc' := 286) rfl (hb hby at_279) rfl (XT.ii_ne_t (by decide)) (by decide) (by decide) (XS.iconst X38.here hx rfl (hb hby at_286) (XS.icmpNo X38.here hx rfl (hb hby at_287) rfl (XT.ii_ne_f (by decide)) kk_)))))))) ?_
            show own_Goes p e below s (Q0 Z p1 p2 p3 p4 s0 s1 s2 s3 s4 s5 s6 s7 s8 s9 s10 s11 s12 s13 s14 s15 s16 h0 n0) 16 128 T38 (mkF m 290 #[iv p1, .val (.long p2), .second, .val (.long p3), .second, iv p4, rv b1, iv i, rv r, iv (1 : Int32), .val (.long xx), .second, .val (.long yy), .second, .val (.long (own_can r s7 xx)), .second, .val (.long (own_can r s7 yy)), .second, iv (1 : Int32)] [])
            refine own_st (fun _ kk_ => XS.iconst X38.here hx rfl (hb hby at_290) (XS.goto X38.here hx rfl (pc0 := 291) (pc' := 295) rfl (hb hby at_291) (by decide) (by decide) (XS.istore X38.here hx rfl (hb hby at_295) rfl (l' := #[iv p1, .val (.long p2), .second, .val (.long p3), .second, iv p4, rv b1, iv i, rv r, iv (1 : Int32), .val (.long xx), .second, .val (.long yy), .second, .val (.long (own_can r s7 xx)), .second, .val (.long (own_can r s7 yy)), .second, iv (1 : Int32)]) rfl (XS.goto X38.here hx rfl (pc0 := 297) (pc' := 323) rfl (hb hby at_297) (by decide) (by decide) (XS.iload X38.here hx rfl (hb hby at_323) rfl (XS.ifNo X38.here hx rfl (hb hby at_325) rfl (XT.i0_eq_f (by decide)) (XS.aload X38.here hx rfl (hb hby at_328) rfl rfl (XS.lload X38.here hx rfl (hb hby at_330) rfl kk_)))))))) ?_
            show own_Goes p e below s (Q0 Z p1 p2 p3 p4 s0 s1 s2 s3 s4 s5 s6 s7 s8 s9 s10 s11 s12 s13 s14 s15 s16 h0 n0) 16 128 T38 (mkF m 332 #[iv p1, .val (.long p2), .second, .val (.long p3), .second, iv p4, rv b1, iv i, rv r, iv (1 : Int32), .val (.long xx), .second, .val (.long yy), .second, .val (.long (own_can r s7 xx)), .second, .val (.long (own_can r s7 yy)), .second, iv (1 : Int32)] [(.long (own_can r s7 xx)), (.ref r)])
            obtain ⟨cq40, kq40, q40a, q40b, q40c⟩ := isOf hZ eq38 hr2
            obtain ⟨_, _, ⟨T40, L40, k40, n40⟩, -, X40, ⟨Lc40, hQ40, l40, y40, z40⟩, st40⟩ := X38.virtualBack hx (y := (⟨"com/example/wirefold/wirefold/FieldType", "canonical", "(J)J"⟩ : MethodName)) (z := (⟨"com/example/wirefold/wirefold/FieldType", "canonical", "(J)J"⟩ : MethodName)) hown (mvT hZ (hw _ (List.mem_of_getElem? (i := 39) rfl))) (mvT hZ (hw _ (List.mem_of_getElem? (i := 40) rfl))) (notFace_of_selects (args := #[]) (mvT hZ (hw _ (List.mem_of_getElem? (i := 42) rfl)))) (mvT hZ (hw _ (List.mem_of_getElem? (i := 42) rfl))) (mvT hZ (hw _ (List.mem_of_getElem? (i := 41) rfl))) (by decide) (backOf (W := 0) (rm1 l Z a0 hw [] (r) ((own_can r s7 xx)) (s7) h35 n0 Zs35 f35_0) hZ (hw _ (List.mem_of_getElem? (i := 43) rfl)) (hw _ (List.mem_of_getElem? (i := 3) rfl)) (by decide) (by decide)) q40a q40c (g := (mkF m 332 #[iv p1, .val (.long p2), .second, .val (.long p3), .second, iv p4, rv b1, iv i, rv r, iv (1 : Int32), .val (.long xx), .second, .val (.long yy), .second, .val (.long (own_can r s7 xx)), .second, .val (.long (own_can r s7 yy)), .second, iv (1 : Int32)] [(.long (own_can r s7 xx)), (.ref r)])) rfl (by rw [hml]; rfl) (Steps.refl _) (argsL := [(.long (own_can r s7 xx))]) (rest := []) (lenOf pd_0 rfl) rfl (by show 2 * 0 + _ ≤ _; exact Nat.le_of_eq rfl) (hb hby at_332) (fun _ _ => ⟨rfl, eq38, (by decide : 1 + 0 ≤ _), (by decide : 17 + 0 ≤ _)⟩)
            dsimp only [Pt.U, Pt.locs, Pt.cells, Pt.slots] at X40 l40 y40 z40 st40 hQ40
            subst l40 y40 z40
            obtain ⟨rfl, Nq40, eq40⟩ := hQ40
            have N40 := Fr.app N38 Nq40
            refine own_st (fun _ kk_ => st40.trans kk_) ?_
            show own_Goes p e below s (Q0 Z p1 p2 p3 p4 s0 s1 s2 s3 s4 s5 s6 s7 s8 s9 s10 s11 s12 s13 s14 s15 s16 h0 n0) 16 128 T40 (mkF m 335 #[iv p1, .val (.long p2), .second, .val (.long p3), .second, iv p4, rv b1, iv i, rv r, iv (1 : Int32), .val (.long xx), .second, .val (.long yy), .second, .val (.long (own_can r s7 xx)), .second, .val (.long (own_can r s7 yy)), .second, iv (1 : Int32)] [(.long (own_can r s7 (own_can r s7 xx)))])
            refine own_st (fun _ kk_ => XS.lload X40.here hx rfl (hb hby at_335) rfl (XT.lcmp X40.here hx rfl (hb hby at_337) rfl (XS.ifNo X40.here hx rfl (hb hby at_338) rfl (XT.ll_ne_f own_ci) (XS.iconst X40.here hx rfl (hb hby at_341) (XS.goto X40.here hx rfl (pc0 := 342) (pc' := 346) rfl (hb hby at_342) (by decide) (by decide) (XS.istore X40.here hx rfl (hb hby at_346) rfl (l' := #[iv p1, .val (.long p2), .second, .val (.long p3), .second, iv p4, rv b1, iv i, rv r, iv (1 : Int32), .val (.long xx), .second, .val (.long yy), .second, .val (.long (own_can r s7 xx)), .second, .val (.long (own_can r s7 yy)), .second, iv (1 : Int32)]) rfl (XS.iload X40.here hx rfl (hb hby at_348) rfl kk_))))))) ?_
            show own_Goes p e below s (Q0 Z p1 p2 p3 p4 s0 s1 s2 s3 s4 s5 s6 s7 s8 s9 s10 s11 s12 s13 s14 s15 s16 h0 n0) 16 128 T40 (mkF m 350 #[iv p1, .val (.long p2), .second, .val (.long p3), .second, iv p4, rv b1, iv i, rv r, iv (1 : Int32), .val (.long xx), .second, .val (.long yy), .second, .val (.long (own_can r s7 xx)), .second, .val (.long (own_can r s7 yy)), .second, iv (1 : Int32)] [(.int (1 : Int32))])
            refine own_retN X40 hx hlk (t := .boolean) Bd.returns (by simp) (hb hby at_350) (by decide) (by decide) ?_
            show Q0 Z p1 p2 p3 p4 s0 s1 s2 s3 s4 s5 s6 s7 s8 s9 s10 s11 s12 s13 s14 s15 s16 h0 n0 (some (.int (nar .boolean (1 : Int32)))) T40.heap _
            rw [eq40]
            exact ⟨rfl, N40⟩
        · refine own_st (fun _ kk_ => XS.ifYes X38.here hx rfl (pc0 := 205) (pc' := 223) rfl (hb hby at_205) rfl (XT.ll_ne_t hx0) (by decide) (by decide) (XS.lload X38.here hx rfl (hb hby at_223) rfl (XS.lconst X38.here hx rfl (hb hby at_225) (XT.lcmp X38.here hx rfl (hb hby at_226) rfl (XS.ifNo X38.here hx rfl (hb hby at_227) rfl (XT.ll_ne_f (own_c1 hr hx0)) (XS.iconst X38.here hx rfl (hb hby at_230) (XS.goto X38.here hx rfl (pc0 := 231) (pc' := 235) rfl (hb hby at_231) (by decide) (by decide) (XS.istore X38.here hx rfl (hb hby at_235) rfl (l' := #[iv p1, .val (.long p2), .second, .val (.long p3), .second, iv p4, rv b1, iv i, rv r, iv (1 : Int32), .val (.long xx), .second, .val (.long yy), .second, .val (.long (own_can r s7 xx)), .second, .val (.long (own_can r s7 yy)), .second, iv (1 : Int32)]) rfl kk_)))))))) ?_
          show own_Goes p e below s (Q0 Z p1 p2 p3 p4 s0 s1 s2 s3 s4 s5 s6 s7 s8 s9 s10 s11 s12 s13 s14 s15 s16 h0 n0) 16 128 T38 (mkF m 237 #[iv p1, .val (.long p2), .second, .val (.long p3), .second, iv p4, rv b1, iv i, rv r, iv (1 : Int32), .val (.long xx), .second, .val (.long yy), .second, .val (.long (own_can r s7 xx)), .second, .val (.long (own_can r s7 yy)), .second, iv (1 : Int32)] [])
          refine own_st (fun _ kk_ => XS.iload X38.here hx rfl (hb hby at_237) rfl (XS.ifNo X38.here hx rfl (hb hby at_239) rfl (XT.i0_eq_f (by decide)) (XS.lload X38.here hx rfl (hb hby at_242) rfl (XS.lload X38.here hx rfl (hb hby at_244) rfl (XT.lcmp X38.here hx rfl (hb hby at_246) rfl kk_))))) ?_
          show own_Goes p e below s (Q0 Z p1 p2 p3 p4 s0 s1 s2 s3 s4 s5 s6 s7 s8 s9 s10 s11 s12 s13 s14 s15 s16 h0 n0) 16 128 T38 (mkF m 247 #[iv p1, .val (.long p2), .second, .val (.long p3), .second, iv p4, rv b1, iv i, rv r, iv (1 : Int32), .val (.long xx), .second, .val (.long yy), .second, .val (.long (own_can r s7 xx)), .second, .val (.long (own_can r s7 yy)), .second, iv (1 : Int32)] [(.int (XT.cmpL (own_can r s7 xx) (own_can r s7 yy)))])
          rcases Classical.em (yy = (0 : Int64)) with hy0 | hy0
          · refine own_st (fun _ kk_ => XS.ifYes X38.here hx rfl (pc0 := 247) (pc' := 254) rfl (hb hby at_247) rfl (XT.ll_ne_t (by rw [own_c1 hr hx0, own_c0 hy0]; decide)) (by decide) (by decide) (XS.iconst X38.here hx rfl (hb hby at_254) (XS.lload X38.here hx rfl (hb hby at_255) rfl (XS.lconst X38.here hx rfl (hb hby at_257) (XT.lcmp X38.here hx rfl (hb hby at_258) rfl (XS.ifNo X38.here hx rfl (hb hby at_259) rfl (XT.ll_eq_f hx0) (XS.iconst X38.here hx rfl (hb hby at_262) (XS.goto X38.here hx rfl (pc0 := 263) (pc' := 267) rfl (hb hby at_263) (by decide) (by decide) kk_)))))))) ?_
            show own_Goes p e below s (Q0 Z p1 p2 p3 p4 s0 s1 s2 s3 s4 s5 s6 s7 s8 s9 s10 s11 s12 s13 s14 s15 s16 h0 n0) 16 128 T38 (mkF m 267 #[iv p1, .val (.long p2), .second, .val (.long p3), .second, iv p4, rv b1, iv i, rv r, iv (1 : Int32), .val (.long xx), .second, .val (.long yy), .second, .val (.long (own_can r s7 xx)), .second, .val (.long (own_can r s7 yy)), .second, iv (1 : Int32)] [(.int (1 : Int32)), (.int (0 : Int32))])
            refine own_st (fun _ kk_ => XS.lload X38.here hx rfl (hb hby at_267) rfl (XS.lconst X38.here hx rfl (hb hby at_269) (XT.lcmp X38.here hx rfl (hb hby at_270) rfl (XS.ifYes X38.here hx rfl (pc0 := 271) (pc' := 278) rfl (hb hby at_271) rfl (XT.ll_eq_t hy0) (by decide) (by decide) (XS.iconst X38.here hx rfl (hb hby at_278) (XS.icmpYes X38.here hx rfl (pc0 := 279) (pc' := 286) rfl (hb hby at_279) rfl (XT.ii_ne_t (by decide)) (by decide) (by decide) (XS.iconst X38.here hx rfl (hb hby at_286) (XS.icmpNo X38.here hx rfl (hb hby at_287) rfl (XT.ii_ne_f (by decide)) kk_)))))))) ?_
            show own_Goes p e below s (Q0 Z p1 p2 p3 p4 s0 s1 s2 s3 s4 s5 s6 s7 s8 s9 s10 s11 s12 s13 s14 s15 s16 h0 n0) 16 128 T38 (mkF m 290 #[iv p1, .val (.long p2), .second, .val (.long p3), .second, iv p4, rv b1, iv i, rv r, iv (1 : Int32), .val (.long xx), .second, .val (.long yy), .second, .val (.long (own_can r s7 xx)), .second, .val (.long (own_can r s7 yy)), .second, iv (1 : Int32)] [])
            refine own_st (fun _ kk_ => XS.iconst X38.here hx rfl (hb hby at_290) (XS.goto X38.here hx rfl (pc0 := 291) (pc' := 295) rfl (hb hby at_291) (by decide) (by decide) (XS.istore X38.here hx rfl (hb hby at_295) rfl (l' := #[iv p1, .val (.long p2), .second, .val (.long p3), .second, iv p4, rv b1, iv i, rv r, iv (1 : Int32), .val (.long xx), .second, .val (.long yy), .second, .val (.long (own_can r s7 xx)), .second, .val (.long (own_can r s7 yy)), .second, iv (1 : Int32)]) rfl (XS.goto X38.here hx rfl (pc0 := 297) (pc' := 323) rfl (hb hby at_297) (by decide) (by decide) (XS.iload X38.here hx rfl (hb hby at_323) rfl (XS.ifNo X38.here hx rfl (hb hby at_325) rfl (XT.i0_eq_f (by decide)) (XS.aload X38.here hx rfl (hb hby at_328) rfl rfl (XS.lload X38.here hx rfl (hb hby at_330) rfl kk_)))))))) ?_
            show own_Goes p e below s (Q0 Z p1 p2 p3 p4 s0 s1 s2 s3 s4 s5 s6 s7 s8 s9 s10 s11 s12 s13 s14 s15 s16 h0 n0) 16 128 T38 (mkF m 332 #[iv p1, .val (.long p2), .second, .val (.long p3), .second, iv p4, rv b1, iv i, rv r, iv (1 : Int32), .val (.long xx), .second, .val (.long yy), .second, .val (.long (own_can r s7 xx)), .second, .val (.long (own_can r s7 yy)), .second, iv (1 : Int32)] [(.long (own_can r s7 xx)), (.ref r)])
            obtain ⟨cq41, kq41, q41a, q41b, q41c⟩ := isOf hZ eq38 hr2
            obtain ⟨_, _, ⟨T41, L41, k41, n41⟩, -, X41, ⟨Lc41, hQ41, l41, y41, z41⟩, st41⟩ := X38.virtualBack hx (y := (⟨"com/example/wirefold/wirefold/FieldType", "canonical", "(J)J"⟩ : MethodName)) (z := (⟨"com/example/wirefold/wirefold/FieldType", "canonical", "(J)J"⟩ : MethodName)) hown (mvT hZ (hw _ (List.mem_of_getElem? (i := 39) rfl))) (mvT hZ (hw _ (List.mem_of_getElem? (i := 40) rfl))) (notFace_of_selects (args := #[]) (mvT hZ (hw _ (List.mem_of_getElem? (i := 42) rfl)))) (mvT hZ (hw _ (List.mem_of_getElem? (i := 42) rfl))) (mvT hZ (hw _ (List.mem_of_getElem? (i := 41) rfl))) (by decide) (backOf (W := 0) (rm1 l Z a0 hw [] (r) ((own_can r s7 xx)) (s7) h35 n0 Zs35 f35_0) hZ (hw _ (List.mem_of_getElem? (i := 43) rfl)) (hw _ (List.mem_of_getElem? (i := 3) rfl)) (by decide) (by decide)) q41a q41c (g := (mkF m 332 #[iv p1, .val (.long p2), .second, .val (.long p3), .second, iv p4, rv b1, iv i, rv r, iv (1 : Int32), .val (.long xx), .second, .val (.long yy), .second, .val (.long (own_can r s7 xx)), .second, .val (.long (own_can r s7 yy)), .second, iv (1 : Int32)] [(.long (own_can r s7 xx)), (.ref r)])) rfl (by rw [hml]; rfl) (Steps.refl _) (argsL := [(.long (own_can r s7 xx))]) (rest := []) (lenOf pd_0 rfl) rfl (by show 2 * 0 + _ ≤ _; exact Nat.le_of_eq rfl) (hb hby at_332) (fun _ _ => ⟨rfl, eq38, (by decide : 1 + 0 ≤ _), (by decide : 17 + 0 ≤ _)⟩)
            dsimp only [Pt.U, Pt.locs, Pt.cells, Pt.slots] at X41 l41 y41 z41 st41 hQ41
            subst l41 y41 z41
            obtain ⟨rfl, Nq41, eq41⟩ := hQ41
            have N41 := Fr.app N38 Nq41
            refine own_st (fun _ kk_ => st41.trans kk_) ?_
            show own_Goes p e below s (Q0 Z p1 p2 p3 p4 s0 s1 s2 s3 s4 s5 s6 s7 s8 s9 s10 s11 s12 s13 s14 s15 s16 h0 n0) 16 128 T41 (mkF m 335 #[iv p1, .val (.long p2), .second, .val (.long p3), .second, iv p4, rv b1, iv i, rv r, iv (1 : Int32), .val (.long xx), .second, .val (.long yy), .second, .val (.long (own_can r s7 xx)), .second, .val (.long (own_can r s7 yy)), .second, iv (1 : Int32)] [(.long (own_can r s7 (own_can r s7 xx)))])
            refine own_st (fun _ kk_ => XS.lload X41.here hx rfl (hb hby at_335) rfl (XT.lcmp X41.here hx rfl (hb hby at_337) rfl (XS.ifNo X41.here hx rfl (hb hby at_338) rfl (XT.ll_ne_f own_ci) (XS.iconst X41.here hx rfl (hb hby at_341) (XS.goto X41.here hx rfl (pc0 := 342) (pc' := 346) rfl (hb hby at_342) (by decide) (by decide) (XS.istore X41.here hx rfl (hb hby at_346) rfl (l' := #[iv p1, .val (.long p2), .second, .val (.long p3), .second, iv p4, rv b1, iv i, rv r, iv (1 : Int32), .val (.long xx), .second, .val (.long yy), .second, .val (.long (own_can r s7 xx)), .second, .val (.long (own_can r s7 yy)), .second, iv (1 : Int32)]) rfl (XS.iload X41.here hx rfl (hb hby at_348) rfl kk_))))))) ?_
            show own_Goes p e below s (Q0 Z p1 p2 p3 p4 s0 s1 s2 s3 s4 s5 s6 s7 s8 s9 s10 s11 s12 s13 s14 s15 s16 h0 n0) 16 128 T41 (mkF m 350 #[iv p1, .val (.long p2), .second, .val (.long p3), .second, iv p4, rv b1, iv i, rv r, iv (1 : Int32), .val (.long xx), .second, .val (.long yy), .second, .val (.long (own_can r s7 xx)), .second, .val (.long (own_can r s7 yy)), .second, iv (1 : Int32)] [(.int (1 : Int32))])
            refine own_retN X41 hx hlk (t := .boolean) Bd.returns (by simp) (hb hby at_350) (by decide) (by decide) ?_
            show Q0 Z p1 p2 p3 p4 s0 s1 s2 s3 s4 s5 s6 s7 s8 s9 s10 s11 s12 s13 s14 s15 s16 h0 n0 (some (.int (nar .boolean (1 : Int32)))) T41.heap _
            rw [eq41]
            exact ⟨rfl, N41⟩
          · refine own_st (fun _ kk_ => XS.ifNo X38.here hx rfl (hb hby at_247) rfl (XT.ll_ne_f ((own_c1 hr hx0).trans (own_c1 hr hy0).symm)) (XS.iconst X38.here hx rfl (hb hby at_250) (XS.goto X38.here hx rfl (pc0 := 251) (pc' := 255) rfl (hb hby at_251) (by decide) (by decide) (XS.lload X38.here hx rfl (hb hby at_255) rfl (XS.lconst X38.here hx rfl (hb hby at_257) (XT.lcmp X38.here hx rfl (hb hby at_258) rfl (XS.ifNo X38.here hx rfl (hb hby at_259) rfl (XT.ll_eq_f hx0) (XS.iconst X38.here hx rfl (hb hby at_262) kk_)))))))) ?_
            show own_Goes p e below s (Q0 Z p1 p2 p3 p4 s0 s1 s2 s3 s4 s5 s6 s7 s8 s9 s10 s11 s12 s13 s14 s15 s16 h0 n0) 16 128 T38 (mkF m 263 #[iv p1, .val (.long p2), .second, .val (.long p3), .second, iv p4, rv b1, iv i, rv r, iv (1 : Int32), .val (.long xx), .second, .val (.long yy), .second, .val (.long (own_can r s7 xx)), .second, .val (.long (own_can r s7 yy)), .second, iv (1 : Int32)] [(.int (1 : Int32)), (.int (1 : Int32))])
            refine own_st (fun _ kk_ => XS.goto X38.here hx rfl (pc0 := 263) (pc' := 267) rfl (hb hby at_263) (by decide) (by decide) (XS.lload X38.here hx rfl (hb hby at_267) rfl (XS.lconst X38.here hx rfl (hb hby at_269) (XT.lcmp X38.here hx rfl (hb hby at_270) rfl (XS.ifNo X38.here hx rfl (hb hby at_271) rfl (XT.ll_eq_f hy0) (XS.iconst X38.here hx rfl (hb hby at_274) (XS.goto X38.here hx rfl (pc0 := 275) (pc' := 279) rfl (hb hby at_275) (by decide) (by decide) (XS.icmpNo X38.here hx rfl (hb hby at_279) rfl (XT.ii_ne_f (by decide)) kk_)))))))) ?_
            show own_Goes p e below s (Q0 Z p1 p2 p3 p4 s0 s1 s2 s3 s4 s5 s6 s7 s8 s9 s10 s11 s12 s13 s14 s15 s16 h0 n0) 16 128 T38 (mkF m 282 #[iv p1, .val (.long p2), .second, .val (.long p3), .second, iv p4, rv b1, iv i, rv r, iv (1 : Int32), .val (.long xx), .second, .val (.long yy), .second, .val (.long (own_can r s7 xx)), .second, .val (.long (own_can r s7 yy)), .second, iv (1 : Int32)] [(.int (1 : Int32))])
            refine own_st (fun _ kk_ => XS.iconst X38.here hx rfl (hb hby at_282) (XS.goto X38.here hx rfl (pc0 := 283) (pc' := 287) rfl (hb hby at_283) (by decide) (by decide) (XS.icmpNo X38.here hx rfl (hb hby at_287) rfl (XT.ii_ne_f (by decide)) (XS.iconst X38.here hx rfl (hb hby at_290) (XS.goto X38.here hx rfl (pc0 := 291) (pc' := 295) rfl (hb hby at_291) (by decide) (by decide) (XS.istore X38.here hx rfl (hb hby at_295) rfl (l' := #[iv p1, .val (.long p2), .second, .val (.long p3), .second, iv p4, rv b1, iv i, rv r, iv (1 : Int32), .val (.long xx), .second, .val (.long yy), .second, .val (.long (own_can r s7 xx)), .second, .val (.long (own_can r s7 yy)), .second, iv (1 : Int32)]) rfl (XS.goto X38.here hx rfl (pc0 := 297) (pc' := 323) rfl (hb hby at_297) (by decide) (by decide) (XS.iload X38.here hx rfl (hb hby at_323) rfl kk_)))))))) ?_
            show own_Goes p e below s (Q0 Z p1 p2 p3 p4 s0 s1 s2 s3 s4 s5 s6 s7 s8 s9 s10 s11 s12 s13 s14 s15 s16 h0 n0) 16 128 T38 (mkF m 325 #[iv p1, .val (.long p2), .second, .val (.long p3), .second, iv p4, rv b1, iv i, rv r, iv (1 : Int32), .val (.long xx), .second, .val (.long yy), .second, .val (.long (own_can r s7 xx)), .second, .val (.long (own_can r s7 yy)), .second, iv (1 : Int32)] [(.int (1 : Int32))])
            refine own_st (fun _ kk_ => XS.ifNo X38.here hx rfl (hb hby at_325) rfl (XT.i0_eq_f (by decide)) (XS.aload X38.here hx rfl (hb hby at_328) rfl rfl (XS.lload X38.here hx rfl (hb hby at_330) rfl kk_))) ?_
            show own_Goes p e below s (Q0 Z p1 p2 p3 p4 s0 s1 s2 s3 s4 s5 s6 s7 s8 s9 s10 s11 s12 s13 s14 s15 s16 h0 n0) 16 128 T38 (mkF m 332 #[iv p1, .val (.long p2), .second, .val (.long p3), .second, iv p4, rv b1, iv i, rv r, iv (1 : Int32), .val (.long xx), .second, .val (.long yy), .second, .val (.long (own_can r s7 xx)), .second, .val (.long (own_can r s7 yy)), .second, iv (1 : Int32)] [(.long (own_can r s7 xx)), (.ref r)])
            obtain ⟨cq42, kq42, q42a, q42b, q42c⟩ := isOf hZ eq38 hr2
            obtain ⟨_, _, ⟨T42, L42, k42, n42⟩, -, X42, ⟨Lc42, hQ42, l42, y42, z42⟩, st42⟩ := X38.virtualBack hx (y := (⟨"com/example/wirefold/wirefold/FieldType", "canonical", "(J)J"⟩ : MethodName)) (z := (⟨"com/example/wirefold/wirefold/FieldType", "canonical", "(J)J"⟩ : MethodName)) hown (mvT hZ (hw _ (List.mem_of_getElem? (i := 39) rfl))) (mvT hZ (hw _ (List.mem_of_getElem? (i := 40) rfl))) (notFace_of_selects (args := #[]) (mvT hZ (hw _ (List.mem_of_getElem? (i := 42) rfl)))) (mvT hZ (hw _ (List.mem_of_getElem? (i := 42) rfl))) (mvT hZ (hw _ (List.mem_of_getElem? (i := 41) rfl))) (by decide) (backOf (W := 0) (rm1 l Z a0 hw [] (r) ((own_can r s7 xx)) (s7) h35 n0 Zs35 f35_0) hZ (hw _ (List.mem_of_getElem? (i := 43) rfl)) (hw _ (List.mem_of_getElem? (i := 3) rfl)) (by decide) (by decide)) q42a q42c (g := (mkF m 332 #[iv p1, .val (.long p2), .second, .val (.long p3), .second, iv p4, rv b1, iv i, rv r, iv (1 : Int32), .val (.long xx), .second, .val (.long yy), .second, .val (.long (own_can r s7 xx)), .second, .val (.long (own_can r s7 yy)), .second, iv (1 : Int32)] [(.long (own_can r s7 xx)), (.ref r)])) rfl (by rw [hml]; rfl) (Steps.refl _) (argsL := [(.long (own_can r s7 xx))]) (rest := []) (lenOf pd_0 rfl) rfl (by show 2 * 0 + _ ≤ _; exact Nat.le_of_eq rfl) (hb hby at_332) (fun _ _ => ⟨rfl, eq38, (by decide : 1 + 0 ≤ _), (by decide : 17 + 0 ≤ _)⟩)
            dsimp only [Pt.U, Pt.locs, Pt.cells, Pt.slots] at X42 l42 y42 z42 st42 hQ42
            subst l42 y42 z42
            obtain ⟨rfl, Nq42, eq42⟩ := hQ42
            have N42 := Fr.app N38 Nq42
            refine own_st (fun _ kk_ => st42.trans kk_) ?_
            show own_Goes p e below s (Q0 Z p1 p2 p3 p4 s0 s1 s2 s3 s4 s5 s6 s7 s8 s9 s10 s11 s12 s13 s14 s15 s16 h0 n0) 16 128 T42 (mkF m 335 #[iv p1, .val (.long p2), .second, .val (.long p3), .second, iv p4, rv b1, iv i, rv r, iv (1 : Int32), .val (.long xx), .second, .val (.long yy), .second, .val (.long (own_can r s7 xx)), .second, .val (.long (own_can r s7 yy)), .second, iv (1 : Int32)] [(.long (own_can r s7 (own_can r s7 xx)))])
            refine own_st (fun _ kk_ => XS.lload X42.here hx rfl (hb hby at_335) rfl (XT.lcmp X42.here hx rfl (hb hby at_337) rfl (XS.ifNo X42.here hx rfl (hb hby at_338) rfl (XT.ll_ne_f own_ci) (XS.iconst X42.here hx rfl (hb hby at_341) (XS.goto X42.here hx rfl (pc0 := 342) (pc' := 346) rfl (hb hby at_342) (by decide) (by decide) (XS.istore X42.here hx rfl (hb hby at_346) rfl (l' := #[iv p1, .val (.long p2), .second, .val (.long p3), .second, iv p4, rv b1, iv i, rv r, iv (1 : Int32), .val (.long xx), .second, .val (.long yy), .second, .val (.long (own_can r s7 xx)), .second, .val (.long (own_can r s7 yy)), .second, iv (1 : Int32)]) rfl (XS.iload X42.here hx rfl (hb hby at_348) rfl kk_))))))) ?_
            show own_Goes p e below s (Q0 Z p1 p2 p3 p4 s0 s1 s2 s3 s4 s5 s6 s7 s8 s9 s10 s11 s12 s13 s14 s15 s16 h0 n0) 16 128 T42 (mkF m 350 #[iv p1, .val (.long p2), .second, .val (.long p3), .second, iv p4, rv b1, iv i, rv r, iv (1 : Int32), .val (.long xx), .second, .val (.long yy), .second, .val (.long (own_can r s7 xx)), .second, .val (.long (own_can r s7 yy)), .second, iv (1 : Int32)] [(.int (1 : Int32))])
            refine own_retN X42 hx hlk (t := .boolean) Bd.returns (by simp) (hb hby at_350) (by decide) (by decide) ?_
            show Q0 Z p1 p2 p3 p4 s0 s1 s2 s3 s4 s5 s6 s7 s8 s9 s10 s11 s12 s13 s14 s15 s16 h0 n0 (some (.int (nar .boolean (1 : Int32)))) T42.heap _
            rw [eq42]
            exact ⟨rfl, N42⟩
      rcases Classical.em ((p4 &&& (2 : Int32)) = (0 : Int32)) with qy | qy
      · refine own_st (fun _ kk_ => XS.ifYes X35.here hx rfl (pc0 := 168) (pc' := 175) rfl (hb hby at_168) rfl (XT.i0_eq_t qy) (by decide) (by decide) (XS.lloadN X35.here hx rfl (hb hby at_175) rfl kk_)) ?_
        show own_Goes p e below s (Q0 Z p1 p2 p3 p4 s0 s1 s2 s3 s4 s5 s6 s7 s8 s9 s10 s11 s12 s13 s14 s15 s16 h0 n0) 16 128 T35 (mkF m 176 #[iv p1, .val (.long p2), .second, .val (.long p3), .second, iv p4, rv b1, iv i, rv r, iv (1 : Int32), .val (.long xx), .second, .unset, .unset, .unset, .unset, .unset, .unset, .unset] [(.long p3)])
        exact J176 (p3)
      · refine own_st (fun _ kk_ => XS.ifNo X35.here hx rfl (hb hby at_168) rfl (XT.i0_eq_f qy) (XS.lconst X35.here hx rfl (hb hby at_171) (XS.goto X35.here hx rfl (pc0 := 172) (pc' := 176) rfl (hb hby at_172) (by decide) (by decide) kk_))) ?_
        show own_Goes p e below s (Q0 Z p1 p2 p3 p4 s0 s1 s2 s3 s4 s5 s6 s7 s8 s9 s10 s11 s12 s13 s14 s15 s16 h0 n0) 16 128 T35 (mkF m 176 #[iv p1, .val (.long p2), .second, .val (.long p3), .second, iv p4, rv b1, iv i, rv r, iv (1 : Int32), .val (.long xx), .second, .unset, .unset, .unset, .unset, .unset, .unset, .unset] [(.long (0 : Int64))])
        exact J176 ((0 : Int64))
    rcases Classical.em ((p4 &&& (1 : Int32)) = (0 : Int32)) with qz | qz
    · refine own_st (fun _ kk_ => XS.ifYes X35.here hx rfl (pc0 := 154) (pc' := 161) rfl (hb hby at_154) rfl (XT.i0_eq_t qz) (by decide) (by decide) (XS.lloadN X35.here hx rfl (hb hby at_161) rfl kk_)) ?_
      show own_Goes p e below s (Q0 Z p1 p2 p3 p4 s0 s1 s2 s3 s4 s5 s6 s7 s8 s9 s10 s11 s12 s13 s14 s15 s16 h0 n0) 16 128 T35 (mkF m 162 #[iv p1, .val (.long p2), .second, .val (.long p3), .second, iv p4, rv b1, iv i, rv r, iv (1 : Int32), .unset, .unset, .unset, .unset, .unset, .unset, .unset, .unset, .unset] [(.long p2)])
      exact J162 (p2)
    · refine own_st (fun _ kk_ => XS.ifNo X35.here hx rfl (hb hby at_154) rfl (XT.i0_eq_f qz) (XS.lconst X35.here hx rfl (hb hby at_157) (XS.goto X35.here hx rfl (pc0 := 158) (pc' := 162) rfl (hb hby at_158) (by decide) (by decide) kk_))) ?_
      show own_Goes p e below s (Q0 Z p1 p2 p3 p4 s0 s1 s2 s3 s4 s5 s6 s7 s8 s9 s10 s11 s12 s13 s14 s15 s16 h0 n0) 16 128 T35 (mkF m 162 #[iv p1, .val (.long p2), .second, .val (.long p3), .second, iv p4, rv b1, iv i, rv r, iv (1 : Int32), .unset, .unset, .unset, .unset, .unset, .unset, .unset, .unset, .unset] [(.long (0 : Int64))])
      exact J162 ((0 : Int64))
  · refine own_st (fun _ kk_ => XS.icmpYes X35.here hx rfl (pc0 := 140) (pc' := 147) rfl (hb hby at_140) rfl (XT.ii_ne_t h7) (by decide) (by decide) (XS.iconst X35.here hx rfl (hb hby at_147) (XS.istore X35.here hx rfl (hb hby at_148) rfl (l' := #[iv p1, .val (.long p2), .second, .val (.long p3), .second, iv p4, rv b1, iv i, rv r, iv (0 : Int32), .unset, .unset, .unset, .unset, .unset, .unset, .unset, .unset, .unset]) rfl (XS.iload X35.here hx rfl (hb hby at_150) rfl (XS.iconst X35.here hx rfl (hb hby at_152) (XS.iand X35.here hx rfl (hb hby at_153) rfl kk_)))))) ?_
    show own_Goes p e below s (Q0 Z p1 p2 p3 p4 s0 s1 s2 s3 s4 s5 s6 s7 s8 s9 s10 s11 s12 s13 s14 s15 s16 h0 n0) 16 128 T35 (mkF m 154 #[iv p1, .val (.long p2), .second, .val (.long p3), .second, iv p4, rv b1, iv i, rv r, iv (0 : Int32), .unset, .unset, .unset, .unset, .unset, .unset, .unset, .unset, .unset] [(.int (p4 &&& (1 : Int32)))])
    have J162 : ∀ (xx : Int64), own_Goes p e below s (Q0 Z p1 p2 p3 p4 s0 s1 s2 s3 s4 s5 s6 s7 s8 s9 s10 s11 s12 s13 s14 s15 s16 h0 n0) 16 128 T35 (mkF m 162 #[iv p1, .val (.long p2), .second, .val (.long p3), .second, iv p4, rv b1, iv i, rv r, iv (0 : Int32), .unset, .unset, .unset, .unset, .unset, .unset, .unset, .unset, .unset] [(.long xx)]) := by
      intro xx
      show own_Goes p e below s (Q0 Z p1 p2 p3 p4 s0 s1 s2 s3 s4 s5 s6 s7 s8 s9 s10 s11 s12 s13 s14 s15 s16 h0 n0) 16 128 T35 (mkF m 162 #[iv p1, .val (.long p2), .second, .val (.long p3), .second, iv p4, rv b1, iv i, rv r, iv (0 : Int32), .unset, .unset, .unset, .unset, .unset, .unset, .unset, .unset, .unset] [(.long xx)])
      refine own_st (fun _ kk_ => XS.lstore X35.here hx rfl (hb hby at_162) rfl (l' := #[iv p1, .val (.long p2), .second, .val (.long p3), .second, iv p4, rv b1, iv i, rv r, iv (0 : Int32), .val (.long xx), .second, .unset, .unset, .unset, .unset, .unset, .unset, .unset]) rfl (XS.iload X35.here hx rfl (hb hby at_164) rfl (XS.iconst X35.here hx rfl (hb hby at_166) (XS.iand X35.here hx rfl (hb hby at_167) rfl kk_)))) ?_
      show own_Goes p e below s (Q0 Z p1 p2 p3 p4 s0 s1 s2 s3 s4 s5 s6 s7 s8 s9 s10 s11 s12 s13 s14 s15 s16 h0 n0) 16 128 T35 (mkF m 168 #[iv p1, .val (.long p2), .second, .val (.long p3), .second, iv p4, rv b1, iv i, rv r, iv (0 : Int32), .val (.long xx), .second, .unset, .unset, .unset, .unset, .unset, .unset, .unset] [(.int (p4 &&& (2 : Int32)))])
      have J176 : ∀ (yy : Int64), own_Goes p e below s (Q0 Z p1 p2 p3 p4 s0 s1 s2 s3 s4 s5 s6 s7 s8 s9 s10 s11 s12 s13 s14 s15 s16 h0 n0) 16 128 T35 (mkF m 176 #[iv p1, .val (.long p2), .second, .val (.long p3), .second, iv p4, rv b1, iv i, rv r, iv (0 : Int32), .val (.long xx), .second, .unset, .unset, .unset, .unset, .unset, .unset, .unset] [(.long yy)]) := by
        intro yy
        show own_Goes p e below s (Q0 Z p1 p2 p3 p4 s0 s1 s2 s3 s4 s5 s6 s7 s8 s9 s10 s11 s12 s13 s14 s15 s16 h0 n0) 16 128 T35 (mkF m 176 #[iv p1, .val (.long p2), .second, .val (.long p3), .second, iv p4, rv b1, iv i, rv r, iv (0 : Int32), .val (.long xx), .second, .unset, .unset, .unset, .unset, .unset, .unset, .unset] [(.long yy)])
        refine own_st (fun _ kk_ => XS.lstore X35.here hx rfl (hb hby at_176) rfl (l' := #[iv p1, .val (.long p2), .second, .val (.long p3), .second, iv p4, rv b1, iv i, rv r, iv (0 : Int32), .val (.long xx), .second, .val (.long yy), .second, .unset, .unset, .unset, .unset, .unset]) rfl (XS.aload X35.here hx rfl (hb hby at_178) rfl rfl (XS.lload X35.here hx rfl (hb hby at_180) rfl kk_))) ?_
        show own_Goes p e below s (Q0 Z p1 p2 p3 p4 s0 s1 s2 s3 s4 s5 s6 s7 s8 s9 s10 s11 s12 s13 s14 s15 s16 h0 n0) 16 128 T35 (mkF m 182 #[iv p1, .val (.long p2), .second, .val (.long p3), .second, iv p4, rv b1, iv i, rv r, iv (0 : Int32), .val (.long xx), .second, .val (.long yy), .second, .unset, .unset, .unset, .unset, .unset] [(.long xx), (.ref r)])
        obtain ⟨cq43, kq43, q43a, q43b, q43c⟩ := isOf hZ e35 hr2
        obtain ⟨_, _, ⟨T43, L43, k43, n43⟩, -, X43, ⟨Lc43, hQ43, l43, y43, z43⟩, st43⟩ := X35.virtualBack hx (y := (⟨"com/example/wirefold/wirefold/FieldType", "canonical", "(J)J"⟩ : MethodName)) (z := (⟨"com/example/wirefold/wirefold/FieldType", "canonical", "(J)J"⟩ : MethodName)) hown (mvT hZ (hw _ (List.mem_of_getElem? (i := 39) rfl))) (mvT hZ (hw _ (List.mem_of_getElem? (i := 40) rfl))) (notFace_of_selects (args := #[]) (mvT hZ (hw _ (List.mem_of_getElem? (i := 42) rfl)))) (mvT hZ (hw _ (List.mem_of_getElem? (i := 42) rfl))) (mvT hZ (hw _ (List.mem_of_getElem? (i := 41) rfl))) (by decide) (backOf (W := 0) (rm1 l Z a0 hw [] (r) (xx) (s7) h35 n0 Zs35 f35_0) hZ (hw _ (List.mem_of_getElem? (i := 43) rfl)) (hw _ (List.mem_of_getElem? (i := 3) rfl)) (by decide) (by decide)) q43a q43c (g := (mkF m 182 #[iv p1, .val (.long p2), .second, .val (.long p3), .second, iv p4, rv b1, iv i, rv r, iv (0 : Int32), .val (.long xx), .second, .val (.long yy), .second, .unset, .unset, .unset, .unset, .unset] [(.long xx), (.ref r)])) rfl (by rw [hml]; rfl) (Steps.refl _) (argsL := [(.long xx)]) (rest := []) (lenOf pd_0 rfl) rfl (by show 2 * 0 + _ ≤ _; exact Nat.le_of_eq rfl) (hb hby at_182) (fun _ _ => ⟨rfl, e35, (by decide : 1 + 0 ≤ _), (by decide : 17 + 0 ≤ _)⟩)
        dsimp only [Pt.U, Pt.locs, Pt.cells, Pt.slots] at X43 l43 y43 z43 st43 hQ43
        subst l43 y43 z43
        obtain ⟨rfl, Nq43, eq43⟩ := hQ43
        have N43 := Fr.app N35 Nq43
        refine own_st (fun _ kk_ => st43.trans kk_) ?_
        show own_Goes p e below s (Q0 Z p1 p2 p3 p4 s0 s1 s2 s3 s4 s5 s6 s7 s8 s9 s10 s11 s12 s13 s14 s15 s16 h0 n0) 16 128 T43 (mkF m 185 #[iv p1, .val (.long p2), .second, .val (.long p3), .second, iv p4, rv b1, iv i, rv r, iv (0 : Int32), .val (.long xx), .second, .val (.long yy), .second, .unset, .unset, .unset, .unset, .unset] [(.long (own_can r s7 xx))])
        refine own_st (fun _ kk_ => XS.lstore X43.here hx rfl (hb hby at_185) rfl (l' := #[iv p1, .val (.long p2), .second, .val (.long p3), .second, iv p4, rv b1, iv i, rv r, iv (0 : Int32), .val (.long xx), .second, .val (.long yy), .second, .val (.long (own_can r s7 xx)), .second, .unset, .unset, .unset]) rfl (XS.aload X43.here hx rfl (hb hby at_187) rfl rfl (XS.lload X43.here hx rfl (hb hby at_189) rfl kk_))) ?_
        show own_Goes p e below s (Q0 Z p1 p2 p3 p4 s0 s1 s2 s3 s4 s5 s6 s7 s8 s9 s10 s11 s12 s13 s14 s15 s16 h0 n0) 16 128 T43 (mkF m 191 #[iv p1, .val (.long p2), .second, .val (.long p3), .second, iv p4, rv b1, iv i, rv r, iv (0 : Int32), .val (.long xx), .second, .val (.long yy), .second, .val (.long (own_can r s7 xx)), .second, .unset, .unset, .unset] [(.long yy), (.ref r)])
        obtain ⟨cq44, kq44, q44a, q44b, q44c⟩ := isOf hZ eq43 hr2
        obtain ⟨_, _, ⟨T44, L44, k44, n44⟩, -, X44, ⟨Lc44, hQ44, l44, y44, z44⟩, st44⟩ := X43.virtualBack hx (y := (⟨"com/example/wirefold/wirefold/FieldType", "canonical", "(J)J"⟩ : MethodName)) (z := (⟨"com/example/wirefold/wirefold/FieldType", "canonical", "(J)J"⟩ : MethodName)) hown (mvT hZ (hw _ (List.mem_of_getElem? (i := 39) rfl))) (mvT hZ (hw _ (List.mem_of_getElem? (i := 40) rfl))) (notFace_of_selects (args := #[]) (mvT hZ (hw _ (List.mem_of_getElem? (i := 42) rfl)))) (mvT hZ (hw _ (List.mem_of_getElem? (i := 42) rfl))) (mvT hZ (hw _ (List.mem_of_getElem? (i := 41) rfl))) (by decide) (backOf (W := 0) (rm1 l Z a0 hw [] (r) (yy) (s7) h35 n0 Zs35 f35_0) hZ (hw _ (List.mem_of_getElem? (i := 43) rfl)) (hw _ (List.mem_of_getElem? (i := 3) rfl)) (by decide) (by decide)) q44a q44c (g := (mkF m 191 #[iv p1, .val (.long p2), .second, .val (.long p3), .second, iv p4, rv b1, iv i, rv r, iv (0 : Int32), .val (.long xx), .second, .val (.long yy), .second, .val (.long (own_can r s7 xx)), .second, .unset, .unset, .unset] [(.long yy), (.ref r)])) rfl (by rw [hml]; rfl) (Steps.refl _) (argsL := [(.long yy)]) (rest := []) (lenOf pd_0 rfl) rfl (by show 2 * 0 + _ ≤ _; exact Nat.le_of_eq rfl) (hb hby at_191) (fun _ _ => ⟨rfl, eq43, (by decide : 1 + 0 ≤ _), (by decide : 17 + 0 ≤ _)⟩)
        dsimp only [Pt.U, Pt.locs, Pt.cells, Pt.slots] at X44 l44 y44 z44 st44 hQ44
        subst l44 y44 z44
        obtain ⟨rfl, Nq44, eq44⟩ := hQ44
        have N44 := Fr.app N43 Nq44
        refine own_st (fun _ kk_ => st44.trans kk_) ?_
        show own_Goes p e below s (Q0 Z p1 p2 p3 p4 s0 s1 s2 s3 s4 s5 s6 s7 s8 s9 s10 s11 s12 s13 s14 s15 s16 h0 n0) 16 128 T44 (mkF m 194 #[iv p1, .val (.long p2), .second, .val (.long p3), .second, iv p4, rv b1, iv i, rv r, iv (0 : Int32), .val (.long xx), .second, .val (.long yy), .second, .val (.long (own_can r s7 xx)), .second, .unset, .unset, .unset] [(.long (own_can r s7 yy))])
        refine own_st (fun _ kk_ => XS.lstore X44.here hx rfl (hb hby at_194) rfl (l' := #[iv p1, .val (.long p2), .second, .val (.long p3), .second, iv p4, rv b1, iv i, rv r, iv (0 : Int32), .val (.long xx), .second, .val (.long yy), .second, .val (.long (own_can r s7 xx)), .second, .val (.long (own_can r s7 yy)), .second, .unset]) rfl (XS.iload X44.here hx rfl (hb hby at_196) rfl (XS.ifYes X44.here hx rfl (pc0 := 198) (pc' := 300) rfl (hb hby at_198) rfl (XT.i0_eq_t (by decide)) (by decide) (by decide) (XS.lload X44.here hx rfl (hb hby at_300) rfl (XS.lload X44.here hx rfl (hb hby at_302) rfl (XT.lcmp X44.here hx rfl (hb hby at_304) rfl (XS.ifNo X44.here hx rfl (hb hby at_305) rfl (XT.ll_ne_f (own_cn hr)) (XS.lload X44.here hx rfl (hb hby at_308) rfl kk_)))))))) ?_
        show own_Goes p e below s (Q0 Z p1 p2 p3 p4 s0 s1 s2 s3 s4 s5 s6 s7 s8 s9 s10 s11 s12 s13 s14 s15 s16 h0 n0) 16 128 T44 (mkF m 310 #[iv p1, .val (.long p2), .second, .val (.long p3), .second, iv p4, rv b1, iv i, rv r, iv (0 : Int32), .val (.long xx), .second, .val (.long yy), .second, .val (.long (own_can r s7 xx)), .second, .val (.long (own_can r s7 yy)), .second, .unset] [(.long (own_can r s7 yy))])
        refine own_st (fun _ kk_ => XS.lload X44.here hx rfl (hb hby at_310) rfl (XT.lcmp X44.here hx rfl (hb hby at_312) rfl (XS.ifNo X44.here hx rfl (hb hby at_313) rfl (XT.ll_ne_f (own_cn hr)) (XS.iconst X44.here hx rfl (hb hby at_316) (XS.goto X44.here hx rfl (pc0 := 317) (pc' := 321) rfl (hb hby at_317) (by decide) (by decide) (XS.istore X44.here hx rfl (hb hby at_321) rfl (l' := #[iv p1, .val (.long p2), .second, .val (.long p3), .second, iv p4, rv b1, iv i, rv r, iv (0 : Int32), .val (.long xx), .second, .val (.long yy), .second, .val (.long (own_can r s7 xx)), .second, .val (.long (own_can r s7 yy)), .second, iv (1 : Int32)]) rfl (XS.iload X44.here hx rfl (hb hby at_323) rfl (XS.ifNo X44.here hx rfl (hb hby at_325) rfl (XT.i0_eq_f (by decide)) kk_)))))))) ?_
        show own_Goes p e below s (Q0 Z p1 p2 p3 p4 s0 s1 s2 s3 s4 s5 s6 s7 s8 s9 s10 s11 s12 s13 s14 s15 s16 h0 n0) 16 128 T44 (mkF m 328 #[iv p1, .val (.long p2), .second, .val (.long p3), .second, iv p4, rv b1, iv i, rv r, iv (0 : Int32), .val (.long xx), .second, .val (.long yy), .second, .val (.long (own_can r s7 xx)), .second, .val (.long (own_can r s7 yy)), .second, iv (1 : Int32)] [])
        refine own_st (fun _ kk_ => XS.aload X44.here hx rfl (hb hby at_328) rfl rfl (XS.lload X44.here hx rfl (hb hby at_330) rfl kk_)) ?_
        show own_Goes p e below s (Q0 Z p1 p2 p3 p4 s0 s1 s2 s3 s4 s5 s6 s7 s8 s9 s10 s11 s12 s13 s14 s15 s16 h0 n0) 16 128 T44 (mkF m 332 #[iv p1, .val (.long p2), .second, .val (.long p3), .second, iv p4, rv b1, iv i, rv r, iv (0 : Int32), .val (.long xx), .second, .val (.long yy), .second, .val (.long (own_can r s7 xx)), .second, .val (.long (own_can r s7 yy)), .second, iv (1 : Int32)] [(.long (own_can r s7 xx)), (.ref r)])
        obtain ⟨cq45, kq45, q45a, q45b, q45c⟩ := isOf hZ eq44 hr2
        obtain ⟨_, _, ⟨T45, L45, k45, n45⟩, -, X45, ⟨Lc45, hQ45, l45, y45, z45⟩, st45⟩ := X44.virtualBack hx (y := (⟨"com/example/wirefold/wirefold/FieldType", "canonical", "(J)J"⟩ : MethodName)) (z := (⟨"com/example/wirefold/wirefold/FieldType", "canonical", "(J)J"⟩ : MethodName)) hown (mvT hZ (hw _ (List.mem_of_getElem? (i := 39) rfl))) (mvT hZ (hw _ (List.mem_of_getElem? (i := 40) rfl))) (notFace_of_selects (args := #[]) (mvT hZ (hw _ (List.mem_of_getElem? (i := 42) rfl)))) (mvT hZ (hw _ (List.mem_of_getElem? (i := 42) rfl))) (mvT hZ (hw _ (List.mem_of_getElem? (i := 41) rfl))) (by decide) (backOf (W := 0) (rm1 l Z a0 hw [] (r) ((own_can r s7 xx)) (s7) h35 n0 Zs35 f35_0) hZ (hw _ (List.mem_of_getElem? (i := 43) rfl)) (hw _ (List.mem_of_getElem? (i := 3) rfl)) (by decide) (by decide)) q45a q45c (g := (mkF m 332 #[iv p1, .val (.long p2), .second, .val (.long p3), .second, iv p4, rv b1, iv i, rv r, iv (0 : Int32), .val (.long xx), .second, .val (.long yy), .second, .val (.long (own_can r s7 xx)), .second, .val (.long (own_can r s7 yy)), .second, iv (1 : Int32)] [(.long (own_can r s7 xx)), (.ref r)])) rfl (by rw [hml]; rfl) (Steps.refl _) (argsL := [(.long (own_can r s7 xx))]) (rest := []) (lenOf pd_0 rfl) rfl (by show 2 * 0 + _ ≤ _; exact Nat.le_of_eq rfl) (hb hby at_332) (fun _ _ => ⟨rfl, eq44, (by decide : 1 + 0 ≤ _), (by decide : 17 + 0 ≤ _)⟩)
        dsimp only [Pt.U, Pt.locs, Pt.cells, Pt.slots] at X45 l45 y45 z45 st45 hQ45
        subst l45 y45 z45
        obtain ⟨rfl, Nq45, eq45⟩ := hQ45
        have N45 := Fr.app N44 Nq45
        refine own_st (fun _ kk_ => st45.trans kk_) ?_
        show own_Goes p e below s (Q0 Z p1 p2 p3 p4 s0 s1 s2 s3 s4 s5 s6 s7 s8 s9 s10 s11 s12 s13 s14 s15 s16 h0 n0) 16 128 T45 (mkF m 335 #[iv p1, .val (.long p2), .second, .val (.long p3), .second, iv p4, rv b1, iv i, rv r, iv (0 : Int32), .val (.long xx), .second, .val (.long yy), .second, .val (.long (own_can r s7 xx)), .second, .val (.long (own_can r s7 yy)), .second, iv (1 : Int32)] [(.long (own_can r s7 (own_can r s7 xx)))])
        refine own_st (fun _ kk_ => XS.lload X45.here hx rfl (hb hby at_335) rfl (XT.lcmp X45.here hx rfl (hb hby at_337) rfl (XS.ifNo X45.here hx rfl (hb hby at_338) rfl (XT.ll_ne_f own_ci) (XS.iconst X45.here hx rfl (hb hby at_341) (XS.goto X45.here hx rfl (pc0 := 342) (pc' := 346) rfl (hb hby at_342) (by decide) (by decide) (XS.istore X45.here hx rfl (hb hby at_346) rfl (l' := #[iv p1, .val (.long p2), .second, .val (.long p3), .second, iv p4, rv b1, iv i, rv r, iv (0 : Int32), .val (.long xx), .second, .val (.long yy), .second, .val (.long (own_can r s7 xx)), .second, .val (.long (own_can r s7 yy)), .second, iv (1 : Int32)]) rfl (XS.iload X45.here hx rfl (hb hby at_348) rfl kk_))))))) ?_
        show own_Goes p e below s (Q0 Z p1 p2 p3 p4 s0 s1 s2 s3 s4 s5 s6 s7 s8 s9 s10 s11 s12 s13 s14 s15 s16 h0 n0) 16 128 T45 (mkF m 350 #[iv p1, .val (.long p2), .second, .val (.long p3), .second, iv p4, rv b1, iv i, rv r, iv (0 : Int32), .val (.long xx), .second, .val (.long yy), .second, .val (.long (own_can r s7 xx)), .second, .val (.long (own_can r s7 yy)), .second, iv (1 : Int32)] [(.int (1 : Int32))])
        refine own_retN X45 hx hlk (t := .boolean) Bd.returns (by simp) (hb hby at_350) (by decide) (by decide) ?_
        show Q0 Z p1 p2 p3 p4 s0 s1 s2 s3 s4 s5 s6 s7 s8 s9 s10 s11 s12 s13 s14 s15 s16 h0 n0 (some (.int (nar .boolean (1 : Int32)))) T45.heap _
        rw [eq45]
        exact ⟨rfl, N45⟩
      rcases Classical.em ((p4 &&& (2 : Int32)) = (0 : Int32)) with qy | qy
      · refine own_st (fun _ kk_ => XS.ifYes X35.here hx rfl (pc0 := 168) (pc' := 175) rfl (hb hby at_168) rfl (XT.i0_eq_t qy) (by decide) (by decide) (XS.lloadN X35.here hx rfl (hb hby at_175) rfl kk_)) ?_
        show own_Goes p e below s (Q0 Z p1 p2 p3 p4 s0 s1 s2 s3 s4 s5 s6 s7 s8 s9 s10 s11 s12 s13 s14 s15 s16 h0 n0) 16 128 T35 (mkF m 176 #[iv p1, .val (.long p2), .second, .val (.long p3), .second, iv p4, rv b1, iv i, rv r, iv (0 : Int32), .val (.long xx), .second, .unset, .unset, .unset, .unset, .unset, .unset, .unset] [(.long p3)])
        exact J176 (p3)
      · refine own_st (fun _ kk_ => XS.ifNo X35.here hx rfl (hb hby at_168) rfl (XT.i0_eq_f qy) (XS.lconst X35.here hx rfl (hb hby at_171) (XS.goto X35.here hx rfl (pc0 := 172) (pc' := 176) rfl (hb hby at_172) (by decide) (by decide) kk_))) ?_
        show own_Goes p e below s (Q0 Z p1 p2 p3 p4 s0 s1 s2 s3 s4 s5 s6 s7 s8 s9 s10 s11 s12 s13 s14 s15 s16 h0 n0) 16 128 T35 (mkF m 176 #[iv p1, .val (.long p2), .second, .val (.long p3), .second, iv p4, rv b1, iv i, rv r, iv (0 : Int32), .val (.long xx), .second, .unset, .unset, .unset, .unset, .unset, .unset, .unset] [(.long (0 : Int64))])
        exact J176 ((0 : Int64))
    rcases Classical.em ((p4 &&& (1 : Int32)) = (0 : Int32)) with qz | qz
    · refine own_st (fun _ kk_ => XS.ifYes X35.here hx rfl (pc0 := 154) (pc' := 161) rfl (hb hby at_154) rfl (XT.i0_eq_t qz) (by decide) (by decide) (XS.lloadN X35.here hx rfl (hb hby at_161) rfl kk_)) ?_
      show own_Goes p e below s (Q0 Z p1 p2 p3 p4 s0 s1 s2 s3 s4 s5 s6 s7 s8 s9 s10 s11 s12 s13 s14 s15 s16 h0 n0) 16 128 T35 (mkF m 162 #[iv p1, .val (.long p2), .second, .val (.long p3), .second, iv p4, rv b1, iv i, rv r, iv (0 : Int32), .unset, .unset, .unset, .unset, .unset, .unset, .unset, .unset, .unset] [(.long p2)])
      exact J162 (p2)
    · refine own_st (fun _ kk_ => XS.ifNo X35.here hx rfl (hb hby at_154) rfl (XT.i0_eq_f qz) (XS.lconst X35.here hx rfl (hb hby at_157) (XS.goto X35.here hx rfl (pc0 := 158) (pc' := 162) rfl (hb hby at_158) (by decide) (by decide) kk_))) ?_
      show own_Goes p e below s (Q0 Z p1 p2 p3 p4 s0 s1 s2 s3 s4 s5 s6 s7 s8 s9 s10 s11 s12 s13 s14 s15 s16 h0 n0) 16 128 T35 (mkF m 162 #[iv p1, .val (.long p2), .second, .val (.long p3), .second, iv p4, rv b1, iv i, rv r, iv (0 : Int32), .unset, .unset, .unset, .unset, .unset, .unset, .unset, .unset, .unset] [(.long (0 : Int64))])
      exact J162 ((0 : Int64))
set_option maxRecDepth 65536 in
set_option maxHeartbeats 40000000 in
theorem comes_1 {Post : Tables → Env → Array Value → State → Outcome → State → Prop} (hpost : ∀ tb e args s v u, (limb_1_1.after args s (.returned v) u = true ∧ limb_1_2.after args s (.returned v) u = true ∧ True) → FrameEnd s (.returned v) u (Jvm.fieldLocs frame_1_writes args s ++ Jvm.arrayLocs frame_1_arrays args s ++ Jvm.staticLocs frame_1_statics s) 16 128 → Post tb e args s (.returned v) u) :
    ArmFor flags0 classFile x code maxLocals ret World_1 tables_1 room_1 Calls_1 rest_1 Pre_1 Post := by
  intro l hfl _ _ p e ha hc hk s m args below hf hA hF happ hP
  obtain ⟨hcalls, hrest, hpre⟩ := hP
  obtain ⟨-, -, -, hnamed, -, -, -, hat⟩ := (Spec.applies_iff hf).mp happ
  obtain ⟨hg, hn⟩ := and_e (Cond.before_iff.mp (show (Jvm.Cond.and given_1 narrow_1).before args s = true from hpre))
  obtain ⟨h1, g0⟩ := and_e hg
  obtain ⟨w0, w1, w2, w3, rfl⟩ : ∃ w0 w1 w2 w3 : Value, args = #[w0, w1, w2, w3] := by
    have hs : args.size = 4 := by simpa [Cond.value, given_1] using h1
    obtain ⟨L⟩ := args
    match L, hs with
    | [w0, w1, w2, w3], _ => exact ⟨w0, w1, w2, w3, rfl⟩
  have hw := fun d (hd : d ∈ tables_1) => atoms_spec (ws := Jvm.Cond.code x code maxLocals ret :: tables_1) hat d (List.mem_cons_of_mem _ hd)
  have hfit : Fit s := fun {y c} hc i hi => by
    obtain ⟨ha, rfl⟩ := Array.getElem?_eq_some_iff.mp hc
    have q := List.all_eq_true.mp ((Array.all_eq_true_iff_forall_mem.mp hF) _ (Array.getElem_mem ha)) i (List.mem_range.mpr hi)
    simpa [Array.getElem?_eq_getElem hi] using q
  obtain ⟨k0, g1⟩ := and_e g0
  obtain ⟨i0, e0⟩ := is_v k0
  obtain rfl : w0 = (.int i0) := Option.some.inj e0
  obtain ⟨k1, g2⟩ := and_e g1
  obtain ⟨i1, e1⟩ := isL_v k1
  obtain rfl : w1 = (.long i1) := Option.some.inj e1
  obtain ⟨k2, g3⟩ := and_e g2
  obtain ⟨i2, e2⟩ := isL_v k2
  obtain rfl : w2 = (.long i2) := Option.some.inj e2
  obtain ⟨i3, e3⟩ := is_v g3
  obtain rfl : w3 = (.int i3) := Option.some.inj e3
  obtain ⟨c0, r0⟩ := and_e hn
  obtain ⟨c1, r1⟩ := and_e r0
  obtain ⟨c2, r2⟩ := and_e r1
  obtain ⟨c3, r3⟩ := and_e r2
  obtain ⟨c4, r4⟩ := and_e r3
  obtain ⟨c5, r5⟩ := and_e r4
  obtain ⟨c6, r6⟩ := and_e r5
  obtain ⟨c7, r7⟩ := and_e r6
  obtain ⟨c8, r8⟩ := and_e r7
  obtain ⟨c9, r9⟩ := and_e r8
  obtain ⟨c10, r10⟩ := and_e r9
  obtain ⟨c11, r11⟩ := and_e r10
  obtain ⟨c12, r12⟩ := and_e r11
  obtain ⟨c13, r13⟩ := and_e r12
  obtain ⟨c14, r14⟩ := and_e r13
  obtain ⟨c15, r15⟩ := and_e r14
  obtain ⟨c16, r16⟩ := and_e r15
  obtain ⟨c17, r17⟩ := and_e r16
  obtain ⟨c18, r18⟩ := and_e r17
  obtain ⟨c19, r19⟩ := and_e r18
  obtain ⟨c20, r20⟩ := and_e r19
  obtain ⟨c21, r21⟩ := and_e r20
  obtain ⟨c22, r22⟩ := and_e r21
  obtain ⟨c23, r23⟩ := and_e r22
  obtain ⟨c24, r24⟩ := and_e r23
  obtain ⟨c25, r25⟩ := and_e r24
  obtain ⟨c26, r26⟩ := and_e r25
  obtain ⟨c27, r27⟩ := and_e r26
  obtain ⟨c28, r28⟩ := and_e r27
  obtain ⟨c29, r29⟩ := and_e r28
  obtain ⟨c30, r30⟩ := and_e r29
  obtain ⟨c31, r31⟩ := and_e r30
  obtain ⟨c32, r32⟩ := and_e r31
  have c33 := r32
  obtain ⟨s_DOUBLE, ev_DOUBLE⟩ := exa_v c0
  have Ex_DOUBLE : Exa s s.heap s_DOUBLE "com/example/wirefold/wirefold/FieldType" := Exa.start ev_DOUBLE c0
  have St_DOUBLE : Sta s s.heap "com/example/wirefold/wirefold/FieldType" "DOUBLE" "Lcom/example/wirefold/wirefold/FieldType;" (.ref s_DOUBLE) := Sta.start ev_DOUBLE (Or.inr ⟨(hw _ (List.mem_of_getElem? (i := 3) rfl)), (hw _ (List.mem_of_getElem? (i := 4) rfl))⟩)
  obtain ⟨s_FLOAT, ev_FLOAT⟩ := exa_v c1
  have Ex_FLOAT : Exa s s.heap s_FLOAT "com/example/wirefold/wirefold/FieldType" := Exa.start ev_FLOAT c1
  have St_FLOAT : Sta s s.heap "com/example/wirefold/wirefold/FieldType" "FLOAT" "Lcom/example/wirefold/wirefold/FieldType;" (.ref s_FLOAT) := Sta.start ev_FLOAT (Or.inr ⟨(hw _ (List.mem_of_getElem? (i := 3) rfl)), (hw _ (List.mem_of_getElem? (i := 7) rfl))⟩)
  obtain ⟨s_INT64, ev_INT64⟩ := exa_v c2
  have Ex_INT64 : Exa s s.heap s_INT64 "com/example/wirefold/wirefold/FieldType" := Exa.start ev_INT64 c2
  have St_INT64 : Sta s s.heap "com/example/wirefold/wirefold/FieldType" "INT64" "Lcom/example/wirefold/wirefold/FieldType;" (.ref s_INT64) := Sta.start ev_INT64 (Or.inr ⟨(hw _ (List.mem_of_getElem? (i := 3) rfl)), (hw _ (List.mem_of_getElem? (i := 9) rfl))⟩)
  obtain ⟨s_UINT64, ev_UINT64⟩ := exa_v c3
  have Ex_UINT64 : Exa s s.heap s_UINT64 "com/example/wirefold/wirefold/FieldType" := Exa.start ev_UINT64 c3
  have St_UINT64 : Sta s s.heap "com/example/wirefold/wirefold/FieldType" "UINT64" "Lcom/example/wirefold/wirefold/FieldType;" (.ref s_UINT64) := Sta.start ev_UINT64 (Or.inr ⟨(hw _ (List.mem_of_getElem? (i := 3) rfl)), (hw _ (List.mem_of_getElem? (i := 11) rfl))⟩)
  obtain ⟨s_INT32, ev_INT32⟩ := exa_v c4
  have Ex_INT32 : Exa s s.heap s_INT32 "com/example/wirefold/wirefold/FieldType" := Exa.start ev_INT32 c4
  have St_INT32 : Sta s s.heap "com/example/wirefold/wirefold/FieldType" "INT32" "Lcom/example/wirefold/wirefold/FieldType;" (.ref s_INT32) := Sta.start ev_INT32 (Or.inr ⟨(hw _ (List.mem_of_getElem? (i := 3) rfl)), (hw _ (List.mem_of_getElem? (i := 13) rfl))⟩)
  obtain ⟨s_FIXED64, ev_FIXED64⟩ := exa_v c5
  have Ex_FIXED64 : Exa s s.heap s_FIXED64 "com/example/wirefold/wirefold/FieldType" := Exa.start ev_FIXED64 c5
  have St_FIXED64 : Sta s s.heap "com/example/wirefold/wirefold/FieldType" "FIXED64" "Lcom/example/wirefold/wirefold/FieldType;" (.ref s_FIXED64) := Sta.start ev_FIXED64 (Or.inr ⟨(hw _ (List.mem_of_getElem? (i := 3) rfl)), (hw _ (List.mem_of_getElem? (i := 15) rfl))⟩)
  obtain ⟨s_FIXED32, ev_FIXED32⟩ := exa_v c6
  have Ex_FIXED32 : Exa s s.heap s_FIXED32 "com/example/wirefold/wirefold/FieldType" := Exa.start ev_FIXED32 c6
  have St_FIXED32 : Sta s s.heap "com/example/wirefold/wirefold/FieldType" "FIXED32" "Lcom/example/wirefold/wirefold/FieldType;" (.ref s_FIXED32) := Sta.start ev_FIXED32 (Or.inr ⟨(hw _ (List.mem_of_getElem? (i := 3) rfl)), (hw _ (List.mem_of_getElem? (i := 17) rfl))⟩)
  obtain ⟨s_BOOL, ev_BOOL⟩ := exa_v c7
  have Ex_BOOL : Exa s s.heap s_BOOL "com/example/wirefold/wirefold/FieldType" := Exa.start ev_BOOL c7
  have St_BOOL : Sta s s.heap "com/example/wirefold/wirefold/FieldType" "BOOL" "Lcom/example/wirefold/wirefold/FieldType;" (.ref s_BOOL) := Sta.start ev_BOOL (Or.inr ⟨(hw _ (List.mem_of_getElem? (i := 3) rfl)), (hw _ (List.mem_of_getElem? (i := 19) rfl))⟩)
  obtain ⟨s_STRING, ev_STRING⟩ := exa_v c8
  have Ex_STRING : Exa s s.heap s_STRING "com/example/wirefold/wirefold/FieldType" := Exa.start ev_STRING c8
  have St_STRING : Sta s s.heap "com/example/wirefold/wirefold/FieldType" "STRING" "Lcom/example/wirefold/wirefold/FieldType;" (.ref s_STRING) := Sta.start ev_STRING (Or.inr ⟨(hw _ (List.mem_of_getElem? (i := 3) rfl)), (hw _ (List.mem_of_getElem? (i := 21) rfl))⟩)
  obtain ⟨s_BYTES, ev_BYTES⟩ := exa_v c9
  have Ex_BYTES : Exa s s.heap s_BYTES "com/example/wirefold/wirefold/FieldType" := Exa.start ev_BYTES c9
  have St_BYTES : Sta s s.heap "com/example/wirefold/wirefold/FieldType" "BYTES" "Lcom/example/wirefold/wirefold/FieldType;" (.ref s_BYTES) := Sta.start ev_BYTES (Or.inr ⟨(hw _ (List.mem_of_getElem? (i := 3) rfl)), (hw _ (List.mem_of_getElem? (i := 23) rfl))⟩)
  obtain ⟨s_UINT32, ev_UINT32⟩ := exa_v c10
  have Ex_UINT32 : Exa s s.heap s_UINT32 "com/example/wirefold/wirefold/FieldType" := Exa.start ev_UINT32 c10
  have St_UINT32 : Sta s s.heap "com/example/wirefold/wirefold/FieldType" "UINT32" "Lcom/example/wirefold/wirefold/FieldType;" (.ref s_UINT32) := Sta.start ev_UINT32 (Or.inr ⟨(hw _ (List.mem_of_getElem? (i := 3) rfl)), (hw _ (List.mem_of_getElem? (i := 25) rfl))⟩)
  obtain ⟨s_SFIXED32, ev_SFIXED32⟩ := exa_v c11
  have Ex_SFIXED32 : Exa s s.heap s_SFIXED32 "com/example/wirefold/wirefold/FieldType" := Exa.start ev_SFIXED32 c11
  have St_SFIXED32 : Sta s s.heap "com/example/wirefold/wirefold/FieldType" "SFIXED32" "Lcom/example/wirefold/wirefold/FieldType;" (.ref s_SFIXED32) := Sta.start ev_SFIXED32 (Or.inr ⟨(hw _ (List.mem_of_getElem? (i := 3) rfl)), (hw _ (List.mem_of_getElem? (i := 27) rfl))⟩)
  obtain ⟨s_SFIXED64, ev_SFIXED64⟩ := exa_v c12
  have Ex_SFIXED64 : Exa s s.heap s_SFIXED64 "com/example/wirefold/wirefold/FieldType" := Exa.start ev_SFIXED64 c12
  have St_SFIXED64 : Sta s s.heap "com/example/wirefold/wirefold/FieldType" "SFIXED64" "Lcom/example/wirefold/wirefold/FieldType;" (.ref s_SFIXED64) := Sta.start ev_SFIXED64 (Or.inr ⟨(hw _ (List.mem_of_getElem? (i := 3) rfl)), (hw _ (List.mem_of_getElem? (i := 29) rfl))⟩)
  obtain ⟨s_SINT32, ev_SINT32⟩ := exa_v c13
  have Ex_SINT32 : Exa s s.heap s_SINT32 "com/example/wirefold/wirefold/FieldType" := Exa.start ev_SINT32 c13
  have St_SINT32 : Sta s s.heap "com/example/wirefold/wirefold/FieldType" "SINT32" "Lcom/example/wirefold/wirefold/FieldType;" (.ref s_SINT32) := Sta.start ev_SINT32 (Or.inr ⟨(hw _ (List.mem_of_getElem? (i := 3) rfl)), (hw _ (List.mem_of_getElem? (i := 31) rfl))⟩)
  obtain ⟨s_SINT64, ev_SINT64⟩ := exa_v c14
  have Ex_SINT64 : Exa s s.heap s_SINT64 "com/example/wirefold/wirefold/FieldType" := Exa.start ev_SINT64 c14
  have St_SINT64 : Sta s s.heap "com/example/wirefold/wirefold/FieldType" "SINT64" "Lcom/example/wirefold/wirefold/FieldType;" (.ref s_SINT64) := Sta.start ev_SINT64 (Or.inr ⟨(hw _ (List.mem_of_getElem? (i := 3) rfl)), (hw _ (List.mem_of_getElem? (i := 33) rfl))⟩)
  obtain ⟨s_MESSAGE, ev_MESSAGE⟩ := exa_v c15
  have Ex_MESSAGE : Exa s s.heap s_MESSAGE "com/example/wirefold/wirefold/FieldType" := Exa.start ev_MESSAGE c15
  have St_MESSAGE : Sta s s.heap "com/example/wirefold/wirefold/FieldType" "MESSAGE" "Lcom/example/wirefold/wirefold/FieldType;" (.ref s_MESSAGE) := Sta.start ev_MESSAGE (Or.inr ⟨(hw _ (List.mem_of_getElem? (i := 3) rfl)), (hw _ (List.mem_of_getElem? (i := 35) rfl))⟩)
  obtain ⟨s_ENUM, ev_ENUM⟩ := exa_v c16
  have Ex_ENUM : Exa s s.heap s_ENUM "com/example/wirefold/wirefold/FieldType" := Exa.start ev_ENUM c16
  have St_ENUM : Sta s s.heap "com/example/wirefold/wirefold/FieldType" "ENUM" "Lcom/example/wirefold/wirefold/FieldType;" (.ref s_ENUM) := Sta.start ev_ENUM (Or.inr ⟨(hw _ (List.mem_of_getElem? (i := 3) rfl)), (hw _ (List.mem_of_getElem? (i := 37) rfl))⟩)
  have Or_DOUBLE := own_ord ev_DOUBLE c17
  have Or_BOOL := own_ord ev_BOOL c18
  have Or_UINT32 := own_ord ev_UINT32 c19
  have Or_SFIXED32 := own_ord ev_SFIXED32 c20
  have Or_STRING := own_ord ev_STRING c21
  have Or_INT64 := own_ord ev_INT64 c22
  have Or_SFIXED64 := own_ord ev_SFIXED64 c23
  have Or_FLOAT := own_ord ev_FLOAT c24
  have Or_ENUM := own_ord ev_ENUM c25
  have Or_UINT64 := own_ord ev_UINT64 c26
  have Or_FIXED64 := own_ord ev_FIXED64 c27
  have Or_SINT64 := own_ord ev_SINT64 c28
  have Or_FIXED32 := own_ord ev_FIXED32 c29
  have Or_SINT32 := own_ord ev_SINT32 c30
  have Or_BYTES := own_ord ev_BYTES c31
  have Or_INT32 := own_ord ev_INT32 c32
  have Or_MESSAGE := own_ord ev_MESSAGE c33
  obtain ⟨n, o, h1, h2, h3, _, L, rfl, ⟨rfl, N⟩, hq⟩ := rm0 l s _ hw tables_1 i0 i1 i2 i3 s_DOUBLE s_FLOAT s_INT64 s_UINT64 s_INT32 s_FIXED64 s_FIXED32 s_BOOL s_STRING s_BYTES s_UINT32 s_SFIXED32 s_SFIXED64 s_SINT32 s_SINT64 s_MESSAGE s_ENUM s.heap s.heap.size (Nat.le_refl _) St_DOUBLE St_FLOAT St_INT64 St_UINT64 St_INT32 St_FIXED64 St_FIXED32 St_BOOL St_STRING St_BYTES St_UINT32 St_SFIXED32 St_SFIXED64 St_SINT32 St_SINT64 St_MESSAGE St_ENUM Ex_DOUBLE Ex_FLOAT Ex_INT64 Ex_UINT64 Ex_INT32 Ex_FIXED64 Ex_FIXED32 Ex_BOOL Ex_STRING Ex_BYTES Ex_UINT32 Ex_SFIXED32 Ex_SFIXED64 Ex_SINT32 Ex_SINT64 Ex_MESSAGE Ex_ENUM (Fld.ne Or_DOUBLE Or_BOOL (by decide)) (Fld.ne Or_FLOAT Or_BOOL (by decide)) (Fld.ne Or_INT64 Or_BOOL (by decide)) (Fld.ne Or_UINT64 Or_BOOL (by decide)) (Fld.ne Or_INT32 Or_BOOL (by decide)) (Fld.ne Or_FIXED64 Or_BOOL (by decide)) (Fld.ne Or_FIXED32 Or_BOOL (by decide)) (Fld.ne Or_STRING Or_BOOL (by decide)) (Fld.ne Or_BYTES Or_BOOL (by decide)) (Fld.ne Or_UINT32 Or_BOOL (by decide)) (Fld.ne Or_SFIXED32 Or_BOOL (by decide)) (Fld.ne Or_SFIXED64 Or_BOOL (by decide)) (Fld.ne Or_SINT32 Or_BOOL (by decide)) (Fld.ne Or_SINT64 Or_BOOL (by decide)) (Fld.ne Or_MESSAGE Or_BOOL (by decide)) (Fld.ne Or_ENUM Or_BOOL (by decide)) p e ha hc hk s m _ below hf ((Spec.applies_iff_loose hf).mp happ).1 ⟨rfl, State.Warmed39.refl s, rfl⟩ trivial
  refine ⟨n, _, h1, h2, h3, hpost _ _ _ _ _ _ ⟨Cond.after_iff.mpr rfl, Cond.after_iff.mpr (eq_i res_at (Term.int_eval (1)) rfl), trivial⟩ ⟨hq.1, hq.2.1, (hq.2.2.sift fun y hy => Or.inr (N y hy)).mono (by decide) (by decide)⟩⟩
theorem main_1_1 : Claimed_1_1 := comes_1 fun _ _ _ _ _ _ h hF => ⟨h.1, hF⟩
theorem main_1_2 : Claimed_1_2 := comes_1 fun _ _ _ _ _ _ h hF => ⟨h.2.1, hF⟩
end Jvm.Pilot.@@N@@
namespace Jvm.Pilot.@@N@@
open Jvm Jvm.ClassFile Sem Op Lib Jvm.Free Jvm.Stand Jvm.Pilot.@@N@@.Jvm.D
/-! MADE BY PROGRAM (witnessworld.py) out of the Statement's table words and the real class files: 13 classes; the members and pool entries that the words name. The judged class is class 1, her method 1. -/
namespace start1
open Jvm.ClassFile
def u (s : String) : CpInfo := .utf8 (stringToUtf16 s)
/-- a pool by its gaps: so many unusable entries, then the entry; so many at the end -/
def gap : Nat → List CpInfo → List CpInfo
  | 0, r => r
  | n + 1, r => .unusable :: gap n r
def poolList (es : List (Nat × CpInfo)) (last : Nat) : List CpInfo := es.foldr (fun e r => gap e.1 (e.2 :: r)) (gap last [])
def pool (es : List (Nat × CpInfo)) (last : Nat) : Array CpInfo := ⟨poolList es last⟩
def fileOf (pool : Array CpInfo) (this : Nat) (attrs : Array Attribute := #[]) (ms : Array MethodInfo := #[]) (fl : Nat := 33) (sup : Nat := 0) (ifs : Array Nat := #[]) (fds : Array FieldInfo := #[]) : ClassFile where
  minorVersion := 0
  majorVersion := 65
  constantPool := pool
  accessFlags := fl
  thisClass := this
  superClass := sup
  interfaces := ifs
  fields := fds
  methods := ms
  attributes := attrs
def plain (name : String) (sup : Option ClassId) : Class where
  name := name
  kind := .ordinary
  loader := none
  accessFlags := 33
  super := sup
  interfaces := #[]
  cf := none
  fields := #[]
  methods := #[]
  instanceTypes := #[]
  staticTypes := #[]
  resolved := #[]
  callSites := []
  init := .initialized
  statics := none
  mirror := none

def pool0 : Array CpInfo := pool [(5, u "<init>"), (0, u "()V"), (1, .class_ 10), (1, u "java/lang/Object")] 113

def k0m0 : Method := { name := "<init>", desc := "()V", sig := { parameters := [], returnType := none }, accessFlags := 1, code := none }
/-- java/lang/Object -/
def k0 : Class := { plain "java/lang/Object" none with
  accessFlags := 33
  interfaces := #[]
  cf := some (fileOf pool0 8 #[] #[{ accessFlags := 1, nameIndex := 5, descriptorIndex := 6, attributes := #[] }] 33 0 #[] #[])
  fields := #[]
  methods := #[k0m0]
  instanceTypes := #[]
  staticTypes := #[]
  resolved := Array.replicate 124 none
  statics := none }

def pool1 : Array CpInfo := pool [(2, .class_ 4), (1, u "java/lang/Object"), (0, u "<init>"), (0, u "()V"), (0, .class_ 8), (0, u "com/example/wirefold/wirefold/FieldType"), (0, .fieldref 7 10), (0, .nameAndType 11 12), (0, u "DOUBLE"), (0, u "Lcom/example/wirefold/wirefold/FieldType;"), (0, .fieldref 7 14), (0, .nameAndType 15 12), (0, u "FLOAT"), (0, .fieldref 7 17), (0, .nameAndType 18 12), (0, u "INT64"), (0, .fieldref 7 20), (0, .nameAndType 21 12), (0, u "UINT64"), (0, .fieldref 7 23), (0, .nameAndType 24 12), (0, u "INT32"), (0, .fieldref 7 26), (0, .nameAndType 27 12), (0, u "FIXED64"), (0, .fieldref 7 29), (0, .nameAndType 30 12), (0, u "FIXED32"), (0, .fieldref 7 32), (0, .nameAndType 33 12), (0, u "BOOL"), (0, .fieldref 7 35), (0, .nameAndType 36 12), (0, u "STRING"), (0, .fieldref 7 38), (0, .nameAndType 39 12), (0, u "BYTES"), (0, .fieldref 7 41), (0, .nameAndType 42 12), (0, u "UINT32"), (0, .fieldref 7 44), (0, .nameAndType 45 12), (0, u "SFIXED32"), (0, .fieldref 7 47), (0, .nameAndType 48 12), (0, u "SFIXED64"), (0, .fieldref 7 50), (0, .nameAndType 51 12), (0, u "SINT32"), (0, .fieldref 7 53), (0, .nameAndType 54 12), (0, u "SINT64"), (0, .fieldref 7 56), (0, .nameAndType 57 12), (0, u "MESSAGE"), (0, .fieldref 7 59), (0, .nameAndType 60 12), (0, u "ENUM"), (0, .integer 2147483647), (0, .methodref 7 63), (0, .nameAndType 64 65), (0, u "canonical"), (0, u "(J)J"), (0, .class_ 67), (0, u "com/example/wirefold/wirefold/FieldTypeCanonicalPinLaw"), (2, u "law"), (0, u "(IJJI)Z")] 5

def k1m0 : Method := { name := "<init>", desc := "()V", sig := { parameters := [], returnType := none }, accessFlags := 2, code := none }
def k1c1 : Code := { maxStack := 6, maxLocals := 19, code := code, exceptionTable := #[], attributes := #[] }
def k1m1 : Method := { name := "law", desc := "(IJJI)Z", sig := { parameters := [.int, .long, .long, .int], returnType := some .boolean }, accessFlags := 9, code := some k1c1 }
/-- com/example/wirefold/wirefold/FieldTypeCanonicalPinLaw -/
def k1 : Class := { plain "com/example/wirefold/wirefold/FieldTypeCanonicalPinLaw" (some 0) with
  accessFlags := 49
  interfaces := #[]
  cf := some (fileOf pool1 66 #[] #[{ accessFlags := 2, nameIndex := 5, descriptorIndex := 6, attributes := #[] }, { accessFlags := 9, nameIndex := 70, descriptorIndex := 71, attributes := #[] }] 49 2 #[] #[])
  fields := #[]
  methods := #[k1m0, k1m1]
  instanceTypes := #[]
  staticTypes := #[]
  resolved := Array.replicate 77 none
  statics := none }

def pool2 : Array CpInfo := pool [(1, .class_ 2), (0, u "java/lang/constant/Constable"), (0, .class_ 4), (0, u "java/lang/Object")] 6

/-- java/lang/constant/Constable -/
def k2 : Class := { plain "java/lang/constant/Constable" (some 0) with
  accessFlags := 1537
  interfaces := #[]
  cf := some (fileOf pool2 1 #[] #[] 1537 3 #[] #[])
  fields := #[]
  methods := #[]
  instanceTypes := #[]
  staticTypes := #[]
  resolved := Array.replicate 11 none
  statics := none }

def pool3 : Array CpInfo := pool [(1, .class_ 2), (0, u "java/lang/Comparable"), (0, .class_ 4), (0, u "java/lang/Object")] 7

/-- java/lang/Comparable -/
def k3 : Class := { plain "java/lang/Comparable" (some 0) with
  accessFlags := 1537
  interfaces := #[]
  cf := some (fileOf pool3 1 #[] #[] 1537 3 #[] #[])
  fields := #[]
  methods := #[]
  instanceTypes := #[]
  staticTypes := #[]
  resolved := Array.replicate 12 none
  statics := none }

def pool4 : Array CpInfo := pool [(1, .class_ 2), (0, u "java/io/Serializable"), (0, .class_ 4), (0, u "java/lang/Object")] 2

/-- java/io/Serializable -/
def k4 : Class := { plain "java/io/Serializable" (some 0) with
  accessFlags := 1537
  interfaces := #[]
  cf := some (fileOf pool4 1 #[] #[] 1537 3 #[] #[])
  fields := #[]
  methods := #[]
  instanceTypes := #[]
  staticTypes := #[]
  resolved := Array.replicate 7 none
  statics := none }

def pool5 : Array CpInfo := pool [(2, .class_ 4), (1, u "java/lang/Enum"), (0, u "name"), (0, u "Ljava/lang/String;"), (2, u "ordinal"), (0, u "I"), (1, .class_ 14), (1, u "java/lang/Object"), (4, u "hash"), (86, .class_ 108), (1, u "java/lang/Enum$EnumDesc"), (2, .class_ 112), (0, u "java/lang/constant/Constable"), (0, .class_ 114), (0, u "java/lang/Comparable"), (0, .class_ 116), (0, u "java/io/Serializable")] 87

/-- java/lang/Enum -/
def k5 : Class := { plain "java/lang/Enum" (some 0) with
  accessFlags := 1057
  interfaces := #[2, 3, 4]
  cf := some (fileOf pool5 2 #[.nestMembers #[106]] #[] 1057 12 #[111, 113, 115] #[{ accessFlags := 18, nameIndex := 5, descriptorIndex := 6, attributes := #[] }, { accessFlags := 18, nameIndex := 9, descriptorIndex := 10, attributes := #[] }, { accessFlags := 2, nameIndex := 19, descriptorIndex := 10, attributes := #[] }])
  fields := #[{ name := "name", type := (.object "java/lang/String"), accessFlags := 18, slot := 0, constantValue := 0 }, { name := "ordinal", type := .int, accessFlags := 18, slot := 1, constantValue := 0 }, { name := "hash", type := .int, accessFlags := 2, slot := 2, constantValue := 0 }]
  methods := #[]
  instanceTypes := #[(.object "java/lang/String"), .int, .int]
  staticTypes := #[]
  resolved := Array.replicate 204 none
  statics := none }

def pool6 : Array CpInfo := pool [(1, .class_ 2), (0, u "com/example/wirefold/wirefold/FieldType"), (2, u "DOUBLE"), (0, u "Lcom/example/wirefold/wirefold/FieldType;"), (2, u "FLOAT"), (2, u "INT64"), (2, u "UINT64"), (2, u "INT32"), (2, u "FIXED64"), (2, u "FIXED32"), (0, .fieldref 1 26), (0, .nameAndType 27 6), (0, u "BOOL"), (2, u "STRING"), (2, u "BYTES"), (2, u "UINT32"), (2, u "SFIXED32"), (2, u "SFIXED64"), (2, u "SINT32"), (2, u "SINT64"), (2, u "MESSAGE"), (2, u "ENUM"), (2, u "$VALUES"), (0, u "[Lcom/example/wirefold/wirefold/FieldType;"), (6, .class_ 67), (1, u "java/lang/Enum"), (8, u "keyword"), (0, u "Ljava/lang/String;"), (2, u "wireType"), (0, u "Lcom/example/wirefold/wirefold/WireType;"), (2, u "javaClass"), (0, u "Ljava/lang/Class;"), (187, u "(J)J"), (1, u "canonical")] 28

def k6c0 : Code := { maxStack := 4, maxLocals := 3, code := prog_4_method_12_code, exceptionTable := #[], attributes := #[] }
def k6m0 : Method := { name := "canonical", desc := "(J)J", sig := { parameters := [.long], returnType := some .long }, accessFlags := 0, code := some k6c0 }
/-- com/example/wirefold/wirefold/FieldType -/
def k6 : Class := { plain "com/example/wirefold/wirefold/FieldType" (some 5) with
  accessFlags := 16432
  interfaces := #[]
  cf := some (fileOf pool6 1 #[] #[{ accessFlags := 0, nameIndex := 275, descriptorIndex := 273, attributes := #[] }] 16432 65 #[] #[{ accessFlags := 16409, nameIndex := 5, descriptorIndex := 6, attributes := #[] }, { accessFlags := 16409, nameIndex := 9, descriptorIndex := 6, attributes := #[] }, { accessFlags := 16409, nameIndex := 12, descriptorIndex := 6, attributes := #[] }, { accessFlags := 16409, nameIndex := 15, descriptorIndex := 6, attributes := #[] }, { accessFlags := 16409, nameIndex := 18, descriptorIndex := 6, attributes := #[] }, { accessFlags := 16409, nameIndex := 21, descriptorIndex := 6, attributes := #[] }, { accessFlags := 16409, nameIndex := 24, descriptorIndex := 6, attributes := #[] }, { accessFlags := 16409, nameIndex := 27, descriptorIndex := 6, attributes := #[] }, { accessFlags := 16409, nameIndex := 30, descriptorIndex := 6, attributes := #[] }, { accessFlags := 16409, nameIndex := 33, descriptorIndex := 6, attributes := #[] }, { accessFlags := 16409, nameIndex := 36, descriptorIndex := 6, attributes := #[] }, { accessFlags := 16409, nameIndex := 39, descriptorIndex := 6, attributes := #[] }, { accessFlags := 16409, nameIndex := 42, descriptorIndex := 6, attributes := #[] }, { accessFlags := 16409, nameIndex := 45, descriptorIndex := 6, attributes := #[] }, { accessFlags := 16409, nameIndex := 48, descriptorIndex := 6, attributes := #[] }, { accessFlags := 16409, nameIndex := 51, descriptorIndex := 6, attributes := #[] }, { accessFlags := 16409, nameIndex := 54, descriptorIndex := 6, attributes := #[] }, { accessFlags := 18, nameIndex := 76, descriptorIndex := 77, attributes := #[] }, { accessFlags := 18, nameIndex := 80, descriptorIndex := 81, attributes := #[] }, { accessFlags := 18, nameIndex := 84, descriptorIndex := 85, attributes := #[] }, { accessFlags := 4122, nameIndex := 57, descriptorIndex := 58, attributes := #[] }])
  fields := #[{ name := "DOUBLE", type := (.object "com/example/wirefold/wirefold/FieldType"), accessFlags := 16409, slot := 0, constantValue := 0 }, { name := "FLOAT", type := (.object "com/example/wirefold/wirefold/FieldType"), accessFlags := 16409, slot := 1, constantValue := 0 }, { name := "INT64", type := (.object "com/example/wirefold/wirefold/FieldType"), accessFlags := 16409, slot := 2, constantValue := 0 }, { name := "UINT64", type := (.object "com/example/wirefold/wirefold/FieldType"), accessFlags := 16409, slot := 3, constantValue := 0 }, { name := "INT32", type := (.object "com/example/wirefold/wirefold/FieldType"), accessFlags := 16409, slot := 4, constantValue := 0 }, { name := "FIXED64", type := (.object "com/example/wirefold/wirefold/FieldType"), accessFlags := 16409, slot := 5, constantValue := 0 }, { name := "FIXED32", type := (.object "com/example/wirefold/wirefold/FieldType"), accessFlags := 16409, slot := 6, constantValue := 0 }, { name := "BOOL", type := (.object "com/example/wirefold/wirefold/FieldType"), accessFlags := 16409, slot := 7, constantValue := 0 }, { name := "STRING", type := (.object "com/example/wirefold/wirefold/FieldType"), accessFlags := 16409, slot := 8, constantValue := 0 }, { name := "BYTES", type := (.object "com/example/wirefold/wirefold/FieldType"), accessFlags := 16409, slot := 9, constantValue := 0 }, { name := "UINT32", type := (.object "com/example/wirefold/wirefold/FieldType"), accessFlags := 16409, slot := 10, constantValue := 0 }, { name := "SFIXED32", type := (.object "com/example/wirefold/wirefold/FieldType"), accessFlags := 16409, slot := 11, constantValue := 0 }, { name := "SFIXED64", type := (.object "com/example/wirefold/wirefold/FieldType"), accessFlags := 16409, slot := 12, constantValue := 0 }, { name := "SINT32", type := (.object "com/example/wirefold/wirefold/FieldType"), accessFlags := 16409, slot := 13, constantValue := 0 }, { name := "SINT64", type := (.object "com/example/wirefold/wirefold/FieldType"), accessFlags := 16409, slot := 14, constantValue := 0 }, { name := "MESSAGE", type := (.object "com/example/wirefold/wirefold/FieldType"), accessFlags := 16409, slot := 15, constantValue := 0 }, { name := "ENUM", type := (.object "com/example/wirefold/wirefold/FieldType"), accessFlags := 16409, slot := 16, constantValue := 0 }, { name := "keyword", type := (.object "java/lang/String"), accessFlags := 18, slot := 3, constantValue := 0 }, { name := "wireType", type := (.object "com/example/wirefold/wirefold/WireType"), accessFlags := 18, slot := 4, constantValue := 0 }, { name := "javaClass", type := (.object "java/lang/Class"), accessFlags := 18, slot := 5, constantValue := 0 }, { name := "$VALUES", type := (.array (.object "com/example/wirefold/wirefold/FieldType")), accessFlags := 4122, slot := 17, constantValue := 0 }]
  methods := #[k6m0]
  instanceTypes := #[(.object "java/lang/String"), .int, .int, (.object "java/lang/String"), (.object "com/example/wirefold/wirefold/WireType"), (.object "java/lang/Class")]
  staticTypes := #[(.object "com/example/wirefold/wirefold/FieldType"), (.object "com/example/wirefold/wirefold/FieldType"), (.object "com/example/wirefold/wirefold/FieldType"), (.object "com/example/wirefold/wirefold/FieldType"), (.object "com/example/wirefold/wirefold/FieldType"), (.object "com/example/wirefold/wirefold/FieldType"), (.object "com/example/wirefold/wirefold/FieldType"), (.object "com/example/wirefold/wirefold/FieldType"), (.object "com/example/wirefold/wirefold/FieldType"), (.object "com/example/wirefold/wirefold/FieldType"), (.object "com/example/wirefold/wirefold/FieldType"), (.object "com/example/wirefold/wirefold/FieldType"), (.object "com/example/wirefold/wirefold/FieldType"), (.object "com/example/wirefold/wirefold/FieldType"), (.object "com/example/wirefold/wirefold/FieldType"), (.object "com/example/wirefold/wirefold/FieldType"), (.object "com/example/wirefold/wirefold/FieldType"), (.array (.object "com/example/wirefold/wirefold/FieldType"))]
  resolved := Array.replicate 304 none
  statics := some 0 }

def pool7 : Array CpInfo := pool [(1, u "java/lang/Cloneable"), (0, .class_ 1), (0, u "java/lang/Object"), (0, .class_ 3)] 3

/-- java/lang/Cloneable -/
def k7 : Class := { plain "java/lang/Cloneable" (some 0) with
  accessFlags := 1537
  interfaces := #[]
  cf := some (fileOf pool7 2 #[] #[] 1537 4 #[] #[])
  fields := #[]
  methods := #[]
  instanceTypes := #[]
  staticTypes := #[]
  resolved := Array.replicate 8 none
  statics := none }

/-- the primitive byte -/
def k8 : Class := { plain "byte" none with kind := .primitive 'B', accessFlags := 0x411 }
/-- [B -/
def k9 : Class := { plain "[B" (some 0) with kind := .array 8 .byte, interfaces := #[7, 4], accessFlags := 1041 }

/-- the primitive int -/
def k10 : Class := { plain "int" none with kind := .primitive 'I', accessFlags := 0x411 }
/-- [I -/
def k11 : Class := { plain "[I" (some 0) with kind := .array 10 .int, interfaces := #[7, 4], accessFlags := 1041 }

/-- [Lcom/example/wirefold/wirefold/FieldType; -/
def k12 : Class := { plain "[Lcom/example/wirefold/wirefold/FieldType;" (some 0) with kind := .array 6 (.object "com/example/wirefold/wirefold/FieldType"), interfaces := #[7, 4], accessFlags := 1041 }

def heap : Heap := #[{ cls := 6, slots := #[.ref 1, .ref 2, .ref 3, .ref 4, .ref 5, .ref 6, .ref 7, .ref 8, .ref 9, .ref 10, .ref 11, .ref 12, .ref 13, .ref 14, .ref 15, .ref 16, .ref 17, .null], vm := .statics 6 },
  { cls := 6, slots := #[.null, .int 0, .int 0, .null, .null, .null], vm := .none },
  { cls := 6, slots := #[.null, .int 1, .int 0, .null, .null, .null], vm := .none },
  { cls := 6, slots := #[.null, .int 2, .int 0, .null, .null, .null], vm := .none },
  { cls := 6, slots := #[.null, .int 3, .int 0, .null, .null, .null], vm := .none },
  { cls := 6, slots := #[.null, .int 4, .int 0, .null, .null, .null], vm := .none },
  { cls := 6, slots := #[.null, .int 5, .int 0, .null, .null, .null], vm := .none },
  { cls := 6, slots := #[.null, .int 6, .int 0, .null, .null, .null], vm := .none },
  { cls := 6, slots := #[.null, .int 7, .int 0, .null, .null, .null], vm := .none },
  { cls := 6, slots := #[.null, .int 8, .int 0, .null, .null, .null], vm := .none },
  { cls := 6, slots := #[.null, .int 9, .int 0, .null, .null, .null], vm := .none },
  { cls := 6, slots := #[.null, .int 10, .int 0, .null, .null, .null], vm := .none },
  { cls := 6, slots := #[.null, .int 11, .int 0, .null, .null, .null], vm := .none },
  { cls := 6, slots := #[.null, .int 12, .int 0, .null, .null, .null], vm := .none },
  { cls := 6, slots := #[.null, .int 13, .int 0, .null, .null, .null], vm := .none },
  { cls := 6, slots := #[.null, .int 14, .int 0, .null, .null, .null], vm := .none },
  { cls := 6, slots := #[.null, .int 15, .int 0, .null, .null, .null], vm := .none },
  { cls := 6, slots := #[.null, .int 16, .int 0, .null, .null, .null], vm := .none }]
def classes : Array Class := #[k0, k1, k2, k3, k4, k5, k6, k7, k8, k9, k10, k11, k12]
def interned : List (Array UInt16 × Addr) := []
def slotsUsed : Nat := 120
def theMethod : MethodId := ⟨1, 1⟩
def args0 : Array Value := #[.int 5, .long 1, .long 2, .int 3]
def aboutOver (below : List Frame) : State where
  vm := { classes := classes, interned := interned.toArray }
  heap := heap
  slotsUsed := slotsUsed
  threads := #[{ frames := .invoking theMethod args0 :: below }]
def below0 : List Frame := [.native { method := ⟨0, 0⟩, args := #[] }]
def about1 : State := aboutOver below0
def p0 : Program := .bare "" "" ""
def e0 : Env := launch0.env 0 0 0
theorem w_frames : about1.frames = Frame.invoking theMethod args0 :: below0 := rfl
set_option maxRecDepth 65536 in
theorem w_args : argsFit about1.vm theMethod args0 = true := by decide +kernel
set_option maxRecDepth 65536 in
theorem w_heap : heapFits about1 = true := by decide +kernel
set_option maxRecDepth 65536 in
theorem w_runnable : about1.curStatus? = some .runnable := by decide +kernel
set_option maxRecDepth 65536 in
theorem w_alone : about1.alone = true := by decide +kernel
set_option maxRecDepth 65536 in
theorem w_named : about1.methodNamed? x = some theMethod := by decide +kernel
set_option maxRecDepth 65536 in
theorem w_hears : about1.hears theMethod below0 = true := by decide +kernel
set_option maxRecDepth 65536 in
theorem w_ripe : about1.ripe theMethod args0 below0 = true := by decide +kernel
theorem w_running : about1.status = .running := rfl
set_option maxRecDepth 65536 in
theorem w_room : about1.hasRoom e0.platform room_1 = true :=
  launch0.hasRoom_least _ room_1 (by decide +kernel) (by decide +kernel) (by decide +kernel) (by decide +kernel) (by decide +kernel) (by decide +kernel)
theorem allAtoms_all (ts : List Jvm.Cond) (a : Array Jvm.Value) (st : Jvm.State) : (allAtoms ts).before a st = ts.all (fun c => c.before a st) := by
  induction ts with
  | nil => rfl
  | cons c t ih =>
    show (Jvm.Cond.and c (allAtoms t)).before a st = _
    rw [Jvm.Cond.before_and, ih, List.all_cons]
def words1 : List Jvm.Cond := Jvm.Cond.code x code maxLocals ret :: tables_1
/-- a 'code' word, met by the world's own term for the bytes: nothing is compared byte by byte -/
theorem code_word {y : MethodName} {bytes : ByteArray} {mx : Nat} {rt : Option FieldType} {a : Array Value} {s : State} {m : MethodId} {meth : Method} {c : Code} (h1 : s.methodNamed? y = some m) (h2 : s.vm.method? m = some meth) (h3 : meth.code = some c) (h4 : c.code = bytes)
    (h5 : (c.maxLocals == mx && c.exceptionTable.isEmpty && decide (c.maxStack ≤ mostOperands) && decide (meth.sig.returnType = rt) && !meth.locks && decide (parseMethodDescriptor y.desc = some meth.sig)) = true) : (Jvm.Cond.code y bytes mx rt).before a s = true := by
  simp only [Bool.and_eq_true, beq_iff_eq, Bool.not_eq_true', decide_eq_true_eq] at h5
  obtain ⟨⟨⟨⟨⟨g1, g2⟩, g3⟩, g4⟩, g5⟩, g6⟩ := h5
  simp [Cond.before, Cond.holds, Cond.value, h1, h2, h3, h4, g1, g2, g3, g4, g5, g6]
def isCode : Jvm.Cond → Bool
  | .code _ _ _ _ => true
  | _ => false
theorem all_split {L : List Jvm.Cond} {P : Jvm.Cond → Bool} (h1 : L.all (fun c => isCode c || P c) = true) (h2 : ∀ c ∈ L.filter isCode, P c = true) : L.all P = true := by
  refine List.all_eq_true.mpr fun c hc => ?_
  have h := List.all_eq_true.mp h1 c hc
  rcases Bool.eq_false_or_eq_true (isCode c) with hi | hi
  · exact h2 c (List.mem_filter.mpr ⟨hc, hi⟩)
  · simpa [hi] using h
set_option maxRecDepth 65536 in
theorem w_c0 : (Jvm.Cond.code x code maxLocals ret).before args0 about1 = true := code_word (m := ⟨1, 1⟩) (meth := k1m1) (c := k1c1) (by decide +kernel) rfl rfl rfl (by decide +kernel)
set_option maxRecDepth 65536 in
theorem w_c1 : (Jvm.Cond.code ({ cls := "com/example/wirefold/wirefold/FieldType", name := "canonical", desc := "(J)J" } : Jvm.MethodName) prog_4_method_12_code (3 : Nat) (Option.some Jvm.ClassFile.FieldType.long)).before args0 about1 = true := code_word (m := ⟨6, 0⟩) (meth := k6m0) (c := k6c0) (by decide +kernel) rfl rfl rfl (by decide +kernel)
def codes1 : List Jvm.Cond := [Jvm.Cond.code x code maxLocals ret, Jvm.Cond.code ({ cls := "com/example/wirefold/wirefold/FieldType", name := "canonical", desc := "(J)J" } : Jvm.MethodName) prog_4_method_12_code (3 : Nat) (Option.some Jvm.ClassFile.FieldType.long)]
set_option maxRecDepth 65536 in
theorem codes_eq : words1.filter isCode = codes1 := rfl
theorem w_codes : ∀ c ∈ words1.filter isCode, c.before args0 about1 = true := by
  rw [codes_eq]
  intro c hc
  simp only [codes1, List.mem_cons, List.not_mem_nil, or_false] at hc
  rcases hc with rfl | rfl
  · exact w_c0
  · exact w_c1
set_option maxRecDepth 65536 in
theorem w_t1 : (words1.take 24).all (fun c => isCode c || c.before args0 about1) = true := by decide +kernel
set_option maxRecDepth 65536 in
theorem w_t2 : (words1.drop 24).all (fun c => isCode c || c.before args0 about1) = true := by decide +kernel
theorem w_tables : (allAtoms (Jvm.Cond.code x code maxLocals ret :: tables_1)).before args0 about1 = true := by
  rw [allAtoms_all]
  show words1.all (fun c => c.before args0 about1) = true
  refine all_split ?_ w_codes
  rw [← List.take_append_drop 24 words1, List.all_append, w_t1, w_t2]
  rfl
set_option maxRecDepth 65536 in
theorem w_case : (Jvm.Cond.and given_1 narrow_1).before args0 about1 = true := by decide +kernel
theorem w_applies : (headSpec (Jvm.Cond.code x code maxLocals ret :: tables_1) room_1).applies x e0.platform about1 = true :=
  (Spec.applies_iff w_frames).mpr ⟨w_running, w_runnable, w_alone, w_named, w_hears, w_ripe, w_room, w_tables⟩
theorem atStart : AtStart classFile x code maxLocals ret World_1 tables_1 room_1 Calls_1 rest_1 Pre_1 launch0 p0 e0 about1 theMethod args0 below0 :=
  ⟨lists_1, trivial, launch0.admits_env _ _ _, launch0.least_env, fairChoices_fair.cas, fairChoices_fair.clock, w_frames, w_args, w_heap, w_applies, trivial, trivial, w_case⟩
end start1
theorem witness_1 : WitnessClaimed_1 := ⟨start1.p0, start1.e0, start1.about1, start1.theMethod, start1.args0, start1.below0, start1.atStart⟩
end Jvm.Pilot.@@N@@
