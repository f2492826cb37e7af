import JvmDerived
import JvmDerived.Pilot.@@N@@Statement
import JvmDerived.Pilot.@@N@@Code
set_option linter.unusedVariables false
set_option linter.unusedSimpArgs false
namespace Jvm.RoadKit
open Sem ClassFile Op Lib Jvm.Stand Jvm.Free Jvm.LawKit
section New
variable {p : Program} {l : Launch} {e : Env} {R : Room} {s : State} {m : MethodId} {args : Array Value} {below : List Frame} {meth : Method} {c : Code} {T T' : State} {locs : List Loc} {cells slots : Nat} {Q : Option Value → Heap → List Loc → Prop} {cc ss : Nat} {g g' : JFrame} {pc : Nat} {Ls : Array Slot}
/-- from here the body comes to an end that meets Q -/
def own_Goes (p : Program) (e : Env) (below : List Frame) (s : State) (Q : Option Value → Heap → List Loc → Prop) (cc ss : Nat) (T : State) (g : JFrame) : Prop :=
  ∃ s₂ o, Steps p.tables e below (T.setTop g) s₂ ∧ s₂.status = .running ∧ Ended s₂ below o ∧ ∃ v L, o = .returned v ∧ Q v s₂.heap L ∧ FrameEnd s o s₂ L cc ss
theorem own_st (h : ∀ t, Steps p.tables e below (T'.setTop g') t → Steps p.tables e below (T.setTop g) t) (k : own_Goes p e below s Q cc ss T' g') : own_Goes p e below s Q cc ss T g := by
  obtain ⟨s₂, o, h1, r⟩ := k; exact ⟨s₂, o, h _ h1, r⟩
theorem own_end {v : Option Value} (X : Stand p l e R s m args below meth c T locs cells slots) (hlk : meth.locks = false) (hv : meth.sig.returnType = none → v = none) (hc : cells ≤ cc) (hs : slots ≤ ss) (hQ : Q v T.heap locs)
    (st : ∀ fs, (∀ (f : JFrame) (acts : List Action), f.method = m → f.locked = none → f.entered = [] → (doReturn e (T.setTop f) acts v).1 = T.setFrames fs) → Steps p.tables e below (T.setTop g) (T.setFrames fs)) : own_Goes p e below s Q cc ss T g := by
  obtain ⟨fs, hr, hrun, hended, hW, hsame⟩ := X.leave (v := v) hv hlk
  exact ⟨_, _, st fs hr, hrun, hended, _, _, rfl, hQ, ⟨_, rfl⟩, hW, hsame.mono hc hs⟩
theorem own_retN (X : Stand p l e R s m args below meth c T locs cells slots) (hx : p.tables.exec = Jvm.exec) (hlk : meth.locks = false) {t : FieldType} {z : Int32} {rest : List Value} (hret : meth.sig.returnType = some t) (ht : t = .boolean ∨ t = .byte ∨ t = .char ∨ t = .short) (hd : decode c.code pc = .ok (.ireturn, 1)) (hc : cells ≤ cc) (hs : slots ≤ ss) (hQ : Q (some (.int (nar t z))) T.heap locs) : own_Goes p e below s Q cc ss T (mkF m pc Ls (.int z :: rest)) :=
  own_end X hlk (fun h => by rw [hret] at h; cases h) hc hs hQ fun fs hr => retN X hx hret ht hd hr
theorem own_retI (X : Stand p l e R s m args below meth c T locs cells slots) (hx : p.tables.exec = Jvm.exec) (hlk : meth.locks = false) {z : Int32} {rest : List Value} (hret : meth.sig.returnType = some .int) (hd : decode c.code pc = .ok (.ireturn, 1)) (hc : cells ≤ cc) (hs : slots ≤ ss) (hQ : Q (some (.int z)) T.heap locs) : own_Goes p e below s Q cc ss T (mkF m pc Ls (.int z :: rest)) :=
  own_end X hlk (fun h => by rw [hret] at h; cases h) hc hs hQ fun fs hr => retOut X hx hret rfl (Or.inl ⟨rfl, Or.inl rfl, _, rfl⟩) hd hr
theorem own_retL (X : Stand p l e R s m args below meth c T locs cells slots) (hx : p.tables.exec = Jvm.exec) (hlk : meth.locks = false) {z : Int64} {rest : List Value} (hret : meth.sig.returnType = some .long) (hd : decode c.code pc = .ok (.lreturn, 1)) (hc : cells ≤ cc) (hs : slots ≤ ss) (hQ : Q (some (.long z)) T.heap locs) : own_Goes p e below s Q cc ss T (mkF m pc Ls (.long z :: rest)) :=
  own_end X hlk (fun h => by rw [hret] at h; cases h) hc hs hQ fun fs hr => retOut X hx hret rfl (Or.inr (Or.inl ⟨rfl, rfl, _, rfl⟩)) hd hr
theorem own_narR {t : FieldType} {w : Value} (hw : w.isRef = true) : narrow t w = w := by rcases ref_cases hw with rfl | ⟨a, rfl⟩ <;> cases t <;> rfl
theorem own_fitR {n : String} {w : Value} (hw : w.isRef = true) : fits (.object n) w = true := by rcases ref_cases hw with rfl | ⟨a, rfl⟩ <;> rfl
theorem own_retA (X : Stand p l e R s m args below meth c T locs cells slots) (hx : p.tables.exec = Jvm.exec) (hlk : meth.locks = false) {w : Value} {t : FieldType} {rest : List Value} (hw : w.isRef = true) (hret : meth.sig.returnType = some t) (ht : t.isReference = true) (hd : decode c.code pc = .ok (.areturn, 1)) (hc : cells ≤ cc) (hs : slots ≤ ss) (hQ : Q (some w) T.heap locs) : own_Goes p e below s Q cc ss T (mkF m pc Ls (w :: rest)) :=
  own_end X hlk (fun h => by rw [hret] at h; cases h) hc hs hQ fun fs hr => retOut X hx hret (own_narR hw) (Or.inr (Or.inr (Or.inr (Or.inr ⟨rfl, ht, hw⟩)))) hd hr
theorem own_ret0 (X : Stand p l e R s m args below meth c T locs cells slots) (hx : p.tables.exec = Jvm.exec) (hlk : meth.locks = false) (hret : meth.sig.returnType = none) (hd : decode c.code pc = .ok (.return_, 1)) (hc : cells ≤ cc) (hs : slots ≤ ss) (hQ : Q none T.heap locs) : own_Goes p e below s Q cc ss T (mkF m pc Ls []) :=
  own_end X hlk (fun _ => rfl) hc hs hQ fun fs hr => X.returnOut hx hret hd hr
theorem own_nsr {Z : State} {a0 : Array Value} {O K : String} {n : Nat} (w : (Cond.noSuperclass O).before a0 Z = true) (wk : (Cond.instantiable K n).before a0 Z = true) (hn : O ≠ K) : NS Z O K := by
  obtain ⟨c, k, h1, h2, h3, -, -⟩ := Cond.noSuperclass_spec w
  obtain ⟨t, kt, g1, -⟩ := Cond.instantiable_spec wk
  have ne := ids_ne h1 g1 hn
  refine ⟨c, t, h1, g1, fun fuel => ?_⟩
  cases fuel with
  | zero => rfl
  | succ f => simp [Vm.isSubclassAux, ne, h2, h3]
theorem own_nsn {Z : State} {a0 : Array Value} {C S K : String} {n : Nat} (w : (Cond.superclass C S).before a0 Z = true) (wk : (Cond.instantiable K n).before a0 Z = true) (q : NS Z C K) (hn : C ≠ K) : ∃ c t, Z.vm.findClass C = some c ∧ Z.vm.findClass K = some t ∧ Z.vm.assignable c t = false := by
  obtain ⟨c, t, h0, g0, n3⟩ := q
  obtain ⟨p, k, kp, h1, h2, h3, h4, h5, -, h7⟩ := Cond.superclass_spec h0 w
  obtain ⟨t', kt, g1, g2, g5, g6, -⟩ := Cond.instantiable_spec wk
  cases g0.symm.trans g1
  have g7 : kt.isInterface = false := by simp only [Bool.or_eq_false_iff] at g6; exact g6.1
  have ne := ids_ne h0 g0 hn
  refine ⟨c, t, h0, g0, ?_⟩
  show Z.vm.assignableAux (255 + 1) c t = false
  simp [Vm.assignableAux, ne, h2, g2, h5, g5, g7, Vm.isSubclass, n3]
theorem own_Sta_keep {Z : State} {h h' : Heap} {ws : List Addr} {C n d : String} {w : Value} (F : Sta Z h C n d w) (K : Keep h h' ws) (q : ∀ x ∈ ws, ∀ cell : Cell, h[x]? = some cell → cell.vm.isStatics = false) : Sta Z h' C n d w := by
  obtain ⟨cf, i, k, f, st, cell, h1, h2, h3, h4, h5, h6, h7⟩ := F
  exact ⟨cf, i, k, f, st, cell, h1, h2, h3, h4, K.2.1 st cell h5 (fun z => by rw [q st z cell h5] at h6; cases h6), h6, h7⟩
end New
end Jvm.RoadKit
namespace Jvm.Pilot.@@N@@
open Jvm Jvm.ClassFile Sem Op Lib Jvm.Free Jvm.Stand Jvm.LawKit Jvm.RoadKit Bundle Jvm.Pilot.@@N@@.Jvm.D
def own_b (P : Prop) [Decidable P] : Int32 := if P then 1 else 0
theorem own_bt {P : Prop} [Decidable P] (h : P) : (some (Value.int (nar .boolean 1)) : Option Value) = some (.int (own_b P)) := by rw [own_b, if_pos h]; rfl
theorem own_bf {P : Prop} [Decidable P] (h : ¬ P) : (some (Value.int (nar .boolean 0)) : Option Value) = some (.int (own_b P)) := by rw [own_b, if_neg h]; rfl
theorem own_b1 {P : Prop} [Decidable P] (h : P) : own_b P = 1 := if_pos h
theorem own_b0 {P : Prop} [Decidable P] (h : ¬ P) : own_b P = 0 := if_neg h
theorem own_bc {P P' : Prop} [Decidable P] [Decidable P'] (h : P ↔ P') : own_b P = own_b P' := by simp only [own_b, h]
theorem own_ord {args : Array Value} {s : State} {t : Term} {a : Addr} {C n d : String} {k : Int32} (et : t.eval args s none [] s = some (.ref a)) (h : (Jvm.Cond.eq (.field t C n d) (.int k)).value args s none s [] = some true) : Fld s s.heap a C n d (.int k) := by
  refine Fld.start ?_
  have e1 := fld_at (C := C) (n := n) (dd := d) et
  obtain ⟨x, y, h1, h2, h3, -⟩ := cmp_v (Or.inl h)
  rw [e1] at h1
  have h4 : y = .int k := (Option.some.inj h2).symm
  subst h4
  cases x <;> simp [Kin, Value.isRef] at h3
  rename_i z
  have q : (Jvm.Cond.eq (.field t C n d) (.int k)).value args s none s [] = some (decide (z = k)) := by simp [Cond.value, Term.eval, et, h1]
  rw [h1, gotT q h]
theorem own_fref {args : Array Value} {s : State} {t : Term} {a : Addr} {C n d K : String} (et : t.eval args s none [] s = some (.ref a)) (h : (Jvm.Cond.exactly (.field t C n d) K).value args s none s [] = some true) : ∃ k, Fld s s.heap a C n d (.ref k) := by
  obtain ⟨k, e⟩ := exa_v h
  exact ⟨k, Fld.start ((fld_at et).symm.trans e)⟩
theorem own_fnull {args : Array Value} {s : State} {t : Term} {a : Addr} {C n d : String} (et : t.eval args s none [] s = some (.ref a)) (h : (Jvm.Cond.eq (.field t C n d) .null).value args s none s [] = some true) : Fld s s.heap a C n d .null :=
  Fld.start ((fld_at et).symm.trans (null_v h))
abbrev rRrm4 : Room := { frames := 1, cells := 0, slots := 0, locals := 12 }
theorem d4_0 : decode jdk_22_method_1_code 0 = .ok (.aload_n 0, 1) := by decide +kernel
theorem d4_1 : decode jdk_22_method_1_code 1 = .ok (.invokespecial 1, 3) := by decide +kernel
theorem d4_4 : decode jdk_22_method_1_code 4 = .ok (.return_, 1) := by decide +kernel
theorem pn_rm4 : plainFor (⟨"java/util/AbstractCollection", "<init>", "()V"⟩ : MethodName) = true := by first | exact plainFor_of_name (by first | (simp [plainName, overriddenIn]; done) | decide +kernel) | decide +kernel
theorem ef_rm4 (m : MethodId) (a : Addr) : entryFrame m #[(.ref a)] 1 = (mkF m 0 #[rv a] []) := by first | (simp [entryFrame, mkF, argsToLocals, Value.category]; done) | rfl
def Q4 (Z : State) (a : Addr) (h0 : Heap) (n0 : Nat) (v_ : Option Value) (h_ : Heap) (L_ : List Loc) : Prop := (v_ = none) ∧ (Fr n0 L_) ∧ (h_ = h0)
set_option maxRecDepth 65536 in
set_option maxHeartbeats 40000000 in
theorem rm4 (l : Launch) (Z : State) (a0 : Array Value) (hw : ∀ d ∈ tables_1, d.before a0 Z = true) (ws : List Jvm.Cond) (a : Addr) (h0 : Heap) (n0 : Nat) (Z0 : n0 ≤ h0.size) :
    MetFree l (⟨"java/util/AbstractCollection", "<init>", "()V"⟩ : MethodName) (head1 (Jvm.Cond.code (⟨"java/util/AbstractCollection", "<init>", "()V"⟩ : MethodName) jdk_22_method_1_code 1 none :: ws) rRrm4) (fun a_ U_ => a_ = #[(.ref a)] ∧ Z.Warmed39 U_.vm ∧ U_.heap = h0) (fun _ _ _ _ _ => True) (fun _ U_ o_ U1_ => ∃ v_ L_, o_ = .returned v_ ∧ Q4 Z a h0 n0 v_ U1_.heap L_ ∧ FrameEnd U_ o_ U1_ L_ rRrm4.cells rRrm4.slots) := by
  refine MetFree.of_bodySF pn_rm4 hisR ?_
  intro p e s m args below meth c s₁ Bd hml0 hP hK
  obtain ⟨rfl, hZ, hh⟩ := hP
  have hx := Bd.exec
  have hby := Bd.bytes
  have hlk : meth.locks = false := Bd.notSynchronized
  have hml : c.maxLocals = 1 := hml0
  have hown : s.vm.findClass "java/util/AbstractCollection" = some m.cls := findClass_of_methodNamed Bd.named
  have hnm := (name_of_methodNamed Bd.named Bd.method).1
  have X0 : Stand p l e rRrm4 s m #[(.ref a)] below meth c s₁ [] 0 0 := Stand.of_body Bd
  have e0 : s₁.heap = h0 := by rw [← hh, Bd.state]; rfl
  have N0 := Fr.nil n0
  show own_Goes p e below s (Q4 Z a h0 n0) rRrm4.cells rRrm4.slots s₁ (entryFrame m #[(.ref a)] 1)
  rw [ef_rm4 m a]
  show own_Goes p e below s (Q4 Z a h0 n0) rRrm4.cells rRrm4.slots s₁ (mkF m 0 #[rv a] [])
  refine own_st (fun _ kk_ => XS.aloadN X0.here hx rfl (hb hby d4_0) rfl rfl kk_) ?_
  show own_Goes p e below s (Q4 Z a h0 n0) rRrm4.cells rRrm4.slots s₁ (mkF m 1 #[rv a] [(.ref a)])
  obtain ⟨T1, X1, e1, st1⟩ := initO X0 hx hZ hown (hw _ (List.mem_of_getElem? (i := 21) rfl)) (hw _ (List.mem_of_getElem? (i := 7) rfl)) (hw _ (List.mem_of_getElem? (i := 8) rfl)) e0 (g := (mkF m 1 #[rv a] [(.ref a)])) rfl (by rw [hml]; rfl) rfl (hb hby d4_1) (by decide) (W := 0) (by show 2 * 0 + _ ≤ _; exact Nat.le_of_eq rfl) (by decide)
  refine own_st st1 ?_
  show own_Goes p e below s (Q4 Z a h0 n0) rRrm4.cells rRrm4.slots T1 (mkF m 4 #[rv a] [])
  refine own_ret0 X1 hx hlk Bd.returns (hb hby d4_4) (by decide) (by decide) ?_
  show Q4 Z a h0 n0 none T1.heap _
  rw [e1]
  exact ⟨rfl, N0, rfl⟩
abbrev rRrm6 : Room := { frames := 1, cells := 0, slots := 0, locals := 12 }
theorem d6_0 : decode jdk_30_method_1_code 0 = .ok (.aload_n 0, 1) := by decide +kernel
theorem d6_1 : decode jdk_30_method_1_code 1 = .ok (.invokespecial 1, 3) := by decide +kernel
theorem d6_4 : decode jdk_30_method_1_code 4 = .ok (.return_, 1) := by decide +kernel
theorem pn_rm6 : plainFor (⟨"java/lang/Record", "<init>", "()V"⟩ : MethodName) = true := by first | exact plainFor_of_name (by first | (simp [plainName, overriddenIn]; done) | decide +kernel) | decide +kernel
theorem ef_rm6 (m : MethodId) (a : Addr) : entryFrame m #[(.ref a)] 1 = (mkF m 0 #[rv a] []) := by first | (simp [entryFrame, mkF, argsToLocals, Value.category]; done) | rfl
def Q6 (Z : State) (a : Addr) (h0 : Heap) (n0 : Nat) (v_ : Option Value) (h_ : Heap) (L_ : List Loc) : Prop := (v_ = none) ∧ (Fr n0 L_) ∧ (h_ = h0)
set_option maxRecDepth 65536 in
set_option maxHeartbeats 40000000 in
theorem rm6 (l : Launch) (Z : State) (a0 : Array Value) (hw : ∀ d ∈ tables_1, d.before a0 Z = true) (ws : List Jvm.Cond) (a : Addr) (h0 : Heap) (n0 : Nat) (Z0 : n0 ≤ h0.size) :
    MetFree l (⟨"java/lang/Record", "<init>", "()V"⟩ : MethodName) (head1 (Jvm.Cond.code (⟨"java/lang/Record", "<init>", "()V"⟩ : MethodName) jdk_30_method_1_code 1 none :: ws) rRrm6) (fun a_ U_ => a_ = #[(.ref a)] ∧ Z.Warmed39 U_.vm ∧ U_.heap = h0) (fun _ _ _ _ _ => True) (fun _ U_ o_ U1_ => ∃ v_ L_, o_ = .returned v_ ∧ Q6 Z a h0 n0 v_ U1_.heap L_ ∧ FrameEnd U_ o_ U1_ L_ rRrm6.cells rRrm6.slots) := by
  refine MetFree.of_bodySF pn_rm6 hisR ?_
  intro p e s m args below meth c s₁ Bd hml0 hP hK
  obtain ⟨rfl, hZ, hh⟩ := hP
  have hx := Bd.exec
  have hby := Bd.bytes
  have hlk : meth.locks = false := Bd.notSynchronized
  have hml : c.maxLocals = 1 := hml0
  have hown : s.vm.findClass "java/lang/Record" = some m.cls := findClass_of_methodNamed Bd.named
  have hnm := (name_of_methodNamed Bd.named Bd.method).1
  have X0 : Stand p l e rRrm6 s m #[(.ref a)] below meth c s₁ [] 0 0 := Stand.of_body Bd
  have e0 : s₁.heap = h0 := by rw [← hh, Bd.state]; rfl
  have N0 := Fr.nil n0
  show own_Goes p e below s (Q6 Z a h0 n0) rRrm6.cells rRrm6.slots s₁ (entryFrame m #[(.ref a)] 1)
  rw [ef_rm6 m a]
  show own_Goes p e below s (Q6 Z a h0 n0) rRrm6.cells rRrm6.slots s₁ (mkF m 0 #[rv a] [])
  refine own_st (fun _ kk_ => XS.aloadN X0.here hx rfl (hb hby d6_0) rfl rfl kk_) ?_
  show own_Goes p e below s (Q6 Z a h0 n0) rRrm6.cells rRrm6.slots s₁ (mkF m 1 #[rv a] [(.ref a)])
  obtain ⟨T1, X1, e1, st1⟩ := initO X0 hx hZ hown (hw _ (List.mem_of_getElem? (i := 43) rfl)) (hw _ (List.mem_of_getElem? (i := 7) rfl)) (hw _ (List.mem_of_getElem? (i := 8) rfl)) e0 (g := (mkF m 1 #[rv a] [(.ref a)])) rfl (by rw [hml]; rfl) rfl (hb hby d6_1) (by decide) (W := 0) (by show 2 * 0 + _ ≤ _; exact Nat.le_of_eq rfl) (by decide)
  refine own_st st1 ?_
  show own_Goes p e below s (Q6 Z a h0 n0) rRrm6.cells rRrm6.slots T1 (mkF m 4 #[rv a] [])
  refine own_ret0 X1 hx hlk Bd.returns (hb hby d6_4) (by decide) (by decide) ?_
  show Q6 Z a h0 n0 none T1.heap _
  rw [e1]
  exact ⟨rfl, N0, rfl⟩
abbrev rRrm3 : Room := { frames := 2, cells := 1, slots := 17, locals := 24 }
theorem d3_0 : decode jdk_21_method_3_code 0 = .ok (.aload_n 0, 1) := by decide +kernel
theorem d3_1 : decode jdk_21_method_3_code 1 = .ok (.invokespecial 42, 3) := by decide +kernel
theorem d3_4 : decode jdk_21_method_3_code 4 = .ok (.aload_n 0, 1) := by decide +kernel
theorem d3_5 : decode jdk_21_method_3_code 5 = .ok (.bipush 17, 2) := by decide +kernel
theorem d3_7 : decode jdk_21_method_3_code 7 = .ok (.anewarray 47, 3) := by decide +kernel
theorem d3_10 : decode jdk_21_method_3_code 10 = .ok (.putfield 3, 3) := by decide +kernel
theorem d3_13 : decode jdk_21_method_3_code 13 = .ok (.return_, 1) := by decide +kernel
theorem pd_0 : parseMethodDescriptor "()V" = some ⟨[], none⟩ := by decide +kernel
theorem pn_rm3 : plainFor (⟨"java/util/ArrayDeque", "<init>", "()V"⟩ : MethodName) = true := by first | exact plainFor_of_name (by first | (simp [plainName, overriddenIn]; done) | decide +kernel) | decide +kernel
theorem ef_rm3 (m : MethodId) (a : Addr) : entryFrame m #[(.ref a)] 1 = (mkF m 0 #[rv a] []) := by first | (simp [entryFrame, mkF, argsToLocals, Value.category]; done) | rfl
def Q3 (Z : State) (a : Addr) (h0 : Heap) (n0 : Nat) (v_ : Option Value) (h_ : Heap) (L_ : List Loc) : Prop := (v_ = none) ∧ (Fr n0 L_) ∧ (Keep h0 h_ [a])
set_option maxRecDepth 65536 in
set_option maxHeartbeats 40000000 in
theorem rm3 (l : Launch) (Z : State) (a0 : Array Value) (hw : ∀ d ∈ tables_1, d.before a0 Z = true) (ws : List Jvm.Cond) (a : Addr) (h0 : Heap) (n0 : Nat) (Z0 : n0 ≤ h0.size) (p_0 : Exa Z h0 a "java/util/ArrayDeque") (p_1 : Fld Z h0 a "java/util/ArrayDeque" "elements" "[Ljava/lang/Object;" .null) (p_2 : n0 ≤ a) :
    MetFree l (⟨"java/util/ArrayDeque", "<init>", "()V"⟩ : MethodName) (head1 (Jvm.Cond.code (⟨"java/util/ArrayDeque", "<init>", "()V"⟩ : MethodName) jdk_21_method_3_code 1 none :: ws) rRrm3) (fun a_ U_ => a_ = #[(.ref a)] ∧ Z.Warmed39 U_.vm ∧ U_.heap = h0) (fun _ _ _ _ _ => True) (fun _ U_ o_ U1_ => ∃ v_ L_, o_ = .returned v_ ∧ Q3 Z a h0 n0 v_ U1_.heap L_ ∧ FrameEnd U_ o_ U1_ L_ rRrm3.cells rRrm3.slots) := by
  refine MetFree.of_bodySF pn_rm3 hisR ?_
  intro p e s m args below meth c s₁ Bd hml0 hP hK
  obtain ⟨rfl, hZ, hh⟩ := hP
  have hx := Bd.exec
  have hby := Bd.bytes
  have hlk : meth.locks = false := Bd.notSynchronized
  have hml : c.maxLocals = 1 := hml0
  have hown : s.vm.findClass "java/util/ArrayDeque" = some m.cls := findClass_of_methodNamed Bd.named
  have hnm := (name_of_methodNamed Bd.named Bd.method).1
  have X0 : Stand p l e rRrm3 s m #[(.ref a)] below meth c s₁ [] 0 0 := Stand.of_body Bd
  have e0 : s₁.heap = h0 := by rw [← hh, Bd.state]; rfl
  have N0 := Fr.nil n0
  show own_Goes p e below s (Q3 Z a h0 n0) rRrm3.cells rRrm3.slots s₁ (entryFrame m #[(.ref a)] 1)
  rw [ef_rm3 m a]
  show own_Goes p e below s (Q3 Z a h0 n0) rRrm3.cells rRrm3.slots s₁ (mkF m 0 #[rv a] [])
  refine own_st (fun _ kk_ => XS.aloadN X0.here hx rfl (hb hby d3_0) rfl rfl kk_) ?_
  show own_Goes p e below s (Q3 Z a h0 n0) rRrm3.cells rRrm3.slots s₁ (mkF m 1 #[rv a] [(.ref a)])
  obtain ⟨_, _, ⟨T1, L1, k1, n1⟩, -, X1, ⟨Lc1, hQ1, l1, y1, z1⟩, st1⟩ := X0.specialBack hx (y := (⟨"java/util/AbstractCollection", "<init>", "()V"⟩ : MethodName)) rfl hown (mvT hZ (hw _ (List.mem_of_getElem? (i := 15) rfl))) (mvT hZ (hw _ (List.mem_of_getElem? (i := 16) rfl))) (mvT hZ (hw _ (List.mem_of_getElem? (i := 20) rfl))) (by decide) (backOf (W := 0) (rm4 l Z a0 hw [] (a) h0 n0 Z0) hZ (hw _ (List.mem_of_getElem? (i := 20) rfl)) (hw _ (List.mem_of_getElem? (i := 19) rfl)) (by decide) (by decide)) (g := (mkF m 1 #[rv a] [(.ref a)])) rfl (by rw [hml]; rfl) (Steps.refl _) (a := a) (argsL := []) (rest := []) (lenOf pd_0 rfl) rfl (by show 2 * 0 + _ ≤ _; exact Nat.le_of_eq rfl) (hb hby d3_1) (fun _ _ => ⟨rfl, e0, (by decide : 0 + 0 ≤ _), (by decide : 0 + 0 ≤ _)⟩)
  dsimp only [Pt.U, Pt.locs, Pt.cells, Pt.slots] at X1 l1 y1 z1 st1 hQ1
  subst l1 y1 z1
  obtain ⟨rfl, Nq1, eq1⟩ := hQ1
  have N1 := Fr.app N0 Nq1
  refine own_st (fun _ kk_ => st1.trans kk_) ?_
  show own_Goes p e below s (Q3 Z a h0 n0) rRrm3.cells rRrm3.slots T1 (mkF m 4 #[rv a] [])
  refine own_st (fun _ kk_ => XS.aloadN X1.here hx rfl (hb hby d3_4) rfl rfl (XS.bipush X1.here hx rfl (hb hby d3_5) kk_)) ?_
  show own_Goes p e below s (Q3 Z a h0 n0) rRrm3.cells rRrm3.slots T1 (mkF m 7 #[rv a] [(.int (17 : Int32)), (.ref a)])
  obtain ⟨T2, h2, k2, X2, e2, E2, A2, O2, st2⟩ := newR X1 hx hZ hown (hw _ (List.mem_of_getElem? (i := 22) rfl)) (hw _ (List.mem_of_getElem? (i := 23) rfl)) eq1 (g := (mkF m 7 #[rv a] [(.int (17 : Int32)), (.ref a)])) rfl (hb hby d3_7) rfl (by decide) (cap := 17) (by decide) (by decide) (by decide) (by decide)
  obtain ⟨b2, gx2⟩ : ∃ z, z = h0.size := ⟨_, rfl⟩
  rw [← gx2] at A2 st2
  have ne2_a : a ≠ b2 := Nat.ne_of_lt (Nat.lt_of_lt_of_eq p_0.lt gx2.symm)
  have gg2 : n0 ≤ b2 := Nat.le_trans Z0 (Nat.le_of_eq gx2.symm)
  have sz2 : h0.size ≤ b2 := Nat.le_trans (Keep.refl h0 [a]).1 (Nat.le_of_eq gx2.symm)
  have f2_0 := p_0.ext E2
  have f2_1 := p_1.ext E2
  have Zs2 : n0 ≤ h2.size := Nat.le_trans Z0 E2.1
  have K2 := (Keep.refl h0 [a]).ext E2
  have V2 : Arv Z h2 b2 k2 (.object "java/lang/Object") (17 : Int32) [.null, .null, .null, .null, .null, .null, .null, .null, .null, .null, .null, .null, .null, .null, .null, .null, .null] .null := (Arv.new A2 (by decide)).pad (pad_rep [] .null 17)
  refine own_st st2 ?_
  show own_Goes p e below s (Q3 Z a h0 n0) rRrm3.cells rRrm3.slots T2 (mkF m 10 #[rv a] [(.ref b2), (.ref a)])
  obtain ⟨T3, h3, X3, e3, W3, st3⟩ := putF X2 hx hZ hown (host := "") (Or.inl (hw _ (List.mem_of_getElem? (i := 24) rfl))) Via.refl e2 f2_1 f2_0 (Or.inl (hw _ (List.mem_of_getElem? (i := 25) rfl))) (hw _ (List.mem_of_getElem? (i := 10) rfl)) (ty := (.array (.object "java/lang/Object"))) (by decide) rfl rfl (g := (mkF m 10 #[rv a] [(.ref b2), (.ref a)])) rfl rfl (hb hby d3_10)
  have fw3 : Fld Z h3 a "java/util/ArrayDeque" "elements" "[Ljava/lang/Object;" (.ref b2) := f2_1.same W3
  have f3_0 := f2_0.wr W3
  have f3_2 := V2.other W3 (Ne.symm ne2_a)
  have Zs3 : n0 ≤ h3.size := Nat.le_trans Zs2 (Nat.le_of_eq W3.size.symm)
  have K3 := K2.wr W3 (Or.inl (List.mem_of_getElem? (i := 0) rfl))
  have N3 := Fr.snoc X3 N1 p_2
  refine own_st st3 ?_
  show own_Goes p e below s (Q3 Z a h0 n0) rRrm3.cells rRrm3.slots T3 (mkF m 13 #[rv a] [])
  refine own_ret0 X3 hx hlk Bd.returns (hb hby d3_13) (by decide) (by decide) ?_
  show Q3 Z a h0 n0 none T3.heap _
  rw [e3]
  exact ⟨rfl, N3, K3⟩
abbrev rRrm5 : Room := { frames := 2, cells := 0, slots := 0, locals := 24 }
theorem d5_0 : decode prog_50_method_1_code 0 = .ok (.aload_n 0, 1) := by decide +kernel
theorem d5_1 : decode prog_50_method_1_code 1 = .ok (.invokespecial 1, 3) := by decide +kernel
theorem d5_4 : decode prog_50_method_1_code 4 = .ok (.aload_n 0, 1) := by decide +kernel
theorem d5_5 : decode prog_50_method_1_code 5 = .ok (.iload_n 1, 1) := by decide +kernel
theorem d5_6 : decode prog_50_method_1_code 6 = .ok (.putfield 7, 3) := by decide +kernel
theorem d5_9 : decode prog_50_method_1_code 9 = .ok (.aload_n 0, 1) := by decide +kernel
theorem d5_10 : decode prog_50_method_1_code 10 = .ok (.iload_n 2, 1) := by decide +kernel
theorem d5_11 : decode prog_50_method_1_code 11 = .ok (.putfield 13, 3) := by decide +kernel
theorem d5_14 : decode prog_50_method_1_code 14 = .ok (.aload_n 0, 1) := by decide +kernel
theorem d5_15 : decode prog_50_method_1_code 15 = .ok (.iload_n 3, 1) := by decide +kernel
theorem d5_16 : decode prog_50_method_1_code 16 = .ok (.putfield 16, 3) := by decide +kernel
theorem d5_19 : decode prog_50_method_1_code 19 = .ok (.aload_n 0, 1) := by decide +kernel
theorem d5_20 : decode prog_50_method_1_code 20 = .ok (.iload 4, 2) := by decide +kernel
theorem d5_22 : decode prog_50_method_1_code 22 = .ok (.putfield 19, 3) := by decide +kernel
theorem d5_25 : decode prog_50_method_1_code 25 = .ok (.return_, 1) := by decide +kernel
theorem pn_rm5 : plainFor (⟨"com/example/treepass/treepass/Rect", "<init>", "(IIII)V"⟩ : MethodName) = true := by first | exact plainFor_of_name (by first | (simp [plainName, overriddenIn]; done) | decide +kernel) | decide +kernel
theorem ef_rm5 (m : MethodId) (a : Addr) (p1 : Int32) (p2 : Int32) (p3 : Int32) (p4 : Int32) : entryFrame m #[(.ref a), (.int p1), (.int p2), (.int p3), (.int p4)] 5 = (mkF m 0 #[rv a, iv p1, iv p2, iv p3, iv p4] []) := by first | (simp [entryFrame, mkF, argsToLocals, Value.category]; done) | rfl
def Q5 (Z : State) (a : Addr) (p1 : Int32) (p2 : Int32) (p3 : Int32) (p4 : Int32) (h0 : Heap) (n0 : Nat) (v_ : Option Value) (h_ : Heap) (L_ : List Loc) : Prop := (v_ = none) ∧ (Fr n0 L_) ∧ (Keep h0 h_ [a]) ∧ (Fld Z h_ a "com/example/treepass/treepass/Rect" "left" "I" (.int p1)) ∧ (Fld Z h_ a "com/example/treepass/treepass/Rect" "top" "I" (.int p2)) ∧ (Fld Z h_ a "com/example/treepass/treepass/Rect" "right" "I" (.int p3)) ∧ (Fld Z h_ a "com/example/treepass/treepass/Rect" "bottom" "I" (.int p4))
set_option maxRecDepth 65536 in
set_option maxHeartbeats 40000000 in
theorem rm5 (l : Launch) (Z : State) (a0 : Array Value) (hw : ∀ d ∈ tables_1, d.before a0 Z = true) (ws : List Jvm.Cond) (a : Addr) (p1 : Int32) (p2 : Int32) (p3 : Int32) (p4 : Int32) (h0 : Heap) (n0 : Nat) (Z0 : n0 ≤ h0.size) (p_0 : Exa Z h0 a "com/example/treepass/treepass/Rect") (p_1 : Fld Z h0 a "com/example/treepass/treepass/Rect" "left" "I" (.int (0 : Int32))) (p_2 : Fld Z h0 a "com/example/treepass/treepass/Rect" "top" "I" (.int (0 : Int32))) (p_3 : Fld Z h0 a "com/example/treepass/treepass/Rect" "right" "I" (.int (0 : Int32))) (p_4 : Fld Z h0 a "com/example/treepass/treepass/Rect" "bottom" "I" (.int (0 : Int32))) (p_5 : n0 ≤ a) :
    MetFree l (⟨"com/example/treepass/treepass/Rect", "<init>", "(IIII)V"⟩ : MethodName) (head1 (Jvm.Cond.code (⟨"com/example/treepass/treepass/Rect", "<init>", "(IIII)V"⟩ : MethodName) prog_50_method_1_code 5 none :: ws) rRrm5) (fun a_ U_ => a_ = #[(.ref a), (.int p1), (.int p2), (.int p3), (.int p4)] ∧ Z.Warmed39 U_.vm ∧ U_.heap = h0) (fun _ _ _ _ _ => True) (fun _ U_ o_ U1_ => ∃ v_ L_, o_ = .returned v_ ∧ Q5 Z a p1 p2 p3 p4 h0 n0 v_ U1_.heap L_ ∧ FrameEnd U_ o_ U1_ L_ rRrm5.cells rRrm5.slots) := by
  refine MetFree.of_bodySF pn_rm5 hisR ?_
  intro p e s m args below meth c s₁ Bd hml0 hP hK
  obtain ⟨rfl, hZ, hh⟩ := hP
  have hx := Bd.exec
  have hby := Bd.bytes
  have hlk : meth.locks = false := Bd.notSynchronized
  have hml : c.maxLocals = 5 := hml0
  have hown : s.vm.findClass "com/example/treepass/treepass/Rect" = some m.cls := findClass_of_methodNamed Bd.named
  have hnm := (name_of_methodNamed Bd.named Bd.method).1
  have X0 : Stand p l e rRrm5 s m #[(.ref a), (.int p1), (.int p2), (.int p3), (.int p4)] below meth c s₁ [] 0 0 := Stand.of_body Bd
  have e0 : s₁.heap = h0 := by rw [← hh, Bd.state]; rfl
  have N0 := Fr.nil n0
  show own_Goes p e below s (Q5 Z a p1 p2 p3 p4 h0 n0) rRrm5.cells rRrm5.slots s₁ (entryFrame m #[(.ref a), (.int p1), (.int p2), (.int p3), (.int p4)] 5)
  rw [ef_rm5 m a p1 p2 p3 p4]
  show own_Goes p e below s (Q5 Z a p1 p2 p3 p4 h0 n0) rRrm5.cells rRrm5.slots s₁ (mkF m 0 #[rv a, iv p1, iv p2, iv p3, iv p4] [])
  refine own_st (fun _ kk_ => XS.aloadN X0.here hx rfl (hb hby d5_0) rfl rfl kk_) ?_
  show own_Goes p e below s (Q5 Z a p1 p2 p3 p4 h0 n0) rRrm5.cells rRrm5.slots s₁ (mkF m 1 #[rv a, iv p1, iv p2, iv p3, iv p4] [(.ref a)])
  obtain ⟨_, _, ⟨T1, L1, k1, n1⟩, -, X1, ⟨Lc1, hQ1, l1, y1, z1⟩, st1⟩ := X0.specialBack hx (y := (⟨"java/lang/Record", "<init>", "()V"⟩ : MethodName)) rfl hown (mvT hZ (hw _ (List.mem_of_getElem? (i := 38) rfl))) (mvT hZ (hw _ (List.mem_of_getElem? (i := 39) rfl))) (mvT hZ (hw _ (List.mem_of_getElem? (i := 42) rfl))) (by decide) (backOf (W := 0) (rm6 l Z a0 hw [] (a) h0 n0 Z0) hZ (hw _ (List.mem_of_getElem? (i := 42) rfl)) (hw _ (List.mem_of_getElem? (i := 41) rfl)) (by decide) (by decide)) (g := (mkF m 1 #[rv a, iv p1, iv p2, iv p3, iv p4] [(.ref a)])) rfl (by rw [hml]; rfl) (Steps.refl _) (a := a) (argsL := []) (rest := []) (lenOf pd_0 rfl) rfl (by show 2 * 0 + _ ≤ _; exact Nat.le_of_eq rfl) (hb hby d5_1) (fun _ _ => ⟨rfl, e0, (by decide : 0 + 0 ≤ _), (by decide : 0 + 0 ≤ _)⟩)
  dsimp only [Pt.U, Pt.locs, Pt.cells, Pt.slots] at X1 l1 y1 z1 st1 hQ1
  subst l1 y1 z1
  obtain ⟨rfl, Nq1, eq1⟩ := hQ1
  have N1 := Fr.app N0 Nq1
  refine own_st (fun _ kk_ => st1.trans kk_) ?_
  show own_Goes p e below s (Q5 Z a p1 p2 p3 p4 h0 n0) rRrm5.cells rRrm5.slots T1 (mkF m 4 #[rv a, iv p1, iv p2, iv p3, iv p4] [])
  refine own_st (fun _ kk_ => XS.aloadN X1.here hx rfl (hb hby d5_4) rfl rfl (XS.iloadN X1.here hx rfl (hb hby d5_5) rfl kk_)) ?_
  show own_Goes p e below s (Q5 Z a p1 p2 p3 p4 h0 n0) rRrm5.cells rRrm5.slots T1 (mkF m 6 #[rv a, iv p1, iv p2, iv p3, iv p4] [(.int p1), (.ref a)])
  obtain ⟨T2, h2, X2, e2, W2, st2⟩ := putF X1 hx hZ hown (host := "") (Or.inl (hw _ (List.mem_of_getElem? (i := 44) rfl))) Via.refl eq1 p_1 p_0 (Or.inr ⟨(hw _ (List.mem_of_getElem? (i := 45) rfl)), rfl, hnm⟩) (hw _ (List.mem_of_getElem? (i := 33) rfl)) (ty := .int) (by decide) rfl rfl (g := (mkF m 6 #[rv a, iv p1, iv p2, iv p3, iv p4] [(.int p1), (.ref a)])) rfl rfl (hb hby d5_6)
  have fw2 : Fld Z h2 a "com/example/treepass/treepass/Rect" "left" "I" (.int p1) := p_1.same W2
  have f2_0 := p_0.wr W2
  have f2_2 := p_2.other W2 (Or.inr (slot_ne (Or.inr (hw _ (List.mem_of_getElem? (i := 47) rfl))) (Or.inr (hw _ (List.mem_of_getElem? (i := 45) rfl))) (by decide) (t := .int) (t' := .int) (by decide) (by decide)))
  have f2_3 := p_3.other W2 (Or.inr (slot_ne (Or.inr (hw _ (List.mem_of_getElem? (i := 49) rfl))) (Or.inr (hw _ (List.mem_of_getElem? (i := 45) rfl))) (by decide) (t := .int) (t' := .int) (by decide) (by decide)))
  have f2_4 := p_4.other W2 (Or.inr (slot_ne (Or.inr (hw _ (List.mem_of_getElem? (i := 51) rfl))) (Or.inr (hw _ (List.mem_of_getElem? (i := 45) rfl))) (by decide) (t := .int) (t' := .int) (by decide) (by decide)))
  have Zs2 : n0 ≤ h2.size := Nat.le_trans Z0 (Nat.le_of_eq W2.size.symm)
  have K2 := (Keep.refl h0 [a]).wr W2 (Or.inl (List.mem_of_getElem? (i := 0) rfl))
  have N2 := Fr.snoc X2 N1 p_5
  refine own_st st2 ?_
  show own_Goes p e below s (Q5 Z a p1 p2 p3 p4 h0 n0) rRrm5.cells rRrm5.slots T2 (mkF m 9 #[rv a, iv p1, iv p2, iv p3, iv p4] [])
  refine own_st (fun _ kk_ => XS.aloadN X2.here hx rfl (hb hby d5_9) rfl rfl (XS.iloadN X2.here hx rfl (hb hby d5_10) rfl kk_)) ?_
  show own_Goes p e below s (Q5 Z a p1 p2 p3 p4 h0 n0) rRrm5.cells rRrm5.slots T2 (mkF m 11 #[rv a, iv p1, iv p2, iv p3, iv p4] [(.int p2), (.ref a)])
  obtain ⟨T3, h3, X3, e3, W3, st3⟩ := putF X2 hx hZ hown (host := "") (Or.inl (hw _ (List.mem_of_getElem? (i := 46) rfl))) Via.refl e2 f2_2 f2_0 (Or.inr ⟨(hw _ (List.mem_of_getElem? (i := 47) rfl)), rfl, hnm⟩) (hw _ (List.mem_of_getElem? (i := 33) rfl)) (ty := .int) (by decide) rfl rfl (g := (mkF m 11 #[rv a, iv p1, iv p2, iv p3, iv p4] [(.int p2), (.ref a)])) rfl rfl (hb hby d5_11)
  have fw3 : Fld Z h3 a "com/example/treepass/treepass/Rect" "top" "I" (.int p2) := f2_2.same W3
  have f3_0 := f2_0.wr W3
  have f3_2 := f2_3.other W3 (Or.inr (slot_ne (Or.inr (hw _ (List.mem_of_getElem? (i := 49) rfl))) (Or.inr (hw _ (List.mem_of_getElem? (i := 47) rfl))) (by decide) (t := .int) (t' := .int) (by decide) (by decide)))
  have f3_3 := f2_4.other W3 (Or.inr (slot_ne (Or.inr (hw _ (List.mem_of_getElem? (i := 51) rfl))) (Or.inr (hw _ (List.mem_of_getElem? (i := 47) rfl))) (by decide) (t := .int) (t' := .int) (by decide) (by decide)))
  have f3_4 := fw2.other W3 (Or.inr (slot_ne (Or.inr (hw _ (List.mem_of_getElem? (i := 45) rfl))) (Or.inr (hw _ (List.mem_of_getElem? (i := 47) rfl))) (by decide) (t := .int) (t' := .int) (by decide) (by decide)))
  have Zs3 : n0 ≤ h3.size := Nat.le_trans Zs2 (Nat.le_of_eq W3.size.symm)
  have K3 := K2.wr W3 (Or.inl (List.mem_of_getElem? (i := 0) rfl))
  have N3 := Fr.snoc X3 N2 p_5
  refine own_st st3 ?_
  show own_Goes p e below s (Q5 Z a p1 p2 p3 p4 h0 n0) rRrm5.cells rRrm5.slots T3 (mkF m 14 #[rv a, iv p1, iv p2, iv p3, iv p4] [])
  refine own_st (fun _ kk_ => XS.aloadN X3.here hx rfl (hb hby d5_14) rfl rfl (XS.iloadN X3.here hx rfl (hb hby d5_15) rfl kk_)) ?_
  show own_Goes p e below s (Q5 Z a p1 p2 p3 p4 h0 n0) rRrm5.cells rRrm5.slots T3 (mkF m 16 #[rv a, iv p1, iv p2, iv p3, iv p4] [(.int p3), (.ref a)])
  obtain ⟨T4, h4, X4, e4, W4, st4⟩ := putF X3 hx hZ hown (host := "") (Or.inl (hw _ (List.mem_of_getElem? (i := 48) rfl))) Via.refl e3 f3_2 f3_0 (Or.inr ⟨(hw _ (List.mem_of_getElem? (i := 49) rfl)), rfl, hnm⟩) (hw _ (List.mem_of_getElem? (i := 33) rfl)) (ty := .int) (by decide) rfl rfl (g := (mkF m 16 #[rv a, iv p1, iv p2, iv p3, iv p4] [(.int p3), (.ref a)])) rfl rfl (hb hby d5_16)
  have fw4 : Fld Z h4 a "com/example/treepass/treepass/Rect" "right" "I" (.int p3) := f3_2.same W4
  have f4_0 := f3_0.wr W4
  have f4_2 := f3_3.other W4 (Or.inr (slot_ne (Or.inr (hw _ (List.mem_of_getElem? (i := 51) rfl))) (Or.inr (hw _ (List.mem_of_getElem? (i := 49) rfl))) (by decide) (t := .int) (t' := .int) (by decide) (by decide)))
  have f4_3 := f3_4.other W4 (Or.inr (slot_ne (Or.inr (hw _ (List.mem_of_getElem? (i := 45) rfl))) (Or.inr (hw _ (List.mem_of_getElem? (i := 49) rfl))) (by decide) (t := .int) (t' := .int) (by decide) (by decide)))
  have f4_4 := fw3.other W4 (Or.inr (slot_ne (Or.inr (hw _ (List.mem_of_getElem? (i := 47) rfl))) (Or.inr (hw _ (List.mem_of_getElem? (i := 49) rfl))) (by decide) (t := .int) (t' := .int) (by decide) (by decide)))
  have Zs4 : n0 ≤ h4.size := Nat.le_trans Zs3 (Nat.le_of_eq W4.size.symm)
  have K4 := K3.wr W4 (Or.inl (List.mem_of_getElem? (i := 0) rfl))
  have N4 := Fr.snoc X4 N3 p_5
  refine own_st st4 ?_
  show own_Goes p e below s (Q5 Z a p1 p2 p3 p4 h0 n0) rRrm5.cells rRrm5.slots T4 (mkF m 19 #[rv a, iv p1, iv p2, iv p3, iv p4] [])
  refine own_st (fun _ kk_ => XS.aloadN X4.here hx rfl (hb hby d5_19) rfl rfl (XS.iload X4.here hx rfl (hb hby d5_20) rfl kk_)) ?_
  show own_Goes p e below s (Q5 Z a p1 p2 p3 p4 h0 n0) rRrm5.cells rRrm5.slots T4 (mkF m 22 #[rv a, iv p1, iv p2, iv p3, iv p4] [(.int p4), (.ref a)])
  obtain ⟨T5, h5, X5, e5, W5, st5⟩ := putF X4 hx hZ hown (host := "") (Or.inl (hw _ (List.mem_of_getElem? (i := 50) rfl))) Via.refl e4 f4_2 f4_0 (Or.inr ⟨(hw _ (List.mem_of_getElem? (i := 51) rfl)), rfl, hnm⟩) (hw _ (List.mem_of_getElem? (i := 33) rfl)) (ty := .int) (by decide) rfl rfl (g := (mkF m 22 #[rv a, iv p1, iv p2, iv p3, iv p4] [(.int p4), (.ref a)])) rfl rfl (hb hby d5_22)
  have fw5 : Fld Z h5 a "com/example/treepass/treepass/Rect" "bottom" "I" (.int p4) := f4_2.same W5
  have f5_0 := f4_0.wr W5
  have f5_2 := f4_3.other W5 (Or.inr (slot_ne (Or.inr (hw _ (List.mem_of_getElem? (i := 45) rfl))) (Or.inr (hw _ (List.mem_of_getElem? (i := 51) rfl))) (by decide) (t := .int) (t' := .int) (by decide) (by decide)))
  have f5_3 := f4_4.other W5 (Or.inr (slot_ne (Or.inr (hw _ (List.mem_of_getElem? (i := 47) rfl))) (Or.inr (hw _ (List.mem_of_getElem? (i := 51) rfl))) (by decide) (t := .int) (t' := .int) (by decide) (by decide)))
  have f5_4 := fw4.other W5 (Or.inr (slot_ne (Or.inr (hw _ (List.mem_of_getElem? (i := 49) rfl))) (Or.inr (hw _ (List.mem_of_getElem? (i := 51) rfl))) (by decide) (t := .int) (t' := .int) (by decide) (by decide)))
  have Zs5 : n0 ≤ h5.size := Nat.le_trans Zs4 (Nat.le_of_eq W5.size.symm)
  have K5 := K4.wr W5 (Or.inl (List.mem_of_getElem? (i := 0) rfl))
  have N5 := Fr.snoc X5 N4 p_5
  refine own_st st5 ?_
  show own_Goes p e below s (Q5 Z a p1 p2 p3 p4 h0 n0) rRrm5.cells rRrm5.slots T5 (mkF m 25 #[rv a, iv p1, iv p2, iv p3, iv p4] [])
  refine own_ret0 X5 hx hlk Bd.returns (hb hby d5_25) (by decide) (by decide) ?_
  show Q5 Z a p1 p2 p3 p4 h0 n0 none T5.heap _
  rw [e5]
  exact ⟨rfl, N5, K5, f5_2, f5_3, f5_4, fw5⟩
abbrev rRrm1 : Room := { frames := 3, cells := 3, slots := 24, locals := 42 }
theorem d1_0 : decode prog_21_method_1_code 0 = .ok (.aload_n 0, 1) := by decide +kernel
theorem d1_1 : decode prog_21_method_1_code 1 = .ok (.invokespecial 1, 3) := by decide +kernel
theorem d1_4 : decode prog_21_method_1_code 4 = .ok (.aload_n 0, 1) := by decide +kernel
theorem d1_5 : decode prog_21_method_1_code 5 = .ok (.new 7, 3) := by decide +kernel
theorem d1_8 : decode prog_21_method_1_code 8 = .ok (.dup, 1) := by decide +kernel
theorem d1_9 : decode prog_21_method_1_code 9 = .ok (.invokespecial 9, 3) := by decide +kernel
theorem d1_12 : decode prog_21_method_1_code 12 = .ok (.putfield 10, 3) := by decide +kernel
theorem d1_15 : decode prog_21_method_1_code 15 = .ok (.aload_n 0, 1) := by decide +kernel
theorem d1_16 : decode prog_21_method_1_code 16 = .ok (.iload_n 1, 1) := by decide +kernel
theorem d1_17 : decode prog_21_method_1_code 17 = .ok (.putfield 16, 3) := by decide +kernel
theorem d1_20 : decode prog_21_method_1_code 20 = .ok (.aload_n 0, 1) := by decide +kernel
theorem d1_21 : decode prog_21_method_1_code 21 = .ok (.iload_n 2, 1) := by decide +kernel
theorem d1_22 : decode prog_21_method_1_code 22 = .ok (.putfield 20, 3) := by decide +kernel
theorem d1_25 : decode prog_21_method_1_code 25 = .ok (.aload_n 0, 1) := by decide +kernel
theorem d1_26 : decode prog_21_method_1_code 26 = .ok (.new 23, 3) := by decide +kernel
theorem d1_29 : decode prog_21_method_1_code 29 = .ok (.dup, 1) := by decide +kernel
theorem d1_30 : decode prog_21_method_1_code 30 = .ok (.iconst 0, 1) := by decide +kernel
theorem d1_31 : decode prog_21_method_1_code 31 = .ok (.iconst 0, 1) := by decide +kernel
theorem d1_32 : decode prog_21_method_1_code 32 = .ok (.iload_n 1, 1) := by decide +kernel
theorem d1_33 : decode prog_21_method_1_code 33 = .ok (.iload_n 2, 1) := by decide +kernel
theorem d1_34 : decode prog_21_method_1_code 34 = .ok (.invokespecial 25, 3) := by decide +kernel
theorem d1_37 : decode prog_21_method_1_code 37 = .ok (.putfield 28, 3) := by decide +kernel
theorem d1_40 : decode prog_21_method_1_code 40 = .ok (.return_, 1) := by decide +kernel
theorem pd_1 : parseMethodDescriptor "(IIII)V" = some ⟨[.int, .int, .int, .int], none⟩ := by decide +kernel
theorem pn_rm1 : plainFor (⟨"com/example/treepass/treepass/FrameState", "<init>", "(II)V"⟩ : MethodName) = true := by first | exact plainFor_of_name (by first | (simp [plainName, overriddenIn]; done) | decide +kernel) | decide +kernel
theorem ef_rm1 (m : MethodId) (a : Addr) (w : Int32) (hgt : Int32) : entryFrame m #[(.ref a), (.int w), (.int hgt)] 3 = (mkF m 0 #[rv a, iv w, iv hgt] []) := by first | (simp [entryFrame, mkF, argsToLocals, Value.category]; done) | rfl
def Q1 (Z : State) (a : Addr) (w : Int32) (hgt : Int32) (h0 : Heap) (n0 : Nat) (v_ : Option Value) (h_ : Heap) (L_ : List Loc) : Prop := ∃ r : Addr, (v_ = none) ∧ (Fr n0 L_) ∧ (Keep h0 h_ [a]) ∧ (h0.size ≤ r) ∧ (Fld Z h_ a "com/example/treepass/treepass/FrameState" "dirty" "Lcom/example/treepass/treepass/Rect;" (.ref r)) ∧ (Exa Z h_ r "com/example/treepass/treepass/Rect") ∧ (Fld Z h_ r "com/example/treepass/treepass/Rect" "left" "I" (.int (0 : Int32))) ∧ (Fld Z h_ r "com/example/treepass/treepass/Rect" "top" "I" (.int (0 : Int32))) ∧ (Fld Z h_ r "com/example/treepass/treepass/Rect" "right" "I" (.int w)) ∧ (Fld Z h_ r "com/example/treepass/treepass/Rect" "bottom" "I" (.int hgt)) ∧ (Fld Z h_ a "com/example/treepass/treepass/FrameState" "measured" "I" (.int (0 : Int32))) ∧ (Fld Z h_ a "com/example/treepass/treepass/FrameState" "laidOut" "I" (.int (0 : Int32))) ∧ (Fld Z h_ a "com/example/treepass/treepass/FrameState" "drawn" "I" (.int (0 : Int32)))
set_option maxRecDepth 65536 in
set_option maxHeartbeats 40000000 in
theorem rm1 (l : Launch) (Z : State) (a0 : Array Value) (hw : ∀ d ∈ tables_1, d.before a0 Z = true) (ws : List Jvm.Cond) (a : Addr) (w : Int32) (hgt : Int32) (h0 : Heap) (n0 : Nat) (Z0 : n0 ≤ h0.size) (p_0 : Exa Z h0 a "com/example/treepass/treepass/FrameState") (p_1 : Fld Z h0 a "com/example/treepass/treepass/FrameState" "posted" "Ljava/util/Deque;" .null) (p_2 : Fld Z h0 a "com/example/treepass/treepass/FrameState" "windowWidth" "I" (.int (0 : Int32))) (p_3 : Fld Z h0 a "com/example/treepass/treepass/FrameState" "windowHeight" "I" (.int (0 : Int32))) (p_4 : Fld Z h0 a "com/example/treepass/treepass/FrameState" "dirty" "Lcom/example/treepass/treepass/Rect;" .null) (p_5 : Fld Z h0 a "com/example/treepass/treepass/FrameState" "measured" "I" (.int (0 : Int32))) (p_6 : Fld Z h0 a "com/example/treepass/treepass/FrameState" "laidOut" "I" (.int (0 : Int32))) (p_7 : Fld Z h0 a "com/example/treepass/treepass/FrameState" "drawn" "I" (.int (0 : Int32))) (p_8 : n0 ≤ a) :
    MetFree l (⟨"com/example/treepass/treepass/FrameState", "<init>", "(II)V"⟩ : MethodName) (head1 (Jvm.Cond.code (⟨"com/example/treepass/treepass/FrameState", "<init>", "(II)V"⟩ : MethodName) prog_21_method_1_code 3 none :: ws) rRrm1) (fun a_ U_ => a_ = #[(.ref a), (.int w), (.int hgt)] ∧ Z.Warmed39 U_.vm ∧ U_.heap = h0) (fun _ _ _ _ _ => True) (fun _ U_ o_ U1_ => ∃ v_ L_, o_ = .returned v_ ∧ Q1 Z a w hgt h0 n0 v_ U1_.heap L_ ∧ FrameEnd U_ o_ U1_ L_ rRrm1.cells rRrm1.slots) := by
  refine MetFree.of_bodySF pn_rm1 hisR ?_
  intro p e s m args below meth c s₁ Bd hml0 hP hK
  obtain ⟨rfl, hZ, hh⟩ := hP
  have hx := Bd.exec
  have hby := Bd.bytes
  have hlk : meth.locks = false := Bd.notSynchronized
  have hml : c.maxLocals = 3 := hml0
  have hown : s.vm.findClass "com/example/treepass/treepass/FrameState" = some m.cls := findClass_of_methodNamed Bd.named
  have hnm := (name_of_methodNamed Bd.named Bd.method).1
  have X0 : Stand p l e rRrm1 s m #[(.ref a), (.int w), (.int hgt)] below meth c s₁ [] 0 0 := Stand.of_body Bd
  have e0 : s₁.heap = h0 := by rw [← hh, Bd.state]; rfl
  have N0 := Fr.nil n0
  show own_Goes p e below s (Q1 Z a w hgt h0 n0) rRrm1.cells rRrm1.slots s₁ (entryFrame m #[(.ref a), (.int w), (.int hgt)] 3)
  rw [ef_rm1 m a w hgt]
  show own_Goes p e below s (Q1 Z a w hgt h0 n0) rRrm1.cells rRrm1.slots s₁ (mkF m 0 #[rv a, iv w, iv hgt] [])
  refine own_st (fun _ kk_ => XS.aloadN X0.here hx rfl (hb hby d1_0) rfl rfl kk_) ?_
  show own_Goes p e below s (Q1 Z a w hgt h0 n0) rRrm1.cells rRrm1.slots s₁ (mkF m 1 #[rv a, iv w, iv hgt] [(.ref a)])
  obtain ⟨T1, X1, e1, st1⟩ := initO X0 hx hZ hown (hw _ (List.mem_of_getElem? (i := 6) rfl)) (hw _ (List.mem_of_getElem? (i := 7) rfl)) (hw _ (List.mem_of_getElem? (i := 8) rfl)) e0 (g := (mkF m 1 #[rv a, iv w, iv hgt] [(.ref a)])) rfl (by rw [hml]; rfl) rfl (hb hby d1_1) (by decide) (W := 0) (by show 2 * 0 + _ ≤ _; exact Nat.le_of_eq rfl) (by decide)
  refine own_st st1 ?_
  show own_Goes p e below s (Q1 Z a w hgt h0 n0) rRrm1.cells rRrm1.slots T1 (mkF m 4 #[rv a, iv w, iv hgt] [])
  refine own_st (fun _ kk_ => XS.aloadN X1.here hx rfl (hb hby d1_4) rfl rfl kk_) ?_
  show own_Goes p e below s (Q1 Z a w hgt h0 n0) rRrm1.cells rRrm1.slots T1 (mkF m 5 #[rv a, iv w, iv hgt] [(.ref a)])
  obtain ⟨T2, h2, X2, e2, E2, A2, D2, -, st2⟩ := newO X1 hx hZ hown (hw _ (List.mem_of_getElem? (i := 9) rfl)) (hw _ (List.mem_of_getElem? (i := 10) rfl)) (hw _ (List.mem_of_getElem? (i := 11) rfl)) e1 (g := (mkF m 5 #[rv a, iv w, iv hgt] [(.ref a)])) rfl (hb hby d1_5) (by decide) (by decide)
  obtain ⟨b2, gx2⟩ : ∃ z, z = h0.size := ⟨_, rfl⟩
  rw [← gx2] at A2 D2 st2
  have ne2_a : a ≠ b2 := Nat.ne_of_lt (Nat.lt_of_lt_of_eq p_0.lt gx2.symm)
  have gg2 : n0 ≤ b2 := Nat.le_trans Z0 (Nat.le_of_eq gx2.symm)
  have sz2 : h0.size ≤ b2 := Nat.le_trans (Keep.refl h0 [a]).1 (Nat.le_of_eq gx2.symm)
  have f2_0 := p_0.ext E2
  have f2_1 := p_1.ext E2
  have f2_2 := p_2.ext E2
  have f2_3 := p_3.ext E2
  have f2_4 := p_4.ext E2
  have f2_5 := p_5.ext E2
  have f2_6 := p_6.ext E2
  have f2_7 := p_7.ext E2
  have Zs2 : n0 ≤ h2.size := Nat.le_trans Z0 E2.1
  have K2 := (Keep.refl h0 [a]).ext E2
  have fn2_elements : Fld Z h2 b2 "java/util/ArrayDeque" "elements" "[Ljava/lang/Object;" .null := D2 (Or.inl (hw _ (List.mem_of_getElem? (i := 25) rfl))) (ty := (.array (.object "java/lang/Object"))) (by decide)
  refine own_st st2 ?_
  show own_Goes p e below s (Q1 Z a w hgt h0 n0) rRrm1.cells rRrm1.slots T2 (mkF m 8 #[rv a, iv w, iv hgt] [(.ref b2), (.ref a)])
  refine own_st (fun _ kk_ => XS.dup X2.here hx rfl (hb hby d1_8) rfl rfl kk_) ?_
  show own_Goes p e below s (Q1 Z a w hgt h0 n0) rRrm1.cells rRrm1.slots T2 (mkF m 9 #[rv a, iv w, iv hgt] [(.ref b2), (.ref b2), (.ref a)])
  obtain ⟨_, _, ⟨T3, L3, k3, n3⟩, -, X3, ⟨Lc3, hQ3, l3, y3, z3⟩, st3⟩ := X2.specialBack hx (y := (⟨"java/util/ArrayDeque", "<init>", "()V"⟩ : MethodName)) rfl hown (mvT hZ (hw _ (List.mem_of_getElem? (i := 12) rfl))) (mvT hZ (hw _ (List.mem_of_getElem? (i := 13) rfl))) (mvT hZ (hw _ (List.mem_of_getElem? (i := 14) rfl))) (by decide) (backOf (W := 2) (rm3 l Z a0 hw [] (b2) h2 n0 Zs2 A2 fn2_elements gg2) hZ (hw _ (List.mem_of_getElem? (i := 14) rfl)) (hw _ (List.mem_of_getElem? (i := 11) rfl)) (by decide) (by decide)) (g := (mkF m 9 #[rv a, iv w, iv hgt] [(.ref b2), (.ref b2), (.ref a)])) rfl (by rw [hml]; rfl) (Steps.refl _) (a := b2) (argsL := []) (rest := [(.ref b2), (.ref a)]) (lenOf pd_0 rfl) rfl (by show 2 * 0 + _ ≤ _; exact Nat.le_of_eq rfl) (hb hby d1_9) (fun _ _ => ⟨rfl, e2, (by decide : 1 + 1 ≤ _), (by decide : 3 + 17 ≤ _)⟩)
  dsimp only [Pt.U, Pt.locs, Pt.cells, Pt.slots] at X3 l3 y3 z3 st3 hQ3
  subst l3 y3 z3
  obtain ⟨rfl, Nq3, Kq3⟩ := hQ3
  have N3 := Fr.app N0 Nq3
  have f3_0 := f2_0.keep Kq3
  have f3_1 := f2_1.keep Kq3 (ninS ne2_a nin0)
  have f3_2 := f2_2.keep Kq3 (ninS ne2_a nin0)
  have f3_3 := f2_3.keep Kq3 (ninS ne2_a nin0)
  have f3_4 := f2_4.keep Kq3 (ninS ne2_a nin0)
  have f3_5 := f2_5.keep Kq3 (ninS ne2_a nin0)
  have f3_6 := f2_6.keep Kq3 (ninS ne2_a nin0)
  have f3_7 := f2_7.keep Kq3 (ninS ne2_a nin0)
  have f3_8 := A2.keep Kq3
  have Zs3 : n0 ≤ T3.heap.size := Nat.le_trans Zs2 Kq3.1
  have K3 := K2.trans Kq3 (allS (Or.inr sz2) all0)
  refine own_st (fun _ kk_ => st3.trans kk_) ?_
  show own_Goes p e below s (Q1 Z a w hgt h0 n0) rRrm1.cells rRrm1.slots T3 (mkF m 12 #[rv a, iv w, iv hgt] [(.ref b2), (.ref a)])
  obtain ⟨T4, h4, X4, e4, W4, st4⟩ := putF X3 hx hZ hown (host := "") (Or.inl (hw _ (List.mem_of_getElem? (i := 26) rfl))) Via.refl rfl f3_1 f3_0 (Or.inr ⟨(hw _ (List.mem_of_getElem? (i := 27) rfl)), rfl, hnm⟩) (hw _ (List.mem_of_getElem? (i := 1) rfl)) (ty := (.object "java/util/Deque")) (by decide) rfl rfl (g := (mkF m 12 #[rv a, iv w, iv hgt] [(.ref b2), (.ref a)])) rfl rfl (hb hby d1_12)
  have fw4 : Fld Z h4 a "com/example/treepass/treepass/FrameState" "posted" "Ljava/util/Deque;" (.ref b2) := f3_1.same W4
  have f4_0 := f3_0.wr W4
  have f4_2 := f3_2.other W4 (Or.inr (slot_ne (Or.inr (hw _ (List.mem_of_getElem? (i := 29) rfl))) (Or.inr (hw _ (List.mem_of_getElem? (i := 27) rfl))) (by decide) (t := .int) (t' := (.object "java/util/Deque")) (by decide) (by decide)))
  have f4_3 := f3_3.other W4 (Or.inr (slot_ne (Or.inr (hw _ (List.mem_of_getElem? (i := 31) rfl))) (Or.inr (hw _ (List.mem_of_getElem? (i := 27) rfl))) (by decide) (t := .int) (t' := (.object "java/util/Deque")) (by decide) (by decide)))
  have f4_4 := f3_4.other W4 (Or.inr (slot_ne (Or.inl (hw _ (List.mem_of_getElem? (i := 53) rfl))) (Or.inr (hw _ (List.mem_of_getElem? (i := 27) rfl))) (by decide) (t := (.object "com/example/treepass/treepass/Rect")) (t' := (.object "java/util/Deque")) (by decide) (by decide)))
  have f4_5 := f3_5.other W4 (Or.inr (slot_ne (Or.inl (hw _ (List.mem_of_getElem? (i := 67) rfl))) (Or.inr (hw _ (List.mem_of_getElem? (i := 27) rfl))) (by decide) (t := .int) (t' := (.object "java/util/Deque")) (by decide) (by decide)))
  have f4_6 := f3_6.other W4 (Or.inr (slot_ne (Or.inl (hw _ (List.mem_of_getElem? (i := 60) rfl))) (Or.inr (hw _ (List.mem_of_getElem? (i := 27) rfl))) (by decide) (t := .int) (t' := (.object "java/util/Deque")) (by decide) (by decide)))
  have f4_7 := f3_7.other W4 (Or.inr (slot_ne (Or.inl (hw _ (List.mem_of_getElem? (i := 69) rfl))) (Or.inr (hw _ (List.mem_of_getElem? (i := 27) rfl))) (by decide) (t := .int) (t' := (.object "java/util/Deque")) (by decide) (by decide)))
  have f4_8 := f3_8.wr W4
  have Zs4 : n0 ≤ h4.size := Nat.le_trans Zs3 (Nat.le_of_eq W4.size.symm)
  have K4 := K3.wr W4 (Or.inl (List.mem_of_getElem? (i := 0) rfl))
  have N4 := Fr.snoc X4 N3 p_8
  refine own_st st4 ?_
  show own_Goes p e below s (Q1 Z a w hgt h0 n0) rRrm1.cells rRrm1.slots T4 (mkF m 15 #[rv a, iv w, iv hgt] [])
  refine own_st (fun _ kk_ => XS.aloadN X4.here hx rfl (hb hby d1_15) rfl rfl (XS.iloadN X4.here hx rfl (hb hby d1_16) rfl kk_)) ?_
  show own_Goes p e below s (Q1 Z a w hgt h0 n0) rRrm1.cells rRrm1.slots T4 (mkF m 17 #[rv a, iv w, iv hgt] [(.int w), (.ref a)])
  obtain ⟨T5, h5, X5, e5, W5, st5⟩ := putF X4 hx hZ hown (host := "") (Or.inl (hw _ (List.mem_of_getElem? (i := 28) rfl))) Via.refl e4 f4_2 f4_0 (Or.inr ⟨(hw _ (List.mem_of_getElem? (i := 29) rfl)), rfl, hnm⟩) (hw _ (List.mem_of_getElem? (i := 1) rfl)) (ty := .int) (by decide) rfl rfl (g := (mkF m 17 #[rv a, iv w, iv hgt] [(.int w), (.ref a)])) rfl rfl (hb hby d1_17)
  have fw5 : Fld Z h5 a "com/example/treepass/treepass/FrameState" "windowWidth" "I" (.int w) := f4_2.same W5
  have f5_0 := f4_0.wr W5
  have f5_2 := f4_3.other W5 (Or.inr (slot_ne (Or.inr (hw _ (List.mem_of_getElem? (i := 31) rfl))) (Or.inr (hw _ (List.mem_of_getElem? (i := 29) rfl))) (by decide) (t := .int) (t' := .int) (by decide) (by decide)))
  have f5_3 := f4_4.other W5 (Or.inr (slot_ne (Or.inl (hw _ (List.mem_of_getElem? (i := 53) rfl))) (Or.inr (hw _ (List.mem_of_getElem? (i := 29) rfl))) (by decide) (t := (.object "com/example/treepass/treepass/Rect")) (t' := .int) (by decide) (by decide)))
  have f5_4 := f4_5.other W5 (Or.inr (slot_ne (Or.inl (hw _ (List.mem_of_getElem? (i := 67) rfl))) (Or.inr (hw _ (List.mem_of_getElem? (i := 29) rfl))) (by decide) (t := .int) (t' := .int) (by decide) (by decide)))
  have f5_5 := f4_6.other W5 (Or.inr (slot_ne (Or.inl (hw _ (List.mem_of_getElem? (i := 60) rfl))) (Or.inr (hw _ (List.mem_of_getElem? (i := 29) rfl))) (by decide) (t := .int) (t' := .int) (by decide) (by decide)))
  have f5_6 := f4_7.other W5 (Or.inr (slot_ne (Or.inl (hw _ (List.mem_of_getElem? (i := 69) rfl))) (Or.inr (hw _ (List.mem_of_getElem? (i := 29) rfl))) (by decide) (t := .int) (t' := .int) (by decide) (by decide)))
  have f5_7 := f4_8.wr W5
  have f5_8 := fw4.other W5 (Or.inr (slot_ne (Or.inr (hw _ (List.mem_of_getElem? (i := 27) rfl))) (Or.inr (hw _ (List.mem_of_getElem? (i := 29) rfl))) (by decide) (t := (.object "java/util/Deque")) (t' := .int) (by decide) (by decide)))
  have Zs5 : n0 ≤ h5.size := Nat.le_trans Zs4 (Nat.le_of_eq W5.size.symm)
  have K5 := K4.wr W5 (Or.inl (List.mem_of_getElem? (i := 0) rfl))
  have N5 := Fr.snoc X5 N4 p_8
  refine own_st st5 ?_
  show own_Goes p e below s (Q1 Z a w hgt h0 n0) rRrm1.cells rRrm1.slots T5 (mkF m 20 #[rv a, iv w, iv hgt] [])
  refine own_st (fun _ kk_ => XS.aloadN X5.here hx rfl (hb hby d1_20) rfl rfl (XS.iloadN X5.here hx rfl (hb hby d1_21) rfl kk_)) ?_
  show own_Goes p e below s (Q1 Z a w hgt h0 n0) rRrm1.cells rRrm1.slots T5 (mkF m 22 #[rv a, iv w, iv hgt] [(.int hgt), (.ref a)])
  obtain ⟨T6, h6, X6, e6, W6, st6⟩ := putF X5 hx hZ hown (host := "") (Or.inl (hw _ (List.mem_of_getElem? (i := 30) rfl))) Via.refl e5 f5_2 f5_0 (Or.inr ⟨(hw _ (List.mem_of_getElem? (i := 31) rfl)), rfl, hnm⟩) (hw _ (List.mem_of_getElem? (i := 1) rfl)) (ty := .int) (by decide) rfl rfl (g := (mkF m 22 #[rv a, iv w, iv hgt] [(.int hgt), (.ref a)])) rfl rfl (hb hby d1_22)
  have fw6 : Fld Z h6 a "com/example/treepass/treepass/FrameState" "windowHeight" "I" (.int hgt) := f5_2.same W6
  have f6_0 := f5_0.wr W6
  have f6_2 := f5_3.other W6 (Or.inr (slot_ne (Or.inl (hw _ (List.mem_of_getElem? (i := 53) rfl))) (Or.inr (hw _ (List.mem_of_getElem? (i := 31) rfl))) (by decide) (t := (.object "com/example/treepass/treepass/Rect")) (t' := .int) (by decide) (by decide)))
  have f6_3 := f5_4.other W6 (Or.inr (slot_ne (Or.inl (hw _ (List.mem_of_getElem? (i := 67) rfl))) (Or.inr (hw _ (List.mem_of_getElem? (i := 31) rfl))) (by decide) (t := .int) (t' := .int) (by decide) (by decide)))
  have f6_4 := f5_5.other W6 (Or.inr (slot_ne (Or.inl (hw _ (List.mem_of_getElem? (i := 60) rfl))) (Or.inr (hw _ (List.mem_of_getElem? (i := 31) rfl))) (by decide) (t := .int) (t' := .int) (by decide) (by decide)))
  have f6_5 := f5_6.other W6 (Or.inr (slot_ne (Or.inl (hw _ (List.mem_of_getElem? (i := 69) rfl))) (Or.inr (hw _ (List.mem_of_getElem? (i := 31) rfl))) (by decide) (t := .int) (t' := .int) (by decide) (by decide)))
  have f6_6 := f5_7.wr W6
  have f6_7 := f5_8.other W6 (Or.inr (slot_ne (Or.inr (hw _ (List.mem_of_getElem? (i := 27) rfl))) (Or.inr (hw _ (List.mem_of_getElem? (i := 31) rfl))) (by decide) (t := (.object "java/util/Deque")) (t' := .int) (by decide) (by decide)))
  have f6_8 := fw5.other W6 (Or.inr (slot_ne (Or.inr (hw _ (List.mem_of_getElem? (i := 29) rfl))) (Or.inr (hw _ (List.mem_of_getElem? (i := 31) rfl))) (by decide) (t := .int) (t' := .int) (by decide) (by decide)))
  have Zs6 : n0 ≤ h6.size := Nat.le_trans Zs5 (Nat.le_of_eq W6.size.symm)
  have K6 := K5.wr W6 (Or.inl (List.mem_of_getElem? (i := 0) rfl))
  have N6 := Fr.snoc X6 N5 p_8
  refine own_st st6 ?_
  show own_Goes p e below s (Q1 Z a w hgt h0 n0) rRrm1.cells rRrm1.slots T6 (mkF m 25 #[rv a, iv w, iv hgt] [])
  refine own_st (fun _ kk_ => XS.aloadN X6.here hx rfl (hb hby d1_25) rfl rfl kk_) ?_
  show own_Goes p e below s (Q1 Z a w hgt h0 n0) rRrm1.cells rRrm1.slots T6 (mkF m 26 #[rv a, iv w, iv hgt] [(.ref a)])
  obtain ⟨T7, h7, X7, e7, E7, A7, D7, -, st7⟩ := newO X6 hx hZ hown (hw _ (List.mem_of_getElem? (i := 32) rfl)) (hw _ (List.mem_of_getElem? (i := 33) rfl)) (hw _ (List.mem_of_getElem? (i := 34) rfl)) e6 (g := (mkF m 26 #[rv a, iv w, iv hgt] [(.ref a)])) rfl (hb hby d1_26) (by decide) (by decide)
  obtain ⟨b7, gx7⟩ : ∃ z, z = h6.size := ⟨_, rfl⟩
  rw [← gx7] at A7 D7 st7
  have ne7_a : a ≠ b7 := Nat.ne_of_lt (Nat.lt_of_lt_of_eq f6_0.lt gx7.symm)
  have ne7_b2 : b2 ≠ b7 := Nat.ne_of_lt (Nat.lt_of_lt_of_eq f6_6.lt gx7.symm)
  have gg7 : n0 ≤ b7 := Nat.le_trans Zs6 (Nat.le_of_eq gx7.symm)
  have sz7 : h0.size ≤ b7 := Nat.le_trans K6.1 (Nat.le_of_eq gx7.symm)
  have f7_0 := f6_0.ext E7
  have f7_1 := f6_2.ext E7
  have f7_2 := f6_3.ext E7
  have f7_3 := f6_4.ext E7
  have f7_4 := f6_5.ext E7
  have f7_5 := f6_6.ext E7
  have f7_6 := f6_7.ext E7
  have f7_7 := f6_8.ext E7
  have f7_8 := fw6.ext E7
  have Zs7 : n0 ≤ h7.size := Nat.le_trans Zs6 E7.1
  have K7 := K6.ext E7
  have fn7_left : Fld Z h7 b7 "com/example/treepass/treepass/Rect" "left" "I" (.int (0 : Int32)) := D7 (Or.inr (hw _ (List.mem_of_getElem? (i := 45) rfl))) (ty := .int) (by decide)
  have fn7_top : Fld Z h7 b7 "com/example/treepass/treepass/Rect" "top" "I" (.int (0 : Int32)) := D7 (Or.inr (hw _ (List.mem_of_getElem? (i := 47) rfl))) (ty := .int) (by decide)
  have fn7_right : Fld Z h7 b7 "com/example/treepass/treepass/Rect" "right" "I" (.int (0 : Int32)) := D7 (Or.inr (hw _ (List.mem_of_getElem? (i := 49) rfl))) (ty := .int) (by decide)
  have fn7_bottom : Fld Z h7 b7 "com/example/treepass/treepass/Rect" "bottom" "I" (.int (0 : Int32)) := D7 (Or.inr (hw _ (List.mem_of_getElem? (i := 51) rfl))) (ty := .int) (by decide)
  refine own_st st7 ?_
  show own_Goes p e below s (Q1 Z a w hgt h0 n0) rRrm1.cells rRrm1.slots T7 (mkF m 29 #[rv a, iv w, iv hgt] [(.ref b7), (.ref a)])
  refine own_st (fun _ kk_ => XS.dup X7.here hx rfl (hb hby d1_29) rfl rfl (XS.iconst X7.here hx rfl (hb hby d1_30) (XS.iconst X7.here hx rfl (hb hby d1_31) (XS.iloadN X7.here hx rfl (hb hby d1_32) rfl (XS.iloadN X7.here hx rfl (hb hby d1_33) rfl kk_))))) ?_
  show own_Goes p e below s (Q1 Z a w hgt h0 n0) rRrm1.cells rRrm1.slots T7 (mkF m 34 #[rv a, iv w, iv hgt] [(.int hgt), (.int w), (.int (0 : Int32)), (.int (0 : Int32)), (.ref b7), (.ref b7), (.ref a)])
  obtain ⟨_, _, ⟨T8, L8, k8, n8⟩, -, X8, ⟨Lc8, hQ8, l8, y8, z8⟩, st8⟩ := X7.specialBack hx (y := (⟨"com/example/treepass/treepass/Rect", "<init>", "(IIII)V"⟩ : MethodName)) rfl hown (mvT hZ (hw _ (List.mem_of_getElem? (i := 35) rfl))) (mvT hZ (hw _ (List.mem_of_getElem? (i := 36) rfl))) (mvT hZ (hw _ (List.mem_of_getElem? (i := 37) rfl))) (by decide) (backOf (W := 2) (rm5 l Z a0 hw [] (b7) ((0 : Int32)) ((0 : Int32)) (w) (hgt) h7 n0 Zs7 A7 fn7_left fn7_top fn7_right fn7_bottom gg7) hZ (hw _ (List.mem_of_getElem? (i := 37) rfl)) (hw _ (List.mem_of_getElem? (i := 34) rfl)) (by decide) (by decide)) (g := (mkF m 34 #[rv a, iv w, iv hgt] [(.int hgt), (.int w), (.int (0 : Int32)), (.int (0 : Int32)), (.ref b7), (.ref b7), (.ref a)])) rfl (by rw [hml]; rfl) (Steps.refl _) (a := b7) (argsL := [(.int (0 : Int32)), (.int (0 : Int32)), (.int w), (.int hgt)]) (rest := [(.ref b7), (.ref a)]) (lenOf pd_1 rfl) rfl (by show 2 * 0 + _ ≤ _; exact Nat.le_of_eq rfl) (hb hby d1_34) (fun _ _ => ⟨rfl, e7, (by decide : 3 + 0 ≤ _), (by decide : 24 + 0 ≤ _)⟩)
  dsimp only [Pt.U, Pt.locs, Pt.cells, Pt.slots] at X8 l8 y8 z8 st8 hQ8
  subst l8 y8 z8
  obtain ⟨rfl, Nq8, Kq8, u8_0, u8_1, u8_2, u8_3⟩ := hQ8
  have N8 := Fr.app N6 Nq8
  have f8_0 := f7_0.keep Kq8
  have f8_1 := f7_1.keep Kq8 (ninS ne7_a nin0)
  have f8_2 := f7_2.keep Kq8 (ninS ne7_a nin0)
  have f8_3 := f7_3.keep Kq8 (ninS ne7_a nin0)
  have f8_4 := f7_4.keep Kq8 (ninS ne7_a nin0)
  have f8_5 := f7_5.keep Kq8
  have f8_6 := f7_6.keep Kq8 (ninS ne7_a nin0)
  have f8_7 := f7_7.keep Kq8 (ninS ne7_a nin0)
  have f8_8 := f7_8.keep Kq8 (ninS ne7_a nin0)
  have f8_9 := A7.keep Kq8
  have Zs8 : n0 ≤ T8.heap.size := Nat.le_trans Zs7 Kq8.1
  have K8 := K7.trans Kq8 (allS (Or.inr sz7) all0)
  refine own_st (fun _ kk_ => st8.trans kk_) ?_
  show own_Goes p e below s (Q1 Z a w hgt h0 n0) rRrm1.cells rRrm1.slots T8 (mkF m 37 #[rv a, iv w, iv hgt] [(.ref b7), (.ref a)])
  obtain ⟨T9, h9, X9, e9, W9, st9⟩ := putF X8 hx hZ hown (host := "") (Or.inl (hw _ (List.mem_of_getElem? (i := 52) rfl))) Via.refl rfl f8_1 f8_0 (Or.inl (hw _ (List.mem_of_getElem? (i := 53) rfl))) (hw _ (List.mem_of_getElem? (i := 1) rfl)) (ty := (.object "com/example/treepass/treepass/Rect")) (by decide) rfl rfl (g := (mkF m 37 #[rv a, iv w, iv hgt] [(.ref b7), (.ref a)])) rfl rfl (hb hby d1_37)
  have fw9 : Fld Z h9 a "com/example/treepass/treepass/FrameState" "dirty" "Lcom/example/treepass/treepass/Rect;" (.ref b7) := f8_1.same W9
  have f9_0 := f8_0.wr W9
  have f9_2 := f8_2.other W9 (Or.inr (slot_ne (Or.inl (hw _ (List.mem_of_getElem? (i := 67) rfl))) (Or.inl (hw _ (List.mem_of_getElem? (i := 53) rfl))) (by decide) (t := .int) (t' := (.object "com/example/treepass/treepass/Rect")) (by decide) (by decide)))
  have f9_3 := f8_3.other W9 (Or.inr (slot_ne (Or.inl (hw _ (List.mem_of_getElem? (i := 60) rfl))) (Or.inl (hw _ (List.mem_of_getElem? (i := 53) rfl))) (by decide) (t := .int) (t' := (.object "com/example/treepass/treepass/Rect")) (by decide) (by decide)))
  have f9_4 := f8_4.other W9 (Or.inr (slot_ne (Or.inl (hw _ (List.mem_of_getElem? (i := 69) rfl))) (Or.inl (hw _ (List.mem_of_getElem? (i := 53) rfl))) (by decide) (t := .int) (t' := (.object "com/example/treepass/treepass/Rect")) (by decide) (by decide)))
  have f9_5 := f8_5.wr W9
  have f9_6 := f8_6.other W9 (Or.inr (slot_ne (Or.inr (hw _ (List.mem_of_getElem? (i := 27) rfl))) (Or.inl (hw _ (List.mem_of_getElem? (i := 53) rfl))) (by decide) (t := (.object "java/util/Deque")) (t' := (.object "com/example/treepass/treepass/Rect")) (by decide) (by decide)))
  have f9_7 := f8_7.other W9 (Or.inr (slot_ne (Or.inr (hw _ (List.mem_of_getElem? (i := 29) rfl))) (Or.inl (hw _ (List.mem_of_getElem? (i := 53) rfl))) (by decide) (t := .int) (t' := (.object "com/example/treepass/treepass/Rect")) (by decide) (by decide)))
  have f9_8 := f8_8.other W9 (Or.inr (slot_ne (Or.inr (hw _ (List.mem_of_getElem? (i := 31) rfl))) (Or.inl (hw _ (List.mem_of_getElem? (i := 53) rfl))) (by decide) (t := .int) (t' := (.object "com/example/treepass/treepass/Rect")) (by decide) (by decide)))
  have f9_9 := f8_9.wr W9
  have f9_10 := u8_0.other W9 (Or.inl (Ne.symm ne7_a))
  have f9_11 := u8_1.other W9 (Or.inl (Ne.symm ne7_a))
  have f9_12 := u8_2.other W9 (Or.inl (Ne.symm ne7_a))
  have f9_13 := u8_3.other W9 (Or.inl (Ne.symm ne7_a))
  have Zs9 : n0 ≤ h9.size := Nat.le_trans Zs8 (Nat.le_of_eq W9.size.symm)
  have K9 := K8.wr W9 (Or.inl (List.mem_of_getElem? (i := 0) rfl))
  have N9 := Fr.snoc X9 N8 p_8
  refine own_st st9 ?_
  show own_Goes p e below s (Q1 Z a w hgt h0 n0) rRrm1.cells rRrm1.slots T9 (mkF m 40 #[rv a, iv w, iv hgt] [])
  refine own_ret0 X9 hx hlk Bd.returns (hb hby d1_40) (by decide) (by decide) ?_
  show Q1 Z a w hgt h0 n0 none T9.heap _
  rw [e9]
  exact ⟨b7, rfl, N9, K9, sz7, fw9, f9_9, f9_10, f9_11, f9_12, f9_13, f9_2, f9_3, f9_4⟩
abbrev rRrm22 : Room := { frames := 0, cells := 0, slots := 0, locals := 0 }
theorem d22_0 : decode prog_21_method_6_code 0 = .ok (.aload_n 0, 1) := by decide +kernel
theorem d22_1 : decode prog_21_method_6_code 1 = .ok (.dup, 1) := by decide +kernel
theorem d22_2 : decode prog_21_method_6_code 2 = .ok (.getfield 49, 3) := by decide +kernel
theorem d22_5 : decode prog_21_method_6_code 5 = .ok (.iconst 1, 1) := by decide +kernel
theorem d22_6 : decode prog_21_method_6_code 6 = .ok (.iadd, 1) := by decide +kernel
theorem d22_7 : decode prog_21_method_6_code 7 = .ok (.putfield 49, 3) := by decide +kernel
theorem d22_10 : decode prog_21_method_6_code 10 = .ok (.return_, 1) := by decide +kernel
theorem pn_rm22 : plainFor (⟨"com/example/treepass/treepass/FrameState", "viewMeasured", "()V"⟩ : MethodName) = true := by first | exact plainFor_of_name (by first | (simp [plainName, overriddenIn]; done) | decide +kernel) | decide +kernel
theorem ef_rm22 (m : MethodId) (a : Addr) : entryFrame m #[(.ref a)] 1 = (mkF m 0 #[rv a] []) := by first | (simp [entryFrame, mkF, argsToLocals, Value.category]; done) | rfl
def Q22 (Z : State) (a : Addr) (mz : Int32) (l9 : Int32) (d : Int32) (r : Addr) (h0 : Heap) (n0 : Nat) (v_ : Option Value) (h_ : Heap) (L_ : List Loc) : Prop := (v_ = none) ∧ (Fr n0 L_) ∧ (Keep h0 h_ [a]) ∧ (Fld Z h_ a "com/example/treepass/treepass/FrameState" "measured" "I" (.int (mz + (1 : Int32)))) ∧ (Fld Z h_ a "com/example/treepass/treepass/FrameState" "laidOut" "I" (.int l9)) ∧ (Fld Z h_ a "com/example/treepass/treepass/FrameState" "drawn" "I" (.int d)) ∧ (Fld Z h_ a "com/example/treepass/treepass/FrameState" "dirty" "Lcom/example/treepass/treepass/Rect;" (.ref r))
set_option maxRecDepth 65536 in
set_option maxHeartbeats 40000000 in
theorem rm22 (l : Launch) (Z : State) (a0 : Array Value) (hw : ∀ d ∈ tables_1, d.before a0 Z = true) (ws : List Jvm.Cond) (a : Addr) (mz : Int32) (l9 : Int32) (d : Int32) (r : Addr) (h0 : Heap) (n0 : Nat) (Z0 : n0 ≤ h0.size) (p_0 : Fld Z h0 a "com/example/treepass/treepass/FrameState" "measured" "I" (.int mz)) (p_1 : Fld Z h0 a "com/example/treepass/treepass/FrameState" "laidOut" "I" (.int l9)) (p_2 : Fld Z h0 a "com/example/treepass/treepass/FrameState" "drawn" "I" (.int d)) (p_3 : Fld Z h0 a "com/example/treepass/treepass/FrameState" "dirty" "Lcom/example/treepass/treepass/Rect;" (.ref r)) (p_4 : Exa Z h0 a "com/example/treepass/treepass/FrameState") (p_5 : n0 ≤ a) :
    MetFree l (⟨"com/example/treepass/treepass/FrameState", "viewMeasured", "()V"⟩ : MethodName) (head1 (Jvm.Cond.code (⟨"com/example/treepass/treepass/FrameState", "viewMeasured", "()V"⟩ : MethodName) prog_21_method_6_code 1 none :: ws) rRrm22) (fun a_ U_ => a_ = #[(.ref a)] ∧ Z.Warmed39 U_.vm ∧ U_.heap = h0) (fun _ _ _ _ _ => True) (fun _ U_ o_ U1_ => ∃ v_ L_, o_ = .returned v_ ∧ Q22 Z a mz l9 d r h0 n0 v_ U1_.heap L_ ∧ FrameEnd U_ o_ U1_ L_ rRrm22.cells rRrm22.slots) := by
  refine MetFree.of_bodySF pn_rm22 hisR ?_
  intro p e s m args below meth c s₁ Bd hml0 hP hK
  obtain ⟨rfl, hZ, hh⟩ := hP
  have hx := Bd.exec
  have hby := Bd.bytes
  have hlk : meth.locks = false := Bd.notSynchronized
  have hml : c.maxLocals = 1 := hml0
  have hown : s.vm.findClass "com/example/treepass/treepass/FrameState" = some m.cls := findClass_of_methodNamed Bd.named
  have hnm := (name_of_methodNamed Bd.named Bd.method).1
  have X0 : Stand p l e rRrm22 s m #[(.ref a)] below meth c s₁ [] 0 0 := Stand.of_body Bd
  have e0 : s₁.heap = h0 := by rw [← hh, Bd.state]; rfl
  have N0 := Fr.nil n0
  show own_Goes p e below s (Q22 Z a mz l9 d r h0 n0) rRrm22.cells rRrm22.slots s₁ (entryFrame m #[(.ref a)] 1)
  rw [ef_rm22 m a]
  show own_Goes p e below s (Q22 Z a mz l9 d r h0 n0) rRrm22.cells rRrm22.slots s₁ (mkF m 0 #[rv a] [])
  refine own_st (fun _ kk_ => XS.aloadN X0.here hx rfl (hb hby d22_0) rfl rfl (XS.dup X0.here hx rfl (hb hby d22_1) rfl rfl kk_)) ?_
  show own_Goes p e below s (Q22 Z a mz l9 d r h0 n0) rRrm22.cells rRrm22.slots s₁ (mkF m 2 #[rv a] [(.ref a), (.ref a)])
  obtain ⟨T1, X1, e1, st1⟩ := getF X0 hx hZ hown (host := "") (Or.inl (hw _ (List.mem_of_getElem? (i := 66) rfl))) Via.refl e0 p_0 (g := (mkF m 2 #[rv a] [(.ref a), (.ref a)])) rfl rfl (hb hby d22_2)
  refine own_st st1 ?_
  show own_Goes p e below s (Q22 Z a mz l9 d r h0 n0) rRrm22.cells rRrm22.slots T1 (mkF m 5 #[rv a] [(.int mz), (.ref a)])
  refine own_st (fun _ kk_ => XS.iconst X1.here hx rfl (hb hby d22_5) (XS.iadd X1.here hx rfl (hb hby d22_6) rfl kk_)) ?_
  show own_Goes p e below s (Q22 Z a mz l9 d r h0 n0) rRrm22.cells rRrm22.slots T1 (mkF m 7 #[rv a] [(.int (mz + (1 : Int32))), (.ref a)])
  obtain ⟨T2, h2, X2, e2, W2, st2⟩ := putF X1 hx hZ hown (host := "") (Or.inl (hw _ (List.mem_of_getElem? (i := 66) rfl))) Via.refl e1 p_0 p_4 (Or.inl (hw _ (List.mem_of_getElem? (i := 67) rfl))) (hw _ (List.mem_of_getElem? (i := 1) rfl)) (ty := .int) (by decide) rfl rfl (g := (mkF m 7 #[rv a] [(.int (mz + (1 : Int32))), (.ref a)])) rfl rfl (hb hby d22_7)
  have fw2 : Fld Z h2 a "com/example/treepass/treepass/FrameState" "measured" "I" (.int (mz + (1 : Int32))) := p_0.same W2
  have f2_1 := p_1.other W2 (Or.inr (slot_ne (Or.inl (hw _ (List.mem_of_getElem? (i := 60) rfl))) (Or.inl (hw _ (List.mem_of_getElem? (i := 67) rfl))) (by decide) (t := .int) (t' := .int) (by decide) (by decide)))
  have f2_2 := p_2.other W2 (Or.inr (slot_ne (Or.inl (hw _ (List.mem_of_getElem? (i := 69) rfl))) (Or.inl (hw _ (List.mem_of_getElem? (i := 67) rfl))) (by decide) (t := .int) (t' := .int) (by decide) (by decide)))
  have f2_3 := p_3.other W2 (Or.inr (slot_ne (Or.inl (hw _ (List.mem_of_getElem? (i := 53) rfl))) (Or.inl (hw _ (List.mem_of_getElem? (i := 67) rfl))) (by decide) (t := (.object "com/example/treepass/treepass/Rect")) (t' := .int) (by decide) (by decide)))
  have f2_4 := p_4.wr W2
  have Zs2 : n0 ≤ h2.size := Nat.le_trans Z0 (Nat.le_of_eq W2.size.symm)
  have K2 := (Keep.refl h0 [a]).wr W2 (Or.inl (List.mem_of_getElem? (i := 0) rfl))
  have N2 := Fr.snoc X2 N0 p_5
  refine own_st st2 ?_
  show own_Goes p e below s (Q22 Z a mz l9 d r h0 n0) rRrm22.cells rRrm22.slots T2 (mkF m 10 #[rv a] [])
  refine own_ret0 X2 hx hlk Bd.returns (hb hby d22_10) (by decide) (by decide) ?_
  show Q22 Z a mz l9 d r h0 n0 none T2.heap _
  rw [e2]
  exact ⟨rfl, N2, K2, fw2, f2_1, f2_2, f2_3⟩
abbrev rRrm7 : Room := { frames := 0, cells := 0, slots := 0, locals := 0 }
theorem d7_0 : decode prog_21_method_7_code 0 = .ok (.aload_n 0, 1) := by decide +kernel
theorem d7_1 : decode prog_21_method_7_code 1 = .ok (.dup, 1) := by decide +kernel
theorem d7_2 : decode prog_21_method_7_code 2 = .ok (.getfield 52, 3) := by decide +kernel
theorem d7_5 : decode prog_21_method_7_code 5 = .ok (.iconst 1, 1) := by decide +kernel
theorem d7_6 : decode prog_21_method_7_code 6 = .ok (.iadd, 1) := by decide +kernel
theorem d7_7 : decode prog_21_method_7_code 7 = .ok (.putfield 52, 3) := by decide +kernel
theorem d7_10 : decode prog_21_method_7_code 10 = .ok (.return_, 1) := by decide +kernel
theorem pn_rm7 : plainFor (⟨"com/example/treepass/treepass/FrameState", "viewLaidOut", "()V"⟩ : MethodName) = true := by first | exact plainFor_of_name (by first | (simp [plainName, overriddenIn]; done) | decide +kernel) | decide +kernel
theorem ef_rm7 (m : MethodId) (a : Addr) : entryFrame m #[(.ref a)] 1 = (mkF m 0 #[rv a] []) := by first | (simp [entryFrame, mkF, argsToLocals, Value.category]; done) | rfl
def Q7 (Z : State) (a : Addr) (mz : Int32) (l9 : Int32) (d : Int32) (r : Addr) (h0 : Heap) (n0 : Nat) (v_ : Option Value) (h_ : Heap) (L_ : List Loc) : Prop := (v_ = none) ∧ (Fr n0 L_) ∧ (Keep h0 h_ [a]) ∧ (Fld Z h_ a "com/example/treepass/treepass/FrameState" "measured" "I" (.int mz)) ∧ (Fld Z h_ a "com/example/treepass/treepass/FrameState" "laidOut" "I" (.int (l9 + (1 : Int32)))) ∧ (Fld Z h_ a "com/example/treepass/treepass/FrameState" "drawn" "I" (.int d)) ∧ (Fld Z h_ a "com/example/treepass/treepass/FrameState" "dirty" "Lcom/example/treepass/treepass/Rect;" (.ref r))
set_option maxRecDepth 65536 in
set_option maxHeartbeats 40000000 in
theorem rm7 (l : Launch) (Z : State) (a0 : Array Value) (hw : ∀ d ∈ tables_1, d.before a0 Z = true) (ws : List Jvm.Cond) (a : Addr) (mz : Int32) (l9 : Int32) (d : Int32) (r : Addr) (h0 : Heap) (n0 : Nat) (Z0 : n0 ≤ h0.size) (p_0 : Fld Z h0 a "com/example/treepass/treepass/FrameState" "measured" "I" (.int mz)) (p_1 : Fld Z h0 a "com/example/treepass/treepass/FrameState" "laidOut" "I" (.int l9)) (p_2 : Fld Z h0 a "com/example/treepass/treepass/FrameState" "drawn" "I" (.int d)) (p_3 : Fld Z h0 a "com/example/treepass/treepass/FrameState" "dirty" "Lcom/example/treepass/treepass/Rect;" (.ref r)) (p_4 : Exa Z h0 a "com/example/treepass/treepass/FrameState") (p_5 : n0 ≤ a) :
    MetFree l (⟨"com/example/treepass/treepass/FrameState", "viewLaidOut", "()V"⟩ : MethodName) (head1 (Jvm.Cond.code (⟨"com/example/treepass/treepass/FrameState", "viewLaidOut", "()V"⟩ : MethodName) prog_21_method_7_code 1 none :: ws) rRrm7) (fun a_ U_ => a_ = #[(.ref a)] ∧ Z.Warmed39 U_.vm ∧ U_.heap = h0) (fun _ _ _ _ _ => True) (fun _ U_ o_ U1_ => ∃ v_ L_, o_ = .returned v_ ∧ Q7 Z a mz l9 d r h0 n0 v_ U1_.heap L_ ∧ FrameEnd U_ o_ U1_ L_ rRrm7.cells rRrm7.slots) := by
  refine MetFree.of_bodySF pn_rm7 hisR ?_
  intro p e s m args below meth c s₁ Bd hml0 hP hK
  obtain ⟨rfl, hZ, hh⟩ := hP
  have hx := Bd.exec
  have hby := Bd.bytes
  have hlk : meth.locks = false := Bd.notSynchronized
  have hml : c.maxLocals = 1 := hml0
  have hown : s.vm.findClass "com/example/treepass/treepass/FrameState" = some m.cls := findClass_of_methodNamed Bd.named
  have hnm := (name_of_methodNamed Bd.named Bd.method).1
  have X0 : Stand p l e rRrm7 s m #[(.ref a)] below meth c s₁ [] 0 0 := Stand.of_body Bd
  have e0 : s₁.heap = h0 := by rw [← hh, Bd.state]; rfl
  have N0 := Fr.nil n0
  show own_Goes p e below s (Q7 Z a mz l9 d r h0 n0) rRrm7.cells rRrm7.slots s₁ (entryFrame m #[(.ref a)] 1)
  rw [ef_rm7 m a]
  show own_Goes p e below s (Q7 Z a mz l9 d r h0 n0) rRrm7.cells rRrm7.slots s₁ (mkF m 0 #[rv a] [])
  refine own_st (fun _ kk_ => XS.aloadN X0.here hx rfl (hb hby d7_0) rfl rfl (XS.dup X0.here hx rfl (hb hby d7_1) rfl rfl kk_)) ?_
  show own_Goes p e below s (Q7 Z a mz l9 d r h0 n0) rRrm7.cells rRrm7.slots s₁ (mkF m 2 #[rv a] [(.ref a), (.ref a)])
  obtain ⟨T1, X1, e1, st1⟩ := getF X0 hx hZ hown (host := "") (Or.inl (hw _ (List.mem_of_getElem? (i := 59) rfl))) Via.refl e0 p_1 (g := (mkF m 2 #[rv a] [(.ref a), (.ref a)])) rfl rfl (hb hby d7_2)
  refine own_st st1 ?_
  show own_Goes p e below s (Q7 Z a mz l9 d r h0 n0) rRrm7.cells rRrm7.slots T1 (mkF m 5 #[rv a] [(.int l9), (.ref a)])
  refine own_st (fun _ kk_ => XS.iconst X1.here hx rfl (hb hby d7_5) (XS.iadd X1.here hx rfl (hb hby d7_6) rfl kk_)) ?_
  show own_Goes p e below s (Q7 Z a mz l9 d r h0 n0) rRrm7.cells rRrm7.slots T1 (mkF m 7 #[rv a] [(.int (l9 + (1 : Int32))), (.ref a)])
  obtain ⟨T2, h2, X2, e2, W2, st2⟩ := putF X1 hx hZ hown (host := "") (Or.inl (hw _ (List.mem_of_getElem? (i := 59) rfl))) Via.refl e1 p_1 p_4 (Or.inl (hw _ (List.mem_of_getElem? (i := 60) rfl))) (hw _ (List.mem_of_getElem? (i := 1) rfl)) (ty := .int) (by decide) rfl rfl (g := (mkF m 7 #[rv a] [(.int (l9 + (1 : Int32))), (.ref a)])) rfl rfl (hb hby d7_7)
  have fw2 : Fld Z h2 a "com/example/treepass/treepass/FrameState" "laidOut" "I" (.int (l9 + (1 : Int32))) := p_1.same W2
  have f2_0 := p_0.other W2 (Or.inr (slot_ne (Or.inl (hw _ (List.mem_of_getElem? (i := 67) rfl))) (Or.inl (hw _ (List.mem_of_getElem? (i := 60) rfl))) (by decide) (t := .int) (t' := .int) (by decide) (by decide)))
  have f2_2 := p_2.other W2 (Or.inr (slot_ne (Or.inl (hw _ (List.mem_of_getElem? (i := 69) rfl))) (Or.inl (hw _ (List.mem_of_getElem? (i := 60) rfl))) (by decide) (t := .int) (t' := .int) (by decide) (by decide)))
  have f2_3 := p_3.other W2 (Or.inr (slot_ne (Or.inl (hw _ (List.mem_of_getElem? (i := 53) rfl))) (Or.inl (hw _ (List.mem_of_getElem? (i := 60) rfl))) (by decide) (t := (.object "com/example/treepass/treepass/Rect")) (t' := .int) (by decide) (by decide)))
  have f2_4 := p_4.wr W2
  have Zs2 : n0 ≤ h2.size := Nat.le_trans Z0 (Nat.le_of_eq W2.size.symm)
  have K2 := (Keep.refl h0 [a]).wr W2 (Or.inl (List.mem_of_getElem? (i := 0) rfl))
  have N2 := Fr.snoc X2 N0 p_5
  refine own_st st2 ?_
  show own_Goes p e below s (Q7 Z a mz l9 d r h0 n0) rRrm7.cells rRrm7.slots T2 (mkF m 10 #[rv a] [])
  refine own_ret0 X2 hx hlk Bd.returns (hb hby d7_10) (by decide) (by decide) ?_
  show Q7 Z a mz l9 d r h0 n0 none T2.heap _
  rw [e2]
  exact ⟨rfl, N2, K2, f2_0, fw2, f2_2, f2_3⟩
abbrev rRrm21 : Room := { frames := 0, cells := 0, slots := 0, locals := 0 }
theorem d21_0 : decode prog_21_method_8_code 0 = .ok (.aload_n 0, 1) := by decide +kernel
theorem d21_1 : decode prog_21_method_8_code 1 = .ok (.dup, 1) := by decide +kernel
theorem d21_2 : decode prog_21_method_8_code 2 = .ok (.getfield 55, 3) := by decide +kernel
theorem d21_5 : decode prog_21_method_8_code 5 = .ok (.iconst 1, 1) := by decide +kernel
theorem d21_6 : decode prog_21_method_8_code 6 = .ok (.iadd, 1) := by decide +kernel
theorem d21_7 : decode prog_21_method_8_code 7 = .ok (.putfield 55, 3) := by decide +kernel
theorem d21_10 : decode prog_21_method_8_code 10 = .ok (.return_, 1) := by decide +kernel
theorem pn_rm21 : plainFor (⟨"com/example/treepass/treepass/FrameState", "viewDrawn", "()V"⟩ : MethodName) = true := by first | exact plainFor_of_name (by first | (simp [plainName, overriddenIn]; done) | decide +kernel) | decide +kernel
theorem ef_rm21 (m : MethodId) (a : Addr) : entryFrame m #[(.ref a)] 1 = (mkF m 0 #[rv a] []) := by first | (simp [entryFrame, mkF, argsToLocals, Value.category]; done) | rfl
def Q21 (Z : State) (a : Addr) (mz : Int32) (l9 : Int32) (d : Int32) (r : Addr) (h0 : Heap) (n0 : Nat) (v_ : Option Value) (h_ : Heap) (L_ : List Loc) : Prop := (v_ = none) ∧ (Fr n0 L_) ∧ (Keep h0 h_ [a]) ∧ (Fld Z h_ a "com/example/treepass/treepass/FrameState" "measured" "I" (.int mz)) ∧ (Fld Z h_ a "com/example/treepass/treepass/FrameState" "laidOut" "I" (.int l9)) ∧ (Fld Z h_ a "com/example/treepass/treepass/FrameState" "drawn" "I" (.int (d + (1 : Int32)))) ∧ (Fld Z h_ a "com/example/treepass/treepass/FrameState" "dirty" "Lcom/example/treepass/treepass/Rect;" (.ref r))
set_option maxRecDepth 65536 in
set_option maxHeartbeats 40000000 in
theorem rm21 (l : Launch) (Z : State) (a0 : Array Value) (hw : ∀ d ∈ tables_1, d.before a0 Z = true) (ws : List Jvm.Cond) (a : Addr) (mz : Int32) (l9 : Int32) (d : Int32) (r : Addr) (h0 : Heap) (n0 : Nat) (Z0 : n0 ≤ h0.size) (p_0 : Fld Z h0 a "com/example/treepass/treepass/FrameState" "measured" "I" (.int mz)) (p_1 : Fld Z h0 a "com/example/treepass/treepass/FrameState" "laidOut" "I" (.int l9)) (p_2 : Fld Z h0 a "com/example/treepass/treepass/FrameState" "drawn" "I" (.int d)) (p_3 : Fld Z h0 a "com/example/treepass/treepass/FrameState" "dirty" "Lcom/example/treepass/treepass/Rect;" (.ref r)) (p_4 : Exa Z h0 a "com/example/treepass/treepass/FrameState") (p_5 : n0 ≤ a) :
    MetFree l (⟨"com/example/treepass/treepass/FrameState", "viewDrawn", "()V"⟩ : MethodName) (head1 (Jvm.Cond.code (⟨"com/example/treepass/treepass/FrameState", "viewDrawn", "()V"⟩ : MethodName) prog_21_method_8_code 1 none :: ws) rRrm21) (fun a_ U_ => a_ = #[(.ref a)] ∧ Z.Warmed39 U_.vm ∧ U_.heap = h0) (fun _ _ _ _ _ => True) (fun _ U_ o_ U1_ => ∃ v_ L_, o_ = .returned v_ ∧ Q21 Z a mz l9 d r h0 n0 v_ U1_.heap L_ ∧ FrameEnd U_ o_ U1_ L_ rRrm21.cells rRrm21.slots) := by
  refine MetFree.of_bodySF pn_rm21 hisR ?_
  intro p e s m args below meth c s₁ Bd hml0 hP hK
  obtain ⟨rfl, hZ, hh⟩ := hP
  have hx := Bd.exec
  have hby := Bd.bytes
  have hlk : meth.locks = false := Bd.notSynchronized
  have hml : c.maxLocals = 1 := hml0
  have hown : s.vm.findClass "com/example/treepass/treepass/FrameState" = some m.cls := findClass_of_methodNamed Bd.named
  have hnm := (name_of_methodNamed Bd.named Bd.method).1
  have X0 : Stand p l e rRrm21 s m #[(.ref a)] below meth c s₁ [] 0 0 := Stand.of_body Bd
  have e0 : s₁.heap = h0 := by rw [← hh, Bd.state]; rfl
  have N0 := Fr.nil n0
  show own_Goes p e below s (Q21 Z a mz l9 d r h0 n0) rRrm21.cells rRrm21.slots s₁ (entryFrame m #[(.ref a)] 1)
  rw [ef_rm21 m a]
  show own_Goes p e below s (Q21 Z a mz l9 d r h0 n0) rRrm21.cells rRrm21.slots s₁ (mkF m 0 #[rv a] [])
  refine own_st (fun _ kk_ => XS.aloadN X0.here hx rfl (hb hby d21_0) rfl rfl (XS.dup X0.here hx rfl (hb hby d21_1) rfl rfl kk_)) ?_
  show own_Goes p e below s (Q21 Z a mz l9 d r h0 n0) rRrm21.cells rRrm21.slots s₁ (mkF m 2 #[rv a] [(.ref a), (.ref a)])
  obtain ⟨T1, X1, e1, st1⟩ := getF X0 hx hZ hown (host := "") (Or.inl (hw _ (List.mem_of_getElem? (i := 68) rfl))) Via.refl e0 p_2 (g := (mkF m 2 #[rv a] [(.ref a), (.ref a)])) rfl rfl (hb hby d21_2)
  refine own_st st1 ?_
  show own_Goes p e below s (Q21 Z a mz l9 d r h0 n0) rRrm21.cells rRrm21.slots T1 (mkF m 5 #[rv a] [(.int d), (.ref a)])
  refine own_st (fun _ kk_ => XS.iconst X1.here hx rfl (hb hby d21_5) (XS.iadd X1.here hx rfl (hb hby d21_6) rfl kk_)) ?_
  show own_Goes p e below s (Q21 Z a mz l9 d r h0 n0) rRrm21.cells rRrm21.slots T1 (mkF m 7 #[rv a] [(.int (d + (1 : Int32))), (.ref a)])
  obtain ⟨T2, h2, X2, e2, W2, st2⟩ := putF X1 hx hZ hown (host := "") (Or.inl (hw _ (List.mem_of_getElem? (i := 68) rfl))) Via.refl e1 p_2 p_4 (Or.inl (hw _ (List.mem_of_getElem? (i := 69) rfl))) (hw _ (List.mem_of_getElem? (i := 1) rfl)) (ty := .int) (by decide) rfl rfl (g := (mkF m 7 #[rv a] [(.int (d + (1 : Int32))), (.ref a)])) rfl rfl (hb hby d21_7)
  have fw2 : Fld Z h2 a "com/example/treepass/treepass/FrameState" "drawn" "I" (.int (d + (1 : Int32))) := p_2.same W2
  have f2_0 := p_0.other W2 (Or.inr (slot_ne (Or.inl (hw _ (List.mem_of_getElem? (i := 67) rfl))) (Or.inl (hw _ (List.mem_of_getElem? (i := 69) rfl))) (by decide) (t := .int) (t' := .int) (by decide) (by decide)))
  have f2_1 := p_1.other W2 (Or.inr (slot_ne (Or.inl (hw _ (List.mem_of_getElem? (i := 60) rfl))) (Or.inl (hw _ (List.mem_of_getElem? (i := 69) rfl))) (by decide) (t := .int) (t' := .int) (by decide) (by decide)))
  have f2_3 := p_3.other W2 (Or.inr (slot_ne (Or.inl (hw _ (List.mem_of_getElem? (i := 53) rfl))) (Or.inl (hw _ (List.mem_of_getElem? (i := 69) rfl))) (by decide) (t := (.object "com/example/treepass/treepass/Rect")) (t' := .int) (by decide) (by decide)))
  have f2_4 := p_4.wr W2
  have Zs2 : n0 ≤ h2.size := Nat.le_trans Z0 (Nat.le_of_eq W2.size.symm)
  have K2 := (Keep.refl h0 [a]).wr W2 (Or.inl (List.mem_of_getElem? (i := 0) rfl))
  have N2 := Fr.snoc X2 N0 p_5
  refine own_st st2 ?_
  show own_Goes p e below s (Q21 Z a mz l9 d r h0 n0) rRrm21.cells rRrm21.slots T2 (mkF m 10 #[rv a] [])
  refine own_ret0 X2 hx hlk Bd.returns (hb hby d21_10) (by decide) (by decide) ?_
  show Q21 Z a mz l9 d r h0 n0 none T2.heap _
  rw [e2]
  exact ⟨rfl, N2, K2, f2_0, f2_1, fw2, f2_3⟩
abbrev rRrm8 : Room := { frames := 0, cells := 0, slots := 0, locals := 0 }
theorem d8_0 : decode prog_21_method_4_code 0 = .ok (.aload_n 0, 1) := by decide +kernel
theorem d8_1 : decode prog_21_method_4_code 1 = .ok (.iconst 0, 1) := by decide +kernel
theorem d8_2 : decode prog_21_method_4_code 2 = .ok (.putfield 49, 3) := by decide +kernel
theorem d8_5 : decode prog_21_method_4_code 5 = .ok (.aload_n 0, 1) := by decide +kernel
theorem d8_6 : decode prog_21_method_4_code 6 = .ok (.iconst 0, 1) := by decide +kernel
theorem d8_7 : decode prog_21_method_4_code 7 = .ok (.putfield 52, 3) := by decide +kernel
theorem d8_10 : decode prog_21_method_4_code 10 = .ok (.aload_n 0, 1) := by decide +kernel
theorem d8_11 : decode prog_21_method_4_code 11 = .ok (.iconst 0, 1) := by decide +kernel
theorem d8_12 : decode prog_21_method_4_code 12 = .ok (.putfield 55, 3) := by decide +kernel
theorem d8_15 : decode prog_21_method_4_code 15 = .ok (.return_, 1) := by decide +kernel
theorem pn_rm8 : plainFor (⟨"com/example/treepass/treepass/FrameState", "beginFrame", "()V"⟩ : MethodName) = true := by first | exact plainFor_of_name (by first | (simp [plainName, overriddenIn]; done) | decide +kernel) | decide +kernel
theorem ef_rm8 (m : MethodId) (a : Addr) : entryFrame m #[(.ref a)] 1 = (mkF m 0 #[rv a] []) := by first | (simp [entryFrame, mkF, argsToLocals, Value.category]; done) | rfl
def Q8 (Z : State) (a : Addr) (mz : Int32) (l9 : Int32) (d : Int32) (r : Addr) (h0 : Heap) (n0 : Nat) (v_ : Option Value) (h_ : Heap) (L_ : List Loc) : Prop := (v_ = none) ∧ (Fr n0 L_) ∧ (Keep h0 h_ [a]) ∧ (Fld Z h_ a "com/example/treepass/treepass/FrameState" "measured" "I" (.int (0 : Int32))) ∧ (Fld Z h_ a "com/example/treepass/treepass/FrameState" "laidOut" "I" (.int (0 : Int32))) ∧ (Fld Z h_ a "com/example/treepass/treepass/FrameState" "drawn" "I" (.int (0 : Int32))) ∧ (Fld Z h_ a "com/example/treepass/treepass/FrameState" "dirty" "Lcom/example/treepass/treepass/Rect;" (.ref r))
set_option maxRecDepth 65536 in
set_option maxHeartbeats 40000000 in
theorem rm8 (l : Launch) (Z : State) (a0 : Array Value) (hw : ∀ d ∈ tables_1, d.before a0 Z = true) (ws : List Jvm.Cond) (a : Addr) (mz : Int32) (l9 : Int32) (d : Int32) (r : Addr) (h0 : Heap) (n0 : Nat) (Z0 : n0 ≤ h0.size) (p_0 : Fld Z h0 a "com/example/treepass/treepass/FrameState" "measured" "I" (.int mz)) (p_1 : Fld Z h0 a "com/example/treepass/treepass/FrameState" "laidOut" "I" (.int l9)) (p_2 : Fld Z h0 a "com/example/treepass/treepass/FrameState" "drawn" "I" (.int d)) (p_3 : Fld Z h0 a "com/example/treepass/treepass/FrameState" "dirty" "Lcom/example/treepass/treepass/Rect;" (.ref r)) (p_4 : Exa Z h0 a "com/example/treepass/treepass/FrameState") (p_5 : n0 ≤ a) :
    MetFree l (⟨"com/example/treepass/treepass/FrameState", "beginFrame", "()V"⟩ : MethodName) (head1 (Jvm.Cond.code (⟨"com/example/treepass/treepass/FrameState", "beginFrame", "()V"⟩ : MethodName) prog_21_method_4_code 1 none :: ws) rRrm8) (fun a_ U_ => a_ = #[(.ref a)] ∧ Z.Warmed39 U_.vm ∧ U_.heap = h0) (fun _ _ _ _ _ => True) (fun _ U_ o_ U1_ => ∃ v_ L_, o_ = .returned v_ ∧ Q8 Z a mz l9 d r h0 n0 v_ U1_.heap L_ ∧ FrameEnd U_ o_ U1_ L_ rRrm8.cells rRrm8.slots) := by
  refine MetFree.of_bodySF pn_rm8 hisR ?_
  intro p e s m args below meth c s₁ Bd hml0 hP hK
  obtain ⟨rfl, hZ, hh⟩ := hP
  have hx := Bd.exec
  have hby := Bd.bytes
  have hlk : meth.locks = false := Bd.notSynchronized
  have hml : c.maxLocals = 1 := hml0
  have hown : s.vm.findClass "com/example/treepass/treepass/FrameState" = some m.cls := findClass_of_methodNamed Bd.named
  have hnm := (name_of_methodNamed Bd.named Bd.method).1
  have X0 : Stand p l e rRrm8 s m #[(.ref a)] below meth c s₁ [] 0 0 := Stand.of_body Bd
  have e0 : s₁.heap = h0 := by rw [← hh, Bd.state]; rfl
  have N0 := Fr.nil n0
  show own_Goes p e below s (Q8 Z a mz l9 d r h0 n0) rRrm8.cells rRrm8.slots s₁ (entryFrame m #[(.ref a)] 1)
  rw [ef_rm8 m a]
  show own_Goes p e below s (Q8 Z a mz l9 d r h0 n0) rRrm8.cells rRrm8.slots s₁ (mkF m 0 #[rv a] [])
  refine own_st (fun _ kk_ => XS.aloadN X0.here hx rfl (hb hby d8_0) rfl rfl (XS.iconst X0.here hx rfl (hb hby d8_1) kk_)) ?_
  show own_Goes p e below s (Q8 Z a mz l9 d r h0 n0) rRrm8.cells rRrm8.slots s₁ (mkF m 2 #[rv a] [(.int (0 : Int32)), (.ref a)])
  obtain ⟨T1, h1, X1, e1, W1, st1⟩ := putF X0 hx hZ hown (host := "") (Or.inl (hw _ (List.mem_of_getElem? (i := 66) rfl))) Via.refl e0 p_0 p_4 (Or.inl (hw _ (List.mem_of_getElem? (i := 67) rfl))) (hw _ (List.mem_of_getElem? (i := 1) rfl)) (ty := .int) (by decide) rfl rfl (g := (mkF m 2 #[rv a] [(.int (0 : Int32)), (.ref a)])) rfl rfl (hb hby d8_2)
  have fw1 : Fld Z h1 a "com/example/treepass/treepass/FrameState" "measured" "I" (.int (0 : Int32)) := p_0.same W1
  have f1_1 := p_1.other W1 (Or.inr (slot_ne (Or.inl (hw _ (List.mem_of_getElem? (i := 60) rfl))) (Or.inl (hw _ (List.mem_of_getElem? (i := 67) rfl))) (by decide) (t := .int) (t' := .int) (by decide) (by decide)))
  have f1_2 := p_2.other W1 (Or.inr (slot_ne (Or.inl (hw _ (List.mem_of_getElem? (i := 69) rfl))) (Or.inl (hw _ (List.mem_of_getElem? (i := 67) rfl))) (by decide) (t := .int) (t' := .int) (by decide) (by decide)))
  have f1_3 := p_3.other W1 (Or.inr (slot_ne (Or.inl (hw _ (List.mem_of_getElem? (i := 53) rfl))) (Or.inl (hw _ (List.mem_of_getElem? (i := 67) rfl))) (by decide) (t := (.object "com/example/treepass/treepass/Rect")) (t' := .int) (by decide) (by decide)))
  have f1_4 := p_4.wr W1
  have Zs1 : n0 ≤ h1.size := Nat.le_trans Z0 (Nat.le_of_eq W1.size.symm)
  have K1 := (Keep.refl h0 [a]).wr W1 (Or.inl (List.mem_of_getElem? (i := 0) rfl))
  have N1 := Fr.snoc X1 N0 p_5
  refine own_st st1 ?_
  show own_Goes p e below s (Q8 Z a mz l9 d r h0 n0) rRrm8.cells rRrm8.slots T1 (mkF m 5 #[rv a] [])
  refine own_st (fun _ kk_ => XS.aloadN X1.here hx rfl (hb hby d8_5) rfl rfl (XS.iconst X1.here hx rfl (hb hby d8_6) kk_)) ?_
  show own_Goes p e below s (Q8 Z a mz l9 d r h0 n0) rRrm8.cells rRrm8.slots T1 (mkF m 7 #[rv a] [(.int (0 : Int32)), (.ref a)])
  obtain ⟨T2, h2, X2, e2, W2, st2⟩ := putF X1 hx hZ hown (host := "") (Or.inl (hw _ (List.mem_of_getElem? (i := 59) rfl))) Via.refl e1 f1_1 f1_4 (Or.inl (hw _ (List.mem_of_getElem? (i := 60) rfl))) (hw _ (List.mem_of_getElem? (i := 1) rfl)) (ty := .int) (by decide) rfl rfl (g := (mkF m 7 #[rv a] [(.int (0 : Int32)), (.ref a)])) rfl rfl (hb hby d8_7)
  have fw2 : Fld Z h2 a "com/example/treepass/treepass/FrameState" "laidOut" "I" (.int (0 : Int32)) := f1_1.same W2
  have f2_1 := f1_2.other W2 (Or.inr (slot_ne (Or.inl (hw _ (List.mem_of_getElem? (i := 69) rfl))) (Or.inl (hw _ (List.mem_of_getElem? (i := 60) rfl))) (by decide) (t := .int) (t' := .int) (by decide) (by decide)))
  have f2_2 := f1_3.other W2 (Or.inr (slot_ne (Or.inl (hw _ (List.mem_of_getElem? (i := 53) rfl))) (Or.inl (hw _ (List.mem_of_getElem? (i := 60) rfl))) (by decide) (t := (.object "com/example/treepass/treepass/Rect")) (t' := .int) (by decide) (by decide)))
  have f2_3 := f1_4.wr W2
  have f2_4 := fw1.other W2 (Or.inr (slot_ne (Or.inl (hw _ (List.mem_of_getElem? (i := 67) rfl))) (Or.inl (hw _ (List.mem_of_getElem? (i := 60) rfl))) (by decide) (t := .int) (t' := .int) (by decide) (by decide)))
  have Zs2 : n0 ≤ h2.size := Nat.le_trans Zs1 (Nat.le_of_eq W2.size.symm)
  have K2 := K1.wr W2 (Or.inl (List.mem_of_getElem? (i := 0) rfl))
  have N2 := Fr.snoc X2 N1 p_5
  refine own_st st2 ?_
  show own_Goes p e below s (Q8 Z a mz l9 d r h0 n0) rRrm8.cells rRrm8.slots T2 (mkF m 10 #[rv a] [])
  refine own_st (fun _ kk_ => XS.aloadN X2.here hx rfl (hb hby d8_10) rfl rfl (XS.iconst X2.here hx rfl (hb hby d8_11) kk_)) ?_
  show own_Goes p e below s (Q8 Z a mz l9 d r h0 n0) rRrm8.cells rRrm8.slots T2 (mkF m 12 #[rv a] [(.int (0 : Int32)), (.ref a)])
  obtain ⟨T3, h3, X3, e3, W3, st3⟩ := putF X2 hx hZ hown (host := "") (Or.inl (hw _ (List.mem_of_getElem? (i := 68) rfl))) Via.refl e2 f2_1 f2_3 (Or.inl (hw _ (List.mem_of_getElem? (i := 69) rfl))) (hw _ (List.mem_of_getElem? (i := 1) rfl)) (ty := .int) (by decide) rfl rfl (g := (mkF m 12 #[rv a] [(.int (0 : Int32)), (.ref a)])) rfl rfl (hb hby d8_12)
  have fw3 : Fld Z h3 a "com/example/treepass/treepass/FrameState" "drawn" "I" (.int (0 : Int32)) := f2_1.same W3
  have f3_1 := f2_2.other W3 (Or.inr (slot_ne (Or.inl (hw _ (List.mem_of_getElem? (i := 53) rfl))) (Or.inl (hw _ (List.mem_of_getElem? (i := 69) rfl))) (by decide) (t := (.object "com/example/treepass/treepass/Rect")) (t' := .int) (by decide) (by decide)))
  have f3_2 := f2_3.wr W3
  have f3_3 := f2_4.other W3 (Or.inr (slot_ne (Or.inl (hw _ (List.mem_of_getElem? (i := 67) rfl))) (Or.inl (hw _ (List.mem_of_getElem? (i := 69) rfl))) (by decide) (t := .int) (t' := .int) (by decide) (by decide)))
  have f3_4 := fw2.other W3 (Or.inr (slot_ne (Or.inl (hw _ (List.mem_of_getElem? (i := 60) rfl))) (Or.inl (hw _ (List.mem_of_getElem? (i := 69) rfl))) (by decide) (t := .int) (t' := .int) (by decide) (by decide)))
  have Zs3 : n0 ≤ h3.size := Nat.le_trans Zs2 (Nat.le_of_eq W3.size.symm)
  have K3 := K2.wr W3 (Or.inl (List.mem_of_getElem? (i := 0) rfl))
  have N3 := Fr.snoc X3 N2 p_5
  refine own_st st3 ?_
  show own_Goes p e below s (Q8 Z a mz l9 d r h0 n0) rRrm8.cells rRrm8.slots T3 (mkF m 15 #[rv a] [])
  refine own_ret0 X3 hx hlk Bd.returns (hb hby d8_15) (by decide) (by decide) ?_
  show Q8 Z a mz l9 d r h0 n0 none T3.heap _
  rw [e3]
  exact ⟨rfl, N3, K3, f3_3, f3_4, fw3, f3_1⟩
abbrev rRrm10 : Room := { frames := 2, cells := 0, slots := 0, locals := 24 }
theorem d10_0 : decode prog_20_method_1_code 0 = .ok (.aload_n 0, 1) := by decide +kernel
theorem d10_1 : decode prog_20_method_1_code 1 = .ok (.invokespecial 1, 3) := by decide +kernel
theorem d10_4 : decode prog_20_method_1_code 4 = .ok (.aload_n 0, 1) := by decide +kernel
theorem d10_5 : decode prog_20_method_1_code 5 = .ok (.iload_n 1, 1) := by decide +kernel
theorem d10_6 : decode prog_20_method_1_code 6 = .ok (.putfield 7, 3) := by decide +kernel
theorem d10_9 : decode prog_20_method_1_code 9 = .ok (.aload_n 0, 1) := by decide +kernel
theorem d10_10 : decode prog_20_method_1_code 10 = .ok (.iload_n 2, 1) := by decide +kernel
theorem d10_11 : decode prog_20_method_1_code 11 = .ok (.putfield 13, 3) := by decide +kernel
theorem d10_14 : decode prog_20_method_1_code 14 = .ok (.aload_n 0, 1) := by decide +kernel
theorem d10_15 : decode prog_20_method_1_code 15 = .ok (.iload_n 3, 1) := by decide +kernel
theorem d10_16 : decode prog_20_method_1_code 16 = .ok (.putfield 16, 3) := by decide +kernel
theorem d10_19 : decode prog_20_method_1_code 19 = .ok (.aload_n 0, 1) := by decide +kernel
theorem d10_20 : decode prog_20_method_1_code 20 = .ok (.iload 4, 2) := by decide +kernel
theorem d10_22 : decode prog_20_method_1_code 22 = .ok (.putfield 19, 3) := by decide +kernel
theorem d10_25 : decode prog_20_method_1_code 25 = .ok (.aload_n 0, 1) := by decide +kernel
theorem d10_26 : decode prog_20_method_1_code 26 = .ok (.aload 5, 2) := by decide +kernel
theorem d10_28 : decode prog_20_method_1_code 28 = .ok (.putfield 22, 3) := by decide +kernel
theorem d10_31 : decode prog_20_method_1_code 31 = .ok (.return_, 1) := by decide +kernel
theorem pn_rm10 : plainFor (⟨"com/example/treepass/treepass/FrameReport", "<init>", "(IIIILcom/example/treepass/treepass/Rect;)V"⟩ : MethodName) = true := by first | exact plainFor_of_name (by first | (simp [plainName, overriddenIn]; done) | decide +kernel) | decide +kernel
theorem ef_rm10 (m : MethodId) (a : Addr) (q1 : Int32) (q2 : Int32) (q3 : Int32) (q4 : Int32) (e9 : Addr) : entryFrame m #[(.ref a), (.int q1), (.int q2), (.int q3), (.int q4), (.ref e9)] 6 = (mkF m 0 #[rv a, iv q1, iv q2, iv q3, iv q4, rv e9] []) := by first | (simp [entryFrame, mkF, argsToLocals, Value.category]; done) | rfl
def Q10 (Z : State) (a : Addr) (q1 : Int32) (q2 : Int32) (q3 : Int32) (q4 : Int32) (e9 : Addr) (h0 : Heap) (n0 : Nat) (v_ : Option Value) (h_ : Heap) (L_ : List Loc) : Prop := (v_ = none) ∧ (Fr n0 L_) ∧ (Keep h0 h_ [a]) ∧ (Fld Z h_ a "com/example/treepass/treepass/FrameReport" "layoutPasses" "I" (.int q1)) ∧ (Fld Z h_ a "com/example/treepass/treepass/FrameReport" "measured" "I" (.int q2)) ∧ (Fld Z h_ a "com/example/treepass/treepass/FrameReport" "laidOut" "I" (.int q3)) ∧ (Fld Z h_ a "com/example/treepass/treepass/FrameReport" "drawn" "I" (.int q4)) ∧ (Fld Z h_ a "com/example/treepass/treepass/FrameReport" "dirty" "Lcom/example/treepass/treepass/Rect;" (.ref e9))
set_option maxRecDepth 65536 in
set_option maxHeartbeats 40000000 in
theorem rm10 (l : Launch) (Z : State) (a0 : Array Value) (hw : ∀ d ∈ tables_1, d.before a0 Z = true) (ws : List Jvm.Cond) (a : Addr) (q1 : Int32) (q2 : Int32) (q3 : Int32) (q4 : Int32) (e9 : Addr) (h0 : Heap) (n0 : Nat) (Z0 : n0 ≤ h0.size) (p_0 : Exa Z h0 a "com/example/treepass/treepass/FrameReport") (p_1 : Fld Z h0 a "com/example/treepass/treepass/FrameReport" "layoutPasses" "I" (.int (0 : Int32))) (p_2 : Fld Z h0 a "com/example/treepass/treepass/FrameReport" "measured" "I" (.int (0 : Int32))) (p_3 : Fld Z h0 a "com/example/treepass/treepass/FrameReport" "laidOut" "I" (.int (0 : Int32))) (p_4 : Fld Z h0 a "com/example/treepass/treepass/FrameReport" "drawn" "I" (.int (0 : Int32))) (p_5 : Fld Z h0 a "com/example/treepass/treepass/FrameReport" "dirty" "Lcom/example/treepass/treepass/Rect;" .null) (p_6 : n0 ≤ a) :
    MetFree l (⟨"com/example/treepass/treepass/FrameReport", "<init>", "(IIIILcom/example/treepass/treepass/Rect;)V"⟩ : MethodName) (head1 (Jvm.Cond.code (⟨"com/example/treepass/treepass/FrameReport", "<init>", "(IIIILcom/example/treepass/treepass/Rect;)V"⟩ : MethodName) prog_20_method_1_code 6 none :: ws) rRrm10) (fun a_ U_ => a_ = #[(.ref a), (.int q1), (.int q2), (.int q3), (.int q4), (.ref e9)] ∧ Z.Warmed39 U_.vm ∧ U_.heap = h0) (fun _ _ _ _ _ => True) (fun _ U_ o_ U1_ => ∃ v_ L_, o_ = .returned v_ ∧ Q10 Z a q1 q2 q3 q4 e9 h0 n0 v_ U1_.heap L_ ∧ FrameEnd U_ o_ U1_ L_ rRrm10.cells rRrm10.slots) := by
  refine MetFree.of_bodySF pn_rm10 hisR ?_
  intro p e s m args below meth c s₁ Bd hml0 hP hK
  obtain ⟨rfl, hZ, hh⟩ := hP
  have hx := Bd.exec
  have hby := Bd.bytes
  have hlk : meth.locks = false := Bd.notSynchronized
  have hml : c.maxLocals = 6 := hml0
  have hown : s.vm.findClass "com/example/treepass/treepass/FrameReport" = some m.cls := findClass_of_methodNamed Bd.named
  have hnm := (name_of_methodNamed Bd.named Bd.method).1
  have X0 : Stand p l e rRrm10 s m #[(.ref a), (.int q1), (.int q2), (.int q3), (.int q4), (.ref e9)] below meth c s₁ [] 0 0 := Stand.of_body Bd
  have e0 : s₁.heap = h0 := by rw [← hh, Bd.state]; rfl
  have N0 := Fr.nil n0
  show own_Goes p e below s (Q10 Z a q1 q2 q3 q4 e9 h0 n0) rRrm10.cells rRrm10.slots s₁ (entryFrame m #[(.ref a), (.int q1), (.int q2), (.int q3), (.int q4), (.ref e9)] 6)
  rw [ef_rm10 m a q1 q2 q3 q4 e9]
  show own_Goes p e below s (Q10 Z a q1 q2 q3 q4 e9 h0 n0) rRrm10.cells rRrm10.slots s₁ (mkF m 0 #[rv a, iv q1, iv q2, iv q3, iv q4, rv e9] [])
  refine own_st (fun _ kk_ => XS.aloadN X0.here hx rfl (hb hby d10_0) rfl rfl kk_) ?_
  show own_Goes p e below s (Q10 Z a q1 q2 q3 q4 e9 h0 n0) rRrm10.cells rRrm10.slots s₁ (mkF m 1 #[rv a, iv q1, iv q2, iv q3, iv q4, rv e9] [(.ref a)])
  obtain ⟨_, _, ⟨T1, L1, k1, n1⟩, -, X1, ⟨Lc1, hQ1, l1, y1, z1⟩, st1⟩ := X0.specialBack hx (y := (⟨"java/lang/Record", "<init>", "()V"⟩ : MethodName)) rfl hown (mvT hZ (hw _ (List.mem_of_getElem? (i := 83) rfl))) (mvT hZ (hw _ (List.mem_of_getElem? (i := 39) rfl))) (mvT hZ (hw _ (List.mem_of_getElem? (i := 42) rfl))) (by decide) (backOf (W := 0) (rm6 l Z a0 hw [] (a) h0 n0 Z0) hZ (hw _ (List.mem_of_getElem? (i := 42) rfl)) (hw _ (List.mem_of_getElem? (i := 41) rfl)) (by decide) (by decide)) (g := (mkF m 1 #[rv a, iv q1, iv q2, iv q3, iv q4, rv e9] [(.ref a)])) rfl (by rw [hml]; rfl) (Steps.refl _) (a := a) (argsL := []) (rest := []) (lenOf pd_0 rfl) rfl (by show 2 * 0 + _ ≤ _; exact Nat.le_of_eq rfl) (hb hby d10_1) (fun _ _ => ⟨rfl, e0, (by decide : 0 + 0 ≤ _), (by decide : 0 + 0 ≤ _)⟩)
  dsimp only [Pt.U, Pt.locs, Pt.cells, Pt.slots] at X1 l1 y1 z1 st1 hQ1
  subst l1 y1 z1
  obtain ⟨rfl, Nq1, eq1⟩ := hQ1
  have N1 := Fr.app N0 Nq1
  refine own_st (fun _ kk_ => st1.trans kk_) ?_
  show own_Goes p e below s (Q10 Z a q1 q2 q3 q4 e9 h0 n0) rRrm10.cells rRrm10.slots T1 (mkF m 4 #[rv a, iv q1, iv q2, iv q3, iv q4, rv e9] [])
  refine own_st (fun _ kk_ => XS.aloadN X1.here hx rfl (hb hby d10_4) rfl rfl (XS.iloadN X1.here hx rfl (hb hby d10_5) rfl kk_)) ?_
  show own_Goes p e below s (Q10 Z a q1 q2 q3 q4 e9 h0 n0) rRrm10.cells rRrm10.slots T1 (mkF m 6 #[rv a, iv q1, iv q2, iv q3, iv q4, rv e9] [(.int q1), (.ref a)])
  obtain ⟨T2, h2, X2, e2, W2, st2⟩ := putF X1 hx hZ hown (host := "") (Or.inl (hw _ (List.mem_of_getElem? (i := 84) rfl))) Via.refl eq1 p_1 p_0 (Or.inr ⟨(hw _ (List.mem_of_getElem? (i := 85) rfl)), rfl, hnm⟩) (hw _ (List.mem_of_getElem? (i := 78) rfl)) (ty := .int) (by decide) rfl rfl (g := (mkF m 6 #[rv a, iv q1, iv q2, iv q3, iv q4, rv e9] [(.int q1), (.ref a)])) rfl rfl (hb hby d10_6)
  have fw2 : Fld Z h2 a "com/example/treepass/treepass/FrameReport" "layoutPasses" "I" (.int q1) := p_1.same W2
  have f2_0 := p_0.wr W2
  have f2_2 := p_2.other W2 (Or.inr (slot_ne (Or.inr (hw _ (List.mem_of_getElem? (i := 87) rfl))) (Or.inr (hw _ (List.mem_of_getElem? (i := 85) rfl))) (by decide) (t := .int) (t' := .int) (by decide) (by decide)))
  have f2_3 := p_3.other W2 (Or.inr (slot_ne (Or.inr (hw _ (List.mem_of_getElem? (i := 89) rfl))) (Or.inr (hw _ (List.mem_of_getElem? (i := 85) rfl))) (by decide) (t := .int) (t' := .int) (by decide) (by decide)))
  have f2_4 := p_4.other W2 (Or.inr (slot_ne (Or.inr (hw _ (List.mem_of_getElem? (i := 91) rfl))) (Or.inr (hw _ (List.mem_of_getElem? (i := 85) rfl))) (by decide) (t := .int) (t' := .int) (by decide) (by decide)))
  have f2_5 := p_5.other W2 (Or.inr (slot_ne (Or.inr (hw _ (List.mem_of_getElem? (i := 93) rfl))) (Or.inr (hw _ (List.mem_of_getElem? (i := 85) rfl))) (by decide) (t := (.object "com/example/treepass/treepass/Rect")) (t' := .int) (by decide) (by decide)))
  have Zs2 : n0 ≤ h2.size := Nat.le_trans Z0 (Nat.le_of_eq W2.size.symm)
  have K2 := (Keep.refl h0 [a]).wr W2 (Or.inl (List.mem_of_getElem? (i := 0) rfl))
  have N2 := Fr.snoc X2 N1 p_6
  refine own_st st2 ?_
  show own_Goes p e below s (Q10 Z a q1 q2 q3 q4 e9 h0 n0) rRrm10.cells rRrm10.slots T2 (mkF m 9 #[rv a, iv q1, iv q2, iv q3, iv q4, rv e9] [])
  refine own_st (fun _ kk_ => XS.aloadN X2.here hx rfl (hb hby d10_9) rfl rfl (XS.iloadN X2.here hx rfl (hb hby d10_10) rfl kk_)) ?_
  show own_Goes p e below s (Q10 Z a q1 q2 q3 q4 e9 h0 n0) rRrm10.cells rRrm10.slots T2 (mkF m 11 #[rv a, iv q1, iv q2, iv q3, iv q4, rv e9] [(.int q2), (.ref a)])
  obtain ⟨T3, h3, X3, e3, W3, st3⟩ := putF X2 hx hZ hown (host := "") (Or.inl (hw _ (List.mem_of_getElem? (i := 86) rfl))) Via.refl e2 f2_2 f2_0 (Or.inr ⟨(hw _ (List.mem_of_getElem? (i := 87) rfl)), rfl, hnm⟩) (hw _ (List.mem_of_getElem? (i := 78) rfl)) (ty := .int) (by decide) rfl rfl (g := (mkF m 11 #[rv a, iv q1, iv q2, iv q3, iv q4, rv e9] [(.int q2), (.ref a)])) rfl rfl (hb hby d10_11)
  have fw3 : Fld Z h3 a "com/example/treepass/treepass/FrameReport" "measured" "I" (.int q2) := f2_2.same W3
  have f3_0 := f2_0.wr W3
  have f3_2 := f2_3.other W3 (Or.inr (slot_ne (Or.inr (hw _ (List.mem_of_getElem? (i := 89) rfl))) (Or.inr (hw _ (List.mem_of_getElem? (i := 87) rfl))) (by decide) (t := .int) (t' := .int) (by decide) (by decide)))
  have f3_3 := f2_4.other W3 (Or.inr (slot_ne (Or.inr (hw _ (List.mem_of_getElem? (i := 91) rfl))) (Or.inr (hw _ (List.mem_of_getElem? (i := 87) rfl))) (by decide) (t := .int) (t' := .int) (by decide) (by decide)))
  have f3_4 := f2_5.other W3 (Or.inr (slot_ne (Or.inr (hw _ (List.mem_of_getElem? (i := 93) rfl))) (Or.inr (hw _ (List.mem_of_getElem? (i := 87) rfl))) (by decide) (t := (.object "com/example/treepass/treepass/Rect")) (t' := .int) (by decide) (by decide)))
  have f3_5 := fw2.other W3 (Or.inr (slot_ne (Or.inr (hw _ (List.mem_of_getElem? (i := 85) rfl))) (Or.inr (hw _ (List.mem_of_getElem? (i := 87) rfl))) (by decide) (t := .int) (t' := .int) (by decide) (by decide)))
  have Zs3 : n0 ≤ h3.size := Nat.le_trans Zs2 (Nat.le_of_eq W3.size.symm)
  have K3 := K2.wr W3 (Or.inl (List.mem_of_getElem? (i := 0) rfl))
  have N3 := Fr.snoc X3 N2 p_6
  refine own_st st3 ?_
  show own_Goes p e below s (Q10 Z a q1 q2 q3 q4 e9 h0 n0) rRrm10.cells rRrm10.slots T3 (mkF m 14 #[rv a, iv q1, iv q2, iv q3, iv q4, rv e9] [])
  refine own_st (fun _ kk_ => XS.aloadN X3.here hx rfl (hb hby d10_14) rfl rfl (XS.iloadN X3.here hx rfl (hb hby d10_15) rfl kk_)) ?_
  show own_Goes p e below s (Q10 Z a q1 q2 q3 q4 e9 h0 n0) rRrm10.cells rRrm10.slots T3 (mkF m 16 #[rv a, iv q1, iv q2, iv q3, iv q4, rv e9] [(.int q3), (.ref a)])
  obtain ⟨T4, h4, X4, e4, W4, st4⟩ := putF X3 hx hZ hown (host := "") (Or.inl (hw _ (List.mem_of_getElem? (i := 88) rfl))) Via.refl e3 f3_2 f3_0 (Or.inr ⟨(hw _ (List.mem_of_getElem? (i := 89) rfl)), rfl, hnm⟩) (hw _ (List.mem_of_getElem? (i := 78) rfl)) (ty := .int) (by decide) rfl rfl (g := (mkF m 16 #[rv a, iv q1, iv q2, iv q3, iv q4, rv e9] [(.int q3), (.ref a)])) rfl rfl (hb hby d10_16)
  have fw4 : Fld Z h4 a "com/example/treepass/treepass/FrameReport" "laidOut" "I" (.int q3) := f3_2.same W4
  have f4_0 := f3_0.wr W4
  have f4_2 := f3_3.other W4 (Or.inr (slot_ne (Or.inr (hw _ (List.mem_of_getElem? (i := 91) rfl))) (Or.inr (hw _ (List.mem_of_getElem? (i := 89) rfl))) (by decide) (t := .int) (t' := .int) (by decide) (by decide)))
  have f4_3 := f3_4.other W4 (Or.inr (slot_ne (Or.inr (hw _ (List.mem_of_getElem? (i := 93) rfl))) (Or.inr (hw _ (List.mem_of_getElem? (i := 89) rfl))) (by decide) (t := (.object "com/example/treepass/treepass/Rect")) (t' := .int) (by decide) (by decide)))
  have f4_4 := f3_5.other W4 (Or.inr (slot_ne (Or.inr (hw _ (List.mem_of_getElem? (i := 85) rfl))) (Or.inr (hw _ (List.mem_of_getElem? (i := 89) rfl))) (by decide) (t := .int) (t' := .int) (by decide) (by decide)))
  have f4_5 := fw3.other W4 (Or.inr (slot_ne (Or.inr (hw _ (List.mem_of_getElem? (i := 87) rfl))) (Or.inr (hw _ (List.mem_of_getElem? (i := 89) rfl))) (by decide) (t := .int) (t' := .int) (by decide) (by decide)))
  have Zs4 : n0 ≤ h4.size := Nat.le_trans Zs3 (Nat.le_of_eq W4.size.symm)
  have K4 := K3.wr W4 (Or.inl (List.mem_of_getElem? (i := 0) rfl))
  have N4 := Fr.snoc X4 N3 p_6
  refine own_st st4 ?_
  show own_Goes p e below s (Q10 Z a q1 q2 q3 q4 e9 h0 n0) rRrm10.cells rRrm10.slots T4 (mkF m 19 #[rv a, iv q1, iv q2, iv q3, iv q4, rv e9] [])
  refine own_st (fun _ kk_ => XS.aloadN X4.here hx rfl (hb hby d10_19) rfl rfl (XS.iload X4.here hx rfl (hb hby d10_20) rfl kk_)) ?_
  show own_Goes p e below s (Q10 Z a q1 q2 q3 q4 e9 h0 n0) rRrm10.cells rRrm10.slots T4 (mkF m 22 #[rv a, iv q1, iv q2, iv q3, iv q4, rv e9] [(.int q4), (.ref a)])
  obtain ⟨T5, h5, X5, e5, W5, st5⟩ := putF X4 hx hZ hown (host := "") (Or.inl (hw _ (List.mem_of_getElem? (i := 90) rfl))) Via.refl e4 f4_2 f4_0 (Or.inr ⟨(hw _ (List.mem_of_getElem? (i := 91) rfl)), rfl, hnm⟩) (hw _ (List.mem_of_getElem? (i := 78) rfl)) (ty := .int) (by decide) rfl rfl (g := (mkF m 22 #[rv a, iv q1, iv q2, iv q3, iv q4, rv e9] [(.int q4), (.ref a)])) rfl rfl (hb hby d10_22)
  have fw5 : Fld Z h5 a "com/example/treepass/treepass/FrameReport" "drawn" "I" (.int q4) := f4_2.same W5
  have f5_0 := f4_0.wr W5
  have f5_2 := f4_3.other W5 (Or.inr (slot_ne (Or.inr (hw _ (List.mem_of_getElem? (i := 93) rfl))) (Or.inr (hw _ (List.mem_of_getElem? (i := 91) rfl))) (by decide) (t := (.object "com/example/treepass/treepass/Rect")) (t' := .int) (by decide) (by decide)))
  have f5_3 := f4_4.other W5 (Or.inr (slot_ne (Or.inr (hw _ (List.mem_of_getElem? (i := 85) rfl))) (Or.inr (hw _ (List.mem_of_getElem? (i := 91) rfl))) (by decide) (t := .int) (t' := .int) (by decide) (by decide)))
  have f5_4 := f4_5.other W5 (Or.inr (slot_ne (Or.inr (hw _ (List.mem_of_getElem? (i := 87) rfl))) (Or.inr (hw _ (List.mem_of_getElem? (i := 91) rfl))) (by decide) (t := .int) (t' := .int) (by decide) (by decide)))
  have f5_5 := fw4.other W5 (Or.inr (slot_ne (Or.inr (hw _ (List.mem_of_getElem? (i := 89) rfl))) (Or.inr (hw _ (List.mem_of_getElem? (i := 91) rfl))) (by decide) (t := .int) (t' := .int) (by decide) (by decide)))
  have Zs5 : n0 ≤ h5.size := Nat.le_trans Zs4 (Nat.le_of_eq W5.size.symm)
  have K5 := K4.wr W5 (Or.inl (List.mem_of_getElem? (i := 0) rfl))
  have N5 := Fr.snoc X5 N4 p_6
  refine own_st st5 ?_
  show own_Goes p e below s (Q10 Z a q1 q2 q3 q4 e9 h0 n0) rRrm10.cells rRrm10.slots T5 (mkF m 25 #[rv a, iv q1, iv q2, iv q3, iv q4, rv e9] [])
  refine own_st (fun _ kk_ => XS.aloadN X5.here hx rfl (hb hby d10_25) rfl rfl (XS.aload X5.here hx rfl (hb hby d10_26) rfl rfl kk_)) ?_
  show own_Goes p e below s (Q10 Z a q1 q2 q3 q4 e9 h0 n0) rRrm10.cells rRrm10.slots T5 (mkF m 28 #[rv a, iv q1, iv q2, iv q3, iv q4, rv e9] [(.ref e9), (.ref a)])
  obtain ⟨T6, h6, X6, e6, W6, st6⟩ := putF X5 hx hZ hown (host := "") (Or.inl (hw _ (List.mem_of_getElem? (i := 92) rfl))) Via.refl e5 f5_2 f5_0 (Or.inr ⟨(hw _ (List.mem_of_getElem? (i := 93) rfl)), rfl, hnm⟩) (hw _ (List.mem_of_getElem? (i := 78) rfl)) (ty := (.object "com/example/treepass/treepass/Rect")) (by decide) rfl rfl (g := (mkF m 28 #[rv a, iv q1, iv q2, iv q3, iv q4, rv e9] [(.ref e9), (.ref a)])) rfl rfl (hb hby d10_28)
  have fw6 : Fld Z h6 a "com/example/treepass/treepass/FrameReport" "dirty" "Lcom/example/treepass/treepass/Rect;" (.ref e9) := f5_2.same W6
  have f6_0 := f5_0.wr W6
  have f6_2 := f5_3.other W6 (Or.inr (slot_ne (Or.inr (hw _ (List.mem_of_getElem? (i := 85) rfl))) (Or.inr (hw _ (List.mem_of_getElem? (i := 93) rfl))) (by decide) (t := .int) (t' := (.object "com/example/treepass/treepass/Rect")) (by decide) (by decide)))
  have f6_3 := f5_4.other W6 (Or.inr (slot_ne (Or.inr (hw _ (List.mem_of_getElem? (i := 87) rfl))) (Or.inr (hw _ (List.mem_of_getElem? (i := 93) rfl))) (by decide) (t := .int) (t' := (.object "com/example/treepass/treepass/Rect")) (by decide) (by decide)))
  have f6_4 := f5_5.other W6 (Or.inr (slot_ne (Or.inr (hw _ (List.mem_of_getElem? (i := 89) rfl))) (Or.inr (hw _ (List.mem_of_getElem? (i := 93) rfl))) (by decide) (t := .int) (t' := (.object "com/example/treepass/treepass/Rect")) (by decide) (by decide)))
  have f6_5 := fw5.other W6 (Or.inr (slot_ne (Or.inr (hw _ (List.mem_of_getElem? (i := 91) rfl))) (Or.inr (hw _ (List.mem_of_getElem? (i := 93) rfl))) (by decide) (t := .int) (t' := (.object "com/example/treepass/treepass/Rect")) (by decide) (by decide)))
  have Zs6 : n0 ≤ h6.size := Nat.le_trans Zs5 (Nat.le_of_eq W6.size.symm)
  have K6 := K5.wr W6 (Or.inl (List.mem_of_getElem? (i := 0) rfl))
  have N6 := Fr.snoc X6 N5 p_6
  refine own_st st6 ?_
  show own_Goes p e below s (Q10 Z a q1 q2 q3 q4 e9 h0 n0) rRrm10.cells rRrm10.slots T6 (mkF m 31 #[rv a, iv q1, iv q2, iv q3, iv q4, rv e9] [])
  refine own_ret0 X6 hx hlk Bd.returns (hb hby d10_31) (by decide) (by decide) ?_
  show Q10 Z a q1 q2 q3 q4 e9 h0 n0 none T6.heap _
  rw [e6]
  exact ⟨rfl, N6, K6, f6_2, f6_3, f6_4, f6_5, fw6⟩
abbrev rRrm9 : Room := { frames := 3, cells := 1, slots := 5, locals := 42 }
theorem d9_0 : decode prog_21_method_11_code 0 = .ok (.new 80, 3) := by decide +kernel
theorem d9_3 : decode prog_21_method_11_code 3 = .ok (.dup, 1) := by decide +kernel
theorem d9_4 : decode prog_21_method_11_code 4 = .ok (.iload_n 1, 1) := by decide +kernel
theorem d9_5 : decode prog_21_method_11_code 5 = .ok (.aload_n 0, 1) := by decide +kernel
theorem d9_6 : decode prog_21_method_11_code 6 = .ok (.getfield 49, 3) := by decide +kernel
theorem d9_9 : decode prog_21_method_11_code 9 = .ok (.aload_n 0, 1) := by decide +kernel
theorem d9_10 : decode prog_21_method_11_code 10 = .ok (.getfield 52, 3) := by decide +kernel
theorem d9_13 : decode prog_21_method_11_code 13 = .ok (.aload_n 0, 1) := by decide +kernel
theorem d9_14 : decode prog_21_method_11_code 14 = .ok (.getfield 55, 3) := by decide +kernel
theorem d9_17 : decode prog_21_method_11_code 17 = .ok (.aload_n 2, 1) := by decide +kernel
theorem d9_18 : decode prog_21_method_11_code 18 = .ok (.invokespecial 82, 3) := by decide +kernel
theorem d9_21 : decode prog_21_method_11_code 21 = .ok (.areturn, 1) := by decide +kernel
theorem pd_2 : parseMethodDescriptor "(IIIILcom/example/treepass/treepass/Rect;)V" = some ⟨[.int, .int, .int, .int, (.object "com/example/treepass/treepass/Rect")], none⟩ := by decide +kernel
theorem pn_rm9 : plainFor (⟨"com/example/treepass/treepass/FrameState", "report", "(ILcom/example/treepass/treepass/Rect;)Lcom/example/treepass/treepass/FrameReport;"⟩ : MethodName) = true := by first | exact plainFor_of_name (by first | (simp [plainName, overriddenIn]; done) | decide +kernel) | decide +kernel
theorem ef_rm9 (m : MethodId) (a : Addr) (q1 : Int32) (e9 : Addr) : entryFrame m #[(.ref a), (.int q1), (.ref e9)] 3 = (mkF m 0 #[rv a, iv q1, rv e9] []) := by first | (simp [entryFrame, mkF, argsToLocals, Value.category]; done) | rfl
def Q9 (Z : State) (a : Addr) (q1 : Int32) (e9 : Addr) (mz : Int32) (l9 : Int32) (d : Int32) (h0 : Heap) (n0 : Nat) (v_ : Option Value) (h_ : Heap) (L_ : List Loc) : Prop := ∃ y : Addr, (v_ = some (.ref y)) ∧ (Fr n0 L_) ∧ (Keep h0 h_ []) ∧ (h0.size ≤ y) ∧ (Exa Z h_ y "com/example/treepass/treepass/FrameReport") ∧ (Fld Z h_ y "com/example/treepass/treepass/FrameReport" "layoutPasses" "I" (.int q1)) ∧ (Fld Z h_ y "com/example/treepass/treepass/FrameReport" "measured" "I" (.int mz)) ∧ (Fld Z h_ y "com/example/treepass/treepass/FrameReport" "laidOut" "I" (.int l9)) ∧ (Fld Z h_ y "com/example/treepass/treepass/FrameReport" "drawn" "I" (.int d)) ∧ (Fld Z h_ y "com/example/treepass/treepass/FrameReport" "dirty" "Lcom/example/treepass/treepass/Rect;" (.ref e9))
set_option maxRecDepth 65536 in
set_option maxHeartbeats 40000000 in
theorem rm9 (l : Launch) (Z : State) (a0 : Array Value) (hw : ∀ d ∈ tables_1, d.before a0 Z = true) (ws : List Jvm.Cond) (a : Addr) (q1 : Int32) (e9 : Addr) (mz : Int32) (l9 : Int32) (d : Int32) (h0 : Heap) (n0 : Nat) (Z0 : n0 ≤ h0.size) (p_0 : Fld Z h0 a "com/example/treepass/treepass/FrameState" "measured" "I" (.int mz)) (p_1 : Fld Z h0 a "com/example/treepass/treepass/FrameState" "laidOut" "I" (.int l9)) (p_2 : Fld Z h0 a "com/example/treepass/treepass/FrameState" "drawn" "I" (.int d)) :
    MetFree l (⟨"com/example/treepass/treepass/FrameState", "report", "(ILcom/example/treepass/treepass/Rect;)Lcom/example/treepass/treepass/FrameReport;"⟩ : MethodName) (head1 (Jvm.Cond.code (⟨"com/example/treepass/treepass/FrameState", "report", "(ILcom/example/treepass/treepass/Rect;)Lcom/example/treepass/treepass/FrameReport;"⟩ : MethodName) prog_21_method_11_code 3 (some (.object "com/example/treepass/treepass/FrameReport")) :: ws) rRrm9) (fun a_ U_ => a_ = #[(.ref a), (.int q1), (.ref e9)] ∧ Z.Warmed39 U_.vm ∧ U_.heap = h0) (fun _ _ _ _ _ => True) (fun _ U_ o_ U1_ => ∃ v_ L_, o_ = .returned v_ ∧ Q9 Z a q1 e9 mz l9 d h0 n0 v_ U1_.heap L_ ∧ FrameEnd U_ o_ U1_ L_ rRrm9.cells rRrm9.slots) := by
  refine MetFree.of_bodySF pn_rm9 hisR ?_
  intro p e s m args below meth c s₁ Bd hml0 hP hK
  obtain ⟨rfl, hZ, hh⟩ := hP
  have hx := Bd.exec
  have hby := Bd.bytes
  have hlk : meth.locks = false := Bd.notSynchronized
  have hml : c.maxLocals = 3 := hml0
  have hown : s.vm.findClass "com/example/treepass/treepass/FrameState" = some m.cls := findClass_of_methodNamed Bd.named
  have hnm := (name_of_methodNamed Bd.named Bd.method).1
  have X0 : Stand p l e rRrm9 s m #[(.ref a), (.int q1), (.ref e9)] below meth c s₁ [] 0 0 := Stand.of_body Bd
  have e0 : s₁.heap = h0 := by rw [← hh, Bd.state]; rfl
  have N0 := Fr.nil n0
  show own_Goes p e below s (Q9 Z a q1 e9 mz l9 d h0 n0) rRrm9.cells rRrm9.slots s₁ (entryFrame m #[(.ref a), (.int q1), (.ref e9)] 3)
  rw [ef_rm9 m a q1 e9]
  show own_Goes p e below s (Q9 Z a q1 e9 mz l9 d h0 n0) rRrm9.cells rRrm9.slots s₁ (mkF m 0 #[rv a, iv q1, rv e9] [])
  obtain ⟨T1, h1, X1, e1, E1, A1, D1, -, st1⟩ := newO X0 hx hZ hown (hw _ (List.mem_of_getElem? (i := 77) rfl)) (hw _ (List.mem_of_getElem? (i := 78) rfl)) (hw _ (List.mem_of_getElem? (i := 79) rfl)) e0 (g := (mkF m 0 #[rv a, iv q1, rv e9] [])) rfl (hb hby d9_0) (by decide) (by decide)
  obtain ⟨b1, gx1⟩ : ∃ z, z = h0.size := ⟨_, rfl⟩
  rw [← gx1] at A1 D1 st1
  have ne1_a : a ≠ b1 := Nat.ne_of_lt (Nat.lt_of_lt_of_eq p_0.lt gx1.symm)
  have gg1 : n0 ≤ b1 := Nat.le_trans Z0 (Nat.le_of_eq gx1.symm)
  have sz1 : h0.size ≤ b1 := Nat.le_trans (Keep.refl h0 []).1 (Nat.le_of_eq gx1.symm)
  have f1_0 := p_0.ext E1
  have f1_1 := p_1.ext E1
  have f1_2 := p_2.ext E1
  have Zs1 : n0 ≤ h1.size := Nat.le_trans Z0 E1.1
  have K1 := (Keep.refl h0 []).ext E1
  have fn1_layoutPasses : Fld Z h1 b1 "com/example/treepass/treepass/FrameReport" "layoutPasses" "I" (.int (0 : Int32)) := D1 (Or.inr (hw _ (List.mem_of_getElem? (i := 85) rfl))) (ty := .int) (by decide)
  have fn1_measured : Fld Z h1 b1 "com/example/treepass/treepass/FrameReport" "measured" "I" (.int (0 : Int32)) := D1 (Or.inr (hw _ (List.mem_of_getElem? (i := 87) rfl))) (ty := .int) (by decide)
  have fn1_laidOut : Fld Z h1 b1 "com/example/treepass/treepass/FrameReport" "laidOut" "I" (.int (0 : Int32)) := D1 (Or.inr (hw _ (List.mem_of_getElem? (i := 89) rfl))) (ty := .int) (by decide)
  have fn1_drawn : Fld Z h1 b1 "com/example/treepass/treepass/FrameReport" "drawn" "I" (.int (0 : Int32)) := D1 (Or.inr (hw _ (List.mem_of_getElem? (i := 91) rfl))) (ty := .int) (by decide)
  have fn1_dirty : Fld Z h1 b1 "com/example/treepass/treepass/FrameReport" "dirty" "Lcom/example/treepass/treepass/Rect;" .null := D1 (Or.inr (hw _ (List.mem_of_getElem? (i := 93) rfl))) (ty := (.object "com/example/treepass/treepass/Rect")) (by decide)
  refine own_st st1 ?_
  show own_Goes p e below s (Q9 Z a q1 e9 mz l9 d h0 n0) rRrm9.cells rRrm9.slots T1 (mkF m 3 #[rv a, iv q1, rv e9] [(.ref b1)])
  refine own_st (fun _ kk_ => XS.dup X1.here hx rfl (hb hby d9_3) rfl rfl (XS.iloadN X1.here hx rfl (hb hby d9_4) rfl (XS.aloadN X1.here hx rfl (hb hby d9_5) rfl rfl kk_))) ?_
  show own_Goes p e below s (Q9 Z a q1 e9 mz l9 d h0 n0) rRrm9.cells rRrm9.slots T1 (mkF m 6 #[rv a, iv q1, rv e9] [(.ref a), (.int q1), (.ref b1), (.ref b1)])
  obtain ⟨T2, X2, e2, st2⟩ := getF X1 hx hZ hown (host := "") (Or.inl (hw _ (List.mem_of_getElem? (i := 66) rfl))) Via.refl e1 f1_0 (g := (mkF m 6 #[rv a, iv q1, rv e9] [(.ref a), (.int q1), (.ref b1), (.ref b1)])) rfl rfl (hb hby d9_6)
  refine own_st st2 ?_
  show own_Goes p e below s (Q9 Z a q1 e9 mz l9 d h0 n0) rRrm9.cells rRrm9.slots T2 (mkF m 9 #[rv a, iv q1, rv e9] [(.int mz), (.int q1), (.ref b1), (.ref b1)])
  refine own_st (fun _ kk_ => XS.aloadN X2.here hx rfl (hb hby d9_9) rfl rfl kk_) ?_
  show own_Goes p e below s (Q9 Z a q1 e9 mz l9 d h0 n0) rRrm9.cells rRrm9.slots T2 (mkF m 10 #[rv a, iv q1, rv e9] [(.ref a), (.int mz), (.int q1), (.ref b1), (.ref b1)])
  obtain ⟨T3, X3, e3, st3⟩ := getF X2 hx hZ hown (host := "") (Or.inl (hw _ (List.mem_of_getElem? (i := 59) rfl))) Via.refl e2 f1_1 (g := (mkF m 10 #[rv a, iv q1, rv e9] [(.ref a), (.int mz), (.int q1), (.ref b1), (.ref b1)])) rfl rfl (hb hby d9_10)
  refine own_st st3 ?_
  show own_Goes p e below s (Q9 Z a q1 e9 mz l9 d h0 n0) rRrm9.cells rRrm9.slots T3 (mkF m 13 #[rv a, iv q1, rv e9] [(.int l9), (.int mz), (.int q1), (.ref b1), (.ref b1)])
  refine own_st (fun _ kk_ => XS.aloadN X3.here hx rfl (hb hby d9_13) rfl rfl kk_) ?_
  show own_Goes p e below s (Q9 Z a q1 e9 mz l9 d h0 n0) rRrm9.cells rRrm9.slots T3 (mkF m 14 #[rv a, iv q1, rv e9] [(.ref a), (.int l9), (.int mz), (.int q1), (.ref b1), (.ref b1)])
  obtain ⟨T4, X4, e4, st4⟩ := getF X3 hx hZ hown (host := "") (Or.inl (hw _ (List.mem_of_getElem? (i := 68) rfl))) Via.refl e3 f1_2 (g := (mkF m 14 #[rv a, iv q1, rv e9] [(.ref a), (.int l9), (.int mz), (.int q1), (.ref b1), (.ref b1)])) rfl rfl (hb hby d9_14)
  refine own_st st4 ?_
  show own_Goes p e below s (Q9 Z a q1 e9 mz l9 d h0 n0) rRrm9.cells rRrm9.slots T4 (mkF m 17 #[rv a, iv q1, rv e9] [(.int d), (.int l9), (.int mz), (.int q1), (.ref b1), (.ref b1)])
  refine own_st (fun _ kk_ => XS.aloadN X4.here hx rfl (hb hby d9_17) rfl rfl kk_) ?_
  show own_Goes p e below s (Q9 Z a q1 e9 mz l9 d h0 n0) rRrm9.cells rRrm9.slots T4 (mkF m 18 #[rv a, iv q1, rv e9] [(.ref e9), (.int d), (.int l9), (.int mz), (.int q1), (.ref b1), (.ref b1)])
  obtain ⟨_, _, ⟨T5, L5, k5, n5⟩, -, X5, ⟨Lc5, hQ5, l5, y5, z5⟩, st5⟩ := X4.specialBack hx (y := (⟨"com/example/treepass/treepass/FrameReport", "<init>", "(IIIILcom/example/treepass/treepass/Rect;)V"⟩ : MethodName)) rfl hown (mvT hZ (hw _ (List.mem_of_getElem? (i := 80) rfl))) (mvT hZ (hw _ (List.mem_of_getElem? (i := 81) rfl))) (mvT hZ (hw _ (List.mem_of_getElem? (i := 82) rfl))) (by decide) (backOf (W := 1) (rm10 l Z a0 hw [] (b1) (q1) (mz) (l9) (d) (e9) h1 n0 Zs1 A1 fn1_layoutPasses fn1_measured fn1_laidOut fn1_drawn fn1_dirty gg1) hZ (hw _ (List.mem_of_getElem? (i := 82) rfl)) (hw _ (List.mem_of_getElem? (i := 79) rfl)) (by decide) (by decide)) (g := (mkF m 18 #[rv a, iv q1, rv e9] [(.ref e9), (.int d), (.int l9), (.int mz), (.int q1), (.ref b1), (.ref b1)])) rfl (by rw [hml]; rfl) (Steps.refl _) (a := b1) (argsL := [(.int q1), (.int mz), (.int l9), (.int d), (.ref e9)]) (rest := [(.ref b1)]) (lenOf pd_2 rfl) rfl (by show 2 * 0 + _ ≤ _; exact Nat.le_of_eq rfl) (hb hby d9_18) (fun _ _ => ⟨rfl, e4, (by decide : 1 + 0 ≤ _), (by decide : 5 + 0 ≤ _)⟩)
  dsimp only [Pt.U, Pt.locs, Pt.cells, Pt.slots] at X5 l5 y5 z5 st5 hQ5
  subst l5 y5 z5
  obtain ⟨rfl, Nq5, Kq5, u5_0, u5_1, u5_2, u5_3, u5_4⟩ := hQ5
  have N5 := Fr.app N0 Nq5
  have f5_0 := f1_0.keep Kq5 (ninS ne1_a nin0)
  have f5_1 := f1_1.keep Kq5 (ninS ne1_a nin0)
  have f5_2 := f1_2.keep Kq5 (ninS ne1_a nin0)
  have f5_3 := A1.keep Kq5
  have Zs5 : n0 ≤ T5.heap.size := Nat.le_trans Zs1 Kq5.1
  have K5 := K1.trans Kq5 (allS (Or.inr sz1) all0)
  refine own_st (fun _ kk_ => st5.trans kk_) ?_
  show own_Goes p e below s (Q9 Z a q1 e9 mz l9 d h0 n0) rRrm9.cells rRrm9.slots T5 (mkF m 21 #[rv a, iv q1, rv e9] [(.ref b1)])
  refine own_retA X5 hx hlk rfl Bd.returns rfl (hb hby d9_21) (by decide) (by decide) ?_
  show Q9 Z a q1 e9 mz l9 d h0 n0 (some (.ref b1)) T5.heap _
  exact ⟨b1, rfl, N5, K5, sz1, f5_3, u5_0, u5_1, u5_2, u5_3, u5_4⟩
abbrev rRrm11 : Room := { frames := 0, cells := 0, slots := 0, locals := 0 }
theorem d11_0 : decode prog_21_method_5_code 0 = .ok (.aload_n 0, 1) := by decide +kernel
theorem d11_1 : decode prog_21_method_5_code 1 = .ok (.getfield 28, 3) := by decide +kernel
theorem d11_4 : decode prog_21_method_5_code 4 = .ok (.astore_n 1, 1) := by decide +kernel
theorem d11_5 : decode prog_21_method_5_code 5 = .ok (.aload_n 0, 1) := by decide +kernel
theorem d11_6 : decode prog_21_method_5_code 6 = .ok (.getstatic 58, 3) := by decide +kernel
theorem d11_9 : decode prog_21_method_5_code 9 = .ok (.putfield 28, 3) := by decide +kernel
theorem d11_12 : decode prog_21_method_5_code 12 = .ok (.aload_n 1, 1) := by decide +kernel
theorem d11_13 : decode prog_21_method_5_code 13 = .ok (.areturn, 1) := by decide +kernel
theorem pn_rm11 : plainFor (⟨"com/example/treepass/treepass/FrameState", "takeDirty", "()Lcom/example/treepass/treepass/Rect;"⟩ : MethodName) = true := by first | exact plainFor_of_name (by first | (simp [plainName, overriddenIn]; done) | decide +kernel) | decide +kernel
theorem ef_rm11 (m : MethodId) (a : Addr) : entryFrame m #[(.ref a)] 2 = (mkF m 0 #[rv a, .unset] []) := by first | (simp [entryFrame, mkF, argsToLocals, Value.category]; done) | rfl
def Q11 (Z : State) (a : Addr) (r : Addr) (e9 : Addr) (h0 : Heap) (n0 : Nat) (v_ : Option Value) (h_ : Heap) (L_ : List Loc) : Prop := (v_ = some (.ref r)) ∧ (Fr n0 L_) ∧ (Keep h0 h_ [a])
set_option maxRecDepth 65536 in
set_option maxHeartbeats 40000000 in
theorem rm11 (l : Launch) (Z : State) (a0 : Array Value) (hw : ∀ d ∈ tables_1, d.before a0 Z = true) (ws : List Jvm.Cond) (a : Addr) (r : Addr) (e9 : Addr) (h0 : Heap) (n0 : Nat) (Z0 : n0 ≤ h0.size) (p_0 : Fld Z h0 a "com/example/treepass/treepass/FrameState" "dirty" "Lcom/example/treepass/treepass/Rect;" (.ref r)) (p_1 : Exa Z h0 a "com/example/treepass/treepass/FrameState") (p_2 : n0 ≤ a) (p_3 : Sta Z h0 "com/example/treepass/treepass/Rect" "EMPTY" "Lcom/example/treepass/treepass/Rect;" (.ref e9)) :
    MetFree l (⟨"com/example/treepass/treepass/FrameState", "takeDirty", "()Lcom/example/treepass/treepass/Rect;"⟩ : MethodName) (head1 (Jvm.Cond.code (⟨"com/example/treepass/treepass/FrameState", "takeDirty", "()Lcom/example/treepass/treepass/Rect;"⟩ : MethodName) prog_21_method_5_code 2 (some (.object "com/example/treepass/treepass/Rect")) :: ws) rRrm11) (fun a_ U_ => a_ = #[(.ref a)] ∧ Z.Warmed39 U_.vm ∧ U_.heap = h0) (fun _ _ _ _ _ => True) (fun _ U_ o_ U1_ => ∃ v_ L_, o_ = .returned v_ ∧ Q11 Z a r e9 h0 n0 v_ U1_.heap L_ ∧ FrameEnd U_ o_ U1_ L_ rRrm11.cells rRrm11.slots) := by
  refine MetFree.of_bodySF pn_rm11 hisR ?_
  intro p e s m args below meth c s₁ Bd hml0 hP hK
  obtain ⟨rfl, hZ, hh⟩ := hP
  have hx := Bd.exec
  have hby := Bd.bytes
  have hlk : meth.locks = false := Bd.notSynchronized
  have hml : c.maxLocals = 2 := hml0
  have hown : s.vm.findClass "com/example/treepass/treepass/FrameState" = some m.cls := findClass_of_methodNamed Bd.named
  have hnm := (name_of_methodNamed Bd.named Bd.method).1
  have X0 : Stand p l e rRrm11 s m #[(.ref a)] below meth c s₁ [] 0 0 := Stand.of_body Bd
  have e0 : s₁.heap = h0 := by rw [← hh, Bd.state]; rfl
  have N0 := Fr.nil n0
  show own_Goes p e below s (Q11 Z a r e9 h0 n0) rRrm11.cells rRrm11.slots s₁ (entryFrame m #[(.ref a)] 2)
  rw [ef_rm11 m a]
  show own_Goes p e below s (Q11 Z a r e9 h0 n0) rRrm11.cells rRrm11.slots s₁ (mkF m 0 #[rv a, .unset] [])
  refine own_st (fun _ kk_ => XS.aloadN X0.here hx rfl (hb hby d11_0) rfl rfl kk_) ?_
  show own_Goes p e below s (Q11 Z a r e9 h0 n0) rRrm11.cells rRrm11.slots s₁ (mkF m 1 #[rv a, .unset] [(.ref a)])
  obtain ⟨T1, X1, e1, st1⟩ := getF X0 hx hZ hown (host := "") (Or.inl (hw _ (List.mem_of_getElem? (i := 52) rfl))) Via.refl e0 p_0 (g := (mkF m 1 #[rv a, .unset] [(.ref a)])) rfl rfl (hb hby d11_1)
  refine own_st st1 ?_
  show own_Goes p e below s (Q11 Z a r e9 h0 n0) rRrm11.cells rRrm11.slots T1 (mkF m 4 #[rv a, .unset] [(.ref r)])
  refine own_st (fun _ kk_ => XS.astoreN X1.here hx rfl (hb hby d11_4) rfl rfl (l' := #[rv a, rv r]) rfl (XS.aloadN X1.here hx rfl (hb hby d11_5) rfl rfl kk_)) ?_
  show own_Goes p e below s (Q11 Z a r e9 h0 n0) rRrm11.cells rRrm11.slots T1 (mkF m 6 #[rv a, rv r] [(.ref a)])
  obtain ⟨T2, X2, e2, st2⟩ := getS2 X1 hx hZ hown (host := "") (Or.inl (hw _ (List.mem_of_getElem? (i := 99) rfl))) Via.refl e1 p_3 (g := (mkF m 6 #[rv a, rv r] [(.ref a)])) rfl (hb hby d11_6)
  refine own_st st2 ?_
  show own_Goes p e below s (Q11 Z a r e9 h0 n0) rRrm11.cells rRrm11.slots T2 (mkF m 9 #[rv a, rv r] [(.ref e9), (.ref a)])
  obtain ⟨T3, h3, X3, e3, W3, st3⟩ := putF X2 hx hZ hown (host := "") (Or.inl (hw _ (List.mem_of_getElem? (i := 52) rfl))) Via.refl e2 p_0 p_1 (Or.inl (hw _ (List.mem_of_getElem? (i := 53) rfl))) (hw _ (List.mem_of_getElem? (i := 1) rfl)) (ty := (.object "com/example/treepass/treepass/Rect")) (by decide) rfl rfl (g := (mkF m 9 #[rv a, rv r] [(.ref e9), (.ref a)])) rfl rfl (hb hby d11_9)
  have fw3 : Fld Z h3 a "com/example/treepass/treepass/FrameState" "dirty" "Lcom/example/treepass/treepass/Rect;" (.ref e9) := p_0.same W3
  have f3_1 := p_1.wr W3
  have f3_2 := p_3.wr W3
  have Zs3 : n0 ≤ h3.size := Nat.le_trans Z0 (Nat.le_of_eq W3.size.symm)
  have K3 := (Keep.refl h0 [a]).wr W3 (Or.inl (List.mem_of_getElem? (i := 0) rfl))
  have N3 := Fr.snoc X3 N0 p_2
  refine own_st st3 ?_
  show own_Goes p e below s (Q11 Z a r e9 h0 n0) rRrm11.cells rRrm11.slots T3 (mkF m 12 #[rv a, rv r] [])
  refine own_st (fun _ kk_ => XS.aloadN X3.here hx rfl (hb hby d11_12) rfl rfl kk_) ?_
  show own_Goes p e below s (Q11 Z a r e9 h0 n0) rRrm11.cells rRrm11.slots T3 (mkF m 13 #[rv a, rv r] [(.ref r)])
  refine own_retA X3 hx hlk rfl Bd.returns rfl (hb hby d11_13) (by decide) (by decide) ?_
  show Q11 Z a r e9 h0 n0 (some (.ref r)) T3.heap _
  rw [e3]
  exact ⟨rfl, N3, K3⟩
abbrev rRrm12 : Room := { frames := 0, cells := 0, slots := 0, locals := 0 }
theorem d12_0 : decode prog_20_method_5_code 0 = .ok (.aload_n 0, 1) := by decide +kernel
theorem d12_1 : decode prog_20_method_5_code 1 = .ok (.getfield 7, 3) := by decide +kernel
theorem d12_4 : decode prog_20_method_5_code 4 = .ok (.ireturn, 1) := by decide +kernel
theorem pn_rm12 : plainFor (⟨"com/example/treepass/treepass/FrameReport", "layoutPasses", "()I"⟩ : MethodName) = true := by first | exact plainFor_of_name (by first | (simp [plainName, overriddenIn]; done) | decide +kernel) | decide +kernel
theorem ef_rm12 (m : MethodId) (a : Addr) : entryFrame m #[(.ref a)] 1 = (mkF m 0 #[rv a] []) := by first | (simp [entryFrame, mkF, argsToLocals, Value.category]; done) | rfl
def Q12 (Z : State) (a : Addr) (v9 : Int32) (h0 : Heap) (n0 : Nat) (v_ : Option Value) (h_ : Heap) (L_ : List Loc) : Prop := (v_ = some (.int v9)) ∧ (Fr n0 L_) ∧ (h_ = h0)
set_option maxRecDepth 65536 in
set_option maxHeartbeats 40000000 in
theorem rm12 (l : Launch) (Z : State) (a0 : Array Value) (hw : ∀ d ∈ tables_1, d.before a0 Z = true) (ws : List Jvm.Cond) (a : Addr) (v9 : Int32) (h0 : Heap) (n0 : Nat) (Z0 : n0 ≤ h0.size) (p_0 : Fld Z h0 a "com/example/treepass/treepass/FrameReport" "layoutPasses" "I" (.int v9)) :
    MetFree l (⟨"com/example/treepass/treepass/FrameReport", "layoutPasses", "()I"⟩ : MethodName) (head1 (Jvm.Cond.code (⟨"com/example/treepass/treepass/FrameReport", "layoutPasses", "()I"⟩ : MethodName) prog_20_method_5_code 1 (some .int) :: ws) rRrm12) (fun a_ U_ => a_ = #[(.ref a)] ∧ Z.Warmed39 U_.vm ∧ U_.heap = h0) (fun _ _ _ _ _ => True) (fun _ U_ o_ U1_ => ∃ v_ L_, o_ = .returned v_ ∧ Q12 Z a v9 h0 n0 v_ U1_.heap L_ ∧ FrameEnd U_ o_ U1_ L_ rRrm12.cells rRrm12.slots) := by
  refine MetFree.of_bodySF pn_rm12 hisR ?_
  intro p e s m args below meth c s₁ Bd hml0 hP hK
  obtain ⟨rfl, hZ, hh⟩ := hP
  have hx := Bd.exec
  have hby := Bd.bytes
  have hlk : meth.locks = false := Bd.notSynchronized
  have hml : c.maxLocals = 1 := hml0
  have hown : s.vm.findClass "com/example/treepass/treepass/FrameReport" = some m.cls := findClass_of_methodNamed Bd.named
  have hnm := (name_of_methodNamed Bd.named Bd.method).1
  have X0 : Stand p l e rRrm12 s m #[(.ref a)] below meth c s₁ [] 0 0 := Stand.of_body Bd
  have e0 : s₁.heap = h0 := by rw [← hh, Bd.state]; rfl
  have N0 := Fr.nil n0
  show own_Goes p e below s (Q12 Z a v9 h0 n0) rRrm12.cells rRrm12.slots s₁ (entryFrame m #[(.ref a)] 1)
  rw [ef_rm12 m a]
  show own_Goes p e below s (Q12 Z a v9 h0 n0) rRrm12.cells rRrm12.slots s₁ (mkF m 0 #[rv a] [])
  refine own_st (fun _ kk_ => XS.aloadN X0.here hx rfl (hb hby d12_0) rfl rfl kk_) ?_
  show own_Goes p e below s (Q12 Z a v9 h0 n0) rRrm12.cells rRrm12.slots s₁ (mkF m 1 #[rv a] [(.ref a)])
  obtain ⟨T1, X1, e1, st1⟩ := getF X0 hx hZ hown (host := "") (Or.inl (hw _ (List.mem_of_getElem? (i := 84) rfl))) Via.refl e0 p_0 (g := (mkF m 1 #[rv a] [(.ref a)])) rfl rfl (hb hby d12_1)
  refine own_st st1 ?_
  show own_Goes p e below s (Q12 Z a v9 h0 n0) rRrm12.cells rRrm12.slots T1 (mkF m 4 #[rv a] [(.int v9)])
  refine own_retI X1 hx hlk Bd.returns (hb hby d12_4) (by decide) (by decide) ?_
  show Q12 Z a v9 h0 n0 (some (.int v9)) T1.heap _
  rw [e1]
  exact ⟨rfl, N0, rfl⟩
abbrev rRrm13 : Room := { frames := 0, cells := 0, slots := 0, locals := 0 }
theorem d13_0 : decode prog_20_method_6_code 0 = .ok (.aload_n 0, 1) := by decide +kernel
theorem d13_1 : decode prog_20_method_6_code 1 = .ok (.getfield 13, 3) := by decide +kernel
theorem d13_4 : decode prog_20_method_6_code 4 = .ok (.ireturn, 1) := by decide +kernel
theorem pn_rm13 : plainFor (⟨"com/example/treepass/treepass/FrameReport", "measured", "()I"⟩ : MethodName) = true := by first | exact plainFor_of_name (by first | (simp [plainName, overriddenIn]; done) | decide +kernel) | decide +kernel
theorem ef_rm13 (m : MethodId) (a : Addr) : entryFrame m #[(.ref a)] 1 = (mkF m 0 #[rv a] []) := by first | (simp [entryFrame, mkF, argsToLocals, Value.category]; done) | rfl
def Q13 (Z : State) (a : Addr) (v9 : Int32) (h0 : Heap) (n0 : Nat) (v_ : Option Value) (h_ : Heap) (L_ : List Loc) : Prop := (v_ = some (.int v9)) ∧ (Fr n0 L_) ∧ (h_ = h0)
set_option maxRecDepth 65536 in
set_option maxHeartbeats 40000000 in
theorem rm13 (l : Launch) (Z : State) (a0 : Array Value) (hw : ∀ d ∈ tables_1, d.before a0 Z = true) (ws : List Jvm.Cond) (a : Addr) (v9 : Int32) (h0 : Heap) (n0 : Nat) (Z0 : n0 ≤ h0.size) (p_0 : Fld Z h0 a "com/example/treepass/treepass/FrameReport" "measured" "I" (.int v9)) :
    MetFree l (⟨"com/example/treepass/treepass/FrameReport", "measured", "()I"⟩ : MethodName) (head1 (Jvm.Cond.code (⟨"com/example/treepass/treepass/FrameReport", "measured", "()I"⟩ : MethodName) prog_20_method_6_code 1 (some .int) :: ws) rRrm13) (fun a_ U_ => a_ = #[(.ref a)] ∧ Z.Warmed39 U_.vm ∧ U_.heap = h0) (fun _ _ _ _ _ => True) (fun _ U_ o_ U1_ => ∃ v_ L_, o_ = .returned v_ ∧ Q13 Z a v9 h0 n0 v_ U1_.heap L_ ∧ FrameEnd U_ o_ U1_ L_ rRrm13.cells rRrm13.slots) := by
  refine MetFree.of_bodySF pn_rm13 hisR ?_
  intro p e s m args below meth c s₁ Bd hml0 hP hK
  obtain ⟨rfl, hZ, hh⟩ := hP
  have hx := Bd.exec
  have hby := Bd.bytes
  have hlk : meth.locks = false := Bd.notSynchronized
  have hml : c.maxLocals = 1 := hml0
  have hown : s.vm.findClass "com/example/treepass/treepass/FrameReport" = some m.cls := findClass_of_methodNamed Bd.named
  have hnm := (name_of_methodNamed Bd.named Bd.method).1
  have X0 : Stand p l e rRrm13 s m #[(.ref a)] below meth c s₁ [] 0 0 := Stand.of_body Bd
  have e0 : s₁.heap = h0 := by rw [← hh, Bd.state]; rfl
  have N0 := Fr.nil n0
  show own_Goes p e below s (Q13 Z a v9 h0 n0) rRrm13.cells rRrm13.slots s₁ (entryFrame m #[(.ref a)] 1)
  rw [ef_rm13 m a]
  show own_Goes p e below s (Q13 Z a v9 h0 n0) rRrm13.cells rRrm13.slots s₁ (mkF m 0 #[rv a] [])
  refine own_st (fun _ kk_ => XS.aloadN X0.here hx rfl (hb hby d13_0) rfl rfl kk_) ?_
  show own_Goes p e below s (Q13 Z a v9 h0 n0) rRrm13.cells rRrm13.slots s₁ (mkF m 1 #[rv a] [(.ref a)])
  obtain ⟨T1, X1, e1, st1⟩ := getF X0 hx hZ hown (host := "") (Or.inl (hw _ (List.mem_of_getElem? (i := 86) rfl))) Via.refl e0 p_0 (g := (mkF m 1 #[rv a] [(.ref a)])) rfl rfl (hb hby d13_1)
  refine own_st st1 ?_
  show own_Goes p e below s (Q13 Z a v9 h0 n0) rRrm13.cells rRrm13.slots T1 (mkF m 4 #[rv a] [(.int v9)])
  refine own_retI X1 hx hlk Bd.returns (hb hby d13_4) (by decide) (by decide) ?_
  show Q13 Z a v9 h0 n0 (some (.int v9)) T1.heap _
  rw [e1]
  exact ⟨rfl, N0, rfl⟩
abbrev rRrm14 : Room := { frames := 0, cells := 0, slots := 0, locals := 0 }
theorem d14_0 : decode prog_20_method_7_code 0 = .ok (.aload_n 0, 1) := by decide +kernel
theorem d14_1 : decode prog_20_method_7_code 1 = .ok (.getfield 16, 3) := by decide +kernel
theorem d14_4 : decode prog_20_method_7_code 4 = .ok (.ireturn, 1) := by decide +kernel
theorem pn_rm14 : plainFor (⟨"com/example/treepass/treepass/FrameReport", "laidOut", "()I"⟩ : MethodName) = true := by first | exact plainFor_of_name (by first | (simp [plainName, overriddenIn]; done) | decide +kernel) | decide +kernel
theorem ef_rm14 (m : MethodId) (a : Addr) : entryFrame m #[(.ref a)] 1 = (mkF m 0 #[rv a] []) := by first | (simp [entryFrame, mkF, argsToLocals, Value.category]; done) | rfl
def Q14 (Z : State) (a : Addr) (v9 : Int32) (h0 : Heap) (n0 : Nat) (v_ : Option Value) (h_ : Heap) (L_ : List Loc) : Prop := (v_ = some (.int v9)) ∧ (Fr n0 L_) ∧ (h_ = h0)
set_option maxRecDepth 65536 in
set_option maxHeartbeats 40000000 in
theorem rm14 (l : Launch) (Z : State) (a0 : Array Value) (hw : ∀ d ∈ tables_1, d.before a0 Z = true) (ws : List Jvm.Cond) (a : Addr) (v9 : Int32) (h0 : Heap) (n0 : Nat) (Z0 : n0 ≤ h0.size) (p_0 : Fld Z h0 a "com/example/treepass/treepass/FrameReport" "laidOut" "I" (.int v9)) :
    MetFree l (⟨"com/example/treepass/treepass/FrameReport", "laidOut", "()I"⟩ : MethodName) (head1 (Jvm.Cond.code (⟨"com/example/treepass/treepass/FrameReport", "laidOut", "()I"⟩ : MethodName) prog_20_method_7_code 1 (some .int) :: ws) rRrm14) (fun a_ U_ => a_ = #[(.ref a)] ∧ Z.Warmed39 U_.vm ∧ U_.heap = h0) (fun _ _ _ _ _ => True) (fun _ U_ o_ U1_ => ∃ v_ L_, o_ = .returned v_ ∧ Q14 Z a v9 h0 n0 v_ U1_.heap L_ ∧ FrameEnd U_ o_ U1_ L_ rRrm14.cells rRrm14.slots) := by
  refine MetFree.of_bodySF pn_rm14 hisR ?_
  intro p e s m args below meth c s₁ Bd hml0 hP hK
  obtain ⟨rfl, hZ, hh⟩ := hP
  have hx := Bd.exec
  have hby := Bd.bytes
  have hlk : meth.locks = false := Bd.notSynchronized
  have hml : c.maxLocals = 1 := hml0
  have hown : s.vm.findClass "com/example/treepass/treepass/FrameReport" = some m.cls := findClass_of_methodNamed Bd.named
  have hnm := (name_of_methodNamed Bd.named Bd.method).1
  have X0 : Stand p l e rRrm14 s m #[(.ref a)] below meth c s₁ [] 0 0 := Stand.of_body Bd
  have e0 : s₁.heap = h0 := by rw [← hh, Bd.state]; rfl
  have N0 := Fr.nil n0
  show own_Goes p e below s (Q14 Z a v9 h0 n0) rRrm14.cells rRrm14.slots s₁ (entryFrame m #[(.ref a)] 1)
  rw [ef_rm14 m a]
  show own_Goes p e below s (Q14 Z a v9 h0 n0) rRrm14.cells rRrm14.slots s₁ (mkF m 0 #[rv a] [])
  refine own_st (fun _ kk_ => XS.aloadN X0.here hx rfl (hb hby d14_0) rfl rfl kk_) ?_
  show own_Goes p e below s (Q14 Z a v9 h0 n0) rRrm14.cells rRrm14.slots s₁ (mkF m 1 #[rv a] [(.ref a)])
  obtain ⟨T1, X1, e1, st1⟩ := getF X0 hx hZ hown (host := "") (Or.inl (hw _ (List.mem_of_getElem? (i := 88) rfl))) Via.refl e0 p_0 (g := (mkF m 1 #[rv a] [(.ref a)])) rfl rfl (hb hby d14_1)
  refine own_st st1 ?_
  show own_Goes p e below s (Q14 Z a v9 h0 n0) rRrm14.cells rRrm14.slots T1 (mkF m 4 #[rv a] [(.int v9)])
  refine own_retI X1 hx hlk Bd.returns (hb hby d14_4) (by decide) (by decide) ?_
  show Q14 Z a v9 h0 n0 (some (.int v9)) T1.heap _
  rw [e1]
  exact ⟨rfl, N0, rfl⟩
abbrev rRrm15 : Room := { frames := 0, cells := 0, slots := 0, locals := 0 }
theorem d15_0 : decode prog_20_method_8_code 0 = .ok (.aload_n 0, 1) := by decide +kernel
theorem d15_1 : decode prog_20_method_8_code 1 = .ok (.getfield 19, 3) := by decide +kernel
theorem d15_4 : decode prog_20_method_8_code 4 = .ok (.ireturn, 1) := by decide +kernel
theorem pn_rm15 : plainFor (⟨"com/example/treepass/treepass/FrameReport", "drawn", "()I"⟩ : MethodName) = true := by first | exact plainFor_of_name (by first | (simp [plainName, overriddenIn]; done) | decide +kernel) | decide +kernel
theorem ef_rm15 (m : MethodId) (a : Addr) : entryFrame m #[(.ref a)] 1 = (mkF m 0 #[rv a] []) := by first | (simp [entryFrame, mkF, argsToLocals, Value.category]; done) | rfl
def Q15 (Z : State) (a : Addr) (v9 : Int32) (h0 : Heap) (n0 : Nat) (v_ : Option Value) (h_ : Heap) (L_ : List Loc) : Prop := (v_ = some (.int v9)) ∧ (Fr n0 L_) ∧ (h_ = h0)
set_option maxRecDepth 65536 in
set_option maxHeartbeats 40000000 in
theorem rm15 (l : Launch) (Z : State) (a0 : Array Value) (hw : ∀ d ∈ tables_1, d.before a0 Z = true) (ws : List Jvm.Cond) (a : Addr) (v9 : Int32) (h0 : Heap) (n0 : Nat) (Z0 : n0 ≤ h0.size) (p_0 : Fld Z h0 a "com/example/treepass/treepass/FrameReport" "drawn" "I" (.int v9)) :
    MetFree l (⟨"com/example/treepass/treepass/FrameReport", "drawn", "()I"⟩ : MethodName) (head1 (Jvm.Cond.code (⟨"com/example/treepass/treepass/FrameReport", "drawn", "()I"⟩ : MethodName) prog_20_method_8_code 1 (some .int) :: ws) rRrm15) (fun a_ U_ => a_ = #[(.ref a)] ∧ Z.Warmed39 U_.vm ∧ U_.heap = h0) (fun _ _ _ _ _ => True) (fun _ U_ o_ U1_ => ∃ v_ L_, o_ = .returned v_ ∧ Q15 Z a v9 h0 n0 v_ U1_.heap L_ ∧ FrameEnd U_ o_ U1_ L_ rRrm15.cells rRrm15.slots) := by
  refine MetFree.of_bodySF pn_rm15 hisR ?_
  intro p e s m args below meth c s₁ Bd hml0 hP hK
  obtain ⟨rfl, hZ, hh⟩ := hP
  have hx := Bd.exec
  have hby := Bd.bytes
  have hlk : meth.locks = false := Bd.notSynchronized
  have hml : c.maxLocals = 1 := hml0
  have hown : s.vm.findClass "com/example/treepass/treepass/FrameReport" = some m.cls := findClass_of_methodNamed Bd.named
  have hnm := (name_of_methodNamed Bd.named Bd.method).1
  have X0 : Stand p l e rRrm15 s m #[(.ref a)] below meth c s₁ [] 0 0 := Stand.of_body Bd
  have e0 : s₁.heap = h0 := by rw [← hh, Bd.state]; rfl
  have N0 := Fr.nil n0
  show own_Goes p e below s (Q15 Z a v9 h0 n0) rRrm15.cells rRrm15.slots s₁ (entryFrame m #[(.ref a)] 1)
  rw [ef_rm15 m a]
  show own_Goes p e below s (Q15 Z a v9 h0 n0) rRrm15.cells rRrm15.slots s₁ (mkF m 0 #[rv a] [])
  refine own_st (fun _ kk_ => XS.aloadN X0.here hx rfl (hb hby d15_0) rfl rfl kk_) ?_
  show own_Goes p e below s (Q15 Z a v9 h0 n0) rRrm15.cells rRrm15.slots s₁ (mkF m 1 #[rv a] [(.ref a)])
  obtain ⟨T1, X1, e1, st1⟩ := getF X0 hx hZ hown (host := "") (Or.inl (hw _ (List.mem_of_getElem? (i := 90) rfl))) Via.refl e0 p_0 (g := (mkF m 1 #[rv a] [(.ref a)])) rfl rfl (hb hby d15_1)
  refine own_st st1 ?_
  show own_Goes p e below s (Q15 Z a v9 h0 n0) rRrm15.cells rRrm15.slots T1 (mkF m 4 #[rv a] [(.int v9)])
  refine own_retI X1 hx hlk Bd.returns (hb hby d15_4) (by decide) (by decide) ?_
  show Q15 Z a v9 h0 n0 (some (.int v9)) T1.heap _
  rw [e1]
  exact ⟨rfl, N0, rfl⟩
abbrev rRrm16 : Room := { frames := 0, cells := 0, slots := 0, locals := 0 }
theorem d16_0 : decode prog_20_method_9_code 0 = .ok (.aload_n 0, 1) := by decide +kernel
theorem d16_1 : decode prog_20_method_9_code 1 = .ok (.getfield 22, 3) := by decide +kernel
theorem d16_4 : decode prog_20_method_9_code 4 = .ok (.areturn, 1) := by decide +kernel
theorem pn_rm16 : plainFor (⟨"com/example/treepass/treepass/FrameReport", "dirty", "()Lcom/example/treepass/treepass/Rect;"⟩ : MethodName) = true := by first | exact plainFor_of_name (by first | (simp [plainName, overriddenIn]; done) | decide +kernel) | decide +kernel
theorem ef_rm16 (m : MethodId) (a : Addr) : entryFrame m #[(.ref a)] 1 = (mkF m 0 #[rv a] []) := by first | (simp [entryFrame, mkF, argsToLocals, Value.category]; done) | rfl
def Q16 (Z : State) (a : Addr) (v9 : Addr) (h0 : Heap) (n0 : Nat) (v_ : Option Value) (h_ : Heap) (L_ : List Loc) : Prop := (v_ = some (.ref v9)) ∧ (Fr n0 L_) ∧ (h_ = h0)
set_option maxRecDepth 65536 in
set_option maxHeartbeats 40000000 in
theorem rm16 (l : Launch) (Z : State) (a0 : Array Value) (hw : ∀ d ∈ tables_1, d.before a0 Z = true) (ws : List Jvm.Cond) (a : Addr) (v9 : Addr) (h0 : Heap) (n0 : Nat) (Z0 : n0 ≤ h0.size) (p_0 : Fld Z h0 a "com/example/treepass/treepass/FrameReport" "dirty" "Lcom/example/treepass/treepass/Rect;" (.ref v9)) :
    MetFree l (⟨"com/example/treepass/treepass/FrameReport", "dirty", "()Lcom/example/treepass/treepass/Rect;"⟩ : MethodName) (head1 (Jvm.Cond.code (⟨"com/example/treepass/treepass/FrameReport", "dirty", "()Lcom/example/treepass/treepass/Rect;"⟩ : MethodName) prog_20_method_9_code 1 (some (.object "com/example/treepass/treepass/Rect")) :: ws) rRrm16) (fun a_ U_ => a_ = #[(.ref a)] ∧ Z.Warmed39 U_.vm ∧ U_.heap = h0) (fun _ _ _ _ _ => True) (fun _ U_ o_ U1_ => ∃ v_ L_, o_ = .returned v_ ∧ Q16 Z a v9 h0 n0 v_ U1_.heap L_ ∧ FrameEnd U_ o_ U1_ L_ rRrm16.cells rRrm16.slots) := by
  refine MetFree.of_bodySF pn_rm16 hisR ?_
  intro p e s m args below meth c s₁ Bd hml0 hP hK
  obtain ⟨rfl, hZ, hh⟩ := hP
  have hx := Bd.exec
  have hby := Bd.bytes
  have hlk : meth.locks = false := Bd.notSynchronized
  have hml : c.maxLocals = 1 := hml0
  have hown : s.vm.findClass "com/example/treepass/treepass/FrameReport" = some m.cls := findClass_of_methodNamed Bd.named
  have hnm := (name_of_methodNamed Bd.named Bd.method).1
  have X0 : Stand p l e rRrm16 s m #[(.ref a)] below meth c s₁ [] 0 0 := Stand.of_body Bd
  have e0 : s₁.heap = h0 := by rw [← hh, Bd.state]; rfl
  have N0 := Fr.nil n0
  show own_Goes p e below s (Q16 Z a v9 h0 n0) rRrm16.cells rRrm16.slots s₁ (entryFrame m #[(.ref a)] 1)
  rw [ef_rm16 m a]
  show own_Goes p e below s (Q16 Z a v9 h0 n0) rRrm16.cells rRrm16.slots s₁ (mkF m 0 #[rv a] [])
  refine own_st (fun _ kk_ => XS.aloadN X0.here hx rfl (hb hby d16_0) rfl rfl kk_) ?_
  show own_Goes p e below s (Q16 Z a v9 h0 n0) rRrm16.cells rRrm16.slots s₁ (mkF m 1 #[rv a] [(.ref a)])
  obtain ⟨T1, X1, e1, st1⟩ := getF X0 hx hZ hown (host := "") (Or.inl (hw _ (List.mem_of_getElem? (i := 92) rfl))) Via.refl e0 p_0 (g := (mkF m 1 #[rv a] [(.ref a)])) rfl rfl (hb hby d16_1)
  refine own_st st1 ?_
  show own_Goes p e below s (Q16 Z a v9 h0 n0) rRrm16.cells rRrm16.slots T1 (mkF m 4 #[rv a] [(.ref v9)])
  refine own_retA X1 hx hlk rfl Bd.returns rfl (hb hby d16_4) (by decide) (by decide) ?_
  show Q16 Z a v9 h0 n0 (some (.ref v9)) T1.heap _
  rw [e1]
  exact ⟨rfl, N0, rfl⟩
abbrev rRrm17 : Room := { frames := 0, cells := 0, slots := 0, locals := 0 }
theorem d17_0 : decode prog_50_method_7_code 0 = .ok (.aload_n 0, 1) := by decide +kernel
theorem d17_1 : decode prog_50_method_7_code 1 = .ok (.getfield 7, 3) := by decide +kernel
theorem d17_4 : decode prog_50_method_7_code 4 = .ok (.ireturn, 1) := by decide +kernel
theorem pn_rm17 : plainFor (⟨"com/example/treepass/treepass/Rect", "left", "()I"⟩ : MethodName) = true := by first | exact plainFor_of_name (by first | (simp [plainName, overriddenIn]; done) | decide +kernel) | decide +kernel
theorem ef_rm17 (m : MethodId) (a : Addr) : entryFrame m #[(.ref a)] 1 = (mkF m 0 #[rv a] []) := by first | (simp [entryFrame, mkF, argsToLocals, Value.category]; done) | rfl
def Q17 (Z : State) (a : Addr) (v9 : Int32) (h0 : Heap) (n0 : Nat) (v_ : Option Value) (h_ : Heap) (L_ : List Loc) : Prop := (v_ = some (.int v9)) ∧ (Fr n0 L_) ∧ (h_ = h0)
set_option maxRecDepth 65536 in
set_option maxHeartbeats 40000000 in
theorem rm17 (l : Launch) (Z : State) (a0 : Array Value) (hw : ∀ d ∈ tables_1, d.before a0 Z = true) (ws : List Jvm.Cond) (a : Addr) (v9 : Int32) (h0 : Heap) (n0 : Nat) (Z0 : n0 ≤ h0.size) (p_0 : Fld Z h0 a "com/example/treepass/treepass/Rect" "left" "I" (.int v9)) :
    MetFree l (⟨"com/example/treepass/treepass/Rect", "left", "()I"⟩ : MethodName) (head1 (Jvm.Cond.code (⟨"com/example/treepass/treepass/Rect", "left", "()I"⟩ : MethodName) prog_50_method_7_code 1 (some .int) :: ws) rRrm17) (fun a_ U_ => a_ = #[(.ref a)] ∧ Z.Warmed39 U_.vm ∧ U_.heap = h0) (fun _ _ _ _ _ => True) (fun _ U_ o_ U1_ => ∃ v_ L_, o_ = .returned v_ ∧ Q17 Z a v9 h0 n0 v_ U1_.heap L_ ∧ FrameEnd U_ o_ U1_ L_ rRrm17.cells rRrm17.slots) := by
  refine MetFree.of_bodySF pn_rm17 hisR ?_
  intro p e s m args below meth c s₁ Bd hml0 hP hK
  obtain ⟨rfl, hZ, hh⟩ := hP
  have hx := Bd.exec
  have hby := Bd.bytes
  have hlk : meth.locks = false := Bd.notSynchronized
  have hml : c.maxLocals = 1 := hml0
  have hown : s.vm.findClass "com/example/treepass/treepass/Rect" = some m.cls := findClass_of_methodNamed Bd.named
  have hnm := (name_of_methodNamed Bd.named Bd.method).1
  have X0 : Stand p l e rRrm17 s m #[(.ref a)] below meth c s₁ [] 0 0 := Stand.of_body Bd
  have e0 : s₁.heap = h0 := by rw [← hh, Bd.state]; rfl
  have N0 := Fr.nil n0
  show own_Goes p e below s (Q17 Z a v9 h0 n0) rRrm17.cells rRrm17.slots s₁ (entryFrame m #[(.ref a)] 1)
  rw [ef_rm17 m a]
  show own_Goes p e below s (Q17 Z a v9 h0 n0) rRrm17.cells rRrm17.slots s₁ (mkF m 0 #[rv a] [])
  refine own_st (fun _ kk_ => XS.aloadN X0.here hx rfl (hb hby d17_0) rfl rfl kk_) ?_
  show own_Goes p e below s (Q17 Z a v9 h0 n0) rRrm17.cells rRrm17.slots s₁ (mkF m 1 #[rv a] [(.ref a)])
  obtain ⟨T1, X1, e1, st1⟩ := getF X0 hx hZ hown (host := "") (Or.inl (hw _ (List.mem_of_getElem? (i := 44) rfl))) Via.refl e0 p_0 (g := (mkF m 1 #[rv a] [(.ref a)])) rfl rfl (hb hby d17_1)
  refine own_st st1 ?_
  show own_Goes p e below s (Q17 Z a v9 h0 n0) rRrm17.cells rRrm17.slots T1 (mkF m 4 #[rv a] [(.int v9)])
  refine own_retI X1 hx hlk Bd.returns (hb hby d17_4) (by decide) (by decide) ?_
  show Q17 Z a v9 h0 n0 (some (.int v9)) T1.heap _
  rw [e1]
  exact ⟨rfl, N0, rfl⟩
abbrev rRrm18 : Room := { frames := 0, cells := 0, slots := 0, locals := 0 }
theorem d18_0 : decode prog_50_method_8_code 0 = .ok (.aload_n 0, 1) := by decide +kernel
theorem d18_1 : decode prog_50_method_8_code 1 = .ok (.getfield 13, 3) := by decide +kernel
theorem d18_4 : decode prog_50_method_8_code 4 = .ok (.ireturn, 1) := by decide +kernel
theorem pn_rm18 : plainFor (⟨"com/example/treepass/treepass/Rect", "top", "()I"⟩ : MethodName) = true := by first | exact plainFor_of_name (by first | (simp [plainName, overriddenIn]; done) | decide +kernel) | decide +kernel
theorem ef_rm18 (m : MethodId) (a : Addr) : entryFrame m #[(.ref a)] 1 = (mkF m 0 #[rv a] []) := by first | (simp [entryFrame, mkF, argsToLocals, Value.category]; done) | rfl
def Q18 (Z : State) (a : Addr) (v9 : Int32) (h0 : Heap) (n0 : Nat) (v_ : Option Value) (h_ : Heap) (L_ : List Loc) : Prop := (v_ = some (.int v9)) ∧ (Fr n0 L_) ∧ (h_ = h0)
set_option maxRecDepth 65536 in
set_option maxHeartbeats 40000000 in
theorem rm18 (l : Launch) (Z : State) (a0 : Array Value) (hw : ∀ d ∈ tables_1, d.before a0 Z = true) (ws : List Jvm.Cond) (a : Addr) (v9 : Int32) (h0 : Heap) (n0 : Nat) (Z0 : n0 ≤ h0.size) (p_0 : Fld Z h0 a "com/example/treepass/treepass/Rect" "top" "I" (.int v9)) :
    MetFree l (⟨"com/example/treepass/treepass/Rect", "top", "()I"⟩ : MethodName) (head1 (Jvm.Cond.code (⟨"com/example/treepass/treepass/Rect", "top", "()I"⟩ : MethodName) prog_50_method_8_code 1 (some .int) :: ws) rRrm18) (fun a_ U_ => a_ = #[(.ref a)] ∧ Z.Warmed39 U_.vm ∧ U_.heap = h0) (fun _ _ _ _ _ => True) (fun _ U_ o_ U1_ => ∃ v_ L_, o_ = .returned v_ ∧ Q18 Z a v9 h0 n0 v_ U1_.heap L_ ∧ FrameEnd U_ o_ U1_ L_ rRrm18.cells rRrm18.slots) := by
  refine MetFree.of_bodySF pn_rm18 hisR ?_
  intro p e s m args below meth c s₁ Bd hml0 hP hK
  obtain ⟨rfl, hZ, hh⟩ := hP
  have hx := Bd.exec
  have hby := Bd.bytes
  have hlk : meth.locks = false := Bd.notSynchronized
  have hml : c.maxLocals = 1 := hml0
  have hown : s.vm.findClass "com/example/treepass/treepass/Rect" = some m.cls := findClass_of_methodNamed Bd.named
  have hnm := (name_of_methodNamed Bd.named Bd.method).1
  have X0 : Stand p l e rRrm18 s m #[(.ref a)] below meth c s₁ [] 0 0 := Stand.of_body Bd
  have e0 : s₁.heap = h0 := by rw [← hh, Bd.state]; rfl
  have N0 := Fr.nil n0
  show own_Goes p e below s (Q18 Z a v9 h0 n0) rRrm18.cells rRrm18.slots s₁ (entryFrame m #[(.ref a)] 1)
  rw [ef_rm18 m a]
  show own_Goes p e below s (Q18 Z a v9 h0 n0) rRrm18.cells rRrm18.slots s₁ (mkF m 0 #[rv a] [])
  refine own_st (fun _ kk_ => XS.aloadN X0.here hx rfl (hb hby d18_0) rfl rfl kk_) ?_
  show own_Goes p e below s (Q18 Z a v9 h0 n0) rRrm18.cells rRrm18.slots s₁ (mkF m 1 #[rv a] [(.ref a)])
  obtain ⟨T1, X1, e1, st1⟩ := getF X0 hx hZ hown (host := "") (Or.inl (hw _ (List.mem_of_getElem? (i := 46) rfl))) Via.refl e0 p_0 (g := (mkF m 1 #[rv a] [(.ref a)])) rfl rfl (hb hby d18_1)
  refine own_st st1 ?_
  show own_Goes p e below s (Q18 Z a v9 h0 n0) rRrm18.cells rRrm18.slots T1 (mkF m 4 #[rv a] [(.int v9)])
  refine own_retI X1 hx hlk Bd.returns (hb hby d18_4) (by decide) (by decide) ?_
  show Q18 Z a v9 h0 n0 (some (.int v9)) T1.heap _
  rw [e1]
  exact ⟨rfl, N0, rfl⟩
abbrev rRrm19 : Room := { frames := 0, cells := 0, slots := 0, locals := 0 }
theorem d19_0 : decode prog_50_method_9_code 0 = .ok (.aload_n 0, 1) := by decide +kernel
theorem d19_1 : decode prog_50_method_9_code 1 = .ok (.getfield 16, 3) := by decide +kernel
theorem d19_4 : decode prog_50_method_9_code 4 = .ok (.ireturn, 1) := by decide +kernel
theorem pn_rm19 : plainFor (⟨"com/example/treepass/treepass/Rect", "right", "()I"⟩ : MethodName) = true := by first | exact plainFor_of_name (by first | (simp [plainName, overriddenIn]; done) | decide +kernel) | decide +kernel
theorem ef_rm19 (m : MethodId) (a : Addr) : entryFrame m #[(.ref a)] 1 = (mkF m 0 #[rv a] []) := by first | (simp [entryFrame, mkF, argsToLocals, Value.category]; done) | rfl
def Q19 (Z : State) (a : Addr) (v9 : Int32) (h0 : Heap) (n0 : Nat) (v_ : Option Value) (h_ : Heap) (L_ : List Loc) : Prop := (v_ = some (.int v9)) ∧ (Fr n0 L_) ∧ (h_ = h0)
set_option maxRecDepth 65536 in
set_option maxHeartbeats 40000000 in
theorem rm19 (l : Launch) (Z : State) (a0 : Array Value) (hw : ∀ d ∈ tables_1, d.before a0 Z = true) (ws : List Jvm.Cond) (a : Addr) (v9 : Int32) (h0 : Heap) (n0 : Nat) (Z0 : n0 ≤ h0.size) (p_0 : Fld Z h0 a "com/example/treepass/treepass/Rect" "right" "I" (.int v9)) :
    MetFree l (⟨"com/example/treepass/treepass/Rect", "right", "()I"⟩ : MethodName) (head1 (Jvm.Cond.code (⟨"com/example/treepass/treepass/Rect", "right", "()I"⟩ : MethodName) prog_50_method_9_code 1 (some .int) :: ws) rRrm19) (fun a_ U_ => a_ = #[(.ref a)] ∧ Z.Warmed39 U_.vm ∧ U_.heap = h0) (fun _ _ _ _ _ => True) (fun _ U_ o_ U1_ => ∃ v_ L_, o_ = .returned v_ ∧ Q19 Z a v9 h0 n0 v_ U1_.heap L_ ∧ FrameEnd U_ o_ U1_ L_ rRrm19.cells rRrm19.slots) := by
  refine MetFree.of_bodySF pn_rm19 hisR ?_
  intro p e s m args below meth c s₁ Bd hml0 hP hK
  obtain ⟨rfl, hZ, hh⟩ := hP
  have hx := Bd.exec
  have hby := Bd.bytes
  have hlk : meth.locks = false := Bd.notSynchronized
  have hml : c.maxLocals = 1 := hml0
  have hown : s.vm.findClass "com/example/treepass/treepass/Rect" = some m.cls := findClass_of_methodNamed Bd.named
  have hnm := (name_of_methodNamed Bd.named Bd.method).1
  have X0 : Stand p l e rRrm19 s m #[(.ref a)] below meth c s₁ [] 0 0 := Stand.of_body Bd
  have e0 : s₁.heap = h0 := by rw [← hh, Bd.state]; rfl
  have N0 := Fr.nil n0
  show own_Goes p e below s (Q19 Z a v9 h0 n0) rRrm19.cells rRrm19.slots s₁ (entryFrame m #[(.ref a)] 1)
  rw [ef_rm19 m a]
  show own_Goes p e below s (Q19 Z a v9 h0 n0) rRrm19.cells rRrm19.slots s₁ (mkF m 0 #[rv a] [])
  refine own_st (fun _ kk_ => XS.aloadN X0.here hx rfl (hb hby d19_0) rfl rfl kk_) ?_
  show own_Goes p e below s (Q19 Z a v9 h0 n0) rRrm19.cells rRrm19.slots s₁ (mkF m 1 #[rv a] [(.ref a)])
  obtain ⟨T1, X1, e1, st1⟩ := getF X0 hx hZ hown (host := "") (Or.inl (hw _ (List.mem_of_getElem? (i := 48) rfl))) Via.refl e0 p_0 (g := (mkF m 1 #[rv a] [(.ref a)])) rfl rfl (hb hby d19_1)
  refine own_st st1 ?_
  show own_Goes p e below s (Q19 Z a v9 h0 n0) rRrm19.cells rRrm19.slots T1 (mkF m 4 #[rv a] [(.int v9)])
  refine own_retI X1 hx hlk Bd.returns (hb hby d19_4) (by decide) (by decide) ?_
  show Q19 Z a v9 h0 n0 (some (.int v9)) T1.heap _
  rw [e1]
  exact ⟨rfl, N0, rfl⟩
abbrev rRrm20 : Room := { frames := 0, cells := 0, slots := 0, locals := 0 }
theorem d20_0 : decode prog_50_method_10_code 0 = .ok (.aload_n 0, 1) := by decide +kernel
theorem d20_1 : decode prog_50_method_10_code 1 = .ok (.getfield 19, 3) := by decide +kernel
theorem d20_4 : decode prog_50_method_10_code 4 = .ok (.ireturn, 1) := by decide +kernel
theorem pn_rm20 : plainFor (⟨"com/example/treepass/treepass/Rect", "bottom", "()I"⟩ : MethodName) = true := by first | exact plainFor_of_name (by first | (simp [plainName, overriddenIn]; done) | decide +kernel) | decide +kernel
theorem ef_rm20 (m : MethodId) (a : Addr) : entryFrame m #[(.ref a)] 1 = (mkF m 0 #[rv a] []) := by first | (simp [entryFrame, mkF, argsToLocals, Value.category]; done) | rfl
def Q20 (Z : State) (a : Addr) (v9 : Int32) (h0 : Heap) (n0 : Nat) (v_ : Option Value) (h_ : Heap) (L_ : List Loc) : Prop := (v_ = some (.int v9)) ∧ (Fr n0 L_) ∧ (h_ = h0)
set_option maxRecDepth 65536 in
set_option maxHeartbeats 40000000 in
theorem rm20 (l : Launch) (Z : State) (a0 : Array Value) (hw : ∀ d ∈ tables_1, d.before a0 Z = true) (ws : List Jvm.Cond) (a : Addr) (v9 : Int32) (h0 : Heap) (n0 : Nat) (Z0 : n0 ≤ h0.size) (p_0 : Fld Z h0 a "com/example/treepass/treepass/Rect" "bottom" "I" (.int v9)) :
    MetFree l (⟨"com/example/treepass/treepass/Rect", "bottom", "()I"⟩ : MethodName) (head1 (Jvm.Cond.code (⟨"com/example/treepass/treepass/Rect", "bottom", "()I"⟩ : MethodName) prog_50_method_10_code 1 (some .int) :: ws) rRrm20) (fun a_ U_ => a_ = #[(.ref a)] ∧ Z.Warmed39 U_.vm ∧ U_.heap = h0) (fun _ _ _ _ _ => True) (fun _ U_ o_ U1_ => ∃ v_ L_, o_ = .returned v_ ∧ Q20 Z a v9 h0 n0 v_ U1_.heap L_ ∧ FrameEnd U_ o_ U1_ L_ rRrm20.cells rRrm20.slots) := by
  refine MetFree.of_bodySF pn_rm20 hisR ?_
  intro p e s m args below meth c s₁ Bd hml0 hP hK
  obtain ⟨rfl, hZ, hh⟩ := hP
  have hx := Bd.exec
  have hby := Bd.bytes
  have hlk : meth.locks = false := Bd.notSynchronized
  have hml : c.maxLocals = 1 := hml0
  have hown : s.vm.findClass "com/example/treepass/treepass/Rect" = some m.cls := findClass_of_methodNamed Bd.named
  have hnm := (name_of_methodNamed Bd.named Bd.method).1
  have X0 : Stand p l e rRrm20 s m #[(.ref a)] below meth c s₁ [] 0 0 := Stand.of_body Bd
  have e0 : s₁.heap = h0 := by rw [← hh, Bd.state]; rfl
  have N0 := Fr.nil n0
  show own_Goes p e below s (Q20 Z a v9 h0 n0) rRrm20.cells rRrm20.slots s₁ (entryFrame m #[(.ref a)] 1)
  rw [ef_rm20 m a]
  show own_Goes p e below s (Q20 Z a v9 h0 n0) rRrm20.cells rRrm20.slots s₁ (mkF m 0 #[rv a] [])
  refine own_st (fun _ kk_ => XS.aloadN X0.here hx rfl (hb hby d20_0) rfl rfl kk_) ?_
  show own_Goes p e below s (Q20 Z a v9 h0 n0) rRrm20.cells rRrm20.slots s₁ (mkF m 1 #[rv a] [(.ref a)])
  obtain ⟨T1, X1, e1, st1⟩ := getF X0 hx hZ hown (host := "") (Or.inl (hw _ (List.mem_of_getElem? (i := 50) rfl))) Via.refl e0 p_0 (g := (mkF m 1 #[rv a] [(.ref a)])) rfl rfl (hb hby d20_1)
  refine own_st st1 ?_
  show own_Goes p e below s (Q20 Z a v9 h0 n0) rRrm20.cells rRrm20.slots T1 (mkF m 4 #[rv a] [(.int v9)])
  refine own_retI X1 hx hlk Bd.returns (hb hby d20_4) (by decide) (by decide) ?_
  show Q20 Z a v9 h0 n0 (some (.int v9)) T1.heap _
  rw [e1]
  exact ⟨rfl, N0, rfl⟩
theorem own_bit (x : Int32) : x &&& 1 = 0 ∨ x &&& 1 = 1 := and_one x
theorem own_in {x : Int32} (h : ¬ (x &&& 1) = 1) : (0 : Int32) = x &&& 1 := (own_bit x).elim (fun e => e.symm) (fun e => absurd e h)
theorem pd_3 : parseMethodDescriptor "(II)V" = some ⟨[.int, .int], none⟩ := by decide +kernel
theorem pd_4 : parseMethodDescriptor "(ILcom/example/treepass/treepass/Rect;)Lcom/example/treepass/treepass/FrameReport;" = some ⟨[.int, (.object "com/example/treepass/treepass/Rect")], some (.object "com/example/treepass/treepass/FrameReport")⟩ := by decide +kernel
theorem pd_5 : parseMethodDescriptor "()Lcom/example/treepass/treepass/Rect;" = some ⟨[], some (.object "com/example/treepass/treepass/Rect")⟩ := by decide +kernel
theorem pd_6 : parseMethodDescriptor "()I" = some ⟨[], some .int⟩ := by decide +kernel
theorem pn_rm0 : plainFor x = true := by first | exact plainFor_of_name (by first | (simp [plainName, overriddenIn]; done) | decide +kernel) | decide +kernel
theorem ef_rm0 (m : MethodId) (w : Int32) (hgt : Int32) (fl : Int32) (ps : Int32) : entryFrame m #[(.int w), (.int hgt), (.int fl), (.int ps)] maxLocals = (mkF m 0 #[iv w, iv hgt, iv fl, iv ps, .unset, .unset, .unset, .unset, .unset, .unset] []) := by first | (simp [entryFrame, mkF, argsToLocals, Value.category, maxLocals]; done) | rfl
def Q0 (Z : State) (w : Int32) (hgt : Int32) (fl : Int32) (ps : Int32) (e9 : Addr) (h0 : Heap) (n0 : Nat) (v_ : Option Value) (h_ : Heap) (L_ : List Loc) : Prop := (v_ = some (.int (1 : Int32))) ∧ (Fr n0 L_)
set_option maxRecDepth 65536 in
set_option maxHeartbeats 40000000 in
theorem rm0 (l : Launch) (Z : State) (a0 : Array Value) (hw : ∀ d ∈ tables_1, d.before a0 Z = true) (ws : List Jvm.Cond) (w : Int32) (hgt : Int32) (fl : Int32) (ps : Int32) (e9 : Addr) (h0 : Heap) (n0 : Nat) (Z0 : n0 ≤ h0.size) (p_0 : Sta Z h0 "com/example/treepass/treepass/Rect" "EMPTY" "Lcom/example/treepass/treepass/Rect;" (.ref e9)) :
    MetFree l x (head1 (Jvm.Cond.code x code maxLocals ret :: ws) room_1) (fun a_ U_ => a_ = #[(.int w), (.int hgt), (.int fl), (.int ps)] ∧ Z.Warmed39 U_.vm ∧ U_.heap = h0) (fun _ _ _ _ _ => True) (fun _ U_ o_ U1_ => ∃ v_ L_, o_ = .returned v_ ∧ Q0 Z w hgt fl ps e9 h0 n0 v_ U1_.heap L_ ∧ FrameEnd U_ o_ U1_ L_ 24 192) := by
  refine MetFree.of_bodySF pn_rm0 hisR ?_
  intro p e s m args below meth c s₁ Bd hml0 hP hK
  obtain ⟨rfl, hZ, hh⟩ := hP
  have hx := Bd.exec
  have hby := Bd.bytes
  have hlk : meth.locks = false := Bd.notSynchronized
  have hml : c.maxLocals = 10 := hml0
  have hown : s.vm.findClass "com/example/treepass/treepass/FrameStateBeginFramePinLaw" = some m.cls := findClass_of_methodNamed Bd.named
  have hnm := (name_of_methodNamed Bd.named Bd.method).1
  have X0 : Stand p l e room_1 s m #[(.int w), (.int hgt), (.int fl), (.int ps)] below meth c s₁ [] 0 0 := Stand.of_body Bd
  have e0 : s₁.heap = h0 := by rw [← hh, Bd.state]; rfl
  have N0 := Fr.nil n0
  show own_Goes p e below s (Q0 Z w hgt fl ps e9 h0 n0) 24 192 s₁ (entryFrame m #[(.int w), (.int hgt), (.int fl), (.int ps)] maxLocals)
  rw [ef_rm0 m w hgt fl ps]
  show own_Goes p e below s (Q0 Z w hgt fl ps e9 h0 n0) 24 192 s₁ (mkF m 0 #[iv w, iv hgt, iv fl, iv ps, .unset, .unset, .unset, .unset, .unset, .unset] [])
  obtain ⟨T1, h1, X1, e1, E1, A1, D1, -, st1⟩ := newO X0 hx hZ hown (hw _ (List.mem_of_getElem? (i := 0) rfl)) (hw _ (List.mem_of_getElem? (i := 1) rfl)) (hw _ (List.mem_of_getElem? (i := 2) rfl)) e0 (g := (mkF m 0 #[iv w, iv hgt, iv fl, iv ps, .unset, .unset, .unset, .unset, .unset, .unset] [])) rfl (hb hby at_0) (by decide) (by decide)
  obtain ⟨b1, gx1⟩ : ∃ z, z = h0.size := ⟨_, rfl⟩
  rw [← gx1] at A1 D1 st1
  have gg1 : n0 ≤ b1 := Nat.le_trans Z0 (Nat.le_of_eq gx1.symm)
  have f1_0 := p_0.ext E1
  have Zs1 : n0 ≤ h1.size := Nat.le_trans Z0 E1.1
  have fn1_posted : Fld Z h1 b1 "com/example/treepass/treepass/FrameState" "posted" "Ljava/util/Deque;" .null := D1 (Or.inr (hw _ (List.mem_of_getElem? (i := 27) rfl))) (ty := (.object "java/util/Deque")) (by decide)
  have fn1_windowWidth : Fld Z h1 b1 "com/example/treepass/treepass/FrameState" "windowWidth" "I" (.int (0 : Int32)) := D1 (Or.inr (hw _ (List.mem_of_getElem? (i := 29) rfl))) (ty := .int) (by decide)
  have fn1_windowHeight : Fld Z h1 b1 "com/example/treepass/treepass/FrameState" "windowHeight" "I" (.int (0 : Int32)) := D1 (Or.inr (hw _ (List.mem_of_getElem? (i := 31) rfl))) (ty := .int) (by decide)
  have fn1_dirty : Fld Z h1 b1 "com/example/treepass/treepass/FrameState" "dirty" "Lcom/example/treepass/treepass/Rect;" .null := D1 (Or.inl (hw _ (List.mem_of_getElem? (i := 53) rfl))) (ty := (.object "com/example/treepass/treepass/Rect")) (by decide)
  have fn1_laidOut : Fld Z h1 b1 "com/example/treepass/treepass/FrameState" "laidOut" "I" (.int (0 : Int32)) := D1 (Or.inl (hw _ (List.mem_of_getElem? (i := 60) rfl))) (ty := .int) (by decide)
  have fn1_measured : Fld Z h1 b1 "com/example/treepass/treepass/FrameState" "measured" "I" (.int (0 : Int32)) := D1 (Or.inl (hw _ (List.mem_of_getElem? (i := 67) rfl))) (ty := .int) (by decide)
  have fn1_drawn : Fld Z h1 b1 "com/example/treepass/treepass/FrameState" "drawn" "I" (.int (0 : Int32)) := D1 (Or.inl (hw _ (List.mem_of_getElem? (i := 69) rfl))) (ty := .int) (by decide)
  refine own_st st1 ?_
  show own_Goes p e below s (Q0 Z w hgt fl ps e9 h0 n0) 24 192 T1 (mkF m 3 #[iv w, iv hgt, iv fl, iv ps, .unset, .unset, .unset, .unset, .unset, .unset] [(.ref b1)])
  refine own_st (fun _ kk_ => XS.dup X1.here hx rfl (hb hby at_3) rfl rfl (XS.iloadN X1.here hx rfl (hb hby at_4) rfl (XS.iloadN X1.here hx rfl (hb hby at_5) rfl kk_))) ?_
  show own_Goes p e below s (Q0 Z w hgt fl ps e9 h0 n0) 24 192 T1 (mkF m 6 #[iv w, iv hgt, iv fl, iv ps, .unset, .unset, .unset, .unset, .unset, .unset] [(.int hgt), (.int w), (.ref b1), (.ref b1)])
  obtain ⟨_, _, ⟨T2, L2, k2, n2⟩, -, X2, ⟨Lc2, hQ2, l2, y2, z2⟩, st2⟩ := X1.specialBack hx (y := (⟨"com/example/treepass/treepass/FrameState", "<init>", "(II)V"⟩ : MethodName)) rfl hown (mvT hZ (hw _ (List.mem_of_getElem? (i := 3) rfl))) (mvT hZ (hw _ (List.mem_of_getElem? (i := 4) rfl))) (mvT hZ (hw _ (List.mem_of_getElem? (i := 5) rfl))) (by decide) (backOf (W := 1) (rm1 l Z a0 hw [] (b1) (w) (hgt) h1 n0 Zs1 A1 fn1_posted fn1_windowWidth fn1_windowHeight fn1_dirty fn1_measured fn1_laidOut fn1_drawn gg1) hZ (hw _ (List.mem_of_getElem? (i := 5) rfl)) (hw _ (List.mem_of_getElem? (i := 2) rfl)) (by decide) (by decide)) (g := (mkF m 6 #[iv w, iv hgt, iv fl, iv ps, .unset, .unset, .unset, .unset, .unset, .unset] [(.int hgt), (.int w), (.ref b1), (.ref b1)])) rfl (by rw [hml]; rfl) (Steps.refl _) (a := b1) (argsL := [(.int w), (.int hgt)]) (rest := [(.ref b1)]) (lenOf pd_3 rfl) rfl (by show 2 * 0 + _ ≤ _; exact Nat.le_of_eq rfl) (hb hby at_6) (fun _ _ => ⟨rfl, e1, (by decide : 1 + 3 ≤ _), (by decide : 7 + 24 ≤ _)⟩)
  dsimp only [Pt.U, Pt.locs, Pt.cells, Pt.slots] at X2 l2 y2 z2 st2 hQ2
  subst l2 y2 z2
  obtain ⟨x2_r, rfl, Nq2, Kq2, u2_0, u2_1, u2_2, u2_3, u2_4, u2_5, u2_6, u2_7, u2_8, u2_9⟩ := hQ2
  have N2 := Fr.app N0 Nq2
  have f2_0 := own_Sta_keep f1_0 Kq2 (nsS A1.nostat ns0)
  have f2_1 := A1.keep Kq2
  have Zs2 : n0 ≤ T2.heap.size := Nat.le_trans Zs1 Kq2.1
  have ne2_b1 : b1 ≠ x2_r := Nat.ne_of_lt (Nat.lt_of_lt_of_le A1.lt u2_0)
  have gg2_r : n0 ≤ x2_r := Nat.le_trans Zs1 u2_0
  refine own_st (fun _ kk_ => st2.trans kk_) ?_
  show own_Goes p e below s (Q0 Z w hgt fl ps e9 h0 n0) 24 192 T2 (mkF m 9 #[iv w, iv hgt, iv fl, iv ps, .unset, .unset, .unset, .unset, .unset, .unset] [(.ref b1)])
  refine own_st (fun _ kk_ => XS.astore X2.here hx rfl (hb hby at_9) rfl rfl (l' := #[iv w, iv hgt, iv fl, iv ps, rv b1, .unset, .unset, .unset, .unset, .unset]) rfl (XS.iloadN X2.here hx rfl (hb hby at_11) rfl (XS.iconst X2.here hx rfl (hb hby at_12) (XS.iand X2.here hx rfl (hb hby at_13) rfl kk_)))) ?_
  show own_Goes p e below s (Q0 Z w hgt fl ps e9 h0 n0) 24 192 T2 (mkF m 14 #[iv w, iv hgt, iv fl, iv ps, rv b1, .unset, .unset, .unset, .unset, .unset] [(.int (fl &&& (1 : Int32)))])
  have J22 : ∀ (T3 : State) (L3 : List Loc) (h3 : Heap) (m1 : Int32) (l1 : Int32) (d1 : Int32), Stand p l e room_1 s m #[(.int w), (.int hgt), (.int fl), (.int ps)] below meth c T3 L3 4 31 → T3.heap = h3 → Fr n0 L3 → n0 ≤ h3.size → Sta Z h3 "com/example/treepass/treepass/Rect" "EMPTY" "Lcom/example/treepass/treepass/Rect;" (.ref e9) → Exa Z h3 b1 "com/example/treepass/treepass/FrameState" → Fld Z h3 b1 "com/example/treepass/treepass/FrameState" "measured" "I" (.int m1) → Fld Z h3 b1 "com/example/treepass/treepass/FrameState" "laidOut" "I" (.int l1) → Fld Z h3 b1 "com/example/treepass/treepass/FrameState" "drawn" "I" (.int d1) → Fld Z h3 b1 "com/example/treepass/treepass/FrameState" "dirty" "Lcom/example/treepass/treepass/Rect;" (.ref x2_r) → Exa Z h3 x2_r "com/example/treepass/treepass/Rect" → Fld Z h3 x2_r "com/example/treepass/treepass/Rect" "left" "I" (.int (0 : Int32)) → Fld Z h3 x2_r "com/example/treepass/treepass/Rect" "top" "I" (.int (0 : Int32)) → Fld Z h3 x2_r "com/example/treepass/treepass/Rect" "right" "I" (.int w) → Fld Z h3 x2_r "com/example/treepass/treepass/Rect" "bottom" "I" (.int hgt) → own_Goes p e below s (Q0 Z w hgt fl ps e9 h0 n0) 24 192 T3 (mkF m 22 #[iv w, iv hgt, iv fl, iv ps, rv b1, .unset, .unset, .unset, .unset, .unset] []) := by
    intro T3 L3 h3 m1 l1 d1 X3 e3 N3 Zs3 j3_0 j3_1 j3_2 j3_3 j3_4 j3_5 j3_6 j3_7 j3_8 j3_9 j3_10
    show own_Goes p e below s (Q0 Z w hgt fl ps e9 h0 n0) 24 192 T3 (mkF m 22 #[iv w, iv hgt, iv fl, iv ps, rv b1, .unset, .unset, .unset, .unset, .unset] [])
    refine own_st (fun _ kk_ => XS.iloadN X3.here hx rfl (hb hby at_22) rfl (XS.iconst X3.here hx rfl (hb hby at_23) (XS.iand X3.here hx rfl (hb hby at_24) rfl kk_))) ?_
    show own_Goes p e below s (Q0 Z w hgt fl ps e9 h0 n0) 24 192 T3 (mkF m 25 #[iv w, iv hgt, iv fl, iv ps, rv b1, .unset, .unset, .unset, .unset, .unset] [(.int (fl &&& (2 : Int32)))])
    have J33 : ∀ (T5 : State) (L5 : List Loc) (h5 : Heap) (m2 : Int32) (l2 : Int32) (d2 : Int32), Stand p l e room_1 s m #[(.int w), (.int hgt), (.int fl), (.int ps)] below meth c T5 L5 4 31 → T5.heap = h5 → Fr n0 L5 → n0 ≤ h5.size → Sta Z h5 "com/example/treepass/treepass/Rect" "EMPTY" "Lcom/example/treepass/treepass/Rect;" (.ref e9) → Exa Z h5 b1 "com/example/treepass/treepass/FrameState" → Fld Z h5 b1 "com/example/treepass/treepass/FrameState" "measured" "I" (.int m2) → Fld Z h5 b1 "com/example/treepass/treepass/FrameState" "laidOut" "I" (.int l2) → Fld Z h5 b1 "com/example/treepass/treepass/FrameState" "drawn" "I" (.int d2) → Fld Z h5 b1 "com/example/treepass/treepass/FrameState" "dirty" "Lcom/example/treepass/treepass/Rect;" (.ref x2_r) → Exa Z h5 x2_r "com/example/treepass/treepass/Rect" → Fld Z h5 x2_r "com/example/treepass/treepass/Rect" "left" "I" (.int (0 : Int32)) → Fld Z h5 x2_r "com/example/treepass/treepass/Rect" "top" "I" (.int (0 : Int32)) → Fld Z h5 x2_r "com/example/treepass/treepass/Rect" "right" "I" (.int w) → Fld Z h5 x2_r "com/example/treepass/treepass/Rect" "bottom" "I" (.int hgt) → own_Goes p e below s (Q0 Z w hgt fl ps e9 h0 n0) 24 192 T5 (mkF m 33 #[iv w, iv hgt, iv fl, iv ps, rv b1, .unset, .unset, .unset, .unset, .unset] []) := by
      intro T5 L5 h5 m2 l2 d2 X5 e5 N5 Zs5 j5_0 j5_1 j5_2 j5_3 j5_4 j5_5 j5_6 j5_7 j5_8 j5_9 j5_10
      show own_Goes p e below s (Q0 Z w hgt fl ps e9 h0 n0) 24 192 T5 (mkF m 33 #[iv w, iv hgt, iv fl, iv ps, rv b1, .unset, .unset, .unset, .unset, .unset] [])
      refine own_st (fun _ kk_ => XS.iloadN X5.here hx rfl (hb hby at_33) rfl (XS.iconst X5.here hx rfl (hb hby at_34) (XS.iand X5.here hx rfl (hb hby at_35) rfl kk_))) ?_
      show own_Goes p e below s (Q0 Z w hgt fl ps e9 h0 n0) 24 192 T5 (mkF m 36 #[iv w, iv hgt, iv fl, iv ps, rv b1, .unset, .unset, .unset, .unset, .unset] [(.int (fl &&& (4 : Int32)))])
      have J44 : ∀ (T7 : State) (L7 : List Loc) (h7 : Heap) (m3 : Int32) (l3 : Int32) (d3 : Int32), Stand p l e room_1 s m #[(.int w), (.int hgt), (.int fl), (.int ps)] below meth c T7 L7 4 31 → T7.heap = h7 → Fr n0 L7 → n0 ≤ h7.size → Sta Z h7 "com/example/treepass/treepass/Rect" "EMPTY" "Lcom/example/treepass/treepass/Rect;" (.ref e9) → Exa Z h7 b1 "com/example/treepass/treepass/FrameState" → Fld Z h7 b1 "com/example/treepass/treepass/FrameState" "measured" "I" (.int m3) → Fld Z h7 b1 "com/example/treepass/treepass/FrameState" "laidOut" "I" (.int l3) → Fld Z h7 b1 "com/example/treepass/treepass/FrameState" "drawn" "I" (.int d3) → Fld Z h7 b1 "com/example/treepass/treepass/FrameState" "dirty" "Lcom/example/treepass/treepass/Rect;" (.ref x2_r) → Exa Z h7 x2_r "com/example/treepass/treepass/Rect" → Fld Z h7 x2_r "com/example/treepass/treepass/Rect" "left" "I" (.int (0 : Int32)) → Fld Z h7 x2_r "com/example/treepass/treepass/Rect" "top" "I" (.int (0 : Int32)) → Fld Z h7 x2_r "com/example/treepass/treepass/Rect" "right" "I" (.int w) → Fld Z h7 x2_r "com/example/treepass/treepass/Rect" "bottom" "I" (.int hgt) → own_Goes p e below s (Q0 Z w hgt fl ps e9 h0 n0) 24 192 T7 (mkF m 44 #[iv w, iv hgt, iv fl, iv ps, rv b1, .unset, .unset, .unset, .unset, .unset] []) := by
        intro T7 L7 h7 m3 l3 d3 X7 e7 N7 Zs7 j7_0 j7_1 j7_2 j7_3 j7_4 j7_5 j7_6 j7_7 j7_8 j7_9 j7_10
        show own_Goes p e below s (Q0 Z w hgt fl ps e9 h0 n0) 24 192 T7 (mkF m 44 #[iv w, iv hgt, iv fl, iv ps, rv b1, .unset, .unset, .unset, .unset, .unset] [])
        refine own_st (fun _ kk_ => XS.aload X7.here hx rfl (hb hby at_44) rfl rfl kk_) ?_
        show own_Goes p e below s (Q0 Z w hgt fl ps e9 h0 n0) 24 192 T7 (mkF m 46 #[iv w, iv hgt, iv fl, iv ps, rv b1, .unset, .unset, .unset, .unset, .unset] [(.ref b1)])
        obtain ⟨cq9, kq9, q9a, q9b, q9c⟩ := isOf hZ e7 j7_1
        obtain ⟨_, _, ⟨T9, L9, k9, n9⟩, -, X9, ⟨Lc9, hQ9, l9, y9, z9⟩, st9⟩ := X7.virtualBack hx (y := (⟨"com/example/treepass/treepass/FrameState", "beginFrame", "()V"⟩ : MethodName)) (z := (⟨"com/example/treepass/treepass/FrameState", "beginFrame", "()V"⟩ : MethodName)) hown (mvT hZ (hw _ (List.mem_of_getElem? (i := 61) rfl))) (mvT hZ (hw _ (List.mem_of_getElem? (i := 62) rfl))) (notFace_of_selects (args := #[]) (mvT hZ (hw _ (List.mem_of_getElem? (i := 64) rfl)))) (mvT hZ (hw _ (List.mem_of_getElem? (i := 64) rfl))) (mvT hZ (hw _ (List.mem_of_getElem? (i := 63) rfl))) (by decide) (backOf (W := 0) (rm8 l Z a0 hw [] (b1) (m3) (l3) (d3) (x2_r) h7 n0 Zs7 j7_2 j7_3 j7_4 j7_5 j7_1 gg1) hZ (hw _ (List.mem_of_getElem? (i := 65) rfl)) (hw _ (List.mem_of_getElem? (i := 2) rfl)) (by decide) (by decide)) q9a q9c (g := (mkF m 46 #[iv w, iv hgt, iv fl, iv ps, rv b1, .unset, .unset, .unset, .unset, .unset] [(.ref b1)])) rfl (by rw [hml]; rfl) (Steps.refl _) (argsL := []) (rest := []) (lenOf pd_0 rfl) rfl (by show 2 * 0 + _ ≤ _; exact Nat.le_of_eq rfl) (hb hby at_46) (fun _ _ => ⟨rfl, e7, (by decide : 4 + 0 ≤ _), (by decide : 31 + 0 ≤ _)⟩)
        dsimp only [Pt.U, Pt.locs, Pt.cells, Pt.slots] at X9 l9 y9 z9 st9 hQ9
        subst l9 y9 z9
        obtain ⟨rfl, Nq9, Kq9, u9_0, u9_1, u9_2, u9_3⟩ := hQ9
        have N9 := Fr.app N7 Nq9
        have f9_0 := own_Sta_keep j7_0 Kq9 (nsS j7_1.nostat ns0)
        have f9_1 := j7_1.keep Kq9
        have f9_6 := j7_6.keep Kq9
        have f9_7 := j7_7.keep Kq9 (ninS (Ne.symm ne2_b1) nin0)
        have f9_8 := j7_8.keep Kq9 (ninS (Ne.symm ne2_b1) nin0)
        have f9_9 := j7_9.keep Kq9 (ninS (Ne.symm ne2_b1) nin0)
        have f9_10 := j7_10.keep Kq9 (ninS (Ne.symm ne2_b1) nin0)
        have Zs9 : n0 ≤ T9.heap.size := Nat.le_trans Zs7 Kq9.1
        refine own_st (fun _ kk_ => st9.trans kk_) ?_
        show own_Goes p e below s (Q0 Z w hgt fl ps e9 h0 n0) 24 192 T9 (mkF m 49 #[iv w, iv hgt, iv fl, iv ps, rv b1, .unset, .unset, .unset, .unset, .unset] [])
        refine own_st (fun _ kk_ => XS.iloadN X9.here hx rfl (hb hby at_49) rfl (XS.bipush X9.here hx rfl (hb hby at_50) (XS.iand X9.here hx rfl (hb hby at_52) rfl kk_))) ?_
        show own_Goes p e below s (Q0 Z w hgt fl ps e9 h0 n0) 24 192 T9 (mkF m 53 #[iv w, iv hgt, iv fl, iv ps, rv b1, .unset, .unset, .unset, .unset, .unset] [(.int (fl &&& (8 : Int32)))])
        have J61 : ∀ (T10 : State) (L10 : List Loc) (h10 : Heap), Stand p l e room_1 s m #[(.int w), (.int hgt), (.int fl), (.int ps)] below meth c T10 L10 4 31 → T10.heap = h10 → Fr n0 L10 → n0 ≤ h10.size → Sta Z h10 "com/example/treepass/treepass/Rect" "EMPTY" "Lcom/example/treepass/treepass/Rect;" (.ref e9) → Exa Z h10 b1 "com/example/treepass/treepass/FrameState" → Fld Z h10 b1 "com/example/treepass/treepass/FrameState" "measured" "I" (.int (0 : Int32)) → Fld Z h10 b1 "com/example/treepass/treepass/FrameState" "laidOut" "I" (.int (0 : Int32)) → Fld Z h10 b1 "com/example/treepass/treepass/FrameState" "drawn" "I" (.int (0 : Int32)) → Fld Z h10 b1 "com/example/treepass/treepass/FrameState" "dirty" "Lcom/example/treepass/treepass/Rect;" (.ref x2_r) → Exa Z h10 x2_r "com/example/treepass/treepass/Rect" → Fld Z h10 x2_r "com/example/treepass/treepass/Rect" "left" "I" (.int (0 : Int32)) → Fld Z h10 x2_r "com/example/treepass/treepass/Rect" "top" "I" (.int (0 : Int32)) → Fld Z h10 x2_r "com/example/treepass/treepass/Rect" "right" "I" (.int w) → Fld Z h10 x2_r "com/example/treepass/treepass/Rect" "bottom" "I" (.int hgt) → own_Goes p e below s (Q0 Z w hgt fl ps e9 h0 n0) 24 192 T10 (mkF m 61 #[iv w, iv hgt, iv fl, iv ps, rv b1, .unset, .unset, .unset, .unset, .unset] []) := by
          intro T10 L10 h10 X10 e10 N10 Zs10 j10_0 j10_1 j10_2 j10_3 j10_4 j10_5 j10_6 j10_7 j10_8 j10_9 j10_10
          show own_Goes p e below s (Q0 Z w hgt fl ps e9 h0 n0) 24 192 T10 (mkF m 61 #[iv w, iv hgt, iv fl, iv ps, rv b1, .unset, .unset, .unset, .unset, .unset] [])
          refine own_st (fun _ kk_ => XS.iloadN X10.here hx rfl (hb hby at_61) rfl (XS.iconst X10.here hx rfl (hb hby at_62) (XS.ishr X10.here hx rfl (hb hby at_63) rfl (XS.iconst X10.here hx rfl (hb hby at_64) (XS.iand X10.here hx rfl (hb hby at_65) rfl (XS.istore X10.here hx rfl (hb hby at_66) rfl (l' := #[iv w, iv hgt, iv fl, iv ps, rv b1, iv ((fl >>> ((4 : Int32) &&& 31)) &&& (1 : Int32)), .unset, .unset, .unset, .unset]) rfl (XS.iloadN X10.here hx rfl (hb hby at_68) rfl (XS.iconst X10.here hx rfl (hb hby at_69) kk_)))))))) ?_
          show own_Goes p e below s (Q0 Z w hgt fl ps e9 h0 n0) 24 192 T10 (mkF m 70 #[iv w, iv hgt, iv fl, iv ps, rv b1, iv ((fl >>> ((4 : Int32) &&& 31)) &&& (1 : Int32)), .unset, .unset, .unset, .unset] [(.int (5 : Int32)), (.int fl)])
          refine own_st (fun _ kk_ => XS.ishr X10.here hx rfl (hb hby at_70) rfl (XS.iconst X10.here hx rfl (hb hby at_71) (XS.iand X10.here hx rfl (hb hby at_72) rfl (XS.istore X10.here hx rfl (hb hby at_73) rfl (l' := #[iv w, iv hgt, iv fl, iv ps, rv b1, iv ((fl >>> ((4 : Int32) &&& 31)) &&& (1 : Int32)), iv ((fl >>> ((5 : Int32) &&& 31)) &&& (1 : Int32)), .unset, .unset, .unset]) rfl (XS.iloadN X10.here hx rfl (hb hby at_75) rfl (XS.bipush X10.here hx rfl (hb hby at_76) (XS.ishr X10.here hx rfl (hb hby at_78) rfl (XS.iconst X10.here hx rfl (hb hby at_79) kk_)))))))) ?_
          show own_Goes p e below s (Q0 Z w hgt fl ps e9 h0 n0) 24 192 T10 (mkF m 80 #[iv w, iv hgt, iv fl, iv ps, rv b1, iv ((fl >>> ((4 : Int32) &&& 31)) &&& (1 : Int32)), iv ((fl >>> ((5 : Int32) &&& 31)) &&& (1 : Int32)), .unset, .unset, .unset] [(.int (1 : Int32)), (.int (fl >>> ((6 : Int32) &&& 31)))])
          refine own_st (fun _ kk_ => XS.iand X10.here hx rfl (hb hby at_80) rfl (XS.istore X10.here hx rfl (hb hby at_81) rfl (l' := #[iv w, iv hgt, iv fl, iv ps, rv b1, iv ((fl >>> ((4 : Int32) &&& 31)) &&& (1 : Int32)), iv ((fl >>> ((5 : Int32) &&& 31)) &&& (1 : Int32)), iv ((fl >>> ((6 : Int32) &&& 31)) &&& (1 : Int32)), .unset, .unset]) rfl (XS.iload X10.here hx rfl (hb hby at_83) rfl (XS.iconst X10.here hx rfl (hb hby at_85) kk_)))) ?_
          show own_Goes p e below s (Q0 Z w hgt fl ps e9 h0 n0) 24 192 T10 (mkF m 86 #[iv w, iv hgt, iv fl, iv ps, rv b1, iv ((fl >>> ((4 : Int32) &&& 31)) &&& (1 : Int32)), iv ((fl >>> ((5 : Int32) &&& 31)) &&& (1 : Int32)), iv ((fl >>> ((6 : Int32) &&& 31)) &&& (1 : Int32)), .unset, .unset] [(.int (1 : Int32)), (.int ((fl >>> ((4 : Int32) &&& 31)) &&& (1 : Int32)))])
          have J94 : ∀ (T12 : State) (L12 : List Loc) (h12 : Heap), Stand p l e room_1 s m #[(.int w), (.int hgt), (.int fl), (.int ps)] below meth c T12 L12 4 31 → T12.heap = h12 → Fr n0 L12 → n0 ≤ h12.size → Sta Z h12 "com/example/treepass/treepass/Rect" "EMPTY" "Lcom/example/treepass/treepass/Rect;" (.ref e9) → Exa Z h12 b1 "com/example/treepass/treepass/FrameState" → Fld Z h12 b1 "com/example/treepass/treepass/FrameState" "measured" "I" (.int ((fl >>> ((4 : Int32) &&& 31)) &&& (1 : Int32))) → Fld Z h12 b1 "com/example/treepass/treepass/FrameState" "laidOut" "I" (.int (0 : Int32)) → Fld Z h12 b1 "com/example/treepass/treepass/FrameState" "drawn" "I" (.int (0 : Int32)) → Fld Z h12 b1 "com/example/treepass/treepass/FrameState" "dirty" "Lcom/example/treepass/treepass/Rect;" (.ref x2_r) → Exa Z h12 x2_r "com/example/treepass/treepass/Rect" → Fld Z h12 x2_r "com/example/treepass/treepass/Rect" "left" "I" (.int (0 : Int32)) → Fld Z h12 x2_r "com/example/treepass/treepass/Rect" "top" "I" (.int (0 : Int32)) → Fld Z h12 x2_r "com/example/treepass/treepass/Rect" "right" "I" (.int w) → Fld Z h12 x2_r "com/example/treepass/treepass/Rect" "bottom" "I" (.int hgt) → own_Goes p e below s (Q0 Z w hgt fl ps e9 h0 n0) 24 192 T12 (mkF m 94 #[iv w, iv hgt, iv fl, iv ps, rv b1, iv ((fl >>> ((4 : Int32) &&& 31)) &&& (1 : Int32)), iv ((fl >>> ((5 : Int32) &&& 31)) &&& (1 : Int32)), iv ((fl >>> ((6 : Int32) &&& 31)) &&& (1 : Int32)), .unset, .unset] []) := by
            intro T12 L12 h12 X12 e12 N12 Zs12 j12_0 j12_1 j12_2 j12_3 j12_4 j12_5 j12_6 j12_7 j12_8 j12_9 j12_10
            show own_Goes p e below s (Q0 Z w hgt fl ps e9 h0 n0) 24 192 T12 (mkF m 94 #[iv w, iv hgt, iv fl, iv ps, rv b1, iv ((fl >>> ((4 : Int32) &&& 31)) &&& (1 : Int32)), iv ((fl >>> ((5 : Int32) &&& 31)) &&& (1 : Int32)), iv ((fl >>> ((6 : Int32) &&& 31)) &&& (1 : Int32)), .unset, .unset] [])
            refine own_st (fun _ kk_ => XS.iload X12.here hx rfl (hb hby at_94) rfl (XS.iconst X12.here hx rfl (hb hby at_96) kk_)) ?_
            show own_Goes p e below s (Q0 Z w hgt fl ps e9 h0 n0) 24 192 T12 (mkF m 97 #[iv w, iv hgt, iv fl, iv ps, rv b1, iv ((fl >>> ((4 : Int32) &&& 31)) &&& (1 : Int32)), iv ((fl >>> ((5 : Int32) &&& 31)) &&& (1 : Int32)), iv ((fl >>> ((6 : Int32) &&& 31)) &&& (1 : Int32)), .unset, .unset] [(.int (1 : Int32)), (.int ((fl >>> ((5 : Int32) &&& 31)) &&& (1 : Int32)))])
            have J105 : ∀ (T16 : State) (L16 : List Loc) (h16 : Heap), Stand p l e room_1 s m #[(.int w), (.int hgt), (.int fl), (.int ps)] below meth c T16 L16 4 31 → T16.heap = h16 → Fr n0 L16 → n0 ≤ h16.size → Sta Z h16 "com/example/treepass/treepass/Rect" "EMPTY" "Lcom/example/treepass/treepass/Rect;" (.ref e9) → Exa Z h16 b1 "com/example/treepass/treepass/FrameState" → Fld Z h16 b1 "com/example/treepass/treepass/FrameState" "measured" "I" (.int ((fl >>> ((4 : Int32) &&& 31)) &&& (1 : Int32))) → Fld Z h16 b1 "com/example/treepass/treepass/FrameState" "laidOut" "I" (.int ((fl >>> ((5 : Int32) &&& 31)) &&& (1 : Int32))) → Fld Z h16 b1 "com/example/treepass/treepass/FrameState" "drawn" "I" (.int (0 : Int32)) → Fld Z h16 b1 "com/example/treepass/treepass/FrameState" "dirty" "Lcom/example/treepass/treepass/Rect;" (.ref x2_r) → Exa Z h16 x2_r "com/example/treepass/treepass/Rect" → Fld Z h16 x2_r "com/example/treepass/treepass/Rect" "left" "I" (.int (0 : Int32)) → Fld Z h16 x2_r "com/example/treepass/treepass/Rect" "top" "I" (.int (0 : Int32)) → Fld Z h16 x2_r "com/example/treepass/treepass/Rect" "right" "I" (.int w) → Fld Z h16 x2_r "com/example/treepass/treepass/Rect" "bottom" "I" (.int hgt) → own_Goes p e below s (Q0 Z w hgt fl ps e9 h0 n0) 24 192 T16 (mkF m 105 #[iv w, iv hgt, iv fl, iv ps, rv b1, iv ((fl >>> ((4 : Int32) &&& 31)) &&& (1 : Int32)), iv ((fl >>> ((5 : Int32) &&& 31)) &&& (1 : Int32)), iv ((fl >>> ((6 : Int32) &&& 31)) &&& (1 : Int32)), .unset, .unset] []) := by
              intro T16 L16 h16 X16 e16 N16 Zs16 j16_0 j16_1 j16_2 j16_3 j16_4 j16_5 j16_6 j16_7 j16_8 j16_9 j16_10
              show own_Goes p e below s (Q0 Z w hgt fl ps e9 h0 n0) 24 192 T16 (mkF m 105 #[iv w, iv hgt, iv fl, iv ps, rv b1, iv ((fl >>> ((4 : Int32) &&& 31)) &&& (1 : Int32)), iv ((fl >>> ((5 : Int32) &&& 31)) &&& (1 : Int32)), iv ((fl >>> ((6 : Int32) &&& 31)) &&& (1 : Int32)), .unset, .unset] [])
              refine own_st (fun _ kk_ => XS.iload X16.here hx rfl (hb hby at_105) rfl (XS.iconst X16.here hx rfl (hb hby at_107) kk_)) ?_
              show own_Goes p e below s (Q0 Z w hgt fl ps e9 h0 n0) 24 192 T16 (mkF m 108 #[iv w, iv hgt, iv fl, iv ps, rv b1, iv ((fl >>> ((4 : Int32) &&& 31)) &&& (1 : Int32)), iv ((fl >>> ((5 : Int32) &&& 31)) &&& (1 : Int32)), iv ((fl >>> ((6 : Int32) &&& 31)) &&& (1 : Int32)), .unset, .unset] [(.int (1 : Int32)), (.int ((fl >>> ((6 : Int32) &&& 31)) &&& (1 : Int32)))])
              have J116 : ∀ (T20 : State) (L20 : List Loc) (h20 : Heap), Stand p l e room_1 s m #[(.int w), (.int hgt), (.int fl), (.int ps)] below meth c T20 L20 4 31 → T20.heap = h20 → Fr n0 L20 → n0 ≤ h20.size → Sta Z h20 "com/example/treepass/treepass/Rect" "EMPTY" "Lcom/example/treepass/treepass/Rect;" (.ref e9) → Exa Z h20 b1 "com/example/treepass/treepass/FrameState" → Fld Z h20 b1 "com/example/treepass/treepass/FrameState" "measured" "I" (.int ((fl >>> ((4 : Int32) &&& 31)) &&& (1 : Int32))) → Fld Z h20 b1 "com/example/treepass/treepass/FrameState" "laidOut" "I" (.int ((fl >>> ((5 : Int32) &&& 31)) &&& (1 : Int32))) → Fld Z h20 b1 "com/example/treepass/treepass/FrameState" "drawn" "I" (.int ((fl >>> ((6 : Int32) &&& 31)) &&& (1 : Int32))) → Fld Z h20 b1 "com/example/treepass/treepass/FrameState" "dirty" "Lcom/example/treepass/treepass/Rect;" (.ref x2_r) → Exa Z h20 x2_r "com/example/treepass/treepass/Rect" → Fld Z h20 x2_r "com/example/treepass/treepass/Rect" "left" "I" (.int (0 : Int32)) → Fld Z h20 x2_r "com/example/treepass/treepass/Rect" "top" "I" (.int (0 : Int32)) → Fld Z h20 x2_r "com/example/treepass/treepass/Rect" "right" "I" (.int w) → Fld Z h20 x2_r "com/example/treepass/treepass/Rect" "bottom" "I" (.int hgt) → own_Goes p e below s (Q0 Z w hgt fl ps e9 h0 n0) 24 192 T20 (mkF m 116 #[iv w, iv hgt, iv fl, iv ps, rv b1, iv ((fl >>> ((4 : Int32) &&& 31)) &&& (1 : Int32)), iv ((fl >>> ((5 : Int32) &&& 31)) &&& (1 : Int32)), iv ((fl >>> ((6 : Int32) &&& 31)) &&& (1 : Int32)), .unset, .unset] []) := by
                intro T20 L20 h20 X20 e20 N20 Zs20 j20_0 j20_1 j20_2 j20_3 j20_4 j20_5 j20_6 j20_7 j20_8 j20_9 j20_10
                show own_Goes p e below s (Q0 Z w hgt fl ps e9 h0 n0) 24 192 T20 (mkF m 116 #[iv w, iv hgt, iv fl, iv ps, rv b1, iv ((fl >>> ((4 : Int32) &&& 31)) &&& (1 : Int32)), iv ((fl >>> ((5 : Int32) &&& 31)) &&& (1 : Int32)), iv ((fl >>> ((6 : Int32) &&& 31)) &&& (1 : Int32)), .unset, .unset] [])
                refine own_st (fun _ kk_ => XS.aload X20.here hx rfl (hb hby at_116) rfl rfl (XS.iloadN X20.here hx rfl (hb hby at_118) rfl kk_)) ?_
                show own_Goes p e below s (Q0 Z w hgt fl ps e9 h0 n0) 24 192 T20 (mkF m 119 #[iv w, iv hgt, iv fl, iv ps, rv b1, iv ((fl >>> ((4 : Int32) &&& 31)) &&& (1 : Int32)), iv ((fl >>> ((5 : Int32) &&& 31)) &&& (1 : Int32)), iv ((fl >>> ((6 : Int32) &&& 31)) &&& (1 : Int32)), .unset, .unset] [(.int ps), (.ref b1)])
                obtain ⟨T24, X24, e24, st24⟩ := getS2 X20 hx hZ hown (host := "") (Or.inl (hw _ (List.mem_of_getElem? (i := 70) rfl))) Via.refl e20 j20_0 (g := (mkF m 119 #[iv w, iv hgt, iv fl, iv ps, rv b1, iv ((fl >>> ((4 : Int32) &&& 31)) &&& (1 : Int32)), iv ((fl >>> ((5 : Int32) &&& 31)) &&& (1 : Int32)), iv ((fl >>> ((6 : Int32) &&& 31)) &&& (1 : Int32)), .unset, .unset] [(.int ps), (.ref b1)])) rfl (hb hby at_119)
                refine own_st st24 ?_
                show own_Goes p e below s (Q0 Z w hgt fl ps e9 h0 n0) 24 192 T24 (mkF m 122 #[iv w, iv hgt, iv fl, iv ps, rv b1, iv ((fl >>> ((4 : Int32) &&& 31)) &&& (1 : Int32)), iv ((fl >>> ((5 : Int32) &&& 31)) &&& (1 : Int32)), iv ((fl >>> ((6 : Int32) &&& 31)) &&& (1 : Int32)), .unset, .unset] [(.ref e9), (.int ps), (.ref b1)])
                obtain ⟨cq25, kq25, q25a, q25b, q25c⟩ := isOf hZ e24 j20_1
                obtain ⟨_, _, ⟨T25, L25, k25, n25⟩, -, X25, ⟨Lc25, hQ25, l25, y25, z25⟩, st25⟩ := X24.virtualBack hx (y := (⟨"com/example/treepass/treepass/FrameState", "report", "(ILcom/example/treepass/treepass/Rect;)Lcom/example/treepass/treepass/FrameReport;"⟩ : MethodName)) (z := (⟨"com/example/treepass/treepass/FrameState", "report", "(ILcom/example/treepass/treepass/Rect;)Lcom/example/treepass/treepass/FrameReport;"⟩ : MethodName)) hown (mvT hZ (hw _ (List.mem_of_getElem? (i := 72) rfl))) (mvT hZ (hw _ (List.mem_of_getElem? (i := 73) rfl))) (notFace_of_selects (args := #[]) (mvT hZ (hw _ (List.mem_of_getElem? (i := 75) rfl)))) (mvT hZ (hw _ (List.mem_of_getElem? (i := 75) rfl))) (mvT hZ (hw _ (List.mem_of_getElem? (i := 74) rfl))) (by decide) (backOf (W := 0) (rm9 l Z a0 hw [] (b1) (ps) (e9) (((fl >>> ((4 : Int32) &&& 31)) &&& (1 : Int32))) (((fl >>> ((5 : Int32) &&& 31)) &&& (1 : Int32))) (((fl >>> ((6 : Int32) &&& 31)) &&& (1 : Int32))) h20 n0 Zs20 j20_2 j20_3 j20_4) hZ (hw _ (List.mem_of_getElem? (i := 76) rfl)) (hw _ (List.mem_of_getElem? (i := 2) rfl)) (by decide) (by decide)) q25a q25c (g := (mkF m 122 #[iv w, iv hgt, iv fl, iv ps, rv b1, iv ((fl >>> ((4 : Int32) &&& 31)) &&& (1 : Int32)), iv ((fl >>> ((5 : Int32) &&& 31)) &&& (1 : Int32)), iv ((fl >>> ((6 : Int32) &&& 31)) &&& (1 : Int32)), .unset, .unset] [(.ref e9), (.int ps), (.ref b1)])) rfl (by rw [hml]; rfl) (Steps.refl _) (argsL := [(.int ps), (.ref e9)]) (rest := []) (lenOf pd_4 rfl) rfl (by show 2 * 0 + _ ≤ _; exact Nat.le_of_eq rfl) (hb hby at_122) (fun _ _ => ⟨rfl, e24, (by decide : 4 + 1 ≤ _), (by decide : 31 + 5 ≤ _)⟩)
                dsimp only [Pt.U, Pt.locs, Pt.cells, Pt.slots] at X25 l25 y25 z25 st25 hQ25
                subst l25 y25 z25
                obtain ⟨x25_y, rfl, Nq25, Kq25, u25_0, u25_1, u25_2, u25_3, u25_4, u25_5, u25_6⟩ := hQ25
                have N25 := Fr.app N20 Nq25
                have f25_0 := own_Sta_keep j20_0 Kq25 ns0
                have f25_1 := j20_1.keep Kq25
                have f25_2 := j20_2.keep Kq25 nin0
                have f25_3 := j20_3.keep Kq25 nin0
                have f25_4 := j20_4.keep Kq25 nin0
                have f25_5 := j20_5.keep Kq25 nin0
                have f25_6 := j20_6.keep Kq25
                have f25_7 := j20_7.keep Kq25 nin0
                have f25_8 := j20_8.keep Kq25 nin0
                have f25_9 := j20_9.keep Kq25 nin0
                have f25_10 := j20_10.keep Kq25 nin0
                have Zs25 : n0 ≤ T25.heap.size := Nat.le_trans Zs20 Kq25.1
                have ne25_b1 : b1 ≠ x25_y := Nat.ne_of_lt (Nat.lt_of_lt_of_le j20_1.lt u25_0)
                have ne25_x2_r : x2_r ≠ x25_y := Nat.ne_of_lt (Nat.lt_of_lt_of_le j20_6.lt u25_0)
                have gg25_y : n0 ≤ x25_y := Nat.le_trans Zs20 u25_0
                refine own_st (fun _ kk_ => st25.trans kk_) ?_
                show own_Goes p e below s (Q0 Z w hgt fl ps e9 h0 n0) 24 192 T25 (mkF m 125 #[iv w, iv hgt, iv fl, iv ps, rv b1, iv ((fl >>> ((4 : Int32) &&& 31)) &&& (1 : Int32)), iv ((fl >>> ((5 : Int32) &&& 31)) &&& (1 : Int32)), iv ((fl >>> ((6 : Int32) &&& 31)) &&& (1 : Int32)), .unset, .unset] [(.ref x25_y)])
                refine own_st (fun _ kk_ => XS.astore X25.here hx rfl (hb hby at_125) rfl rfl (l' := #[iv w, iv hgt, iv fl, iv ps, rv b1, iv ((fl >>> ((4 : Int32) &&& 31)) &&& (1 : Int32)), iv ((fl >>> ((5 : Int32) &&& 31)) &&& (1 : Int32)), iv ((fl >>> ((6 : Int32) &&& 31)) &&& (1 : Int32)), rv x25_y, .unset]) rfl (XS.aload X25.here hx rfl (hb hby at_127) rfl rfl kk_)) ?_
                show own_Goes p e below s (Q0 Z w hgt fl ps e9 h0 n0) 24 192 T25 (mkF m 129 #[iv w, iv hgt, iv fl, iv ps, rv b1, iv ((fl >>> ((4 : Int32) &&& 31)) &&& (1 : Int32)), iv ((fl >>> ((5 : Int32) &&& 31)) &&& (1 : Int32)), iv ((fl >>> ((6 : Int32) &&& 31)) &&& (1 : Int32)), rv x25_y, .unset] [(.ref b1)])
                obtain ⟨cq26, kq26, q26a, q26b, q26c⟩ := isOf hZ rfl f25_1
                obtain ⟨_, _, ⟨T26, L26, k26, n26⟩, -, X26, ⟨Lc26, hQ26, l26, y26, z26⟩, st26⟩ := X25.virtualBack hx (y := (⟨"com/example/treepass/treepass/FrameState", "takeDirty", "()Lcom/example/treepass/treepass/Rect;"⟩ : MethodName)) (z := (⟨"com/example/treepass/treepass/FrameState", "takeDirty", "()Lcom/example/treepass/treepass/Rect;"⟩ : MethodName)) hown (mvT hZ (hw _ (List.mem_of_getElem? (i := 94) rfl))) (mvT hZ (hw _ (List.mem_of_getElem? (i := 95) rfl))) (notFace_of_selects (args := #[]) (mvT hZ (hw _ (List.mem_of_getElem? (i := 97) rfl)))) (mvT hZ (hw _ (List.mem_of_getElem? (i := 97) rfl))) (mvT hZ (hw _ (List.mem_of_getElem? (i := 96) rfl))) (by decide) (backOf (W := 0) (rm11 l Z a0 hw [] (b1) (x2_r) (e9) T25.heap n0 Zs25 f25_5 f25_1 gg1 f25_0) hZ (hw _ (List.mem_of_getElem? (i := 98) rfl)) (hw _ (List.mem_of_getElem? (i := 2) rfl)) (by decide) (by decide)) q26a q26c (g := (mkF m 129 #[iv w, iv hgt, iv fl, iv ps, rv b1, iv ((fl >>> ((4 : Int32) &&& 31)) &&& (1 : Int32)), iv ((fl >>> ((5 : Int32) &&& 31)) &&& (1 : Int32)), iv ((fl >>> ((6 : Int32) &&& 31)) &&& (1 : Int32)), rv x25_y, .unset] [(.ref b1)])) rfl (by rw [hml]; rfl) (Steps.refl _) (argsL := []) (rest := []) (lenOf pd_5 rfl) rfl (by show 2 * 0 + _ ≤ _; exact Nat.le_of_eq rfl) (hb hby at_129) (fun _ _ => ⟨rfl, rfl, (by decide : 5 + 0 ≤ _), (by decide : 36 + 0 ≤ _)⟩)
                dsimp only [Pt.U, Pt.locs, Pt.cells, Pt.slots] at X26 l26 y26 z26 st26 hQ26
                subst l26 y26 z26
                obtain ⟨rfl, Nq26, Kq26⟩ := hQ26
                have N26 := Fr.app N25 Nq26
                have f26_0 := own_Sta_keep f25_0 Kq26 (nsS f25_1.nostat ns0)
                have f26_1 := f25_1.keep Kq26
                have f26_6 := f25_6.keep Kq26
                have f26_7 := f25_7.keep Kq26 (ninS (Ne.symm ne2_b1) nin0)
                have f26_8 := f25_8.keep Kq26 (ninS (Ne.symm ne2_b1) nin0)
                have f26_9 := f25_9.keep Kq26 (ninS (Ne.symm ne2_b1) nin0)
                have f26_10 := f25_10.keep Kq26 (ninS (Ne.symm ne2_b1) nin0)
                have f26_11 := u25_1.keep Kq26
                have f26_12 := u25_2.keep Kq26 (ninS (Ne.symm ne25_b1) nin0)
                have f26_13 := u25_3.keep Kq26 (ninS (Ne.symm ne25_b1) nin0)
                have f26_14 := u25_4.keep Kq26 (ninS (Ne.symm ne25_b1) nin0)
                have f26_15 := u25_5.keep Kq26 (ninS (Ne.symm ne25_b1) nin0)
                have f26_16 := u25_6.keep Kq26 (ninS (Ne.symm ne25_b1) nin0)
                have Zs26 : n0 ≤ T26.heap.size := Nat.le_trans Zs25 Kq26.1
                refine own_st (fun _ kk_ => st26.trans kk_) ?_
                show own_Goes p e below s (Q0 Z w hgt fl ps e9 h0 n0) 24 192 T26 (mkF m 132 #[iv w, iv hgt, iv fl, iv ps, rv b1, iv ((fl >>> ((4 : Int32) &&& 31)) &&& (1 : Int32)), iv ((fl >>> ((5 : Int32) &&& 31)) &&& (1 : Int32)), iv ((fl >>> ((6 : Int32) &&& 31)) &&& (1 : Int32)), rv x25_y, .unset] [(.ref x2_r)])
                refine own_st (fun _ kk_ => XS.astore X26.here hx rfl (hb hby at_132) rfl rfl (l' := #[iv w, iv hgt, iv fl, iv ps, rv b1, iv ((fl >>> ((4 : Int32) &&& 31)) &&& (1 : Int32)), iv ((fl >>> ((5 : Int32) &&& 31)) &&& (1 : Int32)), iv ((fl >>> ((6 : Int32) &&& 31)) &&& (1 : Int32)), rv x25_y, rv x2_r]) rfl (XS.aload X26.here hx rfl (hb hby at_134) rfl rfl kk_)) ?_
                show own_Goes p e below s (Q0 Z w hgt fl ps e9 h0 n0) 24 192 T26 (mkF m 136 #[iv w, iv hgt, iv fl, iv ps, rv b1, iv ((fl >>> ((4 : Int32) &&& 31)) &&& (1 : Int32)), iv ((fl >>> ((5 : Int32) &&& 31)) &&& (1 : Int32)), iv ((fl >>> ((6 : Int32) &&& 31)) &&& (1 : Int32)), rv x25_y, rv x2_r] [(.ref x25_y)])
                obtain ⟨cq27, kq27, q27a, q27b, q27c⟩ := isOf hZ rfl f26_11
                obtain ⟨_, _, ⟨T27, L27, k27, n27⟩, -, X27, ⟨Lc27, hQ27, l27, y27, z27⟩, st27⟩ := X26.virtualBack hx (y := (⟨"com/example/treepass/treepass/FrameReport", "layoutPasses", "()I"⟩ : MethodName)) (z := (⟨"com/example/treepass/treepass/FrameReport", "layoutPasses", "()I"⟩ : MethodName)) hown (mvT hZ (hw _ (List.mem_of_getElem? (i := 100) rfl))) (mvT hZ (hw _ (List.mem_of_getElem? (i := 101) rfl))) (notFace_of_selects (args := #[]) (mvT hZ (hw _ (List.mem_of_getElem? (i := 103) rfl)))) (mvT hZ (hw _ (List.mem_of_getElem? (i := 103) rfl))) (mvT hZ (hw _ (List.mem_of_getElem? (i := 102) rfl))) (by decide) (backOf (W := 0) (rm12 l Z a0 hw [] (x25_y) (ps) T26.heap n0 Zs26 f26_12) hZ (hw _ (List.mem_of_getElem? (i := 104) rfl)) (hw _ (List.mem_of_getElem? (i := 79) rfl)) (by decide) (by decide)) q27a q27c (g := (mkF m 136 #[iv w, iv hgt, iv fl, iv ps, rv b1, iv ((fl >>> ((4 : Int32) &&& 31)) &&& (1 : Int32)), iv ((fl >>> ((5 : Int32) &&& 31)) &&& (1 : Int32)), iv ((fl >>> ((6 : Int32) &&& 31)) &&& (1 : Int32)), rv x25_y, rv x2_r] [(.ref x25_y)])) rfl (by rw [hml]; rfl) (Steps.refl _) (argsL := []) (rest := []) (lenOf pd_6 rfl) rfl (by show 2 * 0 + _ ≤ _; exact Nat.le_of_eq rfl) (hb hby at_136) (fun _ _ => ⟨rfl, rfl, (by decide : 5 + 0 ≤ _), (by decide : 36 + 0 ≤ _)⟩)
                dsimp only [Pt.U, Pt.locs, Pt.cells, Pt.slots] at X27 l27 y27 z27 st27 hQ27
                subst l27 y27 z27
                obtain ⟨rfl, Nq27, eq27⟩ := hQ27
                have N27 := Fr.app N26 Nq27
                refine own_st (fun _ kk_ => st27.trans kk_) ?_
                show own_Goes p e below s (Q0 Z w hgt fl ps e9 h0 n0) 24 192 T27 (mkF m 139 #[iv w, iv hgt, iv fl, iv ps, rv b1, iv ((fl >>> ((4 : Int32) &&& 31)) &&& (1 : Int32)), iv ((fl >>> ((5 : Int32) &&& 31)) &&& (1 : Int32)), iv ((fl >>> ((6 : Int32) &&& 31)) &&& (1 : Int32)), rv x25_y, rv x2_r] [(.int ps)])
                refine own_st (fun _ kk_ => XS.iloadN X27.here hx rfl (hb hby at_139) rfl (XS.icmpNo X27.here hx rfl (hb hby at_140) rfl (XT.ii_ne_f rfl) (XS.aload X27.here hx rfl (hb hby at_143) rfl rfl kk_))) ?_
                show own_Goes p e below s (Q0 Z w hgt fl ps e9 h0 n0) 24 192 T27 (mkF m 145 #[iv w, iv hgt, iv fl, iv ps, rv b1, iv ((fl >>> ((4 : Int32) &&& 31)) &&& (1 : Int32)), iv ((fl >>> ((5 : Int32) &&& 31)) &&& (1 : Int32)), iv ((fl >>> ((6 : Int32) &&& 31)) &&& (1 : Int32)), rv x25_y, rv x2_r] [(.ref x25_y)])
                obtain ⟨cq28, kq28, q28a, q28b, q28c⟩ := isOf hZ eq27 f26_11
                obtain ⟨_, _, ⟨T28, L28, k28, n28⟩, -, X28, ⟨Lc28, hQ28, l28, y28, z28⟩, st28⟩ := X27.virtualBack hx (y := (⟨"com/example/treepass/treepass/FrameReport", "measured", "()I"⟩ : MethodName)) (z := (⟨"com/example/treepass/treepass/FrameReport", "measured", "()I"⟩ : MethodName)) hown (mvT hZ (hw _ (List.mem_of_getElem? (i := 105) rfl))) (mvT hZ (hw _ (List.mem_of_getElem? (i := 106) rfl))) (notFace_of_selects (args := #[]) (mvT hZ (hw _ (List.mem_of_getElem? (i := 108) rfl)))) (mvT hZ (hw _ (List.mem_of_getElem? (i := 108) rfl))) (mvT hZ (hw _ (List.mem_of_getElem? (i := 107) rfl))) (by decide) (backOf (W := 0) (rm13 l Z a0 hw [] (x25_y) (((fl >>> ((4 : Int32) &&& 31)) &&& (1 : Int32))) T26.heap n0 Zs26 f26_13) hZ (hw _ (List.mem_of_getElem? (i := 109) rfl)) (hw _ (List.mem_of_getElem? (i := 79) rfl)) (by decide) (by decide)) q28a q28c (g := (mkF m 145 #[iv w, iv hgt, iv fl, iv ps, rv b1, iv ((fl >>> ((4 : Int32) &&& 31)) &&& (1 : Int32)), iv ((fl >>> ((5 : Int32) &&& 31)) &&& (1 : Int32)), iv ((fl >>> ((6 : Int32) &&& 31)) &&& (1 : Int32)), rv x25_y, rv x2_r] [(.ref x25_y)])) rfl (by rw [hml]; rfl) (Steps.refl _) (argsL := []) (rest := []) (lenOf pd_6 rfl) rfl (by show 2 * 0 + _ ≤ _; exact Nat.le_of_eq rfl) (hb hby at_145) (fun _ _ => ⟨rfl, eq27, (by decide : 5 + 0 ≤ _), (by decide : 36 + 0 ≤ _)⟩)
                dsimp only [Pt.U, Pt.locs, Pt.cells, Pt.slots] at X28 l28 y28 z28 st28 hQ28
                subst l28 y28 z28
                obtain ⟨rfl, Nq28, eq28⟩ := hQ28
                have N28 := Fr.app N27 Nq28
                refine own_st (fun _ kk_ => st28.trans kk_) ?_
                show own_Goes p e below s (Q0 Z w hgt fl ps e9 h0 n0) 24 192 T28 (mkF m 148 #[iv w, iv hgt, iv fl, iv ps, rv b1, iv ((fl >>> ((4 : Int32) &&& 31)) &&& (1 : Int32)), iv ((fl >>> ((5 : Int32) &&& 31)) &&& (1 : Int32)), iv ((fl >>> ((6 : Int32) &&& 31)) &&& (1 : Int32)), rv x25_y, rv x2_r] [(.int ((fl >>> ((4 : Int32) &&& 31)) &&& (1 : Int32)))])
                refine own_st (fun _ kk_ => XS.iload X28.here hx rfl (hb hby at_148) rfl (XS.icmpNo X28.here hx rfl (hb hby at_150) rfl (XT.ii_ne_f rfl) (XS.aload X28.here hx rfl (hb hby at_153) rfl rfl kk_))) ?_
                show own_Goes p e below s (Q0 Z w hgt fl ps e9 h0 n0) 24 192 T28 (mkF m 155 #[iv w, iv hgt, iv fl, iv ps, rv b1, iv ((fl >>> ((4 : Int32) &&& 31)) &&& (1 : Int32)), iv ((fl >>> ((5 : Int32) &&& 31)) &&& (1 : Int32)), iv ((fl >>> ((6 : Int32) &&& 31)) &&& (1 : Int32)), rv x25_y, rv x2_r] [(.ref x25_y)])
                obtain ⟨cq29, kq29, q29a, q29b, q29c⟩ := isOf hZ eq28 f26_11
                obtain ⟨_, _, ⟨T29, L29, k29, n29⟩, -, X29, ⟨Lc29, hQ29, l29, y29, z29⟩, st29⟩ := X28.virtualBack hx (y := (⟨"com/example/treepass/treepass/FrameReport", "laidOut", "()I"⟩ : MethodName)) (z := (⟨"com/example/treepass/treepass/FrameReport", "laidOut", "()I"⟩ : MethodName)) hown (mvT hZ (hw _ (List.mem_of_getElem? (i := 110) rfl))) (mvT hZ (hw _ (List.mem_of_getElem? (i := 111) rfl))) (notFace_of_selects (args := #[]) (mvT hZ (hw _ (List.mem_of_getElem? (i := 113) rfl)))) (mvT hZ (hw _ (List.mem_of_getElem? (i := 113) rfl))) (mvT hZ (hw _ (List.mem_of_getElem? (i := 112) rfl))) (by decide) (backOf (W := 0) (rm14 l Z a0 hw [] (x25_y) (((fl >>> ((5 : Int32) &&& 31)) &&& (1 : Int32))) T26.heap n0 Zs26 f26_14) hZ (hw _ (List.mem_of_getElem? (i := 114) rfl)) (hw _ (List.mem_of_getElem? (i := 79) rfl)) (by decide) (by decide)) q29a q29c (g := (mkF m 155 #[iv w, iv hgt, iv fl, iv ps, rv b1, iv ((fl >>> ((4 : Int32) &&& 31)) &&& (1 : Int32)), iv ((fl >>> ((5 : Int32) &&& 31)) &&& (1 : Int32)), iv ((fl >>> ((6 : Int32) &&& 31)) &&& (1 : Int32)), rv x25_y, rv x2_r] [(.ref x25_y)])) rfl (by rw [hml]; rfl) (Steps.refl _) (argsL := []) (rest := []) (lenOf pd_6 rfl) rfl (by show 2 * 0 + _ ≤ _; exact Nat.le_of_eq rfl) (hb hby at_155) (fun _ _ => ⟨rfl, eq28, (by decide : 5 + 0 ≤ _), (by decide : 36 + 0 ≤ _)⟩)
                dsimp only [Pt.U, Pt.locs, Pt.cells, Pt.slots] at X29 l29 y29 z29 st29 hQ29
                subst l29 y29 z29
                obtain ⟨rfl, Nq29, eq29⟩ := hQ29
                have N29 := Fr.app N28 Nq29
                refine own_st (fun _ kk_ => st29.trans kk_) ?_
                show own_Goes p e below s (Q0 Z w hgt fl ps e9 h0 n0) 24 192 T29 (mkF m 158 #[iv w, iv hgt, iv fl, iv ps, rv b1, iv ((fl >>> ((4 : Int32) &&& 31)) &&& (1 : Int32)), iv ((fl >>> ((5 : Int32) &&& 31)) &&& (1 : Int32)), iv ((fl >>> ((6 : Int32) &&& 31)) &&& (1 : Int32)), rv x25_y, rv x2_r] [(.int ((fl >>> ((5 : Int32) &&& 31)) &&& (1 : Int32)))])
                refine own_st (fun _ kk_ => XS.iload X29.here hx rfl (hb hby at_158) rfl (XS.icmpNo X29.here hx rfl (hb hby at_160) rfl (XT.ii_ne_f rfl) (XS.aload X29.here hx rfl (hb hby at_163) rfl rfl kk_))) ?_
                show own_Goes p e below s (Q0 Z w hgt fl ps e9 h0 n0) 24 192 T29 (mkF m 165 #[iv w, iv hgt, iv fl, iv ps, rv b1, iv ((fl >>> ((4 : Int32) &&& 31)) &&& (1 : Int32)), iv ((fl >>> ((5 : Int32) &&& 31)) &&& (1 : Int32)), iv ((fl >>> ((6 : Int32) &&& 31)) &&& (1 : Int32)), rv x25_y, rv x2_r] [(.ref x25_y)])
                obtain ⟨cq30, kq30, q30a, q30b, q30c⟩ := isOf hZ eq29 f26_11
                obtain ⟨_, _, ⟨T30, L30, k30, n30⟩, -, X30, ⟨Lc30, hQ30, l30, y30, z30⟩, st30⟩ := X29.virtualBack hx (y := (⟨"com/example/treepass/treepass/FrameReport", "drawn", "()I"⟩ : MethodName)) (z := (⟨"com/example/treepass/treepass/FrameReport", "drawn", "()I"⟩ : MethodName)) hown (mvT hZ (hw _ (List.mem_of_getElem? (i := 115) rfl))) (mvT hZ (hw _ (List.mem_of_getElem? (i := 116) rfl))) (notFace_of_selects (args := #[]) (mvT hZ (hw _ (List.mem_of_getElem? (i := 118) rfl)))) (mvT hZ (hw _ (List.mem_of_getElem? (i := 118) rfl))) (mvT hZ (hw _ (List.mem_of_getElem? (i := 117) rfl))) (by decide) (backOf (W := 0) (rm15 l Z a0 hw [] (x25_y) (((fl >>> ((6 : Int32) &&& 31)) &&& (1 : Int32))) T26.heap n0 Zs26 f26_15) hZ (hw _ (List.mem_of_getElem? (i := 119) rfl)) (hw _ (List.mem_of_getElem? (i := 79) rfl)) (by decide) (by decide)) q30a q30c (g := (mkF m 165 #[iv w, iv hgt, iv fl, iv ps, rv b1, iv ((fl >>> ((4 : Int32) &&& 31)) &&& (1 : Int32)), iv ((fl >>> ((5 : Int32) &&& 31)) &&& (1 : Int32)), iv ((fl >>> ((6 : Int32) &&& 31)) &&& (1 : Int32)), rv x25_y, rv x2_r] [(.ref x25_y)])) rfl (by rw [hml]; rfl) (Steps.refl _) (argsL := []) (rest := []) (lenOf pd_6 rfl) rfl (by show 2 * 0 + _ ≤ _; exact Nat.le_of_eq rfl) (hb hby at_165) (fun _ _ => ⟨rfl, eq29, (by decide : 5 + 0 ≤ _), (by decide : 36 + 0 ≤ _)⟩)
                dsimp only [Pt.U, Pt.locs, Pt.cells, Pt.slots] at X30 l30 y30 z30 st30 hQ30
                subst l30 y30 z30
                obtain ⟨rfl, Nq30, eq30⟩ := hQ30
                have N30 := Fr.app N29 Nq30
                refine own_st (fun _ kk_ => st30.trans kk_) ?_
                show own_Goes p e below s (Q0 Z w hgt fl ps e9 h0 n0) 24 192 T30 (mkF m 168 #[iv w, iv hgt, iv fl, iv ps, rv b1, iv ((fl >>> ((4 : Int32) &&& 31)) &&& (1 : Int32)), iv ((fl >>> ((5 : Int32) &&& 31)) &&& (1 : Int32)), iv ((fl >>> ((6 : Int32) &&& 31)) &&& (1 : Int32)), rv x25_y, rv x2_r] [(.int ((fl >>> ((6 : Int32) &&& 31)) &&& (1 : Int32)))])
                refine own_st (fun _ kk_ => XS.iload X30.here hx rfl (hb hby at_168) rfl (XS.icmpNo X30.here hx rfl (hb hby at_170) rfl (XT.ii_ne_f rfl) (XS.aload X30.here hx rfl (hb hby at_173) rfl rfl kk_))) ?_
                show own_Goes p e below s (Q0 Z w hgt fl ps e9 h0 n0) 24 192 T30 (mkF m 175 #[iv w, iv hgt, iv fl, iv ps, rv b1, iv ((fl >>> ((4 : Int32) &&& 31)) &&& (1 : Int32)), iv ((fl >>> ((5 : Int32) &&& 31)) &&& (1 : Int32)), iv ((fl >>> ((6 : Int32) &&& 31)) &&& (1 : Int32)), rv x25_y, rv x2_r] [(.ref x25_y)])
                obtain ⟨cq31, kq31, q31a, q31b, q31c⟩ := isOf hZ eq30 f26_11
                obtain ⟨_, _, ⟨T31, L31, k31, n31⟩, -, X31, ⟨Lc31, hQ31, l31, y31, z31⟩, st31⟩ := X30.virtualBack hx (y := (⟨"com/example/treepass/treepass/FrameReport", "dirty", "()Lcom/example/treepass/treepass/Rect;"⟩ : MethodName)) (z := (⟨"com/example/treepass/treepass/FrameReport", "dirty", "()Lcom/example/treepass/treepass/Rect;"⟩ : MethodName)) hown (mvT hZ (hw _ (List.mem_of_getElem? (i := 120) rfl))) (mvT hZ (hw _ (List.mem_of_getElem? (i := 121) rfl))) (notFace_of_selects (args := #[]) (mvT hZ (hw _ (List.mem_of_getElem? (i := 123) rfl)))) (mvT hZ (hw _ (List.mem_of_getElem? (i := 123) rfl))) (mvT hZ (hw _ (List.mem_of_getElem? (i := 122) rfl))) (by decide) (backOf (W := 0) (rm16 l Z a0 hw [] (x25_y) (e9) T26.heap n0 Zs26 f26_16) hZ (hw _ (List.mem_of_getElem? (i := 124) rfl)) (hw _ (List.mem_of_getElem? (i := 79) rfl)) (by decide) (by decide)) q31a q31c (g := (mkF m 175 #[iv w, iv hgt, iv fl, iv ps, rv b1, iv ((fl >>> ((4 : Int32) &&& 31)) &&& (1 : Int32)), iv ((fl >>> ((5 : Int32) &&& 31)) &&& (1 : Int32)), iv ((fl >>> ((6 : Int32) &&& 31)) &&& (1 : Int32)), rv x25_y, rv x2_r] [(.ref x25_y)])) rfl (by rw [hml]; rfl) (Steps.refl _) (argsL := []) (rest := []) (lenOf pd_5 rfl) rfl (by show 2 * 0 + _ ≤ _; exact Nat.le_of_eq rfl) (hb hby at_175) (fun _ _ => ⟨rfl, eq30, (by decide : 5 + 0 ≤ _), (by decide : 36 + 0 ≤ _)⟩)
                dsimp only [Pt.U, Pt.locs, Pt.cells, Pt.slots] at X31 l31 y31 z31 st31 hQ31
                subst l31 y31 z31
                obtain ⟨rfl, Nq31, eq31⟩ := hQ31
                have N31 := Fr.app N30 Nq31
                refine own_st (fun _ kk_ => st31.trans kk_) ?_
                show own_Goes p e below s (Q0 Z w hgt fl ps e9 h0 n0) 24 192 T31 (mkF m 178 #[iv w, iv hgt, iv fl, iv ps, rv b1, iv ((fl >>> ((4 : Int32) &&& 31)) &&& (1 : Int32)), iv ((fl >>> ((5 : Int32) &&& 31)) &&& (1 : Int32)), iv ((fl >>> ((6 : Int32) &&& 31)) &&& (1 : Int32)), rv x25_y, rv x2_r] [(.ref e9)])
                obtain ⟨T32, X32, e32, st32⟩ := getS2 X31 hx hZ hown (host := "") (Or.inl (hw _ (List.mem_of_getElem? (i := 70) rfl))) Via.refl eq31 f26_0 (g := (mkF m 178 #[iv w, iv hgt, iv fl, iv ps, rv b1, iv ((fl >>> ((4 : Int32) &&& 31)) &&& (1 : Int32)), iv ((fl >>> ((5 : Int32) &&& 31)) &&& (1 : Int32)), iv ((fl >>> ((6 : Int32) &&& 31)) &&& (1 : Int32)), rv x25_y, rv x2_r] [(.ref e9)])) rfl (hb hby at_178)
                refine own_st st32 ?_
                show own_Goes p e below s (Q0 Z w hgt fl ps e9 h0 n0) 24 192 T32 (mkF m 181 #[iv w, iv hgt, iv fl, iv ps, rv b1, iv ((fl >>> ((4 : Int32) &&& 31)) &&& (1 : Int32)), iv ((fl >>> ((5 : Int32) &&& 31)) &&& (1 : Int32)), iv ((fl >>> ((6 : Int32) &&& 31)) &&& (1 : Int32)), rv x25_y, rv x2_r] [(.ref e9), (.ref e9)])
                refine own_st (fun _ kk_ => XT.acmpNo X32.here hx rfl (hb hby at_181) rfl rfl rfl (XT.aa_ne_f rfl) (XS.aload X32.here hx rfl (hb hby at_184) rfl rfl kk_)) ?_
                show own_Goes p e below s (Q0 Z w hgt fl ps e9 h0 n0) 24 192 T32 (mkF m 186 #[iv w, iv hgt, iv fl, iv ps, rv b1, iv ((fl >>> ((4 : Int32) &&& 31)) &&& (1 : Int32)), iv ((fl >>> ((5 : Int32) &&& 31)) &&& (1 : Int32)), iv ((fl >>> ((6 : Int32) &&& 31)) &&& (1 : Int32)), rv x25_y, rv x2_r] [(.ref x2_r)])
                obtain ⟨cq33, kq33, q33a, q33b, q33c⟩ := isOf hZ e32 f26_6
                obtain ⟨_, _, ⟨T33, L33, k33, n33⟩, -, X33, ⟨Lc33, hQ33, l33, y33, z33⟩, st33⟩ := X32.virtualBack hx (y := (⟨"com/example/treepass/treepass/Rect", "left", "()I"⟩ : MethodName)) (z := (⟨"com/example/treepass/treepass/Rect", "left", "()I"⟩ : MethodName)) hown (mvT hZ (hw _ (List.mem_of_getElem? (i := 125) rfl))) (mvT hZ (hw _ (List.mem_of_getElem? (i := 126) rfl))) (notFace_of_selects (args := #[]) (mvT hZ (hw _ (List.mem_of_getElem? (i := 128) rfl)))) (mvT hZ (hw _ (List.mem_of_getElem? (i := 128) rfl))) (mvT hZ (hw _ (List.mem_of_getElem? (i := 127) rfl))) (by decide) (backOf (W := 0) (rm17 l Z a0 hw [] (x2_r) ((0 : Int32)) T26.heap n0 Zs26 f26_7) hZ (hw _ (List.mem_of_getElem? (i := 129) rfl)) (hw _ (List.mem_of_getElem? (i := 34) rfl)) (by decide) (by decide)) q33a q33c (g := (mkF m 186 #[iv w, iv hgt, iv fl, iv ps, rv b1, iv ((fl >>> ((4 : Int32) &&& 31)) &&& (1 : Int32)), iv ((fl >>> ((5 : Int32) &&& 31)) &&& (1 : Int32)), iv ((fl >>> ((6 : Int32) &&& 31)) &&& (1 : Int32)), rv x25_y, rv x2_r] [(.ref x2_r)])) rfl (by rw [hml]; rfl) (Steps.refl _) (argsL := []) (rest := []) (lenOf pd_6 rfl) rfl (by show 2 * 0 + _ ≤ _; exact Nat.le_of_eq rfl) (hb hby at_186) (fun _ _ => ⟨rfl, e32, (by decide : 5 + 0 ≤ _), (by decide : 36 + 0 ≤ _)⟩)
                dsimp only [Pt.U, Pt.locs, Pt.cells, Pt.slots] at X33 l33 y33 z33 st33 hQ33
                subst l33 y33 z33
                obtain ⟨rfl, Nq33, eq33⟩ := hQ33
                have N33 := Fr.app N31 Nq33
                refine own_st (fun _ kk_ => st33.trans kk_) ?_
                show own_Goes p e below s (Q0 Z w hgt fl ps e9 h0 n0) 24 192 T33 (mkF m 189 #[iv w, iv hgt, iv fl, iv ps, rv b1, iv ((fl >>> ((4 : Int32) &&& 31)) &&& (1 : Int32)), iv ((fl >>> ((5 : Int32) &&& 31)) &&& (1 : Int32)), iv ((fl >>> ((6 : Int32) &&& 31)) &&& (1 : Int32)), rv x25_y, rv x2_r] [(.int (0 : Int32))])
                refine own_st (fun _ kk_ => XS.ifNo X33.here hx rfl (hb hby at_189) rfl (XT.i0_ne_f (by decide)) (XS.aload X33.here hx rfl (hb hby at_192) rfl rfl kk_)) ?_
                show own_Goes p e below s (Q0 Z w hgt fl ps e9 h0 n0) 24 192 T33 (mkF m 194 #[iv w, iv hgt, iv fl, iv ps, rv b1, iv ((fl >>> ((4 : Int32) &&& 31)) &&& (1 : Int32)), iv ((fl >>> ((5 : Int32) &&& 31)) &&& (1 : Int32)), iv ((fl >>> ((6 : Int32) &&& 31)) &&& (1 : Int32)), rv x25_y, rv x2_r] [(.ref x2_r)])
                obtain ⟨cq34, kq34, q34a, q34b, q34c⟩ := isOf hZ eq33 f26_6
                obtain ⟨_, _, ⟨T34, L34, k34, n34⟩, -, X34, ⟨Lc34, hQ34, l34, y34, z34⟩, st34⟩ := X33.virtualBack hx (y := (⟨"com/example/treepass/treepass/Rect", "top", "()I"⟩ : MethodName)) (z := (⟨"com/example/treepass/treepass/Rect", "top", "()I"⟩ : MethodName)) hown (mvT hZ (hw _ (List.mem_of_getElem? (i := 130) rfl))) (mvT hZ (hw _ (List.mem_of_getElem? (i := 131) rfl))) (notFace_of_selects (args := #[]) (mvT hZ (hw _ (List.mem_of_getElem? (i := 133) rfl)))) (mvT hZ (hw _ (List.mem_of_getElem? (i := 133) rfl))) (mvT hZ (hw _ (List.mem_of_getElem? (i := 132) rfl))) (by decide) (backOf (W := 0) (rm18 l Z a0 hw [] (x2_r) ((0 : Int32)) T26.heap n0 Zs26 f26_8) hZ (hw _ (List.mem_of_getElem? (i := 134) rfl)) (hw _ (List.mem_of_getElem? (i := 34) rfl)) (by decide) (by decide)) q34a q34c (g := (mkF m 194 #[iv w, iv hgt, iv fl, iv ps, rv b1, iv ((fl >>> ((4 : Int32) &&& 31)) &&& (1 : Int32)), iv ((fl >>> ((5 : Int32) &&& 31)) &&& (1 : Int32)), iv ((fl >>> ((6 : Int32) &&& 31)) &&& (1 : Int32)), rv x25_y, rv x2_r] [(.ref x2_r)])) rfl (by rw [hml]; rfl) (Steps.refl _) (argsL := []) (rest := []) (lenOf pd_6 rfl) rfl (by show 2 * 0 + _ ≤ _; exact Nat.le_of_eq rfl) (hb hby at_194) (fun _ _ => ⟨rfl, eq33, (by decide : 5 + 0 ≤ _), (by decide : 36 + 0 ≤ _)⟩)
                dsimp only [Pt.U, Pt.locs, Pt.cells, Pt.slots] at X34 l34 y34 z34 st34 hQ34
                subst l34 y34 z34
                obtain ⟨rfl, Nq34, eq34⟩ := hQ34
                have N34 := Fr.app N33 Nq34
                refine own_st (fun _ kk_ => st34.trans kk_) ?_
                show own_Goes p e below s (Q0 Z w hgt fl ps e9 h0 n0) 24 192 T34 (mkF m 197 #[iv w, iv hgt, iv fl, iv ps, rv b1, iv ((fl >>> ((4 : Int32) &&& 31)) &&& (1 : Int32)), iv ((fl >>> ((5 : Int32) &&& 31)) &&& (1 : Int32)), iv ((fl >>> ((6 : Int32) &&& 31)) &&& (1 : Int32)), rv x25_y, rv x2_r] [(.int (0 : Int32))])
                refine own_st (fun _ kk_ => XS.ifNo X34.here hx rfl (hb hby at_197) rfl (XT.i0_ne_f (by decide)) (XS.aload X34.here hx rfl (hb hby at_200) rfl rfl kk_)) ?_
                show own_Goes p e below s (Q0 Z w hgt fl ps e9 h0 n0) 24 192 T34 (mkF m 202 #[iv w, iv hgt, iv fl, iv ps, rv b1, iv ((fl >>> ((4 : Int32) &&& 31)) &&& (1 : Int32)), iv ((fl >>> ((5 : Int32) &&& 31)) &&& (1 : Int32)), iv ((fl >>> ((6 : Int32) &&& 31)) &&& (1 : Int32)), rv x25_y, rv x2_r] [(.ref x2_r)])
                obtain ⟨cq35, kq35, q35a, q35b, q35c⟩ := isOf hZ eq34 f26_6
                obtain ⟨_, _, ⟨T35, L35, k35, n35⟩, -, X35, ⟨Lc35, hQ35, l35, y35, z35⟩, st35⟩ := X34.virtualBack hx (y := (⟨"com/example/treepass/treepass/Rect", "right", "()I"⟩ : MethodName)) (z := (⟨"com/example/treepass/treepass/Rect", "right", "()I"⟩ : MethodName)) hown (mvT hZ (hw _ (List.mem_of_getElem? (i := 135) rfl))) (mvT hZ (hw _ (List.mem_of_getElem? (i := 136) rfl))) (notFace_of_selects (args := #[]) (mvT hZ (hw _ (List.mem_of_getElem? (i := 138) rfl)))) (mvT hZ (hw _ (List.mem_of_getElem? (i := 138) rfl))) (mvT hZ (hw _ (List.mem_of_getElem? (i := 137) rfl))) (by decide) (backOf (W := 0) (rm19 l Z a0 hw [] (x2_r) (w) T26.heap n0 Zs26 f26_9) hZ (hw _ (List.mem_of_getElem? (i := 139) rfl)) (hw _ (List.mem_of_getElem? (i := 34) rfl)) (by decide) (by decide)) q35a q35c (g := (mkF m 202 #[iv w, iv hgt, iv fl, iv ps, rv b1, iv ((fl >>> ((4 : Int32) &&& 31)) &&& (1 : Int32)), iv ((fl >>> ((5 : Int32) &&& 31)) &&& (1 : Int32)), iv ((fl >>> ((6 : Int32) &&& 31)) &&& (1 : Int32)), rv x25_y, rv x2_r] [(.ref x2_r)])) rfl (by rw [hml]; rfl) (Steps.refl _) (argsL := []) (rest := []) (lenOf pd_6 rfl) rfl (by show 2 * 0 + _ ≤ _; exact Nat.le_of_eq rfl) (hb hby at_202) (fun _ _ => ⟨rfl, eq34, (by decide : 5 + 0 ≤ _), (by decide : 36 + 0 ≤ _)⟩)
                dsimp only [Pt.U, Pt.locs, Pt.cells, Pt.slots] at X35 l35 y35 z35 st35 hQ35
                subst l35 y35 z35
                obtain ⟨rfl, Nq35, eq35⟩ := hQ35
                have N35 := Fr.app N34 Nq35
                refine own_st (fun _ kk_ => st35.trans kk_) ?_
                show own_Goes p e below s (Q0 Z w hgt fl ps e9 h0 n0) 24 192 T35 (mkF m 205 #[iv w, iv hgt, iv fl, iv ps, rv b1, iv ((fl >>> ((4 : Int32) &&& 31)) &&& (1 : Int32)), iv ((fl >>> ((5 : Int32) &&& 31)) &&& (1 : Int32)), iv ((fl >>> ((6 : Int32) &&& 31)) &&& (1 : Int32)), rv x25_y, rv x2_r] [(.int w)])
                refine own_st (fun _ kk_ => XS.iloadN X35.here hx rfl (hb hby at_205) rfl (XS.icmpNo X35.here hx rfl (hb hby at_206) rfl (XT.ii_ne_f rfl) (XS.aload X35.here hx rfl (hb hby at_209) rfl rfl kk_))) ?_
                show own_Goes p e below s (Q0 Z w hgt fl ps e9 h0 n0) 24 192 T35 (mkF m 211 #[iv w, iv hgt, iv fl, iv ps, rv b1, iv ((fl >>> ((4 : Int32) &&& 31)) &&& (1 : Int32)), iv ((fl >>> ((5 : Int32) &&& 31)) &&& (1 : Int32)), iv ((fl >>> ((6 : Int32) &&& 31)) &&& (1 : Int32)), rv x25_y, rv x2_r] [(.ref x2_r)])
                obtain ⟨cq36, kq36, q36a, q36b, q36c⟩ := isOf hZ eq35 f26_6
                obtain ⟨_, _, ⟨T36, L36, k36, n36⟩, -, X36, ⟨Lc36, hQ36, l36, y36, z36⟩, st36⟩ := X35.virtualBack hx (y := (⟨"com/example/treepass/treepass/Rect", "bottom", "()I"⟩ : MethodName)) (z := (⟨"com/example/treepass/treepass/Rect", "bottom", "()I"⟩ : MethodName)) hown (mvT hZ (hw _ (List.mem_of_getElem? (i := 140) rfl))) (mvT hZ (hw _ (List.mem_of_getElem? (i := 141) rfl))) (notFace_of_selects (args := #[]) (mvT hZ (hw _ (List.mem_of_getElem? (i := 143) rfl)))) (mvT hZ (hw _ (List.mem_of_getElem? (i := 143) rfl))) (mvT hZ (hw _ (List.mem_of_getElem? (i := 142) rfl))) (by decide) (backOf (W := 0) (rm20 l Z a0 hw [] (x2_r) (hgt) T26.heap n0 Zs26 f26_10) hZ (hw _ (List.mem_of_getElem? (i := 144) rfl)) (hw _ (List.mem_of_getElem? (i := 34) rfl)) (by decide) (by decide)) q36a q36c (g := (mkF m 211 #[iv w, iv hgt, iv fl, iv ps, rv b1, iv ((fl >>> ((4 : Int32) &&& 31)) &&& (1 : Int32)), iv ((fl >>> ((5 : Int32) &&& 31)) &&& (1 : Int32)), iv ((fl >>> ((6 : Int32) &&& 31)) &&& (1 : Int32)), rv x25_y, rv x2_r] [(.ref x2_r)])) rfl (by rw [hml]; rfl) (Steps.refl _) (argsL := []) (rest := []) (lenOf pd_6 rfl) rfl (by show 2 * 0 + _ ≤ _; exact Nat.le_of_eq rfl) (hb hby at_211) (fun _ _ => ⟨rfl, eq35, (by decide : 5 + 0 ≤ _), (by decide : 36 + 0 ≤ _)⟩)
                dsimp only [Pt.U, Pt.locs, Pt.cells, Pt.slots] at X36 l36 y36 z36 st36 hQ36
                subst l36 y36 z36
                obtain ⟨rfl, Nq36, eq36⟩ := hQ36
                have N36 := Fr.app N35 Nq36
                refine own_st (fun _ kk_ => st36.trans kk_) ?_
                show own_Goes p e below s (Q0 Z w hgt fl ps e9 h0 n0) 24 192 T36 (mkF m 214 #[iv w, iv hgt, iv fl, iv ps, rv b1, iv ((fl >>> ((4 : Int32) &&& 31)) &&& (1 : Int32)), iv ((fl >>> ((5 : Int32) &&& 31)) &&& (1 : Int32)), iv ((fl >>> ((6 : Int32) &&& 31)) &&& (1 : Int32)), rv x25_y, rv x2_r] [(.int hgt)])
                refine own_st (fun _ kk_ => XS.iloadN X36.here hx rfl (hb hby at_214) rfl (XS.icmpNo X36.here hx rfl (hb hby at_215) rfl (XT.ii_ne_f rfl) (XS.iconst X36.here hx rfl (hb hby at_218) (XS.goto X36.here hx rfl (pc0 := 219) (pc' := 223) rfl (hb hby at_219) (by decide) (by decide) kk_)))) ?_
                show own_Goes p e below s (Q0 Z w hgt fl ps e9 h0 n0) 24 192 T36 (mkF m 223 #[iv w, iv hgt, iv fl, iv ps, rv b1, iv ((fl >>> ((4 : Int32) &&& 31)) &&& (1 : Int32)), iv ((fl >>> ((5 : Int32) &&& 31)) &&& (1 : Int32)), iv ((fl >>> ((6 : Int32) &&& 31)) &&& (1 : Int32)), rv x25_y, rv x2_r] [(.int (1 : Int32))])
                refine own_retN X36 hx hlk (t := .boolean) Bd.returns (by simp) (hb hby at_223) (by decide) (by decide) ?_
                show Q0 Z w hgt fl ps e9 h0 n0 (some (.int (nar .boolean (1 : Int32)))) T36.heap _
                rw [eq36]
                exact ⟨rfl, N36⟩
              rcases Classical.em (((fl >>> ((6 : Int32) &&& 31)) &&& (1 : Int32)) = (1 : Int32)) with qJ116 | qJ116
              · refine own_st (fun _ kk_ => XS.icmpNo X16.here hx rfl (hb hby at_108) rfl (XT.ii_ne_f qJ116) (XS.aload X16.here hx rfl (hb hby at_111) rfl rfl kk_)) ?_
                show own_Goes p e below s (Q0 Z w hgt fl ps e9 h0 n0) 24 192 T16 (mkF m 113 #[iv w, iv hgt, iv fl, iv ps, rv b1, iv ((fl >>> ((4 : Int32) &&& 31)) &&& (1 : Int32)), iv ((fl >>> ((5 : Int32) &&& 31)) &&& (1 : Int32)), iv ((fl >>> ((6 : Int32) &&& 31)) &&& (1 : Int32)), .unset, .unset] [(.ref b1)])
                obtain ⟨cq21, kq21, q21a, q21b, q21c⟩ := isOf hZ e16 j16_1
                obtain ⟨_, _, ⟨T21, L21, k21, n21⟩, -, X21, ⟨Lc21, hQ21, l21, y21, z21⟩, st21⟩ := X16.virtualBack hx (y := (⟨"com/example/treepass/treepass/FrameState", "viewDrawn", "()V"⟩ : MethodName)) (z := (⟨"com/example/treepass/treepass/FrameState", "viewDrawn", "()V"⟩ : MethodName)) hown (mvT hZ (hw _ (List.mem_of_getElem? (i := 145) rfl))) (mvT hZ (hw _ (List.mem_of_getElem? (i := 146) rfl))) (notFace_of_selects (args := #[]) (mvT hZ (hw _ (List.mem_of_getElem? (i := 148) rfl)))) (mvT hZ (hw _ (List.mem_of_getElem? (i := 148) rfl))) (mvT hZ (hw _ (List.mem_of_getElem? (i := 147) rfl))) (by decide) (backOf (W := 0) (rm21 l Z a0 hw [] (b1) (((fl >>> ((4 : Int32) &&& 31)) &&& (1 : Int32))) (((fl >>> ((5 : Int32) &&& 31)) &&& (1 : Int32))) ((0 : Int32)) (x2_r) h16 n0 Zs16 j16_2 j16_3 j16_4 j16_5 j16_1 gg1) hZ (hw _ (List.mem_of_getElem? (i := 149) rfl)) (hw _ (List.mem_of_getElem? (i := 2) rfl)) (by decide) (by decide)) q21a q21c (g := (mkF m 113 #[iv w, iv hgt, iv fl, iv ps, rv b1, iv ((fl >>> ((4 : Int32) &&& 31)) &&& (1 : Int32)), iv ((fl >>> ((5 : Int32) &&& 31)) &&& (1 : Int32)), iv ((fl >>> ((6 : Int32) &&& 31)) &&& (1 : Int32)), .unset, .unset] [(.ref b1)])) rfl (by rw [hml]; rfl) (Steps.refl _) (argsL := []) (rest := []) (lenOf pd_0 rfl) rfl (by show 2 * 0 + _ ≤ _; exact Nat.le_of_eq rfl) (hb hby at_113) (fun _ _ => ⟨rfl, e16, (by decide : 4 + 0 ≤ _), (by decide : 31 + 0 ≤ _)⟩)
                dsimp only [Pt.U, Pt.locs, Pt.cells, Pt.slots] at X21 l21 y21 z21 st21 hQ21
                subst l21 y21 z21
                obtain ⟨rfl, Nq21, Kq21, u21_0, u21_1, u21_2, u21_3⟩ := hQ21
                have N21 := Fr.app N16 Nq21
                have f21_0 := own_Sta_keep j16_0 Kq21 (nsS j16_1.nostat ns0)
                have f21_1 := j16_1.keep Kq21
                have f21_6 := j16_6.keep Kq21
                have f21_7 := j16_7.keep Kq21 (ninS (Ne.symm ne2_b1) nin0)
                have f21_8 := j16_8.keep Kq21 (ninS (Ne.symm ne2_b1) nin0)
                have f21_9 := j16_9.keep Kq21 (ninS (Ne.symm ne2_b1) nin0)
                have f21_10 := j16_10.keep Kq21 (ninS (Ne.symm ne2_b1) nin0)
                have Zs21 : n0 ≤ T21.heap.size := Nat.le_trans Zs16 Kq21.1
                refine own_st (fun _ kk_ => st21.trans kk_) ?_
                show own_Goes p e below s (Q0 Z w hgt fl ps e9 h0 n0) 24 192 T21 (mkF m 116 #[iv w, iv hgt, iv fl, iv ps, rv b1, iv ((fl >>> ((4 : Int32) &&& 31)) &&& (1 : Int32)), iv ((fl >>> ((5 : Int32) &&& 31)) &&& (1 : Int32)), iv ((fl >>> ((6 : Int32) &&& 31)) &&& (1 : Int32)), .unset, .unset] [])
                have fz22 : Fld Z T21.heap b1 "com/example/treepass/treepass/FrameState" "drawn" "I" (.int ((fl >>> ((6 : Int32) &&& 31)) &&& (1 : Int32))) := by have z := u21_2; rw [(show (0 : Int32) + 1 = ((fl >>> ((6 : Int32) &&& 31)) &&& (1 : Int32)) from qJ116.symm)] at z; exact z
                exact J116 _ _ _ (X21.more (by decide) (by decide)) rfl N21 Zs21 f21_0 f21_1 u21_0 u21_1 fz22 u21_3 f21_6 f21_7 f21_8 f21_9 f21_10
              · refine own_st (fun _ kk_ => XS.icmpYes X16.here hx rfl (pc0 := 108) (pc' := 116) rfl (hb hby at_108) rfl (XT.ii_ne_t qJ116) (by decide) (by decide) kk_) ?_
                show own_Goes p e below s (Q0 Z w hgt fl ps e9 h0 n0) 24 192 T16 (mkF m 116 #[iv w, iv hgt, iv fl, iv ps, rv b1, iv ((fl >>> ((4 : Int32) &&& 31)) &&& (1 : Int32)), iv ((fl >>> ((5 : Int32) &&& 31)) &&& (1 : Int32)), iv ((fl >>> ((6 : Int32) &&& 31)) &&& (1 : Int32)), .unset, .unset] [])
                have fz23 : Fld Z h16 b1 "com/example/treepass/treepass/FrameState" "drawn" "I" (.int ((fl >>> ((6 : Int32) &&& 31)) &&& (1 : Int32))) := by have z := j16_4; rw [own_in qJ116] at z; exact z
                exact J116 _ _ _ (X16.more (by decide) (by decide)) e16 N16 Zs16 j16_0 j16_1 j16_2 j16_3 fz23 j16_5 j16_6 j16_7 j16_8 j16_9 j16_10
            rcases Classical.em (((fl >>> ((5 : Int32) &&& 31)) &&& (1 : Int32)) = (1 : Int32)) with qJ105 | qJ105
            · refine own_st (fun _ kk_ => XS.icmpNo X12.here hx rfl (hb hby at_97) rfl (XT.ii_ne_f qJ105) (XS.aload X12.here hx rfl (hb hby at_100) rfl rfl kk_)) ?_
              show own_Goes p e below s (Q0 Z w hgt fl ps e9 h0 n0) 24 192 T12 (mkF m 102 #[iv w, iv hgt, iv fl, iv ps, rv b1, iv ((fl >>> ((4 : Int32) &&& 31)) &&& (1 : Int32)), iv ((fl >>> ((5 : Int32) &&& 31)) &&& (1 : Int32)), iv ((fl >>> ((6 : Int32) &&& 31)) &&& (1 : Int32)), .unset, .unset] [(.ref b1)])
              obtain ⟨cq17, kq17, q17a, q17b, q17c⟩ := isOf hZ e12 j12_1
              obtain ⟨_, _, ⟨T17, L17, k17, n17⟩, -, X17, ⟨Lc17, hQ17, l17, y17, z17⟩, st17⟩ := X12.virtualBack hx (y := (⟨"com/example/treepass/treepass/FrameState", "viewLaidOut", "()V"⟩ : MethodName)) (z := (⟨"com/example/treepass/treepass/FrameState", "viewLaidOut", "()V"⟩ : MethodName)) hown (mvT hZ (hw _ (List.mem_of_getElem? (i := 54) rfl))) (mvT hZ (hw _ (List.mem_of_getElem? (i := 55) rfl))) (notFace_of_selects (args := #[]) (mvT hZ (hw _ (List.mem_of_getElem? (i := 57) rfl)))) (mvT hZ (hw _ (List.mem_of_getElem? (i := 57) rfl))) (mvT hZ (hw _ (List.mem_of_getElem? (i := 56) rfl))) (by decide) (backOf (W := 0) (rm7 l Z a0 hw [] (b1) (((fl >>> ((4 : Int32) &&& 31)) &&& (1 : Int32))) ((0 : Int32)) ((0 : Int32)) (x2_r) h12 n0 Zs12 j12_2 j12_3 j12_4 j12_5 j12_1 gg1) hZ (hw _ (List.mem_of_getElem? (i := 58) rfl)) (hw _ (List.mem_of_getElem? (i := 2) rfl)) (by decide) (by decide)) q17a q17c (g := (mkF m 102 #[iv w, iv hgt, iv fl, iv ps, rv b1, iv ((fl >>> ((4 : Int32) &&& 31)) &&& (1 : Int32)), iv ((fl >>> ((5 : Int32) &&& 31)) &&& (1 : Int32)), iv ((fl >>> ((6 : Int32) &&& 31)) &&& (1 : Int32)), .unset, .unset] [(.ref b1)])) rfl (by rw [hml]; rfl) (Steps.refl _) (argsL := []) (rest := []) (lenOf pd_0 rfl) rfl (by show 2 * 0 + _ ≤ _; exact Nat.le_of_eq rfl) (hb hby at_102) (fun _ _ => ⟨rfl, e12, (by decide : 4 + 0 ≤ _), (by decide : 31 + 0 ≤ _)⟩)
              dsimp only [Pt.U, Pt.locs, Pt.cells, Pt.slots] at X17 l17 y17 z17 st17 hQ17
              subst l17 y17 z17
              obtain ⟨rfl, Nq17, Kq17, u17_0, u17_1, u17_2, u17_3⟩ := hQ17
              have N17 := Fr.app N12 Nq17
              have f17_0 := own_Sta_keep j12_0 Kq17 (nsS j12_1.nostat ns0)
              have f17_1 := j12_1.keep Kq17
              have f17_6 := j12_6.keep Kq17
              have f17_7 := j12_7.keep Kq17 (ninS (Ne.symm ne2_b1) nin0)
              have f17_8 := j12_8.keep Kq17 (ninS (Ne.symm ne2_b1) nin0)
              have f17_9 := j12_9.keep Kq17 (ninS (Ne.symm ne2_b1) nin0)
              have f17_10 := j12_10.keep Kq17 (ninS (Ne.symm ne2_b1) nin0)
              have Zs17 : n0 ≤ T17.heap.size := Nat.le_trans Zs12 Kq17.1
              refine own_st (fun _ kk_ => st17.trans kk_) ?_
              show own_Goes p e below s (Q0 Z w hgt fl ps e9 h0 n0) 24 192 T17 (mkF m 105 #[iv w, iv hgt, iv fl, iv ps, rv b1, iv ((fl >>> ((4 : Int32) &&& 31)) &&& (1 : Int32)), iv ((fl >>> ((5 : Int32) &&& 31)) &&& (1 : Int32)), iv ((fl >>> ((6 : Int32) &&& 31)) &&& (1 : Int32)), .unset, .unset] [])
              have fz18 : Fld Z T17.heap b1 "com/example/treepass/treepass/FrameState" "laidOut" "I" (.int ((fl >>> ((5 : Int32) &&& 31)) &&& (1 : Int32))) := by have z := u17_1; rw [(show (0 : Int32) + 1 = ((fl >>> ((5 : Int32) &&& 31)) &&& (1 : Int32)) from qJ105.symm)] at z; exact z
              exact J105 _ _ _ (X17.more (by decide) (by decide)) rfl N17 Zs17 f17_0 f17_1 u17_0 fz18 u17_2 u17_3 f17_6 f17_7 f17_8 f17_9 f17_10
            · refine own_st (fun _ kk_ => XS.icmpYes X12.here hx rfl (pc0 := 97) (pc' := 105) rfl (hb hby at_97) rfl (XT.ii_ne_t qJ105) (by decide) (by decide) kk_) ?_
              show own_Goes p e below s (Q0 Z w hgt fl ps e9 h0 n0) 24 192 T12 (mkF m 105 #[iv w, iv hgt, iv fl, iv ps, rv b1, iv ((fl >>> ((4 : Int32) &&& 31)) &&& (1 : Int32)), iv ((fl >>> ((5 : Int32) &&& 31)) &&& (1 : Int32)), iv ((fl >>> ((6 : Int32) &&& 31)) &&& (1 : Int32)), .unset, .unset] [])
              have fz19 : Fld Z h12 b1 "com/example/treepass/treepass/FrameState" "laidOut" "I" (.int ((fl >>> ((5 : Int32) &&& 31)) &&& (1 : Int32))) := by have z := j12_3; rw [own_in qJ105] at z; exact z
              exact J105 _ _ _ (X12.more (by decide) (by decide)) e12 N12 Zs12 j12_0 j12_1 j12_2 fz19 j12_4 j12_5 j12_6 j12_7 j12_8 j12_9 j12_10
          rcases Classical.em (((fl >>> ((4 : Int32) &&& 31)) &&& (1 : Int32)) = (1 : Int32)) with qJ94 | qJ94
          · refine own_st (fun _ kk_ => XS.icmpNo X10.here hx rfl (hb hby at_86) rfl (XT.ii_ne_f qJ94) (XS.aload X10.here hx rfl (hb hby at_89) rfl rfl kk_)) ?_
            show own_Goes p e below s (Q0 Z w hgt fl ps e9 h0 n0) 24 192 T10 (mkF m 91 #[iv w, iv hgt, iv fl, iv ps, rv b1, iv ((fl >>> ((4 : Int32) &&& 31)) &&& (1 : Int32)), iv ((fl >>> ((5 : Int32) &&& 31)) &&& (1 : Int32)), iv ((fl >>> ((6 : Int32) &&& 31)) &&& (1 : Int32)), .unset, .unset] [(.ref b1)])
            obtain ⟨cq13, kq13, q13a, q13b, q13c⟩ := isOf hZ e10 j10_1
            obtain ⟨_, _, ⟨T13, L13, k13, n13⟩, -, X13, ⟨Lc13, hQ13, l13, y13, z13⟩, st13⟩ := X10.virtualBack hx (y := (⟨"com/example/treepass/treepass/FrameState", "viewMeasured", "()V"⟩ : MethodName)) (z := (⟨"com/example/treepass/treepass/FrameState", "viewMeasured", "()V"⟩ : MethodName)) hown (mvT hZ (hw _ (List.mem_of_getElem? (i := 150) rfl))) (mvT hZ (hw _ (List.mem_of_getElem? (i := 151) rfl))) (notFace_of_selects (args := #[]) (mvT hZ (hw _ (List.mem_of_getElem? (i := 153) rfl)))) (mvT hZ (hw _ (List.mem_of_getElem? (i := 153) rfl))) (mvT hZ (hw _ (List.mem_of_getElem? (i := 152) rfl))) (by decide) (backOf (W := 0) (rm22 l Z a0 hw [] (b1) ((0 : Int32)) ((0 : Int32)) ((0 : Int32)) (x2_r) h10 n0 Zs10 j10_2 j10_3 j10_4 j10_5 j10_1 gg1) hZ (hw _ (List.mem_of_getElem? (i := 154) rfl)) (hw _ (List.mem_of_getElem? (i := 2) rfl)) (by decide) (by decide)) q13a q13c (g := (mkF m 91 #[iv w, iv hgt, iv fl, iv ps, rv b1, iv ((fl >>> ((4 : Int32) &&& 31)) &&& (1 : Int32)), iv ((fl >>> ((5 : Int32) &&& 31)) &&& (1 : Int32)), iv ((fl >>> ((6 : Int32) &&& 31)) &&& (1 : Int32)), .unset, .unset] [(.ref b1)])) rfl (by rw [hml]; rfl) (Steps.refl _) (argsL := []) (rest := []) (lenOf pd_0 rfl) rfl (by show 2 * 0 + _ ≤ _; exact Nat.le_of_eq rfl) (hb hby at_91) (fun _ _ => ⟨rfl, e10, (by decide : 4 + 0 ≤ _), (by decide : 31 + 0 ≤ _)⟩)
            dsimp only [Pt.U, Pt.locs, Pt.cells, Pt.slots] at X13 l13 y13 z13 st13 hQ13
            subst l13 y13 z13
            obtain ⟨rfl, Nq13, Kq13, u13_0, u13_1, u13_2, u13_3⟩ := hQ13
            have N13 := Fr.app N10 Nq13
            have f13_0 := own_Sta_keep j10_0 Kq13 (nsS j10_1.nostat ns0)
            have f13_1 := j10_1.keep Kq13
            have f13_6 := j10_6.keep Kq13
            have f13_7 := j10_7.keep Kq13 (ninS (Ne.symm ne2_b1) nin0)
            have f13_8 := j10_8.keep Kq13 (ninS (Ne.symm ne2_b1) nin0)
            have f13_9 := j10_9.keep Kq13 (ninS (Ne.symm ne2_b1) nin0)
            have f13_10 := j10_10.keep Kq13 (ninS (Ne.symm ne2_b1) nin0)
            have Zs13 : n0 ≤ T13.heap.size := Nat.le_trans Zs10 Kq13.1
            refine own_st (fun _ kk_ => st13.trans kk_) ?_
            show own_Goes p e below s (Q0 Z w hgt fl ps e9 h0 n0) 24 192 T13 (mkF m 94 #[iv w, iv hgt, iv fl, iv ps, rv b1, iv ((fl >>> ((4 : Int32) &&& 31)) &&& (1 : Int32)), iv ((fl >>> ((5 : Int32) &&& 31)) &&& (1 : Int32)), iv ((fl >>> ((6 : Int32) &&& 31)) &&& (1 : Int32)), .unset, .unset] [])
            have fz14 : Fld Z T13.heap b1 "com/example/treepass/treepass/FrameState" "measured" "I" (.int ((fl >>> ((4 : Int32) &&& 31)) &&& (1 : Int32))) := by have z := u13_0; rw [(show (0 : Int32) + 1 = ((fl >>> ((4 : Int32) &&& 31)) &&& (1 : Int32)) from qJ94.symm)] at z; exact z
            exact J94 _ _ _ (X13.more (by decide) (by decide)) rfl N13 Zs13 f13_0 f13_1 fz14 u13_1 u13_2 u13_3 f13_6 f13_7 f13_8 f13_9 f13_10
          · refine own_st (fun _ kk_ => XS.icmpYes X10.here hx rfl (pc0 := 86) (pc' := 94) rfl (hb hby at_86) rfl (XT.ii_ne_t qJ94) (by decide) (by decide) kk_) ?_
            show own_Goes p e below s (Q0 Z w hgt fl ps e9 h0 n0) 24 192 T10 (mkF m 94 #[iv w, iv hgt, iv fl, iv ps, rv b1, iv ((fl >>> ((4 : Int32) &&& 31)) &&& (1 : Int32)), iv ((fl >>> ((5 : Int32) &&& 31)) &&& (1 : Int32)), iv ((fl >>> ((6 : Int32) &&& 31)) &&& (1 : Int32)), .unset, .unset] [])
            have fz15 : Fld Z h10 b1 "com/example/treepass/treepass/FrameState" "measured" "I" (.int ((fl >>> ((4 : Int32) &&& 31)) &&& (1 : Int32))) := by have z := j10_2; rw [own_in qJ94] at z; exact z
            exact J94 _ _ _ (X10.more (by decide) (by decide)) e10 N10 Zs10 j10_0 j10_1 fz15 j10_3 j10_4 j10_5 j10_6 j10_7 j10_8 j10_9 j10_10
        rcases Classical.em ((fl &&& (8 : Int32)) = (0 : Int32)) with qJ61 | qJ61
        · refine own_st (fun _ kk_ => XS.ifYes X9.here hx rfl (pc0 := 53) (pc' := 61) rfl (hb hby at_53) rfl (XT.i0_eq_t qJ61) (by decide) (by decide) kk_) ?_
          show own_Goes p e below s (Q0 Z w hgt fl ps e9 h0 n0) 24 192 T9 (mkF m 61 #[iv w, iv hgt, iv fl, iv ps, rv b1, .unset, .unset, .unset, .unset, .unset] [])
          exact J61 _ _ _ (X9.more (by decide) (by decide)) rfl N9 Zs9 f9_0 f9_1 u9_0 u9_1 u9_2 u9_3 f9_6 f9_7 f9_8 f9_9 f9_10
        · refine own_st (fun _ kk_ => XS.ifNo X9.here hx rfl (hb hby at_53) rfl (XT.i0_eq_f qJ61) (XS.aload X9.here hx rfl (hb hby at_56) rfl rfl kk_)) ?_
          show own_Goes p e below s (Q0 Z w hgt fl ps e9 h0 n0) 24 192 T9 (mkF m 58 #[iv w, iv hgt, iv fl, iv ps, rv b1, .unset, .unset, .unset, .unset, .unset] [(.ref b1)])
          obtain ⟨cq11, kq11, q11a, q11b, q11c⟩ := isOf hZ rfl f9_1
          obtain ⟨_, _, ⟨T11, L11, k11, n11⟩, -, X11, ⟨Lc11, hQ11, l11, y11, z11⟩, st11⟩ := X9.virtualBack hx (y := (⟨"com/example/treepass/treepass/FrameState", "beginFrame", "()V"⟩ : MethodName)) (z := (⟨"com/example/treepass/treepass/FrameState", "beginFrame", "()V"⟩ : MethodName)) hown (mvT hZ (hw _ (List.mem_of_getElem? (i := 61) rfl))) (mvT hZ (hw _ (List.mem_of_getElem? (i := 62) rfl))) (notFace_of_selects (args := #[]) (mvT hZ (hw _ (List.mem_of_getElem? (i := 64) rfl)))) (mvT hZ (hw _ (List.mem_of_getElem? (i := 64) rfl))) (mvT hZ (hw _ (List.mem_of_getElem? (i := 63) rfl))) (by decide) (backOf (W := 0) (rm8 l Z a0 hw [] (b1) ((0 : Int32)) ((0 : Int32)) ((0 : Int32)) (x2_r) T9.heap n0 Zs9 u9_0 u9_1 u9_2 u9_3 f9_1 gg1) hZ (hw _ (List.mem_of_getElem? (i := 65) rfl)) (hw _ (List.mem_of_getElem? (i := 2) rfl)) (by decide) (by decide)) q11a q11c (g := (mkF m 58 #[iv w, iv hgt, iv fl, iv ps, rv b1, .unset, .unset, .unset, .unset, .unset] [(.ref b1)])) rfl (by rw [hml]; rfl) (Steps.refl _) (argsL := []) (rest := []) (lenOf pd_0 rfl) rfl (by show 2 * 0 + _ ≤ _; exact Nat.le_of_eq rfl) (hb hby at_58) (fun _ _ => ⟨rfl, rfl, (by decide : 4 + 0 ≤ _), (by decide : 31 + 0 ≤ _)⟩)
          dsimp only [Pt.U, Pt.locs, Pt.cells, Pt.slots] at X11 l11 y11 z11 st11 hQ11
          subst l11 y11 z11
          obtain ⟨rfl, Nq11, Kq11, u11_0, u11_1, u11_2, u11_3⟩ := hQ11
          have N11 := Fr.app N9 Nq11
          have f11_0 := own_Sta_keep f9_0 Kq11 (nsS f9_1.nostat ns0)
          have f11_1 := f9_1.keep Kq11
          have f11_2 := f9_6.keep Kq11
          have f11_3 := f9_7.keep Kq11 (ninS (Ne.symm ne2_b1) nin0)
          have f11_4 := f9_8.keep Kq11 (ninS (Ne.symm ne2_b1) nin0)
          have f11_5 := f9_9.keep Kq11 (ninS (Ne.symm ne2_b1) nin0)
          have f11_6 := f9_10.keep Kq11 (ninS (Ne.symm ne2_b1) nin0)
          have Zs11 : n0 ≤ T11.heap.size := Nat.le_trans Zs9 Kq11.1
          refine own_st (fun _ kk_ => st11.trans kk_) ?_
          show own_Goes p e below s (Q0 Z w hgt fl ps e9 h0 n0) 24 192 T11 (mkF m 61 #[iv w, iv hgt, iv fl, iv ps, rv b1, .unset, .unset, .unset, .unset, .unset] [])
          exact J61 _ _ _ (X11.more (by decide) (by decide)) rfl N11 Zs11 f11_0 f11_1 u11_0 u11_1 u11_2 u11_3 f11_2 f11_3 f11_4 f11_5 f11_6
      rcases Classical.em ((fl &&& (4 : Int32)) = (0 : Int32)) with qJ44 | qJ44
      · refine own_st (fun _ kk_ => XS.ifYes X5.here hx rfl (pc0 := 36) (pc' := 44) rfl (hb hby at_36) rfl (XT.i0_eq_t qJ44) (by decide) (by decide) kk_) ?_
        show own_Goes p e below s (Q0 Z w hgt fl ps e9 h0 n0) 24 192 T5 (mkF m 44 #[iv w, iv hgt, iv fl, iv ps, rv b1, .unset, .unset, .unset, .unset, .unset] [])
        exact J44 _ _ _ (m2) (l2) (d2) (X5.more (by decide) (by decide)) e5 N5 Zs5 j5_0 j5_1 j5_2 j5_3 j5_4 j5_5 j5_6 j5_7 j5_8 j5_9 j5_10
      · refine own_st (fun _ kk_ => XS.ifNo X5.here hx rfl (hb hby at_36) rfl (XT.i0_eq_f qJ44) (XS.aload X5.here hx rfl (hb hby at_39) rfl rfl kk_)) ?_
        show own_Goes p e below s (Q0 Z w hgt fl ps e9 h0 n0) 24 192 T5 (mkF m 41 #[iv w, iv hgt, iv fl, iv ps, rv b1, .unset, .unset, .unset, .unset, .unset] [(.ref b1)])
        obtain ⟨cq8, kq8, q8a, q8b, q8c⟩ := isOf hZ e5 j5_1
        obtain ⟨_, _, ⟨T8, L8, k8, n8⟩, -, X8, ⟨Lc8, hQ8, l8, y8, z8⟩, st8⟩ := X5.virtualBack hx (y := (⟨"com/example/treepass/treepass/FrameState", "viewDrawn", "()V"⟩ : MethodName)) (z := (⟨"com/example/treepass/treepass/FrameState", "viewDrawn", "()V"⟩ : MethodName)) hown (mvT hZ (hw _ (List.mem_of_getElem? (i := 145) rfl))) (mvT hZ (hw _ (List.mem_of_getElem? (i := 146) rfl))) (notFace_of_selects (args := #[]) (mvT hZ (hw _ (List.mem_of_getElem? (i := 148) rfl)))) (mvT hZ (hw _ (List.mem_of_getElem? (i := 148) rfl))) (mvT hZ (hw _ (List.mem_of_getElem? (i := 147) rfl))) (by decide) (backOf (W := 0) (rm21 l Z a0 hw [] (b1) (m2) (l2) (d2) (x2_r) h5 n0 Zs5 j5_2 j5_3 j5_4 j5_5 j5_1 gg1) hZ (hw _ (List.mem_of_getElem? (i := 149) rfl)) (hw _ (List.mem_of_getElem? (i := 2) rfl)) (by decide) (by decide)) q8a q8c (g := (mkF m 41 #[iv w, iv hgt, iv fl, iv ps, rv b1, .unset, .unset, .unset, .unset, .unset] [(.ref b1)])) rfl (by rw [hml]; rfl) (Steps.refl _) (argsL := []) (rest := []) (lenOf pd_0 rfl) rfl (by show 2 * 0 + _ ≤ _; exact Nat.le_of_eq rfl) (hb hby at_41) (fun _ _ => ⟨rfl, e5, (by decide : 4 + 0 ≤ _), (by decide : 31 + 0 ≤ _)⟩)
        dsimp only [Pt.U, Pt.locs, Pt.cells, Pt.slots] at X8 l8 y8 z8 st8 hQ8
        subst l8 y8 z8
        obtain ⟨rfl, Nq8, Kq8, u8_0, u8_1, u8_2, u8_3⟩ := hQ8
        have N8 := Fr.app N5 Nq8
        have f8_0 := own_Sta_keep j5_0 Kq8 (nsS j5_1.nostat ns0)
        have f8_1 := j5_1.keep Kq8
        have f8_6 := j5_6.keep Kq8
        have f8_7 := j5_7.keep Kq8 (ninS (Ne.symm ne2_b1) nin0)
        have f8_8 := j5_8.keep Kq8 (ninS (Ne.symm ne2_b1) nin0)
        have f8_9 := j5_9.keep Kq8 (ninS (Ne.symm ne2_b1) nin0)
        have f8_10 := j5_10.keep Kq8 (ninS (Ne.symm ne2_b1) nin0)
        have Zs8 : n0 ≤ T8.heap.size := Nat.le_trans Zs5 Kq8.1
        refine own_st (fun _ kk_ => st8.trans kk_) ?_
        show own_Goes p e below s (Q0 Z w hgt fl ps e9 h0 n0) 24 192 T8 (mkF m 44 #[iv w, iv hgt, iv fl, iv ps, rv b1, .unset, .unset, .unset, .unset, .unset] [])
        exact J44 _ _ _ (m2) (l2) ((d2 + (1 : Int32))) (X8.more (by decide) (by decide)) rfl N8 Zs8 f8_0 f8_1 u8_0 u8_1 u8_2 u8_3 f8_6 f8_7 f8_8 f8_9 f8_10
    rcases Classical.em ((fl &&& (2 : Int32)) = (0 : Int32)) with qJ33 | qJ33
    · refine own_st (fun _ kk_ => XS.ifYes X3.here hx rfl (pc0 := 25) (pc' := 33) rfl (hb hby at_25) rfl (XT.i0_eq_t qJ33) (by decide) (by decide) kk_) ?_
      show own_Goes p e below s (Q0 Z w hgt fl ps e9 h0 n0) 24 192 T3 (mkF m 33 #[iv w, iv hgt, iv fl, iv ps, rv b1, .unset, .unset, .unset, .unset, .unset] [])
      exact J33 _ _ _ (m1) (l1) (d1) (X3.more (by decide) (by decide)) e3 N3 Zs3 j3_0 j3_1 j3_2 j3_3 j3_4 j3_5 j3_6 j3_7 j3_8 j3_9 j3_10
    · refine own_st (fun _ kk_ => XS.ifNo X3.here hx rfl (hb hby at_25) rfl (XT.i0_eq_f qJ33) (XS.aload X3.here hx rfl (hb hby at_28) rfl rfl kk_)) ?_
      show own_Goes p e below s (Q0 Z w hgt fl ps e9 h0 n0) 24 192 T3 (mkF m 30 #[iv w, iv hgt, iv fl, iv ps, rv b1, .unset, .unset, .unset, .unset, .unset] [(.ref b1)])
      obtain ⟨cq6, kq6, q6a, q6b, q6c⟩ := isOf hZ e3 j3_1
      obtain ⟨_, _, ⟨T6, L6, k6, n6⟩, -, X6, ⟨Lc6, hQ6, l6, y6, z6⟩, st6⟩ := X3.virtualBack hx (y := (⟨"com/example/treepass/treepass/FrameState", "viewLaidOut", "()V"⟩ : MethodName)) (z := (⟨"com/example/treepass/treepass/FrameState", "viewLaidOut", "()V"⟩ : MethodName)) hown (mvT hZ (hw _ (List.mem_of_getElem? (i := 54) rfl))) (mvT hZ (hw _ (List.mem_of_getElem? (i := 55) rfl))) (notFace_of_selects (args := #[]) (mvT hZ (hw _ (List.mem_of_getElem? (i := 57) rfl)))) (mvT hZ (hw _ (List.mem_of_getElem? (i := 57) rfl))) (mvT hZ (hw _ (List.mem_of_getElem? (i := 56) rfl))) (by decide) (backOf (W := 0) (rm7 l Z a0 hw [] (b1) (m1) (l1) (d1) (x2_r) h3 n0 Zs3 j3_2 j3_3 j3_4 j3_5 j3_1 gg1) hZ (hw _ (List.mem_of_getElem? (i := 58) rfl)) (hw _ (List.mem_of_getElem? (i := 2) rfl)) (by decide) (by decide)) q6a q6c (g := (mkF m 30 #[iv w, iv hgt, iv fl, iv ps, rv b1, .unset, .unset, .unset, .unset, .unset] [(.ref b1)])) rfl (by rw [hml]; rfl) (Steps.refl _) (argsL := []) (rest := []) (lenOf pd_0 rfl) rfl (by show 2 * 0 + _ ≤ _; exact Nat.le_of_eq rfl) (hb hby at_30) (fun _ _ => ⟨rfl, e3, (by decide : 4 + 0 ≤ _), (by decide : 31 + 0 ≤ _)⟩)
      dsimp only [Pt.U, Pt.locs, Pt.cells, Pt.slots] at X6 l6 y6 z6 st6 hQ6
      subst l6 y6 z6
      obtain ⟨rfl, Nq6, Kq6, u6_0, u6_1, u6_2, u6_3⟩ := hQ6
      have N6 := Fr.app N3 Nq6
      have f6_0 := own_Sta_keep j3_0 Kq6 (nsS j3_1.nostat ns0)
      have f6_1 := j3_1.keep Kq6
      have f6_6 := j3_6.keep Kq6
      have f6_7 := j3_7.keep Kq6 (ninS (Ne.symm ne2_b1) nin0)
      have f6_8 := j3_8.keep Kq6 (ninS (Ne.symm ne2_b1) nin0)
      have f6_9 := j3_9.keep Kq6 (ninS (Ne.symm ne2_b1) nin0)
      have f6_10 := j3_10.keep Kq6 (ninS (Ne.symm ne2_b1) nin0)
      have Zs6 : n0 ≤ T6.heap.size := Nat.le_trans Zs3 Kq6.1
      refine own_st (fun _ kk_ => st6.trans kk_) ?_
      show own_Goes p e below s (Q0 Z w hgt fl ps e9 h0 n0) 24 192 T6 (mkF m 33 #[iv w, iv hgt, iv fl, iv ps, rv b1, .unset, .unset, .unset, .unset, .unset] [])
      exact J33 _ _ _ (m1) ((l1 + (1 : Int32))) (d1) (X6.more (by decide) (by decide)) rfl N6 Zs6 f6_0 f6_1 u6_0 u6_1 u6_2 u6_3 f6_6 f6_7 f6_8 f6_9 f6_10
  rcases Classical.em ((fl &&& (1 : Int32)) = (0 : Int32)) with qJ22 | qJ22
  · refine own_st (fun _ kk_ => XS.ifYes X2.here hx rfl (pc0 := 14) (pc' := 22) rfl (hb hby at_14) rfl (XT.i0_eq_t qJ22) (by decide) (by decide) kk_) ?_
    show own_Goes p e below s (Q0 Z w hgt fl ps e9 h0 n0) 24 192 T2 (mkF m 22 #[iv w, iv hgt, iv fl, iv ps, rv b1, .unset, .unset, .unset, .unset, .unset] [])
    exact J22 _ _ _ ((0 : Int32)) ((0 : Int32)) ((0 : Int32)) (X2.more (by decide) (by decide)) rfl N2 Zs2 f2_0 f2_1 u2_7 u2_8 u2_9 u2_1 u2_2 u2_3 u2_4 u2_5 u2_6
  · refine own_st (fun _ kk_ => XS.ifNo X2.here hx rfl (hb hby at_14) rfl (XT.i0_eq_f qJ22) (XS.aload X2.here hx rfl (hb hby at_17) rfl rfl kk_)) ?_
    show own_Goes p e below s (Q0 Z w hgt fl ps e9 h0 n0) 24 192 T2 (mkF m 19 #[iv w, iv hgt, iv fl, iv ps, rv b1, .unset, .unset, .unset, .unset, .unset] [(.ref b1)])
    obtain ⟨cq4, kq4, q4a, q4b, q4c⟩ := isOf hZ rfl f2_1
    obtain ⟨_, _, ⟨T4, L4, k4, n4⟩, -, X4, ⟨Lc4, hQ4, l4, y4, z4⟩, st4⟩ := X2.virtualBack hx (y := (⟨"com/example/treepass/treepass/FrameState", "viewMeasured", "()V"⟩ : MethodName)) (z := (⟨"com/example/treepass/treepass/FrameState", "viewMeasured", "()V"⟩ : MethodName)) hown (mvT hZ (hw _ (List.mem_of_getElem? (i := 150) rfl))) (mvT hZ (hw _ (List.mem_of_getElem? (i := 151) rfl))) (notFace_of_selects (args := #[]) (mvT hZ (hw _ (List.mem_of_getElem? (i := 153) rfl)))) (mvT hZ (hw _ (List.mem_of_getElem? (i := 153) rfl))) (mvT hZ (hw _ (List.mem_of_getElem? (i := 152) rfl))) (by decide) (backOf (W := 0) (rm22 l Z a0 hw [] (b1) ((0 : Int32)) ((0 : Int32)) ((0 : Int32)) (x2_r) T2.heap n0 Zs2 u2_7 u2_8 u2_9 u2_1 f2_1 gg1) hZ (hw _ (List.mem_of_getElem? (i := 154) rfl)) (hw _ (List.mem_of_getElem? (i := 2) rfl)) (by decide) (by decide)) q4a q4c (g := (mkF m 19 #[iv w, iv hgt, iv fl, iv ps, rv b1, .unset, .unset, .unset, .unset, .unset] [(.ref b1)])) rfl (by rw [hml]; rfl) (Steps.refl _) (argsL := []) (rest := []) (lenOf pd_0 rfl) rfl (by show 2 * 0 + _ ≤ _; exact Nat.le_of_eq rfl) (hb hby at_19) (fun _ _ => ⟨rfl, rfl, (by decide : 4 + 0 ≤ _), (by decide : 31 + 0 ≤ _)⟩)
    dsimp only [Pt.U, Pt.locs, Pt.cells, Pt.slots] at X4 l4 y4 z4 st4 hQ4
    subst l4 y4 z4
    obtain ⟨rfl, Nq4, Kq4, u4_0, u4_1, u4_2, u4_3⟩ := hQ4
    have N4 := Fr.app N2 Nq4
    have f4_0 := own_Sta_keep f2_0 Kq4 (nsS f2_1.nostat ns0)
    have f4_1 := f2_1.keep Kq4
    have f4_3 := u2_2.keep Kq4
    have f4_4 := u2_3.keep Kq4 (ninS (Ne.symm ne2_b1) nin0)
    have f4_5 := u2_4.keep Kq4 (ninS (Ne.symm ne2_b1) nin0)
    have f4_6 := u2_5.keep Kq4 (ninS (Ne.symm ne2_b1) nin0)
    have f4_7 := u2_6.keep Kq4 (ninS (Ne.symm ne2_b1) nin0)
    have Zs4 : n0 ≤ T4.heap.size := Nat.le_trans Zs2 Kq4.1
    refine own_st (fun _ kk_ => st4.trans kk_) ?_
    show own_Goes p e below s (Q0 Z w hgt fl ps e9 h0 n0) 24 192 T4 (mkF m 22 #[iv w, iv hgt, iv fl, iv ps, rv b1, .unset, .unset, .unset, .unset, .unset] [])
    exact J22 _ _ _ (((0 : Int32) + (1 : Int32))) ((0 : Int32)) ((0 : Int32)) (X4.more (by decide) (by decide)) rfl N4 Zs4 f4_0 f4_1 u4_0 u4_1 u4_2 u4_3 f4_3 f4_4 f4_5 f4_6 f4_7
set_option maxRecDepth 65536 in
set_option maxHeartbeats 40000000 in
theorem comes_1 {Post : Tables → Env → Array Value → State → Outcome → State → Prop} (hpost : ∀ tb e args s v u, (limb_1_1.after args s (.returned v) u = true ∧ limb_1_2.after args s (.returned v) u = true ∧ True) → FrameEnd s (.returned v) u (Jvm.fieldLocs frame_1_writes args s ++ Jvm.arrayLocs frame_1_arrays args s ++ Jvm.staticLocs frame_1_statics s) 24 192 → Post tb e args s (.returned v) u) :
    ArmFor flags0 classFile x code maxLocals ret World_1 tables_1 room_1 Calls_1 rest_1 Pre_1 Post := by
  intro l hfl _ _ p e ha hc hk s m args below hf hA hF happ hP
  obtain ⟨hcalls, hrest, hpre⟩ := hP
  obtain ⟨-, -, -, hnamed, -, -, -, hat⟩ := (Spec.applies_iff hf).mp happ
  obtain ⟨hg, hn⟩ := and_e (Cond.before_iff.mp (show (Jvm.Cond.and given_1 narrow_1).before args s = true from hpre))
  obtain ⟨h1, g0⟩ := and_e hg
  obtain ⟨w0, w1, w2, w3, rfl⟩ : ∃ w0 w1 w2 w3 : Value, args = #[w0, w1, w2, w3] := by
    have hs : args.size = 4 := by simpa [Cond.value, given_1] using h1
    obtain ⟨L⟩ := args
    match L, hs with
    | [w0, w1, w2, w3], _ => exact ⟨w0, w1, w2, w3, rfl⟩
  have hw := fun d (hd : d ∈ tables_1) => atoms_spec (ws := Jvm.Cond.code x code maxLocals ret :: tables_1) hat d (List.mem_cons_of_mem _ hd)
  have hfit : Fit s := fun {y c} hc i hi => by
    obtain ⟨ha, rfl⟩ := Array.getElem?_eq_some_iff.mp hc
    have q := List.all_eq_true.mp ((Array.all_eq_true_iff_forall_mem.mp hF) _ (Array.getElem_mem ha)) i (List.mem_range.mpr hi)
    simpa [Array.getElem?_eq_getElem hi] using q
  obtain ⟨k0, g1⟩ := and_e g0
  obtain ⟨i0, e0⟩ := is_v k0
  obtain rfl : w0 = (.int i0) := Option.some.inj e0
  obtain ⟨k1, g2⟩ := and_e g1
  obtain ⟨i1, e1⟩ := is_v k1
  obtain rfl : w1 = (.int i1) := Option.some.inj e1
  obtain ⟨k2, g3⟩ := and_e g2
  obtain ⟨i2, e2⟩ := is_v k2
  obtain rfl : w2 = (.int i2) := Option.some.inj e2
  obtain ⟨i3, e3⟩ := is_v g3
  obtain rfl : w3 = (.int i3) := Option.some.inj e3
  have c0 := hn
  obtain ⟨s_EMPTY, ev_EMPTY⟩ := exa_v c0
  have Ex_EMPTY : Exa s s.heap s_EMPTY "com/example/treepass/treepass/Rect" := Exa.start ev_EMPTY c0
  have St_EMPTY : Sta s s.heap "com/example/treepass/treepass/Rect" "EMPTY" "Lcom/example/treepass/treepass/Rect;" (.ref s_EMPTY) := Sta.start ev_EMPTY (Or.inr ⟨(hw _ (List.mem_of_getElem? (i := 34) rfl)), (hw _ (List.mem_of_getElem? (i := 71) rfl))⟩)
  obtain ⟨n, o, h1, h2, h3, _, L, rfl, ⟨rfl, N⟩, hq⟩ := rm0 l s _ hw tables_1 i0 i1 i2 i3 s_EMPTY s.heap s.heap.size (Nat.le_refl _) St_EMPTY p e ha hc hk s m _ below hf ((Spec.applies_iff_loose hf).mp happ).1 ⟨rfl, State.Warmed39.refl s, rfl⟩ trivial
  refine ⟨n, _, h1, h2, h3, hpost _ _ _ _ _ _ ⟨Cond.after_iff.mpr rfl, Cond.after_iff.mpr (eq_i res_at (Term.int_eval (1)) rfl), trivial⟩ ⟨hq.1, hq.2.1, (hq.2.2.sift fun y hy => Or.inr (N y hy)).mono (by decide) (by decide)⟩⟩
theorem main_1_1 : Claimed_1_1 := comes_1 fun _ _ _ _ _ _ h hF => ⟨h.1, hF⟩
theorem main_1_2 : Claimed_1_2 := comes_1 fun _ _ _ _ _ _ h hF => ⟨h.2.1, hF⟩
end Jvm.Pilot.@@N@@
namespace Jvm.Pilot.@@N@@
open Jvm Jvm.ClassFile Sem Op Lib Jvm.Free Jvm.Stand Jvm.Pilot.@@N@@.Jvm.D
/-! MADE BY PROGRAM (witnessworld.py) out of the Statement's table words and the real class files: 20 classes; the members and pool entries that the words name. The judged class is class 1, her method 1. -/
namespace start1
open Jvm.ClassFile
def u (s : String) : CpInfo := .utf8 (stringToUtf16 s)
/-- a pool by its gaps: so many unusable entries, then the entry; so many at the end -/
def gap : Nat → List CpInfo → List CpInfo
  | 0, r => r
  | n + 1, r => .unusable :: gap n r
def poolList (es : List (Nat × CpInfo)) (last : Nat) : List CpInfo := es.foldr (fun e r => gap e.1 (e.2 :: r)) (gap last [])
def pool (es : List (Nat × CpInfo)) (last : Nat) : Array CpInfo := ⟨poolList es last⟩
def fileOf (pool : Array CpInfo) (this : Nat) (attrs : Array Attribute := #[]) (ms : Array MethodInfo := #[]) (fl : Nat := 33) (sup : Nat := 0) (ifs : Array Nat := #[]) (fds : Array FieldInfo := #[]) : ClassFile where
  minorVersion := 0
  majorVersion := 65
  constantPool := pool
  accessFlags := fl
  thisClass := this
  superClass := sup
  interfaces := ifs
  fields := fds
  methods := ms
  attributes := attrs
def plain (name : String) (sup : Option ClassId) : Class where
  name := name
  kind := .ordinary
  loader := none
  accessFlags := 33
  super := sup
  interfaces := #[]
  cf := none
  fields := #[]
  methods := #[]
  instanceTypes := #[]
  staticTypes := #[]
  resolved := #[]
  callSites := []
  init := .initialized
  statics := none
  mirror := none

def pool0 : Array CpInfo := pool [(5, u "<init>"), (0, u "()V"), (1, .class_ 10), (1, u "java/lang/Object")] 113

def k0c0 : Code := { maxStack := 0, maxLocals := 1, code := object_method_1_code, exceptionTable := #[], attributes := #[] }
def k0m0 : Method := { name := "<init>", desc := "()V", sig := { parameters := [], returnType := none }, accessFlags := 1, code := some k0c0 }
/-- java/lang/Object -/
def k0 : Class := { plain "java/lang/Object" none with
  accessFlags := 33
  interfaces := #[]
  cf := some (fileOf pool0 8 #[] #[{ accessFlags := 1, nameIndex := 5, descriptorIndex := 6, attributes := #[] }] 33 0 #[] #[])
  fields := #[]
  methods := #[k0m0]
  instanceTypes := #[]
  staticTypes := #[]
  resolved := Array.replicate 124 none
  statics := none }

def pool1 : Array CpInfo := pool [(2, .class_ 4), (1, u "java/lang/Object"), (0, u "<init>"), (0, u "()V"), (0, .class_ 8), (0, u "com/example/treepass/treepass/FrameState"), (0, .methodref 7 10), (0, .nameAndType 5 11), (0, u "(II)V"), (0, .methodref 7 13), (0, .nameAndType 14 6), (0, u "viewMeasured"), (0, .methodref 7 16), (0, .nameAndType 17 6), (0, u "viewLaidOut"), (0, .methodref 7 19), (0, .nameAndType 20 6), (0, u "viewDrawn"), (0, .methodref 7 22), (0, .nameAndType 23 6), (0, u "beginFrame"), (0, .fieldref 25 26), (0, .class_ 27), (0, .nameAndType 28 29), (0, u "com/example/treepass/treepass/Rect"), (0, u "EMPTY"), (0, u "Lcom/example/treepass/treepass/Rect;"), (0, .methodref 7 31), (0, .nameAndType 32 33), (0, u "report"), (0, u "(ILcom/example/treepass/treepass/Rect;)Lcom/example/treepass/treepass/FrameReport;"), (0, .methodref 7 35), (0, .nameAndType 36 37), (0, u "takeDirty"), (0, u "()Lcom/example/treepass/treepass/Rect;"), (0, .methodref 39 40), (0, .class_ 41), (0, .nameAndType 42 43), (0, u "com/example/treepass/treepass/FrameReport"), (0, u "layoutPasses"), (0, u "()I"), (0, .methodref 39 45), (0, .nameAndType 46 43), (0, u "measured"), (0, .methodref 39 48), (0, .nameAndType 49 43), (0, u "laidOut"), (0, .methodref 39 51), (0, .nameAndType 52 43), (0, u "drawn"), (0, .methodref 39 54), (0, .nameAndType 55 37), (0, u "dirty"), (0, .methodref 25 57), (0, .nameAndType 58 43), (0, u "left"), (0, .methodref 25 60), (0, .nameAndType 61 43), (0, u "top"), (0, .methodref 25 63), (0, .nameAndType 64 43), (0, u "right"), (0, .methodref 25 66), (0, .nameAndType 67 43), (0, u "bottom"), (0, .class_ 69), (0, u "com/example/treepass/treepass/FrameStateBeginFramePinLaw"), (2, u "law"), (0, u "(IIII)Z")] 3

def k1m0 : Method := { name := "<init>", desc := "()V", sig := { parameters := [], returnType := none }, accessFlags := 1, code := none }
def k1c1 : Code := { maxStack := 4, maxLocals := 10, code := code, exceptionTable := #[], attributes := #[] }
def k1m1 : Method := { name := "law", desc := "(IIII)Z", sig := { parameters := [.int, .int, .int, .int], returnType := some .boolean }, accessFlags := 9, code := some k1c1 }
/-- com/example/treepass/treepass/FrameStateBeginFramePinLaw -/
def k1 : Class := { plain "com/example/treepass/treepass/FrameStateBeginFramePinLaw" (some 0) with
  accessFlags := 49
  interfaces := #[]
  cf := some (fileOf pool1 68 #[] #[{ accessFlags := 1, nameIndex := 5, descriptorIndex := 6, attributes := #[] }, { accessFlags := 9, nameIndex := 72, descriptorIndex := 73, attributes := #[] }] 49 2 #[] #[])
  fields := #[]
  methods := #[k1m0, k1m1]
  instanceTypes := #[]
  staticTypes := #[]
  resolved := Array.replicate 77 none
  statics := none }

def pool2 : Array CpInfo := pool [(1, .methodref 2 3), (0, .class_ 4), (0, .nameAndType 5 6), (0, u "java/lang/Object"), (0, u "<init>"), (0, u "()V"), (0, .class_ 8), (0, u "java/util/ArrayDeque"), (0, .methodref 7 3), (0, .fieldref 11 12), (0, .class_ 13), (0, .nameAndType 14 15), (0, u "com/example/treepass/treepass/FrameState"), (0, u "posted"), (0, u "Ljava/util/Deque;"), (0, .fieldref 11 17), (0, .nameAndType 18 19), (0, u "windowWidth"), (0, u "I"), (0, .fieldref 11 21), (0, .nameAndType 22 19), (0, u "windowHeight"), (0, .class_ 24), (0, u "com/example/treepass/treepass/Rect"), (0, .methodref 23 26), (0, .nameAndType 5 27), (0, u "(IIII)V"), (0, .fieldref 11 29), (0, .nameAndType 30 31), (0, u "dirty"), (0, u "Lcom/example/treepass/treepass/Rect;"), (17, .fieldref 11 50), (0, .nameAndType 51 19), (0, u "measured"), (0, .fieldref 11 53), (0, .nameAndType 54 19), (0, u "laidOut"), (0, .fieldref 11 56), (0, .nameAndType 57 19), (0, u "drawn"), (0, .fieldref 23 59), (0, .nameAndType 60 31), (0, u "EMPTY"), (19, .class_ 81), (0, u "com/example/treepass/treepass/FrameReport"), (0, .methodref 80 83), (0, .nameAndType 5 84), (0, u "(IIIILcom/example/treepass/treepass/Rect;)V"), (2, u "(II)V"), (4, u "beginFrame"), (0, u "takeDirty"), (0, u "()Lcom/example/treepass/treepass/Rect;"), (0, u "viewMeasured"), (0, u "viewLaidOut"), (0, u "viewDrawn"), (4, u "report"), (0, u "(ILcom/example/treepass/treepass/Rect;)Lcom/example/treepass/treepass/FrameReport;")] 2

def k2c0 : Code := { maxStack := 7, maxLocals := 3, code := prog_21_method_1_code, exceptionTable := #[], attributes := #[] }
def k2m0 : Method := { name := "<init>", desc := "(II)V", sig := { parameters := [.int, .int], returnType := none }, accessFlags := 0, code := some k2c0 }
def k2c1 : Code := { maxStack := 2, maxLocals := 1, code := prog_21_method_4_code, exceptionTable := #[], attributes := #[] }
def k2m1 : Method := { name := "beginFrame", desc := "()V", sig := { parameters := [], returnType := none }, accessFlags := 0, code := some k2c1 }
def k2c2 : Code := { maxStack := 2, maxLocals := 2, code := prog_21_method_5_code, exceptionTable := #[], attributes := #[] }
def k2m2 : Method := { name := "takeDirty", desc := "()Lcom/example/treepass/treepass/Rect;", sig := { parameters := [], returnType := some (.object "com/example/treepass/treepass/Rect") }, accessFlags := 0, code := some k2c2 }
def k2c3 : Code := { maxStack := 3, maxLocals := 1, code := prog_21_method_6_code, exceptionTable := #[], attributes := #[] }
def k2m3 : Method := { name := "viewMeasured", desc := "()V", sig := { parameters := [], returnType := none }, accessFlags := 0, code := some k2c3 }
def k2c4 : Code := { maxStack := 3, maxLocals := 1, code := prog_21_method_7_code, exceptionTable := #[], attributes := #[] }
def k2m4 : Method := { name := "viewLaidOut", desc := "()V", sig := { parameters := [], returnType := none }, accessFlags := 0, code := some k2c4 }
def k2c5 : Code := { maxStack := 3, maxLocals := 1, code := prog_21_method_8_code, exceptionTable := #[], attributes := #[] }
def k2m5 : Method := { name := "viewDrawn", desc := "()V", sig := { parameters := [], returnType := none }, accessFlags := 0, code := some k2c5 }
def k2c6 : Code := { maxStack := 7, maxLocals := 3, code := prog_21_method_11_code, exceptionTable := #[], attributes := #[] }
def k2m6 : Method := { name := "report", desc := "(ILcom/example/treepass/treepass/Rect;)Lcom/example/treepass/treepass/FrameReport;", sig := { parameters := [.int, (.object "com/example/treepass/treepass/Rect")], returnType := some (.object "com/example/treepass/treepass/FrameReport") }, accessFlags := 0, code := some k2c6 }
/-- com/example/treepass/treepass/FrameState -/
def k2 : Class := { plain "com/example/treepass/treepass/FrameState" (some 0) with
  accessFlags := 48
  interfaces := #[]
  cf := some (fileOf pool2 11 #[] #[{ accessFlags := 0, nameIndex := 5, descriptorIndex := 87, attributes := #[] }, { accessFlags := 0, nameIndex := 92, descriptorIndex := 6, attributes := #[] }, { accessFlags := 0, nameIndex := 93, descriptorIndex := 94, attributes := #[] }, { accessFlags := 0, nameIndex := 95, descriptorIndex := 6, attributes := #[] }, { accessFlags := 0, nameIndex := 96, descriptorIndex := 6, attributes := #[] }, { accessFlags := 0, nameIndex := 97, descriptorIndex := 6, attributes := #[] }, { accessFlags := 0, nameIndex := 102, descriptorIndex := 103, attributes := #[] }] 48 2 #[] #[{ accessFlags := 18, nameIndex := 18, descriptorIndex := 19, attributes := #[] }, { accessFlags := 18, nameIndex := 22, descriptorIndex := 19, attributes := #[] }, { accessFlags := 2, nameIndex := 30, descriptorIndex := 31, attributes := #[] }, { accessFlags := 2, nameIndex := 51, descriptorIndex := 19, attributes := #[] }, { accessFlags := 2, nameIndex := 54, descriptorIndex := 19, attributes := #[] }, { accessFlags := 2, nameIndex := 57, descriptorIndex := 19, attributes := #[] }, { accessFlags := 18, nameIndex := 14, descriptorIndex := 15, attributes := #[] }])
  fields := #[{ name := "windowWidth", type := .int, accessFlags := 18, slot := 0, constantValue := 0 }, { name := "windowHeight", type := .int, accessFlags := 18, slot := 1, constantValue := 0 }, { name := "dirty", type := (.object "com/example/treepass/treepass/Rect"), accessFlags := 2, slot := 2, constantValue := 0 }, { name := "measured", type := .int, accessFlags := 2, slot := 3, constantValue := 0 }, { name := "laidOut", type := .int, accessFlags := 2, slot := 4, constantValue := 0 }, { name := "drawn", type := .int, accessFlags := 2, slot := 5, constantValue := 0 }, { name := "posted", type := (.object "java/util/Deque"), accessFlags := 18, slot := 6, constantValue := 0 }]
  methods := #[k2m0, k2m1, k2m2, k2m3, k2m4, k2m5, k2m6]
  instanceTypes := #[.int, .int, (.object "com/example/treepass/treepass/Rect"), .int, .int, .int, (.object "java/util/Deque")]
  staticTypes := #[]
  resolved := Array.replicate 106 none
  statics := none }

def pool3 : Array CpInfo := pool [(8, .class_ 10), (1, u "java/lang/Iterable"), (24, .class_ 36), (0, u "java/lang/Object")] 25

/-- java/lang/Iterable -/
def k3 : Class := { plain "java/lang/Iterable" (some 0) with
  accessFlags := 1537
  interfaces := #[]
  cf := some (fileOf pool3 8 #[] #[] 1537 35 #[] #[])
  fields := #[]
  methods := #[]
  instanceTypes := #[]
  staticTypes := #[]
  resolved := Array.replicate 62 none
  statics := none }

def pool4 : Array CpInfo := pool [(10, .class_ 12), (1, u "java/util/Collection"), (47, .class_ 61), (0, u "java/lang/Object"), (0, .class_ 63), (0, u "java/lang/Iterable")] 51

/-- java/util/Collection -/
def k4 : Class := { plain "java/util/Collection" (some 0) with
  accessFlags := 1537
  interfaces := #[3]
  cf := some (fileOf pool4 10 #[] #[] 1537 60 #[62] #[])
  fields := #[]
  methods := #[]
  instanceTypes := #[]
  staticTypes := #[]
  resolved := Array.replicate 115 none
  statics := none }

def pool5 : Array CpInfo := pool [(1, .methodref 2 3), (0, .class_ 4), (0, .nameAndType 5 6), (0, u "java/lang/Object"), (0, u "<init>"), (0, u "()V"), (1, .class_ 10), (1, u "java/util/AbstractCollection"), (66, .class_ 78), (0, u "java/util/Collection")] 81

def k5c0 : Code := { maxStack := 1, maxLocals := 1, code := jdk_22_method_1_code, exceptionTable := #[], attributes := #[] }
def k5m0 : Method := { name := "<init>", desc := "()V", sig := { parameters := [], returnType := none }, accessFlags := 4, code := some k5c0 }
/-- java/util/AbstractCollection -/
def k5 : Class := { plain "java/util/AbstractCollection" (some 0) with
  accessFlags := 1057
  interfaces := #[4]
  cf := some (fileOf pool5 8 #[] #[{ accessFlags := 4, nameIndex := 5, descriptorIndex := 6, attributes := #[] }] 1057 2 #[77] #[])
  fields := #[]
  methods := #[k5m0]
  instanceTypes := #[]
  staticTypes := #[]
  resolved := Array.replicate 160 none
  statics := none }

def pool6 : Array CpInfo := pool [(1, .class_ 2), (0, u "java/util/Queue"), (0, .class_ 4), (0, u "java/lang/Object"), (0, .class_ 6), (0, u "java/util/Collection")] 14

/-- java/util/Queue -/
def k6 : Class := { plain "java/util/Queue" (some 0) with
  accessFlags := 1537
  interfaces := #[4]
  cf := some (fileOf pool6 1 #[] #[] 1537 3 #[5] #[])
  fields := #[]
  methods := #[]
  instanceTypes := #[]
  staticTypes := #[]
  resolved := Array.replicate 21 none
  statics := none }

def pool7 : Array CpInfo := pool [(8, .class_ 10), (1, u "java/util/SequencedCollection"), (15, .class_ 27), (0, u "java/lang/Object"), (0, .class_ 29), (0, u "java/util/Collection")] 27

/-- java/util/SequencedCollection -/
def k7 : Class := { plain "java/util/SequencedCollection" (some 0) with
  accessFlags := 1537
  interfaces := #[4]
  cf := some (fileOf pool7 8 #[] #[] 1537 26 #[28] #[])
  fields := #[]
  methods := #[]
  instanceTypes := #[]
  staticTypes := #[]
  resolved := Array.replicate 57 none
  statics := none }

def pool8 : Array CpInfo := pool [(8, .class_ 10), (1, u "java/util/Deque"), (2, .class_ 14), (0, u "java/lang/Object"), (0, .class_ 16), (0, u "java/util/Queue"), (0, .class_ 18), (0, u "java/util/SequencedCollection")] 51

/-- java/util/Deque -/
def k8 : Class := { plain "java/util/Deque" (some 0) with
  accessFlags := 1537
  interfaces := #[6, 7]
  cf := some (fileOf pool8 8 #[] #[] 1537 13 #[15, 17] #[])
  fields := #[]
  methods := #[]
  instanceTypes := #[]
  staticTypes := #[]
  resolved := Array.replicate 70 none
  statics := none }

def pool9 : Array CpInfo := pool [(1, .class_ 2), (0, u "java/lang/Cloneable"), (0, .class_ 4), (0, u "java/lang/Object")] 2

/-- java/lang/Cloneable -/
def k9 : Class := { plain "java/lang/Cloneable" (some 0) with
  accessFlags := 1537
  interfaces := #[]
  cf := some (fileOf pool9 1 #[] #[] 1537 3 #[] #[])
  fields := #[]
  methods := #[]
  instanceTypes := #[]
  staticTypes := #[]
  resolved := Array.replicate 7 none
  statics := none }

def pool10 : Array CpInfo := pool [(1, .class_ 2), (0, u "java/io/Serializable"), (0, .class_ 4), (0, u "java/lang/Object")] 2

/-- java/io/Serializable -/
def k10 : Class := { plain "java/io/Serializable" (some 0) with
  accessFlags := 1537
  interfaces := #[]
  cf := some (fileOf pool10 1 #[] #[] 1537 3 #[] #[])
  fields := #[]
  methods := #[]
  instanceTypes := #[]
  staticTypes := #[]
  resolved := Array.replicate 7 none
  statics := none }

def pool11 : Array CpInfo := pool [(3, .fieldref 4 5), (0, .class_ 6), (0, .nameAndType 7 8), (0, u "java/util/ArrayDeque"), (0, u "elements"), (0, u "[Ljava/lang/Object;"), (13, u "tail"), (0, u "I"), (2, u "head"), (12, u "<init>"), (2, .methodref 43 44), (0, .class_ 45), (0, .nameAndType 39 46), (0, u "java/util/AbstractCollection"), (0, u "()V"), (0, .class_ 48), (0, u "java/lang/Object"), (82, .class_ 132), (0, u "java/util/ArrayDeque$DeqIterator"), (3, .class_ 137), (0, u "java/util/ArrayDeque$DescendingIterator"), (1, .class_ 140), (0, u "java/util/ArrayDeque$DeqSpliterator"), (137, .class_ 279), (0, u "java/util/Deque"), (0, .class_ 281), (0, u "java/lang/Cloneable"), (0, .class_ 283), (0, u "java/io/Serializable"), (0, u "MAX_ARRAY_SIZE"), (1, u "serialVersionUID"), (0, u "J")] 150

def k11c0 : Code := { maxStack := 2, maxLocals := 1, code := jdk_21_method_3_code, exceptionTable := #[], attributes := #[] }
def k11m0 : Method := { name := "<init>", desc := "()V", sig := { parameters := [], returnType := none }, accessFlags := 1, code := some k11c0 }
/-- java/util/ArrayDeque -/
def k11 : Class := { plain "java/util/ArrayDeque" (some 5) with
  accessFlags := 33
  interfaces := #[8, 9, 10]
  cf := some (fileOf pool11 4 #[.nestMembers #[139, 136, 131]] #[{ accessFlags := 1, nameIndex := 39, descriptorIndex := 46, attributes := #[] }] 33 43 #[278, 280, 282] #[{ accessFlags := 128, nameIndex := 7, descriptorIndex := 8, attributes := #[] }, { accessFlags := 128, nameIndex := 26, descriptorIndex := 23, attributes := #[] }, { accessFlags := 128, nameIndex := 22, descriptorIndex := 23, attributes := #[] }, { accessFlags := 26, nameIndex := 284, descriptorIndex := 23, attributes := #[] }, { accessFlags := 26, nameIndex := 286, descriptorIndex := 287, attributes := #[] }])
  fields := #[{ name := "elements", type := (.array (.object "java/lang/Object")), accessFlags := 128, slot := 0, constantValue := 0 }, { name := "head", type := .int, accessFlags := 128, slot := 1, constantValue := 0 }, { name := "tail", type := .int, accessFlags := 128, slot := 2, constantValue := 0 }, { name := "MAX_ARRAY_SIZE", type := .int, accessFlags := 26, slot := 0, constantValue := 0 }, { name := "serialVersionUID", type := .long, accessFlags := 26, slot := 1, constantValue := 0 }]
  methods := #[k11m0]
  instanceTypes := #[(.array (.object "java/lang/Object")), .int, .int]
  staticTypes := #[.int, .long]
  resolved := Array.replicate 438 none
  statics := none }

def pool12 : Array CpInfo := pool [(1, .methodref 2 3), (0, .class_ 4), (0, .nameAndType 5 6), (0, u "java/lang/Object"), (0, u "<init>"), (0, u "()V"), (0, .class_ 8), (0, u "java/lang/Record")] 13

def k12c0 : Code := { maxStack := 1, maxLocals := 1, code := jdk_30_method_1_code, exceptionTable := #[], attributes := #[] }
def k12m0 : Method := { name := "<init>", desc := "()V", sig := { parameters := [], returnType := none }, accessFlags := 4, code := some k12c0 }
/-- java/lang/Record -/
def k12 : Class := { plain "java/lang/Record" (some 0) with
  accessFlags := 1057
  interfaces := #[]
  cf := some (fileOf pool12 7 #[] #[{ accessFlags := 4, nameIndex := 5, descriptorIndex := 6, attributes := #[] }] 1057 2 #[] #[])
  fields := #[]
  methods := #[k12m0]
  instanceTypes := #[]
  staticTypes := #[]
  resolved := Array.replicate 22 none
  statics := none }

def pool13 : Array CpInfo := pool [(1, .methodref 2 3), (0, .class_ 4), (0, .nameAndType 5 6), (0, u "java/lang/Record"), (0, u "<init>"), (0, u "()V"), (0, .fieldref 8 9), (0, .class_ 10), (0, .nameAndType 11 12), (0, u "com/example/treepass/treepass/Rect"), (0, u "left"), (0, u "I"), (0, .fieldref 8 14), (0, .nameAndType 15 12), (0, u "top"), (0, .fieldref 8 17), (0, .nameAndType 18 12), (0, u "right"), (0, .fieldref 8 20), (0, .nameAndType 21 12), (0, u "bottom"), (15, u "(IIII)V"), (14, u "EMPTY"), (0, u "Lcom/example/treepass/treepass/Rect;"), (7, u "()I")] 25

def k13c0 : Code := { maxStack := 2, maxLocals := 5, code := prog_50_method_1_code, exceptionTable := #[], attributes := #[] }
def k13m0 : Method := { name := "<init>", desc := "(IIII)V", sig := { parameters := [.int, .int, .int, .int], returnType := none }, accessFlags := 1, code := some k13c0 }
def k13c1 : Code := { maxStack := 1, maxLocals := 1, code := prog_50_method_7_code, exceptionTable := #[], attributes := #[] }
def k13m1 : Method := { name := "left", desc := "()I", sig := { parameters := [], returnType := some .int }, accessFlags := 1, code := some k13c1 }
def k13c2 : Code := { maxStack := 1, maxLocals := 1, code := prog_50_method_8_code, exceptionTable := #[], attributes := #[] }
def k13m2 : Method := { name := "top", desc := "()I", sig := { parameters := [], returnType := some .int }, accessFlags := 1, code := some k13c2 }
def k13c3 : Code := { maxStack := 1, maxLocals := 1, code := prog_50_method_9_code, exceptionTable := #[], attributes := #[] }
def k13m3 : Method := { name := "right", desc := "()I", sig := { parameters := [], returnType := some .int }, accessFlags := 1, code := some k13c3 }
def k13c4 : Code := { maxStack := 1, maxLocals := 1, code := prog_50_method_10_code, exceptionTable := #[], attributes := #[] }
def k13m4 : Method := { name := "bottom", desc := "()I", sig := { parameters := [], returnType := some .int }, accessFlags := 1, code := some k13c4 }
/-- com/example/treepass/treepass/Rect -/
def k13 : Class := { plain "com/example/treepass/treepass/Rect" (some 12) with
  accessFlags := 49
  interfaces := #[]
  cf := some (fileOf pool13 8 #[] #[{ accessFlags := 1, nameIndex := 5, descriptorIndex := 37, attributes := #[] }, { accessFlags := 1, nameIndex := 11, descriptorIndex := 61, attributes := #[] }, { accessFlags := 1, nameIndex := 15, descriptorIndex := 61, attributes := #[] }, { accessFlags := 1, nameIndex := 18, descriptorIndex := 61, attributes := #[] }, { accessFlags := 1, nameIndex := 21, descriptorIndex := 61, attributes := #[] }] 49 2 #[] #[{ accessFlags := 18, nameIndex := 11, descriptorIndex := 12, attributes := #[] }, { accessFlags := 18, nameIndex := 15, descriptorIndex := 12, attributes := #[] }, { accessFlags := 18, nameIndex := 18, descriptorIndex := 12, attributes := #[] }, { accessFlags := 18, nameIndex := 21, descriptorIndex := 12, attributes := #[] }, { accessFlags := 25, nameIndex := 52, descriptorIndex := 53, attributes := #[] }])
  fields := #[{ name := "left", type := .int, accessFlags := 18, slot := 0, constantValue := 0 }, { name := "top", type := .int, accessFlags := 18, slot := 1, constantValue := 0 }, { name := "right", type := .int, accessFlags := 18, slot := 2, constantValue := 0 }, { name := "bottom", type := .int, accessFlags := 18, slot := 3, constantValue := 0 }, { name := "EMPTY", type := (.object "com/example/treepass/treepass/Rect"), accessFlags := 25, slot := 0, constantValue := 0 }]
  methods := #[k13m0, k13m1, k13m2, k13m3, k13m4]
  instanceTypes := #[.int, .int, .int, .int]
  staticTypes := #[(.object "com/example/treepass/treepass/Rect")]
  resolved := Array.replicate 87 none
  statics := some 0 }

def pool14 : Array CpInfo := pool [(1, .methodref 2 3), (0, .class_ 4), (0, .nameAndType 5 6), (0, u "java/lang/Record"), (0, u "<init>"), (0, u "()V"), (0, .fieldref 8 9), (0, .class_ 10), (0, .nameAndType 11 12), (0, u "com/example/treepass/treepass/FrameReport"), (0, u "layoutPasses"), (0, u "I"), (0, .fieldref 8 14), (0, .nameAndType 15 12), (0, u "measured"), (0, .fieldref 8 17), (0, .nameAndType 18 12), (0, u "laidOut"), (0, .fieldref 8 20), (0, .nameAndType 21 12), (0, u "drawn"), (0, .fieldref 8 23), (0, .nameAndType 24 25), (0, u "dirty"), (0, u "Lcom/example/treepass/treepass/Rect;"), (12, u "(IIIILcom/example/treepass/treepass/Rect;)V"), (4, u "()I"), (1, u "()Lcom/example/treepass/treepass/Rect;")] 24

def k14c0 : Code := { maxStack := 2, maxLocals := 6, code := prog_20_method_1_code, exceptionTable := #[], attributes := #[] }
def k14m0 : Method := { name := "<init>", desc := "(IIIILcom/example/treepass/treepass/Rect;)V", sig := { parameters := [.int, .int, .int, .int, (.object "com/example/treepass/treepass/Rect")], returnType := none }, accessFlags := 1, code := some k14c0 }
def k14c1 : Code := { maxStack := 1, maxLocals := 1, code := prog_20_method_5_code, exceptionTable := #[], attributes := #[] }
def k14m1 : Method := { name := "layoutPasses", desc := "()I", sig := { parameters := [], returnType := some .int }, accessFlags := 1, code := some k14c1 }
def k14c2 : Code := { maxStack := 1, maxLocals := 1, code := prog_20_method_6_code, exceptionTable := #[], attributes := #[] }
def k14m2 : Method := { name := "measured", desc := "()I", sig := { parameters := [], returnType := some .int }, accessFlags := 1, code := some k14c2 }
def k14c3 : Code := { maxStack := 1, maxLocals := 1, code := prog_20_method_7_code, exceptionTable := #[], attributes := #[] }
def k14m3 : Method := { name := "laidOut", desc := "()I", sig := { parameters := [], returnType := some .int }, accessFlags := 1, code := some k14c3 }
def k14c4 : Code := { maxStack := 1, maxLocals := 1, code := prog_20_method_8_code, exceptionTable := #[], attributes := #[] }
def k14m4 : Method := { name := "drawn", desc := "()I", sig := { parameters := [], returnType := some .int }, accessFlags := 1, code := some k14c4 }
def k14c5 : Code := { maxStack := 1, maxLocals := 1, code := prog_20_method_9_code, exceptionTable := #[], attributes := #[] }
def k14m5 : Method := { name := "dirty", desc := "()Lcom/example/treepass/treepass/Rect;", sig := { parameters := [], returnType := some (.object "com/example/treepass/treepass/Rect") }, accessFlags := 1, code := some k14c5 }
/-- com/example/treepass/treepass/FrameReport -/
def k14 : Class := { plain "com/example/treepass/treepass/FrameReport" (some 12) with
  accessFlags := 49
  interfaces := #[]
  cf := some (fileOf pool14 8 #[] #[{ accessFlags := 1, nameIndex := 5, descriptorIndex := 38, attributes := #[] }, { accessFlags := 1, nameIndex := 11, descriptorIndex := 43, attributes := #[] }, { accessFlags := 1, nameIndex := 15, descriptorIndex := 43, attributes := #[] }, { accessFlags := 1, nameIndex := 18, descriptorIndex := 43, attributes := #[] }, { accessFlags := 1, nameIndex := 21, descriptorIndex := 43, attributes := #[] }, { accessFlags := 1, nameIndex := 24, descriptorIndex := 45, attributes := #[] }] 49 2 #[] #[{ accessFlags := 18, nameIndex := 11, descriptorIndex := 12, attributes := #[] }, { accessFlags := 18, nameIndex := 15, descriptorIndex := 12, attributes := #[] }, { accessFlags := 18, nameIndex := 18, descriptorIndex := 12, attributes := #[] }, { accessFlags := 18, nameIndex := 21, descriptorIndex := 12, attributes := #[] }, { accessFlags := 18, nameIndex := 24, descriptorIndex := 25, attributes := #[] }])
  fields := #[{ name := "layoutPasses", type := .int, accessFlags := 18, slot := 0, constantValue := 0 }, { name := "measured", type := .int, accessFlags := 18, slot := 1, constantValue := 0 }, { name := "laidOut", type := .int, accessFlags := 18, slot := 2, constantValue := 0 }, { name := "drawn", type := .int, accessFlags := 18, slot := 3, constantValue := 0 }, { name := "dirty", type := (.object "com/example/treepass/treepass/Rect"), accessFlags := 18, slot := 4, constantValue := 0 }]
  methods := #[k14m0, k14m1, k14m2, k14m3, k14m4, k14m5]
  instanceTypes := #[.int, .int, .int, .int, (.object "com/example/treepass/treepass/Rect")]
  staticTypes := #[]
  resolved := Array.replicate 70 none
  statics := none }

/-- the primitive byte -/
def k15 : Class := { plain "byte" none with kind := .primitive 'B', accessFlags := 0x411 }
/-- [B -/
def k16 : Class := { plain "[B" (some 0) with kind := .array 15 .byte, interfaces := #[9, 10], accessFlags := 1041 }

/-- the primitive int -/
def k17 : Class := { plain "int" none with kind := .primitive 'I', accessFlags := 0x411 }
/-- [I -/
def k18 : Class := { plain "[I" (some 0) with kind := .array 17 .int, interfaces := #[9, 10], accessFlags := 1041 }

/-- [Ljava/lang/Object; -/
def k19 : Class := { plain "[Ljava/lang/Object;" (some 0) with kind := .array 0 (.object "java/lang/Object"), interfaces := #[9, 10], accessFlags := 1041 }

def heap : Heap := #[{ cls := 13, slots := #[.ref 1], vm := .statics 13 },
  { cls := 13, slots := #[.int 0, .int 0, .int 0, .int 0], vm := .none }]
def classes : Array Class := #[k0, k1, k2, k3, k4, k5, k6, k7, k8, k9, k10, k11, k12, k13, k14, k15, k16, k17, k18, k19]
def interned : List (Array UInt16 × Addr) := []
def slotsUsed : Nat := 5
def theMethod : MethodId := ⟨1, 1⟩
def args0 : Array Value := #[.int 1, .int 2, .int 3, .int 4]
def aboutOver (below : List Frame) : State where
  vm := { classes := classes, interned := interned.toArray }
  heap := heap
  slotsUsed := slotsUsed
  threads := #[{ frames := .invoking theMethod args0 :: below }]
def below0 : List Frame := [.native { method := ⟨0, 0⟩, args := #[] }]
def about1 : State := aboutOver below0
def p0 : Program := .bare "" "" ""
def e0 : Env := launch0.env 0 0 0
theorem w_frames : about1.frames = Frame.invoking theMethod args0 :: below0 := rfl
set_option maxRecDepth 65536 in
theorem w_args : argsFit about1.vm theMethod args0 = true := by decide +kernel
set_option maxRecDepth 65536 in
theorem w_heap : heapFits about1 = true := by decide +kernel
set_option maxRecDepth 65536 in
theorem w_runnable : about1.curStatus? = some .runnable := by decide +kernel
set_option maxRecDepth 65536 in
theorem w_alone : about1.alone = true := by decide +kernel
set_option maxRecDepth 65536 in
theorem w_named : about1.methodNamed? x = some theMethod := by decide +kernel
set_option maxRecDepth 65536 in
theorem w_hears : about1.hears theMethod below0 = true := by decide +kernel
set_option maxRecDepth 65536 in
theorem w_ripe : about1.ripe theMethod args0 below0 = true := by decide +kernel
theorem w_running : about1.status = .running := rfl
set_option maxRecDepth 65536 in
theorem w_room : about1.hasRoom e0.platform room_1 = true :=
  launch0.hasRoom_least _ room_1 (by decide +kernel) (by decide +kernel) (by decide +kernel) (by decide +kernel) (by decide +kernel) (by decide +kernel)
theorem allAtoms_all (ts : List Jvm.Cond) (a : Array Jvm.Value) (st : Jvm.State) : (allAtoms ts).before a st = ts.all (fun c => c.before a st) := by
  induction ts with
  | nil => rfl
  | cons c t ih =>
    show (Jvm.Cond.and c (allAtoms t)).before a st = _
    rw [Jvm.Cond.before_and, ih, List.all_cons]
def words1 : List Jvm.Cond := Jvm.Cond.code x code maxLocals ret :: tables_1
/-- a 'code' word, met by the world's own term for the bytes: nothing is compared byte by byte -/
theorem code_word {y : MethodName} {bytes : ByteArray} {mx : Nat} {rt : Option FieldType} {a : Array Value} {s : State} {m : MethodId} {meth : Method} {c : Code} (h1 : s.methodNamed? y = some m) (h2 : s.vm.method? m = some meth) (h3 : meth.code = some c) (h4 : c.code = bytes)
    (h5 : (c.maxLocals == mx && c.exceptionTable.isEmpty && decide (c.maxStack ≤ mostOperands) && decide (meth.sig.returnType = rt) && !meth.locks && decide (parseMethodDescriptor y.desc = some meth.sig)) = true) : (Jvm.Cond.code y bytes mx rt).before a s = true := by
  simp only [Bool.and_eq_true, beq_iff_eq, Bool.not_eq_true', decide_eq_true_eq] at h5
  obtain ⟨⟨⟨⟨⟨g1, g2⟩, g3⟩, g4⟩, g5⟩, g6⟩ := h5
  simp [Cond.before, Cond.holds, Cond.value, h1, h2, h3, h4, g1, g2, g3, g4, g5, g6]
def isCode : Jvm.Cond → Bool
  | .code _ _ _ _ => true
  | _ => false
theorem all_split {L : List Jvm.Cond} {P : Jvm.Cond → Bool} (h1 : L.all (fun c => isCode c || P c) = true) (h2 : ∀ c ∈ L.filter isCode, P c = true) : L.all P = true := by
  refine List.all_eq_true.mpr fun c hc => ?_
  have h := List.all_eq_true.mp h1 c hc
  rcases Bool.eq_false_or_eq_true (isCode c) with hi | hi
  · exact h2 c (List.mem_filter.mpr ⟨hc, hi⟩)
  · simpa [hi] using h
set_option maxRecDepth 65536 in
theorem w_c0 : (Jvm.Cond.code x code maxLocals ret).before args0 about1 = true := code_word (m := ⟨1, 1⟩) (meth := k1m1) (c := k1c1) (by decide +kernel) rfl rfl rfl (by decide +kernel)
set_option maxRecDepth 65536 in
theorem w_c1 : (Jvm.Cond.code ({ cls := "com/example/treepass/treepass/FrameState", name := "<init>", desc := "(II)V" } : Jvm.MethodName) prog_21_method_1_code (3 : Nat) (Option.none : Option Jvm.ClassFile.FieldType)).before args0 about1 = true := code_word (m := ⟨2, 0⟩) (meth := k2m0) (c := k2c0) (by decide +kernel) rfl rfl rfl (by decide +kernel)
set_option maxRecDepth 65536 in
theorem w_c2 : (Jvm.Cond.code ({ cls := "java/lang/Object", name := "<init>", desc := "()V" } : Jvm.MethodName) object_method_1_code (1 : Nat) (Option.none : Option Jvm.ClassFile.FieldType)).before args0 about1 = true := code_word (m := ⟨0, 0⟩) (meth := k0m0) (c := k0c0) (by decide +kernel) rfl rfl rfl (by decide +kernel)
set_option maxRecDepth 65536 in
theorem w_c3 : (Jvm.Cond.code ({ cls := "java/util/ArrayDeque", name := "<init>", desc := "()V" } : Jvm.MethodName) jdk_21_method_3_code (1 : Nat) (Option.none : Option Jvm.ClassFile.FieldType)).before args0 about1 = true := code_word (m := ⟨11, 0⟩) (meth := k11m0) (c := k11c0) (by decide +kernel) rfl rfl rfl (by decide +kernel)
set_option maxRecDepth 65536 in
theorem w_c4 : (Jvm.Cond.code ({ cls := "java/util/AbstractCollection", name := "<init>", desc := "()V" } : Jvm.MethodName) jdk_22_method_1_code (1 : Nat) (Option.none : Option Jvm.ClassFile.FieldType)).before args0 about1 = true := code_word (m := ⟨5, 0⟩) (meth := k5m0) (c := k5c0) (by decide +kernel) rfl rfl rfl (by decide +kernel)
set_option maxRecDepth 65536 in
theorem w_c5 : (Jvm.Cond.code ({ cls := "com/example/treepass/treepass/Rect", name := "<init>", desc := "(IIII)V" } : Jvm.MethodName) prog_50_method_1_code (5 : Nat) (Option.none : Option Jvm.ClassFile.FieldType)).before args0 about1 = true := code_word (m := ⟨13, 0⟩) (meth := k13m0) (c := k13c0) (by decide +kernel) rfl rfl rfl (by decide +kernel)
set_option maxRecDepth 65536 in
theorem w_c6 : (Jvm.Cond.code ({ cls := "java/lang/Record", name := "<init>", desc := "()V" } : Jvm.MethodName) jdk_30_method_1_code (1 : Nat) (Option.none : Option Jvm.ClassFile.FieldType)).before args0 about1 = true := code_word (m := ⟨12, 0⟩) (meth := k12m0) (c := k12c0) (by decide +kernel) rfl rfl rfl (by decide +kernel)
set_option maxRecDepth 65536 in
theorem w_c7 : (Jvm.Cond.code ({ cls := "com/example/treepass/treepass/FrameState", name := "viewLaidOut", desc := "()V" } : Jvm.MethodName) prog_21_method_7_code (1 : Nat) (Option.none : Option Jvm.ClassFile.FieldType)).before args0 about1 = true := code_word (m := ⟨2, 4⟩) (meth := k2m4) (c := k2c4) (by decide +kernel) rfl rfl rfl (by decide +kernel)
set_option maxRecDepth 65536 in
theorem w_c8 : (Jvm.Cond.code ({ cls := "com/example/treepass/treepass/FrameState", name := "beginFrame", desc := "()V" } : Jvm.MethodName) prog_21_method_4_code (1 : Nat) (Option.none : Option Jvm.ClassFile.FieldType)).before args0 about1 = true := code_word (m := ⟨2, 1⟩) (meth := k2m1) (c := k2c1) (by decide +kernel) rfl rfl rfl (by decide +kernel)
set_option maxRecDepth 65536 in
theorem w_c9 : (Jvm.Cond.code ({ cls := "com/example/treepass/treepass/FrameState", name := "report", desc := "(ILcom/example/treepass/treepass/Rect;)Lcom/example/treepass/treepass/FrameReport;" } : Jvm.MethodName) prog_21_method_11_code (3 : Nat) (Option.some (Jvm.ClassFile.FieldType.object "com/example/treepass/treepass/FrameReport"))).before args0 about1 = true := code_word (m := ⟨2, 6⟩) (meth := k2m6) (c := k2c6) (by decide +kernel) rfl rfl rfl (by decide +kernel)
set_option maxRecDepth 65536 in
theorem w_c10 : (Jvm.Cond.code ({ cls := "com/example/treepass/treepass/FrameReport", name := "<init>", desc := "(IIIILcom/example/treepass/treepass/Rect;)V" } : Jvm.MethodName) prog_20_method_1_code (6 : Nat) (Option.none : Option Jvm.ClassFile.FieldType)).before args0 about1 = true := code_word (m := ⟨14, 0⟩) (meth := k14m0) (c := k14c0) (by decide +kernel) rfl rfl rfl (by decide +kernel)
set_option maxRecDepth 65536 in
theorem w_c11 : (Jvm.Cond.code ({ cls := "com/example/treepass/treepass/FrameState", name := "takeDirty", desc := "()Lcom/example/treepass/treepass/Rect;" } : Jvm.MethodName) prog_21_method_5_code (2 : Nat) (Option.some (Jvm.ClassFile.FieldType.object "com/example/treepass/treepass/Rect"))).before args0 about1 = true := code_word (m := ⟨2, 2⟩) (meth := k2m2) (c := k2c2) (by decide +kernel) rfl rfl rfl (by decide +kernel)
set_option maxRecDepth 65536 in
theorem w_c12 : (Jvm.Cond.code ({ cls := "com/example/treepass/treepass/FrameReport", name := "layoutPasses", desc := "()I" } : Jvm.MethodName) prog_20_method_5_code (1 : Nat) (Option.some Jvm.ClassFile.FieldType.int)).before args0 about1 = true := code_word (m := ⟨14, 1⟩) (meth := k14m1) (c := k14c1) (by decide +kernel) rfl rfl rfl (by decide +kernel)
set_option maxRecDepth 65536 in
theorem w_c13 : (Jvm.Cond.code ({ cls := "com/example/treepass/treepass/FrameReport", name := "measured", desc := "()I" } : Jvm.MethodName) prog_20_method_6_code (1 : Nat) (Option.some Jvm.ClassFile.FieldType.int)).before args0 about1 = true := code_word (m := ⟨14, 2⟩) (meth := k14m2) (c := k14c2) (by decide +kernel) rfl rfl rfl (by decide +kernel)
set_option maxRecDepth 65536 in
theorem w_c14 : (Jvm.Cond.code ({ cls := "com/example/treepass/treepass/FrameReport", name := "laidOut", desc := "()I" } : Jvm.MethodName) prog_20_method_7_code (1 : Nat) (Option.some Jvm.ClassFile.FieldType.int)).before args0 about1 = true := code_word (m := ⟨14, 3⟩) (meth := k14m3) (c := k14c3) (by decide +kernel) rfl rfl rfl (by decide +kernel)
set_option maxRecDepth 65536 in
theorem w_c15 : (Jvm.Cond.code ({ cls := "com/example/treepass/treepass/FrameReport", name := "drawn", desc := "()I" } : Jvm.MethodName) prog_20_method_8_code (1 : Nat) (Option.some Jvm.ClassFile.FieldType.int)).before args0 about1 = true := code_word (m := ⟨14, 4⟩) (meth := k14m4) (c := k14c4) (by decide +kernel) rfl rfl rfl (by decide +kernel)
set_option maxRecDepth 65536 in
theorem w_c16 : (Jvm.Cond.code ({ cls := "com/example/treepass/treepass/FrameReport", name := "dirty", desc := "()Lcom/example/treepass/treepass/Rect;" } : Jvm.MethodName) prog_20_method_9_code (1 : Nat) (Option.some (Jvm.ClassFile.FieldType.object "com/example/treepass/treepass/Rect"))).before args0 about1 = true := code_word (m := ⟨14, 5⟩) (meth := k14m5) (c := k14c5) (by decide +kernel) rfl rfl rfl (by decide +kernel)
set_option maxRecDepth 65536 in
theorem w_c17 : (Jvm.Cond.code ({ cls := "com/example/treepass/treepass/Rect", name := "left", desc := "()I" } : Jvm.MethodName) prog_50_method_7_code (1 : Nat) (Option.some Jvm.ClassFile.FieldType.int)).before args0 about1 = true := code_word (m := ⟨13, 1⟩) (meth := k13m1) (c := k13c1) (by decide +kernel) rfl rfl rfl (by decide +kernel)
set_option maxRecDepth 65536 in
theorem w_c18 : (Jvm.Cond.code ({ cls := "com/example/treepass/treepass/Rect", name := "top", desc := "()I" } : Jvm.MethodName) prog_50_method_8_code (1 : Nat) (Option.some Jvm.ClassFile.FieldType.int)).before args0 about1 = true := code_word (m := ⟨13, 2⟩) (meth := k13m2) (c := k13c2) (by decide +kernel) rfl rfl rfl (by decide +kernel)
set_option maxRecDepth 65536 in
theorem w_c19 : (Jvm.Cond.code ({ cls := "com/example/treepass/treepass/Rect", name := "right", desc := "()I" } : Jvm.MethodName) prog_50_method_9_code (1 : Nat) (Option.some Jvm.ClassFile.FieldType.int)).before args0 about1 = true := code_word (m := ⟨13, 3⟩) (meth := k13m3) (c := k13c3) (by decide +kernel) rfl rfl rfl (by decide +kernel)
set_option maxRecDepth 65536 in
theorem w_c20 : (Jvm.Cond.code ({ cls := "com/example/treepass/treepass/Rect", name := "bottom", desc := "()I" } : Jvm.MethodName) prog_50_method_10_code (1 : Nat) (Option.some Jvm.ClassFile.FieldType.int)).before args0 about1 = true := code_word (m := ⟨13, 4⟩) (meth := k13m4) (c := k13c4) (by decide +kernel) rfl rfl rfl (by decide +kernel)
set_option maxRecDepth 65536 in
theorem w_c21 : (Jvm.Cond.code ({ cls := "com/example/treepass/treepass/FrameState", name := "viewDrawn", desc := "()V" } : Jvm.MethodName) prog_21_method_8_code (1 : Nat) (Option.none : Option Jvm.ClassFile.FieldType)).before args0 about1 = true := code_word (m := ⟨2, 5⟩) (meth := k2m5) (c := k2c5) (by decide +kernel) rfl rfl rfl (by decide +kernel)
set_option maxRecDepth 65536 in
theorem w_c22 : (Jvm.Cond.code ({ cls := "com/example/treepass/treepass/FrameState", name := "viewMeasured", desc := "()V" } : Jvm.MethodName) prog_21_method_6_code (1 : Nat) (Option.none : Option Jvm.ClassFile.FieldType)).before args0 about1 = true := code_word (m := ⟨2, 3⟩) (meth := k2m3) (c := k2c3) (by decide +kernel) rfl rfl rfl (by decide +kernel)
def codes1 : List Jvm.Cond := [Jvm.Cond.code x code maxLocals ret, Jvm.Cond.code ({ cls := "com/example/treepass/treepass/FrameState", name := "<init>", desc := "(II)V" } : Jvm.MethodName) prog_21_method_1_code (3 : Nat) (Option.none : Option Jvm.ClassFile.FieldType), Jvm.Cond.code ({ cls := "java/lang/Object", name := "<init>", desc := "()V" } : Jvm.MethodName) object_method_1_code (1 : Nat) (Option.none : Option Jvm.ClassFile.FieldType), Jvm.Cond.code ({ cls := "java/util/ArrayDeque", name := "<init>", desc := "()V" } : Jvm.MethodName) jdk_21_method_3_code (1 : Nat) (Option.none : Option Jvm.ClassFile.FieldType), Jvm.Cond.code ({ cls := "java/util/AbstractCollection", name := "<init>", desc := "()V" } : Jvm.MethodName) jdk_22_method_1_code (1 : Nat) (Option.none : Option Jvm.ClassFile.FieldType), Jvm.Cond.code ({ cls := "com/example/treepass/treepass/Rect", name := "<init>", desc := "(IIII)V" } : Jvm.MethodName) prog_50_method_1_code (5 : Nat) (Option.none : Option Jvm.ClassFile.FieldType), Jvm.Cond.code ({ cls := "java/lang/Record", name := "<init>", desc := "()V" } : Jvm.MethodName) jdk_30_method_1_code (1 : Nat) (Option.none : Option Jvm.ClassFile.FieldType), Jvm.Cond.code ({ cls := "com/example/treepass/treepass/FrameState", name := "viewLaidOut", desc := "()V" } : Jvm.MethodName) prog_21_method_7_code (1 : Nat) (Option.none : Option Jvm.ClassFile.FieldType), Jvm.Cond.code ({ cls := "com/example/treepass/treepass/FrameState", name := "beginFrame", desc := "()V" } : Jvm.MethodName) prog_21_method_4_code (1 : Nat) (Option.none : Option Jvm.ClassFile.FieldType), Jvm.Cond.code ({ cls := "com/example/treepass/treepass/FrameState", name := "report", desc := "(ILcom/example/treepass/treepass/Rect;)Lcom/example/treepass/treepass/FrameReport;" } : Jvm.MethodName) prog_21_method_11_code (3 : Nat) (Option.some (Jvm.ClassFile.FieldType.object "com/example/treepass/treepass/FrameReport")), Jvm.Cond.code ({ cls := "com/example/treepass/treepass/FrameReport", name := "<init>", desc := "(IIIILcom/example/treepass/treepass/Rect;)V" } : Jvm.MethodName) prog_20_method_1_code (6 : Nat) (Option.none : Option Jvm.ClassFile.FieldType), Jvm.Cond.code ({ cls := "com/example/treepass/treepass/FrameState", name := "takeDirty", desc := "()Lcom/example/treepass/treepass/Rect;" } : Jvm.MethodName) prog_21_method_5_code (2 : Nat) (Option.some (Jvm.ClassFile.FieldType.object "com/example/treepass/treepass/Rect")), Jvm.Cond.code ({ cls := "com/example/treepass/treepass/FrameReport", name := "layoutPasses", desc := "()I" } : Jvm.MethodName) prog_20_method_5_code (1 : Nat) (Option.some Jvm.ClassFile.FieldType.int), Jvm.Cond.code ({ cls := "com/example/treepass/treepass/FrameReport", name := "measured", desc := "()I" } : Jvm.MethodName) prog_20_method_6_code (1 : Nat) (Option.some Jvm.ClassFile.FieldType.int), Jvm.Cond.code ({ cls := "com/example/treepass/treepass/FrameReport", name := "laidOut", desc := "()I" } : Jvm.MethodName) prog_20_method_7_code (1 : Nat) (Option.some Jvm.ClassFile.FieldType.int), Jvm.Cond.code ({ cls := "com/example/treepass/treepass/FrameReport", name := "drawn", desc := "()I" } : Jvm.MethodName) prog_20_method_8_code (1 : Nat) (Option.some Jvm.ClassFile.FieldType.int), Jvm.Cond.code ({ cls := "com/example/treepass/treepass/FrameReport", name := "dirty", desc := "()Lcom/example/treepass/treepass/Rect;" } : Jvm.MethodName) prog_20_method_9_code (1 : Nat) (Option.some (Jvm.ClassFile.FieldType.object "com/example/treepass/treepass/Rect")), Jvm.Cond.code ({ cls := "com/example/treepass/treepass/Rect", name := "left", desc := "()I" } : Jvm.MethodName) prog_50_method_7_code (1 : Nat) (Option.some Jvm.ClassFile.FieldType.int), Jvm.Cond.code ({ cls := "com/example/treepass/treepass/Rect", name := "top", desc := "()I" } : Jvm.MethodName) prog_50_method_8_code (1 : Nat) (Option.some Jvm.ClassFile.FieldType.int), Jvm.Cond.code ({ cls := "com/example/treepass/treepass/Rect", name := "right", desc := "()I" } : Jvm.MethodName) prog_50_method_9_code (1 : Nat) (Option.some Jvm.ClassFile.FieldType.int), Jvm.Cond.code ({ cls := "com/example/treepass/treepass/Rect", name := "bottom", desc := "()I" } : Jvm.MethodName) prog_50_method_10_code (1 : Nat) (Option.some Jvm.ClassFile.FieldType.int), Jvm.Cond.code ({ cls := "com/example/treepass/treepass/FrameState", name := "viewDrawn", desc := "()V" } : Jvm.MethodName) prog_21_method_8_code (1 : Nat) (Option.none : Option Jvm.ClassFile.FieldType), Jvm.Cond.code ({ cls := "com/example/treepass/treepass/FrameState", name := "viewMeasured", desc := "()V" } : Jvm.MethodName) prog_21_method_6_code (1 : Nat) (Option.none : Option Jvm.ClassFile.FieldType)]
set_option maxRecDepth 65536 in
theorem codes_eq : words1.filter isCode = codes1 := rfl
theorem w_codes : ∀ c ∈ words1.filter isCode, c.before args0 about1 = true := by
  rw [codes_eq]
  intro c hc
  simp only [codes1, List.mem_cons, List.not_mem_nil, or_false] at hc
  rcases hc with rfl | rfl | rfl | rfl | rfl | rfl | rfl | rfl | rfl | rfl | rfl | rfl | rfl | rfl | rfl | rfl | rfl | rfl | rfl | rfl | rfl | rfl | rfl
  · exact w_c0
  · exact w_c1
  · exact w_c2
  · exact w_c3
  · exact w_c4
  · exact w_c5
  · exact w_c6
  · exact w_c7
  · exact w_c8
  · exact w_c9
  · exact w_c10
  · exact w_c11
  · exact w_c12
  · exact w_c13
  · exact w_c14
  · exact w_c15
  · exact w_c16
  · exact w_c17
  · exact w_c18
  · exact w_c19
  · exact w_c20
  · exact w_c21
  · exact w_c22
set_option maxRecDepth 65536 in
theorem w_t1 : (words1.take 24).all (fun c => isCode c || c.before args0 about1) = true := by decide +kernel
set_option maxRecDepth 65536 in
theorem w_t2 : ((words1.drop 24).take 24).all (fun c => isCode c || c.before args0 about1) = true := by decide +kernel
set_option maxRecDepth 65536 in
theorem w_t3 : (((words1.drop 24).drop 24).take 24).all (fun c => isCode c || c.before args0 about1) = true := by decide +kernel
set_option maxRecDepth 65536 in
theorem w_t4 : ((((words1.drop 24).drop 24).drop 24).take 24).all (fun c => isCode c || c.before args0 about1) = true := by decide +kernel
set_option maxRecDepth 65536 in
theorem w_t5 : (((((words1.drop 24).drop 24).drop 24).drop 24).take 24).all (fun c => isCode c || c.before args0 about1) = true := by decide +kernel
set_option maxRecDepth 65536 in
theorem w_t6 : ((((((words1.drop 24).drop 24).drop 24).drop 24).drop 24).take 24).all (fun c => isCode c || c.before args0 about1) = true := by decide +kernel
set_option maxRecDepth 65536 in
theorem w_t7 : ((((((words1.drop 24).drop 24).drop 24).drop 24).drop 24).drop 24).all (fun c => isCode c || c.before args0 about1) = true := by decide +kernel
theorem w_tables : (allAtoms (Jvm.Cond.code x code maxLocals ret :: tables_1)).before args0 about1 = true := by
  rw [allAtoms_all]
  show words1.all (fun c => c.before args0 about1) = true
  refine all_split ?_ w_codes
  rw [← List.take_append_drop 24 words1, List.all_append, w_t1, ← List.take_append_drop 24 (words1.drop 24), List.all_append, w_t2, ← List.take_append_drop 24 ((words1.drop 24).drop 24), List.all_append, w_t3, ← List.take_append_drop 24 (((words1.drop 24).drop 24).drop 24), List.all_append, w_t4, ← List.take_append_drop 24 ((((words1.drop 24).drop 24).drop 24).drop 24), List.all_append, w_t5, ← List.take_append_drop 24 (((((words1.drop 24).drop 24).drop 24).drop 24).drop 24), List.all_append, w_t6, w_t7]
  rfl
set_option maxRecDepth 65536 in
theorem w_case : (Jvm.Cond.and given_1 narrow_1).before args0 about1 = true := by decide +kernel
theorem w_applies : (headSpec (Jvm.Cond.code x code maxLocals ret :: tables_1) room_1).applies x e0.platform about1 = true :=
  (Spec.applies_iff w_frames).mpr ⟨w_running, w_runnable, w_alone, w_named, w_hears, w_ripe, w_room, w_tables⟩
theorem atStart : AtStart classFile x code maxLocals ret World_1 tables_1 room_1 Calls_1 rest_1 Pre_1 launch0 p0 e0 about1 theMethod args0 below0 :=
  ⟨lists_1, trivial, launch0.admits_env _ _ _, launch0.least_env, fairChoices_fair.cas, fairChoices_fair.clock, w_frames, w_args, w_heap, w_applies, trivial, trivial, w_case⟩
end start1
theorem witness_1 : WitnessClaimed_1 := ⟨start1.p0, start1.e0, start1.about1, start1.theMethod, start1.args0, start1.below0, start1.atStart⟩
end Jvm.Pilot.@@N@@
