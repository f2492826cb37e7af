import JvmDerived
import JvmDerived.Pilot.@@N@@Statement
import JvmDerived.Pilot.@@N@@Code
set_option linter.unusedVariables false
set_option linter.unusedSimpArgs false
namespace Jvm.RoadKit
open Sem ClassFile Op Lib Jvm.Stand Jvm.Free Jvm.LawKit
section New
variable {p : Program} {l : Launch} {e : Env} {R : Room} {s : State} {m : MethodId} {args : Array Value} {below : List Frame} {meth : Method} {c : Code} {T T' : State} {locs : List Loc} {cells slots : Nat} {Q : Option Value → Heap → List Loc → Prop} {cc ss : Nat} {g g' : JFrame} {pc : Nat} {Ls : Array Slot}
/-- from here the body comes to an end that meets Q -/
def own_Goes (p : Program) (e : Env) (below : List Frame) (s : State) (Q : Option Value → Heap → List Loc → Prop) (cc ss : Nat) (T : State) (g : JFrame) : Prop :=
  ∃ s₂ o, Steps p.tables e below (T.setTop g) s₂ ∧ s₂.status = .running ∧ Ended s₂ below o ∧ ∃ v L, o = .returned v ∧ Q v s₂.heap L ∧ FrameEnd s o s₂ L cc ss
theorem own_st (h : ∀ t, Steps p.tables e below (T'.setTop g') t → Steps p.tables e below (T.setTop g) t) (k : own_Goes p e below s Q cc ss T' g') : own_Goes p e below s Q cc ss T g := by
  obtain ⟨s₂, o, h1, r⟩ := k; exact ⟨s₂, o, h _ h1, r⟩
theorem own_end {v : Option Value} (X : Stand p l e R s m args below meth c T locs cells slots) (hlk : meth.locks = false) (hv : meth.sig.returnType = none → v = none) (hc : cells ≤ cc) (hs : slots ≤ ss) (hQ : Q v T.heap locs)
    (st : ∀ fs, (∀ (f : JFrame) (acts : List Action), f.method = m → f.locked = none → f.entered = [] → (doReturn e (T.setTop f) acts v).1 = T.setFrames fs) → Steps p.tables e below (T.setTop g) (T.setFrames fs)) : own_Goes p e below s Q cc ss T g := by
  obtain ⟨fs, hr, hrun, hended, hW, hsame⟩ := X.leave (v := v) hv hlk
  exact ⟨_, _, st fs hr, hrun, hended, _, _, rfl, hQ, ⟨_, rfl⟩, hW, hsame.mono hc hs⟩
theorem own_retN (X : Stand p l e R s m args below meth c T locs cells slots) (hx : p.tables.exec = Jvm.exec) (hlk : meth.locks = false) {t : FieldType} {z : Int32} {rest : List Value} (hret : meth.sig.returnType = some t) (ht : t = .boolean ∨ t = .byte ∨ t = .char ∨ t = .short) (hd : decode c.code pc = .ok (.ireturn, 1)) (hc : cells ≤ cc) (hs : slots ≤ ss) (hQ : Q (some (.int (nar t z))) T.heap locs) : own_Goes p e below s Q cc ss T (mkF m pc Ls (.int z :: rest)) :=
  own_end X hlk (fun h => by rw [hret] at h; cases h) hc hs hQ fun fs hr => retN X hx hret ht hd hr
theorem own_retI (X : Stand p l e R s m args below meth c T locs cells slots) (hx : p.tables.exec = Jvm.exec) (hlk : meth.locks = false) {z : Int32} {rest : List Value} (hret : meth.sig.returnType = some .int) (hd : decode c.code pc = .ok (.ireturn, 1)) (hc : cells ≤ cc) (hs : slots ≤ ss) (hQ : Q (some (.int z)) T.heap locs) : own_Goes p e below s Q cc ss T (mkF m pc Ls (.int z :: rest)) :=
  own_end X hlk (fun h => by rw [hret] at h; cases h) hc hs hQ fun fs hr => retOut X hx hret rfl (Or.inl ⟨rfl, Or.inl rfl, _, rfl⟩) hd hr
theorem own_retL (X : Stand p l e R s m args below meth c T locs cells slots) (hx : p.tables.exec = Jvm.exec) (hlk : meth.locks = false) {z : Int64} {rest : List Value} (hret : meth.sig.returnType = some .long) (hd : decode c.code pc = .ok (.lreturn, 1)) (hc : cells ≤ cc) (hs : slots ≤ ss) (hQ : Q (some (.long z)) T.heap locs) : own_Goes p e below s Q cc ss T (mkF m pc Ls (.long z :: rest)) :=
  own_end X hlk (fun h => by rw [hret] at h; cases h) hc hs hQ fun fs hr => retOut X hx hret rfl (Or.inr (Or.inl ⟨rfl, rfl, _, rfl⟩)) hd hr
theorem own_narR {t : FieldType} {w : Value} (hw : w.isRef = true) : narrow t w = w := by rcases ref_cases hw with rfl | ⟨a, rfl⟩ <;> cases t <;> rfl
theorem own_fitR {n : String} {w : Value} (hw : w.isRef = true) : fits (.object n) w = true := by rcases ref_cases hw with rfl | ⟨a, rfl⟩ <;> rfl
theorem own_retA (X : Stand p l e R s m args below meth c T locs cells slots) (hx : p.tables.exec = Jvm.exec) (hlk : meth.locks = false) {w : Value} {t : FieldType} {rest : List Value} (hw : w.isRef = true) (hret : meth.sig.returnType = some t) (ht : t.isReference = true) (hd : decode c.code pc = .ok (.areturn, 1)) (hc : cells ≤ cc) (hs : slots ≤ ss) (hQ : Q (some w) T.heap locs) : own_Goes p e below s Q cc ss T (mkF m pc Ls (w :: rest)) :=
  own_end X hlk (fun h => by rw [hret] at h; cases h) hc hs hQ fun fs hr => retOut X hx hret (own_narR hw) (Or.inr (Or.inr (Or.inr (Or.inr ⟨rfl, ht, hw⟩)))) hd hr
theorem own_ret0 (X : Stand p l e R s m args below meth c T locs cells slots) (hx : p.tables.exec = Jvm.exec) (hlk : meth.locks = false) (hret : meth.sig.returnType = none) (hd : decode c.code pc = .ok (.return_, 1)) (hc : cells ≤ cc) (hs : slots ≤ ss) (hQ : Q none T.heap locs) : own_Goes p e below s Q cc ss T (mkF m pc Ls []) :=
  own_end X hlk (fun _ => rfl) hc hs hQ fun fs hr => X.returnOut hx hret hd hr
theorem own_nsr {Z : State} {a0 : Array Value} {O K : String} {n : Nat} (w : (Cond.noSuperclass O).before a0 Z = true) (wk : (Cond.instantiable K n).before a0 Z = true) (hn : O ≠ K) : NS Z O K := by
  obtain ⟨c, k, h1, h2, h3, -, -⟩ := Cond.noSuperclass_spec w
  obtain ⟨t, kt, g1, -⟩ := Cond.instantiable_spec wk
  have ne := ids_ne h1 g1 hn
  refine ⟨c, t, h1, g1, fun fuel => ?_⟩
  cases fuel with
  | zero => rfl
  | succ f => simp [Vm.isSubclassAux, ne, h2, h3]
theorem own_nsn {Z : State} {a0 : Array Value} {C S K : String} {n : Nat} (w : (Cond.superclass C S).before a0 Z = true) (wk : (Cond.instantiable K n).before a0 Z = true) (q : NS Z C K) (hn : C ≠ K) : ∃ c t, Z.vm.findClass C = some c ∧ Z.vm.findClass K = some t ∧ Z.vm.assignable c t = false := by
  obtain ⟨c, t, h0, g0, n3⟩ := q
  obtain ⟨p, k, kp, h1, h2, h3, h4, h5, -, h7⟩ := Cond.superclass_spec h0 w
  obtain ⟨t', kt, g1, g2, g5, g6, -⟩ := Cond.instantiable_spec wk
  cases g0.symm.trans g1
  have g7 : kt.isInterface = false := by simp only [Bool.or_eq_false_iff] at g6; exact g6.1
  have ne := ids_ne h0 g0 hn
  refine ⟨c, t, h0, g0, ?_⟩
  show Z.vm.assignableAux (255 + 1) c t = false
  simp [Vm.assignableAux, ne, h2, g2, h5, g5, g7, Vm.isSubclass, n3]
theorem own_Sta_keep {Z : State} {h h' : Heap} {ws : List Addr} {C n d : String} {w : Value} (F : Sta Z h C n d w) (K : Keep h h' ws) (q : ∀ x ∈ ws, ∀ cell : Cell, h[x]? = some cell → cell.vm.isStatics = false) : Sta Z h' C n d w := by
  obtain ⟨cf, i, k, f, st, cell, h1, h2, h3, h4, h5, h6, h7⟩ := F
  exact ⟨cf, i, k, f, st, cell, h1, h2, h3, h4, K.2.1 st cell h5 (fun z => by rw [q st z cell h5] at h6; cases h6), h6, h7⟩
end New
end Jvm.RoadKit
namespace Jvm.Pilot.@@N@@
open Jvm Jvm.ClassFile Sem Op Lib Jvm.Free Jvm.Stand Jvm.LawKit Jvm.RoadKit Bundle Jvm.Pilot.@@N@@.Jvm.D
def own_b (P : Prop) [Decidable P] : Int32 := if P then 1 else 0
theorem own_bt {P : Prop} [Decidable P] (h : P) : (some (Value.int (nar .boolean 1)) : Option Value) = some (.int (own_b P)) := by rw [own_b, if_pos h]; rfl
theorem own_bf {P : Prop} [Decidable P] (h : ¬ P) : (some (Value.int (nar .boolean 0)) : Option Value) = some (.int (own_b P)) := by rw [own_b, if_neg h]; rfl
theorem own_b1 {P : Prop} [Decidable P] (h : P) : own_b P = 1 := if_pos h
theorem own_b0 {P : Prop} [Decidable P] (h : ¬ P) : own_b P = 0 := if_neg h
theorem own_bc {P P' : Prop} [Decidable P] [Decidable P'] (h : P ↔ P') : own_b P = own_b P' := by simp only [own_b, h]
abbrev rRrm2 : Room := { frames := 1, cells := 0, slots := 0, locals := 12 }
theorem d2_0 : decode jdk_30_method_1_code 0 = .ok (.aload_n 0, 1) := by decide +kernel
theorem d2_1 : decode jdk_30_method_1_code 1 = .ok (.invokespecial 1, 3) := by decide +kernel
theorem d2_4 : decode jdk_30_method_1_code 4 = .ok (.return_, 1) := by decide +kernel
theorem pn_rm2 : plainFor (⟨"java/lang/Record", "<init>", "()V"⟩ : MethodName) = true := by first | exact plainFor_of_name (by first | (simp [plainName, overriddenIn]; done) | decide +kernel) | decide +kernel
theorem ef_rm2 (m : MethodId) (a : Addr) : entryFrame m #[(.ref a)] 1 = (mkF m 0 #[rv a] []) := by first | (simp [entryFrame, mkF, argsToLocals, Value.category]; done) | rfl
def Q2 (Z : State) (a : Addr) (h0 : Heap) (n0 : Nat) (v_ : Option Value) (h_ : Heap) (L_ : List Loc) : Prop := (v_ = none) ∧ (Fr n0 L_) ∧ (h_ = h0)
set_option maxRecDepth 65536 in
set_option maxHeartbeats 40000000 in
theorem rm2 (l : Launch) (Z : State) (a0 : Array Value) (hw : ∀ d ∈ tables_1, d.before a0 Z = true) (ws : List Jvm.Cond) (a : Addr) (h0 : Heap) (n0 : Nat) (Z0 : n0 ≤ h0.size) :
    MetFree l (⟨"java/lang/Record", "<init>", "()V"⟩ : MethodName) (head1 (Jvm.Cond.code (⟨"java/lang/Record", "<init>", "()V"⟩ : MethodName) jdk_30_method_1_code 1 none :: ws) rRrm2) (fun a_ U_ => a_ = #[(.ref a)] ∧ Z.Warmed39 U_.vm ∧ U_.heap = h0) (fun _ _ _ _ _ => True) (fun _ U_ o_ U1_ => ∃ v_ L_, o_ = .returned v_ ∧ Q2 Z a h0 n0 v_ U1_.heap L_ ∧ FrameEnd U_ o_ U1_ L_ rRrm2.cells rRrm2.slots) := by
  refine MetFree.of_bodySF pn_rm2 hisR ?_
  intro p e s m args below meth c s₁ Bd hml0 hP hK
  obtain ⟨rfl, hZ, hh⟩ := hP
  have hx := Bd.exec
  have hby := Bd.bytes
  have hlk : meth.locks = false := Bd.notSynchronized
  have hml : c.maxLocals = 1 := hml0
  have hown : s.vm.findClass "java/lang/Record" = some m.cls := findClass_of_methodNamed Bd.named
  have hnm := (name_of_methodNamed Bd.named Bd.method).1
  have X0 : Stand p l e rRrm2 s m #[(.ref a)] below meth c s₁ [] 0 0 := Stand.of_body Bd
  have e0 : s₁.heap = h0 := by rw [← hh, Bd.state]; rfl
  have N0 := Fr.nil n0
  show own_Goes p e below s (Q2 Z a h0 n0) rRrm2.cells rRrm2.slots s₁ (entryFrame m #[(.ref a)] 1)
  rw [ef_rm2 m a]
  show own_Goes p e below s (Q2 Z a h0 n0) rRrm2.cells rRrm2.slots s₁ (mkF m 0 #[rv a] [])
  refine own_st (fun _ kk_ => XS.aloadN X0.here hx rfl (hb hby d2_0) rfl rfl kk_) ?_
  show own_Goes p e below s (Q2 Z a h0 n0) rRrm2.cells rRrm2.slots s₁ (mkF m 1 #[rv a] [(.ref a)])
  obtain ⟨T1, X1, e1, st1⟩ := initO X0 hx hZ hown (hw _ (List.mem_of_getElem? (i := 12) rfl)) (hw _ (List.mem_of_getElem? (i := 13) rfl)) (hw _ (List.mem_of_getElem? (i := 14) rfl)) e0 (g := (mkF m 1 #[rv a] [(.ref a)])) rfl (by rw [hml]; rfl) rfl (hb hby d2_1) (by decide) (W := 0) (by show 2 * 0 + _ ≤ _; exact Nat.le_of_eq rfl) (by decide)
  refine own_st st1 ?_
  show own_Goes p e below s (Q2 Z a h0 n0) rRrm2.cells rRrm2.slots T1 (mkF m 4 #[rv a] [])
  refine own_ret0 X1 hx hlk Bd.returns (hb hby d2_4) (by decide) (by decide) ?_
  show Q2 Z a h0 n0 none T1.heap _
  rw [e1]
  exact ⟨rfl, N0, rfl⟩
abbrev rRrm1 : Room := { frames := 2, cells := 0, slots := 0, locals := 24 }
theorem d1_0 : decode prog_44_method_1_code 0 = .ok (.aload_n 0, 1) := by decide +kernel
theorem d1_1 : decode prog_44_method_1_code 1 = .ok (.invokespecial 3, 3) := by decide +kernel
theorem d1_4 : decode prog_44_method_1_code 4 = .ok (.aload_n 0, 1) := by decide +kernel
theorem d1_5 : decode prog_44_method_1_code 5 = .ok (.lload_n 1, 1) := by decide +kernel
theorem d1_6 : decode prog_44_method_1_code 6 = .ok (.putfield 9, 3) := by decide +kernel
theorem d1_9 : decode prog_44_method_1_code 9 = .ok (.aload_n 0, 1) := by decide +kernel
theorem d1_10 : decode prog_44_method_1_code 10 = .ok (.lload_n 3, 1) := by decide +kernel
theorem d1_11 : decode prog_44_method_1_code 11 = .ok (.putfield 15, 3) := by decide +kernel
theorem d1_14 : decode prog_44_method_1_code 14 = .ok (.aload_n 0, 1) := by decide +kernel
theorem d1_15 : decode prog_44_method_1_code 15 = .ok (.dload 5, 2) := by decide +kernel
theorem d1_17 : decode prog_44_method_1_code 17 = .ok (.putfield 18, 3) := by decide +kernel
theorem d1_20 : decode prog_44_method_1_code 20 = .ok (.aload_n 0, 1) := by decide +kernel
theorem d1_21 : decode prog_44_method_1_code 21 = .ok (.dload 7, 2) := by decide +kernel
theorem d1_23 : decode prog_44_method_1_code 23 = .ok (.putfield 22, 3) := by decide +kernel
theorem d1_26 : decode prog_44_method_1_code 26 = .ok (.aload_n 0, 1) := by decide +kernel
theorem d1_27 : decode prog_44_method_1_code 27 = .ok (.dload 9, 2) := by decide +kernel
theorem d1_29 : decode prog_44_method_1_code 29 = .ok (.putfield 25, 3) := by decide +kernel
theorem d1_32 : decode prog_44_method_1_code 32 = .ok (.aload_n 0, 1) := by decide +kernel
theorem d1_33 : decode prog_44_method_1_code 33 = .ok (.dload 11, 2) := by decide +kernel
theorem d1_35 : decode prog_44_method_1_code 35 = .ok (.putfield 28, 3) := by decide +kernel
theorem d1_38 : decode prog_44_method_1_code 38 = .ok (.aload_n 0, 1) := by decide +kernel
theorem d1_39 : decode prog_44_method_1_code 39 = .ok (.dload 13, 2) := by decide +kernel
theorem d1_41 : decode prog_44_method_1_code 41 = .ok (.putfield 31, 3) := by decide +kernel
theorem d1_44 : decode prog_44_method_1_code 44 = .ok (.return_, 1) := by decide +kernel
theorem pd_0 : parseMethodDescriptor "()V" = some ⟨[], none⟩ := by decide +kernel
theorem pn_rm1 : plainFor (⟨"com/example/sojourn/sojourn/ScheduleFile$Row", "<init>", "(JJDDDDD)V"⟩ : MethodName) = true := by first | exact plainFor_of_name (by first | (simp [plainName, overriddenIn]; done) | decide +kernel) | decide +kernel
theorem ef_rm1 (m : MethodId) (a : Addr) (j1 : Int64) (j2 : Int64) (x0 : UInt64) (x1 : UInt64) (x2 : UInt64) (x3 : UInt64) (x4 : UInt64) : entryFrame m #[(.ref a), (.long j1), (.long j2), (.double x0), (.double x1), (.double x2), (.double x3), (.double x4)] 15 = (mkF m 0 #[rv a, .val (.long j1), .second, .val (.long j2), .second, .val (.double x0), .second, .val (.double x1), .second, .val (.double x2), .second, .val (.double x3), .second, .val (.double x4), .second] []) := by first | (simp [entryFrame, mkF, argsToLocals, Value.category]; done) | rfl
def Q1 (Z : State) (a : Addr) (j1 : Int64) (j2 : Int64) (x0 : UInt64) (x1 : UInt64) (x2 : UInt64) (x3 : UInt64) (x4 : UInt64) (h0 : Heap) (n0 : Nat) (v_ : Option Value) (h_ : Heap) (L_ : List Loc) : Prop := (v_ = none) ∧ (Fr n0 L_) ∧ (Keep h0 h_ [a]) ∧ (Fld Z h_ a "com/example/sojourn/sojourn/ScheduleFile$Row" "machine" "J" (.long j2))
set_option maxRecDepth 65536 in
set_option maxHeartbeats 40000000 in
theorem rm1 (l : Launch) (Z : State) (a0 : Array Value) (hw : ∀ d ∈ tables_1, d.before a0 Z = true) (ws : List Jvm.Cond) (a : Addr) (j1 : Int64) (j2 : Int64) (x0 : UInt64) (x1 : UInt64) (x2 : UInt64) (x3 : UInt64) (x4 : UInt64) (h0 : Heap) (n0 : Nat) (Z0 : n0 ≤ h0.size) (p_0 : Exa Z h0 a "com/example/sojourn/sojourn/ScheduleFile$Row") (p_1 : Fld Z h0 a "com/example/sojourn/sojourn/ScheduleFile$Row" "job" "J" (.long (0 : Int64))) (p_2 : Fld Z h0 a "com/example/sojourn/sojourn/ScheduleFile$Row" "machine" "J" (.long (0 : Int64))) (p_3 : Fld Z h0 a "com/example/sojourn/sojourn/ScheduleFile$Row" "release" "D" (.double (0 : UInt64))) (p_4 : Fld Z h0 a "com/example/sojourn/sojourn/ScheduleFile$Row" "size" "D" (.double (0 : UInt64))) (p_5 : Fld Z h0 a "com/example/sojourn/sojourn/ScheduleFile$Row" "start" "D" (.double (0 : UInt64))) (p_6 : Fld Z h0 a "com/example/sojourn/sojourn/ScheduleFile$Row" "completion" "D" (.double (0 : UInt64))) (p_7 : Fld Z h0 a "com/example/sojourn/sojourn/ScheduleFile$Row" "flow" "D" (.double (0 : UInt64))) (p_8 : n0 ≤ a) :
    MetFree l (⟨"com/example/sojourn/sojourn/ScheduleFile$Row", "<init>", "(JJDDDDD)V"⟩ : MethodName) (head1 (Jvm.Cond.code (⟨"com/example/sojourn/sojourn/ScheduleFile$Row", "<init>", "(JJDDDDD)V"⟩ : MethodName) prog_44_method_1_code 15 none :: ws) rRrm1) (fun a_ U_ => a_ = #[(.ref a), (.long j1), (.long j2), (.double x0), (.double x1), (.double x2), (.double x3), (.double x4)] ∧ Z.Warmed39 U_.vm ∧ U_.heap = h0) (fun _ _ _ _ _ => True) (fun _ U_ o_ U1_ => ∃ v_ L_, o_ = .returned v_ ∧ Q1 Z a j1 j2 x0 x1 x2 x3 x4 h0 n0 v_ U1_.heap L_ ∧ FrameEnd U_ o_ U1_ L_ rRrm1.cells rRrm1.slots) := by
  refine MetFree.of_bodySF pn_rm1 hisR ?_
  intro p e s m args below meth c s₁ Bd hml0 hP hK
  obtain ⟨rfl, hZ, hh⟩ := hP
  have hx := Bd.exec
  have hby := Bd.bytes
  have hlk : meth.locks = false := Bd.notSynchronized
  have hml : c.maxLocals = 15 := hml0
  have hown : s.vm.findClass "com/example/sojourn/sojourn/ScheduleFile$Row" = some m.cls := findClass_of_methodNamed Bd.named
  have hnm := (name_of_methodNamed Bd.named Bd.method).1
  have X0 : Stand p l e rRrm1 s m #[(.ref a), (.long j1), (.long j2), (.double x0), (.double x1), (.double x2), (.double x3), (.double x4)] below meth c s₁ [] 0 0 := Stand.of_body Bd
  have e0 : s₁.heap = h0 := by rw [← hh, Bd.state]; rfl
  have N0 := Fr.nil n0
  show own_Goes p e below s (Q1 Z a j1 j2 x0 x1 x2 x3 x4 h0 n0) rRrm1.cells rRrm1.slots s₁ (entryFrame m #[(.ref a), (.long j1), (.long j2), (.double x0), (.double x1), (.double x2), (.double x3), (.double x4)] 15)
  rw [ef_rm1 m a j1 j2 x0 x1 x2 x3 x4]
  show own_Goes p e below s (Q1 Z a j1 j2 x0 x1 x2 x3 x4 h0 n0) rRrm1.cells rRrm1.slots s₁ (mkF m 0 #[rv a, .val (.long j1), .second, .val (.long j2), .second, .val (.double x0), .second, .val (.double x1), .second, .val (.double x2), .second, .val (.double x3), .second, .val (.double x4), .second] [])
  refine own_st (fun _ kk_ => XS.aloadN X0.here hx rfl (hb hby d1_0) rfl rfl kk_) ?_
  show own_Goes p e below s (Q1 Z a j1 j2 x0 x1 x2 x3 x4 h0 n0) rRrm1.cells rRrm1.slots s₁ (mkF m 1 #[rv a, .val (.long j1), .second, .val (.long j2), .second, .val (.double x0), .second, .val (.double x1), .second, .val (.double x2), .second, .val (.double x3), .second, .val (.double x4), .second] [(.ref a)])
  obtain ⟨_, _, ⟨T1, L1, k1, n1⟩, -, X1, ⟨Lc1, hQ1, l1, y1, z1⟩, st1⟩ := X0.specialBack hx (y := (⟨"java/lang/Record", "<init>", "()V"⟩ : MethodName)) rfl hown (mvT hZ (hw _ (List.mem_of_getElem? (i := 7) rfl))) (mvT hZ (hw _ (List.mem_of_getElem? (i := 8) rfl))) (mvT hZ (hw _ (List.mem_of_getElem? (i := 11) rfl))) (by decide) (backOf (W := 0) (rm2 l Z a0 hw [] (a) h0 n0 Z0) hZ (hw _ (List.mem_of_getElem? (i := 11) rfl)) (hw _ (List.mem_of_getElem? (i := 10) rfl)) (by decide) (by decide)) (g := (mkF m 1 #[rv a, .val (.long j1), .second, .val (.long j2), .second, .val (.double x0), .second, .val (.double x1), .second, .val (.double x2), .second, .val (.double x3), .second, .val (.double x4), .second] [(.ref a)])) rfl (by rw [hml]; rfl) (Steps.refl _) (a := a) (argsL := []) (rest := []) (lenOf pd_0 rfl) rfl (by show 2 * 0 + _ ≤ _; exact Nat.le_of_eq rfl) (hb hby d1_1) (fun _ _ => ⟨rfl, e0, (by decide : 0 + 0 ≤ _), (by decide : 0 + 0 ≤ _)⟩)
  dsimp only [Pt.U, Pt.locs, Pt.cells, Pt.slots] at X1 l1 y1 z1 st1 hQ1
  subst l1 y1 z1
  obtain ⟨rfl, Nq1, eq1⟩ := hQ1
  have N1 := Fr.app N0 Nq1
  refine own_st (fun _ kk_ => st1.trans kk_) ?_
  show own_Goes p e below s (Q1 Z a j1 j2 x0 x1 x2 x3 x4 h0 n0) rRrm1.cells rRrm1.slots T1 (mkF m 4 #[rv a, .val (.long j1), .second, .val (.long j2), .second, .val (.double x0), .second, .val (.double x1), .second, .val (.double x2), .second, .val (.double x3), .second, .val (.double x4), .second] [])
  refine own_st (fun _ kk_ => XS.aloadN X1.here hx rfl (hb hby d1_4) rfl rfl (XS.lloadN X1.here hx rfl (hb hby d1_5) rfl kk_)) ?_
  show own_Goes p e below s (Q1 Z a j1 j2 x0 x1 x2 x3 x4 h0 n0) rRrm1.cells rRrm1.slots T1 (mkF m 6 #[rv a, .val (.long j1), .second, .val (.long j2), .second, .val (.double x0), .second, .val (.double x1), .second, .val (.double x2), .second, .val (.double x3), .second, .val (.double x4), .second] [(.long j1), (.ref a)])
  obtain ⟨T2, h2, X2, e2, W2, st2⟩ := putF X1 hx hZ hown (host := "") (Or.inl (hw _ (List.mem_of_getElem? (i := 15) rfl))) Via.refl eq1 p_1 p_0 (Or.inr ⟨(hw _ (List.mem_of_getElem? (i := 16) rfl)), rfl, hnm⟩) (hw _ (List.mem_of_getElem? (i := 2) rfl)) (ty := .long) (by decide) rfl rfl (g := (mkF m 6 #[rv a, .val (.long j1), .second, .val (.long j2), .second, .val (.double x0), .second, .val (.double x1), .second, .val (.double x2), .second, .val (.double x3), .second, .val (.double x4), .second] [(.long j1), (.ref a)])) rfl rfl (hb hby d1_6)
  have fw2 : Fld Z h2 a "com/example/sojourn/sojourn/ScheduleFile$Row" "job" "J" (.long j1) := p_1.same W2
  have f2_0 := p_0.wr W2
  have f2_2 := p_2.other W2 (Or.inr (slot_ne (Or.inr (hw _ (List.mem_of_getElem? (i := 18) rfl))) (Or.inr (hw _ (List.mem_of_getElem? (i := 16) rfl))) (by decide) (t := .long) (t' := .long) (by decide) (by decide)))
  have f2_3 := p_3.other W2 (Or.inr (slot_ne (Or.inr (hw _ (List.mem_of_getElem? (i := 20) rfl))) (Or.inr (hw _ (List.mem_of_getElem? (i := 16) rfl))) (by decide) (t := .double) (t' := .long) (by decide) (by decide)))
  have f2_4 := p_4.other W2 (Or.inr (slot_ne (Or.inr (hw _ (List.mem_of_getElem? (i := 22) rfl))) (Or.inr (hw _ (List.mem_of_getElem? (i := 16) rfl))) (by decide) (t := .double) (t' := .long) (by decide) (by decide)))
  have f2_5 := p_5.other W2 (Or.inr (slot_ne (Or.inr (hw _ (List.mem_of_getElem? (i := 24) rfl))) (Or.inr (hw _ (List.mem_of_getElem? (i := 16) rfl))) (by decide) (t := .double) (t' := .long) (by decide) (by decide)))
  have f2_6 := p_6.other W2 (Or.inr (slot_ne (Or.inr (hw _ (List.mem_of_getElem? (i := 26) rfl))) (Or.inr (hw _ (List.mem_of_getElem? (i := 16) rfl))) (by decide) (t := .double) (t' := .long) (by decide) (by decide)))
  have f2_7 := p_7.other W2 (Or.inr (slot_ne (Or.inr (hw _ (List.mem_of_getElem? (i := 28) rfl))) (Or.inr (hw _ (List.mem_of_getElem? (i := 16) rfl))) (by decide) (t := .double) (t' := .long) (by decide) (by decide)))
  have Zs2 : n0 ≤ h2.size := Nat.le_trans Z0 (Nat.le_of_eq W2.size.symm)
  have K2 := (Keep.refl h0 [a]).wr W2 (Or.inl (List.mem_of_getElem? (i := 0) rfl))
  have N2 := Fr.snoc X2 N1 p_8
  refine own_st st2 ?_
  show own_Goes p e below s (Q1 Z a j1 j2 x0 x1 x2 x3 x4 h0 n0) rRrm1.cells rRrm1.slots T2 (mkF m 9 #[rv a, .val (.long j1), .second, .val (.long j2), .second, .val (.double x0), .second, .val (.double x1), .second, .val (.double x2), .second, .val (.double x3), .second, .val (.double x4), .second] [])
  refine own_st (fun _ kk_ => XS.aloadN X2.here hx rfl (hb hby d1_9) rfl rfl (XS.lloadN X2.here hx rfl (hb hby d1_10) rfl kk_)) ?_
  show own_Goes p e below s (Q1 Z a j1 j2 x0 x1 x2 x3 x4 h0 n0) rRrm1.cells rRrm1.slots T2 (mkF m 11 #[rv a, .val (.long j1), .second, .val (.long j2), .second, .val (.double x0), .second, .val (.double x1), .second, .val (.double x2), .second, .val (.double x3), .second, .val (.double x4), .second] [(.long j2), (.ref a)])
  obtain ⟨T3, h3, X3, e3, W3, st3⟩ := putF X2 hx hZ hown (host := "") (Or.inl (hw _ (List.mem_of_getElem? (i := 17) rfl))) Via.refl e2 f2_2 f2_0 (Or.inr ⟨(hw _ (List.mem_of_getElem? (i := 18) rfl)), rfl, hnm⟩) (hw _ (List.mem_of_getElem? (i := 2) rfl)) (ty := .long) (by decide) rfl rfl (g := (mkF m 11 #[rv a, .val (.long j1), .second, .val (.long j2), .second, .val (.double x0), .second, .val (.double x1), .second, .val (.double x2), .second, .val (.double x3), .second, .val (.double x4), .second] [(.long j2), (.ref a)])) rfl rfl (hb hby d1_11)
  have fw3 : Fld Z h3 a "com/example/sojourn/sojourn/ScheduleFile$Row" "machine" "J" (.long j2) := f2_2.same W3
  have f3_0 := f2_0.wr W3
  have f3_2 := f2_3.other W3 (Or.inr (slot_ne (Or.inr (hw _ (List.mem_of_getElem? (i := 20) rfl))) (Or.inr (hw _ (List.mem_of_getElem? (i := 18) rfl))) (by decide) (t := .double) (t' := .long) (by decide) (by decide)))
  have f3_3 := f2_4.other W3 (Or.inr (slot_ne (Or.inr (hw _ (List.mem_of_getElem? (i := 22) rfl))) (Or.inr (hw _ (List.mem_of_getElem? (i := 18) rfl))) (by decide) (t := .double) (t' := .long) (by decide) (by decide)))
  have f3_4 := f2_5.other W3 (Or.inr (slot_ne (Or.inr (hw _ (List.mem_of_getElem? (i := 24) rfl))) (Or.inr (hw _ (List.mem_of_getElem? (i := 18) rfl))) (by decide) (t := .double) (t' := .long) (by decide) (by decide)))
  have f3_5 := f2_6.other W3 (Or.inr (slot_ne (Or.inr (hw _ (List.mem_of_getElem? (i := 26) rfl))) (Or.inr (hw _ (List.mem_of_getElem? (i := 18) rfl))) (by decide) (t := .double) (t' := .long) (by decide) (by decide)))
  have f3_6 := f2_7.other W3 (Or.inr (slot_ne (Or.inr (hw _ (List.mem_of_getElem? (i := 28) rfl))) (Or.inr (hw _ (List.mem_of_getElem? (i := 18) rfl))) (by decide) (t := .double) (t' := .long) (by decide) (by decide)))
  have f3_7 := fw2.other W3 (Or.inr (slot_ne (Or.inr (hw _ (List.mem_of_getElem? (i := 16) rfl))) (Or.inr (hw _ (List.mem_of_getElem? (i := 18) rfl))) (by decide) (t := .long) (t' := .long) (by decide) (by decide)))
  have Zs3 : n0 ≤ h3.size := Nat.le_trans Zs2 (Nat.le_of_eq W3.size.symm)
  have K3 := K2.wr W3 (Or.inl (List.mem_of_getElem? (i := 0) rfl))
  have N3 := Fr.snoc X3 N2 p_8
  refine own_st st3 ?_
  show own_Goes p e below s (Q1 Z a j1 j2 x0 x1 x2 x3 x4 h0 n0) rRrm1.cells rRrm1.slots T3 (mkF m 14 #[rv a, .val (.long j1), .second, .val (.long j2), .second, .val (.double x0), .second, .val (.double x1), .second, .val (.double x2), .second, .val (.double x3), .second, .val (.double x4), .second] [])
  refine own_st (fun _ kk_ => XS.aloadN X3.here hx rfl (hb hby d1_14) rfl rfl (XS.dload X3.here hx rfl (hb hby d1_15) rfl kk_)) ?_
  show own_Goes p e below s (Q1 Z a j1 j2 x0 x1 x2 x3 x4 h0 n0) rRrm1.cells rRrm1.slots T3 (mkF m 17 #[rv a, .val (.long j1), .second, .val (.long j2), .second, .val (.double x0), .second, .val (.double x1), .second, .val (.double x2), .second, .val (.double x3), .second, .val (.double x4), .second] [(.double x0), (.ref a)])
  obtain ⟨T4, h4, X4, e4, W4, st4⟩ := putF X3 hx hZ hown (host := "") (Or.inl (hw _ (List.mem_of_getElem? (i := 19) rfl))) Via.refl e3 f3_2 f3_0 (Or.inr ⟨(hw _ (List.mem_of_getElem? (i := 20) rfl)), rfl, hnm⟩) (hw _ (List.mem_of_getElem? (i := 2) rfl)) (ty := .double) (by decide) rfl rfl (g := (mkF m 17 #[rv a, .val (.long j1), .second, .val (.long j2), .second, .val (.double x0), .second, .val (.double x1), .second, .val (.double x2), .second, .val (.double x3), .second, .val (.double x4), .second] [(.double x0), (.ref a)])) rfl rfl (hb hby d1_17)
  have fw4 : Fld Z h4 a "com/example/sojourn/sojourn/ScheduleFile$Row" "release" "D" (.double x0) := f3_2.same W4
  have f4_0 := f3_0.wr W4
  have f4_2 := f3_3.other W4 (Or.inr (slot_ne (Or.inr (hw _ (List.mem_of_getElem? (i := 22) rfl))) (Or.inr (hw _ (List.mem_of_getElem? (i := 20) rfl))) (by decide) (t := .double) (t' := .double) (by decide) (by decide)))
  have f4_3 := f3_4.other W4 (Or.inr (slot_ne (Or.inr (hw _ (List.mem_of_getElem? (i := 24) rfl))) (Or.inr (hw _ (List.mem_of_getElem? (i := 20) rfl))) (by decide) (t := .double) (t' := .double) (by decide) (by decide)))
  have f4_4 := f3_5.other W4 (Or.inr (slot_ne (Or.inr (hw _ (List.mem_of_getElem? (i := 26) rfl))) (Or.inr (hw _ (List.mem_of_getElem? (i := 20) rfl))) (by decide) (t := .double) (t' := .double) (by decide) (by decide)))
  have f4_5 := f3_6.other W4 (Or.inr (slot_ne (Or.inr (hw _ (List.mem_of_getElem? (i := 28) rfl))) (Or.inr (hw _ (List.mem_of_getElem? (i := 20) rfl))) (by decide) (t := .double) (t' := .double) (by decide) (by decide)))
  have f4_6 := f3_7.other W4 (Or.inr (slot_ne (Or.inr (hw _ (List.mem_of_getElem? (i := 16) rfl))) (Or.inr (hw _ (List.mem_of_getElem? (i := 20) rfl))) (by decide) (t := .long) (t' := .double) (by decide) (by decide)))
  have f4_7 := fw3.other W4 (Or.inr (slot_ne (Or.inr (hw _ (List.mem_of_getElem? (i := 18) rfl))) (Or.inr (hw _ (List.mem_of_getElem? (i := 20) rfl))) (by decide) (t := .long) (t' := .double) (by decide) (by decide)))
  have Zs4 : n0 ≤ h4.size := Nat.le_trans Zs3 (Nat.le_of_eq W4.size.symm)
  have K4 := K3.wr W4 (Or.inl (List.mem_of_getElem? (i := 0) rfl))
  have N4 := Fr.snoc X4 N3 p_8
  refine own_st st4 ?_
  show own_Goes p e below s (Q1 Z a j1 j2 x0 x1 x2 x3 x4 h0 n0) rRrm1.cells rRrm1.slots T4 (mkF m 20 #[rv a, .val (.long j1), .second, .val (.long j2), .second, .val (.double x0), .second, .val (.double x1), .second, .val (.double x2), .second, .val (.double x3), .second, .val (.double x4), .second] [])
  refine own_st (fun _ kk_ => XS.aloadN X4.here hx rfl (hb hby d1_20) rfl rfl (XS.dload X4.here hx rfl (hb hby d1_21) rfl kk_)) ?_
  show own_Goes p e below s (Q1 Z a j1 j2 x0 x1 x2 x3 x4 h0 n0) rRrm1.cells rRrm1.slots T4 (mkF m 23 #[rv a, .val (.long j1), .second, .val (.long j2), .second, .val (.double x0), .second, .val (.double x1), .second, .val (.double x2), .second, .val (.double x3), .second, .val (.double x4), .second] [(.double x1), (.ref a)])
  obtain ⟨T5, h5, X5, e5, W5, st5⟩ := putF X4 hx hZ hown (host := "") (Or.inl (hw _ (List.mem_of_getElem? (i := 21) rfl))) Via.refl e4 f4_2 f4_0 (Or.inr ⟨(hw _ (List.mem_of_getElem? (i := 22) rfl)), rfl, hnm⟩) (hw _ (List.mem_of_getElem? (i := 2) rfl)) (ty := .double) (by decide) rfl rfl (g := (mkF m 23 #[rv a, .val (.long j1), .second, .val (.long j2), .second, .val (.double x0), .second, .val (.double x1), .second, .val (.double x2), .second, .val (.double x3), .second, .val (.double x4), .second] [(.double x1), (.ref a)])) rfl rfl (hb hby d1_23)
  have fw5 : Fld Z h5 a "com/example/sojourn/sojourn/ScheduleFile$Row" "size" "D" (.double x1) := f4_2.same W5
  have f5_0 := f4_0.wr W5
  have f5_2 := f4_3.other W5 (Or.inr (slot_ne (Or.inr (hw _ (List.mem_of_getElem? (i := 24) rfl))) (Or.inr (hw _ (List.mem_of_getElem? (i := 22) rfl))) (by decide) (t := .double) (t' := .double) (by decide) (by decide)))
  have f5_3 := f4_4.other W5 (Or.inr (slot_ne (Or.inr (hw _ (List.mem_of_getElem? (i := 26) rfl))) (Or.inr (hw _ (List.mem_of_getElem? (i := 22) rfl))) (by decide) (t := .double) (t' := .double) (by decide) (by decide)))
  have f5_4 := f4_5.other W5 (Or.inr (slot_ne (Or.inr (hw _ (List.mem_of_getElem? (i := 28) rfl))) (Or.inr (hw _ (List.mem_of_getElem? (i := 22) rfl))) (by decide) (t := .double) (t' := .double) (by decide) (by decide)))
  have f5_5 := f4_6.other W5 (Or.inr (slot_ne (Or.inr (hw _ (List.mem_of_getElem? (i := 16) rfl))) (Or.inr (hw _ (List.mem_of_getElem? (i := 22) rfl))) (by decide) (t := .long) (t' := .double) (by decide) (by decide)))
  have f5_6 := f4_7.other W5 (Or.inr (slot_ne (Or.inr (hw _ (List.mem_of_getElem? (i := 18) rfl))) (Or.inr (hw _ (List.mem_of_getElem? (i := 22) rfl))) (by decide) (t := .long) (t' := .double) (by decide) (by decide)))
  have f5_7 := fw4.other W5 (Or.inr (slot_ne (Or.inr (hw _ (List.mem_of_getElem? (i := 20) rfl))) (Or.inr (hw _ (List.mem_of_getElem? (i := 22) rfl))) (by decide) (t := .double) (t' := .double) (by decide) (by decide)))
  have Zs5 : n0 ≤ h5.size := Nat.le_trans Zs4 (Nat.le_of_eq W5.size.symm)
  have K5 := K4.wr W5 (Or.inl (List.mem_of_getElem? (i := 0) rfl))
  have N5 := Fr.snoc X5 N4 p_8
  refine own_st st5 ?_
  show own_Goes p e below s (Q1 Z a j1 j2 x0 x1 x2 x3 x4 h0 n0) rRrm1.cells rRrm1.slots T5 (mkF m 26 #[rv a, .val (.long j1), .second, .val (.long j2), .second, .val (.double x0), .second, .val (.double x1), .second, .val (.double x2), .second, .val (.double x3), .second, .val (.double x4), .second] [])
  refine own_st (fun _ kk_ => XS.aloadN X5.here hx rfl (hb hby d1_26) rfl rfl (XS.dload X5.here hx rfl (hb hby d1_27) rfl kk_)) ?_
  show own_Goes p e below s (Q1 Z a j1 j2 x0 x1 x2 x3 x4 h0 n0) rRrm1.cells rRrm1.slots T5 (mkF m 29 #[rv a, .val (.long j1), .second, .val (.long j2), .second, .val (.double x0), .second, .val (.double x1), .second, .val (.double x2), .second, .val (.double x3), .second, .val (.double x4), .second] [(.double x2), (.ref a)])
  obtain ⟨T6, h6, X6, e6, W6, st6⟩ := putF X5 hx hZ hown (host := "") (Or.inl (hw _ (List.mem_of_getElem? (i := 23) rfl))) Via.refl e5 f5_2 f5_0 (Or.inr ⟨(hw _ (List.mem_of_getElem? (i := 24) rfl)), rfl, hnm⟩) (hw _ (List.mem_of_getElem? (i := 2) rfl)) (ty := .double) (by decide) rfl rfl (g := (mkF m 29 #[rv a, .val (.long j1), .second, .val (.long j2), .second, .val (.double x0), .second, .val (.double x1), .second, .val (.double x2), .second, .val (.double x3), .second, .val (.double x4), .second] [(.double x2), (.ref a)])) rfl rfl (hb hby d1_29)
  have fw6 : Fld Z h6 a "com/example/sojourn/sojourn/ScheduleFile$Row" "start" "D" (.double x2) := f5_2.same W6
  have f6_0 := f5_0.wr W6
  have f6_2 := f5_3.other W6 (Or.inr (slot_ne (Or.inr (hw _ (List.mem_of_getElem? (i := 26) rfl))) (Or.inr (hw _ (List.mem_of_getElem? (i := 24) rfl))) (by decide) (t := .double) (t' := .double) (by decide) (by decide)))
  have f6_3 := f5_4.other W6 (Or.inr (slot_ne (Or.inr (hw _ (List.mem_of_getElem? (i := 28) rfl))) (Or.inr (hw _ (List.mem_of_getElem? (i := 24) rfl))) (by decide) (t := .double) (t' := .double) (by decide) (by decide)))
  have f6_4 := f5_5.other W6 (Or.inr (slot_ne (Or.inr (hw _ (List.mem_of_getElem? (i := 16) rfl))) (Or.inr (hw _ (List.mem_of_getElem? (i := 24) rfl))) (by decide) (t := .long) (t' := .double) (by decide) (by decide)))
  have f6_5 := f5_6.other W6 (Or.inr (slot_ne (Or.inr (hw _ (List.mem_of_getElem? (i := 18) rfl))) (Or.inr (hw _ (List.mem_of_getElem? (i := 24) rfl))) (by decide) (t := .long) (t' := .double) (by decide) (by decide)))
  have f6_6 := f5_7.other W6 (Or.inr (slot_ne (Or.inr (hw _ (List.mem_of_getElem? (i := 20) rfl))) (Or.inr (hw _ (List.mem_of_getElem? (i := 24) rfl))) (by decide) (t := .double) (t' := .double) (by decide) (by decide)))
  have f6_7 := fw5.other W6 (Or.inr (slot_ne (Or.inr (hw _ (List.mem_of_getElem? (i := 22) rfl))) (Or.inr (hw _ (List.mem_of_getElem? (i := 24) rfl))) (by decide) (t := .double) (t' := .double) (by decide) (by decide)))
  have Zs6 : n0 ≤ h6.size := Nat.le_trans Zs5 (Nat.le_of_eq W6.size.symm)
  have K6 := K5.wr W6 (Or.inl (List.mem_of_getElem? (i := 0) rfl))
  have N6 := Fr.snoc X6 N5 p_8
  refine own_st st6 ?_
  show own_Goes p e below s (Q1 Z a j1 j2 x0 x1 x2 x3 x4 h0 n0) rRrm1.cells rRrm1.slots T6 (mkF m 32 #[rv a, .val (.long j1), .second, .val (.long j2), .second, .val (.double x0), .second, .val (.double x1), .second, .val (.double x2), .second, .val (.double x3), .second, .val (.double x4), .second] [])
  refine own_st (fun _ kk_ => XS.aloadN X6.here hx rfl (hb hby d1_32) rfl rfl (XS.dload X6.here hx rfl (hb hby d1_33) rfl kk_)) ?_
  show own_Goes p e below s (Q1 Z a j1 j2 x0 x1 x2 x3 x4 h0 n0) rRrm1.cells rRrm1.slots T6 (mkF m 35 #[rv a, .val (.long j1), .second, .val (.long j2), .second, .val (.double x0), .second, .val (.double x1), .second, .val (.double x2), .second, .val (.double x3), .second, .val (.double x4), .second] [(.double x3), (.ref a)])
  obtain ⟨T7, h7, X7, e7, W7, st7⟩ := putF X6 hx hZ hown (host := "") (Or.inl (hw _ (List.mem_of_getElem? (i := 25) rfl))) Via.refl e6 f6_2 f6_0 (Or.inr ⟨(hw _ (List.mem_of_getElem? (i := 26) rfl)), rfl, hnm⟩) (hw _ (List.mem_of_getElem? (i := 2) rfl)) (ty := .double) (by decide) rfl rfl (g := (mkF m 35 #[rv a, .val (.long j1), .second, .val (.long j2), .second, .val (.double x0), .second, .val (.double x1), .second, .val (.double x2), .second, .val (.double x3), .second, .val (.double x4), .second] [(.double x3), (.ref a)])) rfl rfl (hb hby d1_35)
  have fw7 : Fld Z h7 a "com/example/sojourn/sojourn/ScheduleFile$Row" "completion" "D" (.double x3) := f6_2.same W7
  have f7_0 := f6_0.wr W7
  have f7_2 := f6_3.other W7 (Or.inr (slot_ne (Or.inr (hw _ (List.mem_of_getElem? (i := 28) rfl))) (Or.inr (hw _ (List.mem_of_getElem? (i := 26) rfl))) (by decide) (t := .double) (t' := .double) (by decide) (by decide)))
  have f7_3 := f6_4.other W7 (Or.inr (slot_ne (Or.inr (hw _ (List.mem_of_getElem? (i := 16) rfl))) (Or.inr (hw _ (List.mem_of_getElem? (i := 26) rfl))) (by decide) (t := .long) (t' := .double) (by decide) (by decide)))
  have f7_4 := f6_5.other W7 (Or.inr (slot_ne (Or.inr (hw _ (List.mem_of_getElem? (i := 18) rfl))) (Or.inr (hw _ (List.mem_of_getElem? (i := 26) rfl))) (by decide) (t := .long) (t' := .double) (by decide) (by decide)))
  have f7_5 := f6_6.other W7 (Or.inr (slot_ne (Or.inr (hw _ (List.mem_of_getElem? (i := 20) rfl))) (Or.inr (hw _ (List.mem_of_getElem? (i := 26) rfl))) (by decide) (t := .double) (t' := .double) (by decide) (by decide)))
  have f7_6 := f6_7.other W7 (Or.inr (slot_ne (Or.inr (hw _ (List.mem_of_getElem? (i := 22) rfl))) (Or.inr (hw _ (List.mem_of_getElem? (i := 26) rfl))) (by decide) (t := .double) (t' := .double) (by decide) (by decide)))
  have f7_7 := fw6.other W7 (Or.inr (slot_ne (Or.inr (hw _ (List.mem_of_getElem? (i := 24) rfl))) (Or.inr (hw _ (List.mem_of_getElem? (i := 26) rfl))) (by decide) (t := .double) (t' := .double) (by decide) (by decide)))
  have Zs7 : n0 ≤ h7.size := Nat.le_trans Zs6 (Nat.le_of_eq W7.size.symm)
  have K7 := K6.wr W7 (Or.inl (List.mem_of_getElem? (i := 0) rfl))
  have N7 := Fr.snoc X7 N6 p_8
  refine own_st st7 ?_
  show own_Goes p e below s (Q1 Z a j1 j2 x0 x1 x2 x3 x4 h0 n0) rRrm1.cells rRrm1.slots T7 (mkF m 38 #[rv a, .val (.long j1), .second, .val (.long j2), .second, .val (.double x0), .second, .val (.double x1), .second, .val (.double x2), .second, .val (.double x3), .second, .val (.double x4), .second] [])
  refine own_st (fun _ kk_ => XS.aloadN X7.here hx rfl (hb hby d1_38) rfl rfl (XS.dload X7.here hx rfl (hb hby d1_39) rfl kk_)) ?_
  show own_Goes p e below s (Q1 Z a j1 j2 x0 x1 x2 x3 x4 h0 n0) rRrm1.cells rRrm1.slots T7 (mkF m 41 #[rv a, .val (.long j1), .second, .val (.long j2), .second, .val (.double x0), .second, .val (.double x1), .second, .val (.double x2), .second, .val (.double x3), .second, .val (.double x4), .second] [(.double x4), (.ref a)])
  obtain ⟨T8, h8, X8, e8, W8, st8⟩ := putF X7 hx hZ hown (host := "") (Or.inl (hw _ (List.mem_of_getElem? (i := 27) rfl))) Via.refl e7 f7_2 f7_0 (Or.inr ⟨(hw _ (List.mem_of_getElem? (i := 28) rfl)), rfl, hnm⟩) (hw _ (List.mem_of_getElem? (i := 2) rfl)) (ty := .double) (by decide) rfl rfl (g := (mkF m 41 #[rv a, .val (.long j1), .second, .val (.long j2), .second, .val (.double x0), .second, .val (.double x1), .second, .val (.double x2), .second, .val (.double x3), .second, .val (.double x4), .second] [(.double x4), (.ref a)])) rfl rfl (hb hby d1_41)
  have fw8 : Fld Z h8 a "com/example/sojourn/sojourn/ScheduleFile$Row" "flow" "D" (.double x4) := f7_2.same W8
  have f8_0 := f7_0.wr W8
  have f8_2 := f7_3.other W8 (Or.inr (slot_ne (Or.inr (hw _ (List.mem_of_getElem? (i := 16) rfl))) (Or.inr (hw _ (List.mem_of_getElem? (i := 28) rfl))) (by decide) (t := .long) (t' := .double) (by decide) (by decide)))
  have f8_3 := f7_4.other W8 (Or.inr (slot_ne (Or.inr (hw _ (List.mem_of_getElem? (i := 18) rfl))) (Or.inr (hw _ (List.mem_of_getElem? (i := 28) rfl))) (by decide) (t := .long) (t' := .double) (by decide) (by decide)))
  have f8_4 := f7_5.other W8 (Or.inr (slot_ne (Or.inr (hw _ (List.mem_of_getElem? (i := 20) rfl))) (Or.inr (hw _ (List.mem_of_getElem? (i := 28) rfl))) (by decide) (t := .double) (t' := .double) (by decide) (by decide)))
  have f8_5 := f7_6.other W8 (Or.inr (slot_ne (Or.inr (hw _ (List.mem_of_getElem? (i := 22) rfl))) (Or.inr (hw _ (List.mem_of_getElem? (i := 28) rfl))) (by decide) (t := .double) (t' := .double) (by decide) (by decide)))
  have f8_6 := f7_7.other W8 (Or.inr (slot_ne (Or.inr (hw _ (List.mem_of_getElem? (i := 24) rfl))) (Or.inr (hw _ (List.mem_of_getElem? (i := 28) rfl))) (by decide) (t := .double) (t' := .double) (by decide) (by decide)))
  have f8_7 := fw7.other W8 (Or.inr (slot_ne (Or.inr (hw _ (List.mem_of_getElem? (i := 26) rfl))) (Or.inr (hw _ (List.mem_of_getElem? (i := 28) rfl))) (by decide) (t := .double) (t' := .double) (by decide) (by decide)))
  have Zs8 : n0 ≤ h8.size := Nat.le_trans Zs7 (Nat.le_of_eq W8.size.symm)
  have K8 := K7.wr W8 (Or.inl (List.mem_of_getElem? (i := 0) rfl))
  have N8 := Fr.snoc X8 N7 p_8
  refine own_st st8 ?_
  show own_Goes p e below s (Q1 Z a j1 j2 x0 x1 x2 x3 x4 h0 n0) rRrm1.cells rRrm1.slots T8 (mkF m 44 #[rv a, .val (.long j1), .second, .val (.long j2), .second, .val (.double x0), .second, .val (.double x1), .second, .val (.double x2), .second, .val (.double x3), .second, .val (.double x4), .second] [])
  refine own_ret0 X8 hx hlk Bd.returns (hb hby d1_44) (by decide) (by decide) ?_
  show Q1 Z a j1 j2 x0 x1 x2 x3 x4 h0 n0 none T8.heap _
  rw [e8]
  exact ⟨rfl, N8, K8, f8_3⟩
abbrev rRrm4 : Room := { frames := 0, cells := 0, slots := 0, locals := 0 }
theorem d4_0 : decode prog_44_method_2_code 0 = .ok (.aload_n 0, 1) := by decide +kernel
theorem d4_1 : decode prog_44_method_2_code 1 = .ok (.getfield 15, 3) := by decide +kernel
theorem d4_4 : decode prog_44_method_2_code 4 = .ok (.ldc2_w 34, 3) := by decide +kernel
theorem d4_7 : decode prog_44_method_2_code 7 = .ok (.lcmp, 1) := by decide +kernel
theorem d4_8 : decode prog_44_method_2_code 8 = .ok (.ifCond .ne 7, 3) := by decide +kernel
theorem d4_11 : decode prog_44_method_2_code 11 = .ok (.iconst 1, 1) := by decide +kernel
theorem d4_12 : decode prog_44_method_2_code 12 = .ok (.goto 4, 3) := by decide +kernel
theorem d4_15 : decode prog_44_method_2_code 15 = .ok (.iconst 0, 1) := by decide +kernel
theorem d4_16 : decode prog_44_method_2_code 16 = .ok (.ireturn, 1) := by decide +kernel
theorem pn_rm4 : plainFor (⟨"com/example/sojourn/sojourn/ScheduleFile$Row", "shared", "()Z"⟩ : MethodName) = true := by first | exact plainFor_of_name (by first | (simp [plainName, overriddenIn]; done) | decide +kernel) | decide +kernel
theorem ef_rm4 (m : MethodId) (a : Addr) : entryFrame m #[(.ref a)] 1 = (mkF m 0 #[rv a] []) := by first | (simp [entryFrame, mkF, argsToLocals, Value.category]; done) | rfl
def Q4 (Z : State) (a : Addr) (j2 : Int64) (h0 : Heap) (n0 : Nat) (v_ : Option Value) (h_ : Heap) (L_ : List Loc) : Prop := (v_ = some (.int (own_b (j2 = (-9223372036854775808 : Int64))))) ∧ (Fr n0 L_) ∧ (h_ = h0)
set_option maxRecDepth 65536 in
set_option maxHeartbeats 40000000 in
theorem rm4 (l : Launch) (Z : State) (a0 : Array Value) (hw : ∀ d ∈ tables_1, d.before a0 Z = true) (ws : List Jvm.Cond) (a : Addr) (j2 : Int64) (h0 : Heap) (n0 : Nat) (Z0 : n0 ≤ h0.size) (p_0 : Fld Z h0 a "com/example/sojourn/sojourn/ScheduleFile$Row" "machine" "J" (.long j2)) :
    MetFree l (⟨"com/example/sojourn/sojourn/ScheduleFile$Row", "shared", "()Z"⟩ : MethodName) (head1 (Jvm.Cond.code (⟨"com/example/sojourn/sojourn/ScheduleFile$Row", "shared", "()Z"⟩ : MethodName) prog_44_method_2_code 1 (some .boolean) :: ws) rRrm4) (fun a_ U_ => a_ = #[(.ref a)] ∧ Z.Warmed39 U_.vm ∧ U_.heap = h0) (fun _ _ _ _ _ => True) (fun _ U_ o_ U1_ => ∃ v_ L_, o_ = .returned v_ ∧ Q4 Z a j2 h0 n0 v_ U1_.heap L_ ∧ FrameEnd U_ o_ U1_ L_ rRrm4.cells rRrm4.slots) := by
  refine MetFree.of_bodySF pn_rm4 hisR ?_
  intro p e s m args below meth c s₁ Bd hml0 hP hK
  obtain ⟨rfl, hZ, hh⟩ := hP
  have hx := Bd.exec
  have hby := Bd.bytes
  have hlk : meth.locks = false := Bd.notSynchronized
  have hml : c.maxLocals = 1 := hml0
  have hown : s.vm.findClass "com/example/sojourn/sojourn/ScheduleFile$Row" = some m.cls := findClass_of_methodNamed Bd.named
  have hnm := (name_of_methodNamed Bd.named Bd.method).1
  have X0 : Stand p l e rRrm4 s m #[(.ref a)] below meth c s₁ [] 0 0 := Stand.of_body Bd
  have e0 : s₁.heap = h0 := by rw [← hh, Bd.state]; rfl
  have N0 := Fr.nil n0
  show own_Goes p e below s (Q4 Z a j2 h0 n0) rRrm4.cells rRrm4.slots s₁ (entryFrame m #[(.ref a)] 1)
  rw [ef_rm4 m a]
  show own_Goes p e below s (Q4 Z a j2 h0 n0) rRrm4.cells rRrm4.slots s₁ (mkF m 0 #[rv a] [])
  refine own_st (fun _ kk_ => XS.aloadN X0.here hx rfl (hb hby d4_0) rfl rfl kk_) ?_
  show own_Goes p e below s (Q4 Z a j2 h0 n0) rRrm4.cells rRrm4.slots s₁ (mkF m 1 #[rv a] [(.ref a)])
  obtain ⟨T1, X1, e1, st1⟩ := getF X0 hx hZ hown (host := "") (Or.inl (hw _ (List.mem_of_getElem? (i := 17) rfl))) Via.refl e0 p_0 (g := (mkF m 1 #[rv a] [(.ref a)])) rfl rfl (hb hby d4_1)
  refine own_st st1 ?_
  show own_Goes p e below s (Q4 Z a j2 h0 n0) rRrm4.cells rRrm4.slots T1 (mkF m 4 #[rv a] [(.long j2)])
  refine own_st (fun _ kk_ => X1.ldc2Long hx hown (mvT hZ (hw _ (List.mem_of_getElem? (i := 34) rfl))) (g := (mkF m 4 #[rv a] [(.long j2)])) rfl (hb hby d4_4) _ (XT.lcmp X1.here hx rfl (hb hby d4_7) rfl kk_)) ?_
  show own_Goes p e below s (Q4 Z a j2 h0 n0) rRrm4.cells rRrm4.slots T1 (mkF m 8 #[rv a] [(.int (XT.cmpL j2 (-9223372036854775808 : Int64)))])
  rcases Classical.em (j2 = (-9223372036854775808 : Int64)) with hq0 | hq0
  · refine own_st (fun _ kk_ => XS.ifNo X1.here hx rfl (hb hby d4_8) rfl (XT.ll_ne_f hq0) (XS.iconst X1.here hx rfl (hb hby d4_11) (XS.goto X1.here hx rfl (pc0 := 12) (pc' := 16) rfl (hb hby d4_12) (by decide) (by decide) kk_))) ?_
    show own_Goes p e below s (Q4 Z a j2 h0 n0) rRrm4.cells rRrm4.slots T1 (mkF m 16 #[rv a] [(.int (1 : Int32))])
    refine own_retN X1 hx hlk (t := .boolean) Bd.returns (by simp) (hb hby d4_16) (by decide) (by decide) ?_
    show Q4 Z a j2 h0 n0 (some (.int (nar .boolean (1 : Int32)))) T1.heap _
    rw [e1]
    exact ⟨by exact own_bt hq0, N0, rfl⟩
  · refine own_st (fun _ kk_ => XS.ifYes X1.here hx rfl (pc0 := 8) (pc' := 15) rfl (hb hby d4_8) rfl (XT.ll_ne_t hq0) (by decide) (by decide) (XS.iconst X1.here hx rfl (hb hby d4_15) kk_)) ?_
    show own_Goes p e below s (Q4 Z a j2 h0 n0) rRrm4.cells rRrm4.slots T1 (mkF m 16 #[rv a] [(.int (0 : Int32))])
    refine own_retN X1 hx hlk (t := .boolean) Bd.returns (by simp) (hb hby d4_16) (by decide) (by decide) ?_
    show Q4 Z a j2 h0 n0 (some (.int (nar .boolean (0 : Int32)))) T1.heap _
    rw [e1]
    exact ⟨by exact own_bf hq0, N0, rfl⟩
theorem pd_1 : parseMethodDescriptor "(JJDDDDD)V" = some ⟨[.long, .long, .double, .double, .double, .double, .double], none⟩ := by decide +kernel
theorem pd_2 : parseMethodDescriptor "()Z" = some ⟨[], some .boolean⟩ := by decide +kernel
theorem pn_rm0 : plainFor x = true := by first | exact plainFor_of_name (by first | (simp [plainName, overriddenIn]; done) | decide +kernel) | decide +kernel
theorem ef_rm0 (m : MethodId) (p1 : Int64) (p2 : Int64) (p3 : Int32) (p4 : Int32) (p5 : Int32) : entryFrame m #[(.long p1), (.long p2), (.int p3), (.int p4), (.int p5)] maxLocals = (mkF m 0 #[.val (.long p1), .second, .val (.long p2), .second, iv p3, iv p4, iv p5, .unset, .unset, .unset, .unset, .unset, .unset, .unset, .unset, .unset] []) := by first | (simp [entryFrame, mkF, argsToLocals, Value.category, maxLocals]; done) | rfl
def Q0 (Z : State) (p1 : Int64) (p2 : Int64) (p3 : Int32) (p4 : Int32) (p5 : Int32) (h0 : Heap) (n0 : Nat) (v_ : Option Value) (h_ : Heap) (L_ : List Loc) : Prop := (v_ = some (.int (1 : Int32))) ∧ (Fr n0 L_)
set_option maxRecDepth 65536 in
set_option maxHeartbeats 40000000 in
theorem rm0 (l : Launch) (Z : State) (a0 : Array Value) (hw : ∀ d ∈ tables_1, d.before a0 Z = true) (ws : List Jvm.Cond) (p1 : Int64) (p2 : Int64) (p3 : Int32) (p4 : Int32) (p5 : Int32) (h0 : Heap) (n0 : Nat) (Z0 : n0 ≤ h0.size) :
    MetFree l x (head1 (Jvm.Cond.code x code maxLocals ret :: ws) room_1) (fun a_ U_ => a_ = #[(.long p1), (.long p2), (.int p3), (.int p4), (.int p5)] ∧ Z.Warmed39 U_.vm ∧ U_.heap = h0) (fun _ _ _ _ _ => True) (fun _ U_ o_ U1_ => ∃ v_ L_, o_ = .returned v_ ∧ Q0 Z p1 p2 p3 p4 p5 h0 n0 v_ U1_.heap L_ ∧ FrameEnd U_ o_ U1_ L_ 16 128) := by
  refine MetFree.of_bodySF pn_rm0 hisR ?_
  intro p e s m args below meth c s₁ Bd hml0 hP hK
  obtain ⟨rfl, hZ, hh⟩ := hP
  have hx := Bd.exec
  have hby := Bd.bytes
  have hlk : meth.locks = false := Bd.notSynchronized
  have hml : c.maxLocals = 16 := hml0
  have hown : s.vm.findClass "com/example/sojourn/sojourn/ScheduleFileSharedPinLaw" = some m.cls := findClass_of_methodNamed Bd.named
  have hnm := (name_of_methodNamed Bd.named Bd.method).1
  have X0 : Stand p l e room_1 s m #[(.long p1), (.long p2), (.int p3), (.int p4), (.int p5)] below meth c s₁ [] 0 0 := Stand.of_body Bd
  have e0 : s₁.heap = h0 := by rw [← hh, Bd.state]; rfl
  have N0 := Fr.nil n0
  show own_Goes p e below s (Q0 Z p1 p2 p3 p4 p5 h0 n0) 16 128 s₁ (entryFrame m #[(.long p1), (.long p2), (.int p3), (.int p4), (.int p5)] maxLocals)
  rw [ef_rm0 m p1 p2 p3 p4 p5]
  show own_Goes p e below s (Q0 Z p1 p2 p3 p4 p5 h0 n0) 16 128 s₁ (mkF m 0 #[.val (.long p1), .second, .val (.long p2), .second, iv p3, iv p4, iv p5, .unset, .unset, .unset, .unset, .unset, .unset, .unset, .unset, .unset] [])
  refine own_st (fun _ kk_ => XS.iload X0.here hx rfl (hb hby at_0) rfl (XS.iconst X0.here hx rfl (hb hby at_2) (XS.iand X0.here hx rfl (hb hby at_3) rfl (XS.istore X0.here hx rfl (hb hby at_4) rfl (l' := #[.val (.long p1), .second, .val (.long p2), .second, iv p3, iv p4, iv p5, iv (p3 &&& (3 : Int32)), .unset, .unset, .unset, .unset, .unset, .unset, .unset, .unset]) rfl (XS.iload X0.here hx rfl (hb hby at_6) rfl kk_))))) ?_
  show own_Goes p e below s (Q0 Z p1 p2 p3 p4 p5 h0 n0) 16 128 s₁ (mkF m 8 #[.val (.long p1), .second, .val (.long p2), .second, iv p3, iv p4, iv p5, iv (p3 &&& (3 : Int32)), .unset, .unset, .unset, .unset, .unset, .unset, .unset, .unset] [(.int (p3 &&& (3 : Int32)))])
  have J48 : ∀ (mm : Int64), own_Goes p e below s (Q0 Z p1 p2 p3 p4 p5 h0 n0) 16 128 s₁ (mkF m 48 #[.val (.long p1), .second, .val (.long p2), .second, iv p3, iv p4, iv p5, iv (p3 &&& (3 : Int32)), .val (.long mm), .second, .unset, .unset, .unset, .unset, .unset, .unset] []) := by
    intro mm
    show own_Goes p e below s (Q0 Z p1 p2 p3 p4 p5 h0 n0) 16 128 s₁ (mkF m 48 #[.val (.long p1), .second, .val (.long p2), .second, iv p3, iv p4, iv p5, iv (p3 &&& (3 : Int32)), .val (.long mm), .second, .unset, .unset, .unset, .unset, .unset, .unset] [])
    refine own_st (fun _ kk_ => XS.iload X0.here hx rfl (hb hby at_48) rfl (XS.i2dS X0.here hx rfl (hb hby at_50) rfl (v := FP.i2d p4) rfl (XS.dstore X0.here hx rfl (hb hby at_51) rfl (l' := #[.val (.long p1), .second, .val (.long p2), .second, iv p3, iv p4, iv p5, iv (p3 &&& (3 : Int32)), .val (.long mm), .second, .val (.double (FP.i2d p4)), .second, .unset, .unset, .unset, .unset]) rfl (XS.iload X0.here hx rfl (hb hby at_53) rfl (XS.i2dS X0.here hx rfl (hb hby at_55) rfl (v := FP.i2d p5) rfl (XS.dstore X0.here hx rfl (hb hby at_56) rfl (l' := #[.val (.long p1), .second, .val (.long p2), .second, iv p3, iv p4, iv p5, iv (p3 &&& (3 : Int32)), .val (.long mm), .second, .val (.double (FP.i2d p4)), .second, .val (.double (FP.i2d p5)), .second, .unset, .unset]) rfl kk_)))))) ?_
    show own_Goes p e below s (Q0 Z p1 p2 p3 p4 p5 h0 n0) 16 128 s₁ (mkF m 58 #[.val (.long p1), .second, .val (.long p2), .second, iv p3, iv p4, iv p5, iv (p3 &&& (3 : Int32)), .val (.long mm), .second, .val (.double (FP.i2d p4)), .second, .val (.double (FP.i2d p5)), .second, .unset, .unset] [])
    obtain ⟨T1, h1, X1, e1, E1, A1, D1, -, st1⟩ := newO X0 hx hZ hown (hw _ (List.mem_of_getElem? (i := 1) rfl)) (hw _ (List.mem_of_getElem? (i := 2) rfl)) (hw _ (List.mem_of_getElem? (i := 3) rfl)) e0 (g := (mkF m 58 #[.val (.long p1), .second, .val (.long p2), .second, iv p3, iv p4, iv p5, iv (p3 &&& (3 : Int32)), .val (.long mm), .second, .val (.double (FP.i2d p4)), .second, .val (.double (FP.i2d p5)), .second, .unset, .unset] [])) rfl (hb hby at_58) (by decide) (by decide)
    obtain ⟨b1, gx1⟩ : ∃ z, z = h0.size := ⟨_, rfl⟩
    rw [← gx1] at A1 D1 st1
    have gg1 : n0 ≤ b1 := Nat.le_trans Z0 (Nat.le_of_eq gx1.symm)
    have Zs1 : n0 ≤ h1.size := Nat.le_trans Z0 E1.1
    have fn1_job : Fld Z h1 b1 "com/example/sojourn/sojourn/ScheduleFile$Row" "job" "J" (.long (0 : Int64)) := D1 (Or.inr (hw _ (List.mem_of_getElem? (i := 16) rfl))) (ty := .long) (by decide)
    have fn1_machine : Fld Z h1 b1 "com/example/sojourn/sojourn/ScheduleFile$Row" "machine" "J" (.long (0 : Int64)) := D1 (Or.inr (hw _ (List.mem_of_getElem? (i := 18) rfl))) (ty := .long) (by decide)
    have fn1_release : Fld Z h1 b1 "com/example/sojourn/sojourn/ScheduleFile$Row" "release" "D" (.double (0 : UInt64)) := D1 (Or.inr (hw _ (List.mem_of_getElem? (i := 20) rfl))) (ty := .double) (by decide)
    have fn1_size : Fld Z h1 b1 "com/example/sojourn/sojourn/ScheduleFile$Row" "size" "D" (.double (0 : UInt64)) := D1 (Or.inr (hw _ (List.mem_of_getElem? (i := 22) rfl))) (ty := .double) (by decide)
    have fn1_start : Fld Z h1 b1 "com/example/sojourn/sojourn/ScheduleFile$Row" "start" "D" (.double (0 : UInt64)) := D1 (Or.inr (hw _ (List.mem_of_getElem? (i := 24) rfl))) (ty := .double) (by decide)
    have fn1_completion : Fld Z h1 b1 "com/example/sojourn/sojourn/ScheduleFile$Row" "completion" "D" (.double (0 : UInt64)) := D1 (Or.inr (hw _ (List.mem_of_getElem? (i := 26) rfl))) (ty := .double) (by decide)
    have fn1_flow : Fld Z h1 b1 "com/example/sojourn/sojourn/ScheduleFile$Row" "flow" "D" (.double (0 : UInt64)) := D1 (Or.inr (hw _ (List.mem_of_getElem? (i := 28) rfl))) (ty := .double) (by decide)
    refine own_st st1 ?_
    show own_Goes p e below s (Q0 Z p1 p2 p3 p4 p5 h0 n0) 16 128 T1 (mkF m 61 #[.val (.long p1), .second, .val (.long p2), .second, iv p3, iv p4, iv p5, iv (p3 &&& (3 : Int32)), .val (.long mm), .second, .val (.double (FP.i2d p4)), .second, .val (.double (FP.i2d p5)), .second, .unset, .unset] [(.ref b1)])
    refine own_st (fun _ kk_ => XS.dup X1.here hx rfl (hb hby at_61) rfl rfl (XS.lloadN X1.here hx rfl (hb hby at_62) rfl (XS.lload X1.here hx rfl (hb hby at_63) rfl (XS.dload X1.here hx rfl (hb hby at_65) rfl (XS.dload X1.here hx rfl (hb hby at_67) rfl (XS.dload X1.here hx rfl (hb hby at_69) rfl (XS.dload X1.here hx rfl (hb hby at_71) rfl (XS.dload X1.here hx rfl (hb hby at_73) rfl kk_)))))))) ?_
    show own_Goes p e below s (Q0 Z p1 p2 p3 p4 p5 h0 n0) 16 128 T1 (mkF m 75 #[.val (.long p1), .second, .val (.long p2), .second, iv p3, iv p4, iv p5, iv (p3 &&& (3 : Int32)), .val (.long mm), .second, .val (.double (FP.i2d p4)), .second, .val (.double (FP.i2d p5)), .second, .unset, .unset] [(.double (FP.i2d p5)), (.double (FP.i2d p5)), (.double (FP.i2d p4)), (.double (FP.i2d p5)), (.double (FP.i2d p4)), (.long mm), (.long p1), (.ref b1), (.ref b1)])
    obtain ⟨_, _, ⟨T2, L2, k2, n2⟩, -, X2, ⟨Lc2, hQ2, l2, y2, z2⟩, st2⟩ := X1.specialBack hx (y := (⟨"com/example/sojourn/sojourn/ScheduleFile$Row", "<init>", "(JJDDDDD)V"⟩ : MethodName)) rfl hown (mvT hZ (hw _ (List.mem_of_getElem? (i := 4) rfl))) (mvT hZ (hw _ (List.mem_of_getElem? (i := 5) rfl))) (mvT hZ (hw _ (List.mem_of_getElem? (i := 6) rfl))) (by decide) (backOf (W := 1) (rm1 l Z a0 hw [] (b1) (p1) (mm) ((FP.i2d p4)) ((FP.i2d p5)) ((FP.i2d p4)) ((FP.i2d p5)) ((FP.i2d p5)) h1 n0 Zs1 A1 fn1_job fn1_machine fn1_release fn1_size fn1_start fn1_completion fn1_flow gg1) hZ (hw _ (List.mem_of_getElem? (i := 6) rfl)) (hw _ (List.mem_of_getElem? (i := 3) rfl)) (by decide) (by decide)) (g := (mkF m 75 #[.val (.long p1), .second, .val (.long p2), .second, iv p3, iv p4, iv p5, iv (p3 &&& (3 : Int32)), .val (.long mm), .second, .val (.double (FP.i2d p4)), .second, .val (.double (FP.i2d p5)), .second, .unset, .unset] [(.double (FP.i2d p5)), (.double (FP.i2d p5)), (.double (FP.i2d p4)), (.double (FP.i2d p5)), (.double (FP.i2d p4)), (.long mm), (.long p1), (.ref b1), (.ref b1)])) rfl (by rw [hml]; rfl) (Steps.refl _) (a := b1) (argsL := [(.long p1), (.long mm), (.double (FP.i2d p4)), (.double (FP.i2d p5)), (.double (FP.i2d p4)), (.double (FP.i2d p5)), (.double (FP.i2d p5))]) (rest := [(.ref b1)]) (lenOf pd_1 rfl) rfl (by show 2 * 0 + _ ≤ _; exact Nat.le_of_eq rfl) (hb hby at_75) (fun _ _ => ⟨rfl, e1, (by decide : 1 + 0 ≤ _), (by decide : 7 + 0 ≤ _)⟩)
    dsimp only [Pt.U, Pt.locs, Pt.cells, Pt.slots] at X2 l2 y2 z2 st2 hQ2
    subst l2 y2 z2
    obtain ⟨rfl, Nq2, Kq2, u2_0⟩ := hQ2
    have N2 := Fr.app N0 Nq2
    have f2_0 := A1.keep Kq2
    have Zs2 : n0 ≤ T2.heap.size := Nat.le_trans Zs1 Kq2.1
    refine own_st (fun _ kk_ => st2.trans kk_) ?_
    show own_Goes p e below s (Q0 Z p1 p2 p3 p4 p5 h0 n0) 16 128 T2 (mkF m 78 #[.val (.long p1), .second, .val (.long p2), .second, iv p3, iv p4, iv p5, iv (p3 &&& (3 : Int32)), .val (.long mm), .second, .val (.double (FP.i2d p4)), .second, .val (.double (FP.i2d p5)), .second, .unset, .unset] [(.ref b1)])
    refine own_st (fun _ kk_ => XS.astore X2.here hx rfl (hb hby at_78) rfl rfl (l' := #[.val (.long p1), .second, .val (.long p2), .second, iv p3, iv p4, iv p5, iv (p3 &&& (3 : Int32)), .val (.long mm), .second, .val (.double (FP.i2d p4)), .second, .val (.double (FP.i2d p5)), .second, rv b1, .unset]) rfl (XS.lload X2.here hx rfl (hb hby at_80) rfl (X2.ldc2Long hx hown (mvT hZ (hw _ (List.mem_of_getElem? (i := 0) rfl))) (g := (mkF m 82 #[.val (.long p1), .second, .val (.long p2), .second, iv p3, iv p4, iv p5, iv (p3 &&& (3 : Int32)), .val (.long mm), .second, .val (.double (FP.i2d p4)), .second, .val (.double (FP.i2d p5)), .second, rv b1, .unset] [(.long mm)])) rfl (hb hby at_82) _ (XT.lcmp X2.here hx rfl (hb hby at_85) rfl kk_)))) ?_
    show own_Goes p e below s (Q0 Z p1 p2 p3 p4 p5 h0 n0) 16 128 T2 (mkF m 86 #[.val (.long p1), .second, .val (.long p2), .second, iv p3, iv p4, iv p5, iv (p3 &&& (3 : Int32)), .val (.long mm), .second, .val (.double (FP.i2d p4)), .second, .val (.double (FP.i2d p5)), .second, rv b1, .unset] [(.int (XT.cmpL mm (-9223372036854775808 : Int64)))])
    rcases Classical.em (mm = (-9223372036854775808 : Int64)) with qm | qm
    · refine own_st (fun _ kk_ => XS.ifNo X2.here hx rfl (hb hby at_86) rfl (XT.ll_ne_f qm) (XS.iconst X2.here hx rfl (hb hby at_89) (XS.goto X2.here hx rfl (pc0 := 90) (pc' := 94) rfl (hb hby at_90) (by decide) (by decide) (XS.istore X2.here hx rfl (hb hby at_94) rfl (l' := #[.val (.long p1), .second, .val (.long p2), .second, iv p3, iv p4, iv p5, iv (p3 &&& (3 : Int32)), .val (.long mm), .second, .val (.double (FP.i2d p4)), .second, .val (.double (FP.i2d p5)), .second, rv b1, iv (1 : Int32)]) rfl (XS.aload X2.here hx rfl (hb hby at_96) rfl rfl kk_))))) ?_
      show own_Goes p e below s (Q0 Z p1 p2 p3 p4 p5 h0 n0) 16 128 T2 (mkF m 98 #[.val (.long p1), .second, .val (.long p2), .second, iv p3, iv p4, iv p5, iv (p3 &&& (3 : Int32)), .val (.long mm), .second, .val (.double (FP.i2d p4)), .second, .val (.double (FP.i2d p5)), .second, rv b1, iv (1 : Int32)] [(.ref b1)])
      obtain ⟨cq3, kq3, q3a, q3b, q3c⟩ := isOf hZ rfl f2_0
      obtain ⟨_, _, ⟨T3, L3, k3, n3⟩, -, X3, ⟨Lc3, hQ3, l3, y3, z3⟩, st3⟩ := X2.virtualBack hx (y := (⟨"com/example/sojourn/sojourn/ScheduleFile$Row", "shared", "()Z"⟩ : MethodName)) (z := (⟨"com/example/sojourn/sojourn/ScheduleFile$Row", "shared", "()Z"⟩ : MethodName)) hown (mvT hZ (hw _ (List.mem_of_getElem? (i := 29) rfl))) (mvT hZ (hw _ (List.mem_of_getElem? (i := 30) rfl))) (notFace_of_selects (args := #[]) (mvT hZ (hw _ (List.mem_of_getElem? (i := 32) rfl)))) (mvT hZ (hw _ (List.mem_of_getElem? (i := 32) rfl))) (mvT hZ (hw _ (List.mem_of_getElem? (i := 31) rfl))) (by decide) (backOf (W := 0) (rm4 l Z a0 hw [] (b1) (mm) T2.heap n0 Zs2 u2_0) hZ (hw _ (List.mem_of_getElem? (i := 33) rfl)) (hw _ (List.mem_of_getElem? (i := 3) rfl)) (by decide) (by decide)) q3a q3c (g := (mkF m 98 #[.val (.long p1), .second, .val (.long p2), .second, iv p3, iv p4, iv p5, iv (p3 &&& (3 : Int32)), .val (.long mm), .second, .val (.double (FP.i2d p4)), .second, .val (.double (FP.i2d p5)), .second, rv b1, iv (1 : Int32)] [(.ref b1)])) rfl (by rw [hml]; rfl) (Steps.refl _) (argsL := []) (rest := []) (lenOf pd_2 rfl) rfl (by show 2 * 0 + _ ≤ _; exact Nat.le_of_eq rfl) (hb hby at_98) (fun _ _ => ⟨rfl, rfl, (by decide : 1 + 0 ≤ _), (by decide : 7 + 0 ≤ _)⟩)
      dsimp only [Pt.U, Pt.locs, Pt.cells, Pt.slots] at X3 l3 y3 z3 st3 hQ3
      subst l3 y3 z3
      obtain ⟨rfl, Nq3, eq3⟩ := hQ3
      have N3 := Fr.app N2 Nq3
      refine own_st (fun _ kk_ => st3.trans kk_) ?_
      show own_Goes p e below s (Q0 Z p1 p2 p3 p4 p5 h0 n0) 16 128 T3 (mkF m 101 #[.val (.long p1), .second, .val (.long p2), .second, iv p3, iv p4, iv p5, iv (p3 &&& (3 : Int32)), .val (.long mm), .second, .val (.double (FP.i2d p4)), .second, .val (.double (FP.i2d p5)), .second, rv b1, iv (1 : Int32)] [(.int (own_b (mm = (-9223372036854775808 : Int64))))])
      refine own_st (fun _ kk_ => XS.iload X3.here hx rfl (hb hby at_101) rfl (XS.icmpNo X3.here hx rfl (hb hby at_103) rfl (XT.ii_ne_f (own_b1 qm)) (XS.iconst X3.here hx rfl (hb hby at_106) (XS.goto X3.here hx rfl (pc0 := 107) (pc' := 111) rfl (hb hby at_107) (by decide) (by decide) kk_)))) ?_
      show own_Goes p e below s (Q0 Z p1 p2 p3 p4 p5 h0 n0) 16 128 T3 (mkF m 111 #[.val (.long p1), .second, .val (.long p2), .second, iv p3, iv p4, iv p5, iv (p3 &&& (3 : Int32)), .val (.long mm), .second, .val (.double (FP.i2d p4)), .second, .val (.double (FP.i2d p5)), .second, rv b1, iv (1 : Int32)] [(.int (1 : Int32))])
      refine own_retN X3 hx hlk (t := .boolean) Bd.returns (by simp) (hb hby at_111) (by decide) (by decide) ?_
      show Q0 Z p1 p2 p3 p4 p5 h0 n0 (some (.int (nar .boolean (1 : Int32)))) T3.heap _
      rw [eq3]
      exact ⟨rfl, N3⟩
    · refine own_st (fun _ kk_ => XS.ifYes X2.here hx rfl (pc0 := 86) (pc' := 93) rfl (hb hby at_86) rfl (XT.ll_ne_t qm) (by decide) (by decide) (XS.iconst X2.here hx rfl (hb hby at_93) (XS.istore X2.here hx rfl (hb hby at_94) rfl (l' := #[.val (.long p1), .second, .val (.long p2), .second, iv p3, iv p4, iv p5, iv (p3 &&& (3 : Int32)), .val (.long mm), .second, .val (.double (FP.i2d p4)), .second, .val (.double (FP.i2d p5)), .second, rv b1, iv (0 : Int32)]) rfl (XS.aload X2.here hx rfl (hb hby at_96) rfl rfl kk_)))) ?_
      show own_Goes p e below s (Q0 Z p1 p2 p3 p4 p5 h0 n0) 16 128 T2 (mkF m 98 #[.val (.long p1), .second, .val (.long p2), .second, iv p3, iv p4, iv p5, iv (p3 &&& (3 : Int32)), .val (.long mm), .second, .val (.double (FP.i2d p4)), .second, .val (.double (FP.i2d p5)), .second, rv b1, iv (0 : Int32)] [(.ref b1)])
      obtain ⟨cq4, kq4, q4a, q4b, q4c⟩ := isOf hZ rfl f2_0
      obtain ⟨_, _, ⟨T4, L4, k4, n4⟩, -, X4, ⟨Lc4, hQ4, l4, y4, z4⟩, st4⟩ := X2.virtualBack hx (y := (⟨"com/example/sojourn/sojourn/ScheduleFile$Row", "shared", "()Z"⟩ : MethodName)) (z := (⟨"com/example/sojourn/sojourn/ScheduleFile$Row", "shared", "()Z"⟩ : MethodName)) hown (mvT hZ (hw _ (List.mem_of_getElem? (i := 29) rfl))) (mvT hZ (hw _ (List.mem_of_getElem? (i := 30) rfl))) (notFace_of_selects (args := #[]) (mvT hZ (hw _ (List.mem_of_getElem? (i := 32) rfl)))) (mvT hZ (hw _ (List.mem_of_getElem? (i := 32) rfl))) (mvT hZ (hw _ (List.mem_of_getElem? (i := 31) rfl))) (by decide) (backOf (W := 0) (rm4 l Z a0 hw [] (b1) (mm) T2.heap n0 Zs2 u2_0) hZ (hw _ (List.mem_of_getElem? (i := 33) rfl)) (hw _ (List.mem_of_getElem? (i := 3) rfl)) (by decide) (by decide)) q4a q4c (g := (mkF m 98 #[.val (.long p1), .second, .val (.long p2), .second, iv p3, iv p4, iv p5, iv (p3 &&& (3 : Int32)), .val (.long mm), .second, .val (.double (FP.i2d p4)), .second, .val (.double (FP.i2d p5)), .second, rv b1, iv (0 : Int32)] [(.ref b1)])) rfl (by rw [hml]; rfl) (Steps.refl _) (argsL := []) (rest := []) (lenOf pd_2 rfl) rfl (by show 2 * 0 + _ ≤ _; exact Nat.le_of_eq rfl) (hb hby at_98) (fun _ _ => ⟨rfl, rfl, (by decide : 1 + 0 ≤ _), (by decide : 7 + 0 ≤ _)⟩)
      dsimp only [Pt.U, Pt.locs, Pt.cells, Pt.slots] at X4 l4 y4 z4 st4 hQ4
      subst l4 y4 z4
      obtain ⟨rfl, Nq4, eq4⟩ := hQ4
      have N4 := Fr.app N2 Nq4
      refine own_st (fun _ kk_ => st4.trans kk_) ?_
      show own_Goes p e below s (Q0 Z p1 p2 p3 p4 p5 h0 n0) 16 128 T4 (mkF m 101 #[.val (.long p1), .second, .val (.long p2), .second, iv p3, iv p4, iv p5, iv (p3 &&& (3 : Int32)), .val (.long mm), .second, .val (.double (FP.i2d p4)), .second, .val (.double (FP.i2d p5)), .second, rv b1, iv (0 : Int32)] [(.int (own_b (mm = (-9223372036854775808 : Int64))))])
      refine own_st (fun _ kk_ => XS.iload X4.here hx rfl (hb hby at_101) rfl (XS.icmpNo X4.here hx rfl (hb hby at_103) rfl (XT.ii_ne_f (own_b0 qm)) (XS.iconst X4.here hx rfl (hb hby at_106) (XS.goto X4.here hx rfl (pc0 := 107) (pc' := 111) rfl (hb hby at_107) (by decide) (by decide) kk_)))) ?_
      show own_Goes p e below s (Q0 Z p1 p2 p3 p4 p5 h0 n0) 16 128 T4 (mkF m 111 #[.val (.long p1), .second, .val (.long p2), .second, iv p3, iv p4, iv p5, iv (p3 &&& (3 : Int32)), .val (.long mm), .second, .val (.double (FP.i2d p4)), .second, .val (.double (FP.i2d p5)), .second, rv b1, iv (0 : Int32)] [(.int (1 : Int32))])
      refine own_retN X4 hx hlk (t := .boolean) Bd.returns (by simp) (hb hby at_111) (by decide) (by decide) ?_
      show Q0 Z p1 p2 p3 p4 p5 h0 n0 (some (.int (nar .boolean (1 : Int32)))) T4.heap _
      rw [eq4]
      exact ⟨rfl, N4⟩
  rcases Classical.em ((p3 &&& (3 : Int32)) = (0 : Int32)) with q0 | q0
  · refine own_st (fun _ kk_ => XS.ifNo X0.here hx rfl (hb hby at_8) rfl (XT.i0_ne_f q0) (X0.ldc2Long hx hown (mvT hZ (hw _ (List.mem_of_getElem? (i := 0) rfl))) (g := (mkF m 11 #[.val (.long p1), .second, .val (.long p2), .second, iv p3, iv p4, iv p5, iv (p3 &&& (3 : Int32)), .unset, .unset, .unset, .unset, .unset, .unset, .unset, .unset] [])) rfl (hb hby at_11) _ (XS.lstore X0.here hx rfl (hb hby at_14) rfl (l' := #[.val (.long p1), .second, .val (.long p2), .second, iv p3, iv p4, iv p5, iv (p3 &&& (3 : Int32)), .val (.long (-9223372036854775808 : Int64)), .second, .unset, .unset, .unset, .unset, .unset, .unset]) rfl (XS.goto X0.here hx rfl (pc0 := 16) (pc' := 48) rfl (hb hby at_16) (by decide) (by decide) kk_)))) ?_
    show own_Goes p e below s (Q0 Z p1 p2 p3 p4 p5 h0 n0) 16 128 s₁ (mkF m 48 #[.val (.long p1), .second, .val (.long p2), .second, iv p3, iv p4, iv p5, iv (p3 &&& (3 : Int32)), .val (.long (-9223372036854775808 : Int64)), .second, .unset, .unset, .unset, .unset, .unset, .unset] [])
    exact J48 ((-9223372036854775808 : Int64))
  · refine own_st (fun _ kk_ => XS.ifYes X0.here hx rfl (pc0 := 8) (pc' := 19) rfl (hb hby at_8) rfl (XT.i0_ne_t q0) (by decide) (by decide) (XS.iload X0.here hx rfl (hb hby at_19) rfl (XS.iconst X0.here hx rfl (hb hby at_21) kk_))) ?_
    show own_Goes p e below s (Q0 Z p1 p2 p3 p4 p5 h0 n0) 16 128 s₁ (mkF m 22 #[.val (.long p1), .second, .val (.long p2), .second, iv p3, iv p4, iv p5, iv (p3 &&& (3 : Int32)), .unset, .unset, .unset, .unset, .unset, .unset, .unset, .unset] [(.int (1 : Int32)), (.int (p3 &&& (3 : Int32)))])
    rcases Classical.em ((p3 &&& (3 : Int32)) = (1 : Int32)) with q1 | q1
    · refine own_st (fun _ kk_ => XS.icmpNo X0.here hx rfl (hb hby at_22) rfl (XT.ii_ne_f q1) (XS.lconst X0.here hx rfl (hb hby at_25) (XS.lstore X0.here hx rfl (hb hby at_26) rfl (l' := #[.val (.long p1), .second, .val (.long p2), .second, iv p3, iv p4, iv p5, iv (p3 &&& (3 : Int32)), .val (.long (0 : Int64)), .second, .unset, .unset, .unset, .unset, .unset, .unset]) rfl (XS.goto X0.here hx rfl (pc0 := 28) (pc' := 48) rfl (hb hby at_28) (by decide) (by decide) kk_)))) ?_
      show own_Goes p e below s (Q0 Z p1 p2 p3 p4 p5 h0 n0) 16 128 s₁ (mkF m 48 #[.val (.long p1), .second, .val (.long p2), .second, iv p3, iv p4, iv p5, iv (p3 &&& (3 : Int32)), .val (.long (0 : Int64)), .second, .unset, .unset, .unset, .unset, .unset, .unset] [])
      exact J48 ((0 : Int64))
    · refine own_st (fun _ kk_ => XS.icmpYes X0.here hx rfl (pc0 := 22) (pc' := 31) rfl (hb hby at_22) rfl (XT.ii_ne_t q1) (by decide) (by decide) (XS.iload X0.here hx rfl (hb hby at_31) rfl (XS.iconst X0.here hx rfl (hb hby at_33) kk_))) ?_
      show own_Goes p e below s (Q0 Z p1 p2 p3 p4 p5 h0 n0) 16 128 s₁ (mkF m 34 #[.val (.long p1), .second, .val (.long p2), .second, iv p3, iv p4, iv p5, iv (p3 &&& (3 : Int32)), .unset, .unset, .unset, .unset, .unset, .unset, .unset, .unset] [(.int (2 : Int32)), (.int (p3 &&& (3 : Int32)))])
      rcases Classical.em ((p3 &&& (3 : Int32)) = (2 : Int32)) with q2 | q2
      · refine own_st (fun _ kk_ => XS.icmpNo X0.here hx rfl (hb hby at_34) rfl (XT.ii_ne_f q2) (X0.ldc2Long hx hown (mvT hZ (hw _ (List.mem_of_getElem? (i := 35) rfl))) (g := (mkF m 37 #[.val (.long p1), .second, .val (.long p2), .second, iv p3, iv p4, iv p5, iv (p3 &&& (3 : Int32)), .unset, .unset, .unset, .unset, .unset, .unset, .unset, .unset] [])) rfl (hb hby at_37) _ (XS.lstore X0.here hx rfl (hb hby at_40) rfl (l' := #[.val (.long p1), .second, .val (.long p2), .second, iv p3, iv p4, iv p5, iv (p3 &&& (3 : Int32)), .val (.long (-9223372036854775807 : Int64)), .second, .unset, .unset, .unset, .unset, .unset, .unset]) rfl (XS.goto X0.here hx rfl (pc0 := 42) (pc' := 48) rfl (hb hby at_42) (by decide) (by decide) kk_)))) ?_
        show own_Goes p e below s (Q0 Z p1 p2 p3 p4 p5 h0 n0) 16 128 s₁ (mkF m 48 #[.val (.long p1), .second, .val (.long p2), .second, iv p3, iv p4, iv p5, iv (p3 &&& (3 : Int32)), .val (.long (-9223372036854775807 : Int64)), .second, .unset, .unset, .unset, .unset, .unset, .unset] [])
        exact J48 ((-9223372036854775807 : Int64))
      · refine own_st (fun _ kk_ => XS.icmpYes X0.here hx rfl (pc0 := 34) (pc' := 45) rfl (hb hby at_34) rfl (XT.ii_ne_t q2) (by decide) (by decide) (XS.lloadN X0.here hx rfl (hb hby at_45) rfl (XS.lstore X0.here hx rfl (hb hby at_46) rfl (l' := #[.val (.long p1), .second, .val (.long p2), .second, iv p3, iv p4, iv p5, iv (p3 &&& (3 : Int32)), .val (.long p2), .second, .unset, .unset, .unset, .unset, .unset, .unset]) rfl kk_))) ?_
        show own_Goes p e below s (Q0 Z p1 p2 p3 p4 p5 h0 n0) 16 128 s₁ (mkF m 48 #[.val (.long p1), .second, .val (.long p2), .second, iv p3, iv p4, iv p5, iv (p3 &&& (3 : Int32)), .val (.long p2), .second, .unset, .unset, .unset, .unset, .unset, .unset] [])
        exact J48 (p2)
set_option maxRecDepth 65536 in
set_option maxHeartbeats 40000000 in
theorem comes_1 {Post : Tables → Env → Array Value → State → Outcome → State → Prop} (hpost : ∀ tb e args s v u, (limb_1_1.after args s (.returned v) u = true ∧ limb_1_2.after args s (.returned v) u = true ∧ True) → FrameEnd s (.returned v) u (Jvm.fieldLocs frame_1_writes args s ++ Jvm.arrayLocs frame_1_arrays args s ++ Jvm.staticLocs frame_1_statics s) 16 128 → Post tb e args s (.returned v) u) :
    ArmFor flags0 classFile x code maxLocals ret World_1 tables_1 room_1 Calls_1 rest_1 Pre_1 Post := by
  intro l hfl _ _ p e ha hc hk s m args below hf hA hF happ hP
  obtain ⟨hcalls, hrest, hpre⟩ := hP
  obtain ⟨-, -, -, hnamed, -, -, -, hat⟩ := (Spec.applies_iff hf).mp happ
  obtain ⟨hg, hn⟩ := and_e (Cond.before_iff.mp (show (Jvm.Cond.and given_1 narrow_1).before args s = true from hpre))
  obtain ⟨h1, g0⟩ := and_e hg
  obtain ⟨w0, w1, w2, w3, w4, rfl⟩ : ∃ w0 w1 w2 w3 w4 : Value, args = #[w0, w1, w2, w3, w4] := by
    have hs : args.size = 5 := by simpa [Cond.value, given_1] using h1
    obtain ⟨L⟩ := args
    match L, hs with
    | [w0, w1, w2, w3, w4], _ => exact ⟨w0, w1, w2, w3, w4, rfl⟩
  have hw := fun d (hd : d ∈ tables_1) => atoms_spec (ws := Jvm.Cond.code x code maxLocals ret :: tables_1) hat d (List.mem_cons_of_mem _ hd)
  have hfit : Fit s := fun {y c} hc i hi => by
    obtain ⟨ha, rfl⟩ := Array.getElem?_eq_some_iff.mp hc
    have q := List.all_eq_true.mp ((Array.all_eq_true_iff_forall_mem.mp hF) _ (Array.getElem_mem ha)) i (List.mem_range.mpr hi)
    simpa [Array.getElem?_eq_getElem hi] using q
  obtain ⟨k0, g1⟩ := and_e g0
  obtain ⟨i0, e0⟩ := isL_v k0
  obtain rfl : w0 = (.long i0) := Option.some.inj e0
  obtain ⟨k1, g2⟩ := and_e g1
  obtain ⟨i1, e1⟩ := isL_v k1
  obtain rfl : w1 = (.long i1) := Option.some.inj e1
  obtain ⟨k2, g3⟩ := and_e g2
  obtain ⟨i2, e2⟩ := is_v k2
  obtain rfl : w2 = (.int i2) := Option.some.inj e2
  obtain ⟨k3, g4⟩ := and_e g3
  obtain ⟨i3, e3⟩ := is_v k3
  obtain rfl : w3 = (.int i3) := Option.some.inj e3
  obtain ⟨i4, e4⟩ := is_v g4
  obtain rfl : w4 = (.int i4) := Option.some.inj e4
  obtain ⟨n, o, h1, h2, h3, _, L, rfl, ⟨rfl, N⟩, hq⟩ := rm0 l s _ hw tables_1 i0 i1 i2 i3 i4  s.heap s.heap.size (Nat.le_refl _)  p e ha hc hk s m _ below hf ((Spec.applies_iff_loose hf).mp happ).1 ⟨rfl, State.Warmed39.refl s, rfl⟩ trivial
  refine ⟨n, _, h1, h2, h3, hpost _ _ _ _ _ _ ⟨Cond.after_iff.mpr rfl, Cond.after_iff.mpr (eq_i res_at (Term.int_eval (1)) rfl), trivial⟩ ⟨hq.1, hq.2.1, (hq.2.2.sift fun y hy => Or.inr (N y hy)).mono (by decide) (by decide)⟩⟩
theorem main_1_1 : Claimed_1_1 := comes_1 fun _ _ _ _ _ _ h hF => ⟨h.1, hF⟩
theorem main_1_2 : Claimed_1_2 := comes_1 fun _ _ _ _ _ _ h hF => ⟨h.2.1, hF⟩
end Jvm.Pilot.@@N@@
namespace Jvm.Pilot.@@N@@
open Jvm Jvm.ClassFile Sem Op Lib Jvm.Free Jvm.Stand Jvm.Pilot.@@N@@.Jvm.D
/-! MADE BY PROGRAM (witnessworld.py) out of the Statement's table words and the real class files: 10 classes; the members and pool entries that the words name. The judged class is class 1, her method 1. -/
namespace start1
open Jvm.ClassFile
def u (s : String) : CpInfo := .utf8 (stringToUtf16 s)
/-- a pool by its gaps: so many unusable entries, then the entry; so many at the end -/
def gap : Nat → List CpInfo → List CpInfo
  | 0, r => r
  | n + 1, r => .unusable :: gap n r
def poolList (es : List (Nat × CpInfo)) (last : Nat) : List CpInfo := es.foldr (fun e r => gap e.1 (e.2 :: r)) (gap last [])
def pool (es : List (Nat × CpInfo)) (last : Nat) : Array CpInfo := ⟨poolList es last⟩
def fileOf (pool : Array CpInfo) (this : Nat) (attrs : Array Attribute := #[]) (ms : Array MethodInfo := #[]) (fl : Nat := 33) (sup : Nat := 0) (ifs : Array Nat := #[]) (fds : Array FieldInfo := #[]) : ClassFile where
  minorVersion := 0
  majorVersion := 65
  constantPool := pool
  accessFlags := fl
  thisClass := this
  superClass := sup
  interfaces := ifs
  fields := fds
  methods := ms
  attributes := attrs
def plain (name : String) (sup : Option ClassId) : Class where
  name := name
  kind := .ordinary
  loader := none
  accessFlags := 33
  super := sup
  interfaces := #[]
  cf := none
  fields := #[]
  methods := #[]
  instanceTypes := #[]
  staticTypes := #[]
  resolved := #[]
  callSites := []
  init := .initialized
  statics := none
  mirror := none

def pool0 : Array CpInfo := pool [(5, u "<init>"), (0, u "()V"), (1, .class_ 10), (1, u "java/lang/Object")] 113

def k0c0 : Code := { maxStack := 0, maxLocals := 1, code := object_method_1_code, exceptionTable := #[], attributes := #[] }
def k0m0 : Method := { name := "<init>", desc := "()V", sig := { parameters := [], returnType := none }, accessFlags := 1, code := some k0c0 }
/-- java/lang/Object -/
def k0 : Class := { plain "java/lang/Object" none with
  accessFlags := 33
  interfaces := #[]
  cf := some (fileOf pool0 8 #[] #[{ accessFlags := 1, nameIndex := 5, descriptorIndex := 6, attributes := #[] }] 33 0 #[] #[])
  fields := #[]
  methods := #[k0m0]
  instanceTypes := #[]
  staticTypes := #[]
  resolved := Array.replicate 124 none
  statics := none }

def pool1 : Array CpInfo := pool [(2, .class_ 4), (1, u "java/lang/Object"), (0, u "<init>"), (0, u "()V"), (2, .long 9223372036854775808), (1, .long 9223372036854775809), (1, .class_ 14), (0, u "com/example/sojourn/sojourn/ScheduleFile$Row"), (0, .methodref 13 16), (0, .nameAndType 5 17), (0, u "(JJDDDDD)V"), (0, .methodref 13 19), (0, .nameAndType 20 21), (0, u "shared"), (0, u "()Z"), (0, .class_ 23), (0, u "com/example/sojourn/sojourn/ScheduleFileSharedPinLaw"), (2, u "law"), (0, u "(JJIII)Z")] 7

def k1m0 : Method := { name := "<init>", desc := "()V", sig := { parameters := [], returnType := none }, accessFlags := 2, code := none }
def k1c1 : Code := { maxStack := 16, maxLocals := 16, code := code, exceptionTable := #[], attributes := #[] }
def k1m1 : Method := { name := "law", desc := "(JJIII)Z", sig := { parameters := [.long, .long, .int, .int, .int], returnType := some .boolean }, accessFlags := 9, code := some k1c1 }
/-- com/example/sojourn/sojourn/ScheduleFileSharedPinLaw -/
def k1 : Class := { plain "com/example/sojourn/sojourn/ScheduleFileSharedPinLaw" (some 0) with
  accessFlags := 49
  interfaces := #[]
  cf := some (fileOf pool1 22 #[] #[{ accessFlags := 2, nameIndex := 5, descriptorIndex := 6, attributes := #[] }, { accessFlags := 9, nameIndex := 26, descriptorIndex := 27, attributes := #[] }] 49 2 #[] #[])
  fields := #[]
  methods := #[k1m0, k1m1]
  instanceTypes := #[]
  staticTypes := #[]
  resolved := Array.replicate 35 none
  statics := none }

def pool2 : Array CpInfo := pool [(1, .methodref 2 3), (0, .class_ 4), (0, .nameAndType 5 6), (0, u "java/lang/Object"), (0, u "<init>"), (0, u "()V"), (0, .class_ 8), (0, u "java/lang/Record")] 13

def k2c0 : Code := { maxStack := 1, maxLocals := 1, code := jdk_30_method_1_code, exceptionTable := #[], attributes := #[] }
def k2m0 : Method := { name := "<init>", desc := "()V", sig := { parameters := [], returnType := none }, accessFlags := 4, code := some k2c0 }
/-- java/lang/Record -/
def k2 : Class := { plain "java/lang/Record" (some 0) with
  accessFlags := 1057
  interfaces := #[]
  cf := some (fileOf pool2 7 #[] #[{ accessFlags := 4, nameIndex := 5, descriptorIndex := 6, attributes := #[] }] 1057 2 #[] #[])
  fields := #[]
  methods := #[k2m0]
  instanceTypes := #[]
  staticTypes := #[]
  resolved := Array.replicate 22 none
  statics := none }

def pool3 : Array CpInfo := pool [(3, .methodref 4 5), (0, .class_ 6), (0, .nameAndType 7 8), (0, u "java/lang/Record"), (0, u "<init>"), (0, u "()V"), (0, .fieldref 10 11), (0, .class_ 12), (0, .nameAndType 13 14), (0, u "com/example/sojourn/sojourn/ScheduleFile$Row"), (0, u "job"), (0, u "J"), (0, .fieldref 10 16), (0, .nameAndType 17 14), (0, u "machine"), (0, .fieldref 10 19), (0, .nameAndType 20 21), (0, u "release"), (0, u "D"), (0, .fieldref 10 23), (0, .nameAndType 24 21), (0, u "size"), (0, .fieldref 10 26), (0, .nameAndType 27 21), (0, u "start"), (0, .fieldref 10 29), (0, .nameAndType 30 21), (0, u "completion"), (0, .fieldref 10 32), (0, .nameAndType 33 21), (0, u "flow"), (0, .long 9223372036854775808), (13, u "SHARED"), (1, u "(JJDDDDD)V"), (3, u "shared"), (0, u "()Z"), (9, .class_ 66), (0, u "com/example/sojourn/sojourn/ScheduleFile")] 25

def k3c0 : Code := { maxStack := 3, maxLocals := 15, code := prog_44_method_1_code, exceptionTable := #[], attributes := #[] }
def k3m0 : Method := { name := "<init>", desc := "(JJDDDDD)V", sig := { parameters := [.long, .long, .double, .double, .double, .double, .double], returnType := none }, accessFlags := 0, code := some k3c0 }
def k3c1 : Code := { maxStack := 4, maxLocals := 1, code := prog_44_method_2_code, exceptionTable := #[], attributes := #[] }
def k3m1 : Method := { name := "shared", desc := "()Z", sig := { parameters := [], returnType := some .boolean }, accessFlags := 0, code := some k3c1 }
/-- com/example/sojourn/sojourn/ScheduleFile$Row -/
def k3 : Class := { plain "com/example/sojourn/sojourn/ScheduleFile$Row" (some 2) with
  accessFlags := 48
  interfaces := #[]
  cf := some (fileOf pool3 10 #[.nestHost 65] #[{ accessFlags := 0, nameIndex := 7, descriptorIndex := 50, attributes := #[] }, { accessFlags := 0, nameIndex := 54, descriptorIndex := 55, attributes := #[] }] 48 4 #[] #[{ accessFlags := 18, nameIndex := 13, descriptorIndex := 14, attributes := #[] }, { accessFlags := 18, nameIndex := 17, descriptorIndex := 14, attributes := #[] }, { accessFlags := 18, nameIndex := 20, descriptorIndex := 21, attributes := #[] }, { accessFlags := 18, nameIndex := 24, descriptorIndex := 21, attributes := #[] }, { accessFlags := 18, nameIndex := 27, descriptorIndex := 21, attributes := #[] }, { accessFlags := 18, nameIndex := 30, descriptorIndex := 21, attributes := #[] }, { accessFlags := 18, nameIndex := 33, descriptorIndex := 21, attributes := #[] }, { accessFlags := 24, nameIndex := 48, descriptorIndex := 14, attributes := #[] }])
  fields := #[{ name := "job", type := .long, accessFlags := 18, slot := 0, constantValue := 0 }, { name := "machine", type := .long, accessFlags := 18, slot := 1, constantValue := 0 }, { name := "release", type := .double, accessFlags := 18, slot := 2, constantValue := 0 }, { name := "size", type := .double, accessFlags := 18, slot := 3, constantValue := 0 }, { name := "start", type := .double, accessFlags := 18, slot := 4, constantValue := 0 }, { name := "completion", type := .double, accessFlags := 18, slot := 5, constantValue := 0 }, { name := "flow", type := .double, accessFlags := 18, slot := 6, constantValue := 0 }, { name := "SHARED", type := .long, accessFlags := 24, slot := 0, constantValue := 0 }]
  methods := #[k3m0, k3m1]
  instanceTypes := #[.long, .long, .double, .double, .double, .double, .double]
  staticTypes := #[.long]
  resolved := Array.replicate 92 none
  statics := none }

def pool4 : Array CpInfo := pool [(1, u "java/lang/Cloneable"), (0, .class_ 1), (0, u "java/lang/Object"), (0, .class_ 3)] 3

/-- java/lang/Cloneable -/
def k4 : Class := { plain "java/lang/Cloneable" (some 0) with
  accessFlags := 1537
  interfaces := #[]
  cf := some (fileOf pool4 2 #[] #[] 1537 4 #[] #[])
  fields := #[]
  methods := #[]
  instanceTypes := #[]
  staticTypes := #[]
  resolved := Array.replicate 8 none
  statics := none }

def pool5 : Array CpInfo := pool [(1, u "java/io/Serializable"), (0, .class_ 1), (0, u "java/lang/Object"), (0, .class_ 3)] 3

/-- java/io/Serializable -/
def k5 : Class := { plain "java/io/Serializable" (some 0) with
  accessFlags := 1537
  interfaces := #[]
  cf := some (fileOf pool5 2 #[] #[] 1537 4 #[] #[])
  fields := #[]
  methods := #[]
  instanceTypes := #[]
  staticTypes := #[]
  resolved := Array.replicate 8 none
  statics := none }

/-- the primitive byte -/
def k6 : Class := { plain "byte" none with kind := .primitive 'B', accessFlags := 0x411 }
/-- [B -/
def k7 : Class := { plain "[B" (some 0) with kind := .array 6 .byte, interfaces := #[4, 5], accessFlags := 1041 }

/-- the primitive int -/
def k8 : Class := { plain "int" none with kind := .primitive 'I', accessFlags := 0x411 }
/-- [I -/
def k9 : Class := { plain "[I" (some 0) with kind := .array 8 .int, interfaces := #[4, 5], accessFlags := 1041 }

def heap : Heap := #[]
def classes : Array Class := #[k0, k1, k2, k3, k4, k5, k6, k7, k8, k9]
def interned : List (Array UInt16 × Addr) := []
def slotsUsed : Nat := 0
def theMethod : MethodId := ⟨1, 1⟩
def args0 : Array Value := #[.long 1, .long 2, .int 3, .int 4, .int 5]
def aboutOver (below : List Frame) : State where
  vm := { classes := classes, interned := interned.toArray }
  heap := heap
  slotsUsed := slotsUsed
  threads := #[{ frames := .invoking theMethod args0 :: below }]
def below0 : List Frame := [.native { method := ⟨0, 0⟩, args := #[] }]
def about1 : State := aboutOver below0
def p0 : Program := .bare "" "" ""
def e0 : Env := launch0.env 0 0 0
theorem w_frames : about1.frames = Frame.invoking theMethod args0 :: below0 := rfl
set_option maxRecDepth 65536 in
theorem w_args : argsFit about1.vm theMethod args0 = true := by decide +kernel
set_option maxRecDepth 65536 in
theorem w_heap : heapFits about1 = true := by decide +kernel
set_option maxRecDepth 65536 in
theorem w_runnable : about1.curStatus? = some .runnable := by decide +kernel
set_option maxRecDepth 65536 in
theorem w_alone : about1.alone = true := by decide +kernel
set_option maxRecDepth 65536 in
theorem w_named : about1.methodNamed? x = some theMethod := by decide +kernel
set_option maxRecDepth 65536 in
theorem w_hears : about1.hears theMethod below0 = true := by decide +kernel
set_option maxRecDepth 65536 in
theorem w_ripe : about1.ripe theMethod args0 below0 = true := by decide +kernel
theorem w_running : about1.status = .running := rfl
set_option maxRecDepth 65536 in
theorem w_room : about1.hasRoom e0.platform room_1 = true :=
  launch0.hasRoom_least _ room_1 (by decide +kernel) (by decide +kernel) (by decide +kernel) (by decide +kernel) (by decide +kernel) (by decide +kernel)
theorem allAtoms_all (ts : List Jvm.Cond) (a : Array Jvm.Value) (st : Jvm.State) : (allAtoms ts).before a st = ts.all (fun c => c.before a st) := by
  induction ts with
  | nil => rfl
  | cons c t ih =>
    show (Jvm.Cond.and c (allAtoms t)).before a st = _
    rw [Jvm.Cond.before_and, ih, List.all_cons]
def words1 : List Jvm.Cond := Jvm.Cond.code x code maxLocals ret :: tables_1
/-- a 'code' word, met by the world's own term for the bytes: nothing is compared byte by byte -/
theorem code_word {y : MethodName} {bytes : ByteArray} {mx : Nat} {rt : Option FieldType} {a : Array Value} {s : State} {m : MethodId} {meth : Method} {c : Code} (h1 : s.methodNamed? y = some m) (h2 : s.vm.method? m = some meth) (h3 : meth.code = some c) (h4 : c.code = bytes)
    (h5 : (c.maxLocals == mx && c.exceptionTable.isEmpty && decide (c.maxStack ≤ mostOperands) && decide (meth.sig.returnType = rt) && !meth.locks && decide (parseMethodDescriptor y.desc = some meth.sig)) = true) : (Jvm.Cond.code y bytes mx rt).before a s = true := by
  simp only [Bool.and_eq_true, beq_iff_eq, Bool.not_eq_true', decide_eq_true_eq] at h5
  obtain ⟨⟨⟨⟨⟨g1, g2⟩, g3⟩, g4⟩, g5⟩, g6⟩ := h5
  simp [Cond.before, Cond.holds, Cond.value, h1, h2, h3, h4, g1, g2, g3, g4, g5, g6]
def isCode : Jvm.Cond → Bool
  | .code _ _ _ _ => true
  | _ => false
theorem all_split {L : List Jvm.Cond} {P : Jvm.Cond → Bool} (h1 : L.all (fun c => isCode c || P c) = true) (h2 : ∀ c ∈ L.filter isCode, P c = true) : L.all P = true := by
  refine List.all_eq_true.mpr fun c hc => ?_
  have h := List.all_eq_true.mp h1 c hc
  rcases Bool.eq_false_or_eq_true (isCode c) with hi | hi
  · exact h2 c (List.mem_filter.mpr ⟨hc, hi⟩)
  · simpa [hi] using h
set_option maxRecDepth 65536 in
theorem w_c0 : (Jvm.Cond.code x code maxLocals ret).before args0 about1 = true := code_word (m := ⟨1, 1⟩) (meth := k1m1) (c := k1c1) (by decide +kernel) rfl rfl rfl (by decide +kernel)
set_option maxRecDepth 65536 in
theorem w_c1 : (Jvm.Cond.code ({ cls := "com/example/sojourn/sojourn/ScheduleFile$Row", name := "<init>", desc := "(JJDDDDD)V" } : Jvm.MethodName) prog_44_method_1_code (15 : Nat) (Option.none : Option Jvm.ClassFile.FieldType)).before args0 about1 = true := code_word (m := ⟨3, 0⟩) (meth := k3m0) (c := k3c0) (by decide +kernel) rfl rfl rfl (by decide +kernel)
set_option maxRecDepth 65536 in
theorem w_c2 : (Jvm.Cond.code ({ cls := "java/lang/Record", name := "<init>", desc := "()V" } : Jvm.MethodName) jdk_30_method_1_code (1 : Nat) (Option.none : Option Jvm.ClassFile.FieldType)).before args0 about1 = true := code_word (m := ⟨2, 0⟩) (meth := k2m0) (c := k2c0) (by decide +kernel) rfl rfl rfl (by decide +kernel)
set_option maxRecDepth 65536 in
theorem w_c3 : (Jvm.Cond.code ({ cls := "java/lang/Object", name := "<init>", desc := "()V" } : Jvm.MethodName) object_method_1_code (1 : Nat) (Option.none : Option Jvm.ClassFile.FieldType)).before args0 about1 = true := code_word (m := ⟨0, 0⟩) (meth := k0m0) (c := k0c0) (by decide +kernel) rfl rfl rfl (by decide +kernel)
set_option maxRecDepth 65536 in
theorem w_c4 : (Jvm.Cond.code ({ cls := "com/example/sojourn/sojourn/ScheduleFile$Row", name := "shared", desc := "()Z" } : Jvm.MethodName) prog_44_method_2_code (1 : Nat) (Option.some Jvm.ClassFile.FieldType.boolean)).before args0 about1 = true := code_word (m := ⟨3, 1⟩) (meth := k3m1) (c := k3c1) (by decide +kernel) rfl rfl rfl (by decide +kernel)
def codes1 : List Jvm.Cond := [Jvm.Cond.code x code maxLocals ret, Jvm.Cond.code ({ cls := "com/example/sojourn/sojourn/ScheduleFile$Row", name := "<init>", desc := "(JJDDDDD)V" } : Jvm.MethodName) prog_44_method_1_code (15 : Nat) (Option.none : Option Jvm.ClassFile.FieldType), Jvm.Cond.code ({ cls := "java/lang/Record", name := "<init>", desc := "()V" } : Jvm.MethodName) jdk_30_method_1_code (1 : Nat) (Option.none : Option Jvm.ClassFile.FieldType), Jvm.Cond.code ({ cls := "java/lang/Object", name := "<init>", desc := "()V" } : Jvm.MethodName) object_method_1_code (1 : Nat) (Option.none : Option Jvm.ClassFile.FieldType), Jvm.Cond.code ({ cls := "com/example/sojourn/sojourn/ScheduleFile$Row", name := "shared", desc := "()Z" } : Jvm.MethodName) prog_44_method_2_code (1 : Nat) (Option.some Jvm.ClassFile.FieldType.boolean)]
set_option maxRecDepth 65536 in
theorem codes_eq : words1.filter isCode = codes1 := rfl
theorem w_codes : ∀ c ∈ words1.filter isCode, c.before args0 about1 = true := by
  rw [codes_eq]
  intro c hc
  simp only [codes1, List.mem_cons, List.not_mem_nil, or_false] at hc
  rcases hc with rfl | rfl | rfl | rfl | rfl
  · exact w_c0
  · exact w_c1
  · exact w_c2
  · exact w_c3
  · exact w_c4
set_option maxRecDepth 65536 in
theorem w_t1 : (words1.take 24).all (fun c => isCode c || c.before args0 about1) = true := by decide +kernel
set_option maxRecDepth 65536 in
theorem w_t2 : (words1.drop 24).all (fun c => isCode c || c.before args0 about1) = true := by decide +kernel
theorem w_tables : (allAtoms (Jvm.Cond.code x code maxLocals ret :: tables_1)).before args0 about1 = true := by
  rw [allAtoms_all]
  show words1.all (fun c => c.before args0 about1) = true
  refine all_split ?_ w_codes
  rw [← List.take_append_drop 24 words1, List.all_append, w_t1, w_t2]
  rfl
set_option maxRecDepth 65536 in
theorem w_case : (Jvm.Cond.and given_1 narrow_1).before args0 about1 = true := by decide +kernel
theorem w_applies : (headSpec (Jvm.Cond.code x code maxLocals ret :: tables_1) room_1).applies x e0.platform about1 = true :=
  (Spec.applies_iff w_frames).mpr ⟨w_running, w_runnable, w_alone, w_named, w_hears, w_ripe, w_room, w_tables⟩
theorem atStart : AtStart classFile x code maxLocals ret World_1 tables_1 room_1 Calls_1 rest_1 Pre_1 launch0 p0 e0 about1 theMethod args0 below0 :=
  ⟨lists_1, trivial, launch0.admits_env _ _ _, launch0.least_env, fairChoices_fair.cas, fairChoices_fair.clock, w_frames, w_args, w_heap, w_applies, trivial, trivial, w_case⟩
end start1
theorem witness_1 : WitnessClaimed_1 := ⟨start1.p0, start1.e0, start1.about1, start1.theMethod, start1.args0, start1.below0, start1.atStart⟩
end Jvm.Pilot.@@N@@
