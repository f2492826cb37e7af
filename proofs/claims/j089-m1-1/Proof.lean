import JvmDerived
import JvmDerived.Pilot.@@N@@Statement
import JvmDerived.Pilot.@@N@@Code
set_option linter.unusedVariables false
set_option linter.unusedSimpArgs false
namespace Jvm.RoadKit
open Sem ClassFile Op Lib Jvm.Stand Jvm.Free Jvm.LawKit
section New
variable {p : Program} {l : Launch} {e : Env} {R : Room} {s : State} {m : MethodId} {args : Array Value} {below : List Frame} {meth : Method} {c : Code} {T T' : State} {locs : List Loc} {cells slots : Nat} {Q : Option Value → Heap → List Loc → Prop} {cc ss : Nat} {g g' : JFrame} {pc : Nat} {Ls : Array Slot}
/-- from here the body comes to an end that meets Q -/
def own_Goes (p : Program) (e : Env) (below : List Frame) (s : State) (Q : Option Value → Heap → List Loc → Prop) (cc ss : Nat) (T : State) (g : JFrame) : Prop :=
  ∃ s₂ o, Steps p.tables e below (T.setTop g) s₂ ∧ s₂.status = .running ∧ Ended s₂ below o ∧ ∃ v L, o = .returned v ∧ Q v s₂.heap L ∧ FrameEnd s o s₂ L cc ss
theorem own_st (h : ∀ t, Steps p.tables e below (T'.setTop g') t → Steps p.tables e below (T.setTop g) t) (k : own_Goes p e below s Q cc ss T' g') : own_Goes p e below s Q cc ss T g := by
  obtain ⟨s₂, o, h1, r⟩ := k; exact ⟨s₂, o, h _ h1, r⟩
theorem own_end {v : Option Value} (X : Stand p l e R s m args below meth c T locs cells slots) (hlk : meth.locks = false) (hv : meth.sig.returnType = none → v = none) (hc : cells ≤ cc) (hs : slots ≤ ss) (hQ : Q v T.heap locs)
    (st : ∀ fs, (∀ (f : JFrame) (acts : List Action), f.method = m → f.locked = none → f.entered = [] → (doReturn e (T.setTop f) acts v).1 = T.setFrames fs) → Steps p.tables e below (T.setTop g) (T.setFrames fs)) : own_Goes p e below s Q cc ss T g := by
  obtain ⟨fs, hr, hrun, hended, hW, hsame⟩ := X.leave (v := v) hv hlk
  exact ⟨_, _, st fs hr, hrun, hended, _, _, rfl, hQ, ⟨_, rfl⟩, hW, hsame.mono hc hs⟩
theorem own_retN (X : Stand p l e R s m args below meth c T locs cells slots) (hx : p.tables.exec = Jvm.exec) (hlk : meth.locks = false) {t : FieldType} {z : Int32} {rest : List Value} (hret : meth.sig.returnType = some t) (ht : t = .boolean ∨ t = .byte ∨ t = .char ∨ t = .short) (hd : decode c.code pc = .ok (.ireturn, 1)) (hc : cells ≤ cc) (hs : slots ≤ ss) (hQ : Q (some (.int (nar t z))) T.heap locs) : own_Goes p e below s Q cc ss T (mkF m pc Ls (.int z :: rest)) :=
  own_end X hlk (fun h => by rw [hret] at h; cases h) hc hs hQ fun fs hr => retN X hx hret ht hd hr
theorem own_retI (X : Stand p l e R s m args below meth c T locs cells slots) (hx : p.tables.exec = Jvm.exec) (hlk : meth.locks = false) {z : Int32} {rest : List Value} (hret : meth.sig.returnType = some .int) (hd : decode c.code pc = .ok (.ireturn, 1)) (hc : cells ≤ cc) (hs : slots ≤ ss) (hQ : Q (some (.int z)) T.heap locs) : own_Goes p e below s Q cc ss T (mkF m pc Ls (.int z :: rest)) :=
  own_end X hlk (fun h => by rw [hret] at h; cases h) hc hs hQ fun fs hr => retOut X hx hret rfl (Or.inl ⟨rfl, Or.inl rfl, _, rfl⟩) hd hr
theorem own_retL (X : Stand p l e R s m args below meth c T locs cells slots) (hx : p.tables.exec = Jvm.exec) (hlk : meth.locks = false) {z : Int64} {rest : List Value} (hret : meth.sig.returnType = some .long) (hd : decode c.code pc = .ok (.lreturn, 1)) (hc : cells ≤ cc) (hs : slots ≤ ss) (hQ : Q (some (.long z)) T.heap locs) : own_Goes p e below s Q cc ss T (mkF m pc Ls (.long z :: rest)) :=
  own_end X hlk (fun h => by rw [hret] at h; cases h) hc hs hQ fun fs hr => retOut X hx hret rfl (Or.inr (Or.inl ⟨rfl, rfl, _, rfl⟩)) hd hr
theorem own_narR {t : FieldType} {w : Value} (hw : w.isRef = true) : narrow t w = w := by rcases ref_cases hw with rfl | ⟨a, rfl⟩ <;> cases t <;> rfl
theorem own_fitR {n : String} {w : Value} (hw : w.isRef = true) : fits (.object n) w = true := by rcases ref_cases hw with rfl | ⟨a, rfl⟩ <;> rfl
theorem own_retA (X : Stand p l e R s m args below meth c T locs cells slots) (hx : p.tables.exec = Jvm.exec) (hlk : meth.locks = false) {w : Value} {t : FieldType} {rest : List Value} (hw : w.isRef = true) (hret : meth.sig.returnType = some t) (ht : t.isReference = true) (hd : decode c.code pc = .ok (.areturn, 1)) (hc : cells ≤ cc) (hs : slots ≤ ss) (hQ : Q (some w) T.heap locs) : own_Goes p e below s Q cc ss T (mkF m pc Ls (w :: rest)) :=
  own_end X hlk (fun h => by rw [hret] at h; cases h) hc hs hQ fun fs hr => retOut X hx hret (own_narR hw) (Or.inr (Or.inr (Or.inr (Or.inr ⟨rfl, ht, hw⟩)))) hd hr
theorem own_ret0 (X : Stand p l e R s m args below meth c T locs cells slots) (hx : p.tables.exec = Jvm.exec) (hlk : meth.locks = false) (hret : meth.sig.returnType = none) (hd : decode c.code pc = .ok (.return_, 1)) (hc : cells ≤ cc) (hs : slots ≤ ss) (hQ : Q none T.heap locs) : own_Goes p e below s Q cc ss T (mkF m pc Ls []) :=
  own_end X hlk (fun _ => rfl) hc hs hQ fun fs hr => X.returnOut hx hret hd hr
def own_GoesW (p : Program) (e : Env) (below : List Frame) (s : State) (Q : Option Value → Heap → List Loc → Prop) (cc ss : Nat) (T : State) (g : JFrame) : Prop :=
  ∃ s₂ o, Steps p.tables e below (T.setTop g) s₂ ∧ s₂.status = .running ∧ Ended s₂ below o ∧ ∃ v L, o = .returned v ∧ Q v s₂.heap L ∧ ReturnedEndW s o s₂ L cc ss
theorem own_stW (h : ∀ t, Steps p.tables e below (T'.setTop g') t → Steps p.tables e below (T.setTop g) t) (k : own_GoesW p e below s Q cc ss T' g') : own_GoesW p e below s Q cc ss T g := by
  obtain ⟨s₂, o, h1, r⟩ := k; exact ⟨s₂, o, h _ h1, r⟩
theorem own_endW {v : Option Value} {vm₁ : Vm} {k0 : Nat} (X : Stand p l e R (s.setVm vm₁) m args below meth c T locs cells slots) (hlk : meth.locks = false) (hS : s.Since vm₁ k0) (hk : k0 ≤ T.heap.size) (hv : meth.sig.returnType = none → v = none) (hc : cells ≤ cc) (hs : slots ≤ ss) (hQ : Q v T.heap locs)
    (st : ∀ fs, (∀ (f : JFrame) (acts : List Action), f.method = m → f.locked = none → f.entered = [] → (doReturn e (T.setTop f) acts v).1 = T.setFrames fs) → Steps p.tables e below (T.setTop g) (T.setFrames fs)) : own_GoesW p e below s Q cc ss T g := by
  obtain ⟨fs, hr, hrun, hended, h1, h2, h3, h4⟩ := X.leaveW hS hk (v := v) hv hlk
  exact ⟨_, _, st fs hr, hrun, hended, _, _, rfl, hQ, h1, h2, h3, h4.mono hc hs⟩
theorem own_retNW {vm₁ : Vm} {k0 : Nat} (X : Stand p l e R (s.setVm vm₁) m args below meth c T locs cells slots) (hx : p.tables.exec = Jvm.exec) (hlk : meth.locks = false) (hS : s.Since vm₁ k0) (hk : k0 ≤ T.heap.size) {t : FieldType} {z : Int32} {rest : List Value} (hret : meth.sig.returnType = some t) (ht : t = .boolean ∨ t = .byte ∨ t = .char ∨ t = .short) (hd : decode c.code pc = .ok (.ireturn, 1)) (hc : cells ≤ cc) (hs : slots ≤ ss) (hQ : Q (some (.int (nar t z))) T.heap locs) : own_GoesW p e below s Q cc ss T (mkF m pc Ls (.int z :: rest)) :=
  own_endW X hlk hS hk (fun h => by rw [hret] at h; cases h) hc hs hQ fun fs hr => retN X hx hret ht hd hr
theorem own_nsr {Z : State} {a0 : Array Value} {O K : String} {n : Nat} (w : (Cond.noSuperclass O).before a0 Z = true) (wk : (Cond.instantiable K n).before a0 Z = true) (hn : O ≠ K) : NS Z O K := by
  obtain ⟨c, k, h1, h2, h3, -, -⟩ := Cond.noSuperclass_spec w
  obtain ⟨t, kt, g1, -⟩ := Cond.instantiable_spec wk
  have ne := ids_ne h1 g1 hn
  refine ⟨c, t, h1, g1, fun fuel => ?_⟩
  cases fuel with
  | zero => rfl
  | succ f => simp [Vm.isSubclassAux, ne, h2, h3]
theorem own_nsn {Z : State} {a0 : Array Value} {C S K : String} {n : Nat} (w : (Cond.superclass C S).before a0 Z = true) (wk : (Cond.instantiable K n).before a0 Z = true) (q : NS Z C K) (hn : C ≠ K) : ∃ c t, Z.vm.findClass C = some c ∧ Z.vm.findClass K = some t ∧ Z.vm.assignable c t = false := by
  obtain ⟨c, t, h0, g0, n3⟩ := q
  obtain ⟨p, k, kp, h1, h2, h3, h4, h5, -, h7⟩ := Cond.superclass_spec h0 w
  obtain ⟨t', kt, g1, g2, g5, g6, -⟩ := Cond.instantiable_spec wk
  cases g0.symm.trans g1
  have g7 : kt.isInterface = false := by simp only [Bool.or_eq_false_iff] at g6; exact g6.1
  have ne := ids_ne h0 g0 hn
  refine ⟨c, t, h0, g0, ?_⟩
  show Z.vm.assignableAux (255 + 1) c t = false
  simp [Vm.assignableAux, ne, h2, g2, h5, g5, g7, Vm.isSubclass, n3]
theorem own_Sta_keep {Z : State} {h h' : Heap} {ws : List Addr} {C n d : String} {w : Value} (F : Sta Z h C n d w) (K : Keep h h' ws) (q : ∀ x ∈ ws, ∀ cell : Cell, h[x]? = some cell → cell.vm.isStatics = false) : Sta Z h' C n d w := by
  obtain ⟨cf, i, k, f, st, cell, h1, h2, h3, h4, h5, h6, h7⟩ := F
  exact ⟨cf, i, k, f, st, cell, h1, h2, h3, h4, K.2.1 st cell h5 (fun z => by rw [q st z cell h5] at h6; cases h6), h6, h7⟩
end New
end Jvm.RoadKit
namespace Jvm.Pilot.@@N@@
open Jvm Jvm.ClassFile Sem Op Lib Jvm.Free Jvm.Stand Jvm.LawKit Jvm.RoadKit Bundle Jvm.Pilot.@@N@@.Jvm.D
def own_b (P : Prop) [Decidable P] : Int32 := if P then 1 else 0
theorem own_bt {P : Prop} [Decidable P] (h : P) : (some (Value.int (nar .boolean 1)) : Option Value) = some (.int (own_b P)) := by rw [own_b, if_pos h]; rfl
theorem own_bf {P : Prop} [Decidable P] (h : ¬ P) : (some (Value.int (nar .boolean 0)) : Option Value) = some (.int (own_b P)) := by rw [own_b, if_neg h]; rfl
theorem own_b1 {P : Prop} [Decidable P] (h : P) : own_b P = 1 := if_pos h
theorem own_b0 {P : Prop} [Decidable P] (h : ¬ P) : own_b P = 0 := if_neg h
theorem own_bc {P P' : Prop} [Decidable P] [Decidable P'] (h : P ↔ P') : own_b P = own_b P' := by simp only [own_b, h]
def own_max (a b : Int32) : Int32 := if a < b then b else a
theorem own_maxI (a b : Int32) : (own_max a b).toInt = if a.toInt < b.toInt then b.toInt else a.toInt := by
  unfold own_max; simp only [Int32.lt_iff_toInt_lt]; split <;> rfl
theorem own_len {ex k : Int32} (h : 0 ≤ ex.toInt ∧ ex.toInt ≤ 31) (hk : 0 ≤ k.toInt ∧ k.toInt ≤ 16) : 16 ≤ (own_max (own_max ex k) 16).toInt ∧ (own_max (own_max ex k) 16).toInt ≤ 31 := by
  simp only [own_maxI, Int32.reduceToInt]; split <;> split <;> omega
theorem own_nn {z : Int32} (h : 16 ≤ z.toInt ∧ z.toInt ≤ 31) : ¬ z < 0 := by simp only [Int32.lt_iff_toInt_lt, Int32.reduceToInt]; omega
theorem own_cap {z : Int32} (h : 16 ≤ z.toInt ∧ z.toInt ≤ 31) : z.toNatClampNeg ≤ 31 := by have := nat_of (own_nn h); omega
theorem own_lt {j z : Int32} (h : 16 ≤ z.toInt ∧ z.toInt ≤ 31) (hj : j.toInt < 16) : j < z := by simp only [Int32.lt_iff_toInt_lt]; omega
theorem own_ne {j z : Int32} (h : 16 ≤ z.toInt ∧ z.toInt ≤ 31) (hj : j.toInt < 16) : ¬ j = z := by intro q; subst q; omega
theorem own_z0 (x : Int64) : (x + ((0 : Int32).toInt64)) = x := by
  have e : (0 : Int32).toInt64 = 0 := by decide
  rw [e]; exact Int64.add_zero x
theorem own_31 (x : Int32) : 0 ≤ (x &&& 31).toInt ∧ (x &&& 31).toInt ≤ 31 := by have := c_and x 31 (by decide); simp only [Int32.reduceToInt] at this; exact this
theorem own_n (x : Int32) : (((x.toUInt32 >>> ((3 : Int32) &&& 31).toUInt32).toInt32) &&& 3) + 1 = 1 ∨ (((x.toUInt32 >>> ((3 : Int32) &&& 31).toUInt32).toInt32) &&& 3) + 1 = 2 ∨ (((x.toUInt32 >>> ((3 : Int32) &&& 31).toUInt32).toInt32) &&& 3) + 1 = 3 ∨ (((x.toUInt32 >>> ((3 : Int32) &&& 31).toUInt32).toInt32) &&& 3) + 1 = 4 := by
  generalize ((x.toUInt32 >>> ((3 : Int32) &&& 31).toUInt32).toInt32) = y
  have h := c_and y 3 (by decide)
  have h2 := c_iadd (y &&& 3) 1
  have := rng32 ((y &&& 3) + 1)
  simp only [Int32.reduceToInt] at h h2
  simp only [← Int32.toInt_inj, Int32.reduceToInt]; omega
abbrev rRrm5 : Room := { frames := 0, cells := 0, slots := 0, locals := 0 }
theorem d5_0 : decode jdk_29_method_65_code 0 = .ok (.iload_n 0, 1) := by decide +kernel
theorem d5_1 : decode jdk_29_method_65_code 1 = .ok (.iload_n 1, 1) := by decide +kernel
theorem d5_2 : decode jdk_29_method_65_code 2 = .ok (.if_icmp .lt 7, 3) := by decide +kernel
theorem d5_5 : decode jdk_29_method_65_code 5 = .ok (.iload_n 0, 1) := by decide +kernel
theorem d5_6 : decode jdk_29_method_65_code 6 = .ok (.goto 4, 3) := by decide +kernel
theorem d5_9 : decode jdk_29_method_65_code 9 = .ok (.iload_n 1, 1) := by decide +kernel
theorem d5_10 : decode jdk_29_method_65_code 10 = .ok (.ireturn, 1) := by decide +kernel
theorem pn_rm5 : plainFor (⟨"java/lang/Math", "max", "(II)I"⟩ : MethodName) = true := by first | exact plainFor_of_name (by first | (simp [plainName, overriddenIn]; done) | decide +kernel) | decide +kernel
theorem ef_rm5 (m : MethodId) (a9 : Int32) (b9 : Int32) : entryFrame m #[(.int a9), (.int b9)] 2 = (mkF m 0 #[iv a9, iv b9] []) := by first | (simp [entryFrame, mkF, argsToLocals, Value.category]; done) | rfl
def Q5 (Z : State) (a9 : Int32) (b9 : Int32) (h0 : Heap) (n0 : Nat) (v_ : Option Value) (h_ : Heap) (L_ : List Loc) : Prop := (v_ = some (.int (own_max a9 b9))) ∧ (Fr n0 L_) ∧ (h_ = h0)
set_option maxRecDepth 65536 in
set_option maxHeartbeats 40000000 in
theorem rm5 (l : Launch) (Z : State) (a0 : Array Value) (hw : ∀ d ∈ tables_1, d.before a0 Z = true) (ws : List Jvm.Cond) (a9 : Int32) (b9 : Int32) (h0 : Heap) (n0 : Nat) (Z0 : n0 ≤ h0.size) :
    MetFree l (⟨"java/lang/Math", "max", "(II)I"⟩ : MethodName) (head1 (Jvm.Cond.code (⟨"java/lang/Math", "max", "(II)I"⟩ : MethodName) jdk_29_method_65_code 2 (some .int) :: ws) rRrm5) (fun a_ U_ => a_ = #[(.int a9), (.int b9)] ∧ Z.Warmed39 U_.vm ∧ U_.heap = h0) (fun _ _ _ _ _ => True) (fun _ U_ o_ U1_ => ∃ v_ L_, o_ = .returned v_ ∧ Q5 Z a9 b9 h0 n0 v_ U1_.heap L_ ∧ FrameEnd U_ o_ U1_ L_ rRrm5.cells rRrm5.slots) := by
  refine MetFree.of_bodySF pn_rm5 hisR ?_
  intro p e s m args below meth c s₁ Bd hml0 hP hK
  obtain ⟨rfl, hZ, hh⟩ := hP
  have hx := Bd.exec
  have hby := Bd.bytes
  have hlk : meth.locks = false := Bd.notSynchronized
  have hml : c.maxLocals = 2 := hml0
  have hown : s.vm.findClass "java/lang/Math" = some m.cls := findClass_of_methodNamed Bd.named
  have hnm := (name_of_methodNamed Bd.named Bd.method).1
  have X0 : Stand p l e rRrm5 s m #[(.int a9), (.int b9)] below meth c s₁ [] 0 0 := Stand.of_body Bd
  have e0 : s₁.heap = h0 := by rw [← hh, Bd.state]; rfl
  have N0 := Fr.nil n0
  show own_Goes p e below s (Q5 Z a9 b9 h0 n0) rRrm5.cells rRrm5.slots s₁ (entryFrame m #[(.int a9), (.int b9)] 2)
  rw [ef_rm5 m a9 b9]
  show own_Goes p e below s (Q5 Z a9 b9 h0 n0) rRrm5.cells rRrm5.slots s₁ (mkF m 0 #[iv a9, iv b9] [])
  refine own_st (fun _ kk_ => XS.iloadN X0.here hx rfl (hb hby d5_0) rfl (XS.iloadN X0.here hx rfl (hb hby d5_1) rfl kk_)) ?_
  show own_Goes p e below s (Q5 Z a9 b9 h0 n0) rRrm5.cells rRrm5.slots s₁ (mkF m 2 #[iv a9, iv b9] [(.int b9), (.int a9)])
  rcases Classical.em (a9 < b9) with q | q
  · refine own_st (fun _ kk_ => XS.icmpYes X0.here hx rfl (pc0 := 2) (pc' := 9) rfl (hb hby d5_2) rfl (XT.ii_lt_t q) (by decide) (by decide) (XS.iloadN X0.here hx rfl (hb hby d5_9) rfl kk_)) ?_
    show own_Goes p e below s (Q5 Z a9 b9 h0 n0) rRrm5.cells rRrm5.slots s₁ (mkF m 10 #[iv a9, iv b9] [(.int b9)])
    refine own_retI X0 hx hlk Bd.returns (hb hby d5_10) (by decide) (by decide) ?_
    show Q5 Z a9 b9 h0 n0 (some (.int b9)) s₁.heap _
    rw [e0]
    exact ⟨by exact congrArg (fun z => some (Value.int z)) (if_pos q).symm, N0, rfl⟩
  · refine own_st (fun _ kk_ => XS.icmpNo X0.here hx rfl (hb hby d5_2) rfl (XT.ii_lt_f q) (XS.iloadN X0.here hx rfl (hb hby d5_5) rfl (XS.goto X0.here hx rfl (pc0 := 6) (pc' := 10) rfl (hb hby d5_6) (by decide) (by decide) kk_))) ?_
    show own_Goes p e below s (Q5 Z a9 b9 h0 n0) rRrm5.cells rRrm5.slots s₁ (mkF m 10 #[iv a9, iv b9] [(.int a9)])
    refine own_retI X0 hx hlk Bd.returns (hb hby d5_10) (by decide) (by decide) ?_
    show Q5 Z a9 b9 h0 n0 (some (.int a9)) s₁.heap _
    rw [e0]
    exact ⟨by exact congrArg (fun z => some (Value.int z)) (if_neg q).symm, N0, rfl⟩
abbrev rRrm1 : Room := { frames := 1, cells := 0, slots := 0, locals := 12 }
theorem d1_0 : decode prog_67_method_1_code 0 = .ok (.aload_n 0, 1) := by decide +kernel
theorem d1_1 : decode prog_67_method_1_code 1 = .ok (.invokespecial 1, 3) := by decide +kernel
theorem d1_4 : decode prog_67_method_1_code 4 = .ok (.aload_n 0, 1) := by decide +kernel
theorem d1_5 : decode prog_67_method_1_code 5 = .ok (.aload_n 1, 1) := by decide +kernel
theorem d1_6 : decode prog_67_method_1_code 6 = .ok (.putfield 7, 3) := by decide +kernel
theorem d1_9 : decode prog_67_method_1_code 9 = .ok (.aload_n 0, 1) := by decide +kernel
theorem d1_10 : decode prog_67_method_1_code 10 = .ok (.iload_n 2, 1) := by decide +kernel
theorem d1_11 : decode prog_67_method_1_code 11 = .ok (.putfield 13, 3) := by decide +kernel
theorem d1_14 : decode prog_67_method_1_code 14 = .ok (.return_, 1) := by decide +kernel
theorem pn_rm1 : plainFor (⟨"com/example/graphbind/graphbind/RunningLongs", "<init>", "(Ljava/lang/String;I)V"⟩ : MethodName) = true := by first | exact plainFor_of_name (by first | (simp [plainName, overriddenIn]; done) | decide +kernel) | decide +kernel
theorem ef_rm1 (m : MethodId) (a : Addr) (st : Addr) (ex : Int32) : entryFrame m #[(.ref a), (.ref st), (.int ex)] 3 = (mkF m 0 #[rv a, rv st, iv ex] []) := by first | (simp [entryFrame, mkF, argsToLocals, Value.category]; done) | rfl
def Q1 (Z : State) (a : Addr) (st : Addr) (ex : Int32) (h0 : Heap) (n0 : Nat) (v_ : Option Value) (h_ : Heap) (L_ : List Loc) : Prop := (v_ = none) ∧ (Fr n0 L_) ∧ (Keep h0 h_ [a]) ∧ (Fld Z h_ a "com/example/graphbind/graphbind/RunningLongs" "count" "I" (.int (0 : Int32))) ∧ (Fld Z h_ a "com/example/graphbind/graphbind/RunningLongs" "first" "J" (.long (0 : Int64))) ∧ (Fld Z h_ a "com/example/graphbind/graphbind/RunningLongs" "values" "[J" .null) ∧ (Fld Z h_ a "com/example/graphbind/graphbind/RunningLongs" "expected" "I" (.int ex))
set_option maxRecDepth 65536 in
set_option maxHeartbeats 40000000 in
theorem rm1 (l : Launch) (Z : State) (a0 : Array Value) (hw : ∀ d ∈ tables_1, d.before a0 Z = true) (ws : List Jvm.Cond) (a : Addr) (st : Addr) (ex : Int32) (h0 : Heap) (n0 : Nat) (Z0 : n0 ≤ h0.size) (p_0 : Exa Z h0 a "com/example/graphbind/graphbind/RunningLongs") (p_1 : Fld Z h0 a "com/example/graphbind/graphbind/RunningLongs" "what" "Ljava/lang/String;" .null) (p_2 : n0 ≤ a) (p_3 : Fld Z h0 a "com/example/graphbind/graphbind/RunningLongs" "count" "I" (.int (0 : Int32))) (p_4 : Fld Z h0 a "com/example/graphbind/graphbind/RunningLongs" "first" "J" (.long (0 : Int64))) (p_5 : Fld Z h0 a "com/example/graphbind/graphbind/RunningLongs" "values" "[J" .null) (p_6 : Fld Z h0 a "com/example/graphbind/graphbind/RunningLongs" "expected" "I" (.int (0 : Int32))) :
    MetFree l (⟨"com/example/graphbind/graphbind/RunningLongs", "<init>", "(Ljava/lang/String;I)V"⟩ : MethodName) (head1 (Jvm.Cond.code (⟨"com/example/graphbind/graphbind/RunningLongs", "<init>", "(Ljava/lang/String;I)V"⟩ : MethodName) prog_67_method_1_code 3 none :: ws) rRrm1) (fun a_ U_ => a_ = #[(.ref a), (.ref st), (.int ex)] ∧ Z.Warmed39 U_.vm ∧ U_.heap = h0) (fun _ _ _ _ _ => True) (fun _ U_ o_ U1_ => ∃ v_ L_, o_ = .returned v_ ∧ Q1 Z a st ex h0 n0 v_ U1_.heap L_ ∧ FrameEnd U_ o_ U1_ L_ rRrm1.cells rRrm1.slots) := by
  refine MetFree.of_bodySF pn_rm1 hisR ?_
  intro p e s m args below meth c s₁ Bd hml0 hP hK
  obtain ⟨rfl, hZ, hh⟩ := hP
  have hx := Bd.exec
  have hby := Bd.bytes
  have hlk : meth.locks = false := Bd.notSynchronized
  have hml : c.maxLocals = 3 := hml0
  have hown : s.vm.findClass "com/example/graphbind/graphbind/RunningLongs" = some m.cls := findClass_of_methodNamed Bd.named
  have hnm := (name_of_methodNamed Bd.named Bd.method).1
  have X0 : Stand p l e rRrm1 s m #[(.ref a), (.ref st), (.int ex)] below meth c s₁ [] 0 0 := Stand.of_body Bd
  have e0 : s₁.heap = h0 := by rw [← hh, Bd.state]; rfl
  have N0 := Fr.nil n0
  show own_Goes p e below s (Q1 Z a st ex h0 n0) rRrm1.cells rRrm1.slots s₁ (entryFrame m #[(.ref a), (.ref st), (.int ex)] 3)
  rw [ef_rm1 m a st ex]
  show own_Goes p e below s (Q1 Z a st ex h0 n0) rRrm1.cells rRrm1.slots s₁ (mkF m 0 #[rv a, rv st, iv ex] [])
  refine own_st (fun _ kk_ => XS.aloadN X0.here hx rfl (hb hby d1_0) rfl rfl kk_) ?_
  show own_Goes p e below s (Q1 Z a st ex h0 n0) rRrm1.cells rRrm1.slots s₁ (mkF m 1 #[rv a, rv st, iv ex] [(.ref a)])
  obtain ⟨T1, X1, e1, st1⟩ := initO X0 hx hZ hown (hw _ (List.mem_of_getElem? (i := 15) rfl)) (hw _ (List.mem_of_getElem? (i := 16) rfl)) (hw _ (List.mem_of_getElem? (i := 17) rfl)) e0 (g := (mkF m 1 #[rv a, rv st, iv ex] [(.ref a)])) rfl (by rw [hml]; rfl) rfl (hb hby d1_1) (by decide) (W := 0) (by show 2 * 0 + _ ≤ _; exact Nat.le_of_eq rfl) (by decide)
  refine own_st st1 ?_
  show own_Goes p e below s (Q1 Z a st ex h0 n0) rRrm1.cells rRrm1.slots T1 (mkF m 4 #[rv a, rv st, iv ex] [])
  refine own_st (fun _ kk_ => XS.aloadN X1.here hx rfl (hb hby d1_4) rfl rfl (XS.aloadN X1.here hx rfl (hb hby d1_5) rfl rfl kk_)) ?_
  show own_Goes p e below s (Q1 Z a st ex h0 n0) rRrm1.cells rRrm1.slots T1 (mkF m 6 #[rv a, rv st, iv ex] [(.ref st), (.ref a)])
  obtain ⟨T2, h2, X2, e2, W2, st2⟩ := putF X1 hx hZ hown (host := "") (Or.inl (hw _ (List.mem_of_getElem? (i := 18) rfl))) Via.refl e1 p_1 p_0 (Or.inr ⟨(hw _ (List.mem_of_getElem? (i := 19) rfl)), rfl, hnm⟩) (hw _ (List.mem_of_getElem? (i := 2) rfl)) (ty := (.object "java/lang/String")) (by decide) rfl rfl (g := (mkF m 6 #[rv a, rv st, iv ex] [(.ref st), (.ref a)])) rfl rfl (hb hby d1_6)
  have fw2 : Fld Z h2 a "com/example/graphbind/graphbind/RunningLongs" "what" "Ljava/lang/String;" (.ref st) := p_1.same W2
  have f2_0 := p_0.wr W2
  have f2_2 := p_3.other W2 (Or.inr (slot_ne (Or.inl (hw _ (List.mem_of_getElem? (i := 28) rfl))) (Or.inr (hw _ (List.mem_of_getElem? (i := 19) rfl))) (by decide) (t := .int) (t' := (.object "java/lang/String")) (by decide) (by decide)))
  have f2_3 := p_4.other W2 (Or.inr (slot_ne (Or.inl (hw _ (List.mem_of_getElem? (i := 30) rfl))) (Or.inr (hw _ (List.mem_of_getElem? (i := 19) rfl))) (by decide) (t := .long) (t' := (.object "java/lang/String")) (by decide) (by decide)))
  have f2_4 := p_5.other W2 (Or.inr (slot_ne (Or.inl (hw _ (List.mem_of_getElem? (i := 32) rfl))) (Or.inr (hw _ (List.mem_of_getElem? (i := 19) rfl))) (by decide) (t := (.array .long)) (t' := (.object "java/lang/String")) (by decide) (by decide)))
  have f2_5 := p_6.other W2 (Or.inr (slot_ne (Or.inr (hw _ (List.mem_of_getElem? (i := 21) rfl))) (Or.inr (hw _ (List.mem_of_getElem? (i := 19) rfl))) (by decide) (t := .int) (t' := (.object "java/lang/String")) (by decide) (by decide)))
  have Zs2 : n0 ≤ h2.size := Nat.le_trans Z0 (Nat.le_of_eq W2.size.symm)
  have K2 := (Keep.refl h0 [a]).wr W2 (Or.inl (List.mem_of_getElem? (i := 0) rfl))
  have N2 := Fr.snoc X2 N0 p_2
  refine own_st st2 ?_
  show own_Goes p e below s (Q1 Z a st ex h0 n0) rRrm1.cells rRrm1.slots T2 (mkF m 9 #[rv a, rv st, iv ex] [])
  refine own_st (fun _ kk_ => XS.aloadN X2.here hx rfl (hb hby d1_9) rfl rfl (XS.iloadN X2.here hx rfl (hb hby d1_10) rfl kk_)) ?_
  show own_Goes p e below s (Q1 Z a st ex h0 n0) rRrm1.cells rRrm1.slots T2 (mkF m 11 #[rv a, rv st, iv ex] [(.int ex), (.ref a)])
  obtain ⟨T3, h3, X3, e3, W3, st3⟩ := putF X2 hx hZ hown (host := "") (Or.inl (hw _ (List.mem_of_getElem? (i := 20) rfl))) Via.refl e2 f2_5 f2_0 (Or.inr ⟨(hw _ (List.mem_of_getElem? (i := 21) rfl)), rfl, hnm⟩) (hw _ (List.mem_of_getElem? (i := 2) rfl)) (ty := .int) (by decide) rfl rfl (g := (mkF m 11 #[rv a, rv st, iv ex] [(.int ex), (.ref a)])) rfl rfl (hb hby d1_11)
  have fw3 : Fld Z h3 a "com/example/graphbind/graphbind/RunningLongs" "expected" "I" (.int ex) := f2_5.same W3
  have f3_0 := f2_0.wr W3
  have f3_1 := f2_2.other W3 (Or.inr (slot_ne (Or.inl (hw _ (List.mem_of_getElem? (i := 28) rfl))) (Or.inr (hw _ (List.mem_of_getElem? (i := 21) rfl))) (by decide) (t := .int) (t' := .int) (by decide) (by decide)))
  have f3_2 := f2_3.other W3 (Or.inr (slot_ne (Or.inl (hw _ (List.mem_of_getElem? (i := 30) rfl))) (Or.inr (hw _ (List.mem_of_getElem? (i := 21) rfl))) (by decide) (t := .long) (t' := .int) (by decide) (by decide)))
  have f3_3 := f2_4.other W3 (Or.inr (slot_ne (Or.inl (hw _ (List.mem_of_getElem? (i := 32) rfl))) (Or.inr (hw _ (List.mem_of_getElem? (i := 21) rfl))) (by decide) (t := (.array .long)) (t' := .int) (by decide) (by decide)))
  have f3_5 := fw2.other W3 (Or.inr (slot_ne (Or.inr (hw _ (List.mem_of_getElem? (i := 19) rfl))) (Or.inr (hw _ (List.mem_of_getElem? (i := 21) rfl))) (by decide) (t := (.object "java/lang/String")) (t' := .int) (by decide) (by decide)))
  have Zs3 : n0 ≤ h3.size := Nat.le_trans Zs2 (Nat.le_of_eq W3.size.symm)
  have K3 := K2.wr W3 (Or.inl (List.mem_of_getElem? (i := 0) rfl))
  have N3 := Fr.snoc X3 N2 p_2
  refine own_st st3 ?_
  show own_Goes p e below s (Q1 Z a st ex h0 n0) rRrm1.cells rRrm1.slots T3 (mkF m 14 #[rv a, rv st, iv ex] [])
  refine own_ret0 X3 hx hlk Bd.returns (hb hby d1_14) (by decide) (by decide) ?_
  show Q1 Z a st ex h0 n0 none T3.heap _
  rw [e3]
  exact ⟨rfl, N3, K3, f3_1, f3_2, f3_3, fw3⟩
abbrev rRrm3_0 : Room := { frames := 0, cells := 0, slots := 0, locals := 0 }
theorem d3_0 : decode prog_67_method_2_code 0 = .ok (.aload_n 0, 1) := by decide +kernel
theorem d3_1 : decode prog_67_method_2_code 1 = .ok (.getfield 17, 3) := by decide +kernel
theorem d3_4 : decode prog_67_method_2_code 4 = .ok (.ifCond .ne 11, 3) := by decide +kernel
theorem d3_7 : decode prog_67_method_2_code 7 = .ok (.aload_n 0, 1) := by decide +kernel
theorem d3_8 : decode prog_67_method_2_code 8 = .ok (.lload_n 1, 1) := by decide +kernel
theorem d3_9 : decode prog_67_method_2_code 9 = .ok (.putfield 20, 3) := by decide +kernel
theorem d3_12 : decode prog_67_method_2_code 12 = .ok (.goto 78, 3) := by decide +kernel
theorem d3_90 : decode prog_67_method_2_code 90 = .ok (.aload_n 0, 1) := by decide +kernel
theorem d3_91 : decode prog_67_method_2_code 91 = .ok (.getfield 24, 3) := by decide +kernel
theorem d3_94 : decode prog_67_method_2_code 94 = .ok (.ifnull 43, 3) := by decide +kernel
theorem d3_137 : decode prog_67_method_2_code 137 = .ok (.aload_n 0, 1) := by decide +kernel
theorem d3_138 : decode prog_67_method_2_code 138 = .ok (.dup, 1) := by decide +kernel
theorem d3_139 : decode prog_67_method_2_code 139 = .ok (.getfield 17, 3) := by decide +kernel
theorem d3_142 : decode prog_67_method_2_code 142 = .ok (.iconst 1, 1) := by decide +kernel
theorem d3_143 : decode prog_67_method_2_code 143 = .ok (.iadd, 1) := by decide +kernel
theorem d3_144 : decode prog_67_method_2_code 144 = .ok (.putfield 17, 3) := by decide +kernel
theorem d3_147 : decode prog_67_method_2_code 147 = .ok (.return_, 1) := by decide +kernel
theorem pn_rm3_0 : plainFor (⟨"com/example/graphbind/graphbind/RunningLongs", "add", "(J)V"⟩ : MethodName) = true := by first | exact plainFor_of_name (by first | (simp [plainName, overriddenIn]; done) | decide +kernel) | decide +kernel
theorem ef_rm3_0 (m : MethodId) (a : Addr) (x : Int64) : entryFrame m #[(.ref a), (.long x)] 4 = (mkF m 0 #[rv a, .val (.long x), .second, .unset] []) := by first | (simp [entryFrame, mkF, argsToLocals, Value.category]; done) | rfl
def Q3_0 (Z : State) (a : Addr) (x : Int64) (ex : Int32) (h0 : Heap) (n0 : Nat) (v_ : Option Value) (h_ : Heap) (L_ : List Loc) : Prop := (v_ = none) ∧ (Fr n0 L_) ∧ (Keep h0 h_ [a]) ∧ (Fld Z h_ a "com/example/graphbind/graphbind/RunningLongs" "count" "I" (.int (1 : Int32))) ∧ (Fld Z h_ a "com/example/graphbind/graphbind/RunningLongs" "first" "J" (.long x)) ∧ (Fld Z h_ a "com/example/graphbind/graphbind/RunningLongs" "values" "[J" .null) ∧ (Fld Z h_ a "com/example/graphbind/graphbind/RunningLongs" "expected" "I" (.int ex))
set_option maxRecDepth 65536 in
set_option maxHeartbeats 40000000 in
theorem rm3_0 (l : Launch) (Z : State) (a0 : Array Value) (hw : ∀ d ∈ tables_1, d.before a0 Z = true) (ws : List Jvm.Cond) (a : Addr) (x : Int64) (ex : Int32) (h0 : Heap) (n0 : Nat) (Z0 : n0 ≤ h0.size) (p_0 : Exa Z h0 a "com/example/graphbind/graphbind/RunningLongs") (p_1 : n0 ≤ a) (p_2 : Fld Z h0 a "com/example/graphbind/graphbind/RunningLongs" "count" "I" (.int (0 : Int32))) (p_3 : Fld Z h0 a "com/example/graphbind/graphbind/RunningLongs" "first" "J" (.long (0 : Int64))) (p_4 : Fld Z h0 a "com/example/graphbind/graphbind/RunningLongs" "values" "[J" .null) (p_5 : Fld Z h0 a "com/example/graphbind/graphbind/RunningLongs" "expected" "I" (.int ex)) :
    MetFree l (⟨"com/example/graphbind/graphbind/RunningLongs", "add", "(J)V"⟩ : MethodName) (head1 (Jvm.Cond.code (⟨"com/example/graphbind/graphbind/RunningLongs", "add", "(J)V"⟩ : MethodName) prog_67_method_2_code 4 none :: ws) rRrm3_0) (fun a_ U_ => a_ = #[(.ref a), (.long x)] ∧ Z.Warmed39 U_.vm ∧ U_.heap = h0) (fun _ _ _ _ _ => True) (fun _ U_ o_ U1_ => ∃ v_ L_, o_ = .returned v_ ∧ Q3_0 Z a x ex h0 n0 v_ U1_.heap L_ ∧ FrameEnd U_ o_ U1_ L_ rRrm3_0.cells rRrm3_0.slots) := by
  refine MetFree.of_bodySF pn_rm3_0 hisR ?_
  intro p e s m args below meth c s₁ Bd hml0 hP hK
  obtain ⟨rfl, hZ, hh⟩ := hP
  have hx := Bd.exec
  have hby := Bd.bytes
  have hlk : meth.locks = false := Bd.notSynchronized
  have hml : c.maxLocals = 4 := hml0
  have hown : s.vm.findClass "com/example/graphbind/graphbind/RunningLongs" = some m.cls := findClass_of_methodNamed Bd.named
  have hnm := (name_of_methodNamed Bd.named Bd.method).1
  have X0 : Stand p l e rRrm3_0 s m #[(.ref a), (.long x)] below meth c s₁ [] 0 0 := Stand.of_body Bd
  have e0 : s₁.heap = h0 := by rw [← hh, Bd.state]; rfl
  have N0 := Fr.nil n0
  show own_Goes p e below s (Q3_0 Z a x ex h0 n0) rRrm3_0.cells rRrm3_0.slots s₁ (entryFrame m #[(.ref a), (.long x)] 4)
  rw [ef_rm3_0 m a x]
  show own_Goes p e below s (Q3_0 Z a x ex h0 n0) rRrm3_0.cells rRrm3_0.slots s₁ (mkF m 0 #[rv a, .val (.long x), .second, .unset] [])
  refine own_st (fun _ kk_ => XS.aloadN X0.here hx rfl (hb hby d3_0) rfl rfl kk_) ?_
  show own_Goes p e below s (Q3_0 Z a x ex h0 n0) rRrm3_0.cells rRrm3_0.slots s₁ (mkF m 1 #[rv a, .val (.long x), .second, .unset] [(.ref a)])
  obtain ⟨T1, X1, e1, st1⟩ := getF X0 hx hZ hown (host := "") (Or.inl (hw _ (List.mem_of_getElem? (i := 27) rfl))) Via.refl e0 p_2 (g := (mkF m 1 #[rv a, .val (.long x), .second, .unset] [(.ref a)])) rfl rfl (hb hby d3_1)
  refine own_st st1 ?_
  show own_Goes p e below s (Q3_0 Z a x ex h0 n0) rRrm3_0.cells rRrm3_0.slots T1 (mkF m 4 #[rv a, .val (.long x), .second, .unset] [(.int (0 : Int32))])
  refine own_st (fun _ kk_ => XS.ifNo X1.here hx rfl (hb hby d3_4) rfl (XT.i0_ne_f (by decide)) (XS.aloadN X1.here hx rfl (hb hby d3_7) rfl rfl (XS.lloadN X1.here hx rfl (hb hby d3_8) rfl kk_))) ?_
  show own_Goes p e below s (Q3_0 Z a x ex h0 n0) rRrm3_0.cells rRrm3_0.slots T1 (mkF m 9 #[rv a, .val (.long x), .second, .unset] [(.long x), (.ref a)])
  obtain ⟨T2, h2, X2, e2, W2, st2⟩ := putF X1 hx hZ hown (host := "") (Or.inl (hw _ (List.mem_of_getElem? (i := 29) rfl))) Via.refl e1 p_3 p_0 (Or.inl (hw _ (List.mem_of_getElem? (i := 30) rfl))) (hw _ (List.mem_of_getElem? (i := 2) rfl)) (ty := .long) (by decide) rfl rfl (g := (mkF m 9 #[rv a, .val (.long x), .second, .unset] [(.long x), (.ref a)])) rfl rfl (hb hby d3_9)
  have fw2 : Fld Z h2 a "com/example/graphbind/graphbind/RunningLongs" "first" "J" (.long x) := p_3.same W2
  have f2_0 := p_0.wr W2
  have f2_1 := p_2.other W2 (Or.inr (slot_ne (Or.inl (hw _ (List.mem_of_getElem? (i := 28) rfl))) (Or.inl (hw _ (List.mem_of_getElem? (i := 30) rfl))) (by decide) (t := .int) (t' := .long) (by decide) (by decide)))
  have f2_3 := p_4.other W2 (Or.inr (slot_ne (Or.inl (hw _ (List.mem_of_getElem? (i := 32) rfl))) (Or.inl (hw _ (List.mem_of_getElem? (i := 30) rfl))) (by decide) (t := (.array .long)) (t' := .long) (by decide) (by decide)))
  have f2_4 := p_5.other W2 (Or.inr (slot_ne (Or.inr (hw _ (List.mem_of_getElem? (i := 21) rfl))) (Or.inl (hw _ (List.mem_of_getElem? (i := 30) rfl))) (by decide) (t := .int) (t' := .long) (by decide) (by decide)))
  have Zs2 : n0 ≤ h2.size := Nat.le_trans Z0 (Nat.le_of_eq W2.size.symm)
  have K2 := (Keep.refl h0 [a]).wr W2 (Or.inl (List.mem_of_getElem? (i := 0) rfl))
  have N2 := Fr.snoc X2 N0 p_1
  refine own_st st2 ?_
  show own_Goes p e below s (Q3_0 Z a x ex h0 n0) rRrm3_0.cells rRrm3_0.slots T2 (mkF m 12 #[rv a, .val (.long x), .second, .unset] [])
  refine own_st (fun _ kk_ => XS.goto X2.here hx rfl (pc0 := 12) (pc' := 90) rfl (hb hby d3_12) (by decide) (by decide) (XS.aloadN X2.here hx rfl (hb hby d3_90) rfl rfl kk_)) ?_
  show own_Goes p e below s (Q3_0 Z a x ex h0 n0) rRrm3_0.cells rRrm3_0.slots T2 (mkF m 91 #[rv a, .val (.long x), .second, .unset] [(.ref a)])
  obtain ⟨T3, X3, e3, st3⟩ := getF X2 hx hZ hown (host := "") (Or.inl (hw _ (List.mem_of_getElem? (i := 31) rfl))) Via.refl e2 f2_3 (g := (mkF m 91 #[rv a, .val (.long x), .second, .unset] [(.ref a)])) rfl rfl (hb hby d3_91)
  refine own_st st3 ?_
  show own_Goes p e below s (Q3_0 Z a x ex h0 n0) rRrm3_0.cells rRrm3_0.slots T3 (mkF m 94 #[rv a, .val (.long x), .second, .unset] [.null])
  refine own_st (fun _ kk_ => XS.ifnullYes X3.here hx rfl (pc0 := 94) (pc' := 137) rfl (hb hby d3_94) rfl (by decide) (by decide) (XS.aloadN X3.here hx rfl (hb hby d3_137) rfl rfl (XS.dup X3.here hx rfl (hb hby d3_138) rfl rfl kk_))) ?_
  show own_Goes p e below s (Q3_0 Z a x ex h0 n0) rRrm3_0.cells rRrm3_0.slots T3 (mkF m 139 #[rv a, .val (.long x), .second, .unset] [(.ref a), (.ref a)])
  obtain ⟨T4, X4, e4, st4⟩ := getF X3 hx hZ hown (host := "") (Or.inl (hw _ (List.mem_of_getElem? (i := 27) rfl))) Via.refl e3 f2_1 (g := (mkF m 139 #[rv a, .val (.long x), .second, .unset] [(.ref a), (.ref a)])) rfl rfl (hb hby d3_139)
  refine own_st st4 ?_
  show own_Goes p e below s (Q3_0 Z a x ex h0 n0) rRrm3_0.cells rRrm3_0.slots T4 (mkF m 142 #[rv a, .val (.long x), .second, .unset] [(.int (0 : Int32)), (.ref a)])
  refine own_st (fun _ kk_ => XS.iconst X4.here hx rfl (hb hby d3_142) (XS.iadd X4.here hx rfl (hb hby d3_143) rfl kk_)) ?_
  show own_Goes p e below s (Q3_0 Z a x ex h0 n0) rRrm3_0.cells rRrm3_0.slots T4 (mkF m 144 #[rv a, .val (.long x), .second, .unset] [(.int (1 : Int32)), (.ref a)])
  obtain ⟨T5, h5, X5, e5, W5, st5⟩ := putF X4 hx hZ hown (host := "") (Or.inl (hw _ (List.mem_of_getElem? (i := 27) rfl))) Via.refl e4 f2_1 f2_0 (Or.inl (hw _ (List.mem_of_getElem? (i := 28) rfl))) (hw _ (List.mem_of_getElem? (i := 2) rfl)) (ty := .int) (by decide) rfl rfl (g := (mkF m 144 #[rv a, .val (.long x), .second, .unset] [(.int (1 : Int32)), (.ref a)])) rfl rfl (hb hby d3_144)
  have fw5 : Fld Z h5 a "com/example/graphbind/graphbind/RunningLongs" "count" "I" (.int (1 : Int32)) := f2_1.same W5
  have f5_0 := f2_0.wr W5
  have f5_2 := f2_3.other W5 (Or.inr (slot_ne (Or.inl (hw _ (List.mem_of_getElem? (i := 32) rfl))) (Or.inl (hw _ (List.mem_of_getElem? (i := 28) rfl))) (by decide) (t := (.array .long)) (t' := .int) (by decide) (by decide)))
  have f5_3 := f2_4.other W5 (Or.inr (slot_ne (Or.inr (hw _ (List.mem_of_getElem? (i := 21) rfl))) (Or.inl (hw _ (List.mem_of_getElem? (i := 28) rfl))) (by decide) (t := .int) (t' := .int) (by decide) (by decide)))
  have f5_4 := fw2.other W5 (Or.inr (slot_ne (Or.inl (hw _ (List.mem_of_getElem? (i := 30) rfl))) (Or.inl (hw _ (List.mem_of_getElem? (i := 28) rfl))) (by decide) (t := .long) (t' := .int) (by decide) (by decide)))
  have Zs5 : n0 ≤ h5.size := Nat.le_trans Zs2 (Nat.le_of_eq W5.size.symm)
  have K5 := K2.wr W5 (Or.inl (List.mem_of_getElem? (i := 0) rfl))
  have N5 := Fr.snoc X5 N2 p_1
  refine own_st st5 ?_
  show own_Goes p e below s (Q3_0 Z a x ex h0 n0) rRrm3_0.cells rRrm3_0.slots T5 (mkF m 147 #[rv a, .val (.long x), .second, .unset] [])
  refine own_ret0 X5 hx hlk Bd.returns (hb hby d3_147) (by decide) (by decide) ?_
  show Q3_0 Z a x ex h0 n0 none T5.heap _
  rw [e5]
  exact ⟨rfl, N5, K5, fw5, f5_4, f5_2, f5_3⟩
abbrev rRrm3_1e : Room := { frames := 0, cells := 0, slots := 0, locals := 0 }
theorem d3_15 : decode prog_67_method_2_code 15 = .ok (.aload_n 0, 1) := by decide +kernel
theorem d3_16 : decode prog_67_method_2_code 16 = .ok (.getfield 24, 3) := by decide +kernel
theorem d3_19 : decode prog_67_method_2_code 19 = .ok (.ifnonnull 71, 3) := by decide +kernel
theorem d3_22 : decode prog_67_method_2_code 22 = .ok (.lload_n 1, 1) := by decide +kernel
theorem d3_23 : decode prog_67_method_2_code 23 = .ok (.aload_n 0, 1) := by decide +kernel
theorem d3_24 : decode prog_67_method_2_code 24 = .ok (.getfield 20, 3) := by decide +kernel
theorem d3_27 : decode prog_67_method_2_code 27 = .ok (.aload_n 0, 1) := by decide +kernel
theorem d3_28 : decode prog_67_method_2_code 28 = .ok (.getfield 17, 3) := by decide +kernel
theorem d3_31 : decode prog_67_method_2_code 31 = .ok (.i2l, 1) := by decide +kernel
theorem d3_32 : decode prog_67_method_2_code 32 = .ok (.ladd, 1) := by decide +kernel
theorem d3_33 : decode prog_67_method_2_code 33 = .ok (.lcmp, 1) := by decide +kernel
theorem d3_34 : decode prog_67_method_2_code 34 = .ok (.ifCond .eq 56, 3) := by decide +kernel
theorem pn_rm3_1e : plainFor (⟨"com/example/graphbind/graphbind/RunningLongs", "add", "(J)V"⟩ : MethodName) = true := by first | exact plainFor_of_name (by first | (simp [plainName, overriddenIn]; done) | decide +kernel) | decide +kernel
theorem ef_rm3_1e (m : MethodId) (a : Addr) (x : Int64) : entryFrame m #[(.ref a), (.long x)] 4 = (mkF m 0 #[rv a, .val (.long x), .second, .unset] []) := by first | (simp [entryFrame, mkF, argsToLocals, Value.category]; done) | rfl
def Q3_1e (Z : State) (a : Addr) (x : Int64) (ex : Int32) (f : Int64) (h0 : Heap) (n0 : Nat) (v_ : Option Value) (h_ : Heap) (L_ : List Loc) : Prop := (v_ = none) ∧ (Fr n0 L_) ∧ (Keep h0 h_ [a]) ∧ (Fld Z h_ a "com/example/graphbind/graphbind/RunningLongs" "count" "I" (.int (2 : Int32))) ∧ (Fld Z h_ a "com/example/graphbind/graphbind/RunningLongs" "first" "J" (.long f)) ∧ (Fld Z h_ a "com/example/graphbind/graphbind/RunningLongs" "values" "[J" .null) ∧ (Fld Z h_ a "com/example/graphbind/graphbind/RunningLongs" "expected" "I" (.int ex))
set_option maxRecDepth 65536 in
set_option maxHeartbeats 40000000 in
theorem rm3_1e (l : Launch) (Z : State) (a0 : Array Value) (hw : ∀ d ∈ tables_1, d.before a0 Z = true) (ws : List Jvm.Cond) (a : Addr) (x : Int64) (ex : Int32) (f : Int64) (h0 : Heap) (n0 : Nat) (Z0 : n0 ≤ h0.size) (p_0 : Exa Z h0 a "com/example/graphbind/graphbind/RunningLongs") (p_1 : n0 ≤ a) (p_2 : Fld Z h0 a "com/example/graphbind/graphbind/RunningLongs" "count" "I" (.int (1 : Int32))) (p_3 : Fld Z h0 a "com/example/graphbind/graphbind/RunningLongs" "first" "J" (.long f)) (p_4 : Fld Z h0 a "com/example/graphbind/graphbind/RunningLongs" "values" "[J" .null) (p_5 : Fld Z h0 a "com/example/graphbind/graphbind/RunningLongs" "expected" "I" (.int ex)) (hq : x = (f + ((1 : Int32).toInt64))) :
    MetFree l (⟨"com/example/graphbind/graphbind/RunningLongs", "add", "(J)V"⟩ : MethodName) (head1 (Jvm.Cond.code (⟨"com/example/graphbind/graphbind/RunningLongs", "add", "(J)V"⟩ : MethodName) prog_67_method_2_code 4 none :: ws) rRrm3_1e) (fun a_ U_ => a_ = #[(.ref a), (.long x)] ∧ Z.Warmed39 U_.vm ∧ U_.heap = h0) (fun _ _ _ _ _ => True) (fun _ U_ o_ U1_ => ∃ v_ L_, o_ = .returned v_ ∧ Q3_1e Z a x ex f h0 n0 v_ U1_.heap L_ ∧ FrameEnd U_ o_ U1_ L_ rRrm3_1e.cells rRrm3_1e.slots) := by
  refine MetFree.of_bodySF pn_rm3_1e hisR ?_
  intro p e s m args below meth c s₁ Bd hml0 hP hK
  obtain ⟨rfl, hZ, hh⟩ := hP
  have hx := Bd.exec
  have hby := Bd.bytes
  have hlk : meth.locks = false := Bd.notSynchronized
  have hml : c.maxLocals = 4 := hml0
  have hown : s.vm.findClass "com/example/graphbind/graphbind/RunningLongs" = some m.cls := findClass_of_methodNamed Bd.named
  have hnm := (name_of_methodNamed Bd.named Bd.method).1
  have X0 : Stand p l e rRrm3_1e s m #[(.ref a), (.long x)] below meth c s₁ [] 0 0 := Stand.of_body Bd
  have e0 : s₁.heap = h0 := by rw [← hh, Bd.state]; rfl
  have N0 := Fr.nil n0
  show own_Goes p e below s (Q3_1e Z a x ex f h0 n0) rRrm3_1e.cells rRrm3_1e.slots s₁ (entryFrame m #[(.ref a), (.long x)] 4)
  rw [ef_rm3_1e m a x]
  show own_Goes p e below s (Q3_1e Z a x ex f h0 n0) rRrm3_1e.cells rRrm3_1e.slots s₁ (mkF m 0 #[rv a, .val (.long x), .second, .unset] [])
  refine own_st (fun _ kk_ => XS.aloadN X0.here hx rfl (hb hby d3_0) rfl rfl kk_) ?_
  show own_Goes p e below s (Q3_1e Z a x ex f h0 n0) rRrm3_1e.cells rRrm3_1e.slots s₁ (mkF m 1 #[rv a, .val (.long x), .second, .unset] [(.ref a)])
  obtain ⟨T1, X1, e1, st1⟩ := getF X0 hx hZ hown (host := "") (Or.inl (hw _ (List.mem_of_getElem? (i := 27) rfl))) Via.refl e0 p_2 (g := (mkF m 1 #[rv a, .val (.long x), .second, .unset] [(.ref a)])) rfl rfl (hb hby d3_1)
  refine own_st st1 ?_
  show own_Goes p e below s (Q3_1e Z a x ex f h0 n0) rRrm3_1e.cells rRrm3_1e.slots T1 (mkF m 4 #[rv a, .val (.long x), .second, .unset] [(.int (1 : Int32))])
  refine own_st (fun _ kk_ => XS.ifYes X1.here hx rfl (pc0 := 4) (pc' := 15) rfl (hb hby d3_4) rfl (XT.i0_ne_t (by decide)) (by decide) (by decide) (XS.aloadN X1.here hx rfl (hb hby d3_15) rfl rfl kk_)) ?_
  show own_Goes p e below s (Q3_1e Z a x ex f h0 n0) rRrm3_1e.cells rRrm3_1e.slots T1 (mkF m 16 #[rv a, .val (.long x), .second, .unset] [(.ref a)])
  obtain ⟨T2, X2, e2, st2⟩ := getF X1 hx hZ hown (host := "") (Or.inl (hw _ (List.mem_of_getElem? (i := 31) rfl))) Via.refl e1 p_4 (g := (mkF m 16 #[rv a, .val (.long x), .second, .unset] [(.ref a)])) rfl rfl (hb hby d3_16)
  refine own_st st2 ?_
  show own_Goes p e below s (Q3_1e Z a x ex f h0 n0) rRrm3_1e.cells rRrm3_1e.slots T2 (mkF m 19 #[rv a, .val (.long x), .second, .unset] [.null])
  refine own_st (fun _ kk_ => XS.ifnonnullNo X2.here hx rfl (hb hby d3_19) rfl (XS.lloadN X2.here hx rfl (hb hby d3_22) rfl (XS.aloadN X2.here hx rfl (hb hby d3_23) rfl rfl kk_))) ?_
  show own_Goes p e below s (Q3_1e Z a x ex f h0 n0) rRrm3_1e.cells rRrm3_1e.slots T2 (mkF m 24 #[rv a, .val (.long x), .second, .unset] [(.ref a), (.long x)])
  obtain ⟨T3, X3, e3, st3⟩ := getF X2 hx hZ hown (host := "") (Or.inl (hw _ (List.mem_of_getElem? (i := 29) rfl))) Via.refl e2 p_3 (g := (mkF m 24 #[rv a, .val (.long x), .second, .unset] [(.ref a), (.long x)])) rfl rfl (hb hby d3_24)
  refine own_st st3 ?_
  show own_Goes p e below s (Q3_1e Z a x ex f h0 n0) rRrm3_1e.cells rRrm3_1e.slots T3 (mkF m 27 #[rv a, .val (.long x), .second, .unset] [(.long f), (.long x)])
  refine own_st (fun _ kk_ => XS.aloadN X3.here hx rfl (hb hby d3_27) rfl rfl kk_) ?_
  show own_Goes p e below s (Q3_1e Z a x ex f h0 n0) rRrm3_1e.cells rRrm3_1e.slots T3 (mkF m 28 #[rv a, .val (.long x), .second, .unset] [(.ref a), (.long f), (.long x)])
  obtain ⟨T4, X4, e4, st4⟩ := getF X3 hx hZ hown (host := "") (Or.inl (hw _ (List.mem_of_getElem? (i := 27) rfl))) Via.refl e3 p_2 (g := (mkF m 28 #[rv a, .val (.long x), .second, .unset] [(.ref a), (.long f), (.long x)])) rfl rfl (hb hby d3_28)
  refine own_st st4 ?_
  show own_Goes p e below s (Q3_1e Z a x ex f h0 n0) rRrm3_1e.cells rRrm3_1e.slots T4 (mkF m 31 #[rv a, .val (.long x), .second, .unset] [(.int (1 : Int32)), (.long f), (.long x)])
  refine own_st (fun _ kk_ => XS.i2l X4.here hx rfl (hb hby d3_31) rfl (XS.ladd X4.here hx rfl (hb hby d3_32) rfl (XT.lcmp X4.here hx rfl (hb hby d3_33) rfl (XS.ifYes X4.here hx rfl (pc0 := 34) (pc' := 90) rfl (hb hby d3_34) rfl (XT.ll_eq_t hq) (by decide) (by decide) (XS.aloadN X4.here hx rfl (hb hby d3_90) rfl rfl kk_))))) ?_
  show own_Goes p e below s (Q3_1e Z a x ex f h0 n0) rRrm3_1e.cells rRrm3_1e.slots T4 (mkF m 91 #[rv a, .val (.long x), .second, .unset] [(.ref a)])
  obtain ⟨T5, X5, e5, st5⟩ := getF X4 hx hZ hown (host := "") (Or.inl (hw _ (List.mem_of_getElem? (i := 31) rfl))) Via.refl e4 p_4 (g := (mkF m 91 #[rv a, .val (.long x), .second, .unset] [(.ref a)])) rfl rfl (hb hby d3_91)
  refine own_st st5 ?_
  show own_Goes p e below s (Q3_1e Z a x ex f h0 n0) rRrm3_1e.cells rRrm3_1e.slots T5 (mkF m 94 #[rv a, .val (.long x), .second, .unset] [.null])
  refine own_st (fun _ kk_ => XS.ifnullYes X5.here hx rfl (pc0 := 94) (pc' := 137) rfl (hb hby d3_94) rfl (by decide) (by decide) (XS.aloadN X5.here hx rfl (hb hby d3_137) rfl rfl (XS.dup X5.here hx rfl (hb hby d3_138) rfl rfl kk_))) ?_
  show own_Goes p e below s (Q3_1e Z a x ex f h0 n0) rRrm3_1e.cells rRrm3_1e.slots T5 (mkF m 139 #[rv a, .val (.long x), .second, .unset] [(.ref a), (.ref a)])
  obtain ⟨T6, X6, e6, st6⟩ := getF X5 hx hZ hown (host := "") (Or.inl (hw _ (List.mem_of_getElem? (i := 27) rfl))) Via.refl e5 p_2 (g := (mkF m 139 #[rv a, .val (.long x), .second, .unset] [(.ref a), (.ref a)])) rfl rfl (hb hby d3_139)
  refine own_st st6 ?_
  show own_Goes p e below s (Q3_1e Z a x ex f h0 n0) rRrm3_1e.cells rRrm3_1e.slots T6 (mkF m 142 #[rv a, .val (.long x), .second, .unset] [(.int (1 : Int32)), (.ref a)])
  refine own_st (fun _ kk_ => XS.iconst X6.here hx rfl (hb hby d3_142) (XS.iadd X6.here hx rfl (hb hby d3_143) rfl kk_)) ?_
  show own_Goes p e below s (Q3_1e Z a x ex f h0 n0) rRrm3_1e.cells rRrm3_1e.slots T6 (mkF m 144 #[rv a, .val (.long x), .second, .unset] [(.int (2 : Int32)), (.ref a)])
  obtain ⟨T7, h7, X7, e7, W7, st7⟩ := putF X6 hx hZ hown (host := "") (Or.inl (hw _ (List.mem_of_getElem? (i := 27) rfl))) Via.refl e6 p_2 p_0 (Or.inl (hw _ (List.mem_of_getElem? (i := 28) rfl))) (hw _ (List.mem_of_getElem? (i := 2) rfl)) (ty := .int) (by decide) rfl rfl (g := (mkF m 144 #[rv a, .val (.long x), .second, .unset] [(.int (2 : Int32)), (.ref a)])) rfl rfl (hb hby d3_144)
  have fw7 : Fld Z h7 a "com/example/graphbind/graphbind/RunningLongs" "count" "I" (.int (2 : Int32)) := p_2.same W7
  have f7_0 := p_0.wr W7
  have f7_2 := p_3.other W7 (Or.inr (slot_ne (Or.inl (hw _ (List.mem_of_getElem? (i := 30) rfl))) (Or.inl (hw _ (List.mem_of_getElem? (i := 28) rfl))) (by decide) (t := .long) (t' := .int) (by decide) (by decide)))
  have f7_3 := p_4.other W7 (Or.inr (slot_ne (Or.inl (hw _ (List.mem_of_getElem? (i := 32) rfl))) (Or.inl (hw _ (List.mem_of_getElem? (i := 28) rfl))) (by decide) (t := (.array .long)) (t' := .int) (by decide) (by decide)))
  have f7_4 := p_5.other W7 (Or.inr (slot_ne (Or.inr (hw _ (List.mem_of_getElem? (i := 21) rfl))) (Or.inl (hw _ (List.mem_of_getElem? (i := 28) rfl))) (by decide) (t := .int) (t' := .int) (by decide) (by decide)))
  have Zs7 : n0 ≤ h7.size := Nat.le_trans Z0 (Nat.le_of_eq W7.size.symm)
  have K7 := (Keep.refl h0 [a]).wr W7 (Or.inl (List.mem_of_getElem? (i := 0) rfl))
  have N7 := Fr.snoc X7 N0 p_1
  refine own_st st7 ?_
  show own_Goes p e below s (Q3_1e Z a x ex f h0 n0) rRrm3_1e.cells rRrm3_1e.slots T7 (mkF m 147 #[rv a, .val (.long x), .second, .unset] [])
  refine own_ret0 X7 hx hlk Bd.returns (hb hby d3_147) (by decide) (by decide) ?_
  show Q3_1e Z a x ex f h0 n0 none T7.heap _
  rw [e7]
  exact ⟨rfl, N7, K7, fw7, f7_2, f7_3, f7_4⟩
abbrev rRrm3_1n : Room := { frames := 1, cells := 1, slots := 31, locals := 14 }
theorem d3_37 : decode prog_67_method_2_code 37 = .ok (.aload_n 0, 1) := by decide +kernel
theorem d3_38 : decode prog_67_method_2_code 38 = .ok (.aload_n 0, 1) := by decide +kernel
theorem d3_39 : decode prog_67_method_2_code 39 = .ok (.getfield 13, 3) := by decide +kernel
theorem d3_42 : decode prog_67_method_2_code 42 = .ok (.aload_n 0, 1) := by decide +kernel
theorem d3_43 : decode prog_67_method_2_code 43 = .ok (.getfield 17, 3) := by decide +kernel
theorem d3_46 : decode prog_67_method_2_code 46 = .ok (.iconst 1, 1) := by decide +kernel
theorem d3_47 : decode prog_67_method_2_code 47 = .ok (.iadd, 1) := by decide +kernel
theorem d3_48 : decode prog_67_method_2_code 48 = .ok (.invokestatic 28, 3) := by decide +kernel
theorem d3_51 : decode prog_67_method_2_code 51 = .ok (.bipush 16, 2) := by decide +kernel
theorem d3_53 : decode prog_67_method_2_code 53 = .ok (.invokestatic 28, 3) := by decide +kernel
theorem d3_56 : decode prog_67_method_2_code 56 = .ok (.newarray .long, 2) := by decide +kernel
theorem d3_58 : decode prog_67_method_2_code 58 = .ok (.putfield 24, 3) := by decide +kernel
theorem d3_61 : decode prog_67_method_2_code 61 = .ok (.iconst 0, 1) := by decide +kernel
theorem d3_62 : decode prog_67_method_2_code 62 = .ok (.istore_n 3, 1) := by decide +kernel
theorem d3_63 : decode prog_67_method_2_code 63 = .ok (.iload_n 3, 1) := by decide +kernel
theorem d3_64 : decode prog_67_method_2_code 64 = .ok (.aload_n 0, 1) := by decide +kernel
theorem d3_65 : decode prog_67_method_2_code 65 = .ok (.getfield 17, 3) := by decide +kernel
theorem d3_68 : decode prog_67_method_2_code 68 = .ok (.if_icmp .ge 22, 3) := by decide +kernel
theorem d3_71 : decode prog_67_method_2_code 71 = .ok (.aload_n 0, 1) := by decide +kernel
theorem d3_72 : decode prog_67_method_2_code 72 = .ok (.getfield 24, 3) := by decide +kernel
theorem d3_75 : decode prog_67_method_2_code 75 = .ok (.iload_n 3, 1) := by decide +kernel
theorem d3_76 : decode prog_67_method_2_code 76 = .ok (.aload_n 0, 1) := by decide +kernel
theorem d3_77 : decode prog_67_method_2_code 77 = .ok (.getfield 20, 3) := by decide +kernel
theorem d3_80 : decode prog_67_method_2_code 80 = .ok (.iload_n 3, 1) := by decide +kernel
theorem d3_81 : decode prog_67_method_2_code 81 = .ok (.i2l, 1) := by decide +kernel
theorem d3_82 : decode prog_67_method_2_code 82 = .ok (.ladd, 1) := by decide +kernel
theorem d3_83 : decode prog_67_method_2_code 83 = .ok (.lastore, 1) := by decide +kernel
theorem d3_84 : decode prog_67_method_2_code 84 = .ok (.iinc 3 1, 3) := by decide +kernel
theorem d3_87 : decode prog_67_method_2_code 87 = .ok (.goto (-24), 3) := by decide +kernel
theorem d3_97 : decode prog_67_method_2_code 97 = .ok (.aload_n 0, 1) := by decide +kernel
theorem d3_98 : decode prog_67_method_2_code 98 = .ok (.getfield 17, 3) := by decide +kernel
theorem d3_101 : decode prog_67_method_2_code 101 = .ok (.aload_n 0, 1) := by decide +kernel
theorem d3_102 : decode prog_67_method_2_code 102 = .ok (.getfield 24, 3) := by decide +kernel
theorem d3_105 : decode prog_67_method_2_code 105 = .ok (.arraylength, 1) := by decide +kernel
theorem d3_106 : decode prog_67_method_2_code 106 = .ok (.if_icmp .ne 21, 3) := by decide +kernel
theorem d3_127 : decode prog_67_method_2_code 127 = .ok (.aload_n 0, 1) := by decide +kernel
theorem d3_128 : decode prog_67_method_2_code 128 = .ok (.getfield 24, 3) := by decide +kernel
theorem d3_131 : decode prog_67_method_2_code 131 = .ok (.aload_n 0, 1) := by decide +kernel
theorem d3_132 : decode prog_67_method_2_code 132 = .ok (.getfield 17, 3) := by decide +kernel
theorem d3_135 : decode prog_67_method_2_code 135 = .ok (.lload_n 1, 1) := by decide +kernel
theorem d3_136 : decode prog_67_method_2_code 136 = .ok (.lastore, 1) := by decide +kernel
theorem pd_0 : parseMethodDescriptor "(II)I" = some ⟨[.int, .int], some .int⟩ := by decide +kernel
theorem pn_rm3_1n : plainFor (⟨"com/example/graphbind/graphbind/RunningLongs", "add", "(J)V"⟩ : MethodName) = true := by first | exact plainFor_of_name (by first | (simp [plainName, overriddenIn]; done) | decide +kernel) | decide +kernel
theorem ef_rm3_1n (m : MethodId) (a : Addr) (x : Int64) : entryFrame m #[(.ref a), (.long x)] 4 = (mkF m 0 #[rv a, .val (.long x), .second, .unset] []) := by first | (simp [entryFrame, mkF, argsToLocals, Value.category]; done) | rfl
def Q3_1n (Z : State) (a : Addr) (x : Int64) (ex : Int32) (f : Int64) (h0 : Heap) (n0 : Nat) (v_ : Option Value) (h_ : Heap) (L_ : List Loc) : Prop := ∃ ar : Addr, ∃ z9 : Int32, ∃ kc : ClassId, (v_ = none) ∧ (Fr n0 L_) ∧ (Keep h0 h_ [a]) ∧ (Fld Z h_ a "com/example/graphbind/graphbind/RunningLongs" "count" "I" (.int (2 : Int32))) ∧ (Fld Z h_ a "com/example/graphbind/graphbind/RunningLongs" "first" "J" (.long f)) ∧ (Fld Z h_ a "com/example/graphbind/graphbind/RunningLongs" "values" "[J" (.ref ar)) ∧ (Fld Z h_ a "com/example/graphbind/graphbind/RunningLongs" "expected" "I" (.int ex)) ∧ (h0.size ≤ ar) ∧ (16 ≤ z9.toInt ∧ z9.toInt ≤ 31) ∧ (Arv Z h_ ar kc .long z9 [(.long (f + ((0 : Int32).toInt64))), (.long x), (.long (0 : Int64)), (.long (0 : Int64))] (.long (0 : Int64)))
set_option maxRecDepth 65536 in
set_option maxHeartbeats 40000000 in
theorem rm3_1n (l : Launch) (Z : State) (a0 : Array Value) (hw : ∀ d ∈ tables_1, d.before a0 Z = true) (ws : List Jvm.Cond) (a : Addr) (x : Int64) (ex : Int32) (f : Int64) (h0 : Heap) (n0 : Nat) (Z0 : n0 ≤ h0.size) (p_0 : Exa Z h0 a "com/example/graphbind/graphbind/RunningLongs") (p_1 : n0 ≤ a) (p_2 : Fld Z h0 a "com/example/graphbind/graphbind/RunningLongs" "count" "I" (.int (1 : Int32))) (p_3 : Fld Z h0 a "com/example/graphbind/graphbind/RunningLongs" "first" "J" (.long f)) (p_4 : Fld Z h0 a "com/example/graphbind/graphbind/RunningLongs" "values" "[J" .null) (p_5 : Fld Z h0 a "com/example/graphbind/graphbind/RunningLongs" "expected" "I" (.int ex)) (hq : ¬ x = (f + ((1 : Int32).toInt64))) (hex : 0 ≤ ex.toInt ∧ ex.toInt ≤ 31) :
    MetFree l (⟨"com/example/graphbind/graphbind/RunningLongs", "add", "(J)V"⟩ : MethodName) (head1 (Jvm.Cond.code (⟨"com/example/graphbind/graphbind/RunningLongs", "add", "(J)V"⟩ : MethodName) prog_67_method_2_code 4 none :: ws) rRrm3_1n) (fun a_ U_ => a_ = #[(.ref a), (.long x)] ∧ Z.Warmed39 U_.vm ∧ U_.heap = h0) (fun _ _ _ _ _ => True) (fun _ U_ o_ U1_ => ∃ v_ L_, o_ = .returned v_ ∧ Q3_1n Z a x ex f h0 n0 v_ U1_.heap L_ ∧ FrameEnd U_ o_ U1_ L_ rRrm3_1n.cells rRrm3_1n.slots) := by
  refine MetFree.of_bodySF pn_rm3_1n hisR ?_
  intro p e s m args below meth c s₁ Bd hml0 hP hK
  obtain ⟨rfl, hZ, hh⟩ := hP
  have hx := Bd.exec
  have hby := Bd.bytes
  have hlk : meth.locks = false := Bd.notSynchronized
  have hml : c.maxLocals = 4 := hml0
  have hown : s.vm.findClass "com/example/graphbind/graphbind/RunningLongs" = some m.cls := findClass_of_methodNamed Bd.named
  have hnm := (name_of_methodNamed Bd.named Bd.method).1
  have X0 : Stand p l e rRrm3_1n s m #[(.ref a), (.long x)] below meth c s₁ [] 0 0 := Stand.of_body Bd
  have e0 : s₁.heap = h0 := by rw [← hh, Bd.state]; rfl
  have N0 := Fr.nil n0
  show own_Goes p e below s (Q3_1n Z a x ex f h0 n0) rRrm3_1n.cells rRrm3_1n.slots s₁ (entryFrame m #[(.ref a), (.long x)] 4)
  rw [ef_rm3_1n m a x]
  show own_Goes p e below s (Q3_1n Z a x ex f h0 n0) rRrm3_1n.cells rRrm3_1n.slots s₁ (mkF m 0 #[rv a, .val (.long x), .second, .unset] [])
  refine own_st (fun _ kk_ => XS.aloadN X0.here hx rfl (hb hby d3_0) rfl rfl kk_) ?_
  show own_Goes p e below s (Q3_1n Z a x ex f h0 n0) rRrm3_1n.cells rRrm3_1n.slots s₁ (mkF m 1 #[rv a, .val (.long x), .second, .unset] [(.ref a)])
  obtain ⟨T1, X1, e1, st1⟩ := getF X0 hx hZ hown (host := "") (Or.inl (hw _ (List.mem_of_getElem? (i := 27) rfl))) Via.refl e0 p_2 (g := (mkF m 1 #[rv a, .val (.long x), .second, .unset] [(.ref a)])) rfl rfl (hb hby d3_1)
  refine own_st st1 ?_
  show own_Goes p e below s (Q3_1n Z a x ex f h0 n0) rRrm3_1n.cells rRrm3_1n.slots T1 (mkF m 4 #[rv a, .val (.long x), .second, .unset] [(.int (1 : Int32))])
  refine own_st (fun _ kk_ => XS.ifYes X1.here hx rfl (pc0 := 4) (pc' := 15) rfl (hb hby d3_4) rfl (XT.i0_ne_t (by decide)) (by decide) (by decide) (XS.aloadN X1.here hx rfl (hb hby d3_15) rfl rfl kk_)) ?_
  show own_Goes p e below s (Q3_1n Z a x ex f h0 n0) rRrm3_1n.cells rRrm3_1n.slots T1 (mkF m 16 #[rv a, .val (.long x), .second, .unset] [(.ref a)])
  obtain ⟨T2, X2, e2, st2⟩ := getF X1 hx hZ hown (host := "") (Or.inl (hw _ (List.mem_of_getElem? (i := 31) rfl))) Via.refl e1 p_4 (g := (mkF m 16 #[rv a, .val (.long x), .second, .unset] [(.ref a)])) rfl rfl (hb hby d3_16)
  refine own_st st2 ?_
  show own_Goes p e below s (Q3_1n Z a x ex f h0 n0) rRrm3_1n.cells rRrm3_1n.slots T2 (mkF m 19 #[rv a, .val (.long x), .second, .unset] [.null])
  refine own_st (fun _ kk_ => XS.ifnonnullNo X2.here hx rfl (hb hby d3_19) rfl (XS.lloadN X2.here hx rfl (hb hby d3_22) rfl (XS.aloadN X2.here hx rfl (hb hby d3_23) rfl rfl kk_))) ?_
  show own_Goes p e below s (Q3_1n Z a x ex f h0 n0) rRrm3_1n.cells rRrm3_1n.slots T2 (mkF m 24 #[rv a, .val (.long x), .second, .unset] [(.ref a), (.long x)])
  obtain ⟨T3, X3, e3, st3⟩ := getF X2 hx hZ hown (host := "") (Or.inl (hw _ (List.mem_of_getElem? (i := 29) rfl))) Via.refl e2 p_3 (g := (mkF m 24 #[rv a, .val (.long x), .second, .unset] [(.ref a), (.long x)])) rfl rfl (hb hby d3_24)
  refine own_st st3 ?_
  show own_Goes p e below s (Q3_1n Z a x ex f h0 n0) rRrm3_1n.cells rRrm3_1n.slots T3 (mkF m 27 #[rv a, .val (.long x), .second, .unset] [(.long f), (.long x)])
  refine own_st (fun _ kk_ => XS.aloadN X3.here hx rfl (hb hby d3_27) rfl rfl kk_) ?_
  show own_Goes p e below s (Q3_1n Z a x ex f h0 n0) rRrm3_1n.cells rRrm3_1n.slots T3 (mkF m 28 #[rv a, .val (.long x), .second, .unset] [(.ref a), (.long f), (.long x)])
  obtain ⟨T4, X4, e4, st4⟩ := getF X3 hx hZ hown (host := "") (Or.inl (hw _ (List.mem_of_getElem? (i := 27) rfl))) Via.refl e3 p_2 (g := (mkF m 28 #[rv a, .val (.long x), .second, .unset] [(.ref a), (.long f), (.long x)])) rfl rfl (hb hby d3_28)
  refine own_st st4 ?_
  show own_Goes p e below s (Q3_1n Z a x ex f h0 n0) rRrm3_1n.cells rRrm3_1n.slots T4 (mkF m 31 #[rv a, .val (.long x), .second, .unset] [(.int (1 : Int32)), (.long f), (.long x)])
  refine own_st (fun _ kk_ => XS.i2l X4.here hx rfl (hb hby d3_31) rfl (XS.ladd X4.here hx rfl (hb hby d3_32) rfl (XT.lcmp X4.here hx rfl (hb hby d3_33) rfl (XS.ifNo X4.here hx rfl (hb hby d3_34) rfl (XT.ll_eq_f hq) (XS.aloadN X4.here hx rfl (hb hby d3_37) rfl rfl (XS.aloadN X4.here hx rfl (hb hby d3_38) rfl rfl kk_)))))) ?_
  show own_Goes p e below s (Q3_1n Z a x ex f h0 n0) rRrm3_1n.cells rRrm3_1n.slots T4 (mkF m 39 #[rv a, .val (.long x), .second, .unset] [(.ref a), (.ref a)])
  obtain ⟨T5, X5, e5, st5⟩ := getF X4 hx hZ hown (host := "") (Or.inl (hw _ (List.mem_of_getElem? (i := 20) rfl))) Via.refl e4 p_5 (g := (mkF m 39 #[rv a, .val (.long x), .second, .unset] [(.ref a), (.ref a)])) rfl rfl (hb hby d3_39)
  refine own_st st5 ?_
  show own_Goes p e below s (Q3_1n Z a x ex f h0 n0) rRrm3_1n.cells rRrm3_1n.slots T5 (mkF m 42 #[rv a, .val (.long x), .second, .unset] [(.int ex), (.ref a)])
  refine own_st (fun _ kk_ => XS.aloadN X5.here hx rfl (hb hby d3_42) rfl rfl kk_) ?_
  show own_Goes p e below s (Q3_1n Z a x ex f h0 n0) rRrm3_1n.cells rRrm3_1n.slots T5 (mkF m 43 #[rv a, .val (.long x), .second, .unset] [(.ref a), (.int ex), (.ref a)])
  obtain ⟨T6, X6, e6, st6⟩ := getF X5 hx hZ hown (host := "") (Or.inl (hw _ (List.mem_of_getElem? (i := 27) rfl))) Via.refl e5 p_2 (g := (mkF m 43 #[rv a, .val (.long x), .second, .unset] [(.ref a), (.int ex), (.ref a)])) rfl rfl (hb hby d3_43)
  refine own_st st6 ?_
  show own_Goes p e below s (Q3_1n Z a x ex f h0 n0) rRrm3_1n.cells rRrm3_1n.slots T6 (mkF m 46 #[rv a, .val (.long x), .second, .unset] [(.int (1 : Int32)), (.int ex), (.ref a)])
  refine own_st (fun _ kk_ => XS.iconst X6.here hx rfl (hb hby d3_46) (XS.iadd X6.here hx rfl (hb hby d3_47) rfl kk_)) ?_
  show own_Goes p e below s (Q3_1n Z a x ex f h0 n0) rRrm3_1n.cells rRrm3_1n.slots T6 (mkF m 48 #[rv a, .val (.long x), .second, .unset] [(.int (2 : Int32)), (.int ex), (.ref a)])
  obtain ⟨_, _, ⟨T7, L7, k7, n7⟩, -, X7, ⟨Lc7, hQ7, l7, y7, z7⟩, st7⟩ := Jvm.LawKit.callS X6 hx (y := (⟨"java/lang/Math", "max", "(II)I"⟩ : MethodName)) hown (mvT hZ (hw _ (List.mem_of_getElem? (i := 39) rfl))) (mvT hZ (hw _ (List.mem_of_getElem? (i := 40) rfl))) (mvT hZ (hw _ (List.mem_of_getElem? (i := 41) rfl))) (mvT hZ (hw _ (List.mem_of_getElem? (i := 42) rfl))) (by decide) (backOf (W := 1) (rm5 l Z a0 hw [] (ex) ((2 : Int32)) h0 n0 Z0) hZ (hw _ (List.mem_of_getElem? (i := 42) rfl)) (hw _ (List.mem_of_getElem? (i := 41) rfl)) (by decide) (by decide)) (g := (mkF m 48 #[rv a, .val (.long x), .second, .unset] [(.int (2 : Int32)), (.int ex), (.ref a)])) rfl (by rw [hml]; rfl) (argsL := [(.int ex), (.int (2 : Int32))]) (rest := [(.ref a)]) (lenOf pd_0 rfl) rfl (by show 2 * 0 + _ ≤ _; exact Nat.le_of_eq rfl) (hb hby d3_48) (fun _ _ => ⟨rfl, e6, (by decide : 0 + 0 ≤ _), (by decide : 0 + 0 ≤ _)⟩)
  dsimp only [Pt.U, Pt.locs, Pt.cells, Pt.slots] at X7 l7 y7 z7 st7 hQ7
  subst l7 y7 z7
  obtain ⟨rfl, Nq7, eq7⟩ := hQ7
  have N7 := Fr.app N0 Nq7
  refine own_st st7 ?_
  show own_Goes p e below s (Q3_1n Z a x ex f h0 n0) rRrm3_1n.cells rRrm3_1n.slots T7 (mkF m 51 #[rv a, .val (.long x), .second, .unset] [(.int (own_max ex (2 : Int32))), (.ref a)])
  refine own_st (fun _ kk_ => XS.bipush X7.here hx rfl (hb hby d3_51) kk_) ?_
  show own_Goes p e below s (Q3_1n Z a x ex f h0 n0) rRrm3_1n.cells rRrm3_1n.slots T7 (mkF m 53 #[rv a, .val (.long x), .second, .unset] [(.int (16 : Int32)), (.int (own_max ex (2 : Int32))), (.ref a)])
  obtain ⟨_, _, ⟨T8, L8, k8, n8⟩, -, X8, ⟨Lc8, hQ8, l8, y8, z8⟩, st8⟩ := Jvm.LawKit.callS X7 hx (y := (⟨"java/lang/Math", "max", "(II)I"⟩ : MethodName)) hown (mvT hZ (hw _ (List.mem_of_getElem? (i := 39) rfl))) (mvT hZ (hw _ (List.mem_of_getElem? (i := 40) rfl))) (mvT hZ (hw _ (List.mem_of_getElem? (i := 41) rfl))) (mvT hZ (hw _ (List.mem_of_getElem? (i := 42) rfl))) (by decide) (backOf (W := 1) (rm5 l Z a0 hw [] ((own_max ex (2 : Int32))) ((16 : Int32)) h0 n0 Z0) hZ (hw _ (List.mem_of_getElem? (i := 42) rfl)) (hw _ (List.mem_of_getElem? (i := 41) rfl)) (by decide) (by decide)) (g := (mkF m 53 #[rv a, .val (.long x), .second, .unset] [(.int (16 : Int32)), (.int (own_max ex (2 : Int32))), (.ref a)])) rfl (by rw [hml]; rfl) (argsL := [(.int (own_max ex (2 : Int32))), (.int (16 : Int32))]) (rest := [(.ref a)]) (lenOf pd_0 rfl) rfl (by show 2 * 0 + _ ≤ _; exact Nat.le_of_eq rfl) (hb hby d3_53) (fun _ _ => ⟨rfl, eq7, (by decide : 0 + 0 ≤ _), (by decide : 0 + 0 ≤ _)⟩)
  dsimp only [Pt.U, Pt.locs, Pt.cells, Pt.slots] at X8 l8 y8 z8 st8 hQ8
  subst l8 y8 z8
  obtain ⟨rfl, Nq8, eq8⟩ := hQ8
  have N8 := Fr.app N7 Nq8
  refine own_st st8 ?_
  show own_Goes p e below s (Q3_1n Z a x ex f h0 n0) rRrm3_1n.cells rRrm3_1n.slots T8 (mkF m 56 #[rv a, .val (.long x), .second, .unset] [(.int (own_max (own_max ex (2 : Int32)) (16 : Int32))), (.ref a)])
  obtain ⟨z9, h_z9⟩ : ∃ z, z = (own_max (own_max ex (2 : Int32)) (16 : Int32)) := ⟨_, rfl⟩
  rw [← h_z9]
  show own_Goes p e below s (Q3_1n Z a x ex f h0 n0) rRrm3_1n.cells rRrm3_1n.slots T8 (mkF m 56 #[rv a, .val (.long x), .second, .unset] [(.int z9), (.ref a)])
  have hz : 16 ≤ z9.toInt ∧ z9.toInt ≤ 31 := by rw [h_z9]; exact own_len hex (by decide)
  obtain ⟨T9, h9, k9, X9, e9, E9, A9, st9⟩ := newP X8 hx hZ (hw _ (List.mem_of_getElem? (i := 43) rfl)) eq8 (g := (mkF m 56 #[rv a, .val (.long x), .second, .unset] [(.int z9), (.ref a)])) rfl (hb hby d3_56) rfl (own_nn hz) (cap := 31) (own_cap hz) (by decide) (by decide) (by decide)
  obtain ⟨b9, gx9⟩ : ∃ z, z = h0.size := ⟨_, rfl⟩
  rw [← gx9] at A9 st9
  have ne9_a : a ≠ b9 := Nat.ne_of_lt (Nat.lt_of_lt_of_eq p_0.lt gx9.symm)
  have gg9 : n0 ≤ b9 := Nat.le_trans Z0 (Nat.le_of_eq gx9.symm)
  have sz9 : h0.size ≤ b9 := Nat.le_trans (Keep.refl h0 [a]).1 (Nat.le_of_eq gx9.symm)
  have f9_0 := p_0.ext E9
  have f9_1 := p_2.ext E9
  have f9_2 := p_3.ext E9
  have f9_3 := p_4.ext E9
  have f9_4 := p_5.ext E9
  have Zs9 : n0 ≤ h9.size := Nat.le_trans Z0 E9.1
  have K9 := (Keep.refl h0 [a]).ext E9
  have V9 : Arv Z h9 b9 k9 .long z9 [(.long (0 : Int64)), (.long (0 : Int64)), (.long (0 : Int64)), (.long (0 : Int64))] (.long (0 : Int64)) := (Arv.new A9 (own_nn hz)).pad (pad_rep [] (.long (0 : Int64)) 4)
  refine own_st st9 ?_
  show own_Goes p e below s (Q3_1n Z a x ex f h0 n0) rRrm3_1n.cells rRrm3_1n.slots T9 (mkF m 58 #[rv a, .val (.long x), .second, .unset] [(.ref b9), (.ref a)])
  obtain ⟨T10, h10, X10, e10, W10, st10⟩ := putF X9 hx hZ hown (host := "") (Or.inl (hw _ (List.mem_of_getElem? (i := 31) rfl))) Via.refl e9 f9_3 f9_0 (Or.inl (hw _ (List.mem_of_getElem? (i := 32) rfl))) (hw _ (List.mem_of_getElem? (i := 2) rfl)) (ty := (.array .long)) (by decide) rfl rfl (g := (mkF m 58 #[rv a, .val (.long x), .second, .unset] [(.ref b9), (.ref a)])) rfl rfl (hb hby d3_58)
  have fw10 : Fld Z h10 a "com/example/graphbind/graphbind/RunningLongs" "values" "[J" (.ref b9) := f9_3.same W10
  have f10_0 := f9_0.wr W10
  have f10_1 := f9_1.other W10 (Or.inr (slot_ne (Or.inl (hw _ (List.mem_of_getElem? (i := 28) rfl))) (Or.inl (hw _ (List.mem_of_getElem? (i := 32) rfl))) (by decide) (t := .int) (t' := (.array .long)) (by decide) (by decide)))
  have f10_2 := f9_2.other W10 (Or.inr (slot_ne (Or.inl (hw _ (List.mem_of_getElem? (i := 30) rfl))) (Or.inl (hw _ (List.mem_of_getElem? (i := 32) rfl))) (by decide) (t := .long) (t' := (.array .long)) (by decide) (by decide)))
  have f10_4 := f9_4.other W10 (Or.inr (slot_ne (Or.inr (hw _ (List.mem_of_getElem? (i := 21) rfl))) (Or.inl (hw _ (List.mem_of_getElem? (i := 32) rfl))) (by decide) (t := .int) (t' := (.array .long)) (by decide) (by decide)))
  have f10_5 := V9.other W10 (Ne.symm ne9_a)
  have Zs10 : n0 ≤ h10.size := Nat.le_trans Zs9 (Nat.le_of_eq W10.size.symm)
  have K10 := K9.wr W10 (Or.inl (List.mem_of_getElem? (i := 0) rfl))
  have N10 := Fr.snoc X10 N8 p_1
  refine own_st st10 ?_
  show own_Goes p e below s (Q3_1n Z a x ex f h0 n0) rRrm3_1n.cells rRrm3_1n.slots T10 (mkF m 61 #[rv a, .val (.long x), .second, .unset] [])
  refine own_st (fun _ kk_ => XS.iconst X10.here hx rfl (hb hby d3_61) (XS.istoreN X10.here hx rfl (hb hby d3_62) rfl (l' := #[rv a, .val (.long x), .second, iv (0 : Int32)]) rfl (XS.iloadN X10.here hx rfl (hb hby d3_63) rfl (XS.aloadN X10.here hx rfl (hb hby d3_64) rfl rfl kk_)))) ?_
  show own_Goes p e below s (Q3_1n Z a x ex f h0 n0) rRrm3_1n.cells rRrm3_1n.slots T10 (mkF m 65 #[rv a, .val (.long x), .second, iv (0 : Int32)] [(.ref a), (.int (0 : Int32))])
  obtain ⟨T11, X11, e11, st11⟩ := getF X10 hx hZ hown (host := "") (Or.inl (hw _ (List.mem_of_getElem? (i := 27) rfl))) Via.refl e10 f10_1 (g := (mkF m 65 #[rv a, .val (.long x), .second, iv (0 : Int32)] [(.ref a), (.int (0 : Int32))])) rfl rfl (hb hby d3_65)
  refine own_st st11 ?_
  show own_Goes p e below s (Q3_1n Z a x ex f h0 n0) rRrm3_1n.cells rRrm3_1n.slots T11 (mkF m 68 #[rv a, .val (.long x), .second, iv (0 : Int32)] [(.int (1 : Int32)), (.int (0 : Int32))])
  refine own_st (fun _ kk_ => XS.icmpNo X11.here hx rfl (hb hby d3_68) rfl (XT.ii_ge_f (by decide)) (XS.aloadN X11.here hx rfl (hb hby d3_71) rfl rfl kk_)) ?_
  show own_Goes p e below s (Q3_1n Z a x ex f h0 n0) rRrm3_1n.cells rRrm3_1n.slots T11 (mkF m 72 #[rv a, .val (.long x), .second, iv (0 : Int32)] [(.ref a)])
  obtain ⟨T12, X12, e12, st12⟩ := getF X11 hx hZ hown (host := "") (Or.inl (hw _ (List.mem_of_getElem? (i := 31) rfl))) Via.refl e11 fw10 (g := (mkF m 72 #[rv a, .val (.long x), .second, iv (0 : Int32)] [(.ref a)])) rfl rfl (hb hby d3_72)
  refine own_st st12 ?_
  show own_Goes p e below s (Q3_1n Z a x ex f h0 n0) rRrm3_1n.cells rRrm3_1n.slots T12 (mkF m 75 #[rv a, .val (.long x), .second, iv (0 : Int32)] [(.ref b9)])
  refine own_st (fun _ kk_ => XS.iloadN X12.here hx rfl (hb hby d3_75) rfl (XS.aloadN X12.here hx rfl (hb hby d3_76) rfl rfl kk_)) ?_
  show own_Goes p e below s (Q3_1n Z a x ex f h0 n0) rRrm3_1n.cells rRrm3_1n.slots T12 (mkF m 77 #[rv a, .val (.long x), .second, iv (0 : Int32)] [(.ref a), (.int (0 : Int32)), (.ref b9)])
  obtain ⟨T13, X13, e13, st13⟩ := getF X12 hx hZ hown (host := "") (Or.inl (hw _ (List.mem_of_getElem? (i := 29) rfl))) Via.refl e12 f10_2 (g := (mkF m 77 #[rv a, .val (.long x), .second, iv (0 : Int32)] [(.ref a), (.int (0 : Int32)), (.ref b9)])) rfl rfl (hb hby d3_77)
  refine own_st st13 ?_
  show own_Goes p e below s (Q3_1n Z a x ex f h0 n0) rRrm3_1n.cells rRrm3_1n.slots T13 (mkF m 80 #[rv a, .val (.long x), .second, iv (0 : Int32)] [(.long f), (.int (0 : Int32)), (.ref b9)])
  refine own_st (fun _ kk_ => XS.iloadN X13.here hx rfl (hb hby d3_80) rfl (XS.i2l X13.here hx rfl (hb hby d3_81) rfl (XS.ladd X13.here hx rfl (hb hby d3_82) rfl kk_))) ?_
  show own_Goes p e below s (Q3_1n Z a x ex f h0 n0) rRrm3_1n.cells rRrm3_1n.slots T13 (mkF m 83 #[rv a, .val (.long x), .second, iv (0 : Int32)] [(.long (f + ((0 : Int32).toInt64))), (.int (0 : Int32)), (.ref b9)])
  obtain ⟨cl14, Ar14, q14, Sz14, Nn14, Hh14, Gg14⟩ := id f10_5
  obtain ⟨T14, h14, X14, e14, W14, st14⟩ := stJ X13 hx hZ e13 Ar14 (j := (0 : Int32)) (inb_of Sz14 ⟨by decide, own_lt hz (by decide)⟩) (g := (mkF m 83 #[rv a, .val (.long x), .second, iv (0 : Int32)] [(.long (f + ((0 : Int32).toInt64))), (.int (0 : Int32)), (.ref b9)])) rfl rfl (hb hby d3_83)
  have V14 : Arv Z h14 b9 k9 .long z9 [(.long (f + ((0 : Int32).toInt64))), (.long (0 : Int64)), (.long (0 : Int64)), (.long (0 : Int64))] (.long (0 : Int64)) := Arv.set Ar14 q14 Sz14 Nn14 Hh14 Gg14 rfl W14 0 rfl (Nat.le_of_ble_eq_true rfl)
  have f14_0 := f10_0.wr W14
  have f14_1 := f10_1.other W14 (Or.inl ne9_a)
  have f14_2 := f10_2.other W14 (Or.inl ne9_a)
  have f14_3 := f10_4.other W14 (Or.inl ne9_a)
  have f14_5 := fw10.other W14 (Or.inl ne9_a)
  have Zs14 : n0 ≤ h14.size := Nat.le_trans Zs10 (Nat.le_of_eq W14.size.symm)
  have K14 := K10.wr W14 (Or.inr sz9)
  have N14 := Fr.snoc X14 N10 gg9
  refine own_st st14 ?_
  show own_Goes p e below s (Q3_1n Z a x ex f h0 n0) rRrm3_1n.cells rRrm3_1n.slots T14 (mkF m 84 #[rv a, .val (.long x), .second, iv (0 : Int32)] [])
  refine own_st (fun _ kk_ => XS.iinc X14.here hx rfl (hb hby d3_84) rfl (l' := #[rv a, .val (.long x), .second, iv (1 : Int32)]) rfl (XS.goto X14.here hx rfl (pc0 := 87) (pc' := 63) rfl (hb hby d3_87) (by decide) (by decide) (XS.iloadN X14.here hx rfl (hb hby d3_63) rfl (XS.aloadN X14.here hx rfl (hb hby d3_64) rfl rfl kk_)))) ?_
  show own_Goes p e below s (Q3_1n Z a x ex f h0 n0) rRrm3_1n.cells rRrm3_1n.slots T14 (mkF m 65 #[rv a, .val (.long x), .second, iv (1 : Int32)] [(.ref a), (.int (1 : Int32))])
  obtain ⟨T15, X15, e15, st15⟩ := getF X14 hx hZ hown (host := "") (Or.inl (hw _ (List.mem_of_getElem? (i := 27) rfl))) Via.refl e14 f14_1 (g := (mkF m 65 #[rv a, .val (.long x), .second, iv (1 : Int32)] [(.ref a), (.int (1 : Int32))])) rfl rfl (hb hby d3_65)
  refine own_st st15 ?_
  show own_Goes p e below s (Q3_1n Z a x ex f h0 n0) rRrm3_1n.cells rRrm3_1n.slots T15 (mkF m 68 #[rv a, .val (.long x), .second, iv (1 : Int32)] [(.int (1 : Int32)), (.int (1 : Int32))])
  refine own_st (fun _ kk_ => XS.icmpYes X15.here hx rfl (pc0 := 68) (pc' := 90) rfl (hb hby d3_68) rfl (XT.ii_ge_t (by decide)) (by decide) (by decide) (XS.aloadN X15.here hx rfl (hb hby d3_90) rfl rfl kk_)) ?_
  show own_Goes p e below s (Q3_1n Z a x ex f h0 n0) rRrm3_1n.cells rRrm3_1n.slots T15 (mkF m 91 #[rv a, .val (.long x), .second, iv (1 : Int32)] [(.ref a)])
  obtain ⟨T16, X16, e16, st16⟩ := getF X15 hx hZ hown (host := "") (Or.inl (hw _ (List.mem_of_getElem? (i := 31) rfl))) Via.refl e15 f14_5 (g := (mkF m 91 #[rv a, .val (.long x), .second, iv (1 : Int32)] [(.ref a)])) rfl rfl (hb hby d3_91)
  refine own_st st16 ?_
  show own_Goes p e below s (Q3_1n Z a x ex f h0 n0) rRrm3_1n.cells rRrm3_1n.slots T16 (mkF m 94 #[rv a, .val (.long x), .second, iv (1 : Int32)] [(.ref b9)])
  refine own_st (fun _ kk_ => XS.ifnullNo X16.here hx rfl (hb hby d3_94) rfl (XS.aloadN X16.here hx rfl (hb hby d3_97) rfl rfl kk_)) ?_
  show own_Goes p e below s (Q3_1n Z a x ex f h0 n0) rRrm3_1n.cells rRrm3_1n.slots T16 (mkF m 98 #[rv a, .val (.long x), .second, iv (1 : Int32)] [(.ref a)])
  obtain ⟨T17, X17, e17, st17⟩ := getF X16 hx hZ hown (host := "") (Or.inl (hw _ (List.mem_of_getElem? (i := 27) rfl))) Via.refl e16 f14_1 (g := (mkF m 98 #[rv a, .val (.long x), .second, iv (1 : Int32)] [(.ref a)])) rfl rfl (hb hby d3_98)
  refine own_st st17 ?_
  show own_Goes p e below s (Q3_1n Z a x ex f h0 n0) rRrm3_1n.cells rRrm3_1n.slots T17 (mkF m 101 #[rv a, .val (.long x), .second, iv (1 : Int32)] [(.int (1 : Int32))])
  refine own_st (fun _ kk_ => XS.aloadN X17.here hx rfl (hb hby d3_101) rfl rfl kk_) ?_
  show own_Goes p e below s (Q3_1n Z a x ex f h0 n0) rRrm3_1n.cells rRrm3_1n.slots T17 (mkF m 102 #[rv a, .val (.long x), .second, iv (1 : Int32)] [(.ref a), (.int (1 : Int32))])
  obtain ⟨T18, X18, e18, st18⟩ := getF X17 hx hZ hown (host := "") (Or.inl (hw _ (List.mem_of_getElem? (i := 31) rfl))) Via.refl e17 f14_5 (g := (mkF m 102 #[rv a, .val (.long x), .second, iv (1 : Int32)] [(.ref a), (.int (1 : Int32))])) rfl rfl (hb hby d3_102)
  refine own_st st18 ?_
  show own_Goes p e below s (Q3_1n Z a x ex f h0 n0) rRrm3_1n.cells rRrm3_1n.slots T18 (mkF m 105 #[rv a, .val (.long x), .second, iv (1 : Int32)] [(.ref b9), (.int (1 : Int32))])
  obtain ⟨cl19, Ar19, -, Sz19, Nn19, -, -⟩ := id V14
  refine own_st (fun _ kk_ => X18.arraylength hx (by rw [e18]; exact Ar19.1) (State.isArrayOf_alike hZ.alike Ar19.2.1) (g := (mkF m 105 #[rv a, .val (.long x), .second, iv (1 : Int32)] [(.ref b9), (.int (1 : Int32))])) rfl rfl (hb hby d3_105) _ kk_) ?_
  rw [len_of Sz19 Nn19]
  show own_Goes p e below s (Q3_1n Z a x ex f h0 n0) rRrm3_1n.cells rRrm3_1n.slots T18 (mkF m 106 #[rv a, .val (.long x), .second, iv (1 : Int32)] [(.int z9), (.int (1 : Int32))])
  refine own_st (fun _ kk_ => XS.icmpYes X18.here hx rfl (pc0 := 106) (pc' := 127) rfl (hb hby d3_106) rfl (XT.ii_ne_t (own_ne hz (by decide))) (by decide) (by decide) (XS.aloadN X18.here hx rfl (hb hby d3_127) rfl rfl kk_)) ?_
  show own_Goes p e below s (Q3_1n Z a x ex f h0 n0) rRrm3_1n.cells rRrm3_1n.slots T18 (mkF m 128 #[rv a, .val (.long x), .second, iv (1 : Int32)] [(.ref a)])
  obtain ⟨T20, X20, e20, st20⟩ := getF X18 hx hZ hown (host := "") (Or.inl (hw _ (List.mem_of_getElem? (i := 31) rfl))) Via.refl e18 f14_5 (g := (mkF m 128 #[rv a, .val (.long x), .second, iv (1 : Int32)] [(.ref a)])) rfl rfl (hb hby d3_128)
  refine own_st st20 ?_
  show own_Goes p e below s (Q3_1n Z a x ex f h0 n0) rRrm3_1n.cells rRrm3_1n.slots T20 (mkF m 131 #[rv a, .val (.long x), .second, iv (1 : Int32)] [(.ref b9)])
  refine own_st (fun _ kk_ => XS.aloadN X20.here hx rfl (hb hby d3_131) rfl rfl kk_) ?_
  show own_Goes p e below s (Q3_1n Z a x ex f h0 n0) rRrm3_1n.cells rRrm3_1n.slots T20 (mkF m 132 #[rv a, .val (.long x), .second, iv (1 : Int32)] [(.ref a), (.ref b9)])
  obtain ⟨T21, X21, e21, st21⟩ := getF X20 hx hZ hown (host := "") (Or.inl (hw _ (List.mem_of_getElem? (i := 27) rfl))) Via.refl e20 f14_1 (g := (mkF m 132 #[rv a, .val (.long x), .second, iv (1 : Int32)] [(.ref a), (.ref b9)])) rfl rfl (hb hby d3_132)
  refine own_st st21 ?_
  show own_Goes p e below s (Q3_1n Z a x ex f h0 n0) rRrm3_1n.cells rRrm3_1n.slots T21 (mkF m 135 #[rv a, .val (.long x), .second, iv (1 : Int32)] [(.int (1 : Int32)), (.ref b9)])
  refine own_st (fun _ kk_ => XS.lloadN X21.here hx rfl (hb hby d3_135) rfl kk_) ?_
  show own_Goes p e below s (Q3_1n Z a x ex f h0 n0) rRrm3_1n.cells rRrm3_1n.slots T21 (mkF m 136 #[rv a, .val (.long x), .second, iv (1 : Int32)] [(.long x), (.int (1 : Int32)), (.ref b9)])
  obtain ⟨cl22, Ar22, q22, Sz22, Nn22, Hh22, Gg22⟩ := id V14
  obtain ⟨T22, h22, X22, e22, W22, st22⟩ := stJ X21 hx hZ e21 Ar22 (j := (1 : Int32)) (inb_of Sz22 ⟨by decide, own_lt hz (by decide)⟩) (g := (mkF m 136 #[rv a, .val (.long x), .second, iv (1 : Int32)] [(.long x), (.int (1 : Int32)), (.ref b9)])) rfl rfl (hb hby d3_136)
  have V22 : Arv Z h22 b9 k9 .long z9 [(.long (f + ((0 : Int32).toInt64))), (.long x), (.long (0 : Int64)), (.long (0 : Int64))] (.long (0 : Int64)) := Arv.set Ar22 q22 Sz22 Nn22 Hh22 Gg22 rfl W22 1 rfl (Nat.le_of_ble_eq_true rfl)
  have f22_0 := f14_0.wr W22
  have f22_1 := f14_1.other W22 (Or.inl ne9_a)
  have f22_2 := f14_2.other W22 (Or.inl ne9_a)
  have f22_3 := f14_3.other W22 (Or.inl ne9_a)
  have f22_4 := f14_5.other W22 (Or.inl ne9_a)
  have Zs22 : n0 ≤ h22.size := Nat.le_trans Zs14 (Nat.le_of_eq W22.size.symm)
  have K22 := K14.wr W22 (Or.inr sz9)
  have N22 := Fr.snoc X22 N14 gg9
  refine own_st st22 ?_
  show own_Goes p e below s (Q3_1n Z a x ex f h0 n0) rRrm3_1n.cells rRrm3_1n.slots T22 (mkF m 137 #[rv a, .val (.long x), .second, iv (1 : Int32)] [])
  refine own_st (fun _ kk_ => XS.aloadN X22.here hx rfl (hb hby d3_137) rfl rfl (XS.dup X22.here hx rfl (hb hby d3_138) rfl rfl kk_)) ?_
  show own_Goes p e below s (Q3_1n Z a x ex f h0 n0) rRrm3_1n.cells rRrm3_1n.slots T22 (mkF m 139 #[rv a, .val (.long x), .second, iv (1 : Int32)] [(.ref a), (.ref a)])
  obtain ⟨T23, X23, e23, st23⟩ := getF X22 hx hZ hown (host := "") (Or.inl (hw _ (List.mem_of_getElem? (i := 27) rfl))) Via.refl e22 f22_1 (g := (mkF m 139 #[rv a, .val (.long x), .second, iv (1 : Int32)] [(.ref a), (.ref a)])) rfl rfl (hb hby d3_139)
  refine own_st st23 ?_
  show own_Goes p e below s (Q3_1n Z a x ex f h0 n0) rRrm3_1n.cells rRrm3_1n.slots T23 (mkF m 142 #[rv a, .val (.long x), .second, iv (1 : Int32)] [(.int (1 : Int32)), (.ref a)])
  refine own_st (fun _ kk_ => XS.iconst X23.here hx rfl (hb hby d3_142) (XS.iadd X23.here hx rfl (hb hby d3_143) rfl kk_)) ?_
  show own_Goes p e below s (Q3_1n Z a x ex f h0 n0) rRrm3_1n.cells rRrm3_1n.slots T23 (mkF m 144 #[rv a, .val (.long x), .second, iv (1 : Int32)] [(.int (2 : Int32)), (.ref a)])
  obtain ⟨T24, h24, X24, e24, W24, st24⟩ := putF X23 hx hZ hown (host := "") (Or.inl (hw _ (List.mem_of_getElem? (i := 27) rfl))) Via.refl e23 f22_1 f22_0 (Or.inl (hw _ (List.mem_of_getElem? (i := 28) rfl))) (hw _ (List.mem_of_getElem? (i := 2) rfl)) (ty := .int) (by decide) rfl rfl (g := (mkF m 144 #[rv a, .val (.long x), .second, iv (1 : Int32)] [(.int (2 : Int32)), (.ref a)])) rfl rfl (hb hby d3_144)
  have fw24 : Fld Z h24 a "com/example/graphbind/graphbind/RunningLongs" "count" "I" (.int (2 : Int32)) := f22_1.same W24
  have f24_0 := f22_0.wr W24
  have f24_2 := f22_2.other W24 (Or.inr (slot_ne (Or.inl (hw _ (List.mem_of_getElem? (i := 30) rfl))) (Or.inl (hw _ (List.mem_of_getElem? (i := 28) rfl))) (by decide) (t := .long) (t' := .int) (by decide) (by decide)))
  have f24_3 := f22_3.other W24 (Or.inr (slot_ne (Or.inr (hw _ (List.mem_of_getElem? (i := 21) rfl))) (Or.inl (hw _ (List.mem_of_getElem? (i := 28) rfl))) (by decide) (t := .int) (t' := .int) (by decide) (by decide)))
  have f24_4 := f22_4.other W24 (Or.inr (slot_ne (Or.inl (hw _ (List.mem_of_getElem? (i := 32) rfl))) (Or.inl (hw _ (List.mem_of_getElem? (i := 28) rfl))) (by decide) (t := (.array .long)) (t' := .int) (by decide) (by decide)))
  have f24_5 := V22.other W24 (Ne.symm ne9_a)
  have Zs24 : n0 ≤ h24.size := Nat.le_trans Zs22 (Nat.le_of_eq W24.size.symm)
  have K24 := K22.wr W24 (Or.inl (List.mem_of_getElem? (i := 0) rfl))
  have N24 := Fr.snoc X24 N22 p_1
  refine own_st st24 ?_
  show own_Goes p e below s (Q3_1n Z a x ex f h0 n0) rRrm3_1n.cells rRrm3_1n.slots T24 (mkF m 147 #[rv a, .val (.long x), .second, iv (1 : Int32)] [])
  refine own_ret0 X24 hx hlk Bd.returns (hb hby d3_147) (by decide) (by decide) ?_
  show Q3_1n Z a x ex f h0 n0 none T24.heap _
  rw [e24]
  exact ⟨b9, z9, k9, rfl, N24, K24, fw24, f24_2, f24_4, f24_3, sz9, hz, f24_5⟩
abbrev rRrm3_2e : Room := { frames := 0, cells := 0, slots := 0, locals := 0 }
theorem pn_rm3_2e : plainFor (⟨"com/example/graphbind/graphbind/RunningLongs", "add", "(J)V"⟩ : MethodName) = true := by first | exact plainFor_of_name (by first | (simp [plainName, overriddenIn]; done) | decide +kernel) | decide +kernel
theorem ef_rm3_2e (m : MethodId) (a : Addr) (x : Int64) : entryFrame m #[(.ref a), (.long x)] 4 = (mkF m 0 #[rv a, .val (.long x), .second, .unset] []) := by first | (simp [entryFrame, mkF, argsToLocals, Value.category]; done) | rfl
def Q3_2e (Z : State) (a : Addr) (x : Int64) (ex : Int32) (f : Int64) (h0 : Heap) (n0 : Nat) (v_ : Option Value) (h_ : Heap) (L_ : List Loc) : Prop := (v_ = none) ∧ (Fr n0 L_) ∧ (Keep h0 h_ [a]) ∧ (Fld Z h_ a "com/example/graphbind/graphbind/RunningLongs" "count" "I" (.int (3 : Int32))) ∧ (Fld Z h_ a "com/example/graphbind/graphbind/RunningLongs" "first" "J" (.long f)) ∧ (Fld Z h_ a "com/example/graphbind/graphbind/RunningLongs" "values" "[J" .null) ∧ (Fld Z h_ a "com/example/graphbind/graphbind/RunningLongs" "expected" "I" (.int ex))
set_option maxRecDepth 65536 in
set_option maxHeartbeats 40000000 in
theorem rm3_2e (l : Launch) (Z : State) (a0 : Array Value) (hw : ∀ d ∈ tables_1, d.before a0 Z = true) (ws : List Jvm.Cond) (a : Addr) (x : Int64) (ex : Int32) (f : Int64) (h0 : Heap) (n0 : Nat) (Z0 : n0 ≤ h0.size) (p_0 : Exa Z h0 a "com/example/graphbind/graphbind/RunningLongs") (p_1 : n0 ≤ a) (p_2 : Fld Z h0 a "com/example/graphbind/graphbind/RunningLongs" "count" "I" (.int (2 : Int32))) (p_3 : Fld Z h0 a "com/example/graphbind/graphbind/RunningLongs" "first" "J" (.long f)) (p_4 : Fld Z h0 a "com/example/graphbind/graphbind/RunningLongs" "values" "[J" .null) (p_5 : Fld Z h0 a "com/example/graphbind/graphbind/RunningLongs" "expected" "I" (.int ex)) (hq : x = (f + ((2 : Int32).toInt64))) :
    MetFree l (⟨"com/example/graphbind/graphbind/RunningLongs", "add", "(J)V"⟩ : MethodName) (head1 (Jvm.Cond.code (⟨"com/example/graphbind/graphbind/RunningLongs", "add", "(J)V"⟩ : MethodName) prog_67_method_2_code 4 none :: ws) rRrm3_2e) (fun a_ U_ => a_ = #[(.ref a), (.long x)] ∧ Z.Warmed39 U_.vm ∧ U_.heap = h0) (fun _ _ _ _ _ => True) (fun _ U_ o_ U1_ => ∃ v_ L_, o_ = .returned v_ ∧ Q3_2e Z a x ex f h0 n0 v_ U1_.heap L_ ∧ FrameEnd U_ o_ U1_ L_ rRrm3_2e.cells rRrm3_2e.slots) := by
  refine MetFree.of_bodySF pn_rm3_2e hisR ?_
  intro p e s m args below meth c s₁ Bd hml0 hP hK
  obtain ⟨rfl, hZ, hh⟩ := hP
  have hx := Bd.exec
  have hby := Bd.bytes
  have hlk : meth.locks = false := Bd.notSynchronized
  have hml : c.maxLocals = 4 := hml0
  have hown : s.vm.findClass "com/example/graphbind/graphbind/RunningLongs" = some m.cls := findClass_of_methodNamed Bd.named
  have hnm := (name_of_methodNamed Bd.named Bd.method).1
  have X0 : Stand p l e rRrm3_2e s m #[(.ref a), (.long x)] below meth c s₁ [] 0 0 := Stand.of_body Bd
  have e0 : s₁.heap = h0 := by rw [← hh, Bd.state]; rfl
  have N0 := Fr.nil n0
  show own_Goes p e below s (Q3_2e Z a x ex f h0 n0) rRrm3_2e.cells rRrm3_2e.slots s₁ (entryFrame m #[(.ref a), (.long x)] 4)
  rw [ef_rm3_2e m a x]
  show own_Goes p e below s (Q3_2e Z a x ex f h0 n0) rRrm3_2e.cells rRrm3_2e.slots s₁ (mkF m 0 #[rv a, .val (.long x), .second, .unset] [])
  refine own_st (fun _ kk_ => XS.aloadN X0.here hx rfl (hb hby d3_0) rfl rfl kk_) ?_
  show own_Goes p e below s (Q3_2e Z a x ex f h0 n0) rRrm3_2e.cells rRrm3_2e.slots s₁ (mkF m 1 #[rv a, .val (.long x), .second, .unset] [(.ref a)])
  obtain ⟨T1, X1, e1, st1⟩ := getF X0 hx hZ hown (host := "") (Or.inl (hw _ (List.mem_of_getElem? (i := 27) rfl))) Via.refl e0 p_2 (g := (mkF m 1 #[rv a, .val (.long x), .second, .unset] [(.ref a)])) rfl rfl (hb hby d3_1)
  refine own_st st1 ?_
  show own_Goes p e below s (Q3_2e Z a x ex f h0 n0) rRrm3_2e.cells rRrm3_2e.slots T1 (mkF m 4 #[rv a, .val (.long x), .second, .unset] [(.int (2 : Int32))])
  refine own_st (fun _ kk_ => XS.ifYes X1.here hx rfl (pc0 := 4) (pc' := 15) rfl (hb hby d3_4) rfl (XT.i0_ne_t (by decide)) (by decide) (by decide) (XS.aloadN X1.here hx rfl (hb hby d3_15) rfl rfl kk_)) ?_
  show own_Goes p e below s (Q3_2e Z a x ex f h0 n0) rRrm3_2e.cells rRrm3_2e.slots T1 (mkF m 16 #[rv a, .val (.long x), .second, .unset] [(.ref a)])
  obtain ⟨T2, X2, e2, st2⟩ := getF X1 hx hZ hown (host := "") (Or.inl (hw _ (List.mem_of_getElem? (i := 31) rfl))) Via.refl e1 p_4 (g := (mkF m 16 #[rv a, .val (.long x), .second, .unset] [(.ref a)])) rfl rfl (hb hby d3_16)
  refine own_st st2 ?_
  show own_Goes p e below s (Q3_2e Z a x ex f h0 n0) rRrm3_2e.cells rRrm3_2e.slots T2 (mkF m 19 #[rv a, .val (.long x), .second, .unset] [.null])
  refine own_st (fun _ kk_ => XS.ifnonnullNo X2.here hx rfl (hb hby d3_19) rfl (XS.lloadN X2.here hx rfl (hb hby d3_22) rfl (XS.aloadN X2.here hx rfl (hb hby d3_23) rfl rfl kk_))) ?_
  show own_Goes p e below s (Q3_2e Z a x ex f h0 n0) rRrm3_2e.cells rRrm3_2e.slots T2 (mkF m 24 #[rv a, .val (.long x), .second, .unset] [(.ref a), (.long x)])
  obtain ⟨T3, X3, e3, st3⟩ := getF X2 hx hZ hown (host := "") (Or.inl (hw _ (List.mem_of_getElem? (i := 29) rfl))) Via.refl e2 p_3 (g := (mkF m 24 #[rv a, .val (.long x), .second, .unset] [(.ref a), (.long x)])) rfl rfl (hb hby d3_24)
  refine own_st st3 ?_
  show own_Goes p e below s (Q3_2e Z a x ex f h0 n0) rRrm3_2e.cells rRrm3_2e.slots T3 (mkF m 27 #[rv a, .val (.long x), .second, .unset] [(.long f), (.long x)])
  refine own_st (fun _ kk_ => XS.aloadN X3.here hx rfl (hb hby d3_27) rfl rfl kk_) ?_
  show own_Goes p e below s (Q3_2e Z a x ex f h0 n0) rRrm3_2e.cells rRrm3_2e.slots T3 (mkF m 28 #[rv a, .val (.long x), .second, .unset] [(.ref a), (.long f), (.long x)])
  obtain ⟨T4, X4, e4, st4⟩ := getF X3 hx hZ hown (host := "") (Or.inl (hw _ (List.mem_of_getElem? (i := 27) rfl))) Via.refl e3 p_2 (g := (mkF m 28 #[rv a, .val (.long x), .second, .unset] [(.ref a), (.long f), (.long x)])) rfl rfl (hb hby d3_28)
  refine own_st st4 ?_
  show own_Goes p e below s (Q3_2e Z a x ex f h0 n0) rRrm3_2e.cells rRrm3_2e.slots T4 (mkF m 31 #[rv a, .val (.long x), .second, .unset] [(.int (2 : Int32)), (.long f), (.long x)])
  refine own_st (fun _ kk_ => XS.i2l X4.here hx rfl (hb hby d3_31) rfl (XS.ladd X4.here hx rfl (hb hby d3_32) rfl (XT.lcmp X4.here hx rfl (hb hby d3_33) rfl (XS.ifYes X4.here hx rfl (pc0 := 34) (pc' := 90) rfl (hb hby d3_34) rfl (XT.ll_eq_t hq) (by decide) (by decide) (XS.aloadN X4.here hx rfl (hb hby d3_90) rfl rfl kk_))))) ?_
  show own_Goes p e below s (Q3_2e Z a x ex f h0 n0) rRrm3_2e.cells rRrm3_2e.slots T4 (mkF m 91 #[rv a, .val (.long x), .second, .unset] [(.ref a)])
  obtain ⟨T5, X5, e5, st5⟩ := getF X4 hx hZ hown (host := "") (Or.inl (hw _ (List.mem_of_getElem? (i := 31) rfl))) Via.refl e4 p_4 (g := (mkF m 91 #[rv a, .val (.long x), .second, .unset] [(.ref a)])) rfl rfl (hb hby d3_91)
  refine own_st st5 ?_
  show own_Goes p e below s (Q3_2e Z a x ex f h0 n0) rRrm3_2e.cells rRrm3_2e.slots T5 (mkF m 94 #[rv a, .val (.long x), .second, .unset] [.null])
  refine own_st (fun _ kk_ => XS.ifnullYes X5.here hx rfl (pc0 := 94) (pc' := 137) rfl (hb hby d3_94) rfl (by decide) (by decide) (XS.aloadN X5.here hx rfl (hb hby d3_137) rfl rfl (XS.dup X5.here hx rfl (hb hby d3_138) rfl rfl kk_))) ?_
  show own_Goes p e below s (Q3_2e Z a x ex f h0 n0) rRrm3_2e.cells rRrm3_2e.slots T5 (mkF m 139 #[rv a, .val (.long x), .second, .unset] [(.ref a), (.ref a)])
  obtain ⟨T6, X6, e6, st6⟩ := getF X5 hx hZ hown (host := "") (Or.inl (hw _ (List.mem_of_getElem? (i := 27) rfl))) Via.refl e5 p_2 (g := (mkF m 139 #[rv a, .val (.long x), .second, .unset] [(.ref a), (.ref a)])) rfl rfl (hb hby d3_139)
  refine own_st st6 ?_
  show own_Goes p e below s (Q3_2e Z a x ex f h0 n0) rRrm3_2e.cells rRrm3_2e.slots T6 (mkF m 142 #[rv a, .val (.long x), .second, .unset] [(.int (2 : Int32)), (.ref a)])
  refine own_st (fun _ kk_ => XS.iconst X6.here hx rfl (hb hby d3_142) (XS.iadd X6.here hx rfl (hb hby d3_143) rfl kk_)) ?_
  show own_Goes p e below s (Q3_2e Z a x ex f h0 n0) rRrm3_2e.cells rRrm3_2e.slots T6 (mkF m 144 #[rv a, .val (.long x), .second, .unset] [(.int (3 : Int32)), (.ref a)])
  obtain ⟨T7, h7, X7, e7, W7, st7⟩ := putF X6 hx hZ hown (host := "") (Or.inl (hw _ (List.mem_of_getElem? (i := 27) rfl))) Via.refl e6 p_2 p_0 (Or.inl (hw _ (List.mem_of_getElem? (i := 28) rfl))) (hw _ (List.mem_of_getElem? (i := 2) rfl)) (ty := .int) (by decide) rfl rfl (g := (mkF m 144 #[rv a, .val (.long x), .second, .unset] [(.int (3 : Int32)), (.ref a)])) rfl rfl (hb hby d3_144)
  have fw7 : Fld Z h7 a "com/example/graphbind/graphbind/RunningLongs" "count" "I" (.int (3 : Int32)) := p_2.same W7
  have f7_0 := p_0.wr W7
  have f7_2 := p_3.other W7 (Or.inr (slot_ne (Or.inl (hw _ (List.mem_of_getElem? (i := 30) rfl))) (Or.inl (hw _ (List.mem_of_getElem? (i := 28) rfl))) (by decide) (t := .long) (t' := .int) (by decide) (by decide)))
  have f7_3 := p_4.other W7 (Or.inr (slot_ne (Or.inl (hw _ (List.mem_of_getElem? (i := 32) rfl))) (Or.inl (hw _ (List.mem_of_getElem? (i := 28) rfl))) (by decide) (t := (.array .long)) (t' := .int) (by decide) (by decide)))
  have f7_4 := p_5.other W7 (Or.inr (slot_ne (Or.inr (hw _ (List.mem_of_getElem? (i := 21) rfl))) (Or.inl (hw _ (List.mem_of_getElem? (i := 28) rfl))) (by decide) (t := .int) (t' := .int) (by decide) (by decide)))
  have Zs7 : n0 ≤ h7.size := Nat.le_trans Z0 (Nat.le_of_eq W7.size.symm)
  have K7 := (Keep.refl h0 [a]).wr W7 (Or.inl (List.mem_of_getElem? (i := 0) rfl))
  have N7 := Fr.snoc X7 N0 p_1
  refine own_st st7 ?_
  show own_Goes p e below s (Q3_2e Z a x ex f h0 n0) rRrm3_2e.cells rRrm3_2e.slots T7 (mkF m 147 #[rv a, .val (.long x), .second, .unset] [])
  refine own_ret0 X7 hx hlk Bd.returns (hb hby d3_147) (by decide) (by decide) ?_
  show Q3_2e Z a x ex f h0 n0 none T7.heap _
  rw [e7]
  exact ⟨rfl, N7, K7, fw7, f7_2, f7_3, f7_4⟩
abbrev rRrm3_2n : Room := { frames := 1, cells := 1, slots := 31, locals := 14 }
theorem pn_rm3_2n : plainFor (⟨"com/example/graphbind/graphbind/RunningLongs", "add", "(J)V"⟩ : MethodName) = true := by first | exact plainFor_of_name (by first | (simp [plainName, overriddenIn]; done) | decide +kernel) | decide +kernel
theorem ef_rm3_2n (m : MethodId) (a : Addr) (x : Int64) : entryFrame m #[(.ref a), (.long x)] 4 = (mkF m 0 #[rv a, .val (.long x), .second, .unset] []) := by first | (simp [entryFrame, mkF, argsToLocals, Value.category]; done) | rfl
def Q3_2n (Z : State) (a : Addr) (x : Int64) (ex : Int32) (f : Int64) (h0 : Heap) (n0 : Nat) (v_ : Option Value) (h_ : Heap) (L_ : List Loc) : Prop := ∃ ar : Addr, ∃ z9 : Int32, ∃ kc : ClassId, (v_ = none) ∧ (Fr n0 L_) ∧ (Keep h0 h_ [a]) ∧ (Fld Z h_ a "com/example/graphbind/graphbind/RunningLongs" "count" "I" (.int (3 : Int32))) ∧ (Fld Z h_ a "com/example/graphbind/graphbind/RunningLongs" "first" "J" (.long f)) ∧ (Fld Z h_ a "com/example/graphbind/graphbind/RunningLongs" "values" "[J" (.ref ar)) ∧ (Fld Z h_ a "com/example/graphbind/graphbind/RunningLongs" "expected" "I" (.int ex)) ∧ (h0.size ≤ ar) ∧ (16 ≤ z9.toInt ∧ z9.toInt ≤ 31) ∧ (Arv Z h_ ar kc .long z9 [(.long (f + ((0 : Int32).toInt64))), (.long (f + ((1 : Int32).toInt64))), (.long x), (.long (0 : Int64))] (.long (0 : Int64)))
set_option maxRecDepth 65536 in
set_option maxHeartbeats 40000000 in
theorem rm3_2n (l : Launch) (Z : State) (a0 : Array Value) (hw : ∀ d ∈ tables_1, d.before a0 Z = true) (ws : List Jvm.Cond) (a : Addr) (x : Int64) (ex : Int32) (f : Int64) (h0 : Heap) (n0 : Nat) (Z0 : n0 ≤ h0.size) (p_0 : Exa Z h0 a "com/example/graphbind/graphbind/RunningLongs") (p_1 : n0 ≤ a) (p_2 : Fld Z h0 a "com/example/graphbind/graphbind/RunningLongs" "count" "I" (.int (2 : Int32))) (p_3 : Fld Z h0 a "com/example/graphbind/graphbind/RunningLongs" "first" "J" (.long f)) (p_4 : Fld Z h0 a "com/example/graphbind/graphbind/RunningLongs" "values" "[J" .null) (p_5 : Fld Z h0 a "com/example/graphbind/graphbind/RunningLongs" "expected" "I" (.int ex)) (hq : ¬ x = (f + ((2 : Int32).toInt64))) (hex : 0 ≤ ex.toInt ∧ ex.toInt ≤ 31) :
    MetFree l (⟨"com/example/graphbind/graphbind/RunningLongs", "add", "(J)V"⟩ : MethodName) (head1 (Jvm.Cond.code (⟨"com/example/graphbind/graphbind/RunningLongs", "add", "(J)V"⟩ : MethodName) prog_67_method_2_code 4 none :: ws) rRrm3_2n) (fun a_ U_ => a_ = #[(.ref a), (.long x)] ∧ Z.Warmed39 U_.vm ∧ U_.heap = h0) (fun _ _ _ _ _ => True) (fun _ U_ o_ U1_ => ∃ v_ L_, o_ = .returned v_ ∧ Q3_2n Z a x ex f h0 n0 v_ U1_.heap L_ ∧ FrameEnd U_ o_ U1_ L_ rRrm3_2n.cells rRrm3_2n.slots) := by
  refine MetFree.of_bodySF pn_rm3_2n hisR ?_
  intro p e s m args below meth c s₁ Bd hml0 hP hK
  obtain ⟨rfl, hZ, hh⟩ := hP
  have hx := Bd.exec
  have hby := Bd.bytes
  have hlk : meth.locks = false := Bd.notSynchronized
  have hml : c.maxLocals = 4 := hml0
  have hown : s.vm.findClass "com/example/graphbind/graphbind/RunningLongs" = some m.cls := findClass_of_methodNamed Bd.named
  have hnm := (name_of_methodNamed Bd.named Bd.method).1
  have X0 : Stand p l e rRrm3_2n s m #[(.ref a), (.long x)] below meth c s₁ [] 0 0 := Stand.of_body Bd
  have e0 : s₁.heap = h0 := by rw [← hh, Bd.state]; rfl
  have N0 := Fr.nil n0
  show own_Goes p e below s (Q3_2n Z a x ex f h0 n0) rRrm3_2n.cells rRrm3_2n.slots s₁ (entryFrame m #[(.ref a), (.long x)] 4)
  rw [ef_rm3_2n m a x]
  show own_Goes p e below s (Q3_2n Z a x ex f h0 n0) rRrm3_2n.cells rRrm3_2n.slots s₁ (mkF m 0 #[rv a, .val (.long x), .second, .unset] [])
  refine own_st (fun _ kk_ => XS.aloadN X0.here hx rfl (hb hby d3_0) rfl rfl kk_) ?_
  show own_Goes p e below s (Q3_2n Z a x ex f h0 n0) rRrm3_2n.cells rRrm3_2n.slots s₁ (mkF m 1 #[rv a, .val (.long x), .second, .unset] [(.ref a)])
  obtain ⟨T1, X1, e1, st1⟩ := getF X0 hx hZ hown (host := "") (Or.inl (hw _ (List.mem_of_getElem? (i := 27) rfl))) Via.refl e0 p_2 (g := (mkF m 1 #[rv a, .val (.long x), .second, .unset] [(.ref a)])) rfl rfl (hb hby d3_1)
  refine own_st st1 ?_
  show own_Goes p e below s (Q3_2n Z a x ex f h0 n0) rRrm3_2n.cells rRrm3_2n.slots T1 (mkF m 4 #[rv a, .val (.long x), .second, .unset] [(.int (2 : Int32))])
  refine own_st (fun _ kk_ => XS.ifYes X1.here hx rfl (pc0 := 4) (pc' := 15) rfl (hb hby d3_4) rfl (XT.i0_ne_t (by decide)) (by decide) (by decide) (XS.aloadN X1.here hx rfl (hb hby d3_15) rfl rfl kk_)) ?_
  show own_Goes p e below s (Q3_2n Z a x ex f h0 n0) rRrm3_2n.cells rRrm3_2n.slots T1 (mkF m 16 #[rv a, .val (.long x), .second, .unset] [(.ref a)])
  obtain ⟨T2, X2, e2, st2⟩ := getF X1 hx hZ hown (host := "") (Or.inl (hw _ (List.mem_of_getElem? (i := 31) rfl))) Via.refl e1 p_4 (g := (mkF m 16 #[rv a, .val (.long x), .second, .unset] [(.ref a)])) rfl rfl (hb hby d3_16)
  refine own_st st2 ?_
  show own_Goes p e below s (Q3_2n Z a x ex f h0 n0) rRrm3_2n.cells rRrm3_2n.slots T2 (mkF m 19 #[rv a, .val (.long x), .second, .unset] [.null])
  refine own_st (fun _ kk_ => XS.ifnonnullNo X2.here hx rfl (hb hby d3_19) rfl (XS.lloadN X2.here hx rfl (hb hby d3_22) rfl (XS.aloadN X2.here hx rfl (hb hby d3_23) rfl rfl kk_))) ?_
  show own_Goes p e below s (Q3_2n Z a x ex f h0 n0) rRrm3_2n.cells rRrm3_2n.slots T2 (mkF m 24 #[rv a, .val (.long x), .second, .unset] [(.ref a), (.long x)])
  obtain ⟨T3, X3, e3, st3⟩ := getF X2 hx hZ hown (host := "") (Or.inl (hw _ (List.mem_of_getElem? (i := 29) rfl))) Via.refl e2 p_3 (g := (mkF m 24 #[rv a, .val (.long x), .second, .unset] [(.ref a), (.long x)])) rfl rfl (hb hby d3_24)
  refine own_st st3 ?_
  show own_Goes p e below s (Q3_2n Z a x ex f h0 n0) rRrm3_2n.cells rRrm3_2n.slots T3 (mkF m 27 #[rv a, .val (.long x), .second, .unset] [(.long f), (.long x)])
  refine own_st (fun _ kk_ => XS.aloadN X3.here hx rfl (hb hby d3_27) rfl rfl kk_) ?_
  show own_Goes p e below s (Q3_2n Z a x ex f h0 n0) rRrm3_2n.cells rRrm3_2n.slots T3 (mkF m 28 #[rv a, .val (.long x), .second, .unset] [(.ref a), (.long f), (.long x)])
  obtain ⟨T4, X4, e4, st4⟩ := getF X3 hx hZ hown (host := "") (Or.inl (hw _ (List.mem_of_getElem? (i := 27) rfl))) Via.refl e3 p_2 (g := (mkF m 28 #[rv a, .val (.long x), .second, .unset] [(.ref a), (.long f), (.long x)])) rfl rfl (hb hby d3_28)
  refine own_st st4 ?_
  show own_Goes p e below s (Q3_2n Z a x ex f h0 n0) rRrm3_2n.cells rRrm3_2n.slots T4 (mkF m 31 #[rv a, .val (.long x), .second, .unset] [(.int (2 : Int32)), (.long f), (.long x)])
  refine own_st (fun _ kk_ => XS.i2l X4.here hx rfl (hb hby d3_31) rfl (XS.ladd X4.here hx rfl (hb hby d3_32) rfl (XT.lcmp X4.here hx rfl (hb hby d3_33) rfl (XS.ifNo X4.here hx rfl (hb hby d3_34) rfl (XT.ll_eq_f hq) (XS.aloadN X4.here hx rfl (hb hby d3_37) rfl rfl (XS.aloadN X4.here hx rfl (hb hby d3_38) rfl rfl kk_)))))) ?_
  show own_Goes p e below s (Q3_2n Z a x ex f h0 n0) rRrm3_2n.cells rRrm3_2n.slots T4 (mkF m 39 #[rv a, .val (.long x), .second, .unset] [(.ref a), (.ref a)])
  obtain ⟨T5, X5, e5, st5⟩ := getF X4 hx hZ hown (host := "") (Or.inl (hw _ (List.mem_of_getElem? (i := 20) rfl))) Via.refl e4 p_5 (g := (mkF m 39 #[rv a, .val (.long x), .second, .unset] [(.ref a), (.ref a)])) rfl rfl (hb hby d3_39)
  refine own_st st5 ?_
  show own_Goes p e below s (Q3_2n Z a x ex f h0 n0) rRrm3_2n.cells rRrm3_2n.slots T5 (mkF m 42 #[rv a, .val (.long x), .second, .unset] [(.int ex), (.ref a)])
  refine own_st (fun _ kk_ => XS.aloadN X5.here hx rfl (hb hby d3_42) rfl rfl kk_) ?_
  show own_Goes p e below s (Q3_2n Z a x ex f h0 n0) rRrm3_2n.cells rRrm3_2n.slots T5 (mkF m 43 #[rv a, .val (.long x), .second, .unset] [(.ref a), (.int ex), (.ref a)])
  obtain ⟨T6, X6, e6, st6⟩ := getF X5 hx hZ hown (host := "") (Or.inl (hw _ (List.mem_of_getElem? (i := 27) rfl))) Via.refl e5 p_2 (g := (mkF m 43 #[rv a, .val (.long x), .second, .unset] [(.ref a), (.int ex), (.ref a)])) rfl rfl (hb hby d3_43)
  refine own_st st6 ?_
  show own_Goes p e below s (Q3_2n Z a x ex f h0 n0) rRrm3_2n.cells rRrm3_2n.slots T6 (mkF m 46 #[rv a, .val (.long x), .second, .unset] [(.int (2 : Int32)), (.int ex), (.ref a)])
  refine own_st (fun _ kk_ => XS.iconst X6.here hx rfl (hb hby d3_46) (XS.iadd X6.here hx rfl (hb hby d3_47) rfl kk_)) ?_
  show own_Goes p e below s (Q3_2n Z a x ex f h0 n0) rRrm3_2n.cells rRrm3_2n.slots T6 (mkF m 48 #[rv a, .val (.long x), .second, .unset] [(.int (3 : Int32)), (.int ex), (.ref a)])
  obtain ⟨_, _, ⟨T7, L7, k7, n7⟩, -, X7, ⟨Lc7, hQ7, l7, y7, z7⟩, st7⟩ := Jvm.LawKit.callS X6 hx (y := (⟨"java/lang/Math", "max", "(II)I"⟩ : MethodName)) hown (mvT hZ (hw _ (List.mem_of_getElem? (i := 39) rfl))) (mvT hZ (hw _ (List.mem_of_getElem? (i := 40) rfl))) (mvT hZ (hw _ (List.mem_of_getElem? (i := 41) rfl))) (mvT hZ (hw _ (List.mem_of_getElem? (i := 42) rfl))) (by decide) (backOf (W := 1) (rm5 l Z a0 hw [] (ex) ((3 : Int32)) h0 n0 Z0) hZ (hw _ (List.mem_of_getElem? (i := 42) rfl)) (hw _ (List.mem_of_getElem? (i := 41) rfl)) (by decide) (by decide)) (g := (mkF m 48 #[rv a, .val (.long x), .second, .unset] [(.int (3 : Int32)), (.int ex), (.ref a)])) rfl (by rw [hml]; rfl) (argsL := [(.int ex), (.int (3 : Int32))]) (rest := [(.ref a)]) (lenOf pd_0 rfl) rfl (by show 2 * 0 + _ ≤ _; exact Nat.le_of_eq rfl) (hb hby d3_48) (fun _ _ => ⟨rfl, e6, (by decide : 0 + 0 ≤ _), (by decide : 0 + 0 ≤ _)⟩)
  dsimp only [Pt.U, Pt.locs, Pt.cells, Pt.slots] at X7 l7 y7 z7 st7 hQ7
  subst l7 y7 z7
  obtain ⟨rfl, Nq7, eq7⟩ := hQ7
  have N7 := Fr.app N0 Nq7
  refine own_st st7 ?_
  show own_Goes p e below s (Q3_2n Z a x ex f h0 n0) rRrm3_2n.cells rRrm3_2n.slots T7 (mkF m 51 #[rv a, .val (.long x), .second, .unset] [(.int (own_max ex (3 : Int32))), (.ref a)])
  refine own_st (fun _ kk_ => XS.bipush X7.here hx rfl (hb hby d3_51) kk_) ?_
  show own_Goes p e below s (Q3_2n Z a x ex f h0 n0) rRrm3_2n.cells rRrm3_2n.slots T7 (mkF m 53 #[rv a, .val (.long x), .second, .unset] [(.int (16 : Int32)), (.int (own_max ex (3 : Int32))), (.ref a)])
  obtain ⟨_, _, ⟨T8, L8, k8, n8⟩, -, X8, ⟨Lc8, hQ8, l8, y8, z8⟩, st8⟩ := Jvm.LawKit.callS X7 hx (y := (⟨"java/lang/Math", "max", "(II)I"⟩ : MethodName)) hown (mvT hZ (hw _ (List.mem_of_getElem? (i := 39) rfl))) (mvT hZ (hw _ (List.mem_of_getElem? (i := 40) rfl))) (mvT hZ (hw _ (List.mem_of_getElem? (i := 41) rfl))) (mvT hZ (hw _ (List.mem_of_getElem? (i := 42) rfl))) (by decide) (backOf (W := 1) (rm5 l Z a0 hw [] ((own_max ex (3 : Int32))) ((16 : Int32)) h0 n0 Z0) hZ (hw _ (List.mem_of_getElem? (i := 42) rfl)) (hw _ (List.mem_of_getElem? (i := 41) rfl)) (by decide) (by decide)) (g := (mkF m 53 #[rv a, .val (.long x), .second, .unset] [(.int (16 : Int32)), (.int (own_max ex (3 : Int32))), (.ref a)])) rfl (by rw [hml]; rfl) (argsL := [(.int (own_max ex (3 : Int32))), (.int (16 : Int32))]) (rest := [(.ref a)]) (lenOf pd_0 rfl) rfl (by show 2 * 0 + _ ≤ _; exact Nat.le_of_eq rfl) (hb hby d3_53) (fun _ _ => ⟨rfl, eq7, (by decide : 0 + 0 ≤ _), (by decide : 0 + 0 ≤ _)⟩)
  dsimp only [Pt.U, Pt.locs, Pt.cells, Pt.slots] at X8 l8 y8 z8 st8 hQ8
  subst l8 y8 z8
  obtain ⟨rfl, Nq8, eq8⟩ := hQ8
  have N8 := Fr.app N7 Nq8
  refine own_st st8 ?_
  show own_Goes p e below s (Q3_2n Z a x ex f h0 n0) rRrm3_2n.cells rRrm3_2n.slots T8 (mkF m 56 #[rv a, .val (.long x), .second, .unset] [(.int (own_max (own_max ex (3 : Int32)) (16 : Int32))), (.ref a)])
  obtain ⟨z9, h_z9⟩ : ∃ z, z = (own_max (own_max ex (3 : Int32)) (16 : Int32)) := ⟨_, rfl⟩
  rw [← h_z9]
  show own_Goes p e below s (Q3_2n Z a x ex f h0 n0) rRrm3_2n.cells rRrm3_2n.slots T8 (mkF m 56 #[rv a, .val (.long x), .second, .unset] [(.int z9), (.ref a)])
  have hz : 16 ≤ z9.toInt ∧ z9.toInt ≤ 31 := by rw [h_z9]; exact own_len hex (by decide)
  obtain ⟨T9, h9, k9, X9, e9, E9, A9, st9⟩ := newP X8 hx hZ (hw _ (List.mem_of_getElem? (i := 43) rfl)) eq8 (g := (mkF m 56 #[rv a, .val (.long x), .second, .unset] [(.int z9), (.ref a)])) rfl (hb hby d3_56) rfl (own_nn hz) (cap := 31) (own_cap hz) (by decide) (by decide) (by decide)
  obtain ⟨b9, gx9⟩ : ∃ z, z = h0.size := ⟨_, rfl⟩
  rw [← gx9] at A9 st9
  have ne9_a : a ≠ b9 := Nat.ne_of_lt (Nat.lt_of_lt_of_eq p_0.lt gx9.symm)
  have gg9 : n0 ≤ b9 := Nat.le_trans Z0 (Nat.le_of_eq gx9.symm)
  have sz9 : h0.size ≤ b9 := Nat.le_trans (Keep.refl h0 [a]).1 (Nat.le_of_eq gx9.symm)
  have f9_0 := p_0.ext E9
  have f9_1 := p_2.ext E9
  have f9_2 := p_3.ext E9
  have f9_3 := p_4.ext E9
  have f9_4 := p_5.ext E9
  have Zs9 : n0 ≤ h9.size := Nat.le_trans Z0 E9.1
  have K9 := (Keep.refl h0 [a]).ext E9
  have V9 : Arv Z h9 b9 k9 .long z9 [(.long (0 : Int64)), (.long (0 : Int64)), (.long (0 : Int64)), (.long (0 : Int64))] (.long (0 : Int64)) := (Arv.new A9 (own_nn hz)).pad (pad_rep [] (.long (0 : Int64)) 4)
  refine own_st st9 ?_
  show own_Goes p e below s (Q3_2n Z a x ex f h0 n0) rRrm3_2n.cells rRrm3_2n.slots T9 (mkF m 58 #[rv a, .val (.long x), .second, .unset] [(.ref b9), (.ref a)])
  obtain ⟨T10, h10, X10, e10, W10, st10⟩ := putF X9 hx hZ hown (host := "") (Or.inl (hw _ (List.mem_of_getElem? (i := 31) rfl))) Via.refl e9 f9_3 f9_0 (Or.inl (hw _ (List.mem_of_getElem? (i := 32) rfl))) (hw _ (List.mem_of_getElem? (i := 2) rfl)) (ty := (.array .long)) (by decide) rfl rfl (g := (mkF m 58 #[rv a, .val (.long x), .second, .unset] [(.ref b9), (.ref a)])) rfl rfl (hb hby d3_58)
  have fw10 : Fld Z h10 a "com/example/graphbind/graphbind/RunningLongs" "values" "[J" (.ref b9) := f9_3.same W10
  have f10_0 := f9_0.wr W10
  have f10_1 := f9_1.other W10 (Or.inr (slot_ne (Or.inl (hw _ (List.mem_of_getElem? (i := 28) rfl))) (Or.inl (hw _ (List.mem_of_getElem? (i := 32) rfl))) (by decide) (t := .int) (t' := (.array .long)) (by decide) (by decide)))
  have f10_2 := f9_2.other W10 (Or.inr (slot_ne (Or.inl (hw _ (List.mem_of_getElem? (i := 30) rfl))) (Or.inl (hw _ (List.mem_of_getElem? (i := 32) rfl))) (by decide) (t := .long) (t' := (.array .long)) (by decide) (by decide)))
  have f10_4 := f9_4.other W10 (Or.inr (slot_ne (Or.inr (hw _ (List.mem_of_getElem? (i := 21) rfl))) (Or.inl (hw _ (List.mem_of_getElem? (i := 32) rfl))) (by decide) (t := .int) (t' := (.array .long)) (by decide) (by decide)))
  have f10_5 := V9.other W10 (Ne.symm ne9_a)
  have Zs10 : n0 ≤ h10.size := Nat.le_trans Zs9 (Nat.le_of_eq W10.size.symm)
  have K10 := K9.wr W10 (Or.inl (List.mem_of_getElem? (i := 0) rfl))
  have N10 := Fr.snoc X10 N8 p_1
  refine own_st st10 ?_
  show own_Goes p e below s (Q3_2n Z a x ex f h0 n0) rRrm3_2n.cells rRrm3_2n.slots T10 (mkF m 61 #[rv a, .val (.long x), .second, .unset] [])
  refine own_st (fun _ kk_ => XS.iconst X10.here hx rfl (hb hby d3_61) (XS.istoreN X10.here hx rfl (hb hby d3_62) rfl (l' := #[rv a, .val (.long x), .second, iv (0 : Int32)]) rfl (XS.iloadN X10.here hx rfl (hb hby d3_63) rfl (XS.aloadN X10.here hx rfl (hb hby d3_64) rfl rfl kk_)))) ?_
  show own_Goes p e below s (Q3_2n Z a x ex f h0 n0) rRrm3_2n.cells rRrm3_2n.slots T10 (mkF m 65 #[rv a, .val (.long x), .second, iv (0 : Int32)] [(.ref a), (.int (0 : Int32))])
  obtain ⟨T11, X11, e11, st11⟩ := getF X10 hx hZ hown (host := "") (Or.inl (hw _ (List.mem_of_getElem? (i := 27) rfl))) Via.refl e10 f10_1 (g := (mkF m 65 #[rv a, .val (.long x), .second, iv (0 : Int32)] [(.ref a), (.int (0 : Int32))])) rfl rfl (hb hby d3_65)
  refine own_st st11 ?_
  show own_Goes p e below s (Q3_2n Z a x ex f h0 n0) rRrm3_2n.cells rRrm3_2n.slots T11 (mkF m 68 #[rv a, .val (.long x), .second, iv (0 : Int32)] [(.int (2 : Int32)), (.int (0 : Int32))])
  refine own_st (fun _ kk_ => XS.icmpNo X11.here hx rfl (hb hby d3_68) rfl (XT.ii_ge_f (by decide)) (XS.aloadN X11.here hx rfl (hb hby d3_71) rfl rfl kk_)) ?_
  show own_Goes p e below s (Q3_2n Z a x ex f h0 n0) rRrm3_2n.cells rRrm3_2n.slots T11 (mkF m 72 #[rv a, .val (.long x), .second, iv (0 : Int32)] [(.ref a)])
  obtain ⟨T12, X12, e12, st12⟩ := getF X11 hx hZ hown (host := "") (Or.inl (hw _ (List.mem_of_getElem? (i := 31) rfl))) Via.refl e11 fw10 (g := (mkF m 72 #[rv a, .val (.long x), .second, iv (0 : Int32)] [(.ref a)])) rfl rfl (hb hby d3_72)
  refine own_st st12 ?_
  show own_Goes p e below s (Q3_2n Z a x ex f h0 n0) rRrm3_2n.cells rRrm3_2n.slots T12 (mkF m 75 #[rv a, .val (.long x), .second, iv (0 : Int32)] [(.ref b9)])
  refine own_st (fun _ kk_ => XS.iloadN X12.here hx rfl (hb hby d3_75) rfl (XS.aloadN X12.here hx rfl (hb hby d3_76) rfl rfl kk_)) ?_
  show own_Goes p e below s (Q3_2n Z a x ex f h0 n0) rRrm3_2n.cells rRrm3_2n.slots T12 (mkF m 77 #[rv a, .val (.long x), .second, iv (0 : Int32)] [(.ref a), (.int (0 : Int32)), (.ref b9)])
  obtain ⟨T13, X13, e13, st13⟩ := getF X12 hx hZ hown (host := "") (Or.inl (hw _ (List.mem_of_getElem? (i := 29) rfl))) Via.refl e12 f10_2 (g := (mkF m 77 #[rv a, .val (.long x), .second, iv (0 : Int32)] [(.ref a), (.int (0 : Int32)), (.ref b9)])) rfl rfl (hb hby d3_77)
  refine own_st st13 ?_
  show own_Goes p e below s (Q3_2n Z a x ex f h0 n0) rRrm3_2n.cells rRrm3_2n.slots T13 (mkF m 80 #[rv a, .val (.long x), .second, iv (0 : Int32)] [(.long f), (.int (0 : Int32)), (.ref b9)])
  refine own_st (fun _ kk_ => XS.iloadN X13.here hx rfl (hb hby d3_80) rfl (XS.i2l X13.here hx rfl (hb hby d3_81) rfl (XS.ladd X13.here hx rfl (hb hby d3_82) rfl kk_))) ?_
  show own_Goes p e below s (Q3_2n Z a x ex f h0 n0) rRrm3_2n.cells rRrm3_2n.slots T13 (mkF m 83 #[rv a, .val (.long x), .second, iv (0 : Int32)] [(.long (f + ((0 : Int32).toInt64))), (.int (0 : Int32)), (.ref b9)])
  obtain ⟨cl14, Ar14, q14, Sz14, Nn14, Hh14, Gg14⟩ := id f10_5
  obtain ⟨T14, h14, X14, e14, W14, st14⟩ := stJ X13 hx hZ e13 Ar14 (j := (0 : Int32)) (inb_of Sz14 ⟨by decide, own_lt hz (by decide)⟩) (g := (mkF m 83 #[rv a, .val (.long x), .second, iv (0 : Int32)] [(.long (f + ((0 : Int32).toInt64))), (.int (0 : Int32)), (.ref b9)])) rfl rfl (hb hby d3_83)
  have V14 : Arv Z h14 b9 k9 .long z9 [(.long (f + ((0 : Int32).toInt64))), (.long (0 : Int64)), (.long (0 : Int64)), (.long (0 : Int64))] (.long (0 : Int64)) := Arv.set Ar14 q14 Sz14 Nn14 Hh14 Gg14 rfl W14 0 rfl (Nat.le_of_ble_eq_true rfl)
  have f14_0 := f10_0.wr W14
  have f14_1 := f10_1.other W14 (Or.inl ne9_a)
  have f14_2 := f10_2.other W14 (Or.inl ne9_a)
  have f14_3 := f10_4.other W14 (Or.inl ne9_a)
  have f14_5 := fw10.other W14 (Or.inl ne9_a)
  have Zs14 : n0 ≤ h14.size := Nat.le_trans Zs10 (Nat.le_of_eq W14.size.symm)
  have K14 := K10.wr W14 (Or.inr sz9)
  have N14 := Fr.snoc X14 N10 gg9
  refine own_st st14 ?_
  show own_Goes p e below s (Q3_2n Z a x ex f h0 n0) rRrm3_2n.cells rRrm3_2n.slots T14 (mkF m 84 #[rv a, .val (.long x), .second, iv (0 : Int32)] [])
  refine own_st (fun _ kk_ => XS.iinc X14.here hx rfl (hb hby d3_84) rfl (l' := #[rv a, .val (.long x), .second, iv (1 : Int32)]) rfl (XS.goto X14.here hx rfl (pc0 := 87) (pc' := 63) rfl (hb hby d3_87) (by decide) (by decide) (XS.iloadN X14.here hx rfl (hb hby d3_63) rfl (XS.aloadN X14.here hx rfl (hb hby d3_64) rfl rfl kk_)))) ?_
  show own_Goes p e below s (Q3_2n Z a x ex f h0 n0) rRrm3_2n.cells rRrm3_2n.slots T14 (mkF m 65 #[rv a, .val (.long x), .second, iv (1 : Int32)] [(.ref a), (.int (1 : Int32))])
  obtain ⟨T15, X15, e15, st15⟩ := getF X14 hx hZ hown (host := "") (Or.inl (hw _ (List.mem_of_getElem? (i := 27) rfl))) Via.refl e14 f14_1 (g := (mkF m 65 #[rv a, .val (.long x), .second, iv (1 : Int32)] [(.ref a), (.int (1 : Int32))])) rfl rfl (hb hby d3_65)
  refine own_st st15 ?_
  show own_Goes p e below s (Q3_2n Z a x ex f h0 n0) rRrm3_2n.cells rRrm3_2n.slots T15 (mkF m 68 #[rv a, .val (.long x), .second, iv (1 : Int32)] [(.int (2 : Int32)), (.int (1 : Int32))])
  refine own_st (fun _ kk_ => XS.icmpNo X15.here hx rfl (hb hby d3_68) rfl (XT.ii_ge_f (by decide)) (XS.aloadN X15.here hx rfl (hb hby d3_71) rfl rfl kk_)) ?_
  show own_Goes p e below s (Q3_2n Z a x ex f h0 n0) rRrm3_2n.cells rRrm3_2n.slots T15 (mkF m 72 #[rv a, .val (.long x), .second, iv (1 : Int32)] [(.ref a)])
  obtain ⟨T16, X16, e16, st16⟩ := getF X15 hx hZ hown (host := "") (Or.inl (hw _ (List.mem_of_getElem? (i := 31) rfl))) Via.refl e15 f14_5 (g := (mkF m 72 #[rv a, .val (.long x), .second, iv (1 : Int32)] [(.ref a)])) rfl rfl (hb hby d3_72)
  refine own_st st16 ?_
  show own_Goes p e below s (Q3_2n Z a x ex f h0 n0) rRrm3_2n.cells rRrm3_2n.slots T16 (mkF m 75 #[rv a, .val (.long x), .second, iv (1 : Int32)] [(.ref b9)])
  refine own_st (fun _ kk_ => XS.iloadN X16.here hx rfl (hb hby d3_75) rfl (XS.aloadN X16.here hx rfl (hb hby d3_76) rfl rfl kk_)) ?_
  show own_Goes p e below s (Q3_2n Z a x ex f h0 n0) rRrm3_2n.cells rRrm3_2n.slots T16 (mkF m 77 #[rv a, .val (.long x), .second, iv (1 : Int32)] [(.ref a), (.int (1 : Int32)), (.ref b9)])
  obtain ⟨T17, X17, e17, st17⟩ := getF X16 hx hZ hown (host := "") (Or.inl (hw _ (List.mem_of_getElem? (i := 29) rfl))) Via.refl e16 f14_2 (g := (mkF m 77 #[rv a, .val (.long x), .second, iv (1 : Int32)] [(.ref a), (.int (1 : Int32)), (.ref b9)])) rfl rfl (hb hby d3_77)
  refine own_st st17 ?_
  show own_Goes p e below s (Q3_2n Z a x ex f h0 n0) rRrm3_2n.cells rRrm3_2n.slots T17 (mkF m 80 #[rv a, .val (.long x), .second, iv (1 : Int32)] [(.long f), (.int (1 : Int32)), (.ref b9)])
  refine own_st (fun _ kk_ => XS.iloadN X17.here hx rfl (hb hby d3_80) rfl (XS.i2l X17.here hx rfl (hb hby d3_81) rfl (XS.ladd X17.here hx rfl (hb hby d3_82) rfl kk_))) ?_
  show own_Goes p e below s (Q3_2n Z a x ex f h0 n0) rRrm3_2n.cells rRrm3_2n.slots T17 (mkF m 83 #[rv a, .val (.long x), .second, iv (1 : Int32)] [(.long (f + ((1 : Int32).toInt64))), (.int (1 : Int32)), (.ref b9)])
  obtain ⟨cl18, Ar18, q18, Sz18, Nn18, Hh18, Gg18⟩ := id V14
  obtain ⟨T18, h18, X18, e18, W18, st18⟩ := stJ X17 hx hZ e17 Ar18 (j := (1 : Int32)) (inb_of Sz18 ⟨by decide, own_lt hz (by decide)⟩) (g := (mkF m 83 #[rv a, .val (.long x), .second, iv (1 : Int32)] [(.long (f + ((1 : Int32).toInt64))), (.int (1 : Int32)), (.ref b9)])) rfl rfl (hb hby d3_83)
  have V18 : Arv Z h18 b9 k9 .long z9 [(.long (f + ((0 : Int32).toInt64))), (.long (f + ((1 : Int32).toInt64))), (.long (0 : Int64)), (.long (0 : Int64))] (.long (0 : Int64)) := Arv.set Ar18 q18 Sz18 Nn18 Hh18 Gg18 rfl W18 1 rfl (Nat.le_of_ble_eq_true rfl)
  have f18_0 := f14_0.wr W18
  have f18_1 := f14_1.other W18 (Or.inl ne9_a)
  have f18_2 := f14_2.other W18 (Or.inl ne9_a)
  have f18_3 := f14_3.other W18 (Or.inl ne9_a)
  have f18_4 := f14_5.other W18 (Or.inl ne9_a)
  have Zs18 : n0 ≤ h18.size := Nat.le_trans Zs14 (Nat.le_of_eq W18.size.symm)
  have K18 := K14.wr W18 (Or.inr sz9)
  have N18 := Fr.snoc X18 N14 gg9
  refine own_st st18 ?_
  show own_Goes p e below s (Q3_2n Z a x ex f h0 n0) rRrm3_2n.cells rRrm3_2n.slots T18 (mkF m 84 #[rv a, .val (.long x), .second, iv (1 : Int32)] [])
  refine own_st (fun _ kk_ => XS.iinc X18.here hx rfl (hb hby d3_84) rfl (l' := #[rv a, .val (.long x), .second, iv (2 : Int32)]) rfl (XS.goto X18.here hx rfl (pc0 := 87) (pc' := 63) rfl (hb hby d3_87) (by decide) (by decide) (XS.iloadN X18.here hx rfl (hb hby d3_63) rfl (XS.aloadN X18.here hx rfl (hb hby d3_64) rfl rfl kk_)))) ?_
  show own_Goes p e below s (Q3_2n Z a x ex f h0 n0) rRrm3_2n.cells rRrm3_2n.slots T18 (mkF m 65 #[rv a, .val (.long x), .second, iv (2 : Int32)] [(.ref a), (.int (2 : Int32))])
  obtain ⟨T19, X19, e19, st19⟩ := getF X18 hx hZ hown (host := "") (Or.inl (hw _ (List.mem_of_getElem? (i := 27) rfl))) Via.refl e18 f18_1 (g := (mkF m 65 #[rv a, .val (.long x), .second, iv (2 : Int32)] [(.ref a), (.int (2 : Int32))])) rfl rfl (hb hby d3_65)
  refine own_st st19 ?_
  show own_Goes p e below s (Q3_2n Z a x ex f h0 n0) rRrm3_2n.cells rRrm3_2n.slots T19 (mkF m 68 #[rv a, .val (.long x), .second, iv (2 : Int32)] [(.int (2 : Int32)), (.int (2 : Int32))])
  refine own_st (fun _ kk_ => XS.icmpYes X19.here hx rfl (pc0 := 68) (pc' := 90) rfl (hb hby d3_68) rfl (XT.ii_ge_t (by decide)) (by decide) (by decide) (XS.aloadN X19.here hx rfl (hb hby d3_90) rfl rfl kk_)) ?_
  show own_Goes p e below s (Q3_2n Z a x ex f h0 n0) rRrm3_2n.cells rRrm3_2n.slots T19 (mkF m 91 #[rv a, .val (.long x), .second, iv (2 : Int32)] [(.ref a)])
  obtain ⟨T20, X20, e20, st20⟩ := getF X19 hx hZ hown (host := "") (Or.inl (hw _ (List.mem_of_getElem? (i := 31) rfl))) Via.refl e19 f18_4 (g := (mkF m 91 #[rv a, .val (.long x), .second, iv (2 : Int32)] [(.ref a)])) rfl rfl (hb hby d3_91)
  refine own_st st20 ?_
  show own_Goes p e below s (Q3_2n Z a x ex f h0 n0) rRrm3_2n.cells rRrm3_2n.slots T20 (mkF m 94 #[rv a, .val (.long x), .second, iv (2 : Int32)] [(.ref b9)])
  refine own_st (fun _ kk_ => XS.ifnullNo X20.here hx rfl (hb hby d3_94) rfl (XS.aloadN X20.here hx rfl (hb hby d3_97) rfl rfl kk_)) ?_
  show own_Goes p e below s (Q3_2n Z a x ex f h0 n0) rRrm3_2n.cells rRrm3_2n.slots T20 (mkF m 98 #[rv a, .val (.long x), .second, iv (2 : Int32)] [(.ref a)])
  obtain ⟨T21, X21, e21, st21⟩ := getF X20 hx hZ hown (host := "") (Or.inl (hw _ (List.mem_of_getElem? (i := 27) rfl))) Via.refl e20 f18_1 (g := (mkF m 98 #[rv a, .val (.long x), .second, iv (2 : Int32)] [(.ref a)])) rfl rfl (hb hby d3_98)
  refine own_st st21 ?_
  show own_Goes p e below s (Q3_2n Z a x ex f h0 n0) rRrm3_2n.cells rRrm3_2n.slots T21 (mkF m 101 #[rv a, .val (.long x), .second, iv (2 : Int32)] [(.int (2 : Int32))])
  refine own_st (fun _ kk_ => XS.aloadN X21.here hx rfl (hb hby d3_101) rfl rfl kk_) ?_
  show own_Goes p e below s (Q3_2n Z a x ex f h0 n0) rRrm3_2n.cells rRrm3_2n.slots T21 (mkF m 102 #[rv a, .val (.long x), .second, iv (2 : Int32)] [(.ref a), (.int (2 : Int32))])
  obtain ⟨T22, X22, e22, st22⟩ := getF X21 hx hZ hown (host := "") (Or.inl (hw _ (List.mem_of_getElem? (i := 31) rfl))) Via.refl e21 f18_4 (g := (mkF m 102 #[rv a, .val (.long x), .second, iv (2 : Int32)] [(.ref a), (.int (2 : Int32))])) rfl rfl (hb hby d3_102)
  refine own_st st22 ?_
  show own_Goes p e below s (Q3_2n Z a x ex f h0 n0) rRrm3_2n.cells rRrm3_2n.slots T22 (mkF m 105 #[rv a, .val (.long x), .second, iv (2 : Int32)] [(.ref b9), (.int (2 : Int32))])
  obtain ⟨cl23, Ar23, -, Sz23, Nn23, -, -⟩ := id V18
  refine own_st (fun _ kk_ => X22.arraylength hx (by rw [e22]; exact Ar23.1) (State.isArrayOf_alike hZ.alike Ar23.2.1) (g := (mkF m 105 #[rv a, .val (.long x), .second, iv (2 : Int32)] [(.ref b9), (.int (2 : Int32))])) rfl rfl (hb hby d3_105) _ kk_) ?_
  rw [len_of Sz23 Nn23]
  show own_Goes p e below s (Q3_2n Z a x ex f h0 n0) rRrm3_2n.cells rRrm3_2n.slots T22 (mkF m 106 #[rv a, .val (.long x), .second, iv (2 : Int32)] [(.int z9), (.int (2 : Int32))])
  refine own_st (fun _ kk_ => XS.icmpYes X22.here hx rfl (pc0 := 106) (pc' := 127) rfl (hb hby d3_106) rfl (XT.ii_ne_t (own_ne hz (by decide))) (by decide) (by decide) (XS.aloadN X22.here hx rfl (hb hby d3_127) rfl rfl kk_)) ?_
  show own_Goes p e below s (Q3_2n Z a x ex f h0 n0) rRrm3_2n.cells rRrm3_2n.slots T22 (mkF m 128 #[rv a, .val (.long x), .second, iv (2 : Int32)] [(.ref a)])
  obtain ⟨T24, X24, e24, st24⟩ := getF X22 hx hZ hown (host := "") (Or.inl (hw _ (List.mem_of_getElem? (i := 31) rfl))) Via.refl e22 f18_4 (g := (mkF m 128 #[rv a, .val (.long x), .second, iv (2 : Int32)] [(.ref a)])) rfl rfl (hb hby d3_128)
  refine own_st st24 ?_
  show own_Goes p e below s (Q3_2n Z a x ex f h0 n0) rRrm3_2n.cells rRrm3_2n.slots T24 (mkF m 131 #[rv a, .val (.long x), .second, iv (2 : Int32)] [(.ref b9)])
  refine own_st (fun _ kk_ => XS.aloadN X24.here hx rfl (hb hby d3_131) rfl rfl kk_) ?_
  show own_Goes p e below s (Q3_2n Z a x ex f h0 n0) rRrm3_2n.cells rRrm3_2n.slots T24 (mkF m 132 #[rv a, .val (.long x), .second, iv (2 : Int32)] [(.ref a), (.ref b9)])
  obtain ⟨T25, X25, e25, st25⟩ := getF X24 hx hZ hown (host := "") (Or.inl (hw _ (List.mem_of_getElem? (i := 27) rfl))) Via.refl e24 f18_1 (g := (mkF m 132 #[rv a, .val (.long x), .second, iv (2 : Int32)] [(.ref a), (.ref b9)])) rfl rfl (hb hby d3_132)
  refine own_st st25 ?_
  show own_Goes p e below s (Q3_2n Z a x ex f h0 n0) rRrm3_2n.cells rRrm3_2n.slots T25 (mkF m 135 #[rv a, .val (.long x), .second, iv (2 : Int32)] [(.int (2 : Int32)), (.ref b9)])
  refine own_st (fun _ kk_ => XS.lloadN X25.here hx rfl (hb hby d3_135) rfl kk_) ?_
  show own_Goes p e below s (Q3_2n Z a x ex f h0 n0) rRrm3_2n.cells rRrm3_2n.slots T25 (mkF m 136 #[rv a, .val (.long x), .second, iv (2 : Int32)] [(.long x), (.int (2 : Int32)), (.ref b9)])
  obtain ⟨cl26, Ar26, q26, Sz26, Nn26, Hh26, Gg26⟩ := id V18
  obtain ⟨T26, h26, X26, e26, W26, st26⟩ := stJ X25 hx hZ e25 Ar26 (j := (2 : Int32)) (inb_of Sz26 ⟨by decide, own_lt hz (by decide)⟩) (g := (mkF m 136 #[rv a, .val (.long x), .second, iv (2 : Int32)] [(.long x), (.int (2 : Int32)), (.ref b9)])) rfl rfl (hb hby d3_136)
  have V26 : Arv Z h26 b9 k9 .long z9 [(.long (f + ((0 : Int32).toInt64))), (.long (f + ((1 : Int32).toInt64))), (.long x), (.long (0 : Int64))] (.long (0 : Int64)) := Arv.set Ar26 q26 Sz26 Nn26 Hh26 Gg26 rfl W26 2 rfl (Nat.le_of_ble_eq_true rfl)
  have f26_0 := f18_0.wr W26
  have f26_1 := f18_1.other W26 (Or.inl ne9_a)
  have f26_2 := f18_2.other W26 (Or.inl ne9_a)
  have f26_3 := f18_3.other W26 (Or.inl ne9_a)
  have f26_4 := f18_4.other W26 (Or.inl ne9_a)
  have Zs26 : n0 ≤ h26.size := Nat.le_trans Zs18 (Nat.le_of_eq W26.size.symm)
  have K26 := K18.wr W26 (Or.inr sz9)
  have N26 := Fr.snoc X26 N18 gg9
  refine own_st st26 ?_
  show own_Goes p e below s (Q3_2n Z a x ex f h0 n0) rRrm3_2n.cells rRrm3_2n.slots T26 (mkF m 137 #[rv a, .val (.long x), .second, iv (2 : Int32)] [])
  refine own_st (fun _ kk_ => XS.aloadN X26.here hx rfl (hb hby d3_137) rfl rfl (XS.dup X26.here hx rfl (hb hby d3_138) rfl rfl kk_)) ?_
  show own_Goes p e below s (Q3_2n Z a x ex f h0 n0) rRrm3_2n.cells rRrm3_2n.slots T26 (mkF m 139 #[rv a, .val (.long x), .second, iv (2 : Int32)] [(.ref a), (.ref a)])
  obtain ⟨T27, X27, e27, st27⟩ := getF X26 hx hZ hown (host := "") (Or.inl (hw _ (List.mem_of_getElem? (i := 27) rfl))) Via.refl e26 f26_1 (g := (mkF m 139 #[rv a, .val (.long x), .second, iv (2 : Int32)] [(.ref a), (.ref a)])) rfl rfl (hb hby d3_139)
  refine own_st st27 ?_
  show own_Goes p e below s (Q3_2n Z a x ex f h0 n0) rRrm3_2n.cells rRrm3_2n.slots T27 (mkF m 142 #[rv a, .val (.long x), .second, iv (2 : Int32)] [(.int (2 : Int32)), (.ref a)])
  refine own_st (fun _ kk_ => XS.iconst X27.here hx rfl (hb hby d3_142) (XS.iadd X27.here hx rfl (hb hby d3_143) rfl kk_)) ?_
  show own_Goes p e below s (Q3_2n Z a x ex f h0 n0) rRrm3_2n.cells rRrm3_2n.slots T27 (mkF m 144 #[rv a, .val (.long x), .second, iv (2 : Int32)] [(.int (3 : Int32)), (.ref a)])
  obtain ⟨T28, h28, X28, e28, W28, st28⟩ := putF X27 hx hZ hown (host := "") (Or.inl (hw _ (List.mem_of_getElem? (i := 27) rfl))) Via.refl e27 f26_1 f26_0 (Or.inl (hw _ (List.mem_of_getElem? (i := 28) rfl))) (hw _ (List.mem_of_getElem? (i := 2) rfl)) (ty := .int) (by decide) rfl rfl (g := (mkF m 144 #[rv a, .val (.long x), .second, iv (2 : Int32)] [(.int (3 : Int32)), (.ref a)])) rfl rfl (hb hby d3_144)
  have fw28 : Fld Z h28 a "com/example/graphbind/graphbind/RunningLongs" "count" "I" (.int (3 : Int32)) := f26_1.same W28
  have f28_0 := f26_0.wr W28
  have f28_2 := f26_2.other W28 (Or.inr (slot_ne (Or.inl (hw _ (List.mem_of_getElem? (i := 30) rfl))) (Or.inl (hw _ (List.mem_of_getElem? (i := 28) rfl))) (by decide) (t := .long) (t' := .int) (by decide) (by decide)))
  have f28_3 := f26_3.other W28 (Or.inr (slot_ne (Or.inr (hw _ (List.mem_of_getElem? (i := 21) rfl))) (Or.inl (hw _ (List.mem_of_getElem? (i := 28) rfl))) (by decide) (t := .int) (t' := .int) (by decide) (by decide)))
  have f28_4 := f26_4.other W28 (Or.inr (slot_ne (Or.inl (hw _ (List.mem_of_getElem? (i := 32) rfl))) (Or.inl (hw _ (List.mem_of_getElem? (i := 28) rfl))) (by decide) (t := (.array .long)) (t' := .int) (by decide) (by decide)))
  have f28_5 := V26.other W28 (Ne.symm ne9_a)
  have Zs28 : n0 ≤ h28.size := Nat.le_trans Zs26 (Nat.le_of_eq W28.size.symm)
  have K28 := K26.wr W28 (Or.inl (List.mem_of_getElem? (i := 0) rfl))
  have N28 := Fr.snoc X28 N26 p_1
  refine own_st st28 ?_
  show own_Goes p e below s (Q3_2n Z a x ex f h0 n0) rRrm3_2n.cells rRrm3_2n.slots T28 (mkF m 147 #[rv a, .val (.long x), .second, iv (2 : Int32)] [])
  refine own_ret0 X28 hx hlk Bd.returns (hb hby d3_147) (by decide) (by decide) ?_
  show Q3_2n Z a x ex f h0 n0 none T28.heap _
  rw [e28]
  exact ⟨b9, z9, k9, rfl, N28, K28, fw28, f28_2, f28_4, f28_3, sz9, hz, f28_5⟩
abbrev rRrm3_3e : Room := { frames := 0, cells := 0, slots := 0, locals := 0 }
theorem pn_rm3_3e : plainFor (⟨"com/example/graphbind/graphbind/RunningLongs", "add", "(J)V"⟩ : MethodName) = true := by first | exact plainFor_of_name (by first | (simp [plainName, overriddenIn]; done) | decide +kernel) | decide +kernel
theorem ef_rm3_3e (m : MethodId) (a : Addr) (x : Int64) : entryFrame m #[(.ref a), (.long x)] 4 = (mkF m 0 #[rv a, .val (.long x), .second, .unset] []) := by first | (simp [entryFrame, mkF, argsToLocals, Value.category]; done) | rfl
def Q3_3e (Z : State) (a : Addr) (x : Int64) (ex : Int32) (f : Int64) (h0 : Heap) (n0 : Nat) (v_ : Option Value) (h_ : Heap) (L_ : List Loc) : Prop := (v_ = none) ∧ (Fr n0 L_) ∧ (Keep h0 h_ [a]) ∧ (Fld Z h_ a "com/example/graphbind/graphbind/RunningLongs" "count" "I" (.int (4 : Int32))) ∧ (Fld Z h_ a "com/example/graphbind/graphbind/RunningLongs" "first" "J" (.long f)) ∧ (Fld Z h_ a "com/example/graphbind/graphbind/RunningLongs" "values" "[J" .null) ∧ (Fld Z h_ a "com/example/graphbind/graphbind/RunningLongs" "expected" "I" (.int ex))
set_option maxRecDepth 65536 in
set_option maxHeartbeats 40000000 in
theorem rm3_3e (l : Launch) (Z : State) (a0 : Array Value) (hw : ∀ d ∈ tables_1, d.before a0 Z = true) (ws : List Jvm.Cond) (a : Addr) (x : Int64) (ex : Int32) (f : Int64) (h0 : Heap) (n0 : Nat) (Z0 : n0 ≤ h0.size) (p_0 : Exa Z h0 a "com/example/graphbind/graphbind/RunningLongs") (p_1 : n0 ≤ a) (p_2 : Fld Z h0 a "com/example/graphbind/graphbind/RunningLongs" "count" "I" (.int (3 : Int32))) (p_3 : Fld Z h0 a "com/example/graphbind/graphbind/RunningLongs" "first" "J" (.long f)) (p_4 : Fld Z h0 a "com/example/graphbind/graphbind/RunningLongs" "values" "[J" .null) (p_5 : Fld Z h0 a "com/example/graphbind/graphbind/RunningLongs" "expected" "I" (.int ex)) (hq : x = (f + ((3 : Int32).toInt64))) :
    MetFree l (⟨"com/example/graphbind/graphbind/RunningLongs", "add", "(J)V"⟩ : MethodName) (head1 (Jvm.Cond.code (⟨"com/example/graphbind/graphbind/RunningLongs", "add", "(J)V"⟩ : MethodName) prog_67_method_2_code 4 none :: ws) rRrm3_3e) (fun a_ U_ => a_ = #[(.ref a), (.long x)] ∧ Z.Warmed39 U_.vm ∧ U_.heap = h0) (fun _ _ _ _ _ => True) (fun _ U_ o_ U1_ => ∃ v_ L_, o_ = .returned v_ ∧ Q3_3e Z a x ex f h0 n0 v_ U1_.heap L_ ∧ FrameEnd U_ o_ U1_ L_ rRrm3_3e.cells rRrm3_3e.slots) := by
  refine MetFree.of_bodySF pn_rm3_3e hisR ?_
  intro p e s m args below meth c s₁ Bd hml0 hP hK
  obtain ⟨rfl, hZ, hh⟩ := hP
  have hx := Bd.exec
  have hby := Bd.bytes
  have hlk : meth.locks = false := Bd.notSynchronized
  have hml : c.maxLocals = 4 := hml0
  have hown : s.vm.findClass "com/example/graphbind/graphbind/RunningLongs" = some m.cls := findClass_of_methodNamed Bd.named
  have hnm := (name_of_methodNamed Bd.named Bd.method).1
  have X0 : Stand p l e rRrm3_3e s m #[(.ref a), (.long x)] below meth c s₁ [] 0 0 := Stand.of_body Bd
  have e0 : s₁.heap = h0 := by rw [← hh, Bd.state]; rfl
  have N0 := Fr.nil n0
  show own_Goes p e below s (Q3_3e Z a x ex f h0 n0) rRrm3_3e.cells rRrm3_3e.slots s₁ (entryFrame m #[(.ref a), (.long x)] 4)
  rw [ef_rm3_3e m a x]
  show own_Goes p e below s (Q3_3e Z a x ex f h0 n0) rRrm3_3e.cells rRrm3_3e.slots s₁ (mkF m 0 #[rv a, .val (.long x), .second, .unset] [])
  refine own_st (fun _ kk_ => XS.aloadN X0.here hx rfl (hb hby d3_0) rfl rfl kk_) ?_
  show own_Goes p e below s (Q3_3e Z a x ex f h0 n0) rRrm3_3e.cells rRrm3_3e.slots s₁ (mkF m 1 #[rv a, .val (.long x), .second, .unset] [(.ref a)])
  obtain ⟨T1, X1, e1, st1⟩ := getF X0 hx hZ hown (host := "") (Or.inl (hw _ (List.mem_of_getElem? (i := 27) rfl))) Via.refl e0 p_2 (g := (mkF m 1 #[rv a, .val (.long x), .second, .unset] [(.ref a)])) rfl rfl (hb hby d3_1)
  refine own_st st1 ?_
  show own_Goes p e below s (Q3_3e Z a x ex f h0 n0) rRrm3_3e.cells rRrm3_3e.slots T1 (mkF m 4 #[rv a, .val (.long x), .second, .unset] [(.int (3 : Int32))])
  refine own_st (fun _ kk_ => XS.ifYes X1.here hx rfl (pc0 := 4) (pc' := 15) rfl (hb hby d3_4) rfl (XT.i0_ne_t (by decide)) (by decide) (by decide) (XS.aloadN X1.here hx rfl (hb hby d3_15) rfl rfl kk_)) ?_
  show own_Goes p e below s (Q3_3e Z a x ex f h0 n0) rRrm3_3e.cells rRrm3_3e.slots T1 (mkF m 16 #[rv a, .val (.long x), .second, .unset] [(.ref a)])
  obtain ⟨T2, X2, e2, st2⟩ := getF X1 hx hZ hown (host := "") (Or.inl (hw _ (List.mem_of_getElem? (i := 31) rfl))) Via.refl e1 p_4 (g := (mkF m 16 #[rv a, .val (.long x), .second, .unset] [(.ref a)])) rfl rfl (hb hby d3_16)
  refine own_st st2 ?_
  show own_Goes p e below s (Q3_3e Z a x ex f h0 n0) rRrm3_3e.cells rRrm3_3e.slots T2 (mkF m 19 #[rv a, .val (.long x), .second, .unset] [.null])
  refine own_st (fun _ kk_ => XS.ifnonnullNo X2.here hx rfl (hb hby d3_19) rfl (XS.lloadN X2.here hx rfl (hb hby d3_22) rfl (XS.aloadN X2.here hx rfl (hb hby d3_23) rfl rfl kk_))) ?_
  show own_Goes p e below s (Q3_3e Z a x ex f h0 n0) rRrm3_3e.cells rRrm3_3e.slots T2 (mkF m 24 #[rv a, .val (.long x), .second, .unset] [(.ref a), (.long x)])
  obtain ⟨T3, X3, e3, st3⟩ := getF X2 hx hZ hown (host := "") (Or.inl (hw _ (List.mem_of_getElem? (i := 29) rfl))) Via.refl e2 p_3 (g := (mkF m 24 #[rv a, .val (.long x), .second, .unset] [(.ref a), (.long x)])) rfl rfl (hb hby d3_24)
  refine own_st st3 ?_
  show own_Goes p e below s (Q3_3e Z a x ex f h0 n0) rRrm3_3e.cells rRrm3_3e.slots T3 (mkF m 27 #[rv a, .val (.long x), .second, .unset] [(.long f), (.long x)])
  refine own_st (fun _ kk_ => XS.aloadN X3.here hx rfl (hb hby d3_27) rfl rfl kk_) ?_
  show own_Goes p e below s (Q3_3e Z a x ex f h0 n0) rRrm3_3e.cells rRrm3_3e.slots T3 (mkF m 28 #[rv a, .val (.long x), .second, .unset] [(.ref a), (.long f), (.long x)])
  obtain ⟨T4, X4, e4, st4⟩ := getF X3 hx hZ hown (host := "") (Or.inl (hw _ (List.mem_of_getElem? (i := 27) rfl))) Via.refl e3 p_2 (g := (mkF m 28 #[rv a, .val (.long x), .second, .unset] [(.ref a), (.long f), (.long x)])) rfl rfl (hb hby d3_28)
  refine own_st st4 ?_
  show own_Goes p e below s (Q3_3e Z a x ex f h0 n0) rRrm3_3e.cells rRrm3_3e.slots T4 (mkF m 31 #[rv a, .val (.long x), .second, .unset] [(.int (3 : Int32)), (.long f), (.long x)])
  refine own_st (fun _ kk_ => XS.i2l X4.here hx rfl (hb hby d3_31) rfl (XS.ladd X4.here hx rfl (hb hby d3_32) rfl (XT.lcmp X4.here hx rfl (hb hby d3_33) rfl (XS.ifYes X4.here hx rfl (pc0 := 34) (pc' := 90) rfl (hb hby d3_34) rfl (XT.ll_eq_t hq) (by decide) (by decide) (XS.aloadN X4.here hx rfl (hb hby d3_90) rfl rfl kk_))))) ?_
  show own_Goes p e below s (Q3_3e Z a x ex f h0 n0) rRrm3_3e.cells rRrm3_3e.slots T4 (mkF m 91 #[rv a, .val (.long x), .second, .unset] [(.ref a)])
  obtain ⟨T5, X5, e5, st5⟩ := getF X4 hx hZ hown (host := "") (Or.inl (hw _ (List.mem_of_getElem? (i := 31) rfl))) Via.refl e4 p_4 (g := (mkF m 91 #[rv a, .val (.long x), .second, .unset] [(.ref a)])) rfl rfl (hb hby d3_91)
  refine own_st st5 ?_
  show own_Goes p e below s (Q3_3e Z a x ex f h0 n0) rRrm3_3e.cells rRrm3_3e.slots T5 (mkF m 94 #[rv a, .val (.long x), .second, .unset] [.null])
  refine own_st (fun _ kk_ => XS.ifnullYes X5.here hx rfl (pc0 := 94) (pc' := 137) rfl (hb hby d3_94) rfl (by decide) (by decide) (XS.aloadN X5.here hx rfl (hb hby d3_137) rfl rfl (XS.dup X5.here hx rfl (hb hby d3_138) rfl rfl kk_))) ?_
  show own_Goes p e below s (Q3_3e Z a x ex f h0 n0) rRrm3_3e.cells rRrm3_3e.slots T5 (mkF m 139 #[rv a, .val (.long x), .second, .unset] [(.ref a), (.ref a)])
  obtain ⟨T6, X6, e6, st6⟩ := getF X5 hx hZ hown (host := "") (Or.inl (hw _ (List.mem_of_getElem? (i := 27) rfl))) Via.refl e5 p_2 (g := (mkF m 139 #[rv a, .val (.long x), .second, .unset] [(.ref a), (.ref a)])) rfl rfl (hb hby d3_139)
  refine own_st st6 ?_
  show own_Goes p e below s (Q3_3e Z a x ex f h0 n0) rRrm3_3e.cells rRrm3_3e.slots T6 (mkF m 142 #[rv a, .val (.long x), .second, .unset] [(.int (3 : Int32)), (.ref a)])
  refine own_st (fun _ kk_ => XS.iconst X6.here hx rfl (hb hby d3_142) (XS.iadd X6.here hx rfl (hb hby d3_143) rfl kk_)) ?_
  show own_Goes p e below s (Q3_3e Z a x ex f h0 n0) rRrm3_3e.cells rRrm3_3e.slots T6 (mkF m 144 #[rv a, .val (.long x), .second, .unset] [(.int (4 : Int32)), (.ref a)])
  obtain ⟨T7, h7, X7, e7, W7, st7⟩ := putF X6 hx hZ hown (host := "") (Or.inl (hw _ (List.mem_of_getElem? (i := 27) rfl))) Via.refl e6 p_2 p_0 (Or.inl (hw _ (List.mem_of_getElem? (i := 28) rfl))) (hw _ (List.mem_of_getElem? (i := 2) rfl)) (ty := .int) (by decide) rfl rfl (g := (mkF m 144 #[rv a, .val (.long x), .second, .unset] [(.int (4 : Int32)), (.ref a)])) rfl rfl (hb hby d3_144)
  have fw7 : Fld Z h7 a "com/example/graphbind/graphbind/RunningLongs" "count" "I" (.int (4 : Int32)) := p_2.same W7
  have f7_0 := p_0.wr W7
  have f7_2 := p_3.other W7 (Or.inr (slot_ne (Or.inl (hw _ (List.mem_of_getElem? (i := 30) rfl))) (Or.inl (hw _ (List.mem_of_getElem? (i := 28) rfl))) (by decide) (t := .long) (t' := .int) (by decide) (by decide)))
  have f7_3 := p_4.other W7 (Or.inr (slot_ne (Or.inl (hw _ (List.mem_of_getElem? (i := 32) rfl))) (Or.inl (hw _ (List.mem_of_getElem? (i := 28) rfl))) (by decide) (t := (.array .long)) (t' := .int) (by decide) (by decide)))
  have f7_4 := p_5.other W7 (Or.inr (slot_ne (Or.inr (hw _ (List.mem_of_getElem? (i := 21) rfl))) (Or.inl (hw _ (List.mem_of_getElem? (i := 28) rfl))) (by decide) (t := .int) (t' := .int) (by decide) (by decide)))
  have Zs7 : n0 ≤ h7.size := Nat.le_trans Z0 (Nat.le_of_eq W7.size.symm)
  have K7 := (Keep.refl h0 [a]).wr W7 (Or.inl (List.mem_of_getElem? (i := 0) rfl))
  have N7 := Fr.snoc X7 N0 p_1
  refine own_st st7 ?_
  show own_Goes p e below s (Q3_3e Z a x ex f h0 n0) rRrm3_3e.cells rRrm3_3e.slots T7 (mkF m 147 #[rv a, .val (.long x), .second, .unset] [])
  refine own_ret0 X7 hx hlk Bd.returns (hb hby d3_147) (by decide) (by decide) ?_
  show Q3_3e Z a x ex f h0 n0 none T7.heap _
  rw [e7]
  exact ⟨rfl, N7, K7, fw7, f7_2, f7_3, f7_4⟩
abbrev rRrm3_3n : Room := { frames := 1, cells := 1, slots := 31, locals := 14 }
theorem pn_rm3_3n : plainFor (⟨"com/example/graphbind/graphbind/RunningLongs", "add", "(J)V"⟩ : MethodName) = true := by first | exact plainFor_of_name (by first | (simp [plainName, overriddenIn]; done) | decide +kernel) | decide +kernel
theorem ef_rm3_3n (m : MethodId) (a : Addr) (x : Int64) : entryFrame m #[(.ref a), (.long x)] 4 = (mkF m 0 #[rv a, .val (.long x), .second, .unset] []) := by first | (simp [entryFrame, mkF, argsToLocals, Value.category]; done) | rfl
def Q3_3n (Z : State) (a : Addr) (x : Int64) (ex : Int32) (f : Int64) (h0 : Heap) (n0 : Nat) (v_ : Option Value) (h_ : Heap) (L_ : List Loc) : Prop := ∃ ar : Addr, ∃ z9 : Int32, ∃ kc : ClassId, (v_ = none) ∧ (Fr n0 L_) ∧ (Keep h0 h_ [a]) ∧ (Fld Z h_ a "com/example/graphbind/graphbind/RunningLongs" "count" "I" (.int (4 : Int32))) ∧ (Fld Z h_ a "com/example/graphbind/graphbind/RunningLongs" "first" "J" (.long f)) ∧ (Fld Z h_ a "com/example/graphbind/graphbind/RunningLongs" "values" "[J" (.ref ar)) ∧ (Fld Z h_ a "com/example/graphbind/graphbind/RunningLongs" "expected" "I" (.int ex)) ∧ (h0.size ≤ ar) ∧ (16 ≤ z9.toInt ∧ z9.toInt ≤ 31) ∧ (Arv Z h_ ar kc .long z9 [(.long (f + ((0 : Int32).toInt64))), (.long (f + ((1 : Int32).toInt64))), (.long (f + ((2 : Int32).toInt64))), (.long x)] (.long (0 : Int64)))
set_option maxRecDepth 65536 in
set_option maxHeartbeats 40000000 in
theorem rm3_3n (l : Launch) (Z : State) (a0 : Array Value) (hw : ∀ d ∈ tables_1, d.before a0 Z = true) (ws : List Jvm.Cond) (a : Addr) (x : Int64) (ex : Int32) (f : Int64) (h0 : Heap) (n0 : Nat) (Z0 : n0 ≤ h0.size) (p_0 : Exa Z h0 a "com/example/graphbind/graphbind/RunningLongs") (p_1 : n0 ≤ a) (p_2 : Fld Z h0 a "com/example/graphbind/graphbind/RunningLongs" "count" "I" (.int (3 : Int32))) (p_3 : Fld Z h0 a "com/example/graphbind/graphbind/RunningLongs" "first" "J" (.long f)) (p_4 : Fld Z h0 a "com/example/graphbind/graphbind/RunningLongs" "values" "[J" .null) (p_5 : Fld Z h0 a "com/example/graphbind/graphbind/RunningLongs" "expected" "I" (.int ex)) (hq : ¬ x = (f + ((3 : Int32).toInt64))) (hex : 0 ≤ ex.toInt ∧ ex.toInt ≤ 31) :
    MetFree l (⟨"com/example/graphbind/graphbind/RunningLongs", "add", "(J)V"⟩ : MethodName) (head1 (Jvm.Cond.code (⟨"com/example/graphbind/graphbind/RunningLongs", "add", "(J)V"⟩ : MethodName) prog_67_method_2_code 4 none :: ws) rRrm3_3n) (fun a_ U_ => a_ = #[(.ref a), (.long x)] ∧ Z.Warmed39 U_.vm ∧ U_.heap = h0) (fun _ _ _ _ _ => True) (fun _ U_ o_ U1_ => ∃ v_ L_, o_ = .returned v_ ∧ Q3_3n Z a x ex f h0 n0 v_ U1_.heap L_ ∧ FrameEnd U_ o_ U1_ L_ rRrm3_3n.cells rRrm3_3n.slots) := by
  refine MetFree.of_bodySF pn_rm3_3n hisR ?_
  intro p e s m args below meth c s₁ Bd hml0 hP hK
  obtain ⟨rfl, hZ, hh⟩ := hP
  have hx := Bd.exec
  have hby := Bd.bytes
  have hlk : meth.locks = false := Bd.notSynchronized
  have hml : c.maxLocals = 4 := hml0
  have hown : s.vm.findClass "com/example/graphbind/graphbind/RunningLongs" = some m.cls := findClass_of_methodNamed Bd.named
  have hnm := (name_of_methodNamed Bd.named Bd.method).1
  have X0 : Stand p l e rRrm3_3n s m #[(.ref a), (.long x)] below meth c s₁ [] 0 0 := Stand.of_body Bd
  have e0 : s₁.heap = h0 := by rw [← hh, Bd.state]; rfl
  have N0 := Fr.nil n0
  show own_Goes p e below s (Q3_3n Z a x ex f h0 n0) rRrm3_3n.cells rRrm3_3n.slots s₁ (entryFrame m #[(.ref a), (.long x)] 4)
  rw [ef_rm3_3n m a x]
  show own_Goes p e below s (Q3_3n Z a x ex f h0 n0) rRrm3_3n.cells rRrm3_3n.slots s₁ (mkF m 0 #[rv a, .val (.long x), .second, .unset] [])
  refine own_st (fun _ kk_ => XS.aloadN X0.here hx rfl (hb hby d3_0) rfl rfl kk_) ?_
  show own_Goes p e below s (Q3_3n Z a x ex f h0 n0) rRrm3_3n.cells rRrm3_3n.slots s₁ (mkF m 1 #[rv a, .val (.long x), .second, .unset] [(.ref a)])
  obtain ⟨T1, X1, e1, st1⟩ := getF X0 hx hZ hown (host := "") (Or.inl (hw _ (List.mem_of_getElem? (i := 27) rfl))) Via.refl e0 p_2 (g := (mkF m 1 #[rv a, .val (.long x), .second, .unset] [(.ref a)])) rfl rfl (hb hby d3_1)
  refine own_st st1 ?_
  show own_Goes p e below s (Q3_3n Z a x ex f h0 n0) rRrm3_3n.cells rRrm3_3n.slots T1 (mkF m 4 #[rv a, .val (.long x), .second, .unset] [(.int (3 : Int32))])
  refine own_st (fun _ kk_ => XS.ifYes X1.here hx rfl (pc0 := 4) (pc' := 15) rfl (hb hby d3_4) rfl (XT.i0_ne_t (by decide)) (by decide) (by decide) (XS.aloadN X1.here hx rfl (hb hby d3_15) rfl rfl kk_)) ?_
  show own_Goes p e below s (Q3_3n Z a x ex f h0 n0) rRrm3_3n.cells rRrm3_3n.slots T1 (mkF m 16 #[rv a, .val (.long x), .second, .unset] [(.ref a)])
  obtain ⟨T2, X2, e2, st2⟩ := getF X1 hx hZ hown (host := "") (Or.inl (hw _ (List.mem_of_getElem? (i := 31) rfl))) Via.refl e1 p_4 (g := (mkF m 16 #[rv a, .val (.long x), .second, .unset] [(.ref a)])) rfl rfl (hb hby d3_16)
  refine own_st st2 ?_
  show own_Goes p e below s (Q3_3n Z a x ex f h0 n0) rRrm3_3n.cells rRrm3_3n.slots T2 (mkF m 19 #[rv a, .val (.long x), .second, .unset] [.null])
  refine own_st (fun _ kk_ => XS.ifnonnullNo X2.here hx rfl (hb hby d3_19) rfl (XS.lloadN X2.here hx rfl (hb hby d3_22) rfl (XS.aloadN X2.here hx rfl (hb hby d3_23) rfl rfl kk_))) ?_
  show own_Goes p e below s (Q3_3n Z a x ex f h0 n0) rRrm3_3n.cells rRrm3_3n.slots T2 (mkF m 24 #[rv a, .val (.long x), .second, .unset] [(.ref a), (.long x)])
  obtain ⟨T3, X3, e3, st3⟩ := getF X2 hx hZ hown (host := "") (Or.inl (hw _ (List.mem_of_getElem? (i := 29) rfl))) Via.refl e2 p_3 (g := (mkF m 24 #[rv a, .val (.long x), .second, .unset] [(.ref a), (.long x)])) rfl rfl (hb hby d3_24)
  refine own_st st3 ?_
  show own_Goes p e below s (Q3_3n Z a x ex f h0 n0) rRrm3_3n.cells rRrm3_3n.slots T3 (mkF m 27 #[rv a, .val (.long x), .second, .unset] [(.long f), (.long x)])
  refine own_st (fun _ kk_ => XS.aloadN X3.here hx rfl (hb hby d3_27) rfl rfl kk_) ?_
  show own_Goes p e below s (Q3_3n Z a x ex f h0 n0) rRrm3_3n.cells rRrm3_3n.slots T3 (mkF m 28 #[rv a, .val (.long x), .second, .unset] [(.ref a), (.long f), (.long x)])
  obtain ⟨T4, X4, e4, st4⟩ := getF X3 hx hZ hown (host := "") (Or.inl (hw _ (List.mem_of_getElem? (i := 27) rfl))) Via.refl e3 p_2 (g := (mkF m 28 #[rv a, .val (.long x), .second, .unset] [(.ref a), (.long f), (.long x)])) rfl rfl (hb hby d3_28)
  refine own_st st4 ?_
  show own_Goes p e below s (Q3_3n Z a x ex f h0 n0) rRrm3_3n.cells rRrm3_3n.slots T4 (mkF m 31 #[rv a, .val (.long x), .second, .unset] [(.int (3 : Int32)), (.long f), (.long x)])
  refine own_st (fun _ kk_ => XS.i2l X4.here hx rfl (hb hby d3_31) rfl (XS.ladd X4.here hx rfl (hb hby d3_32) rfl (XT.lcmp X4.here hx rfl (hb hby d3_33) rfl (XS.ifNo X4.here hx rfl (hb hby d3_34) rfl (XT.ll_eq_f hq) (XS.aloadN X4.here hx rfl (hb hby d3_37) rfl rfl (XS.aloadN X4.here hx rfl (hb hby d3_38) rfl rfl kk_)))))) ?_
  show own_Goes p e below s (Q3_3n Z a x ex f h0 n0) rRrm3_3n.cells rRrm3_3n.slots T4 (mkF m 39 #[rv a, .val (.long x), .second, .unset] [(.ref a), (.ref a)])
  obtain ⟨T5, X5, e5, st5⟩ := getF X4 hx hZ hown (host := "") (Or.inl (hw _ (List.mem_of_getElem? (i := 20) rfl))) Via.refl e4 p_5 (g := (mkF m 39 #[rv a, .val (.long x), .second, .unset] [(.ref a), (.ref a)])) rfl rfl (hb hby d3_39)
  refine own_st st5 ?_
  show own_Goes p e below s (Q3_3n Z a x ex f h0 n0) rRrm3_3n.cells rRrm3_3n.slots T5 (mkF m 42 #[rv a, .val (.long x), .second, .unset] [(.int ex), (.ref a)])
  refine own_st (fun _ kk_ => XS.aloadN X5.here hx rfl (hb hby d3_42) rfl rfl kk_) ?_
  show own_Goes p e below s (Q3_3n Z a x ex f h0 n0) rRrm3_3n.cells rRrm3_3n.slots T5 (mkF m 43 #[rv a, .val (.long x), .second, .unset] [(.ref a), (.int ex), (.ref a)])
  obtain ⟨T6, X6, e6, st6⟩ := getF X5 hx hZ hown (host := "") (Or.inl (hw _ (List.mem_of_getElem? (i := 27) rfl))) Via.refl e5 p_2 (g := (mkF m 43 #[rv a, .val (.long x), .second, .unset] [(.ref a), (.int ex), (.ref a)])) rfl rfl (hb hby d3_43)
  refine own_st st6 ?_
  show own_Goes p e below s (Q3_3n Z a x ex f h0 n0) rRrm3_3n.cells rRrm3_3n.slots T6 (mkF m 46 #[rv a, .val (.long x), .second, .unset] [(.int (3 : Int32)), (.int ex), (.ref a)])
  refine own_st (fun _ kk_ => XS.iconst X6.here hx rfl (hb hby d3_46) (XS.iadd X6.here hx rfl (hb hby d3_47) rfl kk_)) ?_
  show own_Goes p e below s (Q3_3n Z a x ex f h0 n0) rRrm3_3n.cells rRrm3_3n.slots T6 (mkF m 48 #[rv a, .val (.long x), .second, .unset] [(.int (4 : Int32)), (.int ex), (.ref a)])
  obtain ⟨_, _, ⟨T7, L7, k7, n7⟩, -, X7, ⟨Lc7, hQ7, l7, y7, z7⟩, st7⟩ := Jvm.LawKit.callS X6 hx (y := (⟨"java/lang/Math", "max", "(II)I"⟩ : MethodName)) hown (mvT hZ (hw _ (List.mem_of_getElem? (i := 39) rfl))) (mvT hZ (hw _ (List.mem_of_getElem? (i := 40) rfl))) (mvT hZ (hw _ (List.mem_of_getElem? (i := 41) rfl))) (mvT hZ (hw _ (List.mem_of_getElem? (i := 42) rfl))) (by decide) (backOf (W := 1) (rm5 l Z a0 hw [] (ex) ((4 : Int32)) h0 n0 Z0) hZ (hw _ (List.mem_of_getElem? (i := 42) rfl)) (hw _ (List.mem_of_getElem? (i := 41) rfl)) (by decide) (by decide)) (g := (mkF m 48 #[rv a, .val (.long x), .second, .unset] [(.int (4 : Int32)), (.int ex), (.ref a)])) rfl (by rw [hml]; rfl) (argsL := [(.int ex), (.int (4 : Int32))]) (rest := [(.ref a)]) (lenOf pd_0 rfl) rfl (by show 2 * 0 + _ ≤ _; exact Nat.le_of_eq rfl) (hb hby d3_48) (fun _ _ => ⟨rfl, e6, (by decide : 0 + 0 ≤ _), (by decide : 0 + 0 ≤ _)⟩)
  dsimp only [Pt.U, Pt.locs, Pt.cells, Pt.slots] at X7 l7 y7 z7 st7 hQ7
  subst l7 y7 z7
  obtain ⟨rfl, Nq7, eq7⟩ := hQ7
  have N7 := Fr.app N0 Nq7
  refine own_st st7 ?_
  show own_Goes p e below s (Q3_3n Z a x ex f h0 n0) rRrm3_3n.cells rRrm3_3n.slots T7 (mkF m 51 #[rv a, .val (.long x), .second, .unset] [(.int (own_max ex (4 : Int32))), (.ref a)])
  refine own_st (fun _ kk_ => XS.bipush X7.here hx rfl (hb hby d3_51) kk_) ?_
  show own_Goes p e below s (Q3_3n Z a x ex f h0 n0) rRrm3_3n.cells rRrm3_3n.slots T7 (mkF m 53 #[rv a, .val (.long x), .second, .unset] [(.int (16 : Int32)), (.int (own_max ex (4 : Int32))), (.ref a)])
  obtain ⟨_, _, ⟨T8, L8, k8, n8⟩, -, X8, ⟨Lc8, hQ8, l8, y8, z8⟩, st8⟩ := Jvm.LawKit.callS X7 hx (y := (⟨"java/lang/Math", "max", "(II)I"⟩ : MethodName)) hown (mvT hZ (hw _ (List.mem_of_getElem? (i := 39) rfl))) (mvT hZ (hw _ (List.mem_of_getElem? (i := 40) rfl))) (mvT hZ (hw _ (List.mem_of_getElem? (i := 41) rfl))) (mvT hZ (hw _ (List.mem_of_getElem? (i := 42) rfl))) (by decide) (backOf (W := 1) (rm5 l Z a0 hw [] ((own_max ex (4 : Int32))) ((16 : Int32)) h0 n0 Z0) hZ (hw _ (List.mem_of_getElem? (i := 42) rfl)) (hw _ (List.mem_of_getElem? (i := 41) rfl)) (by decide) (by decide)) (g := (mkF m 53 #[rv a, .val (.long x), .second, .unset] [(.int (16 : Int32)), (.int (own_max ex (4 : Int32))), (.ref a)])) rfl (by rw [hml]; rfl) (argsL := [(.int (own_max ex (4 : Int32))), (.int (16 : Int32))]) (rest := [(.ref a)]) (lenOf pd_0 rfl) rfl (by show 2 * 0 + _ ≤ _; exact Nat.le_of_eq rfl) (hb hby d3_53) (fun _ _ => ⟨rfl, eq7, (by decide : 0 + 0 ≤ _), (by decide : 0 + 0 ≤ _)⟩)
  dsimp only [Pt.U, Pt.locs, Pt.cells, Pt.slots] at X8 l8 y8 z8 st8 hQ8
  subst l8 y8 z8
  obtain ⟨rfl, Nq8, eq8⟩ := hQ8
  have N8 := Fr.app N7 Nq8
  refine own_st st8 ?_
  show own_Goes p e below s (Q3_3n Z a x ex f h0 n0) rRrm3_3n.cells rRrm3_3n.slots T8 (mkF m 56 #[rv a, .val (.long x), .second, .unset] [(.int (own_max (own_max ex (4 : Int32)) (16 : Int32))), (.ref a)])
  obtain ⟨z9, h_z9⟩ : ∃ z, z = (own_max (own_max ex (4 : Int32)) (16 : Int32)) := ⟨_, rfl⟩
  rw [← h_z9]
  show own_Goes p e below s (Q3_3n Z a x ex f h0 n0) rRrm3_3n.cells rRrm3_3n.slots T8 (mkF m 56 #[rv a, .val (.long x), .second, .unset] [(.int z9), (.ref a)])
  have hz : 16 ≤ z9.toInt ∧ z9.toInt ≤ 31 := by rw [h_z9]; exact own_len hex (by decide)
  obtain ⟨T9, h9, k9, X9, e9, E9, A9, st9⟩ := newP X8 hx hZ (hw _ (List.mem_of_getElem? (i := 43) rfl)) eq8 (g := (mkF m 56 #[rv a, .val (.long x), .second, .unset] [(.int z9), (.ref a)])) rfl (hb hby d3_56) rfl (own_nn hz) (cap := 31) (own_cap hz) (by decide) (by decide) (by decide)
  obtain ⟨b9, gx9⟩ : ∃ z, z = h0.size := ⟨_, rfl⟩
  rw [← gx9] at A9 st9
  have ne9_a : a ≠ b9 := Nat.ne_of_lt (Nat.lt_of_lt_of_eq p_0.lt gx9.symm)
  have gg9 : n0 ≤ b9 := Nat.le_trans Z0 (Nat.le_of_eq gx9.symm)
  have sz9 : h0.size ≤ b9 := Nat.le_trans (Keep.refl h0 [a]).1 (Nat.le_of_eq gx9.symm)
  have f9_0 := p_0.ext E9
  have f9_1 := p_2.ext E9
  have f9_2 := p_3.ext E9
  have f9_3 := p_4.ext E9
  have f9_4 := p_5.ext E9
  have Zs9 : n0 ≤ h9.size := Nat.le_trans Z0 E9.1
  have K9 := (Keep.refl h0 [a]).ext E9
  have V9 : Arv Z h9 b9 k9 .long z9 [(.long (0 : Int64)), (.long (0 : Int64)), (.long (0 : Int64)), (.long (0 : Int64))] (.long (0 : Int64)) := (Arv.new A9 (own_nn hz)).pad (pad_rep [] (.long (0 : Int64)) 4)
  refine own_st st9 ?_
  show own_Goes p e below s (Q3_3n Z a x ex f h0 n0) rRrm3_3n.cells rRrm3_3n.slots T9 (mkF m 58 #[rv a, .val (.long x), .second, .unset] [(.ref b9), (.ref a)])
  obtain ⟨T10, h10, X10, e10, W10, st10⟩ := putF X9 hx hZ hown (host := "") (Or.inl (hw _ (List.mem_of_getElem? (i := 31) rfl))) Via.refl e9 f9_3 f9_0 (Or.inl (hw _ (List.mem_of_getElem? (i := 32) rfl))) (hw _ (List.mem_of_getElem? (i := 2) rfl)) (ty := (.array .long)) (by decide) rfl rfl (g := (mkF m 58 #[rv a, .val (.long x), .second, .unset] [(.ref b9), (.ref a)])) rfl rfl (hb hby d3_58)
  have fw10 : Fld Z h10 a "com/example/graphbind/graphbind/RunningLongs" "values" "[J" (.ref b9) := f9_3.same W10
  have f10_0 := f9_0.wr W10
  have f10_1 := f9_1.other W10 (Or.inr (slot_ne (Or.inl (hw _ (List.mem_of_getElem? (i := 28) rfl))) (Or.inl (hw _ (List.mem_of_getElem? (i := 32) rfl))) (by decide) (t := .int) (t' := (.array .long)) (by decide) (by decide)))
  have f10_2 := f9_2.other W10 (Or.inr (slot_ne (Or.inl (hw _ (List.mem_of_getElem? (i := 30) rfl))) (Or.inl (hw _ (List.mem_of_getElem? (i := 32) rfl))) (by decide) (t := .long) (t' := (.array .long)) (by decide) (by decide)))
  have f10_4 := f9_4.other W10 (Or.inr (slot_ne (Or.inr (hw _ (List.mem_of_getElem? (i := 21) rfl))) (Or.inl (hw _ (List.mem_of_getElem? (i := 32) rfl))) (by decide) (t := .int) (t' := (.array .long)) (by decide) (by decide)))
  have f10_5 := V9.other W10 (Ne.symm ne9_a)
  have Zs10 : n0 ≤ h10.size := Nat.le_trans Zs9 (Nat.le_of_eq W10.size.symm)
  have K10 := K9.wr W10 (Or.inl (List.mem_of_getElem? (i := 0) rfl))
  have N10 := Fr.snoc X10 N8 p_1
  refine own_st st10 ?_
  show own_Goes p e below s (Q3_3n Z a x ex f h0 n0) rRrm3_3n.cells rRrm3_3n.slots T10 (mkF m 61 #[rv a, .val (.long x), .second, .unset] [])
  refine own_st (fun _ kk_ => XS.iconst X10.here hx rfl (hb hby d3_61) (XS.istoreN X10.here hx rfl (hb hby d3_62) rfl (l' := #[rv a, .val (.long x), .second, iv (0 : Int32)]) rfl (XS.iloadN X10.here hx rfl (hb hby d3_63) rfl (XS.aloadN X10.here hx rfl (hb hby d3_64) rfl rfl kk_)))) ?_
  show own_Goes p e below s (Q3_3n Z a x ex f h0 n0) rRrm3_3n.cells rRrm3_3n.slots T10 (mkF m 65 #[rv a, .val (.long x), .second, iv (0 : Int32)] [(.ref a), (.int (0 : Int32))])
  obtain ⟨T11, X11, e11, st11⟩ := getF X10 hx hZ hown (host := "") (Or.inl (hw _ (List.mem_of_getElem? (i := 27) rfl))) Via.refl e10 f10_1 (g := (mkF m 65 #[rv a, .val (.long x), .second, iv (0 : Int32)] [(.ref a), (.int (0 : Int32))])) rfl rfl (hb hby d3_65)
  refine own_st st11 ?_
  show own_Goes p e below s (Q3_3n Z a x ex f h0 n0) rRrm3_3n.cells rRrm3_3n.slots T11 (mkF m 68 #[rv a, .val (.long x), .second, iv (0 : Int32)] [(.int (3 : Int32)), (.int (0 : Int32))])
  refine own_st (fun _ kk_ => XS.icmpNo X11.here hx rfl (hb hby d3_68) rfl (XT.ii_ge_f (by decide)) (XS.aloadN X11.here hx rfl (hb hby d3_71) rfl rfl kk_)) ?_
  show own_Goes p e below s (Q3_3n Z a x ex f h0 n0) rRrm3_3n.cells rRrm3_3n.slots T11 (mkF m 72 #[rv a, .val (.long x), .second, iv (0 : Int32)] [(.ref a)])
  obtain ⟨T12, X12, e12, st12⟩ := getF X11 hx hZ hown (host := "") (Or.inl (hw _ (List.mem_of_getElem? (i := 31) rfl))) Via.refl e11 fw10 (g := (mkF m 72 #[rv a, .val (.long x), .second, iv (0 : Int32)] [(.ref a)])) rfl rfl (hb hby d3_72)
  refine own_st st12 ?_
  show own_Goes p e below s (Q3_3n Z a x ex f h0 n0) rRrm3_3n.cells rRrm3_3n.slots T12 (mkF m 75 #[rv a, .val (.long x), .second, iv (0 : Int32)] [(.ref b9)])
  refine own_st (fun _ kk_ => XS.iloadN X12.here hx rfl (hb hby d3_75) rfl (XS.aloadN X12.here hx rfl (hb hby d3_76) rfl rfl kk_)) ?_
  show own_Goes p e below s (Q3_3n Z a x ex f h0 n0) rRrm3_3n.cells rRrm3_3n.slots T12 (mkF m 77 #[rv a, .val (.long x), .second, iv (0 : Int32)] [(.ref a), (.int (0 : Int32)), (.ref b9)])
  obtain ⟨T13, X13, e13, st13⟩ := getF X12 hx hZ hown (host := "") (Or.inl (hw _ (List.mem_of_getElem? (i := 29) rfl))) Via.refl e12 f10_2 (g := (mkF m 77 #[rv a, .val (.long x), .second, iv (0 : Int32)] [(.ref a), (.int (0 : Int32)), (.ref b9)])) rfl rfl (hb hby d3_77)
  refine own_st st13 ?_
  show own_Goes p e below s (Q3_3n Z a x ex f h0 n0) rRrm3_3n.cells rRrm3_3n.slots T13 (mkF m 80 #[rv a, .val (.long x), .second, iv (0 : Int32)] [(.long f), (.int (0 : Int32)), (.ref b9)])
  refine own_st (fun _ kk_ => XS.iloadN X13.here hx rfl (hb hby d3_80) rfl (XS.i2l X13.here hx rfl (hb hby d3_81) rfl (XS.ladd X13.here hx rfl (hb hby d3_82) rfl kk_))) ?_
  show own_Goes p e below s (Q3_3n Z a x ex f h0 n0) rRrm3_3n.cells rRrm3_3n.slots T13 (mkF m 83 #[rv a, .val (.long x), .second, iv (0 : Int32)] [(.long (f + ((0 : Int32).toInt64))), (.int (0 : Int32)), (.ref b9)])
  obtain ⟨cl14, Ar14, q14, Sz14, Nn14, Hh14, Gg14⟩ := id f10_5
  obtain ⟨T14, h14, X14, e14, W14, st14⟩ := stJ X13 hx hZ e13 Ar14 (j := (0 : Int32)) (inb_of Sz14 ⟨by decide, own_lt hz (by decide)⟩) (g := (mkF m 83 #[rv a, .val (.long x), .second, iv (0 : Int32)] [(.long (f + ((0 : Int32).toInt64))), (.int (0 : Int32)), (.ref b9)])) rfl rfl (hb hby d3_83)
  have V14 : Arv Z h14 b9 k9 .long z9 [(.long (f + ((0 : Int32).toInt64))), (.long (0 : Int64)), (.long (0 : Int64)), (.long (0 : Int64))] (.long (0 : Int64)) := Arv.set Ar14 q14 Sz14 Nn14 Hh14 Gg14 rfl W14 0 rfl (Nat.le_of_ble_eq_true rfl)
  have f14_0 := f10_0.wr W14
  have f14_1 := f10_1.other W14 (Or.inl ne9_a)
  have f14_2 := f10_2.other W14 (Or.inl ne9_a)
  have f14_3 := f10_4.other W14 (Or.inl ne9_a)
  have f14_5 := fw10.other W14 (Or.inl ne9_a)
  have Zs14 : n0 ≤ h14.size := Nat.le_trans Zs10 (Nat.le_of_eq W14.size.symm)
  have K14 := K10.wr W14 (Or.inr sz9)
  have N14 := Fr.snoc X14 N10 gg9
  refine own_st st14 ?_
  show own_Goes p e below s (Q3_3n Z a x ex f h0 n0) rRrm3_3n.cells rRrm3_3n.slots T14 (mkF m 84 #[rv a, .val (.long x), .second, iv (0 : Int32)] [])
  refine own_st (fun _ kk_ => XS.iinc X14.here hx rfl (hb hby d3_84) rfl (l' := #[rv a, .val (.long x), .second, iv (1 : Int32)]) rfl (XS.goto X14.here hx rfl (pc0 := 87) (pc' := 63) rfl (hb hby d3_87) (by decide) (by decide) (XS.iloadN X14.here hx rfl (hb hby d3_63) rfl (XS.aloadN X14.here hx rfl (hb hby d3_64) rfl rfl kk_)))) ?_
  show own_Goes p e below s (Q3_3n Z a x ex f h0 n0) rRrm3_3n.cells rRrm3_3n.slots T14 (mkF m 65 #[rv a, .val (.long x), .second, iv (1 : Int32)] [(.ref a), (.int (1 : Int32))])
  obtain ⟨T15, X15, e15, st15⟩ := getF X14 hx hZ hown (host := "") (Or.inl (hw _ (List.mem_of_getElem? (i := 27) rfl))) Via.refl e14 f14_1 (g := (mkF m 65 #[rv a, .val (.long x), .second, iv (1 : Int32)] [(.ref a), (.int (1 : Int32))])) rfl rfl (hb hby d3_65)
  refine own_st st15 ?_
  show own_Goes p e below s (Q3_3n Z a x ex f h0 n0) rRrm3_3n.cells rRrm3_3n.slots T15 (mkF m 68 #[rv a, .val (.long x), .second, iv (1 : Int32)] [(.int (3 : Int32)), (.int (1 : Int32))])
  refine own_st (fun _ kk_ => XS.icmpNo X15.here hx rfl (hb hby d3_68) rfl (XT.ii_ge_f (by decide)) (XS.aloadN X15.here hx rfl (hb hby d3_71) rfl rfl kk_)) ?_
  show own_Goes p e below s (Q3_3n Z a x ex f h0 n0) rRrm3_3n.cells rRrm3_3n.slots T15 (mkF m 72 #[rv a, .val (.long x), .second, iv (1 : Int32)] [(.ref a)])
  obtain ⟨T16, X16, e16, st16⟩ := getF X15 hx hZ hown (host := "") (Or.inl (hw _ (List.mem_of_getElem? (i := 31) rfl))) Via.refl e15 f14_5 (g := (mkF m 72 #[rv a, .val (.long x), .second, iv (1 : Int32)] [(.ref a)])) rfl rfl (hb hby d3_72)
  refine own_st st16 ?_
  show own_Goes p e below s (Q3_3n Z a x ex f h0 n0) rRrm3_3n.cells rRrm3_3n.slots T16 (mkF m 75 #[rv a, .val (.long x), .second, iv (1 : Int32)] [(.ref b9)])
  refine own_st (fun _ kk_ => XS.iloadN X16.here hx rfl (hb hby d3_75) rfl (XS.aloadN X16.here hx rfl (hb hby d3_76) rfl rfl kk_)) ?_
  show own_Goes p e below s (Q3_3n Z a x ex f h0 n0) rRrm3_3n.cells rRrm3_3n.slots T16 (mkF m 77 #[rv a, .val (.long x), .second, iv (1 : Int32)] [(.ref a), (.int (1 : Int32)), (.ref b9)])
  obtain ⟨T17, X17, e17, st17⟩ := getF X16 hx hZ hown (host := "") (Or.inl (hw _ (List.mem_of_getElem? (i := 29) rfl))) Via.refl e16 f14_2 (g := (mkF m 77 #[rv a, .val (.long x), .second, iv (1 : Int32)] [(.ref a), (.int (1 : Int32)), (.ref b9)])) rfl rfl (hb hby d3_77)
  refine own_st st17 ?_
  show own_Goes p e below s (Q3_3n Z a x ex f h0 n0) rRrm3_3n.cells rRrm3_3n.slots T17 (mkF m 80 #[rv a, .val (.long x), .second, iv (1 : Int32)] [(.long f), (.int (1 : Int32)), (.ref b9)])
  refine own_st (fun _ kk_ => XS.iloadN X17.here hx rfl (hb hby d3_80) rfl (XS.i2l X17.here hx rfl (hb hby d3_81) rfl (XS.ladd X17.here hx rfl (hb hby d3_82) rfl kk_))) ?_
  show own_Goes p e below s (Q3_3n Z a x ex f h0 n0) rRrm3_3n.cells rRrm3_3n.slots T17 (mkF m 83 #[rv a, .val (.long x), .second, iv (1 : Int32)] [(.long (f + ((1 : Int32).toInt64))), (.int (1 : Int32)), (.ref b9)])
  obtain ⟨cl18, Ar18, q18, Sz18, Nn18, Hh18, Gg18⟩ := id V14
  obtain ⟨T18, h18, X18, e18, W18, st18⟩ := stJ X17 hx hZ e17 Ar18 (j := (1 : Int32)) (inb_of Sz18 ⟨by decide, own_lt hz (by decide)⟩) (g := (mkF m 83 #[rv a, .val (.long x), .second, iv (1 : Int32)] [(.long (f + ((1 : Int32).toInt64))), (.int (1 : Int32)), (.ref b9)])) rfl rfl (hb hby d3_83)
  have V18 : Arv Z h18 b9 k9 .long z9 [(.long (f + ((0 : Int32).toInt64))), (.long (f + ((1 : Int32).toInt64))), (.long (0 : Int64)), (.long (0 : Int64))] (.long (0 : Int64)) := Arv.set Ar18 q18 Sz18 Nn18 Hh18 Gg18 rfl W18 1 rfl (Nat.le_of_ble_eq_true rfl)
  have f18_0 := f14_0.wr W18
  have f18_1 := f14_1.other W18 (Or.inl ne9_a)
  have f18_2 := f14_2.other W18 (Or.inl ne9_a)
  have f18_3 := f14_3.other W18 (Or.inl ne9_a)
  have f18_4 := f14_5.other W18 (Or.inl ne9_a)
  have Zs18 : n0 ≤ h18.size := Nat.le_trans Zs14 (Nat.le_of_eq W18.size.symm)
  have K18 := K14.wr W18 (Or.inr sz9)
  have N18 := Fr.snoc X18 N14 gg9
  refine own_st st18 ?_
  show own_Goes p e below s (Q3_3n Z a x ex f h0 n0) rRrm3_3n.cells rRrm3_3n.slots T18 (mkF m 84 #[rv a, .val (.long x), .second, iv (1 : Int32)] [])
  refine own_st (fun _ kk_ => XS.iinc X18.here hx rfl (hb hby d3_84) rfl (l' := #[rv a, .val (.long x), .second, iv (2 : Int32)]) rfl (XS.goto X18.here hx rfl (pc0 := 87) (pc' := 63) rfl (hb hby d3_87) (by decide) (by decide) (XS.iloadN X18.here hx rfl (hb hby d3_63) rfl (XS.aloadN X18.here hx rfl (hb hby d3_64) rfl rfl kk_)))) ?_
  show own_Goes p e below s (Q3_3n Z a x ex f h0 n0) rRrm3_3n.cells rRrm3_3n.slots T18 (mkF m 65 #[rv a, .val (.long x), .second, iv (2 : Int32)] [(.ref a), (.int (2 : Int32))])
  obtain ⟨T19, X19, e19, st19⟩ := getF X18 hx hZ hown (host := "") (Or.inl (hw _ (List.mem_of_getElem? (i := 27) rfl))) Via.refl e18 f18_1 (g := (mkF m 65 #[rv a, .val (.long x), .second, iv (2 : Int32)] [(.ref a), (.int (2 : Int32))])) rfl rfl (hb hby d3_65)
  refine own_st st19 ?_
  show own_Goes p e below s (Q3_3n Z a x ex f h0 n0) rRrm3_3n.cells rRrm3_3n.slots T19 (mkF m 68 #[rv a, .val (.long x), .second, iv (2 : Int32)] [(.int (3 : Int32)), (.int (2 : Int32))])
  refine own_st (fun _ kk_ => XS.icmpNo X19.here hx rfl (hb hby d3_68) rfl (XT.ii_ge_f (by decide)) (XS.aloadN X19.here hx rfl (hb hby d3_71) rfl rfl kk_)) ?_
  show own_Goes p e below s (Q3_3n Z a x ex f h0 n0) rRrm3_3n.cells rRrm3_3n.slots T19 (mkF m 72 #[rv a, .val (.long x), .second, iv (2 : Int32)] [(.ref a)])
  obtain ⟨T20, X20, e20, st20⟩ := getF X19 hx hZ hown (host := "") (Or.inl (hw _ (List.mem_of_getElem? (i := 31) rfl))) Via.refl e19 f18_4 (g := (mkF m 72 #[rv a, .val (.long x), .second, iv (2 : Int32)] [(.ref a)])) rfl rfl (hb hby d3_72)
  refine own_st st20 ?_
  show own_Goes p e below s (Q3_3n Z a x ex f h0 n0) rRrm3_3n.cells rRrm3_3n.slots T20 (mkF m 75 #[rv a, .val (.long x), .second, iv (2 : Int32)] [(.ref b9)])
  refine own_st (fun _ kk_ => XS.iloadN X20.here hx rfl (hb hby d3_75) rfl (XS.aloadN X20.here hx rfl (hb hby d3_76) rfl rfl kk_)) ?_
  show own_Goes p e below s (Q3_3n Z a x ex f h0 n0) rRrm3_3n.cells rRrm3_3n.slots T20 (mkF m 77 #[rv a, .val (.long x), .second, iv (2 : Int32)] [(.ref a), (.int (2 : Int32)), (.ref b9)])
  obtain ⟨T21, X21, e21, st21⟩ := getF X20 hx hZ hown (host := "") (Or.inl (hw _ (List.mem_of_getElem? (i := 29) rfl))) Via.refl e20 f18_2 (g := (mkF m 77 #[rv a, .val (.long x), .second, iv (2 : Int32)] [(.ref a), (.int (2 : Int32)), (.ref b9)])) rfl rfl (hb hby d3_77)
  refine own_st st21 ?_
  show own_Goes p e below s (Q3_3n Z a x ex f h0 n0) rRrm3_3n.cells rRrm3_3n.slots T21 (mkF m 80 #[rv a, .val (.long x), .second, iv (2 : Int32)] [(.long f), (.int (2 : Int32)), (.ref b9)])
  refine own_st (fun _ kk_ => XS.iloadN X21.here hx rfl (hb hby d3_80) rfl (XS.i2l X21.here hx rfl (hb hby d3_81) rfl (XS.ladd X21.here hx rfl (hb hby d3_82) rfl kk_))) ?_
  show own_Goes p e below s (Q3_3n Z a x ex f h0 n0) rRrm3_3n.cells rRrm3_3n.slots T21 (mkF m 83 #[rv a, .val (.long x), .second, iv (2 : Int32)] [(.long (f + ((2 : Int32).toInt64))), (.int (2 : Int32)), (.ref b9)])
  obtain ⟨cl22, Ar22, q22, Sz22, Nn22, Hh22, Gg22⟩ := id V18
  obtain ⟨T22, h22, X22, e22, W22, st22⟩ := stJ X21 hx hZ e21 Ar22 (j := (2 : Int32)) (inb_of Sz22 ⟨by decide, own_lt hz (by decide)⟩) (g := (mkF m 83 #[rv a, .val (.long x), .second, iv (2 : Int32)] [(.long (f + ((2 : Int32).toInt64))), (.int (2 : Int32)), (.ref b9)])) rfl rfl (hb hby d3_83)
  have V22 : Arv Z h22 b9 k9 .long z9 [(.long (f + ((0 : Int32).toInt64))), (.long (f + ((1 : Int32).toInt64))), (.long (f + ((2 : Int32).toInt64))), (.long (0 : Int64))] (.long (0 : Int64)) := Arv.set Ar22 q22 Sz22 Nn22 Hh22 Gg22 rfl W22 2 rfl (Nat.le_of_ble_eq_true rfl)
  have f22_0 := f18_0.wr W22
  have f22_1 := f18_1.other W22 (Or.inl ne9_a)
  have f22_2 := f18_2.other W22 (Or.inl ne9_a)
  have f22_3 := f18_3.other W22 (Or.inl ne9_a)
  have f22_4 := f18_4.other W22 (Or.inl ne9_a)
  have Zs22 : n0 ≤ h22.size := Nat.le_trans Zs18 (Nat.le_of_eq W22.size.symm)
  have K22 := K18.wr W22 (Or.inr sz9)
  have N22 := Fr.snoc X22 N18 gg9
  refine own_st st22 ?_
  show own_Goes p e below s (Q3_3n Z a x ex f h0 n0) rRrm3_3n.cells rRrm3_3n.slots T22 (mkF m 84 #[rv a, .val (.long x), .second, iv (2 : Int32)] [])
  refine own_st (fun _ kk_ => XS.iinc X22.here hx rfl (hb hby d3_84) rfl (l' := #[rv a, .val (.long x), .second, iv (3 : Int32)]) rfl (XS.goto X22.here hx rfl (pc0 := 87) (pc' := 63) rfl (hb hby d3_87) (by decide) (by decide) (XS.iloadN X22.here hx rfl (hb hby d3_63) rfl (XS.aloadN X22.here hx rfl (hb hby d3_64) rfl rfl kk_)))) ?_
  show own_Goes p e below s (Q3_3n Z a x ex f h0 n0) rRrm3_3n.cells rRrm3_3n.slots T22 (mkF m 65 #[rv a, .val (.long x), .second, iv (3 : Int32)] [(.ref a), (.int (3 : Int32))])
  obtain ⟨T23, X23, e23, st23⟩ := getF X22 hx hZ hown (host := "") (Or.inl (hw _ (List.mem_of_getElem? (i := 27) rfl))) Via.refl e22 f22_1 (g := (mkF m 65 #[rv a, .val (.long x), .second, iv (3 : Int32)] [(.ref a), (.int (3 : Int32))])) rfl rfl (hb hby d3_65)
  refine own_st st23 ?_
  show own_Goes p e below s (Q3_3n Z a x ex f h0 n0) rRrm3_3n.cells rRrm3_3n.slots T23 (mkF m 68 #[rv a, .val (.long x), .second, iv (3 : Int32)] [(.int (3 : Int32)), (.int (3 : Int32))])
  refine own_st (fun _ kk_ => XS.icmpYes X23.here hx rfl (pc0 := 68) (pc' := 90) rfl (hb hby d3_68) rfl (XT.ii_ge_t (by decide)) (by decide) (by decide) (XS.aloadN X23.here hx rfl (hb hby d3_90) rfl rfl kk_)) ?_
  show own_Goes p e below s (Q3_3n Z a x ex f h0 n0) rRrm3_3n.cells rRrm3_3n.slots T23 (mkF m 91 #[rv a, .val (.long x), .second, iv (3 : Int32)] [(.ref a)])
  obtain ⟨T24, X24, e24, st24⟩ := getF X23 hx hZ hown (host := "") (Or.inl (hw _ (List.mem_of_getElem? (i := 31) rfl))) Via.refl e23 f22_4 (g := (mkF m 91 #[rv a, .val (.long x), .second, iv (3 : Int32)] [(.ref a)])) rfl rfl (hb hby d3_91)
  refine own_st st24 ?_
  show own_Goes p e below s (Q3_3n Z a x ex f h0 n0) rRrm3_3n.cells rRrm3_3n.slots T24 (mkF m 94 #[rv a, .val (.long x), .second, iv (3 : Int32)] [(.ref b9)])
  refine own_st (fun _ kk_ => XS.ifnullNo X24.here hx rfl (hb hby d3_94) rfl (XS.aloadN X24.here hx rfl (hb hby d3_97) rfl rfl kk_)) ?_
  show own_Goes p e below s (Q3_3n Z a x ex f h0 n0) rRrm3_3n.cells rRrm3_3n.slots T24 (mkF m 98 #[rv a, .val (.long x), .second, iv (3 : Int32)] [(.ref a)])
  obtain ⟨T25, X25, e25, st25⟩ := getF X24 hx hZ hown (host := "") (Or.inl (hw _ (List.mem_of_getElem? (i := 27) rfl))) Via.refl e24 f22_1 (g := (mkF m 98 #[rv a, .val (.long x), .second, iv (3 : Int32)] [(.ref a)])) rfl rfl (hb hby d3_98)
  refine own_st st25 ?_
  show own_Goes p e below s (Q3_3n Z a x ex f h0 n0) rRrm3_3n.cells rRrm3_3n.slots T25 (mkF m 101 #[rv a, .val (.long x), .second, iv (3 : Int32)] [(.int (3 : Int32))])
  refine own_st (fun _ kk_ => XS.aloadN X25.here hx rfl (hb hby d3_101) rfl rfl kk_) ?_
  show own_Goes p e below s (Q3_3n Z a x ex f h0 n0) rRrm3_3n.cells rRrm3_3n.slots T25 (mkF m 102 #[rv a, .val (.long x), .second, iv (3 : Int32)] [(.ref a), (.int (3 : Int32))])
  obtain ⟨T26, X26, e26, st26⟩ := getF X25 hx hZ hown (host := "") (Or.inl (hw _ (List.mem_of_getElem? (i := 31) rfl))) Via.refl e25 f22_4 (g := (mkF m 102 #[rv a, .val (.long x), .second, iv (3 : Int32)] [(.ref a), (.int (3 : Int32))])) rfl rfl (hb hby d3_102)
  refine own_st st26 ?_
  show own_Goes p e below s (Q3_3n Z a x ex f h0 n0) rRrm3_3n.cells rRrm3_3n.slots T26 (mkF m 105 #[rv a, .val (.long x), .second, iv (3 : Int32)] [(.ref b9), (.int (3 : Int32))])
  obtain ⟨cl27, Ar27, -, Sz27, Nn27, -, -⟩ := id V22
  refine own_st (fun _ kk_ => X26.arraylength hx (by rw [e26]; exact Ar27.1) (State.isArrayOf_alike hZ.alike Ar27.2.1) (g := (mkF m 105 #[rv a, .val (.long x), .second, iv (3 : Int32)] [(.ref b9), (.int (3 : Int32))])) rfl rfl (hb hby d3_105) _ kk_) ?_
  rw [len_of Sz27 Nn27]
  show own_Goes p e below s (Q3_3n Z a x ex f h0 n0) rRrm3_3n.cells rRrm3_3n.slots T26 (mkF m 106 #[rv a, .val (.long x), .second, iv (3 : Int32)] [(.int z9), (.int (3 : Int32))])
  refine own_st (fun _ kk_ => XS.icmpYes X26.here hx rfl (pc0 := 106) (pc' := 127) rfl (hb hby d3_106) rfl (XT.ii_ne_t (own_ne hz (by decide))) (by decide) (by decide) (XS.aloadN X26.here hx rfl (hb hby d3_127) rfl rfl kk_)) ?_
  show own_Goes p e below s (Q3_3n Z a x ex f h0 n0) rRrm3_3n.cells rRrm3_3n.slots T26 (mkF m 128 #[rv a, .val (.long x), .second, iv (3 : Int32)] [(.ref a)])
  obtain ⟨T28, X28, e28, st28⟩ := getF X26 hx hZ hown (host := "") (Or.inl (hw _ (List.mem_of_getElem? (i := 31) rfl))) Via.refl e26 f22_4 (g := (mkF m 128 #[rv a, .val (.long x), .second, iv (3 : Int32)] [(.ref a)])) rfl rfl (hb hby d3_128)
  refine own_st st28 ?_
  show own_Goes p e below s (Q3_3n Z a x ex f h0 n0) rRrm3_3n.cells rRrm3_3n.slots T28 (mkF m 131 #[rv a, .val (.long x), .second, iv (3 : Int32)] [(.ref b9)])
  refine own_st (fun _ kk_ => XS.aloadN X28.here hx rfl (hb hby d3_131) rfl rfl kk_) ?_
  show own_Goes p e below s (Q3_3n Z a x ex f h0 n0) rRrm3_3n.cells rRrm3_3n.slots T28 (mkF m 132 #[rv a, .val (.long x), .second, iv (3 : Int32)] [(.ref a), (.ref b9)])
  obtain ⟨T29, X29, e29, st29⟩ := getF X28 hx hZ hown (host := "") (Or.inl (hw _ (List.mem_of_getElem? (i := 27) rfl))) Via.refl e28 f22_1 (g := (mkF m 132 #[rv a, .val (.long x), .second, iv (3 : Int32)] [(.ref a), (.ref b9)])) rfl rfl (hb hby d3_132)
  refine own_st st29 ?_
  show own_Goes p e below s (Q3_3n Z a x ex f h0 n0) rRrm3_3n.cells rRrm3_3n.slots T29 (mkF m 135 #[rv a, .val (.long x), .second, iv (3 : Int32)] [(.int (3 : Int32)), (.ref b9)])
  refine own_st (fun _ kk_ => XS.lloadN X29.here hx rfl (hb hby d3_135) rfl kk_) ?_
  show own_Goes p e below s (Q3_3n Z a x ex f h0 n0) rRrm3_3n.cells rRrm3_3n.slots T29 (mkF m 136 #[rv a, .val (.long x), .second, iv (3 : Int32)] [(.long x), (.int (3 : Int32)), (.ref b9)])
  obtain ⟨cl30, Ar30, q30, Sz30, Nn30, Hh30, Gg30⟩ := id V22
  obtain ⟨T30, h30, X30, e30, W30, st30⟩ := stJ X29 hx hZ e29 Ar30 (j := (3 : Int32)) (inb_of Sz30 ⟨by decide, own_lt hz (by decide)⟩) (g := (mkF m 136 #[rv a, .val (.long x), .second, iv (3 : Int32)] [(.long x), (.int (3 : Int32)), (.ref b9)])) rfl rfl (hb hby d3_136)
  have V30 : Arv Z h30 b9 k9 .long z9 [(.long (f + ((0 : Int32).toInt64))), (.long (f + ((1 : Int32).toInt64))), (.long (f + ((2 : Int32).toInt64))), (.long x)] (.long (0 : Int64)) := Arv.set Ar30 q30 Sz30 Nn30 Hh30 Gg30 rfl W30 3 rfl (Nat.le_of_ble_eq_true rfl)
  have f30_0 := f22_0.wr W30
  have f30_1 := f22_1.other W30 (Or.inl ne9_a)
  have f30_2 := f22_2.other W30 (Or.inl ne9_a)
  have f30_3 := f22_3.other W30 (Or.inl ne9_a)
  have f30_4 := f22_4.other W30 (Or.inl ne9_a)
  have Zs30 : n0 ≤ h30.size := Nat.le_trans Zs22 (Nat.le_of_eq W30.size.symm)
  have K30 := K22.wr W30 (Or.inr sz9)
  have N30 := Fr.snoc X30 N22 gg9
  refine own_st st30 ?_
  show own_Goes p e below s (Q3_3n Z a x ex f h0 n0) rRrm3_3n.cells rRrm3_3n.slots T30 (mkF m 137 #[rv a, .val (.long x), .second, iv (3 : Int32)] [])
  refine own_st (fun _ kk_ => XS.aloadN X30.here hx rfl (hb hby d3_137) rfl rfl (XS.dup X30.here hx rfl (hb hby d3_138) rfl rfl kk_)) ?_
  show own_Goes p e below s (Q3_3n Z a x ex f h0 n0) rRrm3_3n.cells rRrm3_3n.slots T30 (mkF m 139 #[rv a, .val (.long x), .second, iv (3 : Int32)] [(.ref a), (.ref a)])
  obtain ⟨T31, X31, e31, st31⟩ := getF X30 hx hZ hown (host := "") (Or.inl (hw _ (List.mem_of_getElem? (i := 27) rfl))) Via.refl e30 f30_1 (g := (mkF m 139 #[rv a, .val (.long x), .second, iv (3 : Int32)] [(.ref a), (.ref a)])) rfl rfl (hb hby d3_139)
  refine own_st st31 ?_
  show own_Goes p e below s (Q3_3n Z a x ex f h0 n0) rRrm3_3n.cells rRrm3_3n.slots T31 (mkF m 142 #[rv a, .val (.long x), .second, iv (3 : Int32)] [(.int (3 : Int32)), (.ref a)])
  refine own_st (fun _ kk_ => XS.iconst X31.here hx rfl (hb hby d3_142) (XS.iadd X31.here hx rfl (hb hby d3_143) rfl kk_)) ?_
  show own_Goes p e below s (Q3_3n Z a x ex f h0 n0) rRrm3_3n.cells rRrm3_3n.slots T31 (mkF m 144 #[rv a, .val (.long x), .second, iv (3 : Int32)] [(.int (4 : Int32)), (.ref a)])
  obtain ⟨T32, h32, X32, e32, W32, st32⟩ := putF X31 hx hZ hown (host := "") (Or.inl (hw _ (List.mem_of_getElem? (i := 27) rfl))) Via.refl e31 f30_1 f30_0 (Or.inl (hw _ (List.mem_of_getElem? (i := 28) rfl))) (hw _ (List.mem_of_getElem? (i := 2) rfl)) (ty := .int) (by decide) rfl rfl (g := (mkF m 144 #[rv a, .val (.long x), .second, iv (3 : Int32)] [(.int (4 : Int32)), (.ref a)])) rfl rfl (hb hby d3_144)
  have fw32 : Fld Z h32 a "com/example/graphbind/graphbind/RunningLongs" "count" "I" (.int (4 : Int32)) := f30_1.same W32
  have f32_0 := f30_0.wr W32
  have f32_2 := f30_2.other W32 (Or.inr (slot_ne (Or.inl (hw _ (List.mem_of_getElem? (i := 30) rfl))) (Or.inl (hw _ (List.mem_of_getElem? (i := 28) rfl))) (by decide) (t := .long) (t' := .int) (by decide) (by decide)))
  have f32_3 := f30_3.other W32 (Or.inr (slot_ne (Or.inr (hw _ (List.mem_of_getElem? (i := 21) rfl))) (Or.inl (hw _ (List.mem_of_getElem? (i := 28) rfl))) (by decide) (t := .int) (t' := .int) (by decide) (by decide)))
  have f32_4 := f30_4.other W32 (Or.inr (slot_ne (Or.inl (hw _ (List.mem_of_getElem? (i := 32) rfl))) (Or.inl (hw _ (List.mem_of_getElem? (i := 28) rfl))) (by decide) (t := (.array .long)) (t' := .int) (by decide) (by decide)))
  have f32_5 := V30.other W32 (Ne.symm ne9_a)
  have Zs32 : n0 ≤ h32.size := Nat.le_trans Zs30 (Nat.le_of_eq W32.size.symm)
  have K32 := K30.wr W32 (Or.inl (List.mem_of_getElem? (i := 0) rfl))
  have N32 := Fr.snoc X32 N30 p_1
  refine own_st st32 ?_
  show own_Goes p e below s (Q3_3n Z a x ex f h0 n0) rRrm3_3n.cells rRrm3_3n.slots T32 (mkF m 147 #[rv a, .val (.long x), .second, iv (3 : Int32)] [])
  refine own_ret0 X32 hx hlk Bd.returns (hb hby d3_147) (by decide) (by decide) ?_
  show Q3_3n Z a x ex f h0 n0 none T32.heap _
  rw [e32]
  exact ⟨b9, z9, k9, rfl, N32, K32, fw32, f32_2, f32_4, f32_3, sz9, hz, f32_5⟩
abbrev rRrm3_2a : Room := { frames := 0, cells := 0, slots := 0, locals := 0 }
theorem pn_rm3_2a : plainFor (⟨"com/example/graphbind/graphbind/RunningLongs", "add", "(J)V"⟩ : MethodName) = true := by first | exact plainFor_of_name (by first | (simp [plainName, overriddenIn]; done) | decide +kernel) | decide +kernel
theorem ef_rm3_2a (m : MethodId) (a : Addr) (x : Int64) : entryFrame m #[(.ref a), (.long x)] 4 = (mkF m 0 #[rv a, .val (.long x), .second, .unset] []) := by first | (simp [entryFrame, mkF, argsToLocals, Value.category]; done) | rfl
def Q3_2a (Z : State) (a : Addr) (x : Int64) (ex : Int32) (f : Int64) (ar : Addr) (z9 : Int32) (kc : ClassId) (ev0 : Int64) (ev1 : Int64) (ev2 : Int64) (ev3 : Int64) (h0 : Heap) (n0 : Nat) (v_ : Option Value) (h_ : Heap) (L_ : List Loc) : Prop := (v_ = none) ∧ (Fr n0 L_) ∧ (Keep h0 h_ [a, ar]) ∧ (Fld Z h_ a "com/example/graphbind/graphbind/RunningLongs" "count" "I" (.int (3 : Int32))) ∧ (Fld Z h_ a "com/example/graphbind/graphbind/RunningLongs" "first" "J" (.long f)) ∧ (Fld Z h_ a "com/example/graphbind/graphbind/RunningLongs" "values" "[J" (.ref ar)) ∧ (Fld Z h_ a "com/example/graphbind/graphbind/RunningLongs" "expected" "I" (.int ex)) ∧ (Arv Z h_ ar kc .long z9 [(.long ev0), (.long ev1), (.long x), (.long ev3)] (.long (0 : Int64)))
set_option maxRecDepth 65536 in
set_option maxHeartbeats 40000000 in
theorem rm3_2a (l : Launch) (Z : State) (a0 : Array Value) (hw : ∀ d ∈ tables_1, d.before a0 Z = true) (ws : List Jvm.Cond) (a : Addr) (x : Int64) (ex : Int32) (f : Int64) (ar : Addr) (z9 : Int32) (kc : ClassId) (ev0 : Int64) (ev1 : Int64) (ev2 : Int64) (ev3 : Int64) (h0 : Heap) (n0 : Nat) (Z0 : n0 ≤ h0.size) (p_0 : Exa Z h0 a "com/example/graphbind/graphbind/RunningLongs") (p_1 : n0 ≤ a) (p_2 : Fld Z h0 a "com/example/graphbind/graphbind/RunningLongs" "count" "I" (.int (2 : Int32))) (p_3 : Fld Z h0 a "com/example/graphbind/graphbind/RunningLongs" "first" "J" (.long f)) (p_4 : Fld Z h0 a "com/example/graphbind/graphbind/RunningLongs" "values" "[J" (.ref ar)) (p_5 : Fld Z h0 a "com/example/graphbind/graphbind/RunningLongs" "expected" "I" (.int ex)) (p_6 : n0 ≤ ar) (p_7 : ar ≠ a) (p_8 : Arv Z h0 ar kc .long z9 [(.long ev0), (.long ev1), (.long ev2), (.long ev3)] (.long (0 : Int64))) (hz : 16 ≤ z9.toInt ∧ z9.toInt ≤ 31) :
    MetFree l (⟨"com/example/graphbind/graphbind/RunningLongs", "add", "(J)V"⟩ : MethodName) (head1 (Jvm.Cond.code (⟨"com/example/graphbind/graphbind/RunningLongs", "add", "(J)V"⟩ : MethodName) prog_67_method_2_code 4 none :: ws) rRrm3_2a) (fun a_ U_ => a_ = #[(.ref a), (.long x)] ∧ Z.Warmed39 U_.vm ∧ U_.heap = h0) (fun _ _ _ _ _ => True) (fun _ U_ o_ U1_ => ∃ v_ L_, o_ = .returned v_ ∧ Q3_2a Z a x ex f ar z9 kc ev0 ev1 ev2 ev3 h0 n0 v_ U1_.heap L_ ∧ FrameEnd U_ o_ U1_ L_ rRrm3_2a.cells rRrm3_2a.slots) := by
  refine MetFree.of_bodySF pn_rm3_2a hisR ?_
  intro p e s m args below meth c s₁ Bd hml0 hP hK
  obtain ⟨rfl, hZ, hh⟩ := hP
  have hx := Bd.exec
  have hby := Bd.bytes
  have hlk : meth.locks = false := Bd.notSynchronized
  have hml : c.maxLocals = 4 := hml0
  have hown : s.vm.findClass "com/example/graphbind/graphbind/RunningLongs" = some m.cls := findClass_of_methodNamed Bd.named
  have hnm := (name_of_methodNamed Bd.named Bd.method).1
  have X0 : Stand p l e rRrm3_2a s m #[(.ref a), (.long x)] below meth c s₁ [] 0 0 := Stand.of_body Bd
  have e0 : s₁.heap = h0 := by rw [← hh, Bd.state]; rfl
  have N0 := Fr.nil n0
  show own_Goes p e below s (Q3_2a Z a x ex f ar z9 kc ev0 ev1 ev2 ev3 h0 n0) rRrm3_2a.cells rRrm3_2a.slots s₁ (entryFrame m #[(.ref a), (.long x)] 4)
  rw [ef_rm3_2a m a x]
  show own_Goes p e below s (Q3_2a Z a x ex f ar z9 kc ev0 ev1 ev2 ev3 h0 n0) rRrm3_2a.cells rRrm3_2a.slots s₁ (mkF m 0 #[rv a, .val (.long x), .second, .unset] [])
  refine own_st (fun _ kk_ => XS.aloadN X0.here hx rfl (hb hby d3_0) rfl rfl kk_) ?_
  show own_Goes p e below s (Q3_2a Z a x ex f ar z9 kc ev0 ev1 ev2 ev3 h0 n0) rRrm3_2a.cells rRrm3_2a.slots s₁ (mkF m 1 #[rv a, .val (.long x), .second, .unset] [(.ref a)])
  obtain ⟨T1, X1, e1, st1⟩ := getF X0 hx hZ hown (host := "") (Or.inl (hw _ (List.mem_of_getElem? (i := 27) rfl))) Via.refl e0 p_2 (g := (mkF m 1 #[rv a, .val (.long x), .second, .unset] [(.ref a)])) rfl rfl (hb hby d3_1)
  refine own_st st1 ?_
  show own_Goes p e below s (Q3_2a Z a x ex f ar z9 kc ev0 ev1 ev2 ev3 h0 n0) rRrm3_2a.cells rRrm3_2a.slots T1 (mkF m 4 #[rv a, .val (.long x), .second, .unset] [(.int (2 : Int32))])
  refine own_st (fun _ kk_ => XS.ifYes X1.here hx rfl (pc0 := 4) (pc' := 15) rfl (hb hby d3_4) rfl (XT.i0_ne_t (by decide)) (by decide) (by decide) (XS.aloadN X1.here hx rfl (hb hby d3_15) rfl rfl kk_)) ?_
  show own_Goes p e below s (Q3_2a Z a x ex f ar z9 kc ev0 ev1 ev2 ev3 h0 n0) rRrm3_2a.cells rRrm3_2a.slots T1 (mkF m 16 #[rv a, .val (.long x), .second, .unset] [(.ref a)])
  obtain ⟨T2, X2, e2, st2⟩ := getF X1 hx hZ hown (host := "") (Or.inl (hw _ (List.mem_of_getElem? (i := 31) rfl))) Via.refl e1 p_4 (g := (mkF m 16 #[rv a, .val (.long x), .second, .unset] [(.ref a)])) rfl rfl (hb hby d3_16)
  refine own_st st2 ?_
  show own_Goes p e below s (Q3_2a Z a x ex f ar z9 kc ev0 ev1 ev2 ev3 h0 n0) rRrm3_2a.cells rRrm3_2a.slots T2 (mkF m 19 #[rv a, .val (.long x), .second, .unset] [(.ref ar)])
  refine own_st (fun _ kk_ => XS.ifnonnullYes X2.here hx rfl (pc0 := 19) (pc' := 90) rfl (hb hby d3_19) rfl (by decide) (by decide) (XS.aloadN X2.here hx rfl (hb hby d3_90) rfl rfl kk_)) ?_
  show own_Goes p e below s (Q3_2a Z a x ex f ar z9 kc ev0 ev1 ev2 ev3 h0 n0) rRrm3_2a.cells rRrm3_2a.slots T2 (mkF m 91 #[rv a, .val (.long x), .second, .unset] [(.ref a)])
  obtain ⟨T3, X3, e3, st3⟩ := getF X2 hx hZ hown (host := "") (Or.inl (hw _ (List.mem_of_getElem? (i := 31) rfl))) Via.refl e2 p_4 (g := (mkF m 91 #[rv a, .val (.long x), .second, .unset] [(.ref a)])) rfl rfl (hb hby d3_91)
  refine own_st st3 ?_
  show own_Goes p e below s (Q3_2a Z a x ex f ar z9 kc ev0 ev1 ev2 ev3 h0 n0) rRrm3_2a.cells rRrm3_2a.slots T3 (mkF m 94 #[rv a, .val (.long x), .second, .unset] [(.ref ar)])
  refine own_st (fun _ kk_ => XS.ifnullNo X3.here hx rfl (hb hby d3_94) rfl (XS.aloadN X3.here hx rfl (hb hby d3_97) rfl rfl kk_)) ?_
  show own_Goes p e below s (Q3_2a Z a x ex f ar z9 kc ev0 ev1 ev2 ev3 h0 n0) rRrm3_2a.cells rRrm3_2a.slots T3 (mkF m 98 #[rv a, .val (.long x), .second, .unset] [(.ref a)])
  obtain ⟨T4, X4, e4, st4⟩ := getF X3 hx hZ hown (host := "") (Or.inl (hw _ (List.mem_of_getElem? (i := 27) rfl))) Via.refl e3 p_2 (g := (mkF m 98 #[rv a, .val (.long x), .second, .unset] [(.ref a)])) rfl rfl (hb hby d3_98)
  refine own_st st4 ?_
  show own_Goes p e below s (Q3_2a Z a x ex f ar z9 kc ev0 ev1 ev2 ev3 h0 n0) rRrm3_2a.cells rRrm3_2a.slots T4 (mkF m 101 #[rv a, .val (.long x), .second, .unset] [(.int (2 : Int32))])
  refine own_st (fun _ kk_ => XS.aloadN X4.here hx rfl (hb hby d3_101) rfl rfl kk_) ?_
  show own_Goes p e below s (Q3_2a Z a x ex f ar z9 kc ev0 ev1 ev2 ev3 h0 n0) rRrm3_2a.cells rRrm3_2a.slots T4 (mkF m 102 #[rv a, .val (.long x), .second, .unset] [(.ref a), (.int (2 : Int32))])
  obtain ⟨T5, X5, e5, st5⟩ := getF X4 hx hZ hown (host := "") (Or.inl (hw _ (List.mem_of_getElem? (i := 31) rfl))) Via.refl e4 p_4 (g := (mkF m 102 #[rv a, .val (.long x), .second, .unset] [(.ref a), (.int (2 : Int32))])) rfl rfl (hb hby d3_102)
  refine own_st st5 ?_
  show own_Goes p e below s (Q3_2a Z a x ex f ar z9 kc ev0 ev1 ev2 ev3 h0 n0) rRrm3_2a.cells rRrm3_2a.slots T5 (mkF m 105 #[rv a, .val (.long x), .second, .unset] [(.ref ar), (.int (2 : Int32))])
  obtain ⟨cl6, Ar6, -, Sz6, Nn6, -, -⟩ := id p_8
  refine own_st (fun _ kk_ => X5.arraylength hx (by rw [e5]; exact Ar6.1) (State.isArrayOf_alike hZ.alike Ar6.2.1) (g := (mkF m 105 #[rv a, .val (.long x), .second, .unset] [(.ref ar), (.int (2 : Int32))])) rfl rfl (hb hby d3_105) _ kk_) ?_
  rw [len_of Sz6 Nn6]
  show own_Goes p e below s (Q3_2a Z a x ex f ar z9 kc ev0 ev1 ev2 ev3 h0 n0) rRrm3_2a.cells rRrm3_2a.slots T5 (mkF m 106 #[rv a, .val (.long x), .second, .unset] [(.int z9), (.int (2 : Int32))])
  refine own_st (fun _ kk_ => XS.icmpYes X5.here hx rfl (pc0 := 106) (pc' := 127) rfl (hb hby d3_106) rfl (XT.ii_ne_t (own_ne hz (by decide))) (by decide) (by decide) (XS.aloadN X5.here hx rfl (hb hby d3_127) rfl rfl kk_)) ?_
  show own_Goes p e below s (Q3_2a Z a x ex f ar z9 kc ev0 ev1 ev2 ev3 h0 n0) rRrm3_2a.cells rRrm3_2a.slots T5 (mkF m 128 #[rv a, .val (.long x), .second, .unset] [(.ref a)])
  obtain ⟨T7, X7, e7, st7⟩ := getF X5 hx hZ hown (host := "") (Or.inl (hw _ (List.mem_of_getElem? (i := 31) rfl))) Via.refl e5 p_4 (g := (mkF m 128 #[rv a, .val (.long x), .second, .unset] [(.ref a)])) rfl rfl (hb hby d3_128)
  refine own_st st7 ?_
  show own_Goes p e below s (Q3_2a Z a x ex f ar z9 kc ev0 ev1 ev2 ev3 h0 n0) rRrm3_2a.cells rRrm3_2a.slots T7 (mkF m 131 #[rv a, .val (.long x), .second, .unset] [(.ref ar)])
  refine own_st (fun _ kk_ => XS.aloadN X7.here hx rfl (hb hby d3_131) rfl rfl kk_) ?_
  show own_Goes p e below s (Q3_2a Z a x ex f ar z9 kc ev0 ev1 ev2 ev3 h0 n0) rRrm3_2a.cells rRrm3_2a.slots T7 (mkF m 132 #[rv a, .val (.long x), .second, .unset] [(.ref a), (.ref ar)])
  obtain ⟨T8, X8, e8, st8⟩ := getF X7 hx hZ hown (host := "") (Or.inl (hw _ (List.mem_of_getElem? (i := 27) rfl))) Via.refl e7 p_2 (g := (mkF m 132 #[rv a, .val (.long x), .second, .unset] [(.ref a), (.ref ar)])) rfl rfl (hb hby d3_132)
  refine own_st st8 ?_
  show own_Goes p e below s (Q3_2a Z a x ex f ar z9 kc ev0 ev1 ev2 ev3 h0 n0) rRrm3_2a.cells rRrm3_2a.slots T8 (mkF m 135 #[rv a, .val (.long x), .second, .unset] [(.int (2 : Int32)), (.ref ar)])
  refine own_st (fun _ kk_ => XS.lloadN X8.here hx rfl (hb hby d3_135) rfl kk_) ?_
  show own_Goes p e below s (Q3_2a Z a x ex f ar z9 kc ev0 ev1 ev2 ev3 h0 n0) rRrm3_2a.cells rRrm3_2a.slots T8 (mkF m 136 #[rv a, .val (.long x), .second, .unset] [(.long x), (.int (2 : Int32)), (.ref ar)])
  obtain ⟨cl9, Ar9, q9, Sz9, Nn9, Hh9, Gg9⟩ := id p_8
  obtain ⟨T9, h9, X9, e9, W9, st9⟩ := stJ X8 hx hZ e8 Ar9 (j := (2 : Int32)) (inb_of Sz9 ⟨by decide, own_lt hz (by decide)⟩) (g := (mkF m 136 #[rv a, .val (.long x), .second, .unset] [(.long x), (.int (2 : Int32)), (.ref ar)])) rfl rfl (hb hby d3_136)
  have V9 : Arv Z h9 ar kc .long z9 [(.long ev0), (.long ev1), (.long x), (.long ev3)] (.long (0 : Int64)) := Arv.set Ar9 q9 Sz9 Nn9 Hh9 Gg9 rfl W9 2 rfl (Nat.le_of_ble_eq_true rfl)
  have f9_0 := p_0.wr W9
  have f9_1 := p_2.other W9 (Or.inl (Ne.symm p_7))
  have f9_2 := p_3.other W9 (Or.inl (Ne.symm p_7))
  have f9_3 := p_4.other W9 (Or.inl (Ne.symm p_7))
  have f9_4 := p_5.other W9 (Or.inl (Ne.symm p_7))
  have Zs9 : n0 ≤ h9.size := Nat.le_trans Z0 (Nat.le_of_eq W9.size.symm)
  have K9 := (Keep.refl h0 [a, ar]).wr W9 (Or.inl (List.mem_of_getElem? (i := 1) rfl))
  have N9 := Fr.snoc X9 N0 p_6
  refine own_st st9 ?_
  show own_Goes p e below s (Q3_2a Z a x ex f ar z9 kc ev0 ev1 ev2 ev3 h0 n0) rRrm3_2a.cells rRrm3_2a.slots T9 (mkF m 137 #[rv a, .val (.long x), .second, .unset] [])
  refine own_st (fun _ kk_ => XS.aloadN X9.here hx rfl (hb hby d3_137) rfl rfl (XS.dup X9.here hx rfl (hb hby d3_138) rfl rfl kk_)) ?_
  show own_Goes p e below s (Q3_2a Z a x ex f ar z9 kc ev0 ev1 ev2 ev3 h0 n0) rRrm3_2a.cells rRrm3_2a.slots T9 (mkF m 139 #[rv a, .val (.long x), .second, .unset] [(.ref a), (.ref a)])
  obtain ⟨T10, X10, e10, st10⟩ := getF X9 hx hZ hown (host := "") (Or.inl (hw _ (List.mem_of_getElem? (i := 27) rfl))) Via.refl e9 f9_1 (g := (mkF m 139 #[rv a, .val (.long x), .second, .unset] [(.ref a), (.ref a)])) rfl rfl (hb hby d3_139)
  refine own_st st10 ?_
  show own_Goes p e below s (Q3_2a Z a x ex f ar z9 kc ev0 ev1 ev2 ev3 h0 n0) rRrm3_2a.cells rRrm3_2a.slots T10 (mkF m 142 #[rv a, .val (.long x), .second, .unset] [(.int (2 : Int32)), (.ref a)])
  refine own_st (fun _ kk_ => XS.iconst X10.here hx rfl (hb hby d3_142) (XS.iadd X10.here hx rfl (hb hby d3_143) rfl kk_)) ?_
  show own_Goes p e below s (Q3_2a Z a x ex f ar z9 kc ev0 ev1 ev2 ev3 h0 n0) rRrm3_2a.cells rRrm3_2a.slots T10 (mkF m 144 #[rv a, .val (.long x), .second, .unset] [(.int (3 : Int32)), (.ref a)])
  obtain ⟨T11, h11, X11, e11, W11, st11⟩ := putF X10 hx hZ hown (host := "") (Or.inl (hw _ (List.mem_of_getElem? (i := 27) rfl))) Via.refl e10 f9_1 f9_0 (Or.inl (hw _ (List.mem_of_getElem? (i := 28) rfl))) (hw _ (List.mem_of_getElem? (i := 2) rfl)) (ty := .int) (by decide) rfl rfl (g := (mkF m 144 #[rv a, .val (.long x), .second, .unset] [(.int (3 : Int32)), (.ref a)])) rfl rfl (hb hby d3_144)
  have fw11 : Fld Z h11 a "com/example/graphbind/graphbind/RunningLongs" "count" "I" (.int (3 : Int32)) := f9_1.same W11
  have f11_0 := f9_0.wr W11
  have f11_2 := f9_2.other W11 (Or.inr (slot_ne (Or.inl (hw _ (List.mem_of_getElem? (i := 30) rfl))) (Or.inl (hw _ (List.mem_of_getElem? (i := 28) rfl))) (by decide) (t := .long) (t' := .int) (by decide) (by decide)))
  have f11_3 := f9_3.other W11 (Or.inr (slot_ne (Or.inl (hw _ (List.mem_of_getElem? (i := 32) rfl))) (Or.inl (hw _ (List.mem_of_getElem? (i := 28) rfl))) (by decide) (t := (.array .long)) (t' := .int) (by decide) (by decide)))
  have f11_4 := f9_4.other W11 (Or.inr (slot_ne (Or.inr (hw _ (List.mem_of_getElem? (i := 21) rfl))) (Or.inl (hw _ (List.mem_of_getElem? (i := 28) rfl))) (by decide) (t := .int) (t' := .int) (by decide) (by decide)))
  have f11_5 := V9.other W11 p_7
  have Zs11 : n0 ≤ h11.size := Nat.le_trans Zs9 (Nat.le_of_eq W11.size.symm)
  have K11 := K9.wr W11 (Or.inl (List.mem_of_getElem? (i := 0) rfl))
  have N11 := Fr.snoc X11 N9 p_1
  refine own_st st11 ?_
  show own_Goes p e below s (Q3_2a Z a x ex f ar z9 kc ev0 ev1 ev2 ev3 h0 n0) rRrm3_2a.cells rRrm3_2a.slots T11 (mkF m 147 #[rv a, .val (.long x), .second, .unset] [])
  refine own_ret0 X11 hx hlk Bd.returns (hb hby d3_147) (by decide) (by decide) ?_
  show Q3_2a Z a x ex f ar z9 kc ev0 ev1 ev2 ev3 h0 n0 none T11.heap _
  rw [e11]
  exact ⟨rfl, N11, K11, fw11, f11_2, f11_3, f11_4, f11_5⟩
abbrev rRrm3_3a : Room := { frames := 0, cells := 0, slots := 0, locals := 0 }
theorem pn_rm3_3a : plainFor (⟨"com/example/graphbind/graphbind/RunningLongs", "add", "(J)V"⟩ : MethodName) = true := by first | exact plainFor_of_name (by first | (simp [plainName, overriddenIn]; done) | decide +kernel) | decide +kernel
theorem ef_rm3_3a (m : MethodId) (a : Addr) (x : Int64) : entryFrame m #[(.ref a), (.long x)] 4 = (mkF m 0 #[rv a, .val (.long x), .second, .unset] []) := by first | (simp [entryFrame, mkF, argsToLocals, Value.category]; done) | rfl
def Q3_3a (Z : State) (a : Addr) (x : Int64) (ex : Int32) (f : Int64) (ar : Addr) (z9 : Int32) (kc : ClassId) (ev0 : Int64) (ev1 : Int64) (ev2 : Int64) (ev3 : Int64) (h0 : Heap) (n0 : Nat) (v_ : Option Value) (h_ : Heap) (L_ : List Loc) : Prop := (v_ = none) ∧ (Fr n0 L_) ∧ (Keep h0 h_ [a, ar]) ∧ (Fld Z h_ a "com/example/graphbind/graphbind/RunningLongs" "count" "I" (.int (4 : Int32))) ∧ (Fld Z h_ a "com/example/graphbind/graphbind/RunningLongs" "first" "J" (.long f)) ∧ (Fld Z h_ a "com/example/graphbind/graphbind/RunningLongs" "values" "[J" (.ref ar)) ∧ (Fld Z h_ a "com/example/graphbind/graphbind/RunningLongs" "expected" "I" (.int ex)) ∧ (Arv Z h_ ar kc .long z9 [(.long ev0), (.long ev1), (.long ev2), (.long x)] (.long (0 : Int64)))
set_option maxRecDepth 65536 in
set_option maxHeartbeats 40000000 in
theorem rm3_3a (l : Launch) (Z : State) (a0 : Array Value) (hw : ∀ d ∈ tables_1, d.before a0 Z = true) (ws : List Jvm.Cond) (a : Addr) (x : Int64) (ex : Int32) (f : Int64) (ar : Addr) (z9 : Int32) (kc : ClassId) (ev0 : Int64) (ev1 : Int64) (ev2 : Int64) (ev3 : Int64) (h0 : Heap) (n0 : Nat) (Z0 : n0 ≤ h0.size) (p_0 : Exa Z h0 a "com/example/graphbind/graphbind/RunningLongs") (p_1 : n0 ≤ a) (p_2 : Fld Z h0 a "com/example/graphbind/graphbind/RunningLongs" "count" "I" (.int (3 : Int32))) (p_3 : Fld Z h0 a "com/example/graphbind/graphbind/RunningLongs" "first" "J" (.long f)) (p_4 : Fld Z h0 a "com/example/graphbind/graphbind/RunningLongs" "values" "[J" (.ref ar)) (p_5 : Fld Z h0 a "com/example/graphbind/graphbind/RunningLongs" "expected" "I" (.int ex)) (p_6 : n0 ≤ ar) (p_7 : ar ≠ a) (p_8 : Arv Z h0 ar kc .long z9 [(.long ev0), (.long ev1), (.long ev2), (.long ev3)] (.long (0 : Int64))) (hz : 16 ≤ z9.toInt ∧ z9.toInt ≤ 31) :
    MetFree l (⟨"com/example/graphbind/graphbind/RunningLongs", "add", "(J)V"⟩ : MethodName) (head1 (Jvm.Cond.code (⟨"com/example/graphbind/graphbind/RunningLongs", "add", "(J)V"⟩ : MethodName) prog_67_method_2_code 4 none :: ws) rRrm3_3a) (fun a_ U_ => a_ = #[(.ref a), (.long x)] ∧ Z.Warmed39 U_.vm ∧ U_.heap = h0) (fun _ _ _ _ _ => True) (fun _ U_ o_ U1_ => ∃ v_ L_, o_ = .returned v_ ∧ Q3_3a Z a x ex f ar z9 kc ev0 ev1 ev2 ev3 h0 n0 v_ U1_.heap L_ ∧ FrameEnd U_ o_ U1_ L_ rRrm3_3a.cells rRrm3_3a.slots) := by
  refine MetFree.of_bodySF pn_rm3_3a hisR ?_
  intro p e s m args below meth c s₁ Bd hml0 hP hK
  obtain ⟨rfl, hZ, hh⟩ := hP
  have hx := Bd.exec
  have hby := Bd.bytes
  have hlk : meth.locks = false := Bd.notSynchronized
  have hml : c.maxLocals = 4 := hml0
  have hown : s.vm.findClass "com/example/graphbind/graphbind/RunningLongs" = some m.cls := findClass_of_methodNamed Bd.named
  have hnm := (name_of_methodNamed Bd.named Bd.method).1
  have X0 : Stand p l e rRrm3_3a s m #[(.ref a), (.long x)] below meth c s₁ [] 0 0 := Stand.of_body Bd
  have e0 : s₁.heap = h0 := by rw [← hh, Bd.state]; rfl
  have N0 := Fr.nil n0
  show own_Goes p e below s (Q3_3a Z a x ex f ar z9 kc ev0 ev1 ev2 ev3 h0 n0) rRrm3_3a.cells rRrm3_3a.slots s₁ (entryFrame m #[(.ref a), (.long x)] 4)
  rw [ef_rm3_3a m a x]
  show own_Goes p e below s (Q3_3a Z a x ex f ar z9 kc ev0 ev1 ev2 ev3 h0 n0) rRrm3_3a.cells rRrm3_3a.slots s₁ (mkF m 0 #[rv a, .val (.long x), .second, .unset] [])
  refine own_st (fun _ kk_ => XS.aloadN X0.here hx rfl (hb hby d3_0) rfl rfl kk_) ?_
  show own_Goes p e below s (Q3_3a Z a x ex f ar z9 kc ev0 ev1 ev2 ev3 h0 n0) rRrm3_3a.cells rRrm3_3a.slots s₁ (mkF m 1 #[rv a, .val (.long x), .second, .unset] [(.ref a)])
  obtain ⟨T1, X1, e1, st1⟩ := getF X0 hx hZ hown (host := "") (Or.inl (hw _ (List.mem_of_getElem? (i := 27) rfl))) Via.refl e0 p_2 (g := (mkF m 1 #[rv a, .val (.long x), .second, .unset] [(.ref a)])) rfl rfl (hb hby d3_1)
  refine own_st st1 ?_
  show own_Goes p e below s (Q3_3a Z a x ex f ar z9 kc ev0 ev1 ev2 ev3 h0 n0) rRrm3_3a.cells rRrm3_3a.slots T1 (mkF m 4 #[rv a, .val (.long x), .second, .unset] [(.int (3 : Int32))])
  refine own_st (fun _ kk_ => XS.ifYes X1.here hx rfl (pc0 := 4) (pc' := 15) rfl (hb hby d3_4) rfl (XT.i0_ne_t (by decide)) (by decide) (by decide) (XS.aloadN X1.here hx rfl (hb hby d3_15) rfl rfl kk_)) ?_
  show own_Goes p e below s (Q3_3a Z a x ex f ar z9 kc ev0 ev1 ev2 ev3 h0 n0) rRrm3_3a.cells rRrm3_3a.slots T1 (mkF m 16 #[rv a, .val (.long x), .second, .unset] [(.ref a)])
  obtain ⟨T2, X2, e2, st2⟩ := getF X1 hx hZ hown (host := "") (Or.inl (hw _ (List.mem_of_getElem? (i := 31) rfl))) Via.refl e1 p_4 (g := (mkF m 16 #[rv a, .val (.long x), .second, .unset] [(.ref a)])) rfl rfl (hb hby d3_16)
  refine own_st st2 ?_
  show own_Goes p e below s (Q3_3a Z a x ex f ar z9 kc ev0 ev1 ev2 ev3 h0 n0) rRrm3_3a.cells rRrm3_3a.slots T2 (mkF m 19 #[rv a, .val (.long x), .second, .unset] [(.ref ar)])
  refine own_st (fun _ kk_ => XS.ifnonnullYes X2.here hx rfl (pc0 := 19) (pc' := 90) rfl (hb hby d3_19) rfl (by decide) (by decide) (XS.aloadN X2.here hx rfl (hb hby d3_90) rfl rfl kk_)) ?_
  show own_Goes p e below s (Q3_3a Z a x ex f ar z9 kc ev0 ev1 ev2 ev3 h0 n0) rRrm3_3a.cells rRrm3_3a.slots T2 (mkF m 91 #[rv a, .val (.long x), .second, .unset] [(.ref a)])
  obtain ⟨T3, X3, e3, st3⟩ := getF X2 hx hZ hown (host := "") (Or.inl (hw _ (List.mem_of_getElem? (i := 31) rfl))) Via.refl e2 p_4 (g := (mkF m 91 #[rv a, .val (.long x), .second, .unset] [(.ref a)])) rfl rfl (hb hby d3_91)
  refine own_st st3 ?_
  show own_Goes p e below s (Q3_3a Z a x ex f ar z9 kc ev0 ev1 ev2 ev3 h0 n0) rRrm3_3a.cells rRrm3_3a.slots T3 (mkF m 94 #[rv a, .val (.long x), .second, .unset] [(.ref ar)])
  refine own_st (fun _ kk_ => XS.ifnullNo X3.here hx rfl (hb hby d3_94) rfl (XS.aloadN X3.here hx rfl (hb hby d3_97) rfl rfl kk_)) ?_
  show own_Goes p e below s (Q3_3a Z a x ex f ar z9 kc ev0 ev1 ev2 ev3 h0 n0) rRrm3_3a.cells rRrm3_3a.slots T3 (mkF m 98 #[rv a, .val (.long x), .second, .unset] [(.ref a)])
  obtain ⟨T4, X4, e4, st4⟩ := getF X3 hx hZ hown (host := "") (Or.inl (hw _ (List.mem_of_getElem? (i := 27) rfl))) Via.refl e3 p_2 (g := (mkF m 98 #[rv a, .val (.long x), .second, .unset] [(.ref a)])) rfl rfl (hb hby d3_98)
  refine own_st st4 ?_
  show own_Goes p e below s (Q3_3a Z a x ex f ar z9 kc ev0 ev1 ev2 ev3 h0 n0) rRrm3_3a.cells rRrm3_3a.slots T4 (mkF m 101 #[rv a, .val (.long x), .second, .unset] [(.int (3 : Int32))])
  refine own_st (fun _ kk_ => XS.aloadN X4.here hx rfl (hb hby d3_101) rfl rfl kk_) ?_
  show own_Goes p e below s (Q3_3a Z a x ex f ar z9 kc ev0 ev1 ev2 ev3 h0 n0) rRrm3_3a.cells rRrm3_3a.slots T4 (mkF m 102 #[rv a, .val (.long x), .second, .unset] [(.ref a), (.int (3 : Int32))])
  obtain ⟨T5, X5, e5, st5⟩ := getF X4 hx hZ hown (host := "") (Or.inl (hw _ (List.mem_of_getElem? (i := 31) rfl))) Via.refl e4 p_4 (g := (mkF m 102 #[rv a, .val (.long x), .second, .unset] [(.ref a), (.int (3 : Int32))])) rfl rfl (hb hby d3_102)
  refine own_st st5 ?_
  show own_Goes p e below s (Q3_3a Z a x ex f ar z9 kc ev0 ev1 ev2 ev3 h0 n0) rRrm3_3a.cells rRrm3_3a.slots T5 (mkF m 105 #[rv a, .val (.long x), .second, .unset] [(.ref ar), (.int (3 : Int32))])
  obtain ⟨cl6, Ar6, -, Sz6, Nn6, -, -⟩ := id p_8
  refine own_st (fun _ kk_ => X5.arraylength hx (by rw [e5]; exact Ar6.1) (State.isArrayOf_alike hZ.alike Ar6.2.1) (g := (mkF m 105 #[rv a, .val (.long x), .second, .unset] [(.ref ar), (.int (3 : Int32))])) rfl rfl (hb hby d3_105) _ kk_) ?_
  rw [len_of Sz6 Nn6]
  show own_Goes p e below s (Q3_3a Z a x ex f ar z9 kc ev0 ev1 ev2 ev3 h0 n0) rRrm3_3a.cells rRrm3_3a.slots T5 (mkF m 106 #[rv a, .val (.long x), .second, .unset] [(.int z9), (.int (3 : Int32))])
  refine own_st (fun _ kk_ => XS.icmpYes X5.here hx rfl (pc0 := 106) (pc' := 127) rfl (hb hby d3_106) rfl (XT.ii_ne_t (own_ne hz (by decide))) (by decide) (by decide) (XS.aloadN X5.here hx rfl (hb hby d3_127) rfl rfl kk_)) ?_
  show own_Goes p e below s (Q3_3a Z a x ex f ar z9 kc ev0 ev1 ev2 ev3 h0 n0) rRrm3_3a.cells rRrm3_3a.slots T5 (mkF m 128 #[rv a, .val (.long x), .second, .unset] [(.ref a)])
  obtain ⟨T7, X7, e7, st7⟩ := getF X5 hx hZ hown (host := "") (Or.inl (hw _ (List.mem_of_getElem? (i := 31) rfl))) Via.refl e5 p_4 (g := (mkF m 128 #[rv a, .val (.long x), .second, .unset] [(.ref a)])) rfl rfl (hb hby d3_128)
  refine own_st st7 ?_
  show own_Goes p e below s (Q3_3a Z a x ex f ar z9 kc ev0 ev1 ev2 ev3 h0 n0) rRrm3_3a.cells rRrm3_3a.slots T7 (mkF m 131 #[rv a, .val (.long x), .second, .unset] [(.ref ar)])
  refine own_st (fun _ kk_ => XS.aloadN X7.here hx rfl (hb hby d3_131) rfl rfl kk_) ?_
  show own_Goes p e below s (Q3_3a Z a x ex f ar z9 kc ev0 ev1 ev2 ev3 h0 n0) rRrm3_3a.cells rRrm3_3a.slots T7 (mkF m 132 #[rv a, .val (.long x), .second, .unset] [(.ref a), (.ref ar)])
  obtain ⟨T8, X8, e8, st8⟩ := getF X7 hx hZ hown (host := "") (Or.inl (hw _ (List.mem_of_getElem? (i := 27) rfl))) Via.refl e7 p_2 (g := (mkF m 132 #[rv a, .val (.long x), .second, .unset] [(.ref a), (.ref ar)])) rfl rfl (hb hby d3_132)
  refine own_st st8 ?_
  show own_Goes p e below s (Q3_3a Z a x ex f ar z9 kc ev0 ev1 ev2 ev3 h0 n0) rRrm3_3a.cells rRrm3_3a.slots T8 (mkF m 135 #[rv a, .val (.long x), .second, .unset] [(.int (3 : Int32)), (.ref ar)])
  refine own_st (fun _ kk_ => XS.lloadN X8.here hx rfl (hb hby d3_135) rfl kk_) ?_
  show own_Goes p e below s (Q3_3a Z a x ex f ar z9 kc ev0 ev1 ev2 ev3 h0 n0) rRrm3_3a.cells rRrm3_3a.slots T8 (mkF m 136 #[rv a, .val (.long x), .second, .unset] [(.long x), (.int (3 : Int32)), (.ref ar)])
  obtain ⟨cl9, Ar9, q9, Sz9, Nn9, Hh9, Gg9⟩ := id p_8
  obtain ⟨T9, h9, X9, e9, W9, st9⟩ := stJ X8 hx hZ e8 Ar9 (j := (3 : Int32)) (inb_of Sz9 ⟨by decide, own_lt hz (by decide)⟩) (g := (mkF m 136 #[rv a, .val (.long x), .second, .unset] [(.long x), (.int (3 : Int32)), (.ref ar)])) rfl rfl (hb hby d3_136)
  have V9 : Arv Z h9 ar kc .long z9 [(.long ev0), (.long ev1), (.long ev2), (.long x)] (.long (0 : Int64)) := Arv.set Ar9 q9 Sz9 Nn9 Hh9 Gg9 rfl W9 3 rfl (Nat.le_of_ble_eq_true rfl)
  have f9_0 := p_0.wr W9
  have f9_1 := p_2.other W9 (Or.inl (Ne.symm p_7))
  have f9_2 := p_3.other W9 (Or.inl (Ne.symm p_7))
  have f9_3 := p_4.other W9 (Or.inl (Ne.symm p_7))
  have f9_4 := p_5.other W9 (Or.inl (Ne.symm p_7))
  have Zs9 : n0 ≤ h9.size := Nat.le_trans Z0 (Nat.le_of_eq W9.size.symm)
  have K9 := (Keep.refl h0 [a, ar]).wr W9 (Or.inl (List.mem_of_getElem? (i := 1) rfl))
  have N9 := Fr.snoc X9 N0 p_6
  refine own_st st9 ?_
  show own_Goes p e below s (Q3_3a Z a x ex f ar z9 kc ev0 ev1 ev2 ev3 h0 n0) rRrm3_3a.cells rRrm3_3a.slots T9 (mkF m 137 #[rv a, .val (.long x), .second, .unset] [])
  refine own_st (fun _ kk_ => XS.aloadN X9.here hx rfl (hb hby d3_137) rfl rfl (XS.dup X9.here hx rfl (hb hby d3_138) rfl rfl kk_)) ?_
  show own_Goes p e below s (Q3_3a Z a x ex f ar z9 kc ev0 ev1 ev2 ev3 h0 n0) rRrm3_3a.cells rRrm3_3a.slots T9 (mkF m 139 #[rv a, .val (.long x), .second, .unset] [(.ref a), (.ref a)])
  obtain ⟨T10, X10, e10, st10⟩ := getF X9 hx hZ hown (host := "") (Or.inl (hw _ (List.mem_of_getElem? (i := 27) rfl))) Via.refl e9 f9_1 (g := (mkF m 139 #[rv a, .val (.long x), .second, .unset] [(.ref a), (.ref a)])) rfl rfl (hb hby d3_139)
  refine own_st st10 ?_
  show own_Goes p e below s (Q3_3a Z a x ex f ar z9 kc ev0 ev1 ev2 ev3 h0 n0) rRrm3_3a.cells rRrm3_3a.slots T10 (mkF m 142 #[rv a, .val (.long x), .second, .unset] [(.int (3 : Int32)), (.ref a)])
  refine own_st (fun _ kk_ => XS.iconst X10.here hx rfl (hb hby d3_142) (XS.iadd X10.here hx rfl (hb hby d3_143) rfl kk_)) ?_
  show own_Goes p e below s (Q3_3a Z a x ex f ar z9 kc ev0 ev1 ev2 ev3 h0 n0) rRrm3_3a.cells rRrm3_3a.slots T10 (mkF m 144 #[rv a, .val (.long x), .second, .unset] [(.int (4 : Int32)), (.ref a)])
  obtain ⟨T11, h11, X11, e11, W11, st11⟩ := putF X10 hx hZ hown (host := "") (Or.inl (hw _ (List.mem_of_getElem? (i := 27) rfl))) Via.refl e10 f9_1 f9_0 (Or.inl (hw _ (List.mem_of_getElem? (i := 28) rfl))) (hw _ (List.mem_of_getElem? (i := 2) rfl)) (ty := .int) (by decide) rfl rfl (g := (mkF m 144 #[rv a, .val (.long x), .second, .unset] [(.int (4 : Int32)), (.ref a)])) rfl rfl (hb hby d3_144)
  have fw11 : Fld Z h11 a "com/example/graphbind/graphbind/RunningLongs" "count" "I" (.int (4 : Int32)) := f9_1.same W11
  have f11_0 := f9_0.wr W11
  have f11_2 := f9_2.other W11 (Or.inr (slot_ne (Or.inl (hw _ (List.mem_of_getElem? (i := 30) rfl))) (Or.inl (hw _ (List.mem_of_getElem? (i := 28) rfl))) (by decide) (t := .long) (t' := .int) (by decide) (by decide)))
  have f11_3 := f9_3.other W11 (Or.inr (slot_ne (Or.inl (hw _ (List.mem_of_getElem? (i := 32) rfl))) (Or.inl (hw _ (List.mem_of_getElem? (i := 28) rfl))) (by decide) (t := (.array .long)) (t' := .int) (by decide) (by decide)))
  have f11_4 := f9_4.other W11 (Or.inr (slot_ne (Or.inr (hw _ (List.mem_of_getElem? (i := 21) rfl))) (Or.inl (hw _ (List.mem_of_getElem? (i := 28) rfl))) (by decide) (t := .int) (t' := .int) (by decide) (by decide)))
  have f11_5 := V9.other W11 p_7
  have Zs11 : n0 ≤ h11.size := Nat.le_trans Zs9 (Nat.le_of_eq W11.size.symm)
  have K11 := K9.wr W11 (Or.inl (List.mem_of_getElem? (i := 0) rfl))
  have N11 := Fr.snoc X11 N9 p_1
  refine own_st st11 ?_
  show own_Goes p e below s (Q3_3a Z a x ex f ar z9 kc ev0 ev1 ev2 ev3 h0 n0) rRrm3_3a.cells rRrm3_3a.slots T11 (mkF m 147 #[rv a, .val (.long x), .second, .unset] [])
  refine own_ret0 X11 hx hlk Bd.returns (hb hby d3_147) (by decide) (by decide) ?_
  show Q3_3a Z a x ex f ar z9 kc ev0 ev1 ev2 ev3 h0 n0 none T11.heap _
  rw [e11]
  exact ⟨rfl, N11, K11, fw11, f11_2, f11_3, f11_4, f11_5⟩
abbrev rRrm4_0n : Room := { frames := 0, cells := 0, slots := 0, locals := 0 }
theorem d4_0 : decode prog_67_method_3_code 0 = .ok (.aload_n 0, 1) := by decide +kernel
theorem d4_1 : decode prog_67_method_3_code 1 = .ok (.getfield 24, 3) := by decide +kernel
theorem d4_4 : decode prog_67_method_3_code 4 = .ok (.ifnonnull 13, 3) := by decide +kernel
theorem d4_7 : decode prog_67_method_3_code 7 = .ok (.aload_n 0, 1) := by decide +kernel
theorem d4_8 : decode prog_67_method_3_code 8 = .ok (.getfield 20, 3) := by decide +kernel
theorem d4_11 : decode prog_67_method_3_code 11 = .ok (.iload_n 1, 1) := by decide +kernel
theorem d4_12 : decode prog_67_method_3_code 12 = .ok (.i2l, 1) := by decide +kernel
theorem d4_13 : decode prog_67_method_3_code 13 = .ok (.ladd, 1) := by decide +kernel
theorem d4_14 : decode prog_67_method_3_code 14 = .ok (.goto 9, 3) := by decide +kernel
theorem d4_23 : decode prog_67_method_3_code 23 = .ok (.lreturn, 1) := by decide +kernel
theorem pn_rm4_0n : plainFor (⟨"com/example/graphbind/graphbind/RunningLongs", "get", "(I)J"⟩ : MethodName) = true := by first | exact plainFor_of_name (by first | (simp [plainName, overriddenIn]; done) | decide +kernel) | decide +kernel
theorem ef_rm4_0n (m : MethodId) (a : Addr) : entryFrame m #[(.ref a), (.int (0 : Int32))] 2 = (mkF m 0 #[rv a, iv (0 : Int32)] []) := by first | (simp [entryFrame, mkF, argsToLocals, Value.category]; done) | rfl
def Q4_0n (Z : State) (a : Addr) (f : Int64) (h0 : Heap) (n0 : Nat) (v_ : Option Value) (h_ : Heap) (L_ : List Loc) : Prop := (v_ = some (.long (f + ((0 : Int32).toInt64)))) ∧ (Fr n0 L_) ∧ (h_ = h0)
set_option maxRecDepth 65536 in
set_option maxHeartbeats 40000000 in
theorem rm4_0n (l : Launch) (Z : State) (a0 : Array Value) (hw : ∀ d ∈ tables_1, d.before a0 Z = true) (ws : List Jvm.Cond) (a : Addr) (f : Int64) (h0 : Heap) (n0 : Nat) (Z0 : n0 ≤ h0.size) (p_0 : Fld Z h0 a "com/example/graphbind/graphbind/RunningLongs" "first" "J" (.long f)) (p_1 : Fld Z h0 a "com/example/graphbind/graphbind/RunningLongs" "values" "[J" .null) :
    MetFree l (⟨"com/example/graphbind/graphbind/RunningLongs", "get", "(I)J"⟩ : MethodName) (head1 (Jvm.Cond.code (⟨"com/example/graphbind/graphbind/RunningLongs", "get", "(I)J"⟩ : MethodName) prog_67_method_3_code 2 (some .long) :: ws) rRrm4_0n) (fun a_ U_ => a_ = #[(.ref a), (.int (0 : Int32))] ∧ Z.Warmed39 U_.vm ∧ U_.heap = h0) (fun _ _ _ _ _ => True) (fun _ U_ o_ U1_ => ∃ v_ L_, o_ = .returned v_ ∧ Q4_0n Z a f h0 n0 v_ U1_.heap L_ ∧ FrameEnd U_ o_ U1_ L_ rRrm4_0n.cells rRrm4_0n.slots) := by
  refine MetFree.of_bodySF pn_rm4_0n hisR ?_
  intro p e s m args below meth c s₁ Bd hml0 hP hK
  obtain ⟨rfl, hZ, hh⟩ := hP
  have hx := Bd.exec
  have hby := Bd.bytes
  have hlk : meth.locks = false := Bd.notSynchronized
  have hml : c.maxLocals = 2 := hml0
  have hown : s.vm.findClass "com/example/graphbind/graphbind/RunningLongs" = some m.cls := findClass_of_methodNamed Bd.named
  have hnm := (name_of_methodNamed Bd.named Bd.method).1
  have X0 : Stand p l e rRrm4_0n s m #[(.ref a), (.int (0 : Int32))] below meth c s₁ [] 0 0 := Stand.of_body Bd
  have e0 : s₁.heap = h0 := by rw [← hh, Bd.state]; rfl
  have N0 := Fr.nil n0
  show own_Goes p e below s (Q4_0n Z a f h0 n0) rRrm4_0n.cells rRrm4_0n.slots s₁ (entryFrame m #[(.ref a), (.int (0 : Int32))] 2)
  rw [ef_rm4_0n m a]
  show own_Goes p e below s (Q4_0n Z a f h0 n0) rRrm4_0n.cells rRrm4_0n.slots s₁ (mkF m 0 #[rv a, iv (0 : Int32)] [])
  refine own_st (fun _ kk_ => XS.aloadN X0.here hx rfl (hb hby d4_0) rfl rfl kk_) ?_
  show own_Goes p e below s (Q4_0n Z a f h0 n0) rRrm4_0n.cells rRrm4_0n.slots s₁ (mkF m 1 #[rv a, iv (0 : Int32)] [(.ref a)])
  obtain ⟨T1, X1, e1, st1⟩ := getF X0 hx hZ hown (host := "") (Or.inl (hw _ (List.mem_of_getElem? (i := 31) rfl))) Via.refl e0 p_1 (g := (mkF m 1 #[rv a, iv (0 : Int32)] [(.ref a)])) rfl rfl (hb hby d4_1)
  refine own_st st1 ?_
  show own_Goes p e below s (Q4_0n Z a f h0 n0) rRrm4_0n.cells rRrm4_0n.slots T1 (mkF m 4 #[rv a, iv (0 : Int32)] [.null])
  refine own_st (fun _ kk_ => XS.ifnonnullNo X1.here hx rfl (hb hby d4_4) rfl (XS.aloadN X1.here hx rfl (hb hby d4_7) rfl rfl kk_)) ?_
  show own_Goes p e below s (Q4_0n Z a f h0 n0) rRrm4_0n.cells rRrm4_0n.slots T1 (mkF m 8 #[rv a, iv (0 : Int32)] [(.ref a)])
  obtain ⟨T2, X2, e2, st2⟩ := getF X1 hx hZ hown (host := "") (Or.inl (hw _ (List.mem_of_getElem? (i := 29) rfl))) Via.refl e1 p_0 (g := (mkF m 8 #[rv a, iv (0 : Int32)] [(.ref a)])) rfl rfl (hb hby d4_8)
  refine own_st st2 ?_
  show own_Goes p e below s (Q4_0n Z a f h0 n0) rRrm4_0n.cells rRrm4_0n.slots T2 (mkF m 11 #[rv a, iv (0 : Int32)] [(.long f)])
  refine own_st (fun _ kk_ => XS.iloadN X2.here hx rfl (hb hby d4_11) rfl (XS.i2l X2.here hx rfl (hb hby d4_12) rfl (XS.ladd X2.here hx rfl (hb hby d4_13) rfl (XS.goto X2.here hx rfl (pc0 := 14) (pc' := 23) rfl (hb hby d4_14) (by decide) (by decide) kk_)))) ?_
  show own_Goes p e below s (Q4_0n Z a f h0 n0) rRrm4_0n.cells rRrm4_0n.slots T2 (mkF m 23 #[rv a, iv (0 : Int32)] [(.long (f + ((0 : Int32).toInt64)))])
  refine own_retL X2 hx hlk Bd.returns (hb hby d4_23) (by decide) (by decide) ?_
  show Q4_0n Z a f h0 n0 (some (.long (f + ((0 : Int32).toInt64)))) T2.heap _
  rw [e2]
  exact ⟨rfl, N0, rfl⟩
abbrev rRrm4_0a : Room := { frames := 0, cells := 0, slots := 0, locals := 0 }
theorem d4_17 : decode prog_67_method_3_code 17 = .ok (.aload_n 0, 1) := by decide +kernel
theorem d4_18 : decode prog_67_method_3_code 18 = .ok (.getfield 24, 3) := by decide +kernel
theorem d4_21 : decode prog_67_method_3_code 21 = .ok (.iload_n 1, 1) := by decide +kernel
theorem d4_22 : decode prog_67_method_3_code 22 = .ok (.laload, 1) := by decide +kernel
theorem pn_rm4_0a : plainFor (⟨"com/example/graphbind/graphbind/RunningLongs", "get", "(I)J"⟩ : MethodName) = true := by first | exact plainFor_of_name (by first | (simp [plainName, overriddenIn]; done) | decide +kernel) | decide +kernel
theorem ef_rm4_0a (m : MethodId) (a : Addr) : entryFrame m #[(.ref a), (.int (0 : Int32))] 2 = (mkF m 0 #[rv a, iv (0 : Int32)] []) := by first | (simp [entryFrame, mkF, argsToLocals, Value.category]; done) | rfl
def Q4_0a (Z : State) (a : Addr) (ar : Addr) (z9 : Int32) (kc : ClassId) (ev0 : Int64) (ev1 : Int64) (ev2 : Int64) (ev3 : Int64) (h0 : Heap) (n0 : Nat) (v_ : Option Value) (h_ : Heap) (L_ : List Loc) : Prop := (v_ = some (.long ev0)) ∧ (Fr n0 L_) ∧ (h_ = h0)
set_option maxRecDepth 65536 in
set_option maxHeartbeats 40000000 in
theorem rm4_0a (l : Launch) (Z : State) (a0 : Array Value) (hw : ∀ d ∈ tables_1, d.before a0 Z = true) (ws : List Jvm.Cond) (a : Addr) (ar : Addr) (z9 : Int32) (kc : ClassId) (ev0 : Int64) (ev1 : Int64) (ev2 : Int64) (ev3 : Int64) (h0 : Heap) (n0 : Nat) (Z0 : n0 ≤ h0.size) (p_0 : Fld Z h0 a "com/example/graphbind/graphbind/RunningLongs" "values" "[J" (.ref ar)) (p_1 : Arv Z h0 ar kc .long z9 [(.long ev0), (.long ev1), (.long ev2), (.long ev3)] (.long (0 : Int64))) (hz : 16 ≤ z9.toInt ∧ z9.toInt ≤ 31) :
    MetFree l (⟨"com/example/graphbind/graphbind/RunningLongs", "get", "(I)J"⟩ : MethodName) (head1 (Jvm.Cond.code (⟨"com/example/graphbind/graphbind/RunningLongs", "get", "(I)J"⟩ : MethodName) prog_67_method_3_code 2 (some .long) :: ws) rRrm4_0a) (fun a_ U_ => a_ = #[(.ref a), (.int (0 : Int32))] ∧ Z.Warmed39 U_.vm ∧ U_.heap = h0) (fun _ _ _ _ _ => True) (fun _ U_ o_ U1_ => ∃ v_ L_, o_ = .returned v_ ∧ Q4_0a Z a ar z9 kc ev0 ev1 ev2 ev3 h0 n0 v_ U1_.heap L_ ∧ FrameEnd U_ o_ U1_ L_ rRrm4_0a.cells rRrm4_0a.slots) := by
  refine MetFree.of_bodySF pn_rm4_0a hisR ?_
  intro p e s m args below meth c s₁ Bd hml0 hP hK
  obtain ⟨rfl, hZ, hh⟩ := hP
  have hx := Bd.exec
  have hby := Bd.bytes
  have hlk : meth.locks = false := Bd.notSynchronized
  have hml : c.maxLocals = 2 := hml0
  have hown : s.vm.findClass "com/example/graphbind/graphbind/RunningLongs" = some m.cls := findClass_of_methodNamed Bd.named
  have hnm := (name_of_methodNamed Bd.named Bd.method).1
  have X0 : Stand p l e rRrm4_0a s m #[(.ref a), (.int (0 : Int32))] below meth c s₁ [] 0 0 := Stand.of_body Bd
  have e0 : s₁.heap = h0 := by rw [← hh, Bd.state]; rfl
  have N0 := Fr.nil n0
  show own_Goes p e below s (Q4_0a Z a ar z9 kc ev0 ev1 ev2 ev3 h0 n0) rRrm4_0a.cells rRrm4_0a.slots s₁ (entryFrame m #[(.ref a), (.int (0 : Int32))] 2)
  rw [ef_rm4_0a m a]
  show own_Goes p e below s (Q4_0a Z a ar z9 kc ev0 ev1 ev2 ev3 h0 n0) rRrm4_0a.cells rRrm4_0a.slots s₁ (mkF m 0 #[rv a, iv (0 : Int32)] [])
  refine own_st (fun _ kk_ => XS.aloadN X0.here hx rfl (hb hby d4_0) rfl rfl kk_) ?_
  show own_Goes p e below s (Q4_0a Z a ar z9 kc ev0 ev1 ev2 ev3 h0 n0) rRrm4_0a.cells rRrm4_0a.slots s₁ (mkF m 1 #[rv a, iv (0 : Int32)] [(.ref a)])
  obtain ⟨T1, X1, e1, st1⟩ := getF X0 hx hZ hown (host := "") (Or.inl (hw _ (List.mem_of_getElem? (i := 31) rfl))) Via.refl e0 p_0 (g := (mkF m 1 #[rv a, iv (0 : Int32)] [(.ref a)])) rfl rfl (hb hby d4_1)
  refine own_st st1 ?_
  show own_Goes p e below s (Q4_0a Z a ar z9 kc ev0 ev1 ev2 ev3 h0 n0) rRrm4_0a.cells rRrm4_0a.slots T1 (mkF m 4 #[rv a, iv (0 : Int32)] [(.ref ar)])
  refine own_st (fun _ kk_ => XS.ifnonnullYes X1.here hx rfl (pc0 := 4) (pc' := 17) rfl (hb hby d4_4) rfl (by decide) (by decide) (XS.aloadN X1.here hx rfl (hb hby d4_17) rfl rfl kk_)) ?_
  show own_Goes p e below s (Q4_0a Z a ar z9 kc ev0 ev1 ev2 ev3 h0 n0) rRrm4_0a.cells rRrm4_0a.slots T1 (mkF m 18 #[rv a, iv (0 : Int32)] [(.ref a)])
  obtain ⟨T2, X2, e2, st2⟩ := getF X1 hx hZ hown (host := "") (Or.inl (hw _ (List.mem_of_getElem? (i := 31) rfl))) Via.refl e1 p_0 (g := (mkF m 18 #[rv a, iv (0 : Int32)] [(.ref a)])) rfl rfl (hb hby d4_18)
  refine own_st st2 ?_
  show own_Goes p e below s (Q4_0a Z a ar z9 kc ev0 ev1 ev2 ev3 h0 n0) rRrm4_0a.cells rRrm4_0a.slots T2 (mkF m 21 #[rv a, iv (0 : Int32)] [(.ref ar)])
  refine own_st (fun _ kk_ => XS.iloadN X2.here hx rfl (hb hby d4_21) rfl kk_) ?_
  show own_Goes p e below s (Q4_0a Z a ar z9 kc ev0 ev1 ev2 ev3 h0 n0) rRrm4_0a.cells rRrm4_0a.slots T2 (mkF m 22 #[rv a, iv (0 : Int32)] [(.int (0 : Int32)), (.ref ar)])
  obtain ⟨cl3, Ar3, q3, Sz3, Nn3, Hh3, Gg3⟩ := id p_1
  refine own_st (fun _ kk_ => X2.laload hx (j := (0 : Int32)) (v := (.long ev0)) (by rw [e2]; exact Ar3.1) (State.isArrayOf_alike hZ.alike Ar3.2.1) Ar3.2.2 (inb_of Sz3 ⟨by decide, own_lt hz (by decide)⟩) (Hh3.at (inb_of Sz3 ⟨by decide, own_lt hz (by decide)⟩) rfl) (g := (mkF m 22 #[rv a, iv (0 : Int32)] [(.int (0 : Int32)), (.ref ar)])) rfl rfl (hb hby d4_22) _ kk_) ?_
  show own_Goes p e below s (Q4_0a Z a ar z9 kc ev0 ev1 ev2 ev3 h0 n0) rRrm4_0a.cells rRrm4_0a.slots T2 (mkF m 23 #[rv a, iv (0 : Int32)] [(.long ev0)])
  refine own_retL X2 hx hlk Bd.returns (hb hby d4_23) (by decide) (by decide) ?_
  show Q4_0a Z a ar z9 kc ev0 ev1 ev2 ev3 h0 n0 (some (.long ev0)) T2.heap _
  rw [e2]
  exact ⟨rfl, N0, rfl⟩
abbrev rRrm4_1n : Room := { frames := 0, cells := 0, slots := 0, locals := 0 }
theorem pn_rm4_1n : plainFor (⟨"com/example/graphbind/graphbind/RunningLongs", "get", "(I)J"⟩ : MethodName) = true := by first | exact plainFor_of_name (by first | (simp [plainName, overriddenIn]; done) | decide +kernel) | decide +kernel
theorem ef_rm4_1n (m : MethodId) (a : Addr) : entryFrame m #[(.ref a), (.int (1 : Int32))] 2 = (mkF m 0 #[rv a, iv (1 : Int32)] []) := by first | (simp [entryFrame, mkF, argsToLocals, Value.category]; done) | rfl
def Q4_1n (Z : State) (a : Addr) (f : Int64) (h0 : Heap) (n0 : Nat) (v_ : Option Value) (h_ : Heap) (L_ : List Loc) : Prop := (v_ = some (.long (f + ((1 : Int32).toInt64)))) ∧ (Fr n0 L_) ∧ (h_ = h0)
set_option maxRecDepth 65536 in
set_option maxHeartbeats 40000000 in
theorem rm4_1n (l : Launch) (Z : State) (a0 : Array Value) (hw : ∀ d ∈ tables_1, d.before a0 Z = true) (ws : List Jvm.Cond) (a : Addr) (f : Int64) (h0 : Heap) (n0 : Nat) (Z0 : n0 ≤ h0.size) (p_0 : Fld Z h0 a "com/example/graphbind/graphbind/RunningLongs" "first" "J" (.long f)) (p_1 : Fld Z h0 a "com/example/graphbind/graphbind/RunningLongs" "values" "[J" .null) :
    MetFree l (⟨"com/example/graphbind/graphbind/RunningLongs", "get", "(I)J"⟩ : MethodName) (head1 (Jvm.Cond.code (⟨"com/example/graphbind/graphbind/RunningLongs", "get", "(I)J"⟩ : MethodName) prog_67_method_3_code 2 (some .long) :: ws) rRrm4_1n) (fun a_ U_ => a_ = #[(.ref a), (.int (1 : Int32))] ∧ Z.Warmed39 U_.vm ∧ U_.heap = h0) (fun _ _ _ _ _ => True) (fun _ U_ o_ U1_ => ∃ v_ L_, o_ = .returned v_ ∧ Q4_1n Z a f h0 n0 v_ U1_.heap L_ ∧ FrameEnd U_ o_ U1_ L_ rRrm4_1n.cells rRrm4_1n.slots) := by
  refine MetFree.of_bodySF pn_rm4_1n hisR ?_
  intro p e s m args below meth c s₁ Bd hml0 hP hK
  obtain ⟨rfl, hZ, hh⟩ := hP
  have hx := Bd.exec
  have hby := Bd.bytes
  have hlk : meth.locks = false := Bd.notSynchronized
  have hml : c.maxLocals = 2 := hml0
  have hown : s.vm.findClass "com/example/graphbind/graphbind/RunningLongs" = some m.cls := findClass_of_methodNamed Bd.named
  have hnm := (name_of_methodNamed Bd.named Bd.method).1
  have X0 : Stand p l e rRrm4_1n s m #[(.ref a), (.int (1 : Int32))] below meth c s₁ [] 0 0 := Stand.of_body Bd
  have e0 : s₁.heap = h0 := by rw [← hh, Bd.state]; rfl
  have N0 := Fr.nil n0
  show own_Goes p e below s (Q4_1n Z a f h0 n0) rRrm4_1n.cells rRrm4_1n.slots s₁ (entryFrame m #[(.ref a), (.int (1 : Int32))] 2)
  rw [ef_rm4_1n m a]
  show own_Goes p e below s (Q4_1n Z a f h0 n0) rRrm4_1n.cells rRrm4_1n.slots s₁ (mkF m 0 #[rv a, iv (1 : Int32)] [])
  refine own_st (fun _ kk_ => XS.aloadN X0.here hx rfl (hb hby d4_0) rfl rfl kk_) ?_
  show own_Goes p e below s (Q4_1n Z a f h0 n0) rRrm4_1n.cells rRrm4_1n.slots s₁ (mkF m 1 #[rv a, iv (1 : Int32)] [(.ref a)])
  obtain ⟨T1, X1, e1, st1⟩ := getF X0 hx hZ hown (host := "") (Or.inl (hw _ (List.mem_of_getElem? (i := 31) rfl))) Via.refl e0 p_1 (g := (mkF m 1 #[rv a, iv (1 : Int32)] [(.ref a)])) rfl rfl (hb hby d4_1)
  refine own_st st1 ?_
  show own_Goes p e below s (Q4_1n Z a f h0 n0) rRrm4_1n.cells rRrm4_1n.slots T1 (mkF m 4 #[rv a, iv (1 : Int32)] [.null])
  refine own_st (fun _ kk_ => XS.ifnonnullNo X1.here hx rfl (hb hby d4_4) rfl (XS.aloadN X1.here hx rfl (hb hby d4_7) rfl rfl kk_)) ?_
  show own_Goes p e below s (Q4_1n Z a f h0 n0) rRrm4_1n.cells rRrm4_1n.slots T1 (mkF m 8 #[rv a, iv (1 : Int32)] [(.ref a)])
  obtain ⟨T2, X2, e2, st2⟩ := getF X1 hx hZ hown (host := "") (Or.inl (hw _ (List.mem_of_getElem? (i := 29) rfl))) Via.refl e1 p_0 (g := (mkF m 8 #[rv a, iv (1 : Int32)] [(.ref a)])) rfl rfl (hb hby d4_8)
  refine own_st st2 ?_
  show own_Goes p e below s (Q4_1n Z a f h0 n0) rRrm4_1n.cells rRrm4_1n.slots T2 (mkF m 11 #[rv a, iv (1 : Int32)] [(.long f)])
  refine own_st (fun _ kk_ => XS.iloadN X2.here hx rfl (hb hby d4_11) rfl (XS.i2l X2.here hx rfl (hb hby d4_12) rfl (XS.ladd X2.here hx rfl (hb hby d4_13) rfl (XS.goto X2.here hx rfl (pc0 := 14) (pc' := 23) rfl (hb hby d4_14) (by decide) (by decide) kk_)))) ?_
  show own_Goes p e below s (Q4_1n Z a f h0 n0) rRrm4_1n.cells rRrm4_1n.slots T2 (mkF m 23 #[rv a, iv (1 : Int32)] [(.long (f + ((1 : Int32).toInt64)))])
  refine own_retL X2 hx hlk Bd.returns (hb hby d4_23) (by decide) (by decide) ?_
  show Q4_1n Z a f h0 n0 (some (.long (f + ((1 : Int32).toInt64)))) T2.heap _
  rw [e2]
  exact ⟨rfl, N0, rfl⟩
abbrev rRrm4_1a : Room := { frames := 0, cells := 0, slots := 0, locals := 0 }
theorem pn_rm4_1a : plainFor (⟨"com/example/graphbind/graphbind/RunningLongs", "get", "(I)J"⟩ : MethodName) = true := by first | exact plainFor_of_name (by first | (simp [plainName, overriddenIn]; done) | decide +kernel) | decide +kernel
theorem ef_rm4_1a (m : MethodId) (a : Addr) : entryFrame m #[(.ref a), (.int (1 : Int32))] 2 = (mkF m 0 #[rv a, iv (1 : Int32)] []) := by first | (simp [entryFrame, mkF, argsToLocals, Value.category]; done) | rfl
def Q4_1a (Z : State) (a : Addr) (ar : Addr) (z9 : Int32) (kc : ClassId) (ev0 : Int64) (ev1 : Int64) (ev2 : Int64) (ev3 : Int64) (h0 : Heap) (n0 : Nat) (v_ : Option Value) (h_ : Heap) (L_ : List Loc) : Prop := (v_ = some (.long ev1)) ∧ (Fr n0 L_) ∧ (h_ = h0)
set_option maxRecDepth 65536 in
set_option maxHeartbeats 40000000 in
theorem rm4_1a (l : Launch) (Z : State) (a0 : Array Value) (hw : ∀ d ∈ tables_1, d.before a0 Z = true) (ws : List Jvm.Cond) (a : Addr) (ar : Addr) (z9 : Int32) (kc : ClassId) (ev0 : Int64) (ev1 : Int64) (ev2 : Int64) (ev3 : Int64) (h0 : Heap) (n0 : Nat) (Z0 : n0 ≤ h0.size) (p_0 : Fld Z h0 a "com/example/graphbind/graphbind/RunningLongs" "values" "[J" (.ref ar)) (p_1 : Arv Z h0 ar kc .long z9 [(.long ev0), (.long ev1), (.long ev2), (.long ev3)] (.long (0 : Int64))) (hz : 16 ≤ z9.toInt ∧ z9.toInt ≤ 31) :
    MetFree l (⟨"com/example/graphbind/graphbind/RunningLongs", "get", "(I)J"⟩ : MethodName) (head1 (Jvm.Cond.code (⟨"com/example/graphbind/graphbind/RunningLongs", "get", "(I)J"⟩ : MethodName) prog_67_method_3_code 2 (some .long) :: ws) rRrm4_1a) (fun a_ U_ => a_ = #[(.ref a), (.int (1 : Int32))] ∧ Z.Warmed39 U_.vm ∧ U_.heap = h0) (fun _ _ _ _ _ => True) (fun _ U_ o_ U1_ => ∃ v_ L_, o_ = .returned v_ ∧ Q4_1a Z a ar z9 kc ev0 ev1 ev2 ev3 h0 n0 v_ U1_.heap L_ ∧ FrameEnd U_ o_ U1_ L_ rRrm4_1a.cells rRrm4_1a.slots) := by
  refine MetFree.of_bodySF pn_rm4_1a hisR ?_
  intro p e s m args below meth c s₁ Bd hml0 hP hK
  obtain ⟨rfl, hZ, hh⟩ := hP
  have hx := Bd.exec
  have hby := Bd.bytes
  have hlk : meth.locks = false := Bd.notSynchronized
  have hml : c.maxLocals = 2 := hml0
  have hown : s.vm.findClass "com/example/graphbind/graphbind/RunningLongs" = some m.cls := findClass_of_methodNamed Bd.named
  have hnm := (name_of_methodNamed Bd.named Bd.method).1
  have X0 : Stand p l e rRrm4_1a s m #[(.ref a), (.int (1 : Int32))] below meth c s₁ [] 0 0 := Stand.of_body Bd
  have e0 : s₁.heap = h0 := by rw [← hh, Bd.state]; rfl
  have N0 := Fr.nil n0
  show own_Goes p e below s (Q4_1a Z a ar z9 kc ev0 ev1 ev2 ev3 h0 n0) rRrm4_1a.cells rRrm4_1a.slots s₁ (entryFrame m #[(.ref a), (.int (1 : Int32))] 2)
  rw [ef_rm4_1a m a]
  show own_Goes p e below s (Q4_1a Z a ar z9 kc ev0 ev1 ev2 ev3 h0 n0) rRrm4_1a.cells rRrm4_1a.slots s₁ (mkF m 0 #[rv a, iv (1 : Int32)] [])
  refine own_st (fun _ kk_ => XS.aloadN X0.here hx rfl (hb hby d4_0) rfl rfl kk_) ?_
  show own_Goes p e below s (Q4_1a Z a ar z9 kc ev0 ev1 ev2 ev3 h0 n0) rRrm4_1a.cells rRrm4_1a.slots s₁ (mkF m 1 #[rv a, iv (1 : Int32)] [(.ref a)])
  obtain ⟨T1, X1, e1, st1⟩ := getF X0 hx hZ hown (host := "") (Or.inl (hw _ (List.mem_of_getElem? (i := 31) rfl))) Via.refl e0 p_0 (g := (mkF m 1 #[rv a, iv (1 : Int32)] [(.ref a)])) rfl rfl (hb hby d4_1)
  refine own_st st1 ?_
  show own_Goes p e below s (Q4_1a Z a ar z9 kc ev0 ev1 ev2 ev3 h0 n0) rRrm4_1a.cells rRrm4_1a.slots T1 (mkF m 4 #[rv a, iv (1 : Int32)] [(.ref ar)])
  refine own_st (fun _ kk_ => XS.ifnonnullYes X1.here hx rfl (pc0 := 4) (pc' := 17) rfl (hb hby d4_4) rfl (by decide) (by decide) (XS.aloadN X1.here hx rfl (hb hby d4_17) rfl rfl kk_)) ?_
  show own_Goes p e below s (Q4_1a Z a ar z9 kc ev0 ev1 ev2 ev3 h0 n0) rRrm4_1a.cells rRrm4_1a.slots T1 (mkF m 18 #[rv a, iv (1 : Int32)] [(.ref a)])
  obtain ⟨T2, X2, e2, st2⟩ := getF X1 hx hZ hown (host := "") (Or.inl (hw _ (List.mem_of_getElem? (i := 31) rfl))) Via.refl e1 p_0 (g := (mkF m 18 #[rv a, iv (1 : Int32)] [(.ref a)])) rfl rfl (hb hby d4_18)
  refine own_st st2 ?_
  show own_Goes p e below s (Q4_1a Z a ar z9 kc ev0 ev1 ev2 ev3 h0 n0) rRrm4_1a.cells rRrm4_1a.slots T2 (mkF m 21 #[rv a, iv (1 : Int32)] [(.ref ar)])
  refine own_st (fun _ kk_ => XS.iloadN X2.here hx rfl (hb hby d4_21) rfl kk_) ?_
  show own_Goes p e below s (Q4_1a Z a ar z9 kc ev0 ev1 ev2 ev3 h0 n0) rRrm4_1a.cells rRrm4_1a.slots T2 (mkF m 22 #[rv a, iv (1 : Int32)] [(.int (1 : Int32)), (.ref ar)])
  obtain ⟨cl3, Ar3, q3, Sz3, Nn3, Hh3, Gg3⟩ := id p_1
  refine own_st (fun _ kk_ => X2.laload hx (j := (1 : Int32)) (v := (.long ev1)) (by rw [e2]; exact Ar3.1) (State.isArrayOf_alike hZ.alike Ar3.2.1) Ar3.2.2 (inb_of Sz3 ⟨by decide, own_lt hz (by decide)⟩) (Hh3.at (inb_of Sz3 ⟨by decide, own_lt hz (by decide)⟩) rfl) (g := (mkF m 22 #[rv a, iv (1 : Int32)] [(.int (1 : Int32)), (.ref ar)])) rfl rfl (hb hby d4_22) _ kk_) ?_
  show own_Goes p e below s (Q4_1a Z a ar z9 kc ev0 ev1 ev2 ev3 h0 n0) rRrm4_1a.cells rRrm4_1a.slots T2 (mkF m 23 #[rv a, iv (1 : Int32)] [(.long ev1)])
  refine own_retL X2 hx hlk Bd.returns (hb hby d4_23) (by decide) (by decide) ?_
  show Q4_1a Z a ar z9 kc ev0 ev1 ev2 ev3 h0 n0 (some (.long ev1)) T2.heap _
  rw [e2]
  exact ⟨rfl, N0, rfl⟩
abbrev rRrm4_2n : Room := { frames := 0, cells := 0, slots := 0, locals := 0 }
theorem pn_rm4_2n : plainFor (⟨"com/example/graphbind/graphbind/RunningLongs", "get", "(I)J"⟩ : MethodName) = true := by first | exact plainFor_of_name (by first | (simp [plainName, overriddenIn]; done) | decide +kernel) | decide +kernel
theorem ef_rm4_2n (m : MethodId) (a : Addr) : entryFrame m #[(.ref a), (.int (2 : Int32))] 2 = (mkF m 0 #[rv a, iv (2 : Int32)] []) := by first | (simp [entryFrame, mkF, argsToLocals, Value.category]; done) | rfl
def Q4_2n (Z : State) (a : Addr) (f : Int64) (h0 : Heap) (n0 : Nat) (v_ : Option Value) (h_ : Heap) (L_ : List Loc) : Prop := (v_ = some (.long (f + ((2 : Int32).toInt64)))) ∧ (Fr n0 L_) ∧ (h_ = h0)
set_option maxRecDepth 65536 in
set_option maxHeartbeats 40000000 in
theorem rm4_2n (l : Launch) (Z : State) (a0 : Array Value) (hw : ∀ d ∈ tables_1, d.before a0 Z = true) (ws : List Jvm.Cond) (a : Addr) (f : Int64) (h0 : Heap) (n0 : Nat) (Z0 : n0 ≤ h0.size) (p_0 : Fld Z h0 a "com/example/graphbind/graphbind/RunningLongs" "first" "J" (.long f)) (p_1 : Fld Z h0 a "com/example/graphbind/graphbind/RunningLongs" "values" "[J" .null) :
    MetFree l (⟨"com/example/graphbind/graphbind/RunningLongs", "get", "(I)J"⟩ : MethodName) (head1 (Jvm.Cond.code (⟨"com/example/graphbind/graphbind/RunningLongs", "get", "(I)J"⟩ : MethodName) prog_67_method_3_code 2 (some .long) :: ws) rRrm4_2n) (fun a_ U_ => a_ = #[(.ref a), (.int (2 : Int32))] ∧ Z.Warmed39 U_.vm ∧ U_.heap = h0) (fun _ _ _ _ _ => True) (fun _ U_ o_ U1_ => ∃ v_ L_, o_ = .returned v_ ∧ Q4_2n Z a f h0 n0 v_ U1_.heap L_ ∧ FrameEnd U_ o_ U1_ L_ rRrm4_2n.cells rRrm4_2n.slots) := by
  refine MetFree.of_bodySF pn_rm4_2n hisR ?_
  intro p e s m args below meth c s₁ Bd hml0 hP hK
  obtain ⟨rfl, hZ, hh⟩ := hP
  have hx := Bd.exec
  have hby := Bd.bytes
  have hlk : meth.locks = false := Bd.notSynchronized
  have hml : c.maxLocals = 2 := hml0
  have hown : s.vm.findClass "com/example/graphbind/graphbind/RunningLongs" = some m.cls := findClass_of_methodNamed Bd.named
  have hnm := (name_of_methodNamed Bd.named Bd.method).1
  have X0 : Stand p l e rRrm4_2n s m #[(.ref a), (.int (2 : Int32))] below meth c s₁ [] 0 0 := Stand.of_body Bd
  have e0 : s₁.heap = h0 := by rw [← hh, Bd.state]; rfl
  have N0 := Fr.nil n0
  show own_Goes p e below s (Q4_2n Z a f h0 n0) rRrm4_2n.cells rRrm4_2n.slots s₁ (entryFrame m #[(.ref a), (.int (2 : Int32))] 2)
  rw [ef_rm4_2n m a]
  show own_Goes p e below s (Q4_2n Z a f h0 n0) rRrm4_2n.cells rRrm4_2n.slots s₁ (mkF m 0 #[rv a, iv (2 : Int32)] [])
  refine own_st (fun _ kk_ => XS.aloadN X0.here hx rfl (hb hby d4_0) rfl rfl kk_) ?_
  show own_Goes p e below s (Q4_2n Z a f h0 n0) rRrm4_2n.cells rRrm4_2n.slots s₁ (mkF m 1 #[rv a, iv (2 : Int32)] [(.ref a)])
  obtain ⟨T1, X1, e1, st1⟩ := getF X0 hx hZ hown (host := "") (Or.inl (hw _ (List.mem_of_getElem? (i := 31) rfl))) Via.refl e0 p_1 (g := (mkF m 1 #[rv a, iv (2 : Int32)] [(.ref a)])) rfl rfl (hb hby d4_1)
  refine own_st st1 ?_
  show own_Goes p e below s (Q4_2n Z a f h0 n0) rRrm4_2n.cells rRrm4_2n.slots T1 (mkF m 4 #[rv a, iv (2 : Int32)] [.null])
  refine own_st (fun _ kk_ => XS.ifnonnullNo X1.here hx rfl (hb hby d4_4) rfl (XS.aloadN X1.here hx rfl (hb hby d4_7) rfl rfl kk_)) ?_
  show own_Goes p e below s (Q4_2n Z a f h0 n0) rRrm4_2n.cells rRrm4_2n.slots T1 (mkF m 8 #[rv a, iv (2 : Int32)] [(.ref a)])
  obtain ⟨T2, X2, e2, st2⟩ := getF X1 hx hZ hown (host := "") (Or.inl (hw _ (List.mem_of_getElem? (i := 29) rfl))) Via.refl e1 p_0 (g := (mkF m 8 #[rv a, iv (2 : Int32)] [(.ref a)])) rfl rfl (hb hby d4_8)
  refine own_st st2 ?_
  show own_Goes p e below s (Q4_2n Z a f h0 n0) rRrm4_2n.cells rRrm4_2n.slots T2 (mkF m 11 #[rv a, iv (2 : Int32)] [(.long f)])
  refine own_st (fun _ kk_ => XS.iloadN X2.here hx rfl (hb hby d4_11) rfl (XS.i2l X2.here hx rfl (hb hby d4_12) rfl (XS.ladd X2.here hx rfl (hb hby d4_13) rfl (XS.goto X2.here hx rfl (pc0 := 14) (pc' := 23) rfl (hb hby d4_14) (by decide) (by decide) kk_)))) ?_
  show own_Goes p e below s (Q4_2n Z a f h0 n0) rRrm4_2n.cells rRrm4_2n.slots T2 (mkF m 23 #[rv a, iv (2 : Int32)] [(.long (f + ((2 : Int32).toInt64)))])
  refine own_retL X2 hx hlk Bd.returns (hb hby d4_23) (by decide) (by decide) ?_
  show Q4_2n Z a f h0 n0 (some (.long (f + ((2 : Int32).toInt64)))) T2.heap _
  rw [e2]
  exact ⟨rfl, N0, rfl⟩
abbrev rRrm4_2a : Room := { frames := 0, cells := 0, slots := 0, locals := 0 }
theorem pn_rm4_2a : plainFor (⟨"com/example/graphbind/graphbind/RunningLongs", "get", "(I)J"⟩ : MethodName) = true := by first | exact plainFor_of_name (by first | (simp [plainName, overriddenIn]; done) | decide +kernel) | decide +kernel
theorem ef_rm4_2a (m : MethodId) (a : Addr) : entryFrame m #[(.ref a), (.int (2 : Int32))] 2 = (mkF m 0 #[rv a, iv (2 : Int32)] []) := by first | (simp [entryFrame, mkF, argsToLocals, Value.category]; done) | rfl
def Q4_2a (Z : State) (a : Addr) (ar : Addr) (z9 : Int32) (kc : ClassId) (ev0 : Int64) (ev1 : Int64) (ev2 : Int64) (ev3 : Int64) (h0 : Heap) (n0 : Nat) (v_ : Option Value) (h_ : Heap) (L_ : List Loc) : Prop := (v_ = some (.long ev2)) ∧ (Fr n0 L_) ∧ (h_ = h0)
set_option maxRecDepth 65536 in
set_option maxHeartbeats 40000000 in
theorem rm4_2a (l : Launch) (Z : State) (a0 : Array Value) (hw : ∀ d ∈ tables_1, d.before a0 Z = true) (ws : List Jvm.Cond) (a : Addr) (ar : Addr) (z9 : Int32) (kc : ClassId) (ev0 : Int64) (ev1 : Int64) (ev2 : Int64) (ev3 : Int64) (h0 : Heap) (n0 : Nat) (Z0 : n0 ≤ h0.size) (p_0 : Fld Z h0 a "com/example/graphbind/graphbind/RunningLongs" "values" "[J" (.ref ar)) (p_1 : Arv Z h0 ar kc .long z9 [(.long ev0), (.long ev1), (.long ev2), (.long ev3)] (.long (0 : Int64))) (hz : 16 ≤ z9.toInt ∧ z9.toInt ≤ 31) :
    MetFree l (⟨"com/example/graphbind/graphbind/RunningLongs", "get", "(I)J"⟩ : MethodName) (head1 (Jvm.Cond.code (⟨"com/example/graphbind/graphbind/RunningLongs", "get", "(I)J"⟩ : MethodName) prog_67_method_3_code 2 (some .long) :: ws) rRrm4_2a) (fun a_ U_ => a_ = #[(.ref a), (.int (2 : Int32))] ∧ Z.Warmed39 U_.vm ∧ U_.heap = h0) (fun _ _ _ _ _ => True) (fun _ U_ o_ U1_ => ∃ v_ L_, o_ = .returned v_ ∧ Q4_2a Z a ar z9 kc ev0 ev1 ev2 ev3 h0 n0 v_ U1_.heap L_ ∧ FrameEnd U_ o_ U1_ L_ rRrm4_2a.cells rRrm4_2a.slots) := by
  refine MetFree.of_bodySF pn_rm4_2a hisR ?_
  intro p e s m args below meth c s₁ Bd hml0 hP hK
  obtain ⟨rfl, hZ, hh⟩ := hP
  have hx := Bd.exec
  have hby := Bd.bytes
  have hlk : meth.locks = false := Bd.notSynchronized
  have hml : c.maxLocals = 2 := hml0
  have hown : s.vm.findClass "com/example/graphbind/graphbind/RunningLongs" = some m.cls := findClass_of_methodNamed Bd.named
  have hnm := (name_of_methodNamed Bd.named Bd.method).1
  have X0 : Stand p l e rRrm4_2a s m #[(.ref a), (.int (2 : Int32))] below meth c s₁ [] 0 0 := Stand.of_body Bd
  have e0 : s₁.heap = h0 := by rw [← hh, Bd.state]; rfl
  have N0 := Fr.nil n0
  show own_Goes p e below s (Q4_2a Z a ar z9 kc ev0 ev1 ev2 ev3 h0 n0) rRrm4_2a.cells rRrm4_2a.slots s₁ (entryFrame m #[(.ref a), (.int (2 : Int32))] 2)
  rw [ef_rm4_2a m a]
  show own_Goes p e below s (Q4_2a Z a ar z9 kc ev0 ev1 ev2 ev3 h0 n0) rRrm4_2a.cells rRrm4_2a.slots s₁ (mkF m 0 #[rv a, iv (2 : Int32)] [])
  refine own_st (fun _ kk_ => XS.aloadN X0.here hx rfl (hb hby d4_0) rfl rfl kk_) ?_
  show own_Goes p e below s (Q4_2a Z a ar z9 kc ev0 ev1 ev2 ev3 h0 n0) rRrm4_2a.cells rRrm4_2a.slots s₁ (mkF m 1 #[rv a, iv (2 : Int32)] [(.ref a)])
  obtain ⟨T1, X1, e1, st1⟩ := getF X0 hx hZ hown (host := "") (Or.inl (hw _ (List.mem_of_getElem? (i := 31) rfl))) Via.refl e0 p_0 (g := (mkF m 1 #[rv a, iv (2 : Int32)] [(.ref a)])) rfl rfl (hb hby d4_1)
  refine own_st st1 ?_
  show own_Goes p e below s (Q4_2a Z a ar z9 kc ev0 ev1 ev2 ev3 h0 n0) rRrm4_2a.cells rRrm4_2a.slots T1 (mkF m 4 #[rv a, iv (2 : Int32)] [(.ref ar)])
  refine own_st (fun _ kk_ => XS.ifnonnullYes X1.here hx rfl (pc0 := 4) (pc' := 17) rfl (hb hby d4_4) rfl (by decide) (by decide) (XS.aloadN X1.here hx rfl (hb hby d4_17) rfl rfl kk_)) ?_
  show own_Goes p e below s (Q4_2a Z a ar z9 kc ev0 ev1 ev2 ev3 h0 n0) rRrm4_2a.cells rRrm4_2a.slots T1 (mkF m 18 #[rv a, iv (2 : Int32)] [(.ref a)])
  obtain ⟨T2, X2, e2, st2⟩ := getF X1 hx hZ hown (host := "") (Or.inl (hw _ (List.mem_of_getElem? (i := 31) rfl))) Via.refl e1 p_0 (g := (mkF m 18 #[rv a, iv (2 : Int32)] [(.ref a)])) rfl rfl (hb hby d4_18)
  refine own_st st2 ?_
  show own_Goes p e below s (Q4_2a Z a ar z9 kc ev0 ev1 ev2 ev3 h0 n0) rRrm4_2a.cells rRrm4_2a.slots T2 (mkF m 21 #[rv a, iv (2 : Int32)] [(.ref ar)])
  refine own_st (fun _ kk_ => XS.iloadN X2.here hx rfl (hb hby d4_21) rfl kk_) ?_
  show own_Goes p e below s (Q4_2a Z a ar z9 kc ev0 ev1 ev2 ev3 h0 n0) rRrm4_2a.cells rRrm4_2a.slots T2 (mkF m 22 #[rv a, iv (2 : Int32)] [(.int (2 : Int32)), (.ref ar)])
  obtain ⟨cl3, Ar3, q3, Sz3, Nn3, Hh3, Gg3⟩ := id p_1
  refine own_st (fun _ kk_ => X2.laload hx (j := (2 : Int32)) (v := (.long ev2)) (by rw [e2]; exact Ar3.1) (State.isArrayOf_alike hZ.alike Ar3.2.1) Ar3.2.2 (inb_of Sz3 ⟨by decide, own_lt hz (by decide)⟩) (Hh3.at (inb_of Sz3 ⟨by decide, own_lt hz (by decide)⟩) rfl) (g := (mkF m 22 #[rv a, iv (2 : Int32)] [(.int (2 : Int32)), (.ref ar)])) rfl rfl (hb hby d4_22) _ kk_) ?_
  show own_Goes p e below s (Q4_2a Z a ar z9 kc ev0 ev1 ev2 ev3 h0 n0) rRrm4_2a.cells rRrm4_2a.slots T2 (mkF m 23 #[rv a, iv (2 : Int32)] [(.long ev2)])
  refine own_retL X2 hx hlk Bd.returns (hb hby d4_23) (by decide) (by decide) ?_
  show Q4_2a Z a ar z9 kc ev0 ev1 ev2 ev3 h0 n0 (some (.long ev2)) T2.heap _
  rw [e2]
  exact ⟨rfl, N0, rfl⟩
abbrev rRrm4_3n : Room := { frames := 0, cells := 0, slots := 0, locals := 0 }
theorem pn_rm4_3n : plainFor (⟨"com/example/graphbind/graphbind/RunningLongs", "get", "(I)J"⟩ : MethodName) = true := by first | exact plainFor_of_name (by first | (simp [plainName, overriddenIn]; done) | decide +kernel) | decide +kernel
theorem ef_rm4_3n (m : MethodId) (a : Addr) : entryFrame m #[(.ref a), (.int (3 : Int32))] 2 = (mkF m 0 #[rv a, iv (3 : Int32)] []) := by first | (simp [entryFrame, mkF, argsToLocals, Value.category]; done) | rfl
def Q4_3n (Z : State) (a : Addr) (f : Int64) (h0 : Heap) (n0 : Nat) (v_ : Option Value) (h_ : Heap) (L_ : List Loc) : Prop := (v_ = some (.long (f + ((3 : Int32).toInt64)))) ∧ (Fr n0 L_) ∧ (h_ = h0)
set_option maxRecDepth 65536 in
set_option maxHeartbeats 40000000 in
theorem rm4_3n (l : Launch) (Z : State) (a0 : Array Value) (hw : ∀ d ∈ tables_1, d.before a0 Z = true) (ws : List Jvm.Cond) (a : Addr) (f : Int64) (h0 : Heap) (n0 : Nat) (Z0 : n0 ≤ h0.size) (p_0 : Fld Z h0 a "com/example/graphbind/graphbind/RunningLongs" "first" "J" (.long f)) (p_1 : Fld Z h0 a "com/example/graphbind/graphbind/RunningLongs" "values" "[J" .null) :
    MetFree l (⟨"com/example/graphbind/graphbind/RunningLongs", "get", "(I)J"⟩ : MethodName) (head1 (Jvm.Cond.code (⟨"com/example/graphbind/graphbind/RunningLongs", "get", "(I)J"⟩ : MethodName) prog_67_method_3_code 2 (some .long) :: ws) rRrm4_3n) (fun a_ U_ => a_ = #[(.ref a), (.int (3 : Int32))] ∧ Z.Warmed39 U_.vm ∧ U_.heap = h0) (fun _ _ _ _ _ => True) (fun _ U_ o_ U1_ => ∃ v_ L_, o_ = .returned v_ ∧ Q4_3n Z a f h0 n0 v_ U1_.heap L_ ∧ FrameEnd U_ o_ U1_ L_ rRrm4_3n.cells rRrm4_3n.slots) := by
  refine MetFree.of_bodySF pn_rm4_3n hisR ?_
  intro p e s m args below meth c s₁ Bd hml0 hP hK
  obtain ⟨rfl, hZ, hh⟩ := hP
  have hx := Bd.exec
  have hby := Bd.bytes
  have hlk : meth.locks = false := Bd.notSynchronized
  have hml : c.maxLocals = 2 := hml0
  have hown : s.vm.findClass "com/example/graphbind/graphbind/RunningLongs" = some m.cls := findClass_of_methodNamed Bd.named
  have hnm := (name_of_methodNamed Bd.named Bd.method).1
  have X0 : Stand p l e rRrm4_3n s m #[(.ref a), (.int (3 : Int32))] below meth c s₁ [] 0 0 := Stand.of_body Bd
  have e0 : s₁.heap = h0 := by rw [← hh, Bd.state]; rfl
  have N0 := Fr.nil n0
  show own_Goes p e below s (Q4_3n Z a f h0 n0) rRrm4_3n.cells rRrm4_3n.slots s₁ (entryFrame m #[(.ref a), (.int (3 : Int32))] 2)
  rw [ef_rm4_3n m a]
  show own_Goes p e below s (Q4_3n Z a f h0 n0) rRrm4_3n.cells rRrm4_3n.slots s₁ (mkF m 0 #[rv a, iv (3 : Int32)] [])
  refine own_st (fun _ kk_ => XS.aloadN X0.here hx rfl (hb hby d4_0) rfl rfl kk_) ?_
  show own_Goes p e below s (Q4_3n Z a f h0 n0) rRrm4_3n.cells rRrm4_3n.slots s₁ (mkF m 1 #[rv a, iv (3 : Int32)] [(.ref a)])
  obtain ⟨T1, X1, e1, st1⟩ := getF X0 hx hZ hown (host := "") (Or.inl (hw _ (List.mem_of_getElem? (i := 31) rfl))) Via.refl e0 p_1 (g := (mkF m 1 #[rv a, iv (3 : Int32)] [(.ref a)])) rfl rfl (hb hby d4_1)
  refine own_st st1 ?_
  show own_Goes p e below s (Q4_3n Z a f h0 n0) rRrm4_3n.cells rRrm4_3n.slots T1 (mkF m 4 #[rv a, iv (3 : Int32)] [.null])
  refine own_st (fun _ kk_ => XS.ifnonnullNo X1.here hx rfl (hb hby d4_4) rfl (XS.aloadN X1.here hx rfl (hb hby d4_7) rfl rfl kk_)) ?_
  show own_Goes p e below s (Q4_3n Z a f h0 n0) rRrm4_3n.cells rRrm4_3n.slots T1 (mkF m 8 #[rv a, iv (3 : Int32)] [(.ref a)])
  obtain ⟨T2, X2, e2, st2⟩ := getF X1 hx hZ hown (host := "") (Or.inl (hw _ (List.mem_of_getElem? (i := 29) rfl))) Via.refl e1 p_0 (g := (mkF m 8 #[rv a, iv (3 : Int32)] [(.ref a)])) rfl rfl (hb hby d4_8)
  refine own_st st2 ?_
  show own_Goes p e below s (Q4_3n Z a f h0 n0) rRrm4_3n.cells rRrm4_3n.slots T2 (mkF m 11 #[rv a, iv (3 : Int32)] [(.long f)])
  refine own_st (fun _ kk_ => XS.iloadN X2.here hx rfl (hb hby d4_11) rfl (XS.i2l X2.here hx rfl (hb hby d4_12) rfl (XS.ladd X2.here hx rfl (hb hby d4_13) rfl (XS.goto X2.here hx rfl (pc0 := 14) (pc' := 23) rfl (hb hby d4_14) (by decide) (by decide) kk_)))) ?_
  show own_Goes p e below s (Q4_3n Z a f h0 n0) rRrm4_3n.cells rRrm4_3n.slots T2 (mkF m 23 #[rv a, iv (3 : Int32)] [(.long (f + ((3 : Int32).toInt64)))])
  refine own_retL X2 hx hlk Bd.returns (hb hby d4_23) (by decide) (by decide) ?_
  show Q4_3n Z a f h0 n0 (some (.long (f + ((3 : Int32).toInt64)))) T2.heap _
  rw [e2]
  exact ⟨rfl, N0, rfl⟩
abbrev rRrm4_3a : Room := { frames := 0, cells := 0, slots := 0, locals := 0 }
theorem pn_rm4_3a : plainFor (⟨"com/example/graphbind/graphbind/RunningLongs", "get", "(I)J"⟩ : MethodName) = true := by first | exact plainFor_of_name (by first | (simp [plainName, overriddenIn]; done) | decide +kernel) | decide +kernel
theorem ef_rm4_3a (m : MethodId) (a : Addr) : entryFrame m #[(.ref a), (.int (3 : Int32))] 2 = (mkF m 0 #[rv a, iv (3 : Int32)] []) := by first | (simp [entryFrame, mkF, argsToLocals, Value.category]; done) | rfl
def Q4_3a (Z : State) (a : Addr) (ar : Addr) (z9 : Int32) (kc : ClassId) (ev0 : Int64) (ev1 : Int64) (ev2 : Int64) (ev3 : Int64) (h0 : Heap) (n0 : Nat) (v_ : Option Value) (h_ : Heap) (L_ : List Loc) : Prop := (v_ = some (.long ev3)) ∧ (Fr n0 L_) ∧ (h_ = h0)
set_option maxRecDepth 65536 in
set_option maxHeartbeats 40000000 in
theorem rm4_3a (l : Launch) (Z : State) (a0 : Array Value) (hw : ∀ d ∈ tables_1, d.before a0 Z = true) (ws : List Jvm.Cond) (a : Addr) (ar : Addr) (z9 : Int32) (kc : ClassId) (ev0 : Int64) (ev1 : Int64) (ev2 : Int64) (ev3 : Int64) (h0 : Heap) (n0 : Nat) (Z0 : n0 ≤ h0.size) (p_0 : Fld Z h0 a "com/example/graphbind/graphbind/RunningLongs" "values" "[J" (.ref ar)) (p_1 : Arv Z h0 ar kc .long z9 [(.long ev0), (.long ev1), (.long ev2), (.long ev3)] (.long (0 : Int64))) (hz : 16 ≤ z9.toInt ∧ z9.toInt ≤ 31) :
    MetFree l (⟨"com/example/graphbind/graphbind/RunningLongs", "get", "(I)J"⟩ : MethodName) (head1 (Jvm.Cond.code (⟨"com/example/graphbind/graphbind/RunningLongs", "get", "(I)J"⟩ : MethodName) prog_67_method_3_code 2 (some .long) :: ws) rRrm4_3a) (fun a_ U_ => a_ = #[(.ref a), (.int (3 : Int32))] ∧ Z.Warmed39 U_.vm ∧ U_.heap = h0) (fun _ _ _ _ _ => True) (fun _ U_ o_ U1_ => ∃ v_ L_, o_ = .returned v_ ∧ Q4_3a Z a ar z9 kc ev0 ev1 ev2 ev3 h0 n0 v_ U1_.heap L_ ∧ FrameEnd U_ o_ U1_ L_ rRrm4_3a.cells rRrm4_3a.slots) := by
  refine MetFree.of_bodySF pn_rm4_3a hisR ?_
  intro p e s m args below meth c s₁ Bd hml0 hP hK
  obtain ⟨rfl, hZ, hh⟩ := hP
  have hx := Bd.exec
  have hby := Bd.bytes
  have hlk : meth.locks = false := Bd.notSynchronized
  have hml : c.maxLocals = 2 := hml0
  have hown : s.vm.findClass "com/example/graphbind/graphbind/RunningLongs" = some m.cls := findClass_of_methodNamed Bd.named
  have hnm := (name_of_methodNamed Bd.named Bd.method).1
  have X0 : Stand p l e rRrm4_3a s m #[(.ref a), (.int (3 : Int32))] below meth c s₁ [] 0 0 := Stand.of_body Bd
  have e0 : s₁.heap = h0 := by rw [← hh, Bd.state]; rfl
  have N0 := Fr.nil n0
  show own_Goes p e below s (Q4_3a Z a ar z9 kc ev0 ev1 ev2 ev3 h0 n0) rRrm4_3a.cells rRrm4_3a.slots s₁ (entryFrame m #[(.ref a), (.int (3 : Int32))] 2)
  rw [ef_rm4_3a m a]
  show own_Goes p e below s (Q4_3a Z a ar z9 kc ev0 ev1 ev2 ev3 h0 n0) rRrm4_3a.cells rRrm4_3a.slots s₁ (mkF m 0 #[rv a, iv (3 : Int32)] [])
  refine own_st (fun _ kk_ => XS.aloadN X0.here hx rfl (hb hby d4_0) rfl rfl kk_) ?_
  show own_Goes p e below s (Q4_3a Z a ar z9 kc ev0 ev1 ev2 ev3 h0 n0) rRrm4_3a.cells rRrm4_3a.slots s₁ (mkF m 1 #[rv a, iv (3 : Int32)] [(.ref a)])
  obtain ⟨T1, X1, e1, st1⟩ := getF X0 hx hZ hown (host := "") (Or.inl (hw _ (List.mem_of_getElem? (i := 31) rfl))) Via.refl e0 p_0 (g := (mkF m 1 #[rv a, iv (3 : Int32)] [(.ref a)])) rfl rfl (hb hby d4_1)
  refine own_st st1 ?_
  show own_Goes p e below s (Q4_3a Z a ar z9 kc ev0 ev1 ev2 ev3 h0 n0) rRrm4_3a.cells rRrm4_3a.slots T1 (mkF m 4 #[rv a, iv (3 : Int32)] [(.ref ar)])
  refine own_st (fun _ kk_ => XS.ifnonnullYes X1.here hx rfl (pc0 := 4) (pc' := 17) rfl (hb hby d4_4) rfl (by decide) (by decide) (XS.aloadN X1.here hx rfl (hb hby d4_17) rfl rfl kk_)) ?_
  show own_Goes p e below s (Q4_3a Z a ar z9 kc ev0 ev1 ev2 ev3 h0 n0) rRrm4_3a.cells rRrm4_3a.slots T1 (mkF m 18 #[rv a, iv (3 : Int32)] [(.ref a)])
  obtain ⟨T2, X2, e2, st2⟩ := getF X1 hx hZ hown (host := "") (Or.inl (hw _ (List.mem_of_getElem? (i := 31) rfl))) Via.refl e1 p_0 (g := (mkF m 18 #[rv a, iv (3 : Int32)] [(.ref a)])) rfl rfl (hb hby d4_18)
  refine own_st st2 ?_
  show own_Goes p e below s (Q4_3a Z a ar z9 kc ev0 ev1 ev2 ev3 h0 n0) rRrm4_3a.cells rRrm4_3a.slots T2 (mkF m 21 #[rv a, iv (3 : Int32)] [(.ref ar)])
  refine own_st (fun _ kk_ => XS.iloadN X2.here hx rfl (hb hby d4_21) rfl kk_) ?_
  show own_Goes p e below s (Q4_3a Z a ar z9 kc ev0 ev1 ev2 ev3 h0 n0) rRrm4_3a.cells rRrm4_3a.slots T2 (mkF m 22 #[rv a, iv (3 : Int32)] [(.int (3 : Int32)), (.ref ar)])
  obtain ⟨cl3, Ar3, q3, Sz3, Nn3, Hh3, Gg3⟩ := id p_1
  refine own_st (fun _ kk_ => X2.laload hx (j := (3 : Int32)) (v := (.long ev3)) (by rw [e2]; exact Ar3.1) (State.isArrayOf_alike hZ.alike Ar3.2.1) Ar3.2.2 (inb_of Sz3 ⟨by decide, own_lt hz (by decide)⟩) (Hh3.at (inb_of Sz3 ⟨by decide, own_lt hz (by decide)⟩) rfl) (g := (mkF m 22 #[rv a, iv (3 : Int32)] [(.int (3 : Int32)), (.ref ar)])) rfl rfl (hb hby d4_22) _ kk_) ?_
  show own_Goes p e below s (Q4_3a Z a ar z9 kc ev0 ev1 ev2 ev3 h0 n0) rRrm4_3a.cells rRrm4_3a.slots T2 (mkF m 23 #[rv a, iv (3 : Int32)] [(.long ev3)])
  refine own_retL X2 hx hlk Bd.returns (hb hby d4_23) (by decide) (by decide) ?_
  show Q4_3a Z a ar z9 kc ev0 ev1 ev2 ev3 h0 n0 (some (.long ev3)) T2.heap _
  rw [e2]
  exact ⟨rfl, N0, rfl⟩
theorem pd_1 : parseMethodDescriptor "(Ljava/lang/String;I)V" = some ⟨[(.object "java/lang/String"), .int], none⟩ := by decide +kernel
theorem pd_2 : parseMethodDescriptor "(J)V" = some ⟨[.long], none⟩ := by decide +kernel
theorem pd_3 : parseMethodDescriptor "(I)J" = some ⟨[.int], some .long⟩ := by decide +kernel
theorem pn_rm0 : plainFor x = true := by first | exact plainFor_of_name (by first | (simp [plainName, overriddenIn]; done) | decide +kernel) | decide +kernel
theorem ef_rm0 (m : MethodId) (p1 : Int64) (p2 : Int64) (p3 : Int64) (p4 : Int64) (p5 : Int32) (p6 : Int32) : entryFrame m #[(.long p1), (.long p2), (.long p3), (.long p4), (.int p5), (.int p6)] maxLocals = (mkF m 0 #[.val (.long p1), .second, .val (.long p2), .second, .val (.long p3), .second, .val (.long p4), .second, iv p5, iv p6, .unset, .unset, .unset, .unset, .unset, .unset, .unset, .unset, .unset, .unset, .unset] []) := by first | (simp [entryFrame, mkF, argsToLocals, Value.category, maxLocals]; done) | rfl
def Q0 (Z : State) (p1 : Int64) (p2 : Int64) (p3 : Int64) (p4 : Int64) (p5 : Int32) (p6 : Int32) (h0 : Heap) (n0 : Nat) (v_ : Option Value) (h_ : Heap) (L_ : List Loc) : Prop := (v_ = some (.int (1 : Int32))) ∧ (Fr n0 L_)
set_option maxRecDepth 65536 in
set_option maxHeartbeats 40000000 in
theorem rm0 (l : Launch) (Z : State) (a0 : Array Value) (hw : ∀ d ∈ tables_1, d.before a0 Z = true) (ws : List Jvm.Cond) (p1 : Int64) (p2 : Int64) (p3 : Int64) (p4 : Int64) (p5 : Int32) (p6 : Int32) (h0 : Heap) (n0 : Nat) (Z0 : n0 ≤ h0.size) :
    MetFree l x (head1 (Jvm.Cond.code x code maxLocals ret :: ws) room_1) (fun a_ U_ => a_ = #[(.long p1), (.long p2), (.long p3), (.long p4), (.int p5), (.int p6)] ∧ Z.Warmed39 U_.vm ∧ U_.heap = h0) (fun _ _ _ _ _ => True) (fun _ U_ o_ U1_ => ∃ v_ L_, o_ = .returned v_ ∧ Q0 Z p1 p2 p3 p4 p5 p6 h0 n0 v_ U1_.heap L_ ∧ ReturnedEndW U_ o_ U1_ L_ 16 1216) := by
  refine MetFree.of_bodySF pn_rm0 hisR ?_
  intro p e s m args below meth c s₁ Bd hml0 hP hK
  obtain ⟨rfl, hZ, hh⟩ := hP
  have hx := Bd.exec
  have hby := Bd.bytes
  have hlk : meth.locks = false := Bd.notSynchronized
  have hml : c.maxLocals = 21 := hml0
  have hown : s.vm.findClass "com/example/graphbind/graphbind/RunningLongsGetPinLaw" = some m.cls := findClass_of_methodNamed Bd.named
  have hnm := (name_of_methodNamed Bd.named Bd.method).1
  have X0 : Stand p l e room_1 (s.setVm s.vm) m #[(.long p1), (.long p2), (.long p3), (.long p4), (.int p5), (.int p6)] below meth c s₁ [] 0 0 := Stand.of_body Bd
  have e0 : s₁.heap = h0 := by rw [← hh, Bd.state]; rfl
  have N0 := Fr.nil n0
  have hS0 : s.Since s.vm n0 := (State.WarmedH.refl s).since n0
  have wS : ∀ d ∈ Bundle.stringAtoms, d.before a0 Z = true := by
    intro d hd
    simp only [Bundle.stringAtoms, List.mem_cons, List.not_mem_nil, or_false] at hd
    rcases hd with rfl | rfl | rfl | rfl | rfl | rfl | rfl
    · exact (hw _ (List.mem_of_getElem? (i := 5) rfl))
    · exact (hw _ (List.mem_of_getElem? (i := 6) rfl))
    · exact (hw _ (List.mem_of_getElem? (i := 7) rfl))
    · exact (hw _ (List.mem_of_getElem? (i := 8) rfl))
    · exact (hw _ (List.mem_of_getElem? (i := 9) rfl))
    · exact (hw _ (List.mem_of_getElem? (i := 10) rfl))
    · exact (hw _ (List.mem_of_getElem? (i := 11) rfl))
  show own_GoesW p e below s (Q0 Z p1 p2 p3 p4 p5 p6 h0 n0) 16 1216 s₁ (entryFrame m #[(.long p1), (.long p2), (.long p3), (.long p4), (.int p5), (.int p6)] maxLocals)
  rw [ef_rm0 m p1 p2 p3 p4 p5 p6]
  show own_GoesW p e below s (Q0 Z p1 p2 p3 p4 p5 p6 h0 n0) 16 1216 s₁ (mkF m 0 #[.val (.long p1), .second, .val (.long p2), .second, .val (.long p3), .second, .val (.long p4), .second, iv p5, iv p6, .unset, .unset, .unset, .unset, .unset, .unset, .unset, .unset, .unset, .unset, .unset] [])
  refine own_stW (fun _ kk_ => XS.lloadN X0.here hx rfl (hb hby at_0) rfl (XS.lstore X0.here hx rfl (hb hby at_1) rfl (l' := #[.val (.long p1), .second, .val (.long p2), .second, .val (.long p3), .second, .val (.long p4), .second, iv p5, iv p6, .val (.long p1), .second, .unset, .unset, .unset, .unset, .unset, .unset, .unset, .unset, .unset]) rfl (XS.iload X0.here hx rfl (hb hby at_3) rfl (XS.iconst X0.here hx rfl (hb hby at_5) (XS.iand X0.here hx rfl (hb hby at_6) rfl kk_))))) ?_
  show own_GoesW p e below s (Q0 Z p1 p2 p3 p4 p5 p6 h0 n0) 16 1216 s₁ (mkF m 7 #[.val (.long p1), .second, .val (.long p2), .second, .val (.long p3), .second, .val (.long p4), .second, iv p5, iv p6, .val (.long p1), .second, .unset, .unset, .unset, .unset, .unset, .unset, .unset, .unset, .unset] [(.int (p5 &&& (1 : Int32)))])
  have J17 : ∀ (v1 : Int64), own_GoesW p e below s (Q0 Z p1 p2 p3 p4 p5 p6 h0 n0) 16 1216 s₁ (mkF m 17 #[.val (.long p1), .second, .val (.long p2), .second, .val (.long p3), .second, .val (.long p4), .second, iv p5, iv p6, .val (.long p1), .second, .unset, .unset, .unset, .unset, .unset, .unset, .unset, .unset, .unset] [(.long v1)]) := by
    intro v1
    show own_GoesW p e below s (Q0 Z p1 p2 p3 p4 p5 p6 h0 n0) 16 1216 s₁ (mkF m 17 #[.val (.long p1), .second, .val (.long p2), .second, .val (.long p3), .second, .val (.long p4), .second, iv p5, iv p6, .val (.long p1), .second, .unset, .unset, .unset, .unset, .unset, .unset, .unset, .unset, .unset] [(.long v1)])
    refine own_stW (fun _ kk_ => XS.lstore X0.here hx rfl (hb hby at_17) rfl (l' := #[.val (.long p1), .second, .val (.long p2), .second, .val (.long p3), .second, .val (.long p4), .second, iv p5, iv p6, .val (.long p1), .second, .val (.long v1), .second, .unset, .unset, .unset, .unset, .unset, .unset, .unset]) rfl (XS.iload X0.here hx rfl (hb hby at_19) rfl (XS.iconst X0.here hx rfl (hb hby at_21) (XS.iand X0.here hx rfl (hb hby at_22) rfl kk_)))) ?_
    show own_GoesW p e below s (Q0 Z p1 p2 p3 p4 p5 p6 h0 n0) 16 1216 s₁ (mkF m 23 #[.val (.long p1), .second, .val (.long p2), .second, .val (.long p3), .second, .val (.long p4), .second, iv p5, iv p6, .val (.long p1), .second, .val (.long v1), .second, .unset, .unset, .unset, .unset, .unset, .unset, .unset] [(.int (p5 &&& (2 : Int32)))])
    have J36 : ∀ (v2 : Int64), own_GoesW p e below s (Q0 Z p1 p2 p3 p4 p5 p6 h0 n0) 16 1216 s₁ (mkF m 36 #[.val (.long p1), .second, .val (.long p2), .second, .val (.long p3), .second, .val (.long p4), .second, iv p5, iv p6, .val (.long p1), .second, .val (.long v1), .second, .unset, .unset, .unset, .unset, .unset, .unset, .unset] [(.long v2)]) := by
      intro v2
      show own_GoesW p e below s (Q0 Z p1 p2 p3 p4 p5 p6 h0 n0) 16 1216 s₁ (mkF m 36 #[.val (.long p1), .second, .val (.long p2), .second, .val (.long p3), .second, .val (.long p4), .second, iv p5, iv p6, .val (.long p1), .second, .val (.long v1), .second, .unset, .unset, .unset, .unset, .unset, .unset, .unset] [(.long v2)])
      refine own_stW (fun _ kk_ => XS.lstore X0.here hx rfl (hb hby at_36) rfl (l' := #[.val (.long p1), .second, .val (.long p2), .second, .val (.long p3), .second, .val (.long p4), .second, iv p5, iv p6, .val (.long p1), .second, .val (.long v1), .second, .val (.long v2), .second, .unset, .unset, .unset, .unset, .unset]) rfl (XS.iload X0.here hx rfl (hb hby at_38) rfl (XS.iconst X0.here hx rfl (hb hby at_40) (XS.iand X0.here hx rfl (hb hby at_41) rfl kk_)))) ?_
      show own_GoesW p e below s (Q0 Z p1 p2 p3 p4 p5 p6 h0 n0) 16 1216 s₁ (mkF m 42 #[.val (.long p1), .second, .val (.long p2), .second, .val (.long p3), .second, .val (.long p4), .second, iv p5, iv p6, .val (.long p1), .second, .val (.long v1), .second, .val (.long v2), .second, .unset, .unset, .unset, .unset, .unset] [(.int (p5 &&& (4 : Int32)))])
      have J55 : ∀ (v3 : Int64), own_GoesW p e below s (Q0 Z p1 p2 p3 p4 p5 p6 h0 n0) 16 1216 s₁ (mkF m 55 #[.val (.long p1), .second, .val (.long p2), .second, .val (.long p3), .second, .val (.long p4), .second, iv p5, iv p6, .val (.long p1), .second, .val (.long v1), .second, .val (.long v2), .second, .unset, .unset, .unset, .unset, .unset] [(.long v3)]) := by
        intro v3
        show own_GoesW p e below s (Q0 Z p1 p2 p3 p4 p5 p6 h0 n0) 16 1216 s₁ (mkF m 55 #[.val (.long p1), .second, .val (.long p2), .second, .val (.long p3), .second, .val (.long p4), .second, iv p5, iv p6, .val (.long p1), .second, .val (.long v1), .second, .val (.long v2), .second, .unset, .unset, .unset, .unset, .unset] [(.long v3)])
        refine own_stW (fun _ kk_ => XS.lstore X0.here hx rfl (hb hby at_55) rfl (l' := #[.val (.long p1), .second, .val (.long p2), .second, .val (.long p3), .second, .val (.long p4), .second, iv p5, iv p6, .val (.long p1), .second, .val (.long v1), .second, .val (.long v2), .second, .val (.long v3), .second, .unset, .unset, .unset]) rfl (XS.iload X0.here hx rfl (hb hby at_57) rfl (XS.iconst X0.here hx rfl (hb hby at_59) (XS.iushr X0.here hx rfl (hb hby at_60) rfl (XS.iconst X0.here hx rfl (hb hby at_61) (XS.iand X0.here hx rfl (hb hby at_62) rfl (XS.iconst X0.here hx rfl (hb hby at_63) (XS.iadd X0.here hx rfl (hb hby at_64) rfl kk_)))))))) ?_
        show own_GoesW p e below s (Q0 Z p1 p2 p3 p4 p5 p6 h0 n0) 16 1216 s₁ (mkF m 65 #[.val (.long p1), .second, .val (.long p2), .second, .val (.long p3), .second, .val (.long p4), .second, iv p5, iv p6, .val (.long p1), .second, .val (.long v1), .second, .val (.long v2), .second, .val (.long v3), .second, .unset, .unset, .unset] [(.int ((((p5.toUInt32 >>> ((3 : Int32) &&& 31).toUInt32).toInt32) &&& (3 : Int32)) + (1 : Int32)))])
        refine own_stW (fun _ kk_ => XS.istore X0.here hx rfl (hb hby at_65) rfl (l' := #[.val (.long p1), .second, .val (.long p2), .second, .val (.long p3), .second, .val (.long p4), .second, iv p5, iv p6, .val (.long p1), .second, .val (.long v1), .second, .val (.long v2), .second, .val (.long v3), .second, iv ((((p5.toUInt32 >>> ((3 : Int32) &&& 31).toUInt32).toInt32) &&& (3 : Int32)) + (1 : Int32)), .unset, .unset]) rfl kk_) ?_
        show own_GoesW p e below s (Q0 Z p1 p2 p3 p4 p5 p6 h0 n0) 16 1216 s₁ (mkF m 67 #[.val (.long p1), .second, .val (.long p2), .second, .val (.long p3), .second, .val (.long p4), .second, iv p5, iv p6, .val (.long p1), .second, .val (.long v1), .second, .val (.long v2), .second, .val (.long v3), .second, iv ((((p5.toUInt32 >>> ((3 : Int32) &&& 31).toUInt32).toInt32) &&& (3 : Int32)) + (1 : Int32)), .unset, .unset] [])
        have hn9 := own_n p5
        obtain ⟨n9, h_n9⟩ : ∃ z, z = ((((p5.toUInt32 >>> ((3 : Int32) &&& 31).toUInt32).toInt32) &&& (3 : Int32)) + (1 : Int32)) := ⟨_, rfl⟩
        rw [← h_n9]
        show own_GoesW p e below s (Q0 Z p1 p2 p3 p4 p5 p6 h0 n0) 16 1216 s₁ (mkF m 67 #[.val (.long p1), .second, .val (.long p2), .second, .val (.long p3), .second, .val (.long p4), .second, iv p5, iv p6, .val (.long p1), .second, .val (.long v1), .second, .val (.long v2), .second, .val (.long v3), .second, iv n9, .unset, .unset] [])
        rw [← h_n9] at hn9
        obtain ⟨T1, h1, X1, e1, E1, A1, D1, -, st1⟩ := newO X0 hx hZ hown (hw _ (List.mem_of_getElem? (i := 1) rfl)) (hw _ (List.mem_of_getElem? (i := 2) rfl)) (hw _ (List.mem_of_getElem? (i := 3) rfl)) e0 (g := (mkF m 67 #[.val (.long p1), .second, .val (.long p2), .second, .val (.long p3), .second, .val (.long p4), .second, iv p5, iv p6, .val (.long p1), .second, .val (.long v1), .second, .val (.long v2), .second, .val (.long v3), .second, iv n9, .unset, .unset] [])) rfl (hb hby at_67) (by decide) (by decide)
        obtain ⟨b1, gx1⟩ : ∃ z, z = h0.size := ⟨_, rfl⟩
        rw [← gx1] at A1 D1 st1
        have gg1 : n0 ≤ b1 := Nat.le_trans Z0 (Nat.le_of_eq gx1.symm)
        have Zs1 : n0 ≤ h1.size := Nat.le_trans Z0 E1.1
        have Ks1 := Nat.le_trans Z0 E1.1
        have fn1_what : Fld Z h1 b1 "com/example/graphbind/graphbind/RunningLongs" "what" "Ljava/lang/String;" .null := D1 (Or.inr (hw _ (List.mem_of_getElem? (i := 19) rfl))) (ty := (.object "java/lang/String")) (by decide)
        have fn1_expected : Fld Z h1 b1 "com/example/graphbind/graphbind/RunningLongs" "expected" "I" (.int (0 : Int32)) := D1 (Or.inr (hw _ (List.mem_of_getElem? (i := 21) rfl))) (ty := .int) (by decide)
        have fn1_count : Fld Z h1 b1 "com/example/graphbind/graphbind/RunningLongs" "count" "I" (.int (0 : Int32)) := D1 (Or.inl (hw _ (List.mem_of_getElem? (i := 28) rfl))) (ty := .int) (by decide)
        have fn1_first : Fld Z h1 b1 "com/example/graphbind/graphbind/RunningLongs" "first" "J" (.long (0 : Int64)) := D1 (Or.inl (hw _ (List.mem_of_getElem? (i := 30) rfl))) (ty := .long) (by decide)
        have fn1_values : Fld Z h1 b1 "com/example/graphbind/graphbind/RunningLongs" "values" "[J" .null := D1 (Or.inl (hw _ (List.mem_of_getElem? (i := 32) rfl))) (ty := (.array .long)) (by decide)
        refine own_stW st1 ?_
        show own_GoesW p e below s (Q0 Z p1 p2 p3 p4 p5 p6 h0 n0) 16 1216 T1 (mkF m 70 #[.val (.long p1), .second, .val (.long p2), .second, .val (.long p3), .second, .val (.long p4), .second, iv p5, iv p6, .val (.long p1), .second, .val (.long v1), .second, .val (.long v2), .second, .val (.long v3), .second, iv n9, .unset, .unset] [(.ref b1)])
        refine own_stW (fun _ kk_ => XS.dup X1.here hx rfl (hb hby at_70) rfl rfl kk_) ?_
        show own_GoesW p e below s (Q0 Z p1 p2 p3 p4 p5 p6 h0 n0) 16 1216 T1 (mkF m 71 #[.val (.long p1), .second, .val (.long p2), .second, .val (.long p3), .second, .val (.long p4), .second, iv p5, iv p6, .val (.long p1), .second, .val (.long v1), .second, .val (.long v2), .second, .val (.long v3), .second, iv n9, .unset, .unset] [(.ref b1), (.ref b1)])
        obtain ⟨b2, T2, h2, k2, X2, e2, E2, hS2, Ka2, hZ, hown, st2⟩ := ldcS X1 hx hZ hown (hw _ (List.mem_of_getElem? (i := 4) rfl)) wS e1 hS0 Ks1 (g := (mkF m 71 #[.val (.long p1), .second, .val (.long p2), .second, .val (.long p3), .second, .val (.long p4), .second, iv p5, iv p6, .val (.long p1), .second, .val (.long v1), .second, .val (.long v2), .second, .val (.long v3), .second, iv n9, .unset, .unset] [(.ref b1), (.ref b1)])) rfl (hb hby at_71) (n := 20) (by decide) (by decide) (by decide) (by decide)
        have f2_0 := A1.ext E2
        have f2_1 := fn1_what.ext E2
        have f2_2 := fn1_expected.ext E2
        have f2_3 := fn1_count.ext E2
        have f2_4 := fn1_first.ext E2
        have f2_5 := fn1_values.ext E2
        have Zs2 : n0 ≤ h2.size := Nat.le_trans Zs1 E2.1
        have Ks2 := Nat.le_trans Ks1 E2.1
        refine own_stW st2 ?_
        show own_GoesW p e below s (Q0 Z p1 p2 p3 p4 p5 p6 h0 n0) 16 1216 T2 (mkF m 73 #[.val (.long p1), .second, .val (.long p2), .second, .val (.long p3), .second, .val (.long p4), .second, iv p5, iv p6, .val (.long p1), .second, .val (.long v1), .second, .val (.long v2), .second, .val (.long v3), .second, iv n9, .unset, .unset] [(.ref b2), (.ref b1), (.ref b1)])
        refine own_stW (fun _ kk_ => XS.iload X2.here hx rfl (hb hby at_73) rfl (XS.bipush X2.here hx rfl (hb hby at_75) (XS.iand X2.here hx rfl (hb hby at_77) rfl kk_))) ?_
        show own_GoesW p e below s (Q0 Z p1 p2 p3 p4 p5 p6 h0 n0) 16 1216 T2 (mkF m 78 #[.val (.long p1), .second, .val (.long p2), .second, .val (.long p3), .second, .val (.long p4), .second, iv p5, iv p6, .val (.long p1), .second, .val (.long v1), .second, .val (.long v2), .second, .val (.long v3), .second, iv n9, .unset, .unset] [(.int (p6 &&& (31 : Int32))), (.ref b2), (.ref b1), (.ref b1)])
        obtain ⟨_, _, ⟨T3, L3, k3, n3⟩, -, X3, ⟨Lc3, hQ3, l3, y3, z3⟩, st3⟩ := X2.specialBack hx (y := (⟨"com/example/graphbind/graphbind/RunningLongs", "<init>", "(Ljava/lang/String;I)V"⟩ : MethodName)) rfl hown (mvT hZ (hw _ (List.mem_of_getElem? (i := 12) rfl))) (mvT hZ (hw _ (List.mem_of_getElem? (i := 13) rfl))) (mvT hZ (hw _ (List.mem_of_getElem? (i := 14) rfl))) (by decide) (backOf (W := 1) (rm1 l Z a0 hw [] (b1) (b2) ((p6 &&& (31 : Int32))) h2 n0 Zs2 f2_0 f2_1 gg1 f2_3 f2_4 f2_5 f2_2) hZ (hw _ (List.mem_of_getElem? (i := 14) rfl)) (hw _ (List.mem_of_getElem? (i := 3) rfl)) (by decide) (by decide)) (g := (mkF m 78 #[.val (.long p1), .second, .val (.long p2), .second, .val (.long p3), .second, .val (.long p4), .second, iv p5, iv p6, .val (.long p1), .second, .val (.long v1), .second, .val (.long v2), .second, .val (.long v3), .second, iv n9, .unset, .unset] [(.int (p6 &&& (31 : Int32))), (.ref b2), (.ref b1), (.ref b1)])) rfl (by rw [hml]; rfl) (Steps.refl _) (a := b1) (argsL := [(.ref b2), (.int (p6 &&& (31 : Int32)))]) (rest := [(.ref b1)]) (lenOf pd_1 rfl) rfl (by show 2 * 0 + _ ≤ _; exact Nat.le_of_eq rfl) (hb hby at_78) (fun _ _ => ⟨rfl, e2, (by decide : 3 + 0 ≤ _), (by decide : 29 + 0 ≤ _)⟩)
        dsimp only [Pt.U, Pt.locs, Pt.cells, Pt.slots] at X3 l3 y3 z3 st3 hQ3
        subst l3 y3 z3
        obtain ⟨rfl, Nq3, Kq3, u3_0, u3_1, u3_2, u3_3⟩ := hQ3
        have N3 := Fr.app N0 Nq3
        have f3_0 := f2_0.keep Kq3
        have Ks3 := Nat.le_trans Ka2 Kq3.1
        have Zs3 : n0 ≤ T3.heap.size := Nat.le_trans Zs2 Kq3.1
        refine own_stW (fun _ kk_ => st3.trans kk_) ?_
        show own_GoesW p e below s (Q0 Z p1 p2 p3 p4 p5 p6 h0 n0) 16 1216 T3 (mkF m 81 #[.val (.long p1), .second, .val (.long p2), .second, .val (.long p3), .second, .val (.long p4), .second, iv p5, iv p6, .val (.long p1), .second, .val (.long v1), .second, .val (.long v2), .second, .val (.long v3), .second, iv n9, .unset, .unset] [(.ref b1)])
        refine own_stW (fun _ kk_ => XS.astore X3.here hx rfl (hb hby at_81) rfl rfl (l' := #[.val (.long p1), .second, .val (.long p2), .second, .val (.long p3), .second, .val (.long p4), .second, iv p5, iv p6, .val (.long p1), .second, .val (.long v1), .second, .val (.long v2), .second, .val (.long v3), .second, iv n9, rv b1, .unset]) rfl (XS.aload X3.here hx rfl (hb hby at_83) rfl rfl (XS.lload X3.here hx rfl (hb hby at_85) rfl kk_))) ?_
        show own_GoesW p e below s (Q0 Z p1 p2 p3 p4 p5 p6 h0 n0) 16 1216 T3 (mkF m 87 #[.val (.long p1), .second, .val (.long p2), .second, .val (.long p3), .second, .val (.long p4), .second, iv p5, iv p6, .val (.long p1), .second, .val (.long v1), .second, .val (.long v2), .second, .val (.long v3), .second, iv n9, rv b1, .unset] [(.long p1), (.ref b1)])
        obtain ⟨cq4, kq4, q4a, q4b, q4c⟩ := isOf hZ rfl f3_0
        obtain ⟨_, _, ⟨T4, L4, k4, n4⟩, -, X4, ⟨Lc4, hQ4, l4, y4, z4⟩, st4⟩ := X3.virtualBack hx (y := (⟨"com/example/graphbind/graphbind/RunningLongs", "add", "(J)V"⟩ : MethodName)) (z := (⟨"com/example/graphbind/graphbind/RunningLongs", "add", "(J)V"⟩ : MethodName)) hown (mvT hZ (hw _ (List.mem_of_getElem? (i := 22) rfl))) (mvT hZ (hw _ (List.mem_of_getElem? (i := 23) rfl))) (notFace_of_selects (args := #[]) (mvT hZ (hw _ (List.mem_of_getElem? (i := 25) rfl)))) (mvT hZ (hw _ (List.mem_of_getElem? (i := 25) rfl))) (mvT hZ (hw _ (List.mem_of_getElem? (i := 24) rfl))) (by decide) (backOf (W := 0) (rm3_0 l Z a0 hw [] (b1) (p1) ((p6 &&& (31 : Int32))) T3.heap n0 Zs3 f3_0 gg1 u3_0 u3_1 u3_2 u3_3) hZ (hw _ (List.mem_of_getElem? (i := 26) rfl)) (hw _ (List.mem_of_getElem? (i := 3) rfl)) (by decide) (by decide)) q4a q4c (g := (mkF m 87 #[.val (.long p1), .second, .val (.long p2), .second, .val (.long p3), .second, .val (.long p4), .second, iv p5, iv p6, .val (.long p1), .second, .val (.long v1), .second, .val (.long v2), .second, .val (.long v3), .second, iv n9, rv b1, .unset] [(.long p1), (.ref b1)])) rfl (by rw [hml]; rfl) (Steps.refl _) (argsL := [(.long p1)]) (rest := []) (lenOf pd_2 rfl) rfl (by show 2 * 0 + _ ≤ _; exact Nat.le_of_eq rfl) (hb hby at_87) (fun _ _ => ⟨rfl, rfl, (by decide : 3 + 0 ≤ _), (by decide : 29 + 0 ≤ _)⟩)
        dsimp only [Pt.U, Pt.locs, Pt.cells, Pt.slots] at X4 l4 y4 z4 st4 hQ4
        subst l4 y4 z4
        obtain ⟨rfl, Nq4, Kq4, u4_0, u4_1, u4_2, u4_3⟩ := hQ4
        have N4 := Fr.app N3 Nq4
        have f4_0 := f3_0.keep Kq4
        have Ks4 := Nat.le_trans Ks3 Kq4.1
        have Zs4 : n0 ≤ T4.heap.size := Nat.le_trans Zs3 Kq4.1
        refine own_stW (fun _ kk_ => st4.trans kk_) ?_
        show own_GoesW p e below s (Q0 Z p1 p2 p3 p4 p5 p6 h0 n0) 16 1216 T4 (mkF m 90 #[.val (.long p1), .second, .val (.long p2), .second, .val (.long p3), .second, .val (.long p4), .second, iv p5, iv p6, .val (.long p1), .second, .val (.long v1), .second, .val (.long v2), .second, .val (.long v3), .second, iv n9, rv b1, .unset] [])
        rcases hn9 with rfl | rfl | rfl | rfl
        · show own_GoesW p e below s (Q0 Z p1 p2 p3 p4 p5 p6 h0 n0) 16 1216 T4 (mkF m 90 #[.val (.long p1), .second, .val (.long p2), .second, .val (.long p3), .second, .val (.long p4), .second, iv p5, iv p6, .val (.long p1), .second, .val (.long v1), .second, .val (.long v2), .second, .val (.long v3), .second, iv (1 : Int32), rv b1, .unset] [])
          refine own_stW (fun _ kk_ => XS.iload X4.here hx rfl (hb hby at_90) rfl (XS.iconst X4.here hx rfl (hb hby at_92) (XS.icmpYes X4.here hx rfl (pc0 := 93) (pc' := 103) rfl (hb hby at_93) rfl (XT.ii_le_t (by decide)) (by decide) (by decide) (XS.iload X4.here hx rfl (hb hby at_103) rfl (XS.iconst X4.here hx rfl (hb hby at_105) (XS.icmpYes X4.here hx rfl (pc0 := 106) (pc' := 116) rfl (hb hby at_106) rfl (XT.ii_le_t (by decide)) (by decide) (by decide) (XS.iload X4.here hx rfl (hb hby at_116) rfl (XS.iconst X4.here hx rfl (hb hby at_118) kk_)))))))) ?_
          show own_GoesW p e below s (Q0 Z p1 p2 p3 p4 p5 p6 h0 n0) 16 1216 T4 (mkF m 119 #[.val (.long p1), .second, .val (.long p2), .second, .val (.long p3), .second, .val (.long p4), .second, iv p5, iv p6, .val (.long p1), .second, .val (.long v1), .second, .val (.long v2), .second, .val (.long v3), .second, iv (1 : Int32), rv b1, .unset] [(.int (3 : Int32)), (.int (1 : Int32))])
          refine own_stW (fun _ kk_ => XS.icmpYes X4.here hx rfl (pc0 := 119) (pc' := 129) rfl (hb hby at_119) rfl (XT.ii_le_t (by decide)) (by decide) (by decide) (XS.aload X4.here hx rfl (hb hby at_129) rfl rfl (XS.iconst X4.here hx rfl (hb hby at_131) kk_))) ?_
          show own_GoesW p e below s (Q0 Z p1 p2 p3 p4 p5 p6 h0 n0) 16 1216 T4 (mkF m 132 #[.val (.long p1), .second, .val (.long p2), .second, .val (.long p3), .second, .val (.long p4), .second, iv p5, iv p6, .val (.long p1), .second, .val (.long v1), .second, .val (.long v2), .second, .val (.long v3), .second, iv (1 : Int32), rv b1, .unset] [(.int (0 : Int32)), (.ref b1)])
          obtain ⟨cq5, kq5, q5a, q5b, q5c⟩ := isOf hZ rfl f4_0
          obtain ⟨_, _, ⟨T5, L5, k5, n5⟩, -, X5, ⟨Lc5, hQ5, l5, y5, z5⟩, st5⟩ := X4.virtualBack hx (y := (⟨"com/example/graphbind/graphbind/RunningLongs", "get", "(I)J"⟩ : MethodName)) (z := (⟨"com/example/graphbind/graphbind/RunningLongs", "get", "(I)J"⟩ : MethodName)) hown (mvT hZ (hw _ (List.mem_of_getElem? (i := 33) rfl))) (mvT hZ (hw _ (List.mem_of_getElem? (i := 34) rfl))) (notFace_of_selects (args := #[]) (mvT hZ (hw _ (List.mem_of_getElem? (i := 36) rfl)))) (mvT hZ (hw _ (List.mem_of_getElem? (i := 36) rfl))) (mvT hZ (hw _ (List.mem_of_getElem? (i := 35) rfl))) (by decide) (backOf (W := 0) (rm4_0n l Z a0 hw [] (b1) (p1) T4.heap n0 Zs4 u4_1 u4_2) hZ (hw _ (List.mem_of_getElem? (i := 37) rfl)) (hw _ (List.mem_of_getElem? (i := 3) rfl)) (by decide) (by decide)) q5a q5c (g := (mkF m 132 #[.val (.long p1), .second, .val (.long p2), .second, .val (.long p3), .second, .val (.long p4), .second, iv p5, iv p6, .val (.long p1), .second, .val (.long v1), .second, .val (.long v2), .second, .val (.long v3), .second, iv (1 : Int32), rv b1, .unset] [(.int (0 : Int32)), (.ref b1)])) rfl (by rw [hml]; rfl) (Steps.refl _) (argsL := [(.int (0 : Int32))]) (rest := []) (lenOf pd_3 rfl) rfl (by show 2 * 0 + _ ≤ _; exact Nat.le_of_eq rfl) (hb hby at_132) (fun _ _ => ⟨rfl, rfl, (by decide : 3 + 0 ≤ _), (by decide : 29 + 0 ≤ _)⟩)
          dsimp only [Pt.U, Pt.locs, Pt.cells, Pt.slots] at X5 l5 y5 z5 st5 hQ5
          subst l5 y5 z5
          obtain ⟨rfl, Nq5, eq5⟩ := hQ5
          have N5 := Fr.app N4 Nq5
          refine own_stW (fun _ kk_ => st5.trans kk_) ?_
          show own_GoesW p e below s (Q0 Z p1 p2 p3 p4 p5 p6 h0 n0) 16 1216 T5 (mkF m 135 #[.val (.long p1), .second, .val (.long p2), .second, .val (.long p3), .second, .val (.long p4), .second, iv p5, iv p6, .val (.long p1), .second, .val (.long v1), .second, .val (.long v2), .second, .val (.long v3), .second, iv (1 : Int32), rv b1, .unset] [(.long (p1 + ((0 : Int32).toInt64)))])
          refine own_stW (fun _ kk_ => XS.lload X5.here hx rfl (hb hby at_135) rfl (XT.lcmp X5.here hx rfl (hb hby at_137) rfl (XS.ifNo X5.here hx rfl (hb hby at_138) rfl (XT.ll_ne_f (own_z0 p1)) (XS.iconst X5.here hx rfl (hb hby at_141) (XS.goto X5.here hx rfl (pc0 := 142) (pc' := 146) rfl (hb hby at_142) (by decide) (by decide) (XS.istore X5.here hx rfl (hb hby at_146) rfl (l' := #[.val (.long p1), .second, .val (.long p2), .second, .val (.long p3), .second, .val (.long p4), .second, iv p5, iv p6, .val (.long p1), .second, .val (.long v1), .second, .val (.long v2), .second, .val (.long v3), .second, iv (1 : Int32), rv b1, iv (1 : Int32)]) rfl (XS.iload X5.here hx rfl (hb hby at_148) rfl (XS.iconst X5.here hx rfl (hb hby at_150) kk_)))))))) ?_
          show own_GoesW p e below s (Q0 Z p1 p2 p3 p4 p5 p6 h0 n0) 16 1216 T5 (mkF m 151 #[.val (.long p1), .second, .val (.long p2), .second, .val (.long p3), .second, .val (.long p4), .second, iv p5, iv p6, .val (.long p1), .second, .val (.long v1), .second, .val (.long v2), .second, .val (.long v3), .second, iv (1 : Int32), rv b1, iv (1 : Int32)] [(.int (1 : Int32)), (.int (1 : Int32))])
          refine own_stW (fun _ kk_ => XS.icmpYes X5.here hx rfl (pc0 := 151) (pc' := 178) rfl (hb hby at_151) rfl (XT.ii_le_t (by decide)) (by decide) (by decide) (XS.iload X5.here hx rfl (hb hby at_178) rfl (XS.iconst X5.here hx rfl (hb hby at_180) (XS.icmpYes X5.here hx rfl (pc0 := 181) (pc' := 208) rfl (hb hby at_181) rfl (XT.ii_le_t (by decide)) (by decide) (by decide) (XS.iload X5.here hx rfl (hb hby at_208) rfl (XS.iconst X5.here hx rfl (hb hby at_210) (XS.icmpYes X5.here hx rfl (pc0 := 211) (pc' := 238) rfl (hb hby at_211) rfl (XT.ii_le_t (by decide)) (by decide) (by decide) (XS.iload X5.here hx rfl (hb hby at_238) rfl kk_)))))))) ?_
          show own_GoesW p e below s (Q0 Z p1 p2 p3 p4 p5 p6 h0 n0) 16 1216 T5 (mkF m 240 #[.val (.long p1), .second, .val (.long p2), .second, .val (.long p3), .second, .val (.long p4), .second, iv p5, iv p6, .val (.long p1), .second, .val (.long v1), .second, .val (.long v2), .second, .val (.long v3), .second, iv (1 : Int32), rv b1, iv (1 : Int32)] [(.int (1 : Int32))])
          refine own_endW (v := (some (.int (nar .boolean (1 : Int32))))) X5 hlk hS2 (by rw [eq5]; exact Ks4) (fun h => by rw [Bd.returns] at h; cases h) (by decide) (by decide) ?_ (fun fs hr => retN X5 hx (t := .boolean) Bd.returns (by simp) (hb hby at_240) hr)
          show Q0 Z p1 p2 p3 p4 p5 p6 h0 n0 (some (.int (nar .boolean (1 : Int32)))) T5.heap _
          rw [eq5]
          exact ⟨rfl, N5⟩
        · show own_GoesW p e below s (Q0 Z p1 p2 p3 p4 p5 p6 h0 n0) 16 1216 T4 (mkF m 90 #[.val (.long p1), .second, .val (.long p2), .second, .val (.long p3), .second, .val (.long p4), .second, iv p5, iv p6, .val (.long p1), .second, .val (.long v1), .second, .val (.long v2), .second, .val (.long v3), .second, iv (2 : Int32), rv b1, .unset] [])
          refine own_stW (fun _ kk_ => XS.iload X4.here hx rfl (hb hby at_90) rfl (XS.iconst X4.here hx rfl (hb hby at_92) (XS.icmpNo X4.here hx rfl (hb hby at_93) rfl (XT.ii_le_f (by decide)) (XS.aload X4.here hx rfl (hb hby at_96) rfl rfl (XS.lload X4.here hx rfl (hb hby at_98) rfl kk_))))) ?_
          show own_GoesW p e below s (Q0 Z p1 p2 p3 p4 p5 p6 h0 n0) 16 1216 T4 (mkF m 100 #[.val (.long p1), .second, .val (.long p2), .second, .val (.long p3), .second, .val (.long p4), .second, iv p5, iv p6, .val (.long p1), .second, .val (.long v1), .second, .val (.long v2), .second, .val (.long v3), .second, iv (2 : Int32), rv b1, .unset] [(.long v1), (.ref b1)])
          rcases Classical.em (v1 = (p1 + ((1 : Int32).toInt64))) with h_eq1 | h_eq1
          · obtain ⟨cq6, kq6, q6a, q6b, q6c⟩ := isOf hZ rfl f4_0
            obtain ⟨_, _, ⟨T6, L6, k6, n6⟩, -, X6, ⟨Lc6, hQ6, l6, y6, z6⟩, st6⟩ := X4.virtualBack hx (y := (⟨"com/example/graphbind/graphbind/RunningLongs", "add", "(J)V"⟩ : MethodName)) (z := (⟨"com/example/graphbind/graphbind/RunningLongs", "add", "(J)V"⟩ : MethodName)) hown (mvT hZ (hw _ (List.mem_of_getElem? (i := 22) rfl))) (mvT hZ (hw _ (List.mem_of_getElem? (i := 23) rfl))) (notFace_of_selects (args := #[]) (mvT hZ (hw _ (List.mem_of_getElem? (i := 25) rfl)))) (mvT hZ (hw _ (List.mem_of_getElem? (i := 25) rfl))) (mvT hZ (hw _ (List.mem_of_getElem? (i := 24) rfl))) (by decide) (backOf (W := 0) (rm3_1e l Z a0 hw [] (b1) (v1) ((p6 &&& (31 : Int32))) (p1) T4.heap n0 Zs4 f4_0 gg1 u4_0 u4_1 u4_2 u4_3 h_eq1) hZ (hw _ (List.mem_of_getElem? (i := 26) rfl)) (hw _ (List.mem_of_getElem? (i := 3) rfl)) (by decide) (by decide)) q6a q6c (g := (mkF m 100 #[.val (.long p1), .second, .val (.long p2), .second, .val (.long p3), .second, .val (.long p4), .second, iv p5, iv p6, .val (.long p1), .second, .val (.long v1), .second, .val (.long v2), .second, .val (.long v3), .second, iv (2 : Int32), rv b1, .unset] [(.long v1), (.ref b1)])) rfl (by rw [hml]; rfl) (Steps.refl _) (argsL := [(.long v1)]) (rest := []) (lenOf pd_2 rfl) rfl (by show 2 * 0 + _ ≤ _; exact Nat.le_of_eq rfl) (hb hby at_100) (fun _ _ => ⟨rfl, rfl, (by decide : 3 + 0 ≤ _), (by decide : 29 + 0 ≤ _)⟩)
            dsimp only [Pt.U, Pt.locs, Pt.cells, Pt.slots] at X6 l6 y6 z6 st6 hQ6
            subst l6 y6 z6
            obtain ⟨rfl, Nq6, Kq6, u6_0, u6_1, u6_2, u6_3⟩ := hQ6
            have N6 := Fr.app N4 Nq6
            have f6_0 := f4_0.keep Kq6
            have Ks6 := Nat.le_trans Ks4 Kq6.1
            have Zs6 : n0 ≤ T6.heap.size := Nat.le_trans Zs4 Kq6.1
            refine own_stW (fun _ kk_ => st6.trans kk_) ?_
            show own_GoesW p e below s (Q0 Z p1 p2 p3 p4 p5 p6 h0 n0) 16 1216 T6 (mkF m 103 #[.val (.long p1), .second, .val (.long p2), .second, .val (.long p3), .second, .val (.long p4), .second, iv p5, iv p6, .val (.long p1), .second, .val (.long v1), .second, .val (.long v2), .second, .val (.long v3), .second, iv (2 : Int32), rv b1, .unset] [])
            refine own_stW (fun _ kk_ => XS.iload X6.here hx rfl (hb hby at_103) rfl (XS.iconst X6.here hx rfl (hb hby at_105) (XS.icmpYes X6.here hx rfl (pc0 := 106) (pc' := 116) rfl (hb hby at_106) rfl (XT.ii_le_t (by decide)) (by decide) (by decide) (XS.iload X6.here hx rfl (hb hby at_116) rfl (XS.iconst X6.here hx rfl (hb hby at_118) (XS.icmpYes X6.here hx rfl (pc0 := 119) (pc' := 129) rfl (hb hby at_119) rfl (XT.ii_le_t (by decide)) (by decide) (by decide) (XS.aload X6.here hx rfl (hb hby at_129) rfl rfl (XS.iconst X6.here hx rfl (hb hby at_131) kk_)))))))) ?_
            show own_GoesW p e below s (Q0 Z p1 p2 p3 p4 p5 p6 h0 n0) 16 1216 T6 (mkF m 132 #[.val (.long p1), .second, .val (.long p2), .second, .val (.long p3), .second, .val (.long p4), .second, iv p5, iv p6, .val (.long p1), .second, .val (.long v1), .second, .val (.long v2), .second, .val (.long v3), .second, iv (2 : Int32), rv b1, .unset] [(.int (0 : Int32)), (.ref b1)])
            obtain ⟨cq7, kq7, q7a, q7b, q7c⟩ := isOf hZ rfl f6_0
            obtain ⟨_, _, ⟨T7, L7, k7, n7⟩, -, X7, ⟨Lc7, hQ7, l7, y7, z7⟩, st7⟩ := X6.virtualBack hx (y := (⟨"com/example/graphbind/graphbind/RunningLongs", "get", "(I)J"⟩ : MethodName)) (z := (⟨"com/example/graphbind/graphbind/RunningLongs", "get", "(I)J"⟩ : MethodName)) hown (mvT hZ (hw _ (List.mem_of_getElem? (i := 33) rfl))) (mvT hZ (hw _ (List.mem_of_getElem? (i := 34) rfl))) (notFace_of_selects (args := #[]) (mvT hZ (hw _ (List.mem_of_getElem? (i := 36) rfl)))) (mvT hZ (hw _ (List.mem_of_getElem? (i := 36) rfl))) (mvT hZ (hw _ (List.mem_of_getElem? (i := 35) rfl))) (by decide) (backOf (W := 0) (rm4_0n l Z a0 hw [] (b1) (p1) T6.heap n0 Zs6 u6_1 u6_2) hZ (hw _ (List.mem_of_getElem? (i := 37) rfl)) (hw _ (List.mem_of_getElem? (i := 3) rfl)) (by decide) (by decide)) q7a q7c (g := (mkF m 132 #[.val (.long p1), .second, .val (.long p2), .second, .val (.long p3), .second, .val (.long p4), .second, iv p5, iv p6, .val (.long p1), .second, .val (.long v1), .second, .val (.long v2), .second, .val (.long v3), .second, iv (2 : Int32), rv b1, .unset] [(.int (0 : Int32)), (.ref b1)])) rfl (by rw [hml]; rfl) (Steps.refl _) (argsL := [(.int (0 : Int32))]) (rest := []) (lenOf pd_3 rfl) rfl (by show 2 * 0 + _ ≤ _; exact Nat.le_of_eq rfl) (hb hby at_132) (fun _ _ => ⟨rfl, rfl, (by decide : 3 + 0 ≤ _), (by decide : 29 + 0 ≤ _)⟩)
            dsimp only [Pt.U, Pt.locs, Pt.cells, Pt.slots] at X7 l7 y7 z7 st7 hQ7
            subst l7 y7 z7
            obtain ⟨rfl, Nq7, eq7⟩ := hQ7
            have N7 := Fr.app N6 Nq7
            refine own_stW (fun _ kk_ => st7.trans kk_) ?_
            show own_GoesW p e below s (Q0 Z p1 p2 p3 p4 p5 p6 h0 n0) 16 1216 T7 (mkF m 135 #[.val (.long p1), .second, .val (.long p2), .second, .val (.long p3), .second, .val (.long p4), .second, iv p5, iv p6, .val (.long p1), .second, .val (.long v1), .second, .val (.long v2), .second, .val (.long v3), .second, iv (2 : Int32), rv b1, .unset] [(.long (p1 + ((0 : Int32).toInt64)))])
            refine own_stW (fun _ kk_ => XS.lload X7.here hx rfl (hb hby at_135) rfl (XT.lcmp X7.here hx rfl (hb hby at_137) rfl (XS.ifNo X7.here hx rfl (hb hby at_138) rfl (XT.ll_ne_f (own_z0 p1)) (XS.iconst X7.here hx rfl (hb hby at_141) (XS.goto X7.here hx rfl (pc0 := 142) (pc' := 146) rfl (hb hby at_142) (by decide) (by decide) (XS.istore X7.here hx rfl (hb hby at_146) rfl (l' := #[.val (.long p1), .second, .val (.long p2), .second, .val (.long p3), .second, .val (.long p4), .second, iv p5, iv p6, .val (.long p1), .second, .val (.long v1), .second, .val (.long v2), .second, .val (.long v3), .second, iv (2 : Int32), rv b1, iv (1 : Int32)]) rfl (XS.iload X7.here hx rfl (hb hby at_148) rfl (XS.iconst X7.here hx rfl (hb hby at_150) kk_)))))))) ?_
            show own_GoesW p e below s (Q0 Z p1 p2 p3 p4 p5 p6 h0 n0) 16 1216 T7 (mkF m 151 #[.val (.long p1), .second, .val (.long p2), .second, .val (.long p3), .second, .val (.long p4), .second, iv p5, iv p6, .val (.long p1), .second, .val (.long v1), .second, .val (.long v2), .second, .val (.long v3), .second, iv (2 : Int32), rv b1, iv (1 : Int32)] [(.int (1 : Int32)), (.int (2 : Int32))])
            refine own_stW (fun _ kk_ => XS.icmpNo X7.here hx rfl (hb hby at_151) rfl (XT.ii_le_f (by decide)) (XS.iload X7.here hx rfl (hb hby at_154) rfl (XS.ifNo X7.here hx rfl (hb hby at_156) rfl (XT.i0_eq_f (by decide)) (XS.aload X7.here hx rfl (hb hby at_159) rfl rfl (XS.iconst X7.here hx rfl (hb hby at_161) kk_))))) ?_
            show own_GoesW p e below s (Q0 Z p1 p2 p3 p4 p5 p6 h0 n0) 16 1216 T7 (mkF m 162 #[.val (.long p1), .second, .val (.long p2), .second, .val (.long p3), .second, .val (.long p4), .second, iv p5, iv p6, .val (.long p1), .second, .val (.long v1), .second, .val (.long v2), .second, .val (.long v3), .second, iv (2 : Int32), rv b1, iv (1 : Int32)] [(.int (1 : Int32)), (.ref b1)])
            obtain ⟨cq8, kq8, q8a, q8b, q8c⟩ := isOf hZ eq7 f6_0
            obtain ⟨_, _, ⟨T8, L8, k8, n8⟩, -, X8, ⟨Lc8, hQ8, l8, y8, z8⟩, st8⟩ := X7.virtualBack hx (y := (⟨"com/example/graphbind/graphbind/RunningLongs", "get", "(I)J"⟩ : MethodName)) (z := (⟨"com/example/graphbind/graphbind/RunningLongs", "get", "(I)J"⟩ : MethodName)) hown (mvT hZ (hw _ (List.mem_of_getElem? (i := 33) rfl))) (mvT hZ (hw _ (List.mem_of_getElem? (i := 34) rfl))) (notFace_of_selects (args := #[]) (mvT hZ (hw _ (List.mem_of_getElem? (i := 36) rfl)))) (mvT hZ (hw _ (List.mem_of_getElem? (i := 36) rfl))) (mvT hZ (hw _ (List.mem_of_getElem? (i := 35) rfl))) (by decide) (backOf (W := 0) (rm4_1n l Z a0 hw [] (b1) (p1) T6.heap n0 Zs6 u6_1 u6_2) hZ (hw _ (List.mem_of_getElem? (i := 37) rfl)) (hw _ (List.mem_of_getElem? (i := 3) rfl)) (by decide) (by decide)) q8a q8c (g := (mkF m 162 #[.val (.long p1), .second, .val (.long p2), .second, .val (.long p3), .second, .val (.long p4), .second, iv p5, iv p6, .val (.long p1), .second, .val (.long v1), .second, .val (.long v2), .second, .val (.long v3), .second, iv (2 : Int32), rv b1, iv (1 : Int32)] [(.int (1 : Int32)), (.ref b1)])) rfl (by rw [hml]; rfl) (Steps.refl _) (argsL := [(.int (1 : Int32))]) (rest := []) (lenOf pd_3 rfl) rfl (by show 2 * 0 + _ ≤ _; exact Nat.le_of_eq rfl) (hb hby at_162) (fun _ _ => ⟨rfl, eq7, (by decide : 3 + 0 ≤ _), (by decide : 29 + 0 ≤ _)⟩)
            dsimp only [Pt.U, Pt.locs, Pt.cells, Pt.slots] at X8 l8 y8 z8 st8 hQ8
            subst l8 y8 z8
            obtain ⟨rfl, Nq8, eq8⟩ := hQ8
            have N8 := Fr.app N7 Nq8
            refine own_stW (fun _ kk_ => st8.trans kk_) ?_
            show own_GoesW p e below s (Q0 Z p1 p2 p3 p4 p5 p6 h0 n0) 16 1216 T8 (mkF m 165 #[.val (.long p1), .second, .val (.long p2), .second, .val (.long p3), .second, .val (.long p4), .second, iv p5, iv p6, .val (.long p1), .second, .val (.long v1), .second, .val (.long v2), .second, .val (.long v3), .second, iv (2 : Int32), rv b1, iv (1 : Int32)] [(.long (p1 + ((1 : Int32).toInt64)))])
            refine own_stW (fun _ kk_ => XS.lload X8.here hx rfl (hb hby at_165) rfl (XT.lcmp X8.here hx rfl (hb hby at_167) rfl (XS.ifNo X8.here hx rfl (hb hby at_168) rfl (XT.ll_ne_f h_eq1.symm) (XS.iconst X8.here hx rfl (hb hby at_171) (XS.goto X8.here hx rfl (pc0 := 172) (pc' := 176) rfl (hb hby at_172) (by decide) (by decide) (XS.istore X8.here hx rfl (hb hby at_176) rfl (l' := #[.val (.long p1), .second, .val (.long p2), .second, .val (.long p3), .second, .val (.long p4), .second, iv p5, iv p6, .val (.long p1), .second, .val (.long v1), .second, .val (.long v2), .second, .val (.long v3), .second, iv (2 : Int32), rv b1, iv (1 : Int32)]) rfl (XS.iload X8.here hx rfl (hb hby at_178) rfl (XS.iconst X8.here hx rfl (hb hby at_180) kk_)))))))) ?_
            show own_GoesW p e below s (Q0 Z p1 p2 p3 p4 p5 p6 h0 n0) 16 1216 T8 (mkF m 181 #[.val (.long p1), .second, .val (.long p2), .second, .val (.long p3), .second, .val (.long p4), .second, iv p5, iv p6, .val (.long p1), .second, .val (.long v1), .second, .val (.long v2), .second, .val (.long v3), .second, iv (2 : Int32), rv b1, iv (1 : Int32)] [(.int (2 : Int32)), (.int (2 : Int32))])
            refine own_stW (fun _ kk_ => XS.icmpYes X8.here hx rfl (pc0 := 181) (pc' := 208) rfl (hb hby at_181) rfl (XT.ii_le_t (by decide)) (by decide) (by decide) (XS.iload X8.here hx rfl (hb hby at_208) rfl (XS.iconst X8.here hx rfl (hb hby at_210) (XS.icmpYes X8.here hx rfl (pc0 := 211) (pc' := 238) rfl (hb hby at_211) rfl (XT.ii_le_t (by decide)) (by decide) (by decide) (XS.iload X8.here hx rfl (hb hby at_238) rfl kk_))))) ?_
            show own_GoesW p e below s (Q0 Z p1 p2 p3 p4 p5 p6 h0 n0) 16 1216 T8 (mkF m 240 #[.val (.long p1), .second, .val (.long p2), .second, .val (.long p3), .second, .val (.long p4), .second, iv p5, iv p6, .val (.long p1), .second, .val (.long v1), .second, .val (.long v2), .second, .val (.long v3), .second, iv (2 : Int32), rv b1, iv (1 : Int32)] [(.int (1 : Int32))])
            refine own_endW (v := (some (.int (nar .boolean (1 : Int32))))) X8 hlk hS2 (by rw [eq8]; exact Ks6) (fun h => by rw [Bd.returns] at h; cases h) (by decide) (by decide) ?_ (fun fs hr => retN X8 hx (t := .boolean) Bd.returns (by simp) (hb hby at_240) hr)
            show Q0 Z p1 p2 p3 p4 p5 p6 h0 n0 (some (.int (nar .boolean (1 : Int32)))) T8.heap _
            rw [eq8]
            exact ⟨rfl, N8⟩
          · obtain ⟨cq9, kq9, q9a, q9b, q9c⟩ := isOf hZ rfl f4_0
            obtain ⟨_, _, ⟨T9, L9, k9, n9⟩, -, X9, ⟨Lc9, hQ9, l9, y9, z9⟩, st9⟩ := X4.virtualBack hx (y := (⟨"com/example/graphbind/graphbind/RunningLongs", "add", "(J)V"⟩ : MethodName)) (z := (⟨"com/example/graphbind/graphbind/RunningLongs", "add", "(J)V"⟩ : MethodName)) hown (mvT hZ (hw _ (List.mem_of_getElem? (i := 22) rfl))) (mvT hZ (hw _ (List.mem_of_getElem? (i := 23) rfl))) (notFace_of_selects (args := #[]) (mvT hZ (hw _ (List.mem_of_getElem? (i := 25) rfl)))) (mvT hZ (hw _ (List.mem_of_getElem? (i := 25) rfl))) (mvT hZ (hw _ (List.mem_of_getElem? (i := 24) rfl))) (by decide) (backOf (W := 0) (rm3_1n l Z a0 hw [] (b1) (v1) ((p6 &&& (31 : Int32))) (p1) T4.heap n0 Zs4 f4_0 gg1 u4_0 u4_1 u4_2 u4_3 h_eq1 (own_31 p6)) hZ (hw _ (List.mem_of_getElem? (i := 26) rfl)) (hw _ (List.mem_of_getElem? (i := 3) rfl)) (by decide) (by decide)) q9a q9c (g := (mkF m 100 #[.val (.long p1), .second, .val (.long p2), .second, .val (.long p3), .second, .val (.long p4), .second, iv p5, iv p6, .val (.long p1), .second, .val (.long v1), .second, .val (.long v2), .second, .val (.long v3), .second, iv (2 : Int32), rv b1, .unset] [(.long v1), (.ref b1)])) rfl (by rw [hml]; rfl) (Steps.refl _) (argsL := [(.long v1)]) (rest := []) (lenOf pd_2 rfl) rfl (by show 2 * 0 + _ ≤ _; exact Nat.le_of_eq rfl) (hb hby at_100) (fun _ _ => ⟨rfl, rfl, (by decide : 3 + 1 ≤ _), (by decide : 29 + 31 ≤ _)⟩)
            dsimp only [Pt.U, Pt.locs, Pt.cells, Pt.slots] at X9 l9 y9 z9 st9 hQ9
            subst l9 y9 z9
            obtain ⟨x9_ar, x9_z9, x9_kc, rfl, Nq9, Kq9, u9_0, u9_1, u9_2, u9_3, u9_4, u9_5, u9_6⟩ := hQ9
            have N9 := Fr.app N4 Nq9
            have f9_0 := f4_0.keep Kq9
            have Ks9 := Nat.le_trans Ks4 Kq9.1
            have Zs9 : n0 ≤ T9.heap.size := Nat.le_trans Zs4 Kq9.1
            have ne9_b1 : b1 ≠ x9_ar := Nat.ne_of_lt (Nat.lt_of_lt_of_le f4_0.lt u9_4)
            have gg9_ar : n0 ≤ x9_ar := Nat.le_trans Zs4 u9_4
            refine own_stW (fun _ kk_ => st9.trans kk_) ?_
            show own_GoesW p e below s (Q0 Z p1 p2 p3 p4 p5 p6 h0 n0) 16 1216 T9 (mkF m 103 #[.val (.long p1), .second, .val (.long p2), .second, .val (.long p3), .second, .val (.long p4), .second, iv p5, iv p6, .val (.long p1), .second, .val (.long v1), .second, .val (.long v2), .second, .val (.long v3), .second, iv (2 : Int32), rv b1, .unset] [])
            refine own_stW (fun _ kk_ => XS.iload X9.here hx rfl (hb hby at_103) rfl (XS.iconst X9.here hx rfl (hb hby at_105) (XS.icmpYes X9.here hx rfl (pc0 := 106) (pc' := 116) rfl (hb hby at_106) rfl (XT.ii_le_t (by decide)) (by decide) (by decide) (XS.iload X9.here hx rfl (hb hby at_116) rfl (XS.iconst X9.here hx rfl (hb hby at_118) (XS.icmpYes X9.here hx rfl (pc0 := 119) (pc' := 129) rfl (hb hby at_119) rfl (XT.ii_le_t (by decide)) (by decide) (by decide) (XS.aload X9.here hx rfl (hb hby at_129) rfl rfl (XS.iconst X9.here hx rfl (hb hby at_131) kk_)))))))) ?_
            show own_GoesW p e below s (Q0 Z p1 p2 p3 p4 p5 p6 h0 n0) 16 1216 T9 (mkF m 132 #[.val (.long p1), .second, .val (.long p2), .second, .val (.long p3), .second, .val (.long p4), .second, iv p5, iv p6, .val (.long p1), .second, .val (.long v1), .second, .val (.long v2), .second, .val (.long v3), .second, iv (2 : Int32), rv b1, .unset] [(.int (0 : Int32)), (.ref b1)])
            obtain ⟨cq10, kq10, q10a, q10b, q10c⟩ := isOf hZ rfl f9_0
            obtain ⟨_, _, ⟨T10, L10, k10, n10⟩, -, X10, ⟨Lc10, hQ10, l10, y10, z10⟩, st10⟩ := X9.virtualBack hx (y := (⟨"com/example/graphbind/graphbind/RunningLongs", "get", "(I)J"⟩ : MethodName)) (z := (⟨"com/example/graphbind/graphbind/RunningLongs", "get", "(I)J"⟩ : MethodName)) hown (mvT hZ (hw _ (List.mem_of_getElem? (i := 33) rfl))) (mvT hZ (hw _ (List.mem_of_getElem? (i := 34) rfl))) (notFace_of_selects (args := #[]) (mvT hZ (hw _ (List.mem_of_getElem? (i := 36) rfl)))) (mvT hZ (hw _ (List.mem_of_getElem? (i := 36) rfl))) (mvT hZ (hw _ (List.mem_of_getElem? (i := 35) rfl))) (by decide) (backOf (W := 0) (rm4_0a l Z a0 hw [] (b1) (x9_ar) (x9_z9) (x9_kc) ((p1 + ((0 : Int32).toInt64))) (v1) ((0 : Int64)) ((0 : Int64)) T9.heap n0 Zs9 u9_2 u9_6 u9_5) hZ (hw _ (List.mem_of_getElem? (i := 37) rfl)) (hw _ (List.mem_of_getElem? (i := 3) rfl)) (by decide) (by decide)) q10a q10c (g := (mkF m 132 #[.val (.long p1), .second, .val (.long p2), .second, .val (.long p3), .second, .val (.long p4), .second, iv p5, iv p6, .val (.long p1), .second, .val (.long v1), .second, .val (.long v2), .second, .val (.long v3), .second, iv (2 : Int32), rv b1, .unset] [(.int (0 : Int32)), (.ref b1)])) rfl (by rw [hml]; rfl) (Steps.refl _) (argsL := [(.int (0 : Int32))]) (rest := []) (lenOf pd_3 rfl) rfl (by show 2 * 0 + _ ≤ _; exact Nat.le_of_eq rfl) (hb hby at_132) (fun _ _ => ⟨rfl, rfl, (by decide : 4 + 0 ≤ _), (by decide : 60 + 0 ≤ _)⟩)
            dsimp only [Pt.U, Pt.locs, Pt.cells, Pt.slots] at X10 l10 y10 z10 st10 hQ10
            subst l10 y10 z10
            obtain ⟨rfl, Nq10, eq10⟩ := hQ10
            have N10 := Fr.app N9 Nq10
            refine own_stW (fun _ kk_ => st10.trans kk_) ?_
            show own_GoesW p e below s (Q0 Z p1 p2 p3 p4 p5 p6 h0 n0) 16 1216 T10 (mkF m 135 #[.val (.long p1), .second, .val (.long p2), .second, .val (.long p3), .second, .val (.long p4), .second, iv p5, iv p6, .val (.long p1), .second, .val (.long v1), .second, .val (.long v2), .second, .val (.long v3), .second, iv (2 : Int32), rv b1, .unset] [(.long (p1 + ((0 : Int32).toInt64)))])
            refine own_stW (fun _ kk_ => XS.lload X10.here hx rfl (hb hby at_135) rfl (XT.lcmp X10.here hx rfl (hb hby at_137) rfl (XS.ifNo X10.here hx rfl (hb hby at_138) rfl (XT.ll_ne_f (own_z0 p1)) (XS.iconst X10.here hx rfl (hb hby at_141) (XS.goto X10.here hx rfl (pc0 := 142) (pc' := 146) rfl (hb hby at_142) (by decide) (by decide) (XS.istore X10.here hx rfl (hb hby at_146) rfl (l' := #[.val (.long p1), .second, .val (.long p2), .second, .val (.long p3), .second, .val (.long p4), .second, iv p5, iv p6, .val (.long p1), .second, .val (.long v1), .second, .val (.long v2), .second, .val (.long v3), .second, iv (2 : Int32), rv b1, iv (1 : Int32)]) rfl (XS.iload X10.here hx rfl (hb hby at_148) rfl (XS.iconst X10.here hx rfl (hb hby at_150) kk_)))))))) ?_
            show own_GoesW p e below s (Q0 Z p1 p2 p3 p4 p5 p6 h0 n0) 16 1216 T10 (mkF m 151 #[.val (.long p1), .second, .val (.long p2), .second, .val (.long p3), .second, .val (.long p4), .second, iv p5, iv p6, .val (.long p1), .second, .val (.long v1), .second, .val (.long v2), .second, .val (.long v3), .second, iv (2 : Int32), rv b1, iv (1 : Int32)] [(.int (1 : Int32)), (.int (2 : Int32))])
            refine own_stW (fun _ kk_ => XS.icmpNo X10.here hx rfl (hb hby at_151) rfl (XT.ii_le_f (by decide)) (XS.iload X10.here hx rfl (hb hby at_154) rfl (XS.ifNo X10.here hx rfl (hb hby at_156) rfl (XT.i0_eq_f (by decide)) (XS.aload X10.here hx rfl (hb hby at_159) rfl rfl (XS.iconst X10.here hx rfl (hb hby at_161) kk_))))) ?_
            show own_GoesW p e below s (Q0 Z p1 p2 p3 p4 p5 p6 h0 n0) 16 1216 T10 (mkF m 162 #[.val (.long p1), .second, .val (.long p2), .second, .val (.long p3), .second, .val (.long p4), .second, iv p5, iv p6, .val (.long p1), .second, .val (.long v1), .second, .val (.long v2), .second, .val (.long v3), .second, iv (2 : Int32), rv b1, iv (1 : Int32)] [(.int (1 : Int32)), (.ref b1)])
            obtain ⟨cq11, kq11, q11a, q11b, q11c⟩ := isOf hZ eq10 f9_0
            obtain ⟨_, _, ⟨T11, L11, k11, n11⟩, -, X11, ⟨Lc11, hQ11, l11, y11, z11⟩, st11⟩ := X10.virtualBack hx (y := (⟨"com/example/graphbind/graphbind/RunningLongs", "get", "(I)J"⟩ : MethodName)) (z := (⟨"com/example/graphbind/graphbind/RunningLongs", "get", "(I)J"⟩ : MethodName)) hown (mvT hZ (hw _ (List.mem_of_getElem? (i := 33) rfl))) (mvT hZ (hw _ (List.mem_of_getElem? (i := 34) rfl))) (notFace_of_selects (args := #[]) (mvT hZ (hw _ (List.mem_of_getElem? (i := 36) rfl)))) (mvT hZ (hw _ (List.mem_of_getElem? (i := 36) rfl))) (mvT hZ (hw _ (List.mem_of_getElem? (i := 35) rfl))) (by decide) (backOf (W := 0) (rm4_1a l Z a0 hw [] (b1) (x9_ar) (x9_z9) (x9_kc) ((p1 + ((0 : Int32).toInt64))) (v1) ((0 : Int64)) ((0 : Int64)) T9.heap n0 Zs9 u9_2 u9_6 u9_5) hZ (hw _ (List.mem_of_getElem? (i := 37) rfl)) (hw _ (List.mem_of_getElem? (i := 3) rfl)) (by decide) (by decide)) q11a q11c (g := (mkF m 162 #[.val (.long p1), .second, .val (.long p2), .second, .val (.long p3), .second, .val (.long p4), .second, iv p5, iv p6, .val (.long p1), .second, .val (.long v1), .second, .val (.long v2), .second, .val (.long v3), .second, iv (2 : Int32), rv b1, iv (1 : Int32)] [(.int (1 : Int32)), (.ref b1)])) rfl (by rw [hml]; rfl) (Steps.refl _) (argsL := [(.int (1 : Int32))]) (rest := []) (lenOf pd_3 rfl) rfl (by show 2 * 0 + _ ≤ _; exact Nat.le_of_eq rfl) (hb hby at_162) (fun _ _ => ⟨rfl, eq10, (by decide : 4 + 0 ≤ _), (by decide : 60 + 0 ≤ _)⟩)
            dsimp only [Pt.U, Pt.locs, Pt.cells, Pt.slots] at X11 l11 y11 z11 st11 hQ11
            subst l11 y11 z11
            obtain ⟨rfl, Nq11, eq11⟩ := hQ11
            have N11 := Fr.app N10 Nq11
            refine own_stW (fun _ kk_ => st11.trans kk_) ?_
            show own_GoesW p e below s (Q0 Z p1 p2 p3 p4 p5 p6 h0 n0) 16 1216 T11 (mkF m 165 #[.val (.long p1), .second, .val (.long p2), .second, .val (.long p3), .second, .val (.long p4), .second, iv p5, iv p6, .val (.long p1), .second, .val (.long v1), .second, .val (.long v2), .second, .val (.long v3), .second, iv (2 : Int32), rv b1, iv (1 : Int32)] [(.long v1)])
            refine own_stW (fun _ kk_ => XS.lload X11.here hx rfl (hb hby at_165) rfl (XT.lcmp X11.here hx rfl (hb hby at_167) rfl (XS.ifNo X11.here hx rfl (hb hby at_168) rfl (XT.ll_ne_f rfl) (XS.iconst X11.here hx rfl (hb hby at_171) (XS.goto X11.here hx rfl (pc0 := 172) (pc' := 176) rfl (hb hby at_172) (by decide) (by decide) (XS.istore X11.here hx rfl (hb hby at_176) rfl (l' := #[.val (.long p1), .second, .val (.long p2), .second, .val (.long p3), .second, .val (.long p4), .second, iv p5, iv p6, .val (.long p1), .second, .val (.long v1), .second, .val (.long v2), .second, .val (.long v3), .second, iv (2 : Int32), rv b1, iv (1 : Int32)]) rfl (XS.iload X11.here hx rfl (hb hby at_178) rfl (XS.iconst X11.here hx rfl (hb hby at_180) kk_)))))))) ?_
            show own_GoesW p e below s (Q0 Z p1 p2 p3 p4 p5 p6 h0 n0) 16 1216 T11 (mkF m 181 #[.val (.long p1), .second, .val (.long p2), .second, .val (.long p3), .second, .val (.long p4), .second, iv p5, iv p6, .val (.long p1), .second, .val (.long v1), .second, .val (.long v2), .second, .val (.long v3), .second, iv (2 : Int32), rv b1, iv (1 : Int32)] [(.int (2 : Int32)), (.int (2 : Int32))])
            refine own_stW (fun _ kk_ => XS.icmpYes X11.here hx rfl (pc0 := 181) (pc' := 208) rfl (hb hby at_181) rfl (XT.ii_le_t (by decide)) (by decide) (by decide) (XS.iload X11.here hx rfl (hb hby at_208) rfl (XS.iconst X11.here hx rfl (hb hby at_210) (XS.icmpYes X11.here hx rfl (pc0 := 211) (pc' := 238) rfl (hb hby at_211) rfl (XT.ii_le_t (by decide)) (by decide) (by decide) (XS.iload X11.here hx rfl (hb hby at_238) rfl kk_))))) ?_
            show own_GoesW p e below s (Q0 Z p1 p2 p3 p4 p5 p6 h0 n0) 16 1216 T11 (mkF m 240 #[.val (.long p1), .second, .val (.long p2), .second, .val (.long p3), .second, .val (.long p4), .second, iv p5, iv p6, .val (.long p1), .second, .val (.long v1), .second, .val (.long v2), .second, .val (.long v3), .second, iv (2 : Int32), rv b1, iv (1 : Int32)] [(.int (1 : Int32))])
            refine own_endW (v := (some (.int (nar .boolean (1 : Int32))))) X11 hlk hS2 (by rw [eq11]; exact Ks9) (fun h => by rw [Bd.returns] at h; cases h) (by decide) (by decide) ?_ (fun fs hr => retN X11 hx (t := .boolean) Bd.returns (by simp) (hb hby at_240) hr)
            show Q0 Z p1 p2 p3 p4 p5 p6 h0 n0 (some (.int (nar .boolean (1 : Int32)))) T11.heap _
            rw [eq11]
            exact ⟨rfl, N11⟩
        · show own_GoesW p e below s (Q0 Z p1 p2 p3 p4 p5 p6 h0 n0) 16 1216 T4 (mkF m 90 #[.val (.long p1), .second, .val (.long p2), .second, .val (.long p3), .second, .val (.long p4), .second, iv p5, iv p6, .val (.long p1), .second, .val (.long v1), .second, .val (.long v2), .second, .val (.long v3), .second, iv (3 : Int32), rv b1, .unset] [])
          refine own_stW (fun _ kk_ => XS.iload X4.here hx rfl (hb hby at_90) rfl (XS.iconst X4.here hx rfl (hb hby at_92) (XS.icmpNo X4.here hx rfl (hb hby at_93) rfl (XT.ii_le_f (by decide)) (XS.aload X4.here hx rfl (hb hby at_96) rfl rfl (XS.lload X4.here hx rfl (hb hby at_98) rfl kk_))))) ?_
          show own_GoesW p e below s (Q0 Z p1 p2 p3 p4 p5 p6 h0 n0) 16 1216 T4 (mkF m 100 #[.val (.long p1), .second, .val (.long p2), .second, .val (.long p3), .second, .val (.long p4), .second, iv p5, iv p6, .val (.long p1), .second, .val (.long v1), .second, .val (.long v2), .second, .val (.long v3), .second, iv (3 : Int32), rv b1, .unset] [(.long v1), (.ref b1)])
          rcases Classical.em (v1 = (p1 + ((1 : Int32).toInt64))) with h_eq1 | h_eq1
          · obtain ⟨cq12, kq12, q12a, q12b, q12c⟩ := isOf hZ rfl f4_0
            obtain ⟨_, _, ⟨T12, L12, k12, n12⟩, -, X12, ⟨Lc12, hQ12, l12, y12, z12⟩, st12⟩ := X4.virtualBack hx (y := (⟨"com/example/graphbind/graphbind/RunningLongs", "add", "(J)V"⟩ : MethodName)) (z := (⟨"com/example/graphbind/graphbind/RunningLongs", "add", "(J)V"⟩ : MethodName)) hown (mvT hZ (hw _ (List.mem_of_getElem? (i := 22) rfl))) (mvT hZ (hw _ (List.mem_of_getElem? (i := 23) rfl))) (notFace_of_selects (args := #[]) (mvT hZ (hw _ (List.mem_of_getElem? (i := 25) rfl)))) (mvT hZ (hw _ (List.mem_of_getElem? (i := 25) rfl))) (mvT hZ (hw _ (List.mem_of_getElem? (i := 24) rfl))) (by decide) (backOf (W := 0) (rm3_1e l Z a0 hw [] (b1) (v1) ((p6 &&& (31 : Int32))) (p1) T4.heap n0 Zs4 f4_0 gg1 u4_0 u4_1 u4_2 u4_3 h_eq1) hZ (hw _ (List.mem_of_getElem? (i := 26) rfl)) (hw _ (List.mem_of_getElem? (i := 3) rfl)) (by decide) (by decide)) q12a q12c (g := (mkF m 100 #[.val (.long p1), .second, .val (.long p2), .second, .val (.long p3), .second, .val (.long p4), .second, iv p5, iv p6, .val (.long p1), .second, .val (.long v1), .second, .val (.long v2), .second, .val (.long v3), .second, iv (3 : Int32), rv b1, .unset] [(.long v1), (.ref b1)])) rfl (by rw [hml]; rfl) (Steps.refl _) (argsL := [(.long v1)]) (rest := []) (lenOf pd_2 rfl) rfl (by show 2 * 0 + _ ≤ _; exact Nat.le_of_eq rfl) (hb hby at_100) (fun _ _ => ⟨rfl, rfl, (by decide : 3 + 0 ≤ _), (by decide : 29 + 0 ≤ _)⟩)
            dsimp only [Pt.U, Pt.locs, Pt.cells, Pt.slots] at X12 l12 y12 z12 st12 hQ12
            subst l12 y12 z12
            obtain ⟨rfl, Nq12, Kq12, u12_0, u12_1, u12_2, u12_3⟩ := hQ12
            have N12 := Fr.app N4 Nq12
            have f12_0 := f4_0.keep Kq12
            have Ks12 := Nat.le_trans Ks4 Kq12.1
            have Zs12 : n0 ≤ T12.heap.size := Nat.le_trans Zs4 Kq12.1
            refine own_stW (fun _ kk_ => st12.trans kk_) ?_
            show own_GoesW p e below s (Q0 Z p1 p2 p3 p4 p5 p6 h0 n0) 16 1216 T12 (mkF m 103 #[.val (.long p1), .second, .val (.long p2), .second, .val (.long p3), .second, .val (.long p4), .second, iv p5, iv p6, .val (.long p1), .second, .val (.long v1), .second, .val (.long v2), .second, .val (.long v3), .second, iv (3 : Int32), rv b1, .unset] [])
            refine own_stW (fun _ kk_ => XS.iload X12.here hx rfl (hb hby at_103) rfl (XS.iconst X12.here hx rfl (hb hby at_105) (XS.icmpNo X12.here hx rfl (hb hby at_106) rfl (XT.ii_le_f (by decide)) (XS.aload X12.here hx rfl (hb hby at_109) rfl rfl (XS.lload X12.here hx rfl (hb hby at_111) rfl kk_))))) ?_
            show own_GoesW p e below s (Q0 Z p1 p2 p3 p4 p5 p6 h0 n0) 16 1216 T12 (mkF m 113 #[.val (.long p1), .second, .val (.long p2), .second, .val (.long p3), .second, .val (.long p4), .second, iv p5, iv p6, .val (.long p1), .second, .val (.long v1), .second, .val (.long v2), .second, .val (.long v3), .second, iv (3 : Int32), rv b1, .unset] [(.long v2), (.ref b1)])
            rcases Classical.em (v2 = (p1 + ((2 : Int32).toInt64))) with h_eq2 | h_eq2
            · obtain ⟨cq13, kq13, q13a, q13b, q13c⟩ := isOf hZ rfl f12_0
              obtain ⟨_, _, ⟨T13, L13, k13, n13⟩, -, X13, ⟨Lc13, hQ13, l13, y13, z13⟩, st13⟩ := X12.virtualBack hx (y := (⟨"com/example/graphbind/graphbind/RunningLongs", "add", "(J)V"⟩ : MethodName)) (z := (⟨"com/example/graphbind/graphbind/RunningLongs", "add", "(J)V"⟩ : MethodName)) hown (mvT hZ (hw _ (List.mem_of_getElem? (i := 22) rfl))) (mvT hZ (hw _ (List.mem_of_getElem? (i := 23) rfl))) (notFace_of_selects (args := #[]) (mvT hZ (hw _ (List.mem_of_getElem? (i := 25) rfl)))) (mvT hZ (hw _ (List.mem_of_getElem? (i := 25) rfl))) (mvT hZ (hw _ (List.mem_of_getElem? (i := 24) rfl))) (by decide) (backOf (W := 0) (rm3_2e l Z a0 hw [] (b1) (v2) ((p6 &&& (31 : Int32))) (p1) T12.heap n0 Zs12 f12_0 gg1 u12_0 u12_1 u12_2 u12_3 h_eq2) hZ (hw _ (List.mem_of_getElem? (i := 26) rfl)) (hw _ (List.mem_of_getElem? (i := 3) rfl)) (by decide) (by decide)) q13a q13c (g := (mkF m 113 #[.val (.long p1), .second, .val (.long p2), .second, .val (.long p3), .second, .val (.long p4), .second, iv p5, iv p6, .val (.long p1), .second, .val (.long v1), .second, .val (.long v2), .second, .val (.long v3), .second, iv (3 : Int32), rv b1, .unset] [(.long v2), (.ref b1)])) rfl (by rw [hml]; rfl) (Steps.refl _) (argsL := [(.long v2)]) (rest := []) (lenOf pd_2 rfl) rfl (by show 2 * 0 + _ ≤ _; exact Nat.le_of_eq rfl) (hb hby at_113) (fun _ _ => ⟨rfl, rfl, (by decide : 3 + 0 ≤ _), (by decide : 29 + 0 ≤ _)⟩)
              dsimp only [Pt.U, Pt.locs, Pt.cells, Pt.slots] at X13 l13 y13 z13 st13 hQ13
              subst l13 y13 z13
              obtain ⟨rfl, Nq13, Kq13, u13_0, u13_1, u13_2, u13_3⟩ := hQ13
              have N13 := Fr.app N12 Nq13
              have f13_0 := f12_0.keep Kq13
              have Ks13 := Nat.le_trans Ks12 Kq13.1
              have Zs13 : n0 ≤ T13.heap.size := Nat.le_trans Zs12 Kq13.1
              refine own_stW (fun _ kk_ => st13.trans kk_) ?_
              show own_GoesW p e below s (Q0 Z p1 p2 p3 p4 p5 p6 h0 n0) 16 1216 T13 (mkF m 116 #[.val (.long p1), .second, .val (.long p2), .second, .val (.long p3), .second, .val (.long p4), .second, iv p5, iv p6, .val (.long p1), .second, .val (.long v1), .second, .val (.long v2), .second, .val (.long v3), .second, iv (3 : Int32), rv b1, .unset] [])
              refine own_stW (fun _ kk_ => XS.iload X13.here hx rfl (hb hby at_116) rfl (XS.iconst X13.here hx rfl (hb hby at_118) (XS.icmpYes X13.here hx rfl (pc0 := 119) (pc' := 129) rfl (hb hby at_119) rfl (XT.ii_le_t (by decide)) (by decide) (by decide) (XS.aload X13.here hx rfl (hb hby at_129) rfl rfl (XS.iconst X13.here hx rfl (hb hby at_131) kk_))))) ?_
              show own_GoesW p e below s (Q0 Z p1 p2 p3 p4 p5 p6 h0 n0) 16 1216 T13 (mkF m 132 #[.val (.long p1), .second, .val (.long p2), .second, .val (.long p3), .second, .val (.long p4), .second, iv p5, iv p6, .val (.long p1), .second, .val (.long v1), .second, .val (.long v2), .second, .val (.long v3), .second, iv (3 : Int32), rv b1, .unset] [(.int (0 : Int32)), (.ref b1)])
              obtain ⟨cq14, kq14, q14a, q14b, q14c⟩ := isOf hZ rfl f13_0
              obtain ⟨_, _, ⟨T14, L14, k14, n14⟩, -, X14, ⟨Lc14, hQ14, l14, y14, z14⟩, st14⟩ := X13.virtualBack hx (y := (⟨"com/example/graphbind/graphbind/RunningLongs", "get", "(I)J"⟩ : MethodName)) (z := (⟨"com/example/graphbind/graphbind/RunningLongs", "get", "(I)J"⟩ : MethodName)) hown (mvT hZ (hw _ (List.mem_of_getElem? (i := 33) rfl))) (mvT hZ (hw _ (List.mem_of_getElem? (i := 34) rfl))) (notFace_of_selects (args := #[]) (mvT hZ (hw _ (List.mem_of_getElem? (i := 36) rfl)))) (mvT hZ (hw _ (List.mem_of_getElem? (i := 36) rfl))) (mvT hZ (hw _ (List.mem_of_getElem? (i := 35) rfl))) (by decide) (backOf (W := 0) (rm4_0n l Z a0 hw [] (b1) (p1) T13.heap n0 Zs13 u13_1 u13_2) hZ (hw _ (List.mem_of_getElem? (i := 37) rfl)) (hw _ (List.mem_of_getElem? (i := 3) rfl)) (by decide) (by decide)) q14a q14c (g := (mkF m 132 #[.val (.long p1), .second, .val (.long p2), .second, .val (.long p3), .second, .val (.long p4), .second, iv p5, iv p6, .val (.long p1), .second, .val (.long v1), .second, .val (.long v2), .second, .val (.long v3), .second, iv (3 : Int32), rv b1, .unset] [(.int (0 : Int32)), (.ref b1)])) rfl (by rw [hml]; rfl) (Steps.refl _) (argsL := [(.int (0 : Int32))]) (rest := []) (lenOf pd_3 rfl) rfl (by show 2 * 0 + _ ≤ _; exact Nat.le_of_eq rfl) (hb hby at_132) (fun _ _ => ⟨rfl, rfl, (by decide : 3 + 0 ≤ _), (by decide : 29 + 0 ≤ _)⟩)
              dsimp only [Pt.U, Pt.locs, Pt.cells, Pt.slots] at X14 l14 y14 z14 st14 hQ14
              subst l14 y14 z14
              obtain ⟨rfl, Nq14, eq14⟩ := hQ14
              have N14 := Fr.app N13 Nq14
              refine own_stW (fun _ kk_ => st14.trans kk_) ?_
              show own_GoesW p e below s (Q0 Z p1 p2 p3 p4 p5 p6 h0 n0) 16 1216 T14 (mkF m 135 #[.val (.long p1), .second, .val (.long p2), .second, .val (.long p3), .second, .val (.long p4), .second, iv p5, iv p6, .val (.long p1), .second, .val (.long v1), .second, .val (.long v2), .second, .val (.long v3), .second, iv (3 : Int32), rv b1, .unset] [(.long (p1 + ((0 : Int32).toInt64)))])
              refine own_stW (fun _ kk_ => XS.lload X14.here hx rfl (hb hby at_135) rfl (XT.lcmp X14.here hx rfl (hb hby at_137) rfl (XS.ifNo X14.here hx rfl (hb hby at_138) rfl (XT.ll_ne_f (own_z0 p1)) (XS.iconst X14.here hx rfl (hb hby at_141) (XS.goto X14.here hx rfl (pc0 := 142) (pc' := 146) rfl (hb hby at_142) (by decide) (by decide) (XS.istore X14.here hx rfl (hb hby at_146) rfl (l' := #[.val (.long p1), .second, .val (.long p2), .second, .val (.long p3), .second, .val (.long p4), .second, iv p5, iv p6, .val (.long p1), .second, .val (.long v1), .second, .val (.long v2), .second, .val (.long v3), .second, iv (3 : Int32), rv b1, iv (1 : Int32)]) rfl (XS.iload X14.here hx rfl (hb hby at_148) rfl (XS.iconst X14.here hx rfl (hb hby at_150) kk_)))))))) ?_
              show own_GoesW p e below s (Q0 Z p1 p2 p3 p4 p5 p6 h0 n0) 16 1216 T14 (mkF m 151 #[.val (.long p1), .second, .val (.long p2), .second, .val (.long p3), .second, .val (.long p4), .second, iv p5, iv p6, .val (.long p1), .second, .val (.long v1), .second, .val (.long v2), .second, .val (.long v3), .second, iv (3 : Int32), rv b1, iv (1 : Int32)] [(.int (1 : Int32)), (.int (3 : Int32))])
              refine own_stW (fun _ kk_ => XS.icmpNo X14.here hx rfl (hb hby at_151) rfl (XT.ii_le_f (by decide)) (XS.iload X14.here hx rfl (hb hby at_154) rfl (XS.ifNo X14.here hx rfl (hb hby at_156) rfl (XT.i0_eq_f (by decide)) (XS.aload X14.here hx rfl (hb hby at_159) rfl rfl (XS.iconst X14.here hx rfl (hb hby at_161) kk_))))) ?_
              show own_GoesW p e below s (Q0 Z p1 p2 p3 p4 p5 p6 h0 n0) 16 1216 T14 (mkF m 162 #[.val (.long p1), .second, .val (.long p2), .second, .val (.long p3), .second, .val (.long p4), .second, iv p5, iv p6, .val (.long p1), .second, .val (.long v1), .second, .val (.long v2), .second, .val (.long v3), .second, iv (3 : Int32), rv b1, iv (1 : Int32)] [(.int (1 : Int32)), (.ref b1)])
              obtain ⟨cq15, kq15, q15a, q15b, q15c⟩ := isOf hZ eq14 f13_0
              obtain ⟨_, _, ⟨T15, L15, k15, n15⟩, -, X15, ⟨Lc15, hQ15, l15, y15, z15⟩, st15⟩ := X14.virtualBack hx (y := (⟨"com/example/graphbind/graphbind/RunningLongs", "get", "(I)J"⟩ : MethodName)) (z := (⟨"com/example/graphbind/graphbind/RunningLongs", "get", "(I)J"⟩ : MethodName)) hown (mvT hZ (hw _ (List.mem_of_getElem? (i := 33) rfl))) (mvT hZ (hw _ (List.mem_of_getElem? (i := 34) rfl))) (notFace_of_selects (args := #[]) (mvT hZ (hw _ (List.mem_of_getElem? (i := 36) rfl)))) (mvT hZ (hw _ (List.mem_of_getElem? (i := 36) rfl))) (mvT hZ (hw _ (List.mem_of_getElem? (i := 35) rfl))) (by decide) (backOf (W := 0) (rm4_1n l Z a0 hw [] (b1) (p1) T13.heap n0 Zs13 u13_1 u13_2) hZ (hw _ (List.mem_of_getElem? (i := 37) rfl)) (hw _ (List.mem_of_getElem? (i := 3) rfl)) (by decide) (by decide)) q15a q15c (g := (mkF m 162 #[.val (.long p1), .second, .val (.long p2), .second, .val (.long p3), .second, .val (.long p4), .second, iv p5, iv p6, .val (.long p1), .second, .val (.long v1), .second, .val (.long v2), .second, .val (.long v3), .second, iv (3 : Int32), rv b1, iv (1 : Int32)] [(.int (1 : Int32)), (.ref b1)])) rfl (by rw [hml]; rfl) (Steps.refl _) (argsL := [(.int (1 : Int32))]) (rest := []) (lenOf pd_3 rfl) rfl (by show 2 * 0 + _ ≤ _; exact Nat.le_of_eq rfl) (hb hby at_162) (fun _ _ => ⟨rfl, eq14, (by decide : 3 + 0 ≤ _), (by decide : 29 + 0 ≤ _)⟩)
              dsimp only [Pt.U, Pt.locs, Pt.cells, Pt.slots] at X15 l15 y15 z15 st15 hQ15
              subst l15 y15 z15
              obtain ⟨rfl, Nq15, eq15⟩ := hQ15
              have N15 := Fr.app N14 Nq15
              refine own_stW (fun _ kk_ => st15.trans kk_) ?_
              show own_GoesW p e below s (Q0 Z p1 p2 p3 p4 p5 p6 h0 n0) 16 1216 T15 (mkF m 165 #[.val (.long p1), .second, .val (.long p2), .second, .val (.long p3), .second, .val (.long p4), .second, iv p5, iv p6, .val (.long p1), .second, .val (.long v1), .second, .val (.long v2), .second, .val (.long v3), .second, iv (3 : Int32), rv b1, iv (1 : Int32)] [(.long (p1 + ((1 : Int32).toInt64)))])
              refine own_stW (fun _ kk_ => XS.lload X15.here hx rfl (hb hby at_165) rfl (XT.lcmp X15.here hx rfl (hb hby at_167) rfl (XS.ifNo X15.here hx rfl (hb hby at_168) rfl (XT.ll_ne_f h_eq1.symm) (XS.iconst X15.here hx rfl (hb hby at_171) (XS.goto X15.here hx rfl (pc0 := 172) (pc' := 176) rfl (hb hby at_172) (by decide) (by decide) (XS.istore X15.here hx rfl (hb hby at_176) rfl (l' := #[.val (.long p1), .second, .val (.long p2), .second, .val (.long p3), .second, .val (.long p4), .second, iv p5, iv p6, .val (.long p1), .second, .val (.long v1), .second, .val (.long v2), .second, .val (.long v3), .second, iv (3 : Int32), rv b1, iv (1 : Int32)]) rfl (XS.iload X15.here hx rfl (hb hby at_178) rfl (XS.iconst X15.here hx rfl (hb hby at_180) kk_)))))))) ?_
              show own_GoesW p e below s (Q0 Z p1 p2 p3 p4 p5 p6 h0 n0) 16 1216 T15 (mkF m 181 #[.val (.long p1), .second, .val (.long p2), .second, .val (.long p3), .second, .val (.long p4), .second, iv p5, iv p6, .val (.long p1), .second, .val (.long v1), .second, .val (.long v2), .second, .val (.long v3), .second, iv (3 : Int32), rv b1, iv (1 : Int32)] [(.int (2 : Int32)), (.int (3 : Int32))])
              refine own_stW (fun _ kk_ => XS.icmpNo X15.here hx rfl (hb hby at_181) rfl (XT.ii_le_f (by decide)) (XS.iload X15.here hx rfl (hb hby at_184) rfl (XS.ifNo X15.here hx rfl (hb hby at_186) rfl (XT.i0_eq_f (by decide)) (XS.aload X15.here hx rfl (hb hby at_189) rfl rfl (XS.iconst X15.here hx rfl (hb hby at_191) kk_))))) ?_
              show own_GoesW p e below s (Q0 Z p1 p2 p3 p4 p5 p6 h0 n0) 16 1216 T15 (mkF m 192 #[.val (.long p1), .second, .val (.long p2), .second, .val (.long p3), .second, .val (.long p4), .second, iv p5, iv p6, .val (.long p1), .second, .val (.long v1), .second, .val (.long v2), .second, .val (.long v3), .second, iv (3 : Int32), rv b1, iv (1 : Int32)] [(.int (2 : Int32)), (.ref b1)])
              obtain ⟨cq16, kq16, q16a, q16b, q16c⟩ := isOf hZ eq15 f13_0
              obtain ⟨_, _, ⟨T16, L16, k16, n16⟩, -, X16, ⟨Lc16, hQ16, l16, y16, z16⟩, st16⟩ := X15.virtualBack hx (y := (⟨"com/example/graphbind/graphbind/RunningLongs", "get", "(I)J"⟩ : MethodName)) (z := (⟨"com/example/graphbind/graphbind/RunningLongs", "get", "(I)J"⟩ : MethodName)) hown (mvT hZ (hw _ (List.mem_of_getElem? (i := 33) rfl))) (mvT hZ (hw _ (List.mem_of_getElem? (i := 34) rfl))) (notFace_of_selects (args := #[]) (mvT hZ (hw _ (List.mem_of_getElem? (i := 36) rfl)))) (mvT hZ (hw _ (List.mem_of_getElem? (i := 36) rfl))) (mvT hZ (hw _ (List.mem_of_getElem? (i := 35) rfl))) (by decide) (backOf (W := 0) (rm4_2n l Z a0 hw [] (b1) (p1) T13.heap n0 Zs13 u13_1 u13_2) hZ (hw _ (List.mem_of_getElem? (i := 37) rfl)) (hw _ (List.mem_of_getElem? (i := 3) rfl)) (by decide) (by decide)) q16a q16c (g := (mkF m 192 #[.val (.long p1), .second, .val (.long p2), .second, .val (.long p3), .second, .val (.long p4), .second, iv p5, iv p6, .val (.long p1), .second, .val (.long v1), .second, .val (.long v2), .second, .val (.long v3), .second, iv (3 : Int32), rv b1, iv (1 : Int32)] [(.int (2 : Int32)), (.ref b1)])) rfl (by rw [hml]; rfl) (Steps.refl _) (argsL := [(.int (2 : Int32))]) (rest := []) (lenOf pd_3 rfl) rfl (by show 2 * 0 + _ ≤ _; exact Nat.le_of_eq rfl) (hb hby at_192) (fun _ _ => ⟨rfl, eq15, (by decide : 3 + 0 ≤ _), (by decide : 29 + 0 ≤ _)⟩)
              dsimp only [Pt.U, Pt.locs, Pt.cells, Pt.slots] at X16 l16 y16 z16 st16 hQ16
              subst l16 y16 z16
              obtain ⟨rfl, Nq16, eq16⟩ := hQ16
              have N16 := Fr.app N15 Nq16
              refine own_stW (fun _ kk_ => st16.trans kk_) ?_
              show own_GoesW p e below s (Q0 Z p1 p2 p3 p4 p5 p6 h0 n0) 16 1216 T16 (mkF m 195 #[.val (.long p1), .second, .val (.long p2), .second, .val (.long p3), .second, .val (.long p4), .second, iv p5, iv p6, .val (.long p1), .second, .val (.long v1), .second, .val (.long v2), .second, .val (.long v3), .second, iv (3 : Int32), rv b1, iv (1 : Int32)] [(.long (p1 + ((2 : Int32).toInt64)))])
              refine own_stW (fun _ kk_ => XS.lload X16.here hx rfl (hb hby at_195) rfl (XT.lcmp X16.here hx rfl (hb hby at_197) rfl (XS.ifNo X16.here hx rfl (hb hby at_198) rfl (XT.ll_ne_f h_eq2.symm) (XS.iconst X16.here hx rfl (hb hby at_201) (XS.goto X16.here hx rfl (pc0 := 202) (pc' := 206) rfl (hb hby at_202) (by decide) (by decide) (XS.istore X16.here hx rfl (hb hby at_206) rfl (l' := #[.val (.long p1), .second, .val (.long p2), .second, .val (.long p3), .second, .val (.long p4), .second, iv p5, iv p6, .val (.long p1), .second, .val (.long v1), .second, .val (.long v2), .second, .val (.long v3), .second, iv (3 : Int32), rv b1, iv (1 : Int32)]) rfl (XS.iload X16.here hx rfl (hb hby at_208) rfl (XS.iconst X16.here hx rfl (hb hby at_210) kk_)))))))) ?_
              show own_GoesW p e below s (Q0 Z p1 p2 p3 p4 p5 p6 h0 n0) 16 1216 T16 (mkF m 211 #[.val (.long p1), .second, .val (.long p2), .second, .val (.long p3), .second, .val (.long p4), .second, iv p5, iv p6, .val (.long p1), .second, .val (.long v1), .second, .val (.long v2), .second, .val (.long v3), .second, iv (3 : Int32), rv b1, iv (1 : Int32)] [(.int (3 : Int32)), (.int (3 : Int32))])
              refine own_stW (fun _ kk_ => XS.icmpYes X16.here hx rfl (pc0 := 211) (pc' := 238) rfl (hb hby at_211) rfl (XT.ii_le_t (by decide)) (by decide) (by decide) (XS.iload X16.here hx rfl (hb hby at_238) rfl kk_)) ?_
              show own_GoesW p e below s (Q0 Z p1 p2 p3 p4 p5 p6 h0 n0) 16 1216 T16 (mkF m 240 #[.val (.long p1), .second, .val (.long p2), .second, .val (.long p3), .second, .val (.long p4), .second, iv p5, iv p6, .val (.long p1), .second, .val (.long v1), .second, .val (.long v2), .second, .val (.long v3), .second, iv (3 : Int32), rv b1, iv (1 : Int32)] [(.int (1 : Int32))])
              refine own_endW (v := (some (.int (nar .boolean (1 : Int32))))) X16 hlk hS2 (by rw [eq16]; exact Ks13) (fun h => by rw [Bd.returns] at h; cases h) (by decide) (by decide) ?_ (fun fs hr => retN X16 hx (t := .boolean) Bd.returns (by simp) (hb hby at_240) hr)
              show Q0 Z p1 p2 p3 p4 p5 p6 h0 n0 (some (.int (nar .boolean (1 : Int32)))) T16.heap _
              rw [eq16]
              exact ⟨rfl, N16⟩
            · obtain ⟨cq17, kq17, q17a, q17b, q17c⟩ := isOf hZ rfl f12_0
              obtain ⟨_, _, ⟨T17, L17, k17, n17⟩, -, X17, ⟨Lc17, hQ17, l17, y17, z17⟩, st17⟩ := X12.virtualBack hx (y := (⟨"com/example/graphbind/graphbind/RunningLongs", "add", "(J)V"⟩ : MethodName)) (z := (⟨"com/example/graphbind/graphbind/RunningLongs", "add", "(J)V"⟩ : MethodName)) hown (mvT hZ (hw _ (List.mem_of_getElem? (i := 22) rfl))) (mvT hZ (hw _ (List.mem_of_getElem? (i := 23) rfl))) (notFace_of_selects (args := #[]) (mvT hZ (hw _ (List.mem_of_getElem? (i := 25) rfl)))) (mvT hZ (hw _ (List.mem_of_getElem? (i := 25) rfl))) (mvT hZ (hw _ (List.mem_of_getElem? (i := 24) rfl))) (by decide) (backOf (W := 0) (rm3_2n l Z a0 hw [] (b1) (v2) ((p6 &&& (31 : Int32))) (p1) T12.heap n0 Zs12 f12_0 gg1 u12_0 u12_1 u12_2 u12_3 h_eq2 (own_31 p6)) hZ (hw _ (List.mem_of_getElem? (i := 26) rfl)) (hw _ (List.mem_of_getElem? (i := 3) rfl)) (by decide) (by decide)) q17a q17c (g := (mkF m 113 #[.val (.long p1), .second, .val (.long p2), .second, .val (.long p3), .second, .val (.long p4), .second, iv p5, iv p6, .val (.long p1), .second, .val (.long v1), .second, .val (.long v2), .second, .val (.long v3), .second, iv (3 : Int32), rv b1, .unset] [(.long v2), (.ref b1)])) rfl (by rw [hml]; rfl) (Steps.refl _) (argsL := [(.long v2)]) (rest := []) (lenOf pd_2 rfl) rfl (by show 2 * 0 + _ ≤ _; exact Nat.le_of_eq rfl) (hb hby at_113) (fun _ _ => ⟨rfl, rfl, (by decide : 3 + 1 ≤ _), (by decide : 29 + 31 ≤ _)⟩)
              dsimp only [Pt.U, Pt.locs, Pt.cells, Pt.slots] at X17 l17 y17 z17 st17 hQ17
              subst l17 y17 z17
              obtain ⟨x17_ar, x17_z9, x17_kc, rfl, Nq17, Kq17, u17_0, u17_1, u17_2, u17_3, u17_4, u17_5, u17_6⟩ := hQ17
              have N17 := Fr.app N12 Nq17
              have f17_0 := f12_0.keep Kq17
              have Ks17 := Nat.le_trans Ks12 Kq17.1
              have Zs17 : n0 ≤ T17.heap.size := Nat.le_trans Zs12 Kq17.1
              have ne17_b1 : b1 ≠ x17_ar := Nat.ne_of_lt (Nat.lt_of_lt_of_le f12_0.lt u17_4)
              have gg17_ar : n0 ≤ x17_ar := Nat.le_trans Zs12 u17_4
              refine own_stW (fun _ kk_ => st17.trans kk_) ?_
              show own_GoesW p e below s (Q0 Z p1 p2 p3 p4 p5 p6 h0 n0) 16 1216 T17 (mkF m 116 #[.val (.long p1), .second, .val (.long p2), .second, .val (.long p3), .second, .val (.long p4), .second, iv p5, iv p6, .val (.long p1), .second, .val (.long v1), .second, .val (.long v2), .second, .val (.long v3), .second, iv (3 : Int32), rv b1, .unset] [])
              refine own_stW (fun _ kk_ => XS.iload X17.here hx rfl (hb hby at_116) rfl (XS.iconst X17.here hx rfl (hb hby at_118) (XS.icmpYes X17.here hx rfl (pc0 := 119) (pc' := 129) rfl (hb hby at_119) rfl (XT.ii_le_t (by decide)) (by decide) (by decide) (XS.aload X17.here hx rfl (hb hby at_129) rfl rfl (XS.iconst X17.here hx rfl (hb hby at_131) kk_))))) ?_
              show own_GoesW p e below s (Q0 Z p1 p2 p3 p4 p5 p6 h0 n0) 16 1216 T17 (mkF m 132 #[.val (.long p1), .second, .val (.long p2), .second, .val (.long p3), .second, .val (.long p4), .second, iv p5, iv p6, .val (.long p1), .second, .val (.long v1), .second, .val (.long v2), .second, .val (.long v3), .second, iv (3 : Int32), rv b1, .unset] [(.int (0 : Int32)), (.ref b1)])
              obtain ⟨cq18, kq18, q18a, q18b, q18c⟩ := isOf hZ rfl f17_0
              obtain ⟨_, _, ⟨T18, L18, k18, n18⟩, -, X18, ⟨Lc18, hQ18, l18, y18, z18⟩, st18⟩ := X17.virtualBack hx (y := (⟨"com/example/graphbind/graphbind/RunningLongs", "get", "(I)J"⟩ : MethodName)) (z := (⟨"com/example/graphbind/graphbind/RunningLongs", "get", "(I)J"⟩ : MethodName)) hown (mvT hZ (hw _ (List.mem_of_getElem? (i := 33) rfl))) (mvT hZ (hw _ (List.mem_of_getElem? (i := 34) rfl))) (notFace_of_selects (args := #[]) (mvT hZ (hw _ (List.mem_of_getElem? (i := 36) rfl)))) (mvT hZ (hw _ (List.mem_of_getElem? (i := 36) rfl))) (mvT hZ (hw _ (List.mem_of_getElem? (i := 35) rfl))) (by decide) (backOf (W := 0) (rm4_0a l Z a0 hw [] (b1) (x17_ar) (x17_z9) (x17_kc) ((p1 + ((0 : Int32).toInt64))) ((p1 + ((1 : Int32).toInt64))) (v2) ((0 : Int64)) T17.heap n0 Zs17 u17_2 u17_6 u17_5) hZ (hw _ (List.mem_of_getElem? (i := 37) rfl)) (hw _ (List.mem_of_getElem? (i := 3) rfl)) (by decide) (by decide)) q18a q18c (g := (mkF m 132 #[.val (.long p1), .second, .val (.long p2), .second, .val (.long p3), .second, .val (.long p4), .second, iv p5, iv p6, .val (.long p1), .second, .val (.long v1), .second, .val (.long v2), .second, .val (.long v3), .second, iv (3 : Int32), rv b1, .unset] [(.int (0 : Int32)), (.ref b1)])) rfl (by rw [hml]; rfl) (Steps.refl _) (argsL := [(.int (0 : Int32))]) (rest := []) (lenOf pd_3 rfl) rfl (by show 2 * 0 + _ ≤ _; exact Nat.le_of_eq rfl) (hb hby at_132) (fun _ _ => ⟨rfl, rfl, (by decide : 4 + 0 ≤ _), (by decide : 60 + 0 ≤ _)⟩)
              dsimp only [Pt.U, Pt.locs, Pt.cells, Pt.slots] at X18 l18 y18 z18 st18 hQ18
              subst l18 y18 z18
              obtain ⟨rfl, Nq18, eq18⟩ := hQ18
              have N18 := Fr.app N17 Nq18
              refine own_stW (fun _ kk_ => st18.trans kk_) ?_
              show own_GoesW p e below s (Q0 Z p1 p2 p3 p4 p5 p6 h0 n0) 16 1216 T18 (mkF m 135 #[.val (.long p1), .second, .val (.long p2), .second, .val (.long p3), .second, .val (.long p4), .second, iv p5, iv p6, .val (.long p1), .second, .val (.long v1), .second, .val (.long v2), .second, .val (.long v3), .second, iv (3 : Int32), rv b1, .unset] [(.long (p1 + ((0 : Int32).toInt64)))])
              refine own_stW (fun _ kk_ => XS.lload X18.here hx rfl (hb hby at_135) rfl (XT.lcmp X18.here hx rfl (hb hby at_137) rfl (XS.ifNo X18.here hx rfl (hb hby at_138) rfl (XT.ll_ne_f (own_z0 p1)) (XS.iconst X18.here hx rfl (hb hby at_141) (XS.goto X18.here hx rfl (pc0 := 142) (pc' := 146) rfl (hb hby at_142) (by decide) (by decide) (XS.istore X18.here hx rfl (hb hby at_146) rfl (l' := #[.val (.long p1), .second, .val (.long p2), .second, .val (.long p3), .second, .val (.long p4), .second, iv p5, iv p6, .val (.long p1), .second, .val (.long v1), .second, .val (.long v2), .second, .val (.long v3), .second, iv (3 : Int32), rv b1, iv (1 : Int32)]) rfl (XS.iload X18.here hx rfl (hb hby at_148) rfl (XS.iconst X18.here hx rfl (hb hby at_150) kk_)))))))) ?_
              show own_GoesW p e below s (Q0 Z p1 p2 p3 p4 p5 p6 h0 n0) 16 1216 T18 (mkF m 151 #[.val (.long p1), .second, .val (.long p2), .second, .val (.long p3), .second, .val (.long p4), .second, iv p5, iv p6, .val (.long p1), .second, .val (.long v1), .second, .val (.long v2), .second, .val (.long v3), .second, iv (3 : Int32), rv b1, iv (1 : Int32)] [(.int (1 : Int32)), (.int (3 : Int32))])
              refine own_stW (fun _ kk_ => XS.icmpNo X18.here hx rfl (hb hby at_151) rfl (XT.ii_le_f (by decide)) (XS.iload X18.here hx rfl (hb hby at_154) rfl (XS.ifNo X18.here hx rfl (hb hby at_156) rfl (XT.i0_eq_f (by decide)) (XS.aload X18.here hx rfl (hb hby at_159) rfl rfl (XS.iconst X18.here hx rfl (hb hby at_161) kk_))))) ?_
              show own_GoesW p e below s (Q0 Z p1 p2 p3 p4 p5 p6 h0 n0) 16 1216 T18 (mkF m 162 #[.val (.long p1), .second, .val (.long p2), .second, .val (.long p3), .second, .val (.long p4), .second, iv p5, iv p6, .val (.long p1), .second, .val (.long v1), .second, .val (.long v2), .second, .val (.long v3), .second, iv (3 : Int32), rv b1, iv (1 : Int32)] [(.int (1 : Int32)), (.ref b1)])
              obtain ⟨cq19, kq19, q19a, q19b, q19c⟩ := isOf hZ eq18 f17_0
              obtain ⟨_, _, ⟨T19, L19, k19, n19⟩, -, X19, ⟨Lc19, hQ19, l19, y19, z19⟩, st19⟩ := X18.virtualBack hx (y := (⟨"com/example/graphbind/graphbind/RunningLongs", "get", "(I)J"⟩ : MethodName)) (z := (⟨"com/example/graphbind/graphbind/RunningLongs", "get", "(I)J"⟩ : MethodName)) hown (mvT hZ (hw _ (List.mem_of_getElem? (i := 33) rfl))) (mvT hZ (hw _ (List.mem_of_getElem? (i := 34) rfl))) (notFace_of_selects (args := #[]) (mvT hZ (hw _ (List.mem_of_getElem? (i := 36) rfl)))) (mvT hZ (hw _ (List.mem_of_getElem? (i := 36) rfl))) (mvT hZ (hw _ (List.mem_of_getElem? (i := 35) rfl))) (by decide) (backOf (W := 0) (rm4_1a l Z a0 hw [] (b1) (x17_ar) (x17_z9) (x17_kc) ((p1 + ((0 : Int32).toInt64))) ((p1 + ((1 : Int32).toInt64))) (v2) ((0 : Int64)) T17.heap n0 Zs17 u17_2 u17_6 u17_5) hZ (hw _ (List.mem_of_getElem? (i := 37) rfl)) (hw _ (List.mem_of_getElem? (i := 3) rfl)) (by decide) (by decide)) q19a q19c (g := (mkF m 162 #[.val (.long p1), .second, .val (.long p2), .second, .val (.long p3), .second, .val (.long p4), .second, iv p5, iv p6, .val (.long p1), .second, .val (.long v1), .second, .val (.long v2), .second, .val (.long v3), .second, iv (3 : Int32), rv b1, iv (1 : Int32)] [(.int (1 : Int32)), (.ref b1)])) rfl (by rw [hml]; rfl) (Steps.refl _) (argsL := [(.int (1 : Int32))]) (rest := []) (lenOf pd_3 rfl) rfl (by show 2 * 0 + _ ≤ _; exact Nat.le_of_eq rfl) (hb hby at_162) (fun _ _ => ⟨rfl, eq18, (by decide : 4 + 0 ≤ _), (by decide : 60 + 0 ≤ _)⟩)
              dsimp only [Pt.U, Pt.locs, Pt.cells, Pt.slots] at X19 l19 y19 z19 st19 hQ19
              subst l19 y19 z19
              obtain ⟨rfl, Nq19, eq19⟩ := hQ19
              have N19 := Fr.app N18 Nq19
              refine own_stW (fun _ kk_ => st19.trans kk_) ?_
              show own_GoesW p e below s (Q0 Z p1 p2 p3 p4 p5 p6 h0 n0) 16 1216 T19 (mkF m 165 #[.val (.long p1), .second, .val (.long p2), .second, .val (.long p3), .second, .val (.long p4), .second, iv p5, iv p6, .val (.long p1), .second, .val (.long v1), .second, .val (.long v2), .second, .val (.long v3), .second, iv (3 : Int32), rv b1, iv (1 : Int32)] [(.long (p1 + ((1 : Int32).toInt64)))])
              refine own_stW (fun _ kk_ => XS.lload X19.here hx rfl (hb hby at_165) rfl (XT.lcmp X19.here hx rfl (hb hby at_167) rfl (XS.ifNo X19.here hx rfl (hb hby at_168) rfl (XT.ll_ne_f h_eq1.symm) (XS.iconst X19.here hx rfl (hb hby at_171) (XS.goto X19.here hx rfl (pc0 := 172) (pc' := 176) rfl (hb hby at_172) (by decide) (by decide) (XS.istore X19.here hx rfl (hb hby at_176) rfl (l' := #[.val (.long p1), .second, .val (.long p2), .second, .val (.long p3), .second, .val (.long p4), .second, iv p5, iv p6, .val (.long p1), .second, .val (.long v1), .second, .val (.long v2), .second, .val (.long v3), .second, iv (3 : Int32), rv b1, iv (1 : Int32)]) rfl (XS.iload X19.here hx rfl (hb hby at_178) rfl (XS.iconst X19.here hx rfl (hb hby at_180) kk_)))))))) ?_
              show own_GoesW p e below s (Q0 Z p1 p2 p3 p4 p5 p6 h0 n0) 16 1216 T19 (mkF m 181 #[.val (.long p1), .second, .val (.long p2), .second, .val (.long p3), .second, .val (.long p4), .second, iv p5, iv p6, .val (.long p1), .second, .val (.long v1), .second, .val (.long v2), .second, .val (.long v3), .second, iv (3 : Int32), rv b1, iv (1 : Int32)] [(.int (2 : Int32)), (.int (3 : Int32))])
              refine own_stW (fun _ kk_ => XS.icmpNo X19.here hx rfl (hb hby at_181) rfl (XT.ii_le_f (by decide)) (XS.iload X19.here hx rfl (hb hby at_184) rfl (XS.ifNo X19.here hx rfl (hb hby at_186) rfl (XT.i0_eq_f (by decide)) (XS.aload X19.here hx rfl (hb hby at_189) rfl rfl (XS.iconst X19.here hx rfl (hb hby at_191) kk_))))) ?_
              show own_GoesW p e below s (Q0 Z p1 p2 p3 p4 p5 p6 h0 n0) 16 1216 T19 (mkF m 192 #[.val (.long p1), .second, .val (.long p2), .second, .val (.long p3), .second, .val (.long p4), .second, iv p5, iv p6, .val (.long p1), .second, .val (.long v1), .second, .val (.long v2), .second, .val (.long v3), .second, iv (3 : Int32), rv b1, iv (1 : Int32)] [(.int (2 : Int32)), (.ref b1)])
              obtain ⟨cq20, kq20, q20a, q20b, q20c⟩ := isOf hZ eq19 f17_0
              obtain ⟨_, _, ⟨T20, L20, k20, n20⟩, -, X20, ⟨Lc20, hQ20, l20, y20, z20⟩, st20⟩ := X19.virtualBack hx (y := (⟨"com/example/graphbind/graphbind/RunningLongs", "get", "(I)J"⟩ : MethodName)) (z := (⟨"com/example/graphbind/graphbind/RunningLongs", "get", "(I)J"⟩ : MethodName)) hown (mvT hZ (hw _ (List.mem_of_getElem? (i := 33) rfl))) (mvT hZ (hw _ (List.mem_of_getElem? (i := 34) rfl))) (notFace_of_selects (args := #[]) (mvT hZ (hw _ (List.mem_of_getElem? (i := 36) rfl)))) (mvT hZ (hw _ (List.mem_of_getElem? (i := 36) rfl))) (mvT hZ (hw _ (List.mem_of_getElem? (i := 35) rfl))) (by decide) (backOf (W := 0) (rm4_2a l Z a0 hw [] (b1) (x17_ar) (x17_z9) (x17_kc) ((p1 + ((0 : Int32).toInt64))) ((p1 + ((1 : Int32).toInt64))) (v2) ((0 : Int64)) T17.heap n0 Zs17 u17_2 u17_6 u17_5) hZ (hw _ (List.mem_of_getElem? (i := 37) rfl)) (hw _ (List.mem_of_getElem? (i := 3) rfl)) (by decide) (by decide)) q20a q20c (g := (mkF m 192 #[.val (.long p1), .second, .val (.long p2), .second, .val (.long p3), .second, .val (.long p4), .second, iv p5, iv p6, .val (.long p1), .second, .val (.long v1), .second, .val (.long v2), .second, .val (.long v3), .second, iv (3 : Int32), rv b1, iv (1 : Int32)] [(.int (2 : Int32)), (.ref b1)])) rfl (by rw [hml]; rfl) (Steps.refl _) (argsL := [(.int (2 : Int32))]) (rest := []) (lenOf pd_3 rfl) rfl (by show 2 * 0 + _ ≤ _; exact Nat.le_of_eq rfl) (hb hby at_192) (fun _ _ => ⟨rfl, eq19, (by decide : 4 + 0 ≤ _), (by decide : 60 + 0 ≤ _)⟩)
              dsimp only [Pt.U, Pt.locs, Pt.cells, Pt.slots] at X20 l20 y20 z20 st20 hQ20
              subst l20 y20 z20
              obtain ⟨rfl, Nq20, eq20⟩ := hQ20
              have N20 := Fr.app N19 Nq20
              refine own_stW (fun _ kk_ => st20.trans kk_) ?_
              show own_GoesW p e below s (Q0 Z p1 p2 p3 p4 p5 p6 h0 n0) 16 1216 T20 (mkF m 195 #[.val (.long p1), .second, .val (.long p2), .second, .val (.long p3), .second, .val (.long p4), .second, iv p5, iv p6, .val (.long p1), .second, .val (.long v1), .second, .val (.long v2), .second, .val (.long v3), .second, iv (3 : Int32), rv b1, iv (1 : Int32)] [(.long v2)])
              refine own_stW (fun _ kk_ => XS.lload X20.here hx rfl (hb hby at_195) rfl (XT.lcmp X20.here hx rfl (hb hby at_197) rfl (XS.ifNo X20.here hx rfl (hb hby at_198) rfl (XT.ll_ne_f rfl) (XS.iconst X20.here hx rfl (hb hby at_201) (XS.goto X20.here hx rfl (pc0 := 202) (pc' := 206) rfl (hb hby at_202) (by decide) (by decide) (XS.istore X20.here hx rfl (hb hby at_206) rfl (l' := #[.val (.long p1), .second, .val (.long p2), .second, .val (.long p3), .second, .val (.long p4), .second, iv p5, iv p6, .val (.long p1), .second, .val (.long v1), .second, .val (.long v2), .second, .val (.long v3), .second, iv (3 : Int32), rv b1, iv (1 : Int32)]) rfl (XS.iload X20.here hx rfl (hb hby at_208) rfl (XS.iconst X20.here hx rfl (hb hby at_210) kk_)))))))) ?_
              show own_GoesW p e below s (Q0 Z p1 p2 p3 p4 p5 p6 h0 n0) 16 1216 T20 (mkF m 211 #[.val (.long p1), .second, .val (.long p2), .second, .val (.long p3), .second, .val (.long p4), .second, iv p5, iv p6, .val (.long p1), .second, .val (.long v1), .second, .val (.long v2), .second, .val (.long v3), .second, iv (3 : Int32), rv b1, iv (1 : Int32)] [(.int (3 : Int32)), (.int (3 : Int32))])
              refine own_stW (fun _ kk_ => XS.icmpYes X20.here hx rfl (pc0 := 211) (pc' := 238) rfl (hb hby at_211) rfl (XT.ii_le_t (by decide)) (by decide) (by decide) (XS.iload X20.here hx rfl (hb hby at_238) rfl kk_)) ?_
              show own_GoesW p e below s (Q0 Z p1 p2 p3 p4 p5 p6 h0 n0) 16 1216 T20 (mkF m 240 #[.val (.long p1), .second, .val (.long p2), .second, .val (.long p3), .second, .val (.long p4), .second, iv p5, iv p6, .val (.long p1), .second, .val (.long v1), .second, .val (.long v2), .second, .val (.long v3), .second, iv (3 : Int32), rv b1, iv (1 : Int32)] [(.int (1 : Int32))])
              refine own_endW (v := (some (.int (nar .boolean (1 : Int32))))) X20 hlk hS2 (by rw [eq20]; exact Ks17) (fun h => by rw [Bd.returns] at h; cases h) (by decide) (by decide) ?_ (fun fs hr => retN X20 hx (t := .boolean) Bd.returns (by simp) (hb hby at_240) hr)
              show Q0 Z p1 p2 p3 p4 p5 p6 h0 n0 (some (.int (nar .boolean (1 : Int32)))) T20.heap _
              rw [eq20]
              exact ⟨rfl, N20⟩
          · obtain ⟨cq21, kq21, q21a, q21b, q21c⟩ := isOf hZ rfl f4_0
            obtain ⟨_, _, ⟨T21, L21, k21, n21⟩, -, X21, ⟨Lc21, hQ21, l21, y21, z21⟩, st21⟩ := X4.virtualBack hx (y := (⟨"com/example/graphbind/graphbind/RunningLongs", "add", "(J)V"⟩ : MethodName)) (z := (⟨"com/example/graphbind/graphbind/RunningLongs", "add", "(J)V"⟩ : MethodName)) hown (mvT hZ (hw _ (List.mem_of_getElem? (i := 22) rfl))) (mvT hZ (hw _ (List.mem_of_getElem? (i := 23) rfl))) (notFace_of_selects (args := #[]) (mvT hZ (hw _ (List.mem_of_getElem? (i := 25) rfl)))) (mvT hZ (hw _ (List.mem_of_getElem? (i := 25) rfl))) (mvT hZ (hw _ (List.mem_of_getElem? (i := 24) rfl))) (by decide) (backOf (W := 0) (rm3_1n l Z a0 hw [] (b1) (v1) ((p6 &&& (31 : Int32))) (p1) T4.heap n0 Zs4 f4_0 gg1 u4_0 u4_1 u4_2 u4_3 h_eq1 (own_31 p6)) hZ (hw _ (List.mem_of_getElem? (i := 26) rfl)) (hw _ (List.mem_of_getElem? (i := 3) rfl)) (by decide) (by decide)) q21a q21c (g := (mkF m 100 #[.val (.long p1), .second, .val (.long p2), .second, .val (.long p3), .second, .val (.long p4), .second, iv p5, iv p6, .val (.long p1), .second, .val (.long v1), .second, .val (.long v2), .second, .val (.long v3), .second, iv (3 : Int32), rv b1, .unset] [(.long v1), (.ref b1)])) rfl (by rw [hml]; rfl) (Steps.refl _) (argsL := [(.long v1)]) (rest := []) (lenOf pd_2 rfl) rfl (by show 2 * 0 + _ ≤ _; exact Nat.le_of_eq rfl) (hb hby at_100) (fun _ _ => ⟨rfl, rfl, (by decide : 3 + 1 ≤ _), (by decide : 29 + 31 ≤ _)⟩)
            dsimp only [Pt.U, Pt.locs, Pt.cells, Pt.slots] at X21 l21 y21 z21 st21 hQ21
            subst l21 y21 z21
            obtain ⟨x21_ar, x21_z9, x21_kc, rfl, Nq21, Kq21, u21_0, u21_1, u21_2, u21_3, u21_4, u21_5, u21_6⟩ := hQ21
            have N21 := Fr.app N4 Nq21
            have f21_0 := f4_0.keep Kq21
            have Ks21 := Nat.le_trans Ks4 Kq21.1
            have Zs21 : n0 ≤ T21.heap.size := Nat.le_trans Zs4 Kq21.1
            have ne21_b1 : b1 ≠ x21_ar := Nat.ne_of_lt (Nat.lt_of_lt_of_le f4_0.lt u21_4)
            have gg21_ar : n0 ≤ x21_ar := Nat.le_trans Zs4 u21_4
            refine own_stW (fun _ kk_ => st21.trans kk_) ?_
            show own_GoesW p e below s (Q0 Z p1 p2 p3 p4 p5 p6 h0 n0) 16 1216 T21 (mkF m 103 #[.val (.long p1), .second, .val (.long p2), .second, .val (.long p3), .second, .val (.long p4), .second, iv p5, iv p6, .val (.long p1), .second, .val (.long v1), .second, .val (.long v2), .second, .val (.long v3), .second, iv (3 : Int32), rv b1, .unset] [])
            refine own_stW (fun _ kk_ => XS.iload X21.here hx rfl (hb hby at_103) rfl (XS.iconst X21.here hx rfl (hb hby at_105) (XS.icmpNo X21.here hx rfl (hb hby at_106) rfl (XT.ii_le_f (by decide)) (XS.aload X21.here hx rfl (hb hby at_109) rfl rfl (XS.lload X21.here hx rfl (hb hby at_111) rfl kk_))))) ?_
            show own_GoesW p e below s (Q0 Z p1 p2 p3 p4 p5 p6 h0 n0) 16 1216 T21 (mkF m 113 #[.val (.long p1), .second, .val (.long p2), .second, .val (.long p3), .second, .val (.long p4), .second, iv p5, iv p6, .val (.long p1), .second, .val (.long v1), .second, .val (.long v2), .second, .val (.long v3), .second, iv (3 : Int32), rv b1, .unset] [(.long v2), (.ref b1)])
            obtain ⟨cq22, kq22, q22a, q22b, q22c⟩ := isOf hZ rfl f21_0
            obtain ⟨_, _, ⟨T22, L22, k22, n22⟩, -, X22, ⟨Lc22, hQ22, l22, y22, z22⟩, st22⟩ := X21.virtualBack hx (y := (⟨"com/example/graphbind/graphbind/RunningLongs", "add", "(J)V"⟩ : MethodName)) (z := (⟨"com/example/graphbind/graphbind/RunningLongs", "add", "(J)V"⟩ : MethodName)) hown (mvT hZ (hw _ (List.mem_of_getElem? (i := 22) rfl))) (mvT hZ (hw _ (List.mem_of_getElem? (i := 23) rfl))) (notFace_of_selects (args := #[]) (mvT hZ (hw _ (List.mem_of_getElem? (i := 25) rfl)))) (mvT hZ (hw _ (List.mem_of_getElem? (i := 25) rfl))) (mvT hZ (hw _ (List.mem_of_getElem? (i := 24) rfl))) (by decide) (backOf (W := 0) (rm3_2a l Z a0 hw [] (b1) (v2) ((p6 &&& (31 : Int32))) (p1) (x21_ar) (x21_z9) (x21_kc) ((p1 + ((0 : Int32).toInt64))) (v1) ((0 : Int64)) ((0 : Int64)) T21.heap n0 Zs21 f21_0 gg1 u21_0 u21_1 u21_2 u21_3 gg21_ar (Ne.symm ne21_b1) u21_6 u21_5) hZ (hw _ (List.mem_of_getElem? (i := 26) rfl)) (hw _ (List.mem_of_getElem? (i := 3) rfl)) (by decide) (by decide)) q22a q22c (g := (mkF m 113 #[.val (.long p1), .second, .val (.long p2), .second, .val (.long p3), .second, .val (.long p4), .second, iv p5, iv p6, .val (.long p1), .second, .val (.long v1), .second, .val (.long v2), .second, .val (.long v3), .second, iv (3 : Int32), rv b1, .unset] [(.long v2), (.ref b1)])) rfl (by rw [hml]; rfl) (Steps.refl _) (argsL := [(.long v2)]) (rest := []) (lenOf pd_2 rfl) rfl (by show 2 * 0 + _ ≤ _; exact Nat.le_of_eq rfl) (hb hby at_113) (fun _ _ => ⟨rfl, rfl, (by decide : 4 + 0 ≤ _), (by decide : 60 + 0 ≤ _)⟩)
            dsimp only [Pt.U, Pt.locs, Pt.cells, Pt.slots] at X22 l22 y22 z22 st22 hQ22
            subst l22 y22 z22
            obtain ⟨rfl, Nq22, Kq22, u22_0, u22_1, u22_2, u22_3, u22_4⟩ := hQ22
            have N22 := Fr.app N21 Nq22
            have f22_0 := f21_0.keep Kq22
            have Ks22 := Nat.le_trans Ks21 Kq22.1
            have Zs22 : n0 ≤ T22.heap.size := Nat.le_trans Zs21 Kq22.1
            refine own_stW (fun _ kk_ => st22.trans kk_) ?_
            show own_GoesW p e below s (Q0 Z p1 p2 p3 p4 p5 p6 h0 n0) 16 1216 T22 (mkF m 116 #[.val (.long p1), .second, .val (.long p2), .second, .val (.long p3), .second, .val (.long p4), .second, iv p5, iv p6, .val (.long p1), .second, .val (.long v1), .second, .val (.long v2), .second, .val (.long v3), .second, iv (3 : Int32), rv b1, .unset] [])
            refine own_stW (fun _ kk_ => XS.iload X22.here hx rfl (hb hby at_116) rfl (XS.iconst X22.here hx rfl (hb hby at_118) (XS.icmpYes X22.here hx rfl (pc0 := 119) (pc' := 129) rfl (hb hby at_119) rfl (XT.ii_le_t (by decide)) (by decide) (by decide) (XS.aload X22.here hx rfl (hb hby at_129) rfl rfl (XS.iconst X22.here hx rfl (hb hby at_131) kk_))))) ?_
            show own_GoesW p e below s (Q0 Z p1 p2 p3 p4 p5 p6 h0 n0) 16 1216 T22 (mkF m 132 #[.val (.long p1), .second, .val (.long p2), .second, .val (.long p3), .second, .val (.long p4), .second, iv p5, iv p6, .val (.long p1), .second, .val (.long v1), .second, .val (.long v2), .second, .val (.long v3), .second, iv (3 : Int32), rv b1, .unset] [(.int (0 : Int32)), (.ref b1)])
            obtain ⟨cq23, kq23, q23a, q23b, q23c⟩ := isOf hZ rfl f22_0
            obtain ⟨_, _, ⟨T23, L23, k23, n23⟩, -, X23, ⟨Lc23, hQ23, l23, y23, z23⟩, st23⟩ := X22.virtualBack hx (y := (⟨"com/example/graphbind/graphbind/RunningLongs", "get", "(I)J"⟩ : MethodName)) (z := (⟨"com/example/graphbind/graphbind/RunningLongs", "get", "(I)J"⟩ : MethodName)) hown (mvT hZ (hw _ (List.mem_of_getElem? (i := 33) rfl))) (mvT hZ (hw _ (List.mem_of_getElem? (i := 34) rfl))) (notFace_of_selects (args := #[]) (mvT hZ (hw _ (List.mem_of_getElem? (i := 36) rfl)))) (mvT hZ (hw _ (List.mem_of_getElem? (i := 36) rfl))) (mvT hZ (hw _ (List.mem_of_getElem? (i := 35) rfl))) (by decide) (backOf (W := 0) (rm4_0a l Z a0 hw [] (b1) (x21_ar) (x21_z9) (x21_kc) ((p1 + ((0 : Int32).toInt64))) (v1) (v2) ((0 : Int64)) T22.heap n0 Zs22 u22_2 u22_4 u21_5) hZ (hw _ (List.mem_of_getElem? (i := 37) rfl)) (hw _ (List.mem_of_getElem? (i := 3) rfl)) (by decide) (by decide)) q23a q23c (g := (mkF m 132 #[.val (.long p1), .second, .val (.long p2), .second, .val (.long p3), .second, .val (.long p4), .second, iv p5, iv p6, .val (.long p1), .second, .val (.long v1), .second, .val (.long v2), .second, .val (.long v3), .second, iv (3 : Int32), rv b1, .unset] [(.int (0 : Int32)), (.ref b1)])) rfl (by rw [hml]; rfl) (Steps.refl _) (argsL := [(.int (0 : Int32))]) (rest := []) (lenOf pd_3 rfl) rfl (by show 2 * 0 + _ ≤ _; exact Nat.le_of_eq rfl) (hb hby at_132) (fun _ _ => ⟨rfl, rfl, (by decide : 4 + 0 ≤ _), (by decide : 60 + 0 ≤ _)⟩)
            dsimp only [Pt.U, Pt.locs, Pt.cells, Pt.slots] at X23 l23 y23 z23 st23 hQ23
            subst l23 y23 z23
            obtain ⟨rfl, Nq23, eq23⟩ := hQ23
            have N23 := Fr.app N22 Nq23
            refine own_stW (fun _ kk_ => st23.trans kk_) ?_
            show own_GoesW p e below s (Q0 Z p1 p2 p3 p4 p5 p6 h0 n0) 16 1216 T23 (mkF m 135 #[.val (.long p1), .second, .val (.long p2), .second, .val (.long p3), .second, .val (.long p4), .second, iv p5, iv p6, .val (.long p1), .second, .val (.long v1), .second, .val (.long v2), .second, .val (.long v3), .second, iv (3 : Int32), rv b1, .unset] [(.long (p1 + ((0 : Int32).toInt64)))])
            refine own_stW (fun _ kk_ => XS.lload X23.here hx rfl (hb hby at_135) rfl (XT.lcmp X23.here hx rfl (hb hby at_137) rfl (XS.ifNo X23.here hx rfl (hb hby at_138) rfl (XT.ll_ne_f (own_z0 p1)) (XS.iconst X23.here hx rfl (hb hby at_141) (XS.goto X23.here hx rfl (pc0 := 142) (pc' := 146) rfl (hb hby at_142) (by decide) (by decide) (XS.istore X23.here hx rfl (hb hby at_146) rfl (l' := #[.val (.long p1), .second, .val (.long p2), .second, .val (.long p3), .second, .val (.long p4), .second, iv p5, iv p6, .val (.long p1), .second, .val (.long v1), .second, .val (.long v2), .second, .val (.long v3), .second, iv (3 : Int32), rv b1, iv (1 : Int32)]) rfl (XS.iload X23.here hx rfl (hb hby at_148) rfl (XS.iconst X23.here hx rfl (hb hby at_150) kk_)))))))) ?_
            show own_GoesW p e below s (Q0 Z p1 p2 p3 p4 p5 p6 h0 n0) 16 1216 T23 (mkF m 151 #[.val (.long p1), .second, .val (.long p2), .second, .val (.long p3), .second, .val (.long p4), .second, iv p5, iv p6, .val (.long p1), .second, .val (.long v1), .second, .val (.long v2), .second, .val (.long v3), .second, iv (3 : Int32), rv b1, iv (1 : Int32)] [(.int (1 : Int32)), (.int (3 : Int32))])
            refine own_stW (fun _ kk_ => XS.icmpNo X23.here hx rfl (hb hby at_151) rfl (XT.ii_le_f (by decide)) (XS.iload X23.here hx rfl (hb hby at_154) rfl (XS.ifNo X23.here hx rfl (hb hby at_156) rfl (XT.i0_eq_f (by decide)) (XS.aload X23.here hx rfl (hb hby at_159) rfl rfl (XS.iconst X23.here hx rfl (hb hby at_161) kk_))))) ?_
            show own_GoesW p e below s (Q0 Z p1 p2 p3 p4 p5 p6 h0 n0) 16 1216 T23 (mkF m 162 #[.val (.long p1), .second, .val (.long p2), .second, .val (.long p3), .second, .val (.long p4), .second, iv p5, iv p6, .val (.long p1), .second, .val (.long v1), .second, .val (.long v2), .second, .val (.long v3), .second, iv (3 : Int32), rv b1, iv (1 : Int32)] [(.int (1 : Int32)), (.ref b1)])
            obtain ⟨cq24, kq24, q24a, q24b, q24c⟩ := isOf hZ eq23 f22_0
            obtain ⟨_, _, ⟨T24, L24, k24, n24⟩, -, X24, ⟨Lc24, hQ24, l24, y24, z24⟩, st24⟩ := X23.virtualBack hx (y := (⟨"com/example/graphbind/graphbind/RunningLongs", "get", "(I)J"⟩ : MethodName)) (z := (⟨"com/example/graphbind/graphbind/RunningLongs", "get", "(I)J"⟩ : MethodName)) hown (mvT hZ (hw _ (List.mem_of_getElem? (i := 33) rfl))) (mvT hZ (hw _ (List.mem_of_getElem? (i := 34) rfl))) (notFace_of_selects (args := #[]) (mvT hZ (hw _ (List.mem_of_getElem? (i := 36) rfl)))) (mvT hZ (hw _ (List.mem_of_getElem? (i := 36) rfl))) (mvT hZ (hw _ (List.mem_of_getElem? (i := 35) rfl))) (by decide) (backOf (W := 0) (rm4_1a l Z a0 hw [] (b1) (x21_ar) (x21_z9) (x21_kc) ((p1 + ((0 : Int32).toInt64))) (v1) (v2) ((0 : Int64)) T22.heap n0 Zs22 u22_2 u22_4 u21_5) hZ (hw _ (List.mem_of_getElem? (i := 37) rfl)) (hw _ (List.mem_of_getElem? (i := 3) rfl)) (by decide) (by decide)) q24a q24c (g := (mkF m 162 #[.val (.long p1), .second, .val (.long p2), .second, .val (.long p3), .second, .val (.long p4), .second, iv p5, iv p6, .val (.long p1), .second, .val (.long v1), .second, .val (.long v2), .second, .val (.long v3), .second, iv (3 : Int32), rv b1, iv (1 : Int32)] [(.int (1 : Int32)), (.ref b1)])) rfl (by rw [hml]; rfl) (Steps.refl _) (argsL := [(.int (1 : Int32))]) (rest := []) (lenOf pd_3 rfl) rfl (by show 2 * 0 + _ ≤ _; exact Nat.le_of_eq rfl) (hb hby at_162) (fun _ _ => ⟨rfl, eq23, (by decide : 4 + 0 ≤ _), (by decide : 60 + 0 ≤ _)⟩)
            dsimp only [Pt.U, Pt.locs, Pt.cells, Pt.slots] at X24 l24 y24 z24 st24 hQ24
            subst l24 y24 z24
            obtain ⟨rfl, Nq24, eq24⟩ := hQ24
            have N24 := Fr.app N23 Nq24
            refine own_stW (fun _ kk_ => st24.trans kk_) ?_
            show own_GoesW p e below s (Q0 Z p1 p2 p3 p4 p5 p6 h0 n0) 16 1216 T24 (mkF m 165 #[.val (.long p1), .second, .val (.long p2), .second, .val (.long p3), .second, .val (.long p4), .second, iv p5, iv p6, .val (.long p1), .second, .val (.long v1), .second, .val (.long v2), .second, .val (.long v3), .second, iv (3 : Int32), rv b1, iv (1 : Int32)] [(.long v1)])
            refine own_stW (fun _ kk_ => XS.lload X24.here hx rfl (hb hby at_165) rfl (XT.lcmp X24.here hx rfl (hb hby at_167) rfl (XS.ifNo X24.here hx rfl (hb hby at_168) rfl (XT.ll_ne_f rfl) (XS.iconst X24.here hx rfl (hb hby at_171) (XS.goto X24.here hx rfl (pc0 := 172) (pc' := 176) rfl (hb hby at_172) (by decide) (by decide) (XS.istore X24.here hx rfl (hb hby at_176) rfl (l' := #[.val (.long p1), .second, .val (.long p2), .second, .val (.long p3), .second, .val (.long p4), .second, iv p5, iv p6, .val (.long p1), .second, .val (.long v1), .second, .val (.long v2), .second, .val (.long v3), .second, iv (3 : Int32), rv b1, iv (1 : Int32)]) rfl (XS.iload X24.here hx rfl (hb hby at_178) rfl (XS.iconst X24.here hx rfl (hb hby at_180) kk_)))))))) ?_
            show own_GoesW p e below s (Q0 Z p1 p2 p3 p4 p5 p6 h0 n0) 16 1216 T24 (mkF m 181 #[.val (.long p1), .second, .val (.long p2), .second, .val (.long p3), .second, .val (.long p4), .second, iv p5, iv p6, .val (.long p1), .second, .val (.long v1), .second, .val (.long v2), .second, .val (.long v3), .second, iv (3 : Int32), rv b1, iv (1 : Int32)] [(.int (2 : Int32)), (.int (3 : Int32))])
            refine own_stW (fun _ kk_ => XS.icmpNo X24.here hx rfl (hb hby at_181) rfl (XT.ii_le_f (by decide)) (XS.iload X24.here hx rfl (hb hby at_184) rfl (XS.ifNo X24.here hx rfl (hb hby at_186) rfl (XT.i0_eq_f (by decide)) (XS.aload X24.here hx rfl (hb hby at_189) rfl rfl (XS.iconst X24.here hx rfl (hb hby at_191) kk_))))) ?_
            show own_GoesW p e below s (Q0 Z p1 p2 p3 p4 p5 p6 h0 n0) 16 1216 T24 (mkF m 192 #[.val (.long p1), .second, .val (.long p2), .second, .val (.long p3), .second, .val (.long p4), .second, iv p5, iv p6, .val (.long p1), .second, .val (.long v1), .second, .val (.long v2), .second, .val (.long v3), .second, iv (3 : Int32), rv b1, iv (1 : Int32)] [(.int (2 : Int32)), (.ref b1)])
            obtain ⟨cq25, kq25, q25a, q25b, q25c⟩ := isOf hZ eq24 f22_0
            obtain ⟨_, _, ⟨T25, L25, k25, n25⟩, -, X25, ⟨Lc25, hQ25, l25, y25, z25⟩, st25⟩ := X24.virtualBack hx (y := (⟨"com/example/graphbind/graphbind/RunningLongs", "get", "(I)J"⟩ : MethodName)) (z := (⟨"com/example/graphbind/graphbind/RunningLongs", "get", "(I)J"⟩ : MethodName)) hown (mvT hZ (hw _ (List.mem_of_getElem? (i := 33) rfl))) (mvT hZ (hw _ (List.mem_of_getElem? (i := 34) rfl))) (notFace_of_selects (args := #[]) (mvT hZ (hw _ (List.mem_of_getElem? (i := 36) rfl)))) (mvT hZ (hw _ (List.mem_of_getElem? (i := 36) rfl))) (mvT hZ (hw _ (List.mem_of_getElem? (i := 35) rfl))) (by decide) (backOf (W := 0) (rm4_2a l Z a0 hw [] (b1) (x21_ar) (x21_z9) (x21_kc) ((p1 + ((0 : Int32).toInt64))) (v1) (v2) ((0 : Int64)) T22.heap n0 Zs22 u22_2 u22_4 u21_5) hZ (hw _ (List.mem_of_getElem? (i := 37) rfl)) (hw _ (List.mem_of_getElem? (i := 3) rfl)) (by decide) (by decide)) q25a q25c (g := (mkF m 192 #[.val (.long p1), .second, .val (.long p2), .second, .val (.long p3), .second, .val (.long p4), .second, iv p5, iv p6, .val (.long p1), .second, .val (.long v1), .second, .val (.long v2), .second, .val (.long v3), .second, iv (3 : Int32), rv b1, iv (1 : Int32)] [(.int (2 : Int32)), (.ref b1)])) rfl (by rw [hml]; rfl) (Steps.refl _) (argsL := [(.int (2 : Int32))]) (rest := []) (lenOf pd_3 rfl) rfl (by show 2 * 0 + _ ≤ _; exact Nat.le_of_eq rfl) (hb hby at_192) (fun _ _ => ⟨rfl, eq24, (by decide : 4 + 0 ≤ _), (by decide : 60 + 0 ≤ _)⟩)
            dsimp only [Pt.U, Pt.locs, Pt.cells, Pt.slots] at X25 l25 y25 z25 st25 hQ25
            subst l25 y25 z25
            obtain ⟨rfl, Nq25, eq25⟩ := hQ25
            have N25 := Fr.app N24 Nq25
            refine own_stW (fun _ kk_ => st25.trans kk_) ?_
            show own_GoesW p e below s (Q0 Z p1 p2 p3 p4 p5 p6 h0 n0) 16 1216 T25 (mkF m 195 #[.val (.long p1), .second, .val (.long p2), .second, .val (.long p3), .second, .val (.long p4), .second, iv p5, iv p6, .val (.long p1), .second, .val (.long v1), .second, .val (.long v2), .second, .val (.long v3), .second, iv (3 : Int32), rv b1, iv (1 : Int32)] [(.long v2)])
            refine own_stW (fun _ kk_ => XS.lload X25.here hx rfl (hb hby at_195) rfl (XT.lcmp X25.here hx rfl (hb hby at_197) rfl (XS.ifNo X25.here hx rfl (hb hby at_198) rfl (XT.ll_ne_f rfl) (XS.iconst X25.here hx rfl (hb hby at_201) (XS.goto X25.here hx rfl (pc0 := 202) (pc' := 206) rfl (hb hby at_202) (by decide) (by decide) (XS.istore X25.here hx rfl (hb hby at_206) rfl (l' := #[.val (.long p1), .second, .val (.long p2), .second, .val (.long p3), .second, .val (.long p4), .second, iv p5, iv p6, .val (.long p1), .second, .val (.long v1), .second, .val (.long v2), .second, .val (.long v3), .second, iv (3 : Int32), rv b1, iv (1 : Int32)]) rfl (XS.iload X25.here hx rfl (hb hby at_208) rfl (XS.iconst X25.here hx rfl (hb hby at_210) kk_)))))))) ?_
            show own_GoesW p e below s (Q0 Z p1 p2 p3 p4 p5 p6 h0 n0) 16 1216 T25 (mkF m 211 #[.val (.long p1), .second, .val (.long p2), .second, .val (.long p3), .second, .val (.long p4), .second, iv p5, iv p6, .val (.long p1), .second, .val (.long v1), .second, .val (.long v2), .second, .val (.long v3), .second, iv (3 : Int32), rv b1, iv (1 : Int32)] [(.int (3 : Int32)), (.int (3 : Int32))])
            refine own_stW (fun _ kk_ => XS.icmpYes X25.here hx rfl (pc0 := 211) (pc' := 238) rfl (hb hby at_211) rfl (XT.ii_le_t (by decide)) (by decide) (by decide) (XS.iload X25.here hx rfl (hb hby at_238) rfl kk_)) ?_
            show own_GoesW p e below s (Q0 Z p1 p2 p3 p4 p5 p6 h0 n0) 16 1216 T25 (mkF m 240 #[.val (.long p1), .second, .val (.long p2), .second, .val (.long p3), .second, .val (.long p4), .second, iv p5, iv p6, .val (.long p1), .second, .val (.long v1), .second, .val (.long v2), .second, .val (.long v3), .second, iv (3 : Int32), rv b1, iv (1 : Int32)] [(.int (1 : Int32))])
            refine own_endW (v := (some (.int (nar .boolean (1 : Int32))))) X25 hlk hS2 (by rw [eq25]; exact Ks22) (fun h => by rw [Bd.returns] at h; cases h) (by decide) (by decide) ?_ (fun fs hr => retN X25 hx (t := .boolean) Bd.returns (by simp) (hb hby at_240) hr)
            show Q0 Z p1 p2 p3 p4 p5 p6 h0 n0 (some (.int (nar .boolean (1 : Int32)))) T25.heap _
            rw [eq25]
            exact ⟨rfl, N25⟩
        · show own_GoesW p e below s (Q0 Z p1 p2 p3 p4 p5 p6 h0 n0) 16 1216 T4 (mkF m 90 #[.val (.long p1), .second, .val (.long p2), .second, .val (.long p3), .second, .val (.long p4), .second, iv p5, iv p6, .val (.long p1), .second, .val (.long v1), .second, .val (.long v2), .second, .val (.long v3), .second, iv (4 : Int32), rv b1, .unset] [])
          refine own_stW (fun _ kk_ => XS.iload X4.here hx rfl (hb hby at_90) rfl (XS.iconst X4.here hx rfl (hb hby at_92) (XS.icmpNo X4.here hx rfl (hb hby at_93) rfl (XT.ii_le_f (by decide)) (XS.aload X4.here hx rfl (hb hby at_96) rfl rfl (XS.lload X4.here hx rfl (hb hby at_98) rfl kk_))))) ?_
          show own_GoesW p e below s (Q0 Z p1 p2 p3 p4 p5 p6 h0 n0) 16 1216 T4 (mkF m 100 #[.val (.long p1), .second, .val (.long p2), .second, .val (.long p3), .second, .val (.long p4), .second, iv p5, iv p6, .val (.long p1), .second, .val (.long v1), .second, .val (.long v2), .second, .val (.long v3), .second, iv (4 : Int32), rv b1, .unset] [(.long v1), (.ref b1)])
          rcases Classical.em (v1 = (p1 + ((1 : Int32).toInt64))) with h_eq1 | h_eq1
          · obtain ⟨cq26, kq26, q26a, q26b, q26c⟩ := isOf hZ rfl f4_0
            obtain ⟨_, _, ⟨T26, L26, k26, n26⟩, -, X26, ⟨Lc26, hQ26, l26, y26, z26⟩, st26⟩ := X4.virtualBack hx (y := (⟨"com/example/graphbind/graphbind/RunningLongs", "add", "(J)V"⟩ : MethodName)) (z := (⟨"com/example/graphbind/graphbind/RunningLongs", "add", "(J)V"⟩ : MethodName)) hown (mvT hZ (hw _ (List.mem_of_getElem? (i := 22) rfl))) (mvT hZ (hw _ (List.mem_of_getElem? (i := 23) rfl))) (notFace_of_selects (args := #[]) (mvT hZ (hw _ (List.mem_of_getElem? (i := 25) rfl)))) (mvT hZ (hw _ (List.mem_of_getElem? (i := 25) rfl))) (mvT hZ (hw _ (List.mem_of_getElem? (i := 24) rfl))) (by decide) (backOf (W := 0) (rm3_1e l Z a0 hw [] (b1) (v1) ((p6 &&& (31 : Int32))) (p1) T4.heap n0 Zs4 f4_0 gg1 u4_0 u4_1 u4_2 u4_3 h_eq1) hZ (hw _ (List.mem_of_getElem? (i := 26) rfl)) (hw _ (List.mem_of_getElem? (i := 3) rfl)) (by decide) (by decide)) q26a q26c (g := (mkF m 100 #[.val (.long p1), .second, .val (.long p2), .second, .val (.long p3), .second, .val (.long p4), .second, iv p5, iv p6, .val (.long p1), .second, .val (.long v1), .second, .val (.long v2), .second, .val (.long v3), .second, iv (4 : Int32), rv b1, .unset] [(.long v1), (.ref b1)])) rfl (by rw [hml]; rfl) (Steps.refl _) (argsL := [(.long v1)]) (rest := []) (lenOf pd_2 rfl) rfl (by show 2 * 0 + _ ≤ _; exact Nat.le_of_eq rfl) (hb hby at_100) (fun _ _ => ⟨rfl, rfl, (by decide : 3 + 0 ≤ _), (by decide : 29 + 0 ≤ _)⟩)
            dsimp only [Pt.U, Pt.locs, Pt.cells, Pt.slots] at X26 l26 y26 z26 st26 hQ26
            subst l26 y26 z26
            obtain ⟨rfl, Nq26, Kq26, u26_0, u26_1, u26_2, u26_3⟩ := hQ26
            have N26 := Fr.app N4 Nq26
            have f26_0 := f4_0.keep Kq26
            have Ks26 := Nat.le_trans Ks4 Kq26.1
            have Zs26 : n0 ≤ T26.heap.size := Nat.le_trans Zs4 Kq26.1
            refine own_stW (fun _ kk_ => st26.trans kk_) ?_
            show own_GoesW p e below s (Q0 Z p1 p2 p3 p4 p5 p6 h0 n0) 16 1216 T26 (mkF m 103 #[.val (.long p1), .second, .val (.long p2), .second, .val (.long p3), .second, .val (.long p4), .second, iv p5, iv p6, .val (.long p1), .second, .val (.long v1), .second, .val (.long v2), .second, .val (.long v3), .second, iv (4 : Int32), rv b1, .unset] [])
            refine own_stW (fun _ kk_ => XS.iload X26.here hx rfl (hb hby at_103) rfl (XS.iconst X26.here hx rfl (hb hby at_105) (XS.icmpNo X26.here hx rfl (hb hby at_106) rfl (XT.ii_le_f (by decide)) (XS.aload X26.here hx rfl (hb hby at_109) rfl rfl (XS.lload X26.here hx rfl (hb hby at_111) rfl kk_))))) ?_
            show own_GoesW p e below s (Q0 Z p1 p2 p3 p4 p5 p6 h0 n0) 16 1216 T26 (mkF m 113 #[.val (.long p1), .second, .val (.long p2), .second, .val (.long p3), .second, .val (.long p4), .second, iv p5, iv p6, .val (.long p1), .second, .val (.long v1), .second, .val (.long v2), .second, .val (.long v3), .second, iv (4 : Int32), rv b1, .unset] [(.long v2), (.ref b1)])
            rcases Classical.em (v2 = (p1 + ((2 : Int32).toInt64))) with h_eq2 | h_eq2
            · obtain ⟨cq27, kq27, q27a, q27b, q27c⟩ := isOf hZ rfl f26_0
              obtain ⟨_, _, ⟨T27, L27, k27, n27⟩, -, X27, ⟨Lc27, hQ27, l27, y27, z27⟩, st27⟩ := X26.virtualBack hx (y := (⟨"com/example/graphbind/graphbind/RunningLongs", "add", "(J)V"⟩ : MethodName)) (z := (⟨"com/example/graphbind/graphbind/RunningLongs", "add", "(J)V"⟩ : MethodName)) hown (mvT hZ (hw _ (List.mem_of_getElem? (i := 22) rfl))) (mvT hZ (hw _ (List.mem_of_getElem? (i := 23) rfl))) (notFace_of_selects (args := #[]) (mvT hZ (hw _ (List.mem_of_getElem? (i := 25) rfl)))) (mvT hZ (hw _ (List.mem_of_getElem? (i := 25) rfl))) (mvT hZ (hw _ (List.mem_of_getElem? (i := 24) rfl))) (by decide) (backOf (W := 0) (rm3_2e l Z a0 hw [] (b1) (v2) ((p6 &&& (31 : Int32))) (p1) T26.heap n0 Zs26 f26_0 gg1 u26_0 u26_1 u26_2 u26_3 h_eq2) hZ (hw _ (List.mem_of_getElem? (i := 26) rfl)) (hw _ (List.mem_of_getElem? (i := 3) rfl)) (by decide) (by decide)) q27a q27c (g := (mkF m 113 #[.val (.long p1), .second, .val (.long p2), .second, .val (.long p3), .second, .val (.long p4), .second, iv p5, iv p6, .val (.long p1), .second, .val (.long v1), .second, .val (.long v2), .second, .val (.long v3), .second, iv (4 : Int32), rv b1, .unset] [(.long v2), (.ref b1)])) rfl (by rw [hml]; rfl) (Steps.refl _) (argsL := [(.long v2)]) (rest := []) (lenOf pd_2 rfl) rfl (by show 2 * 0 + _ ≤ _; exact Nat.le_of_eq rfl) (hb hby at_113) (fun _ _ => ⟨rfl, rfl, (by decide : 3 + 0 ≤ _), (by decide : 29 + 0 ≤ _)⟩)
              dsimp only [Pt.U, Pt.locs, Pt.cells, Pt.slots] at X27 l27 y27 z27 st27 hQ27
              subst l27 y27 z27
              obtain ⟨rfl, Nq27, Kq27, u27_0, u27_1, u27_2, u27_3⟩ := hQ27
              have N27 := Fr.app N26 Nq27
              have f27_0 := f26_0.keep Kq27
              have Ks27 := Nat.le_trans Ks26 Kq27.1
              have Zs27 : n0 ≤ T27.heap.size := Nat.le_trans Zs26 Kq27.1
              refine own_stW (fun _ kk_ => st27.trans kk_) ?_
              show own_GoesW p e below s (Q0 Z p1 p2 p3 p4 p5 p6 h0 n0) 16 1216 T27 (mkF m 116 #[.val (.long p1), .second, .val (.long p2), .second, .val (.long p3), .second, .val (.long p4), .second, iv p5, iv p6, .val (.long p1), .second, .val (.long v1), .second, .val (.long v2), .second, .val (.long v3), .second, iv (4 : Int32), rv b1, .unset] [])
              refine own_stW (fun _ kk_ => XS.iload X27.here hx rfl (hb hby at_116) rfl (XS.iconst X27.here hx rfl (hb hby at_118) (XS.icmpNo X27.here hx rfl (hb hby at_119) rfl (XT.ii_le_f (by decide)) (XS.aload X27.here hx rfl (hb hby at_122) rfl rfl (XS.lload X27.here hx rfl (hb hby at_124) rfl kk_))))) ?_
              show own_GoesW p e below s (Q0 Z p1 p2 p3 p4 p5 p6 h0 n0) 16 1216 T27 (mkF m 126 #[.val (.long p1), .second, .val (.long p2), .second, .val (.long p3), .second, .val (.long p4), .second, iv p5, iv p6, .val (.long p1), .second, .val (.long v1), .second, .val (.long v2), .second, .val (.long v3), .second, iv (4 : Int32), rv b1, .unset] [(.long v3), (.ref b1)])
              rcases Classical.em (v3 = (p1 + ((3 : Int32).toInt64))) with h_eq3 | h_eq3
              · obtain ⟨cq28, kq28, q28a, q28b, q28c⟩ := isOf hZ rfl f27_0
                obtain ⟨_, _, ⟨T28, L28, k28, n28⟩, -, X28, ⟨Lc28, hQ28, l28, y28, z28⟩, st28⟩ := X27.virtualBack hx (y := (⟨"com/example/graphbind/graphbind/RunningLongs", "add", "(J)V"⟩ : MethodName)) (z := (⟨"com/example/graphbind/graphbind/RunningLongs", "add", "(J)V"⟩ : MethodName)) hown (mvT hZ (hw _ (List.mem_of_getElem? (i := 22) rfl))) (mvT hZ (hw _ (List.mem_of_getElem? (i := 23) rfl))) (notFace_of_selects (args := #[]) (mvT hZ (hw _ (List.mem_of_getElem? (i := 25) rfl)))) (mvT hZ (hw _ (List.mem_of_getElem? (i := 25) rfl))) (mvT hZ (hw _ (List.mem_of_getElem? (i := 24) rfl))) (by decide) (backOf (W := 0) (rm3_3e l Z a0 hw [] (b1) (v3) ((p6 &&& (31 : Int32))) (p1) T27.heap n0 Zs27 f27_0 gg1 u27_0 u27_1 u27_2 u27_3 h_eq3) hZ (hw _ (List.mem_of_getElem? (i := 26) rfl)) (hw _ (List.mem_of_getElem? (i := 3) rfl)) (by decide) (by decide)) q28a q28c (g := (mkF m 126 #[.val (.long p1), .second, .val (.long p2), .second, .val (.long p3), .second, .val (.long p4), .second, iv p5, iv p6, .val (.long p1), .second, .val (.long v1), .second, .val (.long v2), .second, .val (.long v3), .second, iv (4 : Int32), rv b1, .unset] [(.long v3), (.ref b1)])) rfl (by rw [hml]; rfl) (Steps.refl _) (argsL := [(.long v3)]) (rest := []) (lenOf pd_2 rfl) rfl (by show 2 * 0 + _ ≤ _; exact Nat.le_of_eq rfl) (hb hby at_126) (fun _ _ => ⟨rfl, rfl, (by decide : 3 + 0 ≤ _), (by decide : 29 + 0 ≤ _)⟩)
                dsimp only [Pt.U, Pt.locs, Pt.cells, Pt.slots] at X28 l28 y28 z28 st28 hQ28
                subst l28 y28 z28
                obtain ⟨rfl, Nq28, Kq28, u28_0, u28_1, u28_2, u28_3⟩ := hQ28
                have N28 := Fr.app N27 Nq28
                have f28_0 := f27_0.keep Kq28
                have Ks28 := Nat.le_trans Ks27 Kq28.1
                have Zs28 : n0 ≤ T28.heap.size := Nat.le_trans Zs27 Kq28.1
                refine own_stW (fun _ kk_ => st28.trans kk_) ?_
                show own_GoesW p e below s (Q0 Z p1 p2 p3 p4 p5 p6 h0 n0) 16 1216 T28 (mkF m 129 #[.val (.long p1), .second, .val (.long p2), .second, .val (.long p3), .second, .val (.long p4), .second, iv p5, iv p6, .val (.long p1), .second, .val (.long v1), .second, .val (.long v2), .second, .val (.long v3), .second, iv (4 : Int32), rv b1, .unset] [])
                refine own_stW (fun _ kk_ => XS.aload X28.here hx rfl (hb hby at_129) rfl rfl (XS.iconst X28.here hx rfl (hb hby at_131) kk_)) ?_
                show own_GoesW p e below s (Q0 Z p1 p2 p3 p4 p5 p6 h0 n0) 16 1216 T28 (mkF m 132 #[.val (.long p1), .second, .val (.long p2), .second, .val (.long p3), .second, .val (.long p4), .second, iv p5, iv p6, .val (.long p1), .second, .val (.long v1), .second, .val (.long v2), .second, .val (.long v3), .second, iv (4 : Int32), rv b1, .unset] [(.int (0 : Int32)), (.ref b1)])
                obtain ⟨cq29, kq29, q29a, q29b, q29c⟩ := isOf hZ rfl f28_0
                obtain ⟨_, _, ⟨T29, L29, k29, n29⟩, -, X29, ⟨Lc29, hQ29, l29, y29, z29⟩, st29⟩ := X28.virtualBack hx (y := (⟨"com/example/graphbind/graphbind/RunningLongs", "get", "(I)J"⟩ : MethodName)) (z := (⟨"com/example/graphbind/graphbind/RunningLongs", "get", "(I)J"⟩ : MethodName)) hown (mvT hZ (hw _ (List.mem_of_getElem? (i := 33) rfl))) (mvT hZ (hw _ (List.mem_of_getElem? (i := 34) rfl))) (notFace_of_selects (args := #[]) (mvT hZ (hw _ (List.mem_of_getElem? (i := 36) rfl)))) (mvT hZ (hw _ (List.mem_of_getElem? (i := 36) rfl))) (mvT hZ (hw _ (List.mem_of_getElem? (i := 35) rfl))) (by decide) (backOf (W := 0) (rm4_0n l Z a0 hw [] (b1) (p1) T28.heap n0 Zs28 u28_1 u28_2) hZ (hw _ (List.mem_of_getElem? (i := 37) rfl)) (hw _ (List.mem_of_getElem? (i := 3) rfl)) (by decide) (by decide)) q29a q29c (g := (mkF m 132 #[.val (.long p1), .second, .val (.long p2), .second, .val (.long p3), .second, .val (.long p4), .second, iv p5, iv p6, .val (.long p1), .second, .val (.long v1), .second, .val (.long v2), .second, .val (.long v3), .second, iv (4 : Int32), rv b1, .unset] [(.int (0 : Int32)), (.ref b1)])) rfl (by rw [hml]; rfl) (Steps.refl _) (argsL := [(.int (0 : Int32))]) (rest := []) (lenOf pd_3 rfl) rfl (by show 2 * 0 + _ ≤ _; exact Nat.le_of_eq rfl) (hb hby at_132) (fun _ _ => ⟨rfl, rfl, (by decide : 3 + 0 ≤ _), (by decide : 29 + 0 ≤ _)⟩)
                dsimp only [Pt.U, Pt.locs, Pt.cells, Pt.slots] at X29 l29 y29 z29 st29 hQ29
                subst l29 y29 z29
                obtain ⟨rfl, Nq29, eq29⟩ := hQ29
                have N29 := Fr.app N28 Nq29
                refine own_stW (fun _ kk_ => st29.trans kk_) ?_
                show own_GoesW p e below s (Q0 Z p1 p2 p3 p4 p5 p6 h0 n0) 16 1216 T29 (mkF m 135 #[.val (.long p1), .second, .val (.long p2), .second, .val (.long p3), .second, .val (.long p4), .second, iv p5, iv p6, .val (.long p1), .second, .val (.long v1), .second, .val (.long v2), .second, .val (.long v3), .second, iv (4 : Int32), rv b1, .unset] [(.long (p1 + ((0 : Int32).toInt64)))])
                refine own_stW (fun _ kk_ => XS.lload X29.here hx rfl (hb hby at_135) rfl (XT.lcmp X29.here hx rfl (hb hby at_137) rfl (XS.ifNo X29.here hx rfl (hb hby at_138) rfl (XT.ll_ne_f (own_z0 p1)) (XS.iconst X29.here hx rfl (hb hby at_141) (XS.goto X29.here hx rfl (pc0 := 142) (pc' := 146) rfl (hb hby at_142) (by decide) (by decide) (XS.istore X29.here hx rfl (hb hby at_146) rfl (l' := #[.val (.long p1), .second, .val (.long p2), .second, .val (.long p3), .second, .val (.long p4), .second, iv p5, iv p6, .val (.long p1), .second, .val (.long v1), .second, .val (.long v2), .second, .val (.long v3), .second, iv (4 : Int32), rv b1, iv (1 : Int32)]) rfl (XS.iload X29.here hx rfl (hb hby at_148) rfl (XS.iconst X29.here hx rfl (hb hby at_150) kk_)))))))) ?_
                show own_GoesW p e below s (Q0 Z p1 p2 p3 p4 p5 p6 h0 n0) 16 1216 T29 (mkF m 151 #[.val (.long p1), .second, .val (.long p2), .second, .val (.long p3), .second, .val (.long p4), .second, iv p5, iv p6, .val (.long p1), .second, .val (.long v1), .second, .val (.long v2), .second, .val (.long v3), .second, iv (4 : Int32), rv b1, iv (1 : Int32)] [(.int (1 : Int32)), (.int (4 : Int32))])
                refine own_stW (fun _ kk_ => XS.icmpNo X29.here hx rfl (hb hby at_151) rfl (XT.ii_le_f (by decide)) (XS.iload X29.here hx rfl (hb hby at_154) rfl (XS.ifNo X29.here hx rfl (hb hby at_156) rfl (XT.i0_eq_f (by decide)) (XS.aload X29.here hx rfl (hb hby at_159) rfl rfl (XS.iconst X29.here hx rfl (hb hby at_161) kk_))))) ?_
                show own_GoesW p e below s (Q0 Z p1 p2 p3 p4 p5 p6 h0 n0) 16 1216 T29 (mkF m 162 #[.val (.long p1), .second, .val (.long p2), .second, .val (.long p3), .second, .val (.long p4), .second, iv p5, iv p6, .val (.long p1), .second, .val (.long v1), .second, .val (.long v2), .second, .val (.long v3), .second, iv (4 : Int32), rv b1, iv (1 : Int32)] [(.int (1 : Int32)), (.ref b1)])
                obtain ⟨cq30, kq30, q30a, q30b, q30c⟩ := isOf hZ eq29 f28_0
                obtain ⟨_, _, ⟨T30, L30, k30, n30⟩, -, X30, ⟨Lc30, hQ30, l30, y30, z30⟩, st30⟩ := X29.virtualBack hx (y := (⟨"com/example/graphbind/graphbind/RunningLongs", "get", "(I)J"⟩ : MethodName)) (z := (⟨"com/example/graphbind/graphbind/RunningLongs", "get", "(I)J"⟩ : MethodName)) hown (mvT hZ (hw _ (List.mem_of_getElem? (i := 33) rfl))) (mvT hZ (hw _ (List.mem_of_getElem? (i := 34) rfl))) (notFace_of_selects (args := #[]) (mvT hZ (hw _ (List.mem_of_getElem? (i := 36) rfl)))) (mvT hZ (hw _ (List.mem_of_getElem? (i := 36) rfl))) (mvT hZ (hw _ (List.mem_of_getElem? (i := 35) rfl))) (by decide) (backOf (W := 0) (rm4_1n l Z a0 hw [] (b1) (p1) T28.heap n0 Zs28 u28_1 u28_2) hZ (hw _ (List.mem_of_getElem? (i := 37) rfl)) (hw _ (List.mem_of_getElem? (i := 3) rfl)) (by decide) (by decide)) q30a q30c (g := (mkF m 162 #[.val (.long p1), .second, .val (.long p2), .second, .val (.long p3), .second, .val (.long p4), .second, iv p5, iv p6, .val (.long p1), .second, .val (.long v1), .second, .val (.long v2), .second, .val (.long v3), .second, iv (4 : Int32), rv b1, iv (1 : Int32)] [(.int (1 : Int32)), (.ref b1)])) rfl (by rw [hml]; rfl) (Steps.refl _) (argsL := [(.int (1 : Int32))]) (rest := []) (lenOf pd_3 rfl) rfl (by show 2 * 0 + _ ≤ _; exact Nat.le_of_eq rfl) (hb hby at_162) (fun _ _ => ⟨rfl, eq29, (by decide : 3 + 0 ≤ _), (by decide : 29 + 0 ≤ _)⟩)
                dsimp only [Pt.U, Pt.locs, Pt.cells, Pt.slots] at X30 l30 y30 z30 st30 hQ30
                subst l30 y30 z30
                obtain ⟨rfl, Nq30, eq30⟩ := hQ30
                have N30 := Fr.app N29 Nq30
                refine own_stW (fun _ kk_ => st30.trans kk_) ?_
                show own_GoesW p e below s (Q0 Z p1 p2 p3 p4 p5 p6 h0 n0) 16 1216 T30 (mkF m 165 #[.val (.long p1), .second, .val (.long p2), .second, .val (.long p3), .second, .val (.long p4), .second, iv p5, iv p6, .val (.long p1), .second, .val (.long v1), .second, .val (.long v2), .second, .val (.long v3), .second, iv (4 : Int32), rv b1, iv (1 : Int32)] [(.long (p1 + ((1 : Int32).toInt64)))])
                refine own_stW (fun _ kk_ => XS.lload X30.here hx rfl (hb hby at_165) rfl (XT.lcmp X30.here hx rfl (hb hby at_167) rfl (XS.ifNo X30.here hx rfl (hb hby at_168) rfl (XT.ll_ne_f h_eq1.symm) (XS.iconst X30.here hx rfl (hb hby at_171) (XS.goto X30.here hx rfl (pc0 := 172) (pc' := 176) rfl (hb hby at_172) (by decide) (by decide) (XS.istore X30.here hx rfl (hb hby at_176) rfl (l' := #[.val (.long p1), .second, .val (.long p2), .second, .val (.long p3), .second, .val (.long p4), .second, iv p5, iv p6, .val (.long p1), .second, .val (.long v1), .second, .val (.long v2), .second, .val (.long v3), .second, iv (4 : Int32), rv b1, iv (1 : Int32)]) rfl (XS.iload X30.here hx rfl (hb hby at_178) rfl (XS.iconst X30.here hx rfl (hb hby at_180) kk_)))))))) ?_
                show own_GoesW p e below s (Q0 Z p1 p2 p3 p4 p5 p6 h0 n0) 16 1216 T30 (mkF m 181 #[.val (.long p1), .second, .val (.long p2), .second, .val (.long p3), .second, .val (.long p4), .second, iv p5, iv p6, .val (.long p1), .second, .val (.long v1), .second, .val (.long v2), .second, .val (.long v3), .second, iv (4 : Int32), rv b1, iv (1 : Int32)] [(.int (2 : Int32)), (.int (4 : Int32))])
                refine own_stW (fun _ kk_ => XS.icmpNo X30.here hx rfl (hb hby at_181) rfl (XT.ii_le_f (by decide)) (XS.iload X30.here hx rfl (hb hby at_184) rfl (XS.ifNo X30.here hx rfl (hb hby at_186) rfl (XT.i0_eq_f (by decide)) (XS.aload X30.here hx rfl (hb hby at_189) rfl rfl (XS.iconst X30.here hx rfl (hb hby at_191) kk_))))) ?_
                show own_GoesW p e below s (Q0 Z p1 p2 p3 p4 p5 p6 h0 n0) 16 1216 T30 (mkF m 192 #[.val (.long p1), .second, .val (.long p2), .second, .val (.long p3), .second, .val (.long p4), .second, iv p5, iv p6, .val (.long p1), .second, .val (.long v1), .second, .val (.long v2), .second, .val (.long v3), .second, iv (4 : Int32), rv b1, iv (1 : Int32)] [(.int (2 : Int32)), (.ref b1)])
                obtain ⟨cq31, kq31, q31a, q31b, q31c⟩ := isOf hZ eq30 f28_0
                obtain ⟨_, _, ⟨T31, L31, k31, n31⟩, -, X31, ⟨Lc31, hQ31, l31, y31, z31⟩, st31⟩ := X30.virtualBack hx (y := (⟨"com/example/graphbind/graphbind/RunningLongs", "get", "(I)J"⟩ : MethodName)) (z := (⟨"com/example/graphbind/graphbind/RunningLongs", "get", "(I)J"⟩ : MethodName)) hown (mvT hZ (hw _ (List.mem_of_getElem? (i := 33) rfl))) (mvT hZ (hw _ (List.mem_of_getElem? (i := 34) rfl))) (notFace_of_selects (args := #[]) (mvT hZ (hw _ (List.mem_of_getElem? (i := 36) rfl)))) (mvT hZ (hw _ (List.mem_of_getElem? (i := 36) rfl))) (mvT hZ (hw _ (List.mem_of_getElem? (i := 35) rfl))) (by decide) (backOf (W := 0) (rm4_2n l Z a0 hw [] (b1) (p1) T28.heap n0 Zs28 u28_1 u28_2) hZ (hw _ (List.mem_of_getElem? (i := 37) rfl)) (hw _ (List.mem_of_getElem? (i := 3) rfl)) (by decide) (by decide)) q31a q31c (g := (mkF m 192 #[.val (.long p1), .second, .val (.long p2), .second, .val (.long p3), .second, .val (.long p4), .second, iv p5, iv p6, .val (.long p1), .second, .val (.long v1), .second, .val (.long v2), .second, .val (.long v3), .second, iv (4 : Int32), rv b1, iv (1 : Int32)] [(.int (2 : Int32)), (.ref b1)])) rfl (by rw [hml]; rfl) (Steps.refl _) (argsL := [(.int (2 : Int32))]) (rest := []) (lenOf pd_3 rfl) rfl (by show 2 * 0 + _ ≤ _; exact Nat.le_of_eq rfl) (hb hby at_192) (fun _ _ => ⟨rfl, eq30, (by decide : 3 + 0 ≤ _), (by decide : 29 + 0 ≤ _)⟩)
                dsimp only [Pt.U, Pt.locs, Pt.cells, Pt.slots] at X31 l31 y31 z31 st31 hQ31
                subst l31 y31 z31
                obtain ⟨rfl, Nq31, eq31⟩ := hQ31
                have N31 := Fr.app N30 Nq31
                refine own_stW (fun _ kk_ => st31.trans kk_) ?_
                show own_GoesW p e below s (Q0 Z p1 p2 p3 p4 p5 p6 h0 n0) 16 1216 T31 (mkF m 195 #[.val (.long p1), .second, .val (.long p2), .second, .val (.long p3), .second, .val (.long p4), .second, iv p5, iv p6, .val (.long p1), .second, .val (.long v1), .second, .val (.long v2), .second, .val (.long v3), .second, iv (4 : Int32), rv b1, iv (1 : Int32)] [(.long (p1 + ((2 : Int32).toInt64)))])
                refine own_stW (fun _ kk_ => XS.lload X31.here hx rfl (hb hby at_195) rfl (XT.lcmp X31.here hx rfl (hb hby at_197) rfl (XS.ifNo X31.here hx rfl (hb hby at_198) rfl (XT.ll_ne_f h_eq2.symm) (XS.iconst X31.here hx rfl (hb hby at_201) (XS.goto X31.here hx rfl (pc0 := 202) (pc' := 206) rfl (hb hby at_202) (by decide) (by decide) (XS.istore X31.here hx rfl (hb hby at_206) rfl (l' := #[.val (.long p1), .second, .val (.long p2), .second, .val (.long p3), .second, .val (.long p4), .second, iv p5, iv p6, .val (.long p1), .second, .val (.long v1), .second, .val (.long v2), .second, .val (.long v3), .second, iv (4 : Int32), rv b1, iv (1 : Int32)]) rfl (XS.iload X31.here hx rfl (hb hby at_208) rfl (XS.iconst X31.here hx rfl (hb hby at_210) kk_)))))))) ?_
                show own_GoesW p e below s (Q0 Z p1 p2 p3 p4 p5 p6 h0 n0) 16 1216 T31 (mkF m 211 #[.val (.long p1), .second, .val (.long p2), .second, .val (.long p3), .second, .val (.long p4), .second, iv p5, iv p6, .val (.long p1), .second, .val (.long v1), .second, .val (.long v2), .second, .val (.long v3), .second, iv (4 : Int32), rv b1, iv (1 : Int32)] [(.int (3 : Int32)), (.int (4 : Int32))])
                refine own_stW (fun _ kk_ => XS.icmpNo X31.here hx rfl (hb hby at_211) rfl (XT.ii_le_f (by decide)) (XS.iload X31.here hx rfl (hb hby at_214) rfl (XS.ifNo X31.here hx rfl (hb hby at_216) rfl (XT.i0_eq_f (by decide)) (XS.aload X31.here hx rfl (hb hby at_219) rfl rfl (XS.iconst X31.here hx rfl (hb hby at_221) kk_))))) ?_
                show own_GoesW p e below s (Q0 Z p1 p2 p3 p4 p5 p6 h0 n0) 16 1216 T31 (mkF m 222 #[.val (.long p1), .second, .val (.long p2), .second, .val (.long p3), .second, .val (.long p4), .second, iv p5, iv p6, .val (.long p1), .second, .val (.long v1), .second, .val (.long v2), .second, .val (.long v3), .second, iv (4 : Int32), rv b1, iv (1 : Int32)] [(.int (3 : Int32)), (.ref b1)])
                obtain ⟨cq32, kq32, q32a, q32b, q32c⟩ := isOf hZ eq31 f28_0
                obtain ⟨_, _, ⟨T32, L32, k32, n32⟩, -, X32, ⟨Lc32, hQ32, l32, y32, z32⟩, st32⟩ := X31.virtualBack hx (y := (⟨"com/example/graphbind/graphbind/RunningLongs", "get", "(I)J"⟩ : MethodName)) (z := (⟨"com/example/graphbind/graphbind/RunningLongs", "get", "(I)J"⟩ : MethodName)) hown (mvT hZ (hw _ (List.mem_of_getElem? (i := 33) rfl))) (mvT hZ (hw _ (List.mem_of_getElem? (i := 34) rfl))) (notFace_of_selects (args := #[]) (mvT hZ (hw _ (List.mem_of_getElem? (i := 36) rfl)))) (mvT hZ (hw _ (List.mem_of_getElem? (i := 36) rfl))) (mvT hZ (hw _ (List.mem_of_getElem? (i := 35) rfl))) (by decide) (backOf (W := 0) (rm4_3n l Z a0 hw [] (b1) (p1) T28.heap n0 Zs28 u28_1 u28_2) hZ (hw _ (List.mem_of_getElem? (i := 37) rfl)) (hw _ (List.mem_of_getElem? (i := 3) rfl)) (by decide) (by decide)) q32a q32c (g := (mkF m 222 #[.val (.long p1), .second, .val (.long p2), .second, .val (.long p3), .second, .val (.long p4), .second, iv p5, iv p6, .val (.long p1), .second, .val (.long v1), .second, .val (.long v2), .second, .val (.long v3), .second, iv (4 : Int32), rv b1, iv (1 : Int32)] [(.int (3 : Int32)), (.ref b1)])) rfl (by rw [hml]; rfl) (Steps.refl _) (argsL := [(.int (3 : Int32))]) (rest := []) (lenOf pd_3 rfl) rfl (by show 2 * 0 + _ ≤ _; exact Nat.le_of_eq rfl) (hb hby at_222) (fun _ _ => ⟨rfl, eq31, (by decide : 3 + 0 ≤ _), (by decide : 29 + 0 ≤ _)⟩)
                dsimp only [Pt.U, Pt.locs, Pt.cells, Pt.slots] at X32 l32 y32 z32 st32 hQ32
                subst l32 y32 z32
                obtain ⟨rfl, Nq32, eq32⟩ := hQ32
                have N32 := Fr.app N31 Nq32
                refine own_stW (fun _ kk_ => st32.trans kk_) ?_
                show own_GoesW p e below s (Q0 Z p1 p2 p3 p4 p5 p6 h0 n0) 16 1216 T32 (mkF m 225 #[.val (.long p1), .second, .val (.long p2), .second, .val (.long p3), .second, .val (.long p4), .second, iv p5, iv p6, .val (.long p1), .second, .val (.long v1), .second, .val (.long v2), .second, .val (.long v3), .second, iv (4 : Int32), rv b1, iv (1 : Int32)] [(.long (p1 + ((3 : Int32).toInt64)))])
                refine own_stW (fun _ kk_ => XS.lload X32.here hx rfl (hb hby at_225) rfl (XT.lcmp X32.here hx rfl (hb hby at_227) rfl (XS.ifNo X32.here hx rfl (hb hby at_228) rfl (XT.ll_ne_f h_eq3.symm) (XS.iconst X32.here hx rfl (hb hby at_231) (XS.goto X32.here hx rfl (pc0 := 232) (pc' := 236) rfl (hb hby at_232) (by decide) (by decide) (XS.istore X32.here hx rfl (hb hby at_236) rfl (l' := #[.val (.long p1), .second, .val (.long p2), .second, .val (.long p3), .second, .val (.long p4), .second, iv p5, iv p6, .val (.long p1), .second, .val (.long v1), .second, .val (.long v2), .second, .val (.long v3), .second, iv (4 : Int32), rv b1, iv (1 : Int32)]) rfl (XS.iload X32.here hx rfl (hb hby at_238) rfl kk_))))))) ?_
                show own_GoesW p e below s (Q0 Z p1 p2 p3 p4 p5 p6 h0 n0) 16 1216 T32 (mkF m 240 #[.val (.long p1), .second, .val (.long p2), .second, .val (.long p3), .second, .val (.long p4), .second, iv p5, iv p6, .val (.long p1), .second, .val (.long v1), .second, .val (.long v2), .second, .val (.long v3), .second, iv (4 : Int32), rv b1, iv (1 : Int32)] [(.int (1 : Int32))])
                refine own_endW (v := (some (.int (nar .boolean (1 : Int32))))) X32 hlk hS2 (by rw [eq32]; exact Ks28) (fun h => by rw [Bd.returns] at h; cases h) (by decide) (by decide) ?_ (fun fs hr => retN X32 hx (t := .boolean) Bd.returns (by simp) (hb hby at_240) hr)
                show Q0 Z p1 p2 p3 p4 p5 p6 h0 n0 (some (.int (nar .boolean (1 : Int32)))) T32.heap _
                rw [eq32]
                exact ⟨rfl, N32⟩
              · obtain ⟨cq33, kq33, q33a, q33b, q33c⟩ := isOf hZ rfl f27_0
                obtain ⟨_, _, ⟨T33, L33, k33, n33⟩, -, X33, ⟨Lc33, hQ33, l33, y33, z33⟩, st33⟩ := X27.virtualBack hx (y := (⟨"com/example/graphbind/graphbind/RunningLongs", "add", "(J)V"⟩ : MethodName)) (z := (⟨"com/example/graphbind/graphbind/RunningLongs", "add", "(J)V"⟩ : MethodName)) hown (mvT hZ (hw _ (List.mem_of_getElem? (i := 22) rfl))) (mvT hZ (hw _ (List.mem_of_getElem? (i := 23) rfl))) (notFace_of_selects (args := #[]) (mvT hZ (hw _ (List.mem_of_getElem? (i := 25) rfl)))) (mvT hZ (hw _ (List.mem_of_getElem? (i := 25) rfl))) (mvT hZ (hw _ (List.mem_of_getElem? (i := 24) rfl))) (by decide) (backOf (W := 0) (rm3_3n l Z a0 hw [] (b1) (v3) ((p6 &&& (31 : Int32))) (p1) T27.heap n0 Zs27 f27_0 gg1 u27_0 u27_1 u27_2 u27_3 h_eq3 (own_31 p6)) hZ (hw _ (List.mem_of_getElem? (i := 26) rfl)) (hw _ (List.mem_of_getElem? (i := 3) rfl)) (by decide) (by decide)) q33a q33c (g := (mkF m 126 #[.val (.long p1), .second, .val (.long p2), .second, .val (.long p3), .second, .val (.long p4), .second, iv p5, iv p6, .val (.long p1), .second, .val (.long v1), .second, .val (.long v2), .second, .val (.long v3), .second, iv (4 : Int32), rv b1, .unset] [(.long v3), (.ref b1)])) rfl (by rw [hml]; rfl) (Steps.refl _) (argsL := [(.long v3)]) (rest := []) (lenOf pd_2 rfl) rfl (by show 2 * 0 + _ ≤ _; exact Nat.le_of_eq rfl) (hb hby at_126) (fun _ _ => ⟨rfl, rfl, (by decide : 3 + 1 ≤ _), (by decide : 29 + 31 ≤ _)⟩)
                dsimp only [Pt.U, Pt.locs, Pt.cells, Pt.slots] at X33 l33 y33 z33 st33 hQ33
                subst l33 y33 z33
                obtain ⟨x33_ar, x33_z9, x33_kc, rfl, Nq33, Kq33, u33_0, u33_1, u33_2, u33_3, u33_4, u33_5, u33_6⟩ := hQ33
                have N33 := Fr.app N27 Nq33
                have f33_0 := f27_0.keep Kq33
                have Ks33 := Nat.le_trans Ks27 Kq33.1
                have Zs33 : n0 ≤ T33.heap.size := Nat.le_trans Zs27 Kq33.1
                have ne33_b1 : b1 ≠ x33_ar := Nat.ne_of_lt (Nat.lt_of_lt_of_le f27_0.lt u33_4)
                have gg33_ar : n0 ≤ x33_ar := Nat.le_trans Zs27 u33_4
                refine own_stW (fun _ kk_ => st33.trans kk_) ?_
                show own_GoesW p e below s (Q0 Z p1 p2 p3 p4 p5 p6 h0 n0) 16 1216 T33 (mkF m 129 #[.val (.long p1), .second, .val (.long p2), .second, .val (.long p3), .second, .val (.long p4), .second, iv p5, iv p6, .val (.long p1), .second, .val (.long v1), .second, .val (.long v2), .second, .val (.long v3), .second, iv (4 : Int32), rv b1, .unset] [])
                refine own_stW (fun _ kk_ => XS.aload X33.here hx rfl (hb hby at_129) rfl rfl (XS.iconst X33.here hx rfl (hb hby at_131) kk_)) ?_
                show own_GoesW p e below s (Q0 Z p1 p2 p3 p4 p5 p6 h0 n0) 16 1216 T33 (mkF m 132 #[.val (.long p1), .second, .val (.long p2), .second, .val (.long p3), .second, .val (.long p4), .second, iv p5, iv p6, .val (.long p1), .second, .val (.long v1), .second, .val (.long v2), .second, .val (.long v3), .second, iv (4 : Int32), rv b1, .unset] [(.int (0 : Int32)), (.ref b1)])
                obtain ⟨cq34, kq34, q34a, q34b, q34c⟩ := isOf hZ rfl f33_0
                obtain ⟨_, _, ⟨T34, L34, k34, n34⟩, -, X34, ⟨Lc34, hQ34, l34, y34, z34⟩, st34⟩ := X33.virtualBack hx (y := (⟨"com/example/graphbind/graphbind/RunningLongs", "get", "(I)J"⟩ : MethodName)) (z := (⟨"com/example/graphbind/graphbind/RunningLongs", "get", "(I)J"⟩ : MethodName)) hown (mvT hZ (hw _ (List.mem_of_getElem? (i := 33) rfl))) (mvT hZ (hw _ (List.mem_of_getElem? (i := 34) rfl))) (notFace_of_selects (args := #[]) (mvT hZ (hw _ (List.mem_of_getElem? (i := 36) rfl)))) (mvT hZ (hw _ (List.mem_of_getElem? (i := 36) rfl))) (mvT hZ (hw _ (List.mem_of_getElem? (i := 35) rfl))) (by decide) (backOf (W := 0) (rm4_0a l Z a0 hw [] (b1) (x33_ar) (x33_z9) (x33_kc) ((p1 + ((0 : Int32).toInt64))) ((p1 + ((1 : Int32).toInt64))) ((p1 + ((2 : Int32).toInt64))) (v3) T33.heap n0 Zs33 u33_2 u33_6 u33_5) hZ (hw _ (List.mem_of_getElem? (i := 37) rfl)) (hw _ (List.mem_of_getElem? (i := 3) rfl)) (by decide) (by decide)) q34a q34c (g := (mkF m 132 #[.val (.long p1), .second, .val (.long p2), .second, .val (.long p3), .second, .val (.long p4), .second, iv p5, iv p6, .val (.long p1), .second, .val (.long v1), .second, .val (.long v2), .second, .val (.long v3), .second, iv (4 : Int32), rv b1, .unset] [(.int (0 : Int32)), (.ref b1)])) rfl (by rw [hml]; rfl) (Steps.refl _) (argsL := [(.int (0 : Int32))]) (rest := []) (lenOf pd_3 rfl) rfl (by show 2 * 0 + _ ≤ _; exact Nat.le_of_eq rfl) (hb hby at_132) (fun _ _ => ⟨rfl, rfl, (by decide : 4 + 0 ≤ _), (by decide : 60 + 0 ≤ _)⟩)
                dsimp only [Pt.U, Pt.locs, Pt.cells, Pt.slots] at X34 l34 y34 z34 st34 hQ34
                subst l34 y34 z34
                obtain ⟨rfl, Nq34, eq34⟩ := hQ34
                have N34 := Fr.app N33 Nq34
                refine own_stW (fun _ kk_ => st34.trans kk_) ?_
                show own_GoesW p e below s (Q0 Z p1 p2 p3 p4 p5 p6 h0 n0) 16 1216 T34 (mkF m 135 #[.val (.long p1), .second, .val (.long p2), .second, .val (.long p3), .second, .val (.long p4), .second, iv p5, iv p6, .val (.long p1), .second, .val (.long v1), .second, .val (.long v2), .second, .val (.long v3), .second, iv (4 : Int32), rv b1, .unset] [(.long (p1 + ((0 : Int32).toInt64)))])
                refine own_stW (fun _ kk_ => XS.lload X34.here hx rfl (hb hby at_135) rfl (XT.lcmp X34.here hx rfl (hb hby at_137) rfl (XS.ifNo X34.here hx rfl (hb hby at_138) rfl (XT.ll_ne_f (own_z0 p1)) (XS.iconst X34.here hx rfl (hb hby at_141) (XS.goto X34.here hx rfl (pc0 := 142) (pc' := 146) rfl (hb hby at_142) (by decide) (by decide) (XS.istore X34.here hx rfl (hb hby at_146) rfl (l' := #[.val (.long p1), .second, .val (.long p2), .second, .val (.long p3), .second, .val (.long p4), .second, iv p5, iv p6, .val (.long p1), .second, .val (.long v1), .second, .val (.long v2), .second, .val (.long v3), .second, iv (4 : Int32), rv b1, iv (1 : Int32)]) rfl (XS.iload X34.here hx rfl (hb hby at_148) rfl (XS.iconst X34.here hx rfl (hb hby at_150) kk_)))))))) ?_
                show own_GoesW p e below s (Q0 Z p1 p2 p3 p4 p5 p6 h0 n0) 16 1216 T34 (mkF m 151 #[.val (.long p1), .second, .val (.long p2), .second, .val (.long p3), .second, .val (.long p4), .second, iv p5, iv p6, .val (.long p1), .second, .val (.long v1), .second, .val (.long v2), .second, .val (.long v3), .second, iv (4 : Int32), rv b1, iv (1 : Int32)] [(.int (1 : Int32)), (.int (4 : Int32))])
                refine own_stW (fun _ kk_ => XS.icmpNo X34.here hx rfl (hb hby at_151) rfl (XT.ii_le_f (by decide)) (XS.iload X34.here hx rfl (hb hby at_154) rfl (XS.ifNo X34.here hx rfl (hb hby at_156) rfl (XT.i0_eq_f (by decide)) (XS.aload X34.here hx rfl (hb hby at_159) rfl rfl (XS.iconst X34.here hx rfl (hb hby at_161) kk_))))) ?_
                show own_GoesW p e below s (Q0 Z p1 p2 p3 p4 p5 p6 h0 n0) 16 1216 T34 (mkF m 162 #[.val (.long p1), .second, .val (.long p2), .second, .val (.long p3), .second, .val (.long p4), .second, iv p5, iv p6, .val (.long p1), .second, .val (.long v1), .second, .val (.long v2), .second, .val (.long v3), .second, iv (4 : Int32), rv b1, iv (1 : Int32)] [(.int (1 : Int32)), (.ref b1)])
                obtain ⟨cq35, kq35, q35a, q35b, q35c⟩ := isOf hZ eq34 f33_0
                obtain ⟨_, _, ⟨T35, L35, k35, n35⟩, -, X35, ⟨Lc35, hQ35, l35, y35, z35⟩, st35⟩ := X34.virtualBack hx (y := (⟨"com/example/graphbind/graphbind/RunningLongs", "get", "(I)J"⟩ : MethodName)) (z := (⟨"com/example/graphbind/graphbind/RunningLongs", "get", "(I)J"⟩ : MethodName)) hown (mvT hZ (hw _ (List.mem_of_getElem? (i := 33) rfl))) (mvT hZ (hw _ (List.mem_of_getElem? (i := 34) rfl))) (notFace_of_selects (args := #[]) (mvT hZ (hw _ (List.mem_of_getElem? (i := 36) rfl)))) (mvT hZ (hw _ (List.mem_of_getElem? (i := 36) rfl))) (mvT hZ (hw _ (List.mem_of_getElem? (i := 35) rfl))) (by decide) (backOf (W := 0) (rm4_1a l Z a0 hw [] (b1) (x33_ar) (x33_z9) (x33_kc) ((p1 + ((0 : Int32).toInt64))) ((p1 + ((1 : Int32).toInt64))) ((p1 + ((2 : Int32).toInt64))) (v3) T33.heap n0 Zs33 u33_2 u33_6 u33_5) hZ (hw _ (List.mem_of_getElem? (i := 37) rfl)) (hw _ (List.mem_of_getElem? (i := 3) rfl)) (by decide) (by decide)) q35a q35c (g := (mkF m 162 #[.val (.long p1), .second, .val (.long p2), .second, .val (.long p3), .second, .val (.long p4), .second, iv p5, iv p6, .val (.long p1), .second, .val (.long v1), .second, .val (.long v2), .second, .val (.long v3), .second, iv (4 : Int32), rv b1, iv (1 : Int32)] [(.int (1 : Int32)), (.ref b1)])) rfl (by rw [hml]; rfl) (Steps.refl _) (argsL := [(.int (1 : Int32))]) (rest := []) (lenOf pd_3 rfl) rfl (by show 2 * 0 + _ ≤ _; exact Nat.le_of_eq rfl) (hb hby at_162) (fun _ _ => ⟨rfl, eq34, (by decide : 4 + 0 ≤ _), (by decide : 60 + 0 ≤ _)⟩)
                dsimp only [Pt.U, Pt.locs, Pt.cells, Pt.slots] at X35 l35 y35 z35 st35 hQ35
                subst l35 y35 z35
                obtain ⟨rfl, Nq35, eq35⟩ := hQ35
                have N35 := Fr.app N34 Nq35
                refine own_stW (fun _ kk_ => st35.trans kk_) ?_
                show own_GoesW p e below s (Q0 Z p1 p2 p3 p4 p5 p6 h0 n0) 16 1216 T35 (mkF m 165 #[.val (.long p1), .second, .val (.long p2), .second, .val (.long p3), .second, .val (.long p4), .second, iv p5, iv p6, .val (.long p1), .second, .val (.long v1), .second, .val (.long v2), .second, .val (.long v3), .second, iv (4 : Int32), rv b1, iv (1 : Int32)] [(.long (p1 + ((1 : Int32).toInt64)))])
                refine own_stW (fun _ kk_ => XS.lload X35.here hx rfl (hb hby at_165) rfl (XT.lcmp X35.here hx rfl (hb hby at_167) rfl (XS.ifNo X35.here hx rfl (hb hby at_168) rfl (XT.ll_ne_f h_eq1.symm) (XS.iconst X35.here hx rfl (hb hby at_171) (XS.goto X35.here hx rfl (pc0 := 172) (pc' := 176) rfl (hb hby at_172) (by decide) (by decide) (XS.istore X35.here hx rfl (hb hby at_176) rfl (l' := #[.val (.long p1), .second, .val (.long p2), .second, .val (.long p3), .second, .val (.long p4), .second, iv p5, iv p6, .val (.long p1), .second, .val (.long v1), .second, .val (.long v2), .second, .val (.long v3), .second, iv (4 : Int32), rv b1, iv (1 : Int32)]) rfl (XS.iload X35.here hx rfl (hb hby at_178) rfl (XS.iconst X35.here hx rfl (hb hby at_180) kk_)))))))) ?_
                show own_GoesW p e below s (Q0 Z p1 p2 p3 p4 p5 p6 h0 n0) 16 1216 T35 (mkF m 181 #[.val (.long p1), .second, .val (.long p2), .second, .val (.long p3), .second, .val (.long p4), .second, iv p5, iv p6, .val (.long p1), .second, .val (.long v1), .second, .val (.long v2), .second, .val (.long v3), .second, iv (4 : Int32), rv b1, iv (1 : Int32)] [(.int (2 : Int32)), (.int (4 : Int32))])
                refine own_stW (fun _ kk_ => XS.icmpNo X35.here hx rfl (hb hby at_181) rfl (XT.ii_le_f (by decide)) (XS.iload X35.here hx rfl (hb hby at_184) rfl (XS.ifNo X35.here hx rfl (hb hby at_186) rfl (XT.i0_eq_f (by decide)) (XS.aload X35.here hx rfl (hb hby at_189) rfl rfl (XS.iconst X35.here hx rfl (hb hby at_191) kk_))))) ?_
                show own_GoesW p e below s (Q0 Z p1 p2 p3 p4 p5 p6 h0 n0) 16 1216 T35 (mkF m 192 #[.val (.long p1), .second, .val (.long p2), .second, .val (.long p3), .second, .val (.long p4), .second, iv p5, iv p6, .val (.long p1), .second, .val (.long v1), .second, .val (.long v2), .second, .val (.long v3), .second, iv (4 : Int32), rv b1, iv (1 : Int32)] [(.int (2 : Int32)), (.ref b1)])
                obtain ⟨cq36, kq36, q36a, q36b, q36c⟩ := isOf hZ eq35 f33_0
                obtain ⟨_, _, ⟨T36, L36, k36, n36⟩, -, X36, ⟨Lc36, hQ36, l36, y36, z36⟩, st36⟩ := X35.virtualBack hx (y := (⟨"com/example/graphbind/graphbind/RunningLongs", "get", "(I)J"⟩ : MethodName)) (z := (⟨"com/example/graphbind/graphbind/RunningLongs", "get", "(I)J"⟩ : MethodName)) hown (mvT hZ (hw _ (List.mem_of_getElem? (i := 33) rfl))) (mvT hZ (hw _ (List.mem_of_getElem? (i := 34) rfl))) (notFace_of_selects (args := #[]) (mvT hZ (hw _ (List.mem_of_getElem? (i := 36) rfl)))) (mvT hZ (hw _ (List.mem_of_getElem? (i := 36) rfl))) (mvT hZ (hw _ (List.mem_of_getElem? (i := 35) rfl))) (by decide) (backOf (W := 0) (rm4_2a l Z a0 hw [] (b1) (x33_ar) (x33_z9) (x33_kc) ((p1 + ((0 : Int32).toInt64))) ((p1 + ((1 : Int32).toInt64))) ((p1 + ((2 : Int32).toInt64))) (v3) T33.heap n0 Zs33 u33_2 u33_6 u33_5) hZ (hw _ (List.mem_of_getElem? (i := 37) rfl)) (hw _ (List.mem_of_getElem? (i := 3) rfl)) (by decide) (by decide)) q36a q36c (g := (mkF m 192 #[.val (.long p1), .second, .val (.long p2), .second, .val (.long p3), .second, .val (.long p4), .second, iv p5, iv p6, .val (.long p1), .second, .val (.long v1), .second, .val (.long v2), .second, .val (.long v3), .second, iv (4 : Int32), rv b1, iv (1 : Int32)] [(.int (2 : Int32)), (.ref b1)])) rfl (by rw [hml]; rfl) (Steps.refl _) (argsL := [(.int (2 : Int32))]) (rest := []) (lenOf pd_3 rfl) rfl (by show 2 * 0 + _ ≤ _; exact Nat.le_of_eq rfl) (hb hby at_192) (fun _ _ => ⟨rfl, eq35, (by decide : 4 + 0 ≤ _), (by decide : 60 + 0 ≤ _)⟩)
                dsimp only [Pt.U, Pt.locs, Pt.cells, Pt.slots] at X36 l36 y36 z36 st36 hQ36
                subst l36 y36 z36
                obtain ⟨rfl, Nq36, eq36⟩ := hQ36
                have N36 := Fr.app N35 Nq36
                refine own_stW (fun _ kk_ => st36.trans kk_) ?_
                show own_GoesW p e below s (Q0 Z p1 p2 p3 p4 p5 p6 h0 n0) 16 1216 T36 (mkF m 195 #[.val (.long p1), .second, .val (.long p2), .second, .val (.long p3), .second, .val (.long p4), .second, iv p5, iv p6, .val (.long p1), .second, .val (.long v1), .second, .val (.long v2), .second, .val (.long v3), .second, iv (4 : Int32), rv b1, iv (1 : Int32)] [(.long (p1 + ((2 : Int32).toInt64)))])
                refine own_stW (fun _ kk_ => XS.lload X36.here hx rfl (hb hby at_195) rfl (XT.lcmp X36.here hx rfl (hb hby at_197) rfl (XS.ifNo X36.here hx rfl (hb hby at_198) rfl (XT.ll_ne_f h_eq2.symm) (XS.iconst X36.here hx rfl (hb hby at_201) (XS.goto X36.here hx rfl (pc0 := 202) (pc' := 206) rfl (hb hby at_202) (by decide) (by decide) (XS.istore X36.here hx rfl (hb hby at_206) rfl (l' := #[.val (.long p1), .second, .val (.long p2), .second, .val (.long p3), .second, .val (.long p4), .second, iv p5, iv p6, .val (.long p1), .second, .val (.long v1), .second, .val (.long v2), .second, .val (.long v3), .second, iv (4 : Int32), rv b1, iv (1 : Int32)]) rfl (XS.iload X36.here hx rfl (hb hby at_208) rfl (XS.iconst X36.here hx rfl (hb hby at_210) kk_)))))))) ?_
                show own_GoesW p e below s (Q0 Z p1 p2 p3 p4 p5 p6 h0 n0) 16 1216 T36 (mkF m 211 #[.val (.long p1), .second, .val (.long p2), .second, .val (.long p3), .second, .val (.long p4), .second, iv p5, iv p6, .val (.long p1), .second, .val (.long v1), .second, .val (.long v2), .second, .val (.long v3), .second, iv (4 : Int32), rv b1, iv (1 : Int32)] [(.int (3 : Int32)), (.int (4 : Int32))])
                refine own_stW (fun _ kk_ => XS.icmpNo X36.here hx rfl (hb hby at_211) rfl (XT.ii_le_f (by decide)) (XS.iload X36.here hx rfl (hb hby at_214) rfl (XS.ifNo X36.here hx rfl (hb hby at_216) rfl (XT.i0_eq_f (by decide)) (XS.aload X36.here hx rfl (hb hby at_219) rfl rfl (XS.iconst X36.here hx rfl (hb hby at_221) kk_))))) ?_
                show own_GoesW p e below s (Q0 Z p1 p2 p3 p4 p5 p6 h0 n0) 16 1216 T36 (mkF m 222 #[.val (.long p1), .second, .val (.long p2), .second, .val (.long p3), .second, .val (.long p4), .second, iv p5, iv p6, .val (.long p1), .second, .val (.long v1), .second, .val (.long v2), .second, .val (.long v3), .second, iv (4 : Int32), rv b1, iv (1 : Int32)] [(.int (3 : Int32)), (.ref b1)])
                obtain ⟨cq37, kq37, q37a, q37b, q37c⟩ := isOf hZ eq36 f33_0
                obtain ⟨_, _, ⟨T37, L37, k37, n37⟩, -, X37, ⟨Lc37, hQ37, l37, y37, z37⟩, st37⟩ := X36.virtualBack hx (y := (⟨"com/example/graphbind/graphbind/RunningLongs", "get", "(I)J"⟩ : MethodName)) (z := (⟨"com/example/graphbind/graphbind/RunningLongs", "get", "(I)J"⟩ : MethodName)) hown (mvT hZ (hw _ (List.mem_of_getElem? (i := 33) rfl))) (mvT hZ (hw _ (List.mem_of_getElem? (i := 34) rfl))) (notFace_of_selects (args := #[]) (mvT hZ (hw _ (List.mem_of_getElem? (i := 36) rfl)))) (mvT hZ (hw _ (List.mem_of_getElem? (i := 36) rfl))) (mvT hZ (hw _ (List.mem_of_getElem? (i := 35) rfl))) (by decide) (backOf (W := 0) (rm4_3a l Z a0 hw [] (b1) (x33_ar) (x33_z9) (x33_kc) ((p1 + ((0 : Int32).toInt64))) ((p1 + ((1 : Int32).toInt64))) ((p1 + ((2 : Int32).toInt64))) (v3) T33.heap n0 Zs33 u33_2 u33_6 u33_5) hZ (hw _ (List.mem_of_getElem? (i := 37) rfl)) (hw _ (List.mem_of_getElem? (i := 3) rfl)) (by decide) (by decide)) q37a q37c (g := (mkF m 222 #[.val (.long p1), .second, .val (.long p2), .second, .val (.long p3), .second, .val (.long p4), .second, iv p5, iv p6, .val (.long p1), .second, .val (.long v1), .second, .val (.long v2), .second, .val (.long v3), .second, iv (4 : Int32), rv b1, iv (1 : Int32)] [(.int (3 : Int32)), (.ref b1)])) rfl (by rw [hml]; rfl) (Steps.refl _) (argsL := [(.int (3 : Int32))]) (rest := []) (lenOf pd_3 rfl) rfl (by show 2 * 0 + _ ≤ _; exact Nat.le_of_eq rfl) (hb hby at_222) (fun _ _ => ⟨rfl, eq36, (by decide : 4 + 0 ≤ _), (by decide : 60 + 0 ≤ _)⟩)
                dsimp only [Pt.U, Pt.locs, Pt.cells, Pt.slots] at X37 l37 y37 z37 st37 hQ37
                subst l37 y37 z37
                obtain ⟨rfl, Nq37, eq37⟩ := hQ37
                have N37 := Fr.app N36 Nq37
                refine own_stW (fun _ kk_ => st37.trans kk_) ?_
                show own_GoesW p e below s (Q0 Z p1 p2 p3 p4 p5 p6 h0 n0) 16 1216 T37 (mkF m 225 #[.val (.long p1), .second, .val (.long p2), .second, .val (.long p3), .second, .val (.long p4), .second, iv p5, iv p6, .val (.long p1), .second, .val (.long v1), .second, .val (.long v2), .second, .val (.long v3), .second, iv (4 : Int32), rv b1, iv (1 : Int32)] [(.long v3)])
                refine own_stW (fun _ kk_ => XS.lload X37.here hx rfl (hb hby at_225) rfl (XT.lcmp X37.here hx rfl (hb hby at_227) rfl (XS.ifNo X37.here hx rfl (hb hby at_228) rfl (XT.ll_ne_f rfl) (XS.iconst X37.here hx rfl (hb hby at_231) (XS.goto X37.here hx rfl (pc0 := 232) (pc' := 236) rfl (hb hby at_232) (by decide) (by decide) (XS.istore X37.here hx rfl (hb hby at_236) rfl (l' := #[.val (.long p1), .second, .val (.long p2), .second, .val (.long p3), .second, .val (.long p4), .second, iv p5, iv p6, .val (.long p1), .second, .val (.long v1), .second, .val (.long v2), .second, .val (.long v3), .second, iv (4 : Int32), rv b1, iv (1 : Int32)]) rfl (XS.iload X37.here hx rfl (hb hby at_238) rfl kk_))))))) ?_
                show own_GoesW p e below s (Q0 Z p1 p2 p3 p4 p5 p6 h0 n0) 16 1216 T37 (mkF m 240 #[.val (.long p1), .second, .val (.long p2), .second, .val (.long p3), .second, .val (.long p4), .second, iv p5, iv p6, .val (.long p1), .second, .val (.long v1), .second, .val (.long v2), .second, .val (.long v3), .second, iv (4 : Int32), rv b1, iv (1 : Int32)] [(.int (1 : Int32))])
                refine own_endW (v := (some (.int (nar .boolean (1 : Int32))))) X37 hlk hS2 (by rw [eq37]; exact Ks33) (fun h => by rw [Bd.returns] at h; cases h) (by decide) (by decide) ?_ (fun fs hr => retN X37 hx (t := .boolean) Bd.returns (by simp) (hb hby at_240) hr)
                show Q0 Z p1 p2 p3 p4 p5 p6 h0 n0 (some (.int (nar .boolean (1 : Int32)))) T37.heap _
                rw [eq37]
                exact ⟨rfl, N37⟩
            · obtain ⟨cq38, kq38, q38a, q38b, q38c⟩ := isOf hZ rfl f26_0
              obtain ⟨_, _, ⟨T38, L38, k38, n38⟩, -, X38, ⟨Lc38, hQ38, l38, y38, z38⟩, st38⟩ := X26.virtualBack hx (y := (⟨"com/example/graphbind/graphbind/RunningLongs", "add", "(J)V"⟩ : MethodName)) (z := (⟨"com/example/graphbind/graphbind/RunningLongs", "add", "(J)V"⟩ : MethodName)) hown (mvT hZ (hw _ (List.mem_of_getElem? (i := 22) rfl))) (mvT hZ (hw _ (List.mem_of_getElem? (i := 23) rfl))) (notFace_of_selects (args := #[]) (mvT hZ (hw _ (List.mem_of_getElem? (i := 25) rfl)))) (mvT hZ (hw _ (List.mem_of_getElem? (i := 25) rfl))) (mvT hZ (hw _ (List.mem_of_getElem? (i := 24) rfl))) (by decide) (backOf (W := 0) (rm3_2n l Z a0 hw [] (b1) (v2) ((p6 &&& (31 : Int32))) (p1) T26.heap n0 Zs26 f26_0 gg1 u26_0 u26_1 u26_2 u26_3 h_eq2 (own_31 p6)) hZ (hw _ (List.mem_of_getElem? (i := 26) rfl)) (hw _ (List.mem_of_getElem? (i := 3) rfl)) (by decide) (by decide)) q38a q38c (g := (mkF m 113 #[.val (.long p1), .second, .val (.long p2), .second, .val (.long p3), .second, .val (.long p4), .second, iv p5, iv p6, .val (.long p1), .second, .val (.long v1), .second, .val (.long v2), .second, .val (.long v3), .second, iv (4 : Int32), rv b1, .unset] [(.long v2), (.ref b1)])) rfl (by rw [hml]; rfl) (Steps.refl _) (argsL := [(.long v2)]) (rest := []) (lenOf pd_2 rfl) rfl (by show 2 * 0 + _ ≤ _; exact Nat.le_of_eq rfl) (hb hby at_113) (fun _ _ => ⟨rfl, rfl, (by decide : 3 + 1 ≤ _), (by decide : 29 + 31 ≤ _)⟩)
              dsimp only [Pt.U, Pt.locs, Pt.cells, Pt.slots] at X38 l38 y38 z38 st38 hQ38
              subst l38 y38 z38
              obtain ⟨x38_ar, x38_z9, x38_kc, rfl, Nq38, Kq38, u38_0, u38_1, u38_2, u38_3, u38_4, u38_5, u38_6⟩ := hQ38
              have N38 := Fr.app N26 Nq38
              have f38_0 := f26_0.keep Kq38
              have Ks38 := Nat.le_trans Ks26 Kq38.1
              have Zs38 : n0 ≤ T38.heap.size := Nat.le_trans Zs26 Kq38.1
              have ne38_b1 : b1 ≠ x38_ar := Nat.ne_of_lt (Nat.lt_of_lt_of_le f26_0.lt u38_4)
              have gg38_ar : n0 ≤ x38_ar := Nat.le_trans Zs26 u38_4
              refine own_stW (fun _ kk_ => st38.trans kk_) ?_
              show own_GoesW p e below s (Q0 Z p1 p2 p3 p4 p5 p6 h0 n0) 16 1216 T38 (mkF m 116 #[.val (.long p1), .second, .val (.long p2), .second, .val (.long p3), .second, .val (.long p4), .second, iv p5, iv p6, .val (.long p1), .second, .val (.long v1), .second, .val (.long v2), .second, .val (.long v3), .second, iv (4 : Int32), rv b1, .unset] [])
              refine own_stW (fun _ kk_ => XS.iload X38.here hx rfl (hb hby at_116) rfl (XS.iconst X38.here hx rfl (hb hby at_118) (XS.icmpNo X38.here hx rfl (hb hby at_119) rfl (XT.ii_le_f (by decide)) (XS.aload X38.here hx rfl (hb hby at_122) rfl rfl (XS.lload X38.here hx rfl (hb hby at_124) rfl kk_))))) ?_
              show own_GoesW p e below s (Q0 Z p1 p2 p3 p4 p5 p6 h0 n0) 16 1216 T38 (mkF m 126 #[.val (.long p1), .second, .val (.long p2), .second, .val (.long p3), .second, .val (.long p4), .second, iv p5, iv p6, .val (.long p1), .second, .val (.long v1), .second, .val (.long v2), .second, .val (.long v3), .second, iv (4 : Int32), rv b1, .unset] [(.long v3), (.ref b1)])
              obtain ⟨cq39, kq39, q39a, q39b, q39c⟩ := isOf hZ rfl f38_0
              obtain ⟨_, _, ⟨T39, L39, k39, n39⟩, -, X39, ⟨Lc39, hQ39, l39, y39, z39⟩, st39⟩ := X38.virtualBack hx (y := (⟨"com/example/graphbind/graphbind/RunningLongs", "add", "(J)V"⟩ : MethodName)) (z := (⟨"com/example/graphbind/graphbind/RunningLongs", "add", "(J)V"⟩ : MethodName)) hown (mvT hZ (hw _ (List.mem_of_getElem? (i := 22) rfl))) (mvT hZ (hw _ (List.mem_of_getElem? (i := 23) rfl))) (notFace_of_selects (args := #[]) (mvT hZ (hw _ (List.mem_of_getElem? (i := 25) rfl)))) (mvT hZ (hw _ (List.mem_of_getElem? (i := 25) rfl))) (mvT hZ (hw _ (List.mem_of_getElem? (i := 24) rfl))) (by decide) (backOf (W := 0) (rm3_3a l Z a0 hw [] (b1) (v3) ((p6 &&& (31 : Int32))) (p1) (x38_ar) (x38_z9) (x38_kc) ((p1 + ((0 : Int32).toInt64))) ((p1 + ((1 : Int32).toInt64))) (v2) ((0 : Int64)) T38.heap n0 Zs38 f38_0 gg1 u38_0 u38_1 u38_2 u38_3 gg38_ar (Ne.symm ne38_b1) u38_6 u38_5) hZ (hw _ (List.mem_of_getElem? (i := 26) rfl)) (hw _ (List.mem_of_getElem? (i := 3) rfl)) (by decide) (by decide)) q39a q39c (g := (mkF m 126 #[.val (.long p1), .second, .val (.long p2), .second, .val (.long p3), .second, .val (.long p4), .second, iv p5, iv p6, .val (.long p1), .second, .val (.long v1), .second, .val (.long v2), .second, .val (.long v3), .second, iv (4 : Int32), rv b1, .unset] [(.long v3), (.ref b1)])) rfl (by rw [hml]; rfl) (Steps.refl _) (argsL := [(.long v3)]) (rest := []) (lenOf pd_2 rfl) rfl (by show 2 * 0 + _ ≤ _; exact Nat.le_of_eq rfl) (hb hby at_126) (fun _ _ => ⟨rfl, rfl, (by decide : 4 + 0 ≤ _), (by decide : 60 + 0 ≤ _)⟩)
              dsimp only [Pt.U, Pt.locs, Pt.cells, Pt.slots] at X39 l39 y39 z39 st39 hQ39
              subst l39 y39 z39
              obtain ⟨rfl, Nq39, Kq39, u39_0, u39_1, u39_2, u39_3, u39_4⟩ := hQ39
              have N39 := Fr.app N38 Nq39
              have f39_0 := f38_0.keep Kq39
              have Ks39 := Nat.le_trans Ks38 Kq39.1
              have Zs39 : n0 ≤ T39.heap.size := Nat.le_trans Zs38 Kq39.1
              refine own_stW (fun _ kk_ => st39.trans kk_) ?_
              show own_GoesW p e below s (Q0 Z p1 p2 p3 p4 p5 p6 h0 n0) 16 1216 T39 (mkF m 129 #[.val (.long p1), .second, .val (.long p2), .second, .val (.long p3), .second, .val (.long p4), .second, iv p5, iv p6, .val (.long p1), .second, .val (.long v1), .second, .val (.long v2), .second, .val (.long v3), .second, iv (4 : Int32), rv b1, .unset] [])
              refine own_stW (fun _ kk_ => XS.aload X39.here hx rfl (hb hby at_129) rfl rfl (XS.iconst X39.here hx rfl (hb hby at_131) kk_)) ?_
              show own_GoesW p e below s (Q0 Z p1 p2 p3 p4 p5 p6 h0 n0) 16 1216 T39 (mkF m 132 #[.val (.long p1), .second, .val (.long p2), .second, .val (.long p3), .second, .val (.long p4), .second, iv p5, iv p6, .val (.long p1), .second, .val (.long v1), .second, .val (.long v2), .second, .val (.long v3), .second, iv (4 : Int32), rv b1, .unset] [(.int (0 : Int32)), (.ref b1)])
              obtain ⟨cq40, kq40, q40a, q40b, q40c⟩ := isOf hZ rfl f39_0
              obtain ⟨_, _, ⟨T40, L40, k40, n40⟩, -, X40, ⟨Lc40, hQ40, l40, y40, z40⟩, st40⟩ := X39.virtualBack hx (y := (⟨"com/example/graphbind/graphbind/RunningLongs", "get", "(I)J"⟩ : MethodName)) (z := (⟨"com/example/graphbind/graphbind/RunningLongs", "get", "(I)J"⟩ : MethodName)) hown (mvT hZ (hw _ (List.mem_of_getElem? (i := 33) rfl))) (mvT hZ (hw _ (List.mem_of_getElem? (i := 34) rfl))) (notFace_of_selects (args := #[]) (mvT hZ (hw _ (List.mem_of_getElem? (i := 36) rfl)))) (mvT hZ (hw _ (List.mem_of_getElem? (i := 36) rfl))) (mvT hZ (hw _ (List.mem_of_getElem? (i := 35) rfl))) (by decide) (backOf (W := 0) (rm4_0a l Z a0 hw [] (b1) (x38_ar) (x38_z9) (x38_kc) ((p1 + ((0 : Int32).toInt64))) ((p1 + ((1 : Int32).toInt64))) (v2) (v3) T39.heap n0 Zs39 u39_2 u39_4 u38_5) hZ (hw _ (List.mem_of_getElem? (i := 37) rfl)) (hw _ (List.mem_of_getElem? (i := 3) rfl)) (by decide) (by decide)) q40a q40c (g := (mkF m 132 #[.val (.long p1), .second, .val (.long p2), .second, .val (.long p3), .second, .val (.long p4), .second, iv p5, iv p6, .val (.long p1), .second, .val (.long v1), .second, .val (.long v2), .second, .val (.long v3), .second, iv (4 : Int32), rv b1, .unset] [(.int (0 : Int32)), (.ref b1)])) rfl (by rw [hml]; rfl) (Steps.refl _) (argsL := [(.int (0 : Int32))]) (rest := []) (lenOf pd_3 rfl) rfl (by show 2 * 0 + _ ≤ _; exact Nat.le_of_eq rfl) (hb hby at_132) (fun _ _ => ⟨rfl, rfl, (by decide : 4 + 0 ≤ _), (by decide : 60 + 0 ≤ _)⟩)
              dsimp only [Pt.U, Pt.locs, Pt.cells, Pt.slots] at X40 l40 y40 z40 st40 hQ40
              subst l40 y40 z40
              obtain ⟨rfl, Nq40, eq40⟩ := hQ40
              have N40 := Fr.app N39 Nq40
              refine own_stW (fun _ kk_ => st40.trans kk_) ?_
              show own_GoesW p e below s (Q0 Z p1 p2 p3 p4 p5 p6 h0 n0) 16 1216 T40 (mkF m 135 #[.val (.long p1), .second, .val (.long p2), .second, .val (.long p3), .second, .val (.long p4), .second, iv p5, iv p6, .val (.long p1), .second, .val (.long v1), .second, .val (.long v2), .second, .val (.long v3), .second, iv (4 : Int32), rv b1, .unset] [(.long (p1 + ((0 : Int32).toInt64)))])
              refine own_stW (fun _ kk_ => XS.lload X40.here hx rfl (hb hby at_135) rfl (XT.lcmp X40.here hx rfl (hb hby at_137) rfl (XS.ifNo X40.here hx rfl (hb hby at_138) rfl (XT.ll_ne_f (own_z0 p1)) (XS.iconst X40.here hx rfl (hb hby at_141) (XS.goto X40.here hx rfl (pc0 := 142) (pc' := 146) rfl (hb hby at_142) (by decide) (by decide) (XS.istore X40.here hx rfl (hb hby at_146) rfl (l' := #[.val (.long p1), .second, .val (.long p2), .second, .val (.long p3), .second, .val (.long p4), .second, iv p5, iv p6, .val (.long p1), .second, .val (.long v1), .second, .val (.long v2), .second, .val (.long v3), .second, iv (4 : Int32), rv b1, iv (1 : Int32)]) rfl (XS.iload X40.here hx rfl (hb hby at_148) rfl (XS.iconst X40.here hx rfl (hb hby at_150) kk_)))))))) ?_
              show own_GoesW p e below s (Q0 Z p1 p2 p3 p4 p5 p6 h0 n0) 16 1216 T40 (mkF m 151 #[.val (.long p1), .second, .val (.long p2), .second, .val (.long p3), .second, .val (.long p4), .second, iv p5, iv p6, .val (.long p1), .second, .val (.long v1), .second, .val (.long v2), .second, .val (.long v3), .second, iv (4 : Int32), rv b1, iv (1 : Int32)] [(.int (1 : Int32)), (.int (4 : Int32))])
              refine own_stW (fun _ kk_ => XS.icmpNo X40.here hx rfl (hb hby at_151) rfl (XT.ii_le_f (by decide)) (XS.iload X40.here hx rfl (hb hby at_154) rfl (XS.ifNo X40.here hx rfl (hb hby at_156) rfl (XT.i0_eq_f (by decide)) (XS.aload X40.here hx rfl (hb hby at_159) rfl rfl (XS.iconst X40.here hx rfl (hb hby at_161) kk_))))) ?_
              show own_GoesW p e below s (Q0 Z p1 p2 p3 p4 p5 p6 h0 n0) 16 1216 T40 (mkF m 162 #[.val (.long p1), .second, .val (.long p2), .second, .val (.long p3), .second, .val (.long p4), .second, iv p5, iv p6, .val (.long p1), .second, .val (.long v1), .second, .val (.long v2), .second, .val (.long v3), .second, iv (4 : Int32), rv b1, iv (1 : Int32)] [(.int (1 : Int32)), (.ref b1)])
              obtain ⟨cq41, kq41, q41a, q41b, q41c⟩ := isOf hZ eq40 f39_0
              obtain ⟨_, _, ⟨T41, L41, k41, n41⟩, -, X41, ⟨Lc41, hQ41, l41, y41, z41⟩, st41⟩ := X40.virtualBack hx (y := (⟨"com/example/graphbind/graphbind/RunningLongs", "get", "(I)J"⟩ : MethodName)) (z := (⟨"com/example/graphbind/graphbind/RunningLongs", "get", "(I)J"⟩ : MethodName)) hown (mvT hZ (hw _ (List.mem_of_getElem? (i := 33) rfl))) (mvT hZ (hw _ (List.mem_of_getElem? (i := 34) rfl))) (notFace_of_selects (args := #[]) (mvT hZ (hw _ (List.mem_of_getElem? (i := 36) rfl)))) (mvT hZ (hw _ (List.mem_of_getElem? (i := 36) rfl))) (mvT hZ (hw _ (List.mem_of_getElem? (i := 35) rfl))) (by decide) (backOf (W := 0) (rm4_1a l Z a0 hw [] (b1) (x38_ar) (x38_z9) (x38_kc) ((p1 + ((0 : Int32).toInt64))) ((p1 + ((1 : Int32).toInt64))) (v2) (v3) T39.heap n0 Zs39 u39_2 u39_4 u38_5) hZ (hw _ (List.mem_of_getElem? (i := 37) rfl)) (hw _ (List.mem_of_getElem? (i := 3) rfl)) (by decide) (by decide)) q41a q41c (g := (mkF m 162 #[.val (.long p1), .second, .val (.long p2), .second, .val (.long p3), .second, .val (.long p4), .second, iv p5, iv p6, .val (.long p1), .second, .val (.long v1), .second, .val (.long v2), .second, .val (.long v3), .second, iv (4 : Int32), rv b1, iv (1 : Int32)] [(.int (1 : Int32)), (.ref b1)])) rfl (by rw [hml]; rfl) (Steps.refl _) (argsL := [(.int (1 : Int32))]) (rest := []) (lenOf pd_3 rfl) rfl (by show 2 * 0 + _ ≤ _; exact Nat.le_of_eq rfl) (hb hby at_162) (fun _ _ => ⟨rfl, eq40, (by decide : 4 + 0 ≤ _), (by decide : 60 + 0 ≤ _)⟩)
              dsimp only [Pt.U, Pt.locs, Pt.cells, Pt.slots] at X41 l41 y41 z41 st41 hQ41
              subst l41 y41 z41
              obtain ⟨rfl, Nq41, eq41⟩ := hQ41
              have N41 := Fr.app N40 Nq41
              refine own_stW (fun _ kk_ => st41.trans kk_) ?_
              show own_GoesW p e below s (Q0 Z p1 p2 p3 p4 p5 p6 h0 n0) 16 1216 T41 (mkF m 165 #[.val (.long p1), .second, .val (.long p2), .second, .val (.long p3), .second, .val (.long p4), .second, iv p5, iv p6, .val (.long p1), .second, .val (.long v1), .second, .val (.long v2), .second, .val (.long v3), .second, iv (4 : Int32), rv b1, iv (1 : Int32)] [(.long (p1 + ((1 : Int32).toInt64)))])
              refine own_stW (fun _ kk_ => XS.lload X41.here hx rfl (hb hby at_165) rfl (XT.lcmp X41.here hx rfl (hb hby at_167) rfl (XS.ifNo X41.here hx rfl (hb hby at_168) rfl (XT.ll_ne_f h_eq1.symm) (XS.iconst X41.here hx rfl (hb hby at_171) (XS.goto X41.here hx rfl (pc0 := 172) (pc' := 176) rfl (hb hby at_172) (by decide) (by decide) (XS.istore X41.here hx rfl (hb hby at_176) rfl (l' := #[.val (.long p1), .second, .val (.long p2), .second, .val (.long p3), .second, .val (.long p4), .second, iv p5, iv p6, .val (.long p1), .second, .val (.long v1), .second, .val (.long v2), .second, .val (.long v3), .second, iv (4 : Int32), rv b1, iv (1 : Int32)]) rfl (XS.iload X41.here hx rfl (hb hby at_178) rfl (XS.iconst X41.here hx rfl (hb hby at_180) kk_)))))))) ?_
              show own_GoesW p e below s (Q0 Z p1 p2 p3 p4 p5 p6 h0 n0) 16 1216 T41 (mkF m 181 #[.val (.long p1), .second, .val (.long p2), .second, .val (.long p3), .second, .val (.long p4), .second, iv p5, iv p6, .val (.long p1), .second, .val (.long v1), .second, .val (.long v2), .second, .val (.long v3), .second, iv (4 : Int32), rv b1, iv (1 : Int32)] [(.int (2 : Int32)), (.int (4 : Int32))])
              refine own_stW (fun _ kk_ => XS.icmpNo X41.here hx rfl (hb hby at_181) rfl (XT.ii_le_f (by decide)) (XS.iload X41.here hx rfl (hb hby at_184) rfl (XS.ifNo X41.here hx rfl (hb hby at_186) rfl (XT.i0_eq_f (by decide)) (XS.aload X41.here hx rfl (hb hby at_189) rfl rfl (XS.iconst X41.here hx rfl (hb hby at_191) kk_))))) ?_
              show own_GoesW p e below s (Q0 Z p1 p2 p3 p4 p5 p6 h0 n0) 16 1216 T41 (mkF m 192 #[.val (.long p1), .second, .val (.long p2), .second, .val (.long p3), .second, .val (.long p4), .second, iv p5, iv p6, .val (.long p1), .second, .val (.long v1), .second, .val (.long v2), .second, .val (.long v3), .second, iv (4 : Int32), rv b1, iv (1 : Int32)] [(.int (2 : Int32)), (.ref b1)])
              obtain ⟨cq42, kq42, q42a, q42b, q42c⟩ := isOf hZ eq41 f39_0
              obtain ⟨_, _, ⟨T42, L42, k42, n42⟩, -, X42, ⟨Lc42, hQ42, l42, y42, z42⟩, st42⟩ := X41.virtualBack hx (y := (⟨"com/example/graphbind/graphbind/RunningLongs", "get", "(I)J"⟩ : MethodName)) (z := (⟨"com/example/graphbind/graphbind/RunningLongs", "get", "(I)J"⟩ : MethodName)) hown (mvT hZ (hw _ (List.mem_of_getElem? (i := 33) rfl))) (mvT hZ (hw _ (List.mem_of_getElem? (i := 34) rfl))) (notFace_of_selects (args := #[]) (mvT hZ (hw _ (List.mem_of_getElem? (i := 36) rfl)))) (mvT hZ (hw _ (List.mem_of_getElem? (i := 36) rfl))) (mvT hZ (hw _ (List.mem_of_getElem? (i := 35) rfl))) (by decide) (backOf (W := 0) (rm4_2a l Z a0 hw [] (b1) (x38_ar) (x38_z9) (x38_kc) ((p1 + ((0 : Int32).toInt64))) ((p1 + ((1 : Int32).toInt64))) (v2) (v3) T39.heap n0 Zs39 u39_2 u39_4 u38_5) hZ (hw _ (List.mem_of_getElem? (i := 37) rfl)) (hw _ (List.mem_of_getElem? (i := 3) rfl)) (by decide) (by decide)) q42a q42c (g := (mkF m 192 #[.val (.long p1), .second, .val (.long p2), .second, .val (.long p3), .second, .val (.long p4), .second, iv p5, iv p6, .val (.long p1), .second, .val (.long v1), .second, .val (.long v2), .second, .val (.long v3), .second, iv (4 : Int32), rv b1, iv (1 : Int32)] [(.int (2 : Int32)), (.ref b1)])) rfl (by rw [hml]; rfl) (Steps.refl _) (argsL := [(.int (2 : Int32))]) (rest := []) (lenOf pd_3 rfl) rfl (by show 2 * 0 + _ ≤ _; exact Nat.le_of_eq rfl) (hb hby at_192) (fun _ _ => ⟨rfl, eq41, (by decide : 4 + 0 ≤ _), (by decide : 60 + 0 ≤ _)⟩)
              dsimp only [Pt.U, Pt.locs, Pt.cells, Pt.slots] at X42 l42 y42 z42 st42 hQ42
              subst l42 y42 z42
              obtain ⟨rfl, Nq42, eq42⟩ := hQ42
              have N42 := Fr.app N41 Nq42
              refine own_stW (fun _ kk_ => st42.trans kk_) ?_
              show own_GoesW p e below s (Q0 Z p1 p2 p3 p4 p5 p6 h0 n0) 16 1216 T42 (mkF m 195 #[.val (.long p1), .second, .val (.long p2), .second, .val (.long p3), .second, .val (.long p4), .second, iv p5, iv p6, .val (.long p1), .second, .val (.long v1), .second, .val (.long v2), .second, .val (.long v3), .second, iv (4 : Int32), rv b1, iv (1 : Int32)] [(.long v2)])
              refine own_stW (fun _ kk_ => XS.lload X42.here hx rfl (hb hby at_195) rfl (XT.lcmp X42.here hx rfl (hb hby at_197) rfl (XS.ifNo X42.here hx rfl (hb hby at_198) rfl (XT.ll_ne_f rfl) (XS.iconst X42.here hx rfl (hb hby at_201) (XS.goto X42.here hx rfl (pc0 := 202) (pc' := 206) rfl (hb hby at_202) (by decide) (by decide) (XS.istore X42.here hx rfl (hb hby at_206) rfl (l' := #[.val (.long p1), .second, .val (.long p2), .second, .val (.long p3), .second, .val (.long p4), .second, iv p5, iv p6, .val (.long p1), .second, .val (.long v1), .second, .val (.long v2), .second, .val (.long v3), .second, iv (4 : Int32), rv b1, iv (1 : Int32)]) rfl (XS.iload X42.here hx rfl (hb hby at_208) rfl (XS.iconst X42.here hx rfl (hb hby at_210) kk_)))))))) ?_
              show own_GoesW p e below s (Q0 Z p1 p2 p3 p4 p5 p6 h0 n0) 16 1216 T42 (mkF m 211 #[.val (.long p1), .second, .val (.long p2), .second, .val (.long p3), .second, .val (.long p4), .second, iv p5, iv p6, .val (.long p1), .second, .val (.long v1), .second, .val (.long v2), .second, .val (.long v3), .second, iv (4 : Int32), rv b1, iv (1 : Int32)] [(.int (3 : Int32)), (.int (4 : Int32))])
              refine own_stW (fun _ kk_ => XS.icmpNo X42.here hx rfl (hb hby at_211) rfl (XT.ii_le_f (by decide)) (XS.iload X42.here hx rfl (hb hby at_214) rfl (XS.ifNo X42.here hx rfl (hb hby at_216) rfl (XT.i0_eq_f (by decide)) (XS.aload X42.here hx rfl (hb hby at_219) rfl rfl (XS.iconst X42.here hx rfl (hb hby at_221) kk_))))) ?_
              show own_GoesW p e below s (Q0 Z p1 p2 p3 p4 p5 p6 h0 n0) 16 1216 T42 (mkF m 222 #[.val (.long p1), .second, .val (.long p2), .second, .val (.long p3), .second, .val (.long p4), .second, iv p5, iv p6, .val (.long p1), .second, .val (.long v1), .second, .val (.long v2), .second, .val (.long v3), .second, iv (4 : Int32), rv b1, iv (1 : Int32)] [(.int (3 : Int32)), (.ref b1)])
              obtain ⟨cq43, kq43, q43a, q43b, q43c⟩ := isOf hZ eq42 f39_0
              obtain ⟨_, _, ⟨T43, L43, k43, n43⟩, -, X43, ⟨Lc43, hQ43, l43, y43, z43⟩, st43⟩ := X42.virtualBack hx (y := (⟨"com/example/graphbind/graphbind/RunningLongs", "get", "(I)J"⟩ : MethodName)) (z := (⟨"com/example/graphbind/graphbind/RunningLongs", "get", "(I)J"⟩ : MethodName)) hown (mvT hZ (hw _ (List.mem_of_getElem? (i := 33) rfl))) (mvT hZ (hw _ (List.mem_of_getElem? (i := 34) rfl))) (notFace_of_selects (args := #[]) (mvT hZ (hw _ (List.mem_of_getElem? (i := 36) rfl)))) (mvT hZ (hw _ (List.mem_of_getElem? (i := 36) rfl))) (mvT hZ (hw _ (List.mem_of_getElem? (i := 35) rfl))) (by decide) (backOf (W := 0) (rm4_3a l Z a0 hw [] (b1) (x38_ar) (x38_z9) (x38_kc) ((p1 + ((0 : Int32).toInt64))) ((p1 + ((1 : Int32).toInt64))) (v2) (v3) T39.heap n0 Zs39 u39_2 u39_4 u38_5) hZ (hw _ (List.mem_of_getElem? (i := 37) rfl)) (hw _ (List.mem_of_getElem? (i := 3) rfl)) (by decide) (by decide)) q43a q43c (g := (mkF m 222 #[.val (.long p1), .second, .val (.long p2), .second, .val (.long p3), .second, .val (.long p4), .second, iv p5, iv p6, .val (.long p1), .second, .val (.long v1), .second, .val (.long v2), .second, .val (.long v3), .second, iv (4 : Int32), rv b1, iv (1 : Int32)] [(.int (3 : Int32)), (.ref b1)])) rfl (by rw [hml]; rfl) (Steps.refl _) (argsL := [(.int (3 : Int32))]) (rest := []) (lenOf pd_3 rfl) rfl (by show 2 * 0 + _ ≤ _; exact Nat.le_of_eq rfl) (hb hby at_222) (fun _ _ => ⟨rfl, eq42, (by decide : 4 + 0 ≤ _), (by decide : 60 + 0 ≤ _)⟩)
              dsimp only [Pt.U, Pt.locs, Pt.cells, Pt.slots] at X43 l43 y43 z43 st43 hQ43
              subst l43 y43 z43
              obtain ⟨rfl, Nq43, eq43⟩ := hQ43
              have N43 := Fr.app N42 Nq43
              refine own_stW (fun _ kk_ => st43.trans kk_) ?_
              show own_GoesW p e below s (Q0 Z p1 p2 p3 p4 p5 p6 h0 n0) 16 1216 T43 (mkF m 225 #[.val (.long p1), .second, .val (.long p2), .second, .val (.long p3), .second, .val (.long p4), .second, iv p5, iv p6, .val (.long p1), .second, .val (.long v1), .second, .val (.long v2), .second, .val (.long v3), .second, iv (4 : Int32), rv b1, iv (1 : Int32)] [(.long v3)])
              refine own_stW (fun _ kk_ => XS.lload X43.here hx rfl (hb hby at_225) rfl (XT.lcmp X43.here hx rfl (hb hby at_227) rfl (XS.ifNo X43.here hx rfl (hb hby at_228) rfl (XT.ll_ne_f rfl) (XS.iconst X43.here hx rfl (hb hby at_231) (XS.goto X43.here hx rfl (pc0 := 232) (pc' := 236) rfl (hb hby at_232) (by decide) (by decide) (XS.istore X43.here hx rfl (hb hby at_236) rfl (l' := #[.val (.long p1), .second, .val (.long p2), .second, .val (.long p3), .second, .val (.long p4), .second, iv p5, iv p6, .val (.long p1), .second, .val (.long v1), .second, .val (.long v2), .second, .val (.long v3), .second, iv (4 : Int32), rv b1, iv (1 : Int32)]) rfl (XS.iload X43.here hx rfl (hb hby at_238) rfl kk_))))))) ?_
              show own_GoesW p e below s (Q0 Z p1 p2 p3 p4 p5 p6 h0 n0) 16 1216 T43 (mkF m 240 #[.val (.long p1), .second, .val (.long p2), .second, .val (.long p3), .second, .val (.long p4), .second, iv p5, iv p6, .val (.long p1), .second, .val (.long v1), .second, .val (.long v2), .second, .val (.long v3), .second, iv (4 : Int32), rv b1, iv (1 : Int32)] [(.int (1 : Int32))])
              refine own_endW (v := (some (.int (nar .boolean (1 : Int32))))) X43 hlk hS2 (by rw [eq43]; exact Ks39) (fun h => by rw [Bd.returns] at h; cases h) (by decide) (by decide) ?_ (fun fs hr => retN X43 hx (t := .boolean) Bd.returns (by simp) (hb hby at_240) hr)
              show Q0 Z p1 p2 p3 p4 p5 p6 h0 n0 (some (.int (nar .boolean (1 : Int32)))) T43.heap _
              rw [eq43]
              exact ⟨rfl, N43⟩
          · obtain ⟨cq44, kq44, q44a, q44b, q44c⟩ := isOf hZ rfl f4_0
            obtain ⟨_, _, ⟨T44, L44, k44, n44⟩, -, X44, ⟨Lc44, hQ44, l44, y44, z44⟩, st44⟩ := X4.virtualBack hx (y := (⟨"com/example/graphbind/graphbind/RunningLongs", "add", "(J)V"⟩ : MethodName)) (z := (⟨"com/example/graphbind/graphbind/RunningLongs", "add", "(J)V"⟩ : MethodName)) hown (mvT hZ (hw _ (List.mem_of_getElem? (i := 22) rfl))) (mvT hZ (hw _ (List.mem_of_getElem? (i := 23) rfl))) (notFace_of_selects (args := #[]) (mvT hZ (hw _ (List.mem_of_getElem? (i := 25) rfl)))) (mvT hZ (hw _ (List.mem_of_getElem? (i := 25) rfl))) (mvT hZ (hw _ (List.mem_of_getElem? (i := 24) rfl))) (by decide) (backOf (W := 0) (rm3_1n l Z a0 hw [] (b1) (v1) ((p6 &&& (31 : Int32))) (p1) T4.heap n0 Zs4 f4_0 gg1 u4_0 u4_1 u4_2 u4_3 h_eq1 (own_31 p6)) hZ (hw _ (List.mem_of_getElem? (i := 26) rfl)) (hw _ (List.mem_of_getElem? (i := 3) rfl)) (by decide) (by decide)) q44a q44c (g := (mkF m 100 #[.val (.long p1), .second, .val (.long p2), .second, .val (.long p3), .second, .val (.long p4), .second, iv p5, iv p6, .val (.long p1), .second, .val (.long v1), .second, .val (.long v2), .second, .val (.long v3), .second, iv (4 : Int32), rv b1, .unset] [(.long v1), (.ref b1)])) rfl (by rw [hml]; rfl) (Steps.refl _) (argsL := [(.long v1)]) (rest := []) (lenOf pd_2 rfl) rfl (by show 2 * 0 + _ ≤ _; exact Nat.le_of_eq rfl) (hb hby at_100) (fun _ _ => ⟨rfl, rfl, (by decide : 3 + 1 ≤ _), (by decide : 29 + 31 ≤ _)⟩)
            dsimp only [Pt.U, Pt.locs, Pt.cells, Pt.slots] at X44 l44 y44 z44 st44 hQ44
            subst l44 y44 z44
            obtain ⟨x44_ar, x44_z9, x44_kc, rfl, Nq44, Kq44, u44_0, u44_1, u44_2, u44_3, u44_4, u44_5, u44_6⟩ := hQ44
            have N44 := Fr.app N4 Nq44
            have f44_0 := f4_0.keep Kq44
            have Ks44 := Nat.le_trans Ks4 Kq44.1
            have Zs44 : n0 ≤ T44.heap.size := Nat.le_trans Zs4 Kq44.1
            have ne44_b1 : b1 ≠ x44_ar := Nat.ne_of_lt (Nat.lt_of_lt_of_le f4_0.lt u44_4)
            have gg44_ar : n0 ≤ x44_ar := Nat.le_trans Zs4 u44_4
            refine own_stW (fun _ kk_ => st44.trans kk_) ?_
            show own_GoesW p e below s (Q0 Z p1 p2 p3 p4 p5 p6 h0 n0) 16 1216 T44 (mkF m 103 #[.val (.long p1), .second, .val (.long p2), .second, .val (.long p3), .second, .val (.long p4), .second, iv p5, iv p6, .val (.long p1), .second, .val (.long v1), .second, .val (.long v2), .second, .val (.long v3), .second, iv (4 : Int32), rv b1, .unset] [])
            refine own_stW (fun _ kk_ => XS.iload X44.here hx rfl (hb hby at_103) rfl (XS.iconst X44.here hx rfl (hb hby at_105) (XS.icmpNo X44.here hx rfl (hb hby at_106) rfl (XT.ii_le_f (by decide)) (XS.aload X44.here hx rfl (hb hby at_109) rfl rfl (XS.lload X44.here hx rfl (hb hby at_111) rfl kk_))))) ?_
            show own_GoesW p e below s (Q0 Z p1 p2 p3 p4 p5 p6 h0 n0) 16 1216 T44 (mkF m 113 #[.val (.long p1), .second, .val (.long p2), .second, .val (.long p3), .second, .val (.long p4), .second, iv p5, iv p6, .val (.long p1), .second, .val (.long v1), .second, .val (.long v2), .second, .val (.long v3), .second, iv (4 : Int32), rv b1, .unset] [(.long v2), (.ref b1)])
            obtain ⟨cq45, kq45, q45a, q45b, q45c⟩ := isOf hZ rfl f44_0
            obtain ⟨_, _, ⟨T45, L45, k45, n45⟩, -, X45, ⟨Lc45, hQ45, l45, y45, z45⟩, st45⟩ := X44.virtualBack hx (y := (⟨"com/example/graphbind/graphbind/RunningLongs", "add", "(J)V"⟩ : MethodName)) (z := (⟨"com/example/graphbind/graphbind/RunningLongs", "add", "(J)V"⟩ : MethodName)) hown (mvT hZ (hw _ (List.mem_of_getElem? (i := 22) rfl))) (mvT hZ (hw _ (List.mem_of_getElem? (i := 23) rfl))) (notFace_of_selects (args := #[]) (mvT hZ (hw _ (List.mem_of_getElem? (i := 25) rfl)))) (mvT hZ (hw _ (List.mem_of_getElem? (i := 25) rfl))) (mvT hZ (hw _ (List.mem_of_getElem? (i := 24) rfl))) (by decide) (backOf (W := 0) (rm3_2a l Z a0 hw [] (b1) (v2) ((p6 &&& (31 : Int32))) (p1) (x44_ar) (x44_z9) (x44_kc) ((p1 + ((0 : Int32).toInt64))) (v1) ((0 : Int64)) ((0 : Int64)) T44.heap n0 Zs44 f44_0 gg1 u44_0 u44_1 u44_2 u44_3 gg44_ar (Ne.symm ne44_b1) u44_6 u44_5) hZ (hw _ (List.mem_of_getElem? (i := 26) rfl)) (hw _ (List.mem_of_getElem? (i := 3) rfl)) (by decide) (by decide)) q45a q45c (g := (mkF m 113 #[.val (.long p1), .second, .val (.long p2), .second, .val (.long p3), .second, .val (.long p4), .second, iv p5, iv p6, .val (.long p1), .second, .val (.long v1), .second, .val (.long v2), .second, .val (.long v3), .second, iv (4 : Int32), rv b1, .unset] [(.long v2), (.ref b1)])) rfl (by rw [hml]; rfl) (Steps.refl _) (argsL := [(.long v2)]) (rest := []) (lenOf pd_2 rfl) rfl (by show 2 * 0 + _ ≤ _; exact Nat.le_of_eq rfl) (hb hby at_113) (fun _ _ => ⟨rfl, rfl, (by decide : 4 + 0 ≤ _), (by decide : 60 + 0 ≤ _)⟩)
            dsimp only [Pt.U, Pt.locs, Pt.cells, Pt.slots] at X45 l45 y45 z45 st45 hQ45
            subst l45 y45 z45
            obtain ⟨rfl, Nq45, Kq45, u45_0, u45_1, u45_2, u45_3, u45_4⟩ := hQ45
            have N45 := Fr.app N44 Nq45
            have f45_0 := f44_0.keep Kq45
            have Ks45 := Nat.le_trans Ks44 Kq45.1
            have Zs45 : n0 ≤ T45.heap.size := Nat.le_trans Zs44 Kq45.1
            refine own_stW (fun _ kk_ => st45.trans kk_) ?_
            show own_GoesW p e below s (Q0 Z p1 p2 p3 p4 p5 p6 h0 n0) 16 1216 T45 (mkF m 116 #[.val (.long p1), .second, .val (.long p2), .second, .val (.long p3), .second, .val (.long p4), .second, iv p5, iv p6, .val (.long p1), .second, .val (.long v1), .second, .val (.long v2), .second, .val (.long v3), .second, iv (4 : Int32), rv b1, .unset] [])
            refine own_stW (fun _ kk_ => XS.iload X45.here hx rfl (hb hby at_116) rfl (XS.iconst X45.here hx rfl (hb hby at_118) (XS.icmpNo X45.here hx rfl (hb hby at_119) rfl (XT.ii_le_f (by decide)) (XS.aload X45.here hx rfl (hb hby at_122) rfl rfl (XS.lload X45.here hx rfl (hb hby at_124) rfl kk_))))) ?_
            show own_GoesW p e below s (Q0 Z p1 p2 p3 p4 p5 p6 h0 n0) 16 1216 T45 (mkF m 126 #[.val (.long p1), .second, .val (.long p2), .second, .val (.long p3), .second, .val (.long p4), .second, iv p5, iv p6, .val (.long p1), .second, .val (.long v1), .second, .val (.long v2), .second, .val (.long v3), .second, iv (4 : Int32), rv b1, .unset] [(.long v3), (.ref b1)])
            obtain ⟨cq46, kq46, q46a, q46b, q46c⟩ := isOf hZ rfl f45_0
            obtain ⟨_, _, ⟨T46, L46, k46, n46⟩, -, X46, ⟨Lc46, hQ46, l46, y46, z46⟩, st46⟩ := X45.virtualBack hx (y := (⟨"com/example/graphbind/graphbind/RunningLongs", "add", "(J)V"⟩ : MethodName)) (z := (⟨"com/example/graphbind/graphbind/RunningLongs", "add", "(J)V"⟩ : MethodName)) hown (mvT hZ (hw _ (List.mem_of_getElem? (i := 22) rfl))) (mvT hZ (hw _ (List.mem_of_getElem? (i := 23) rfl))) (notFace_of_selects (args := #[]) (mvT hZ (hw _ (List.mem_of_getElem? (i := 25) rfl)))) (mvT hZ (hw _ (List.mem_of_getElem? (i := 25) rfl))) (mvT hZ (hw _ (List.mem_of_getElem? (i := 24) rfl))) (by decide) (backOf (W := 0) (rm3_3a l Z a0 hw [] (b1) (v3) ((p6 &&& (31 : Int32))) (p1) (x44_ar) (x44_z9) (x44_kc) ((p1 + ((0 : Int32).toInt64))) (v1) (v2) ((0 : Int64)) T45.heap n0 Zs45 f45_0 gg1 u45_0 u45_1 u45_2 u45_3 gg44_ar (Ne.symm ne44_b1) u45_4 u44_5) hZ (hw _ (List.mem_of_getElem? (i := 26) rfl)) (hw _ (List.mem_of_getElem? (i := 3) rfl)) (by decide) (by decide)) q46a q46c (g := (mkF m 126 #[.val (.long p1), .second, .val (.long p2), .second, .val (.long p3), .second, .val (.long p4), .second, iv p5, iv p6, .val (.long p1), .second, .val (.long v1), .second, .val (.long v2), .second, .val (.long v3), .second, iv (4 : Int32), rv b1, .unset] [(.long v3), (.ref b1)])) rfl (by rw [hml]; rfl) (Steps.refl _) (argsL := [(.long v3)]) (rest := []) (lenOf pd_2 rfl) rfl (by show 2 * 0 + _ ≤ _; exact Nat.le_of_eq rfl) (hb hby at_126) (fun _ _ => ⟨rfl, rfl, (by decide : 4 + 0 ≤ _), (by decide : 60 + 0 ≤ _)⟩)
            dsimp only [Pt.U, Pt.locs, Pt.cells, Pt.slots] at X46 l46 y46 z46 st46 hQ46
            subst l46 y46 z46
            obtain ⟨rfl, Nq46, Kq46, u46_0, u46_1, u46_2, u46_3, u46_4⟩ := hQ46
            have N46 := Fr.app N45 Nq46
            have f46_0 := f45_0.keep Kq46
            have Ks46 := Nat.le_trans Ks45 Kq46.1
            have Zs46 : n0 ≤ T46.heap.size := Nat.le_trans Zs45 Kq46.1
            refine own_stW (fun _ kk_ => st46.trans kk_) ?_
            show own_GoesW p e below s (Q0 Z p1 p2 p3 p4 p5 p6 h0 n0) 16 1216 T46 (mkF m 129 #[.val (.long p1), .second, .val (.long p2), .second, .val (.long p3), .second, .val (.long p4), .second, iv p5, iv p6, .val (.long p1), .second, .val (.long v1), .second, .val (.long v2), .second, .val (.long v3), .second, iv (4 : Int32), rv b1, .unset] [])
            refine own_stW (fun _ kk_ => XS.aload X46.here hx rfl (hb hby at_129) rfl rfl (XS.iconst X46.here hx rfl (hb hby at_131) kk_)) ?_
            show own_GoesW p e below s (Q0 Z p1 p2 p3 p4 p5 p6 h0 n0) 16 1216 T46 (mkF m 132 #[.val (.long p1), .second, .val (.long p2), .second, .val (.long p3), .second, .val (.long p4), .second, iv p5, iv p6, .val (.long p1), .second, .val (.long v1), .second, .val (.long v2), .second, .val (.long v3), .second, iv (4 : Int32), rv b1, .unset] [(.int (0 : Int32)), (.ref b1)])
            obtain ⟨cq47, kq47, q47a, q47b, q47c⟩ := isOf hZ rfl f46_0
            obtain ⟨_, _, ⟨T47, L47, k47, n47⟩, -, X47, ⟨Lc47, hQ47, l47, y47, z47⟩, st47⟩ := X46.virtualBack hx (y := (⟨"com/example/graphbind/graphbind/RunningLongs", "get", "(I)J"⟩ : MethodName)) (z := (⟨"com/example/graphbind/graphbind/RunningLongs", "get", "(I)J"⟩ : MethodName)) hown (mvT hZ (hw _ (List.mem_of_getElem? (i := 33) rfl))) (mvT hZ (hw _ (List.mem_of_getElem? (i := 34) rfl))) (notFace_of_selects (args := #[]) (mvT hZ (hw _ (List.mem_of_getElem? (i := 36) rfl)))) (mvT hZ (hw _ (List.mem_of_getElem? (i := 36) rfl))) (mvT hZ (hw _ (List.mem_of_getElem? (i := 35) rfl))) (by decide) (backOf (W := 0) (rm4_0a l Z a0 hw [] (b1) (x44_ar) (x44_z9) (x44_kc) ((p1 + ((0 : Int32).toInt64))) (v1) (v2) (v3) T46.heap n0 Zs46 u46_2 u46_4 u44_5) hZ (hw _ (List.mem_of_getElem? (i := 37) rfl)) (hw _ (List.mem_of_getElem? (i := 3) rfl)) (by decide) (by decide)) q47a q47c (g := (mkF m 132 #[.val (.long p1), .second, .val (.long p2), .second, .val (.long p3), .second, .val (.long p4), .second, iv p5, iv p6, .val (.long p1), .second, .val (.long v1), .second, .val (.long v2), .second, .val (.long v3), .second, iv (4 : Int32), rv b1, .unset] [(.int (0 : Int32)), (.ref b1)])) rfl (by rw [hml]; rfl) (Steps.refl _) (argsL := [(.int (0 : Int32))]) (rest := []) (lenOf pd_3 rfl) rfl (by show 2 * 0 + _ ≤ _; exact Nat.le_of_eq rfl) (hb hby at_132) (fun _ _ => ⟨rfl, rfl, (by decide : 4 + 0 ≤ _), (by decide : 60 + 0 ≤ _)⟩)
            dsimp only [Pt.U, Pt.locs, Pt.cells, Pt.slots] at X47 l47 y47 z47 st47 hQ47
            subst l47 y47 z47
            obtain ⟨rfl, Nq47, eq47⟩ := hQ47
            have N47 := Fr.app N46 Nq47
            refine own_stW (fun _ kk_ => st47.trans kk_) ?_
            show own_GoesW p e below s (Q0 Z p1 p2 p3 p4 p5 p6 h0 n0) 16 1216 T47 (mkF m 135 #[.val (.long p1), .second, .val (.long p2), .second, .val (.long p3), .second, .val (.long p4), .second, iv p5, iv p6, .val (.long p1), .second, .val (.long v1), .second, .val (.long v2), .second, .val (.long v3), .second, iv (4 : Int32), rv b1, .unset] [(.long (p1 + ((0 : Int32).toInt64)))])
            refine own_stW (fun _ kk_ => XS.lload X47.here hx rfl (hb hby at_135) rfl (XT.lcmp X47.here hx rfl (hb hby at_137) rfl (XS.ifNo X47.here hx rfl (hb hby at_138) rfl (XT.ll_ne_f (own_z0 p1)) (XS.iconst X47.here hx rfl (hb hby at_141) (XS.goto X47.here hx rfl (pc0 := 142) (pc' := 146) rfl (hb hby at_142) (by decide) (by decide) (XS.istore X47.here hx rfl (hb hby at_146) rfl (l' := #[.val (.long p1), .second, .val (.long p2), .second, .val (.long p3), .second, .val (.long p4), .second, iv p5, iv p6, .val (.long p1), .second, .val (.long v1), .second, .val (.long v2), .second, .val (.long v3), .second, iv (4 : Int32), rv b1, iv (1 : Int32)]) rfl (XS.iload X47.here hx rfl (hb hby at_148) rfl (XS.iconst X47.here hx rfl (hb hby at_150) kk_)))))))) ?_
            show own_GoesW p e below s (Q0 Z p1 p2 p3 p4 p5 p6 h0 n0) 16 1216 T47 (mkF m 151 #[.val (.long p1), .second, .val (.long p2), .second, .val (.long p3), .second, .val (.long p4), .second, iv p5, iv p6, .val (.long p1), .second, .val (.long v1), .second, .val (.long v2), .second, .val (.long v3), .second, iv (4 : Int32), rv b1, iv (1 : Int32)] [(.int (1 : Int32)), (.int (4 : Int32))])
            refine own_stW (fun _ kk_ => XS.icmpNo X47.here hx rfl (hb hby at_151) rfl (XT.ii_le_f (by decide)) (XS.iload X47.here hx rfl (hb hby at_154) rfl (XS.ifNo X47.here hx rfl (hb hby at_156) rfl (XT.i0_eq_f (by decide)) (XS.aload X47.here hx rfl (hb hby at_159) rfl rfl (XS.iconst X47.here hx rfl (hb hby at_161) kk_))))) ?_
            show own_GoesW p e below s (Q0 Z p1 p2 p3 p4 p5 p6 h0 n0) 16 1216 T47 (mkF m 162 #[.val (.long p1), .second, .val (.long p2), .second, .val (.long p3), .second, .val (.long p4), .second, iv p5, iv p6, .val (.long p1), .second, .val (.long v1), .second, .val (.long v2), .second, .val (.long v3), .second, iv (4 : Int32), rv b1, iv (1 : Int32)] [(.int (1 : Int32)), (.ref b1)])
            obtain ⟨cq48, kq48, q48a, q48b, q48c⟩ := isOf hZ eq47 f46_0
            obtain ⟨_, _, ⟨T48, L48, k48, n48⟩, -, X48, ⟨Lc48, hQ48, l48, y48, z48⟩, st48⟩ := X47.virtualBack hx (y := (⟨"com/example/graphbind/graphbind/RunningLongs", "get", "(I)J"⟩ : MethodName)) (z := (⟨"com/example/graphbind/graphbind/RunningLongs", "get", "(I)J"⟩ : MethodName)) hown (mvT hZ (hw _ (List.mem_of_getElem? (i := 33) rfl))) (mvT hZ (hw _ (List.mem_of_getElem? (i := 34) rfl))) (notFace_of_selects (args := #[]) (mvT hZ (hw _ (List.mem_of_getElem? (i := 36) rfl)))) (mvT hZ (hw _ (List.mem_of_getElem? (i := 36) rfl))) (mvT hZ (hw _ (List.mem_of_getElem? (i := 35) rfl))) (by decide) (backOf (W := 0) (rm4_1a l Z a0 hw [] (b1) (x44_ar) (x44_z9) (x44_kc) ((p1 + ((0 : Int32).toInt64))) (v1) (v2) (v3) T46.heap n0 Zs46 u46_2 u46_4 u44_5) hZ (hw _ (List.mem_of_getElem? (i := 37) rfl)) (hw _ (List.mem_of_getElem? (i := 3) rfl)) (by decide) (by decide)) q48a q48c (g := (mkF m 162 #[.val (.long p1), .second, .val (.long p2), .second, .val (.long p3), .second, .val (.long p4), .second, iv p5, iv p6, .val (.long p1), .second, .val (.long v1), .second, .val (.long v2), .second, .val (.long v3), .second, iv (4 : Int32), rv b1, iv (1 : Int32)] [(.int (1 : Int32)), (.ref b1)])) rfl (by rw [hml]; rfl) (Steps.refl _) (argsL := [(.int (1 : Int32))]) (rest := []) (lenOf pd_3 rfl) rfl (by show 2 * 0 + _ ≤ _; exact Nat.le_of_eq rfl) (hb hby at_162) (fun _ _ => ⟨rfl, eq47, (by decide : 4 + 0 ≤ _), (by decide : 60 + 0 ≤ _)⟩)
            dsimp only [Pt.U, Pt.locs, Pt.cells, Pt.slots] at X48 l48 y48 z48 st48 hQ48
            subst l48 y48 z48
            obtain ⟨rfl, Nq48, eq48⟩ := hQ48
            have N48 := Fr.app N47 Nq48
            refine own_stW (fun _ kk_ => st48.trans kk_) ?_
            show own_GoesW p e below s (Q0 Z p1 p2 p3 p4 p5 p6 h0 n0) 16 1216 T48 (mkF m 165 #[.val (.long p1), .second, .val (.long p2), .second, .val (.long p3), .second, .val (.long p4), .second, iv p5, iv p6, .val (.long p1), .second, .val (.long v1), .second, .val (.long v2), .second, .val (.long v3), .second, iv (4 : Int32), rv b1, iv (1 : Int32)] [(.long v1)])
            refine own_stW (fun _ kk_ => XS.lload X48.here hx rfl (hb hby at_165) rfl (XT.lcmp X48.here hx rfl (hb hby at_167) rfl (XS.ifNo X48.here hx rfl (hb hby at_168) rfl (XT.ll_ne_f rfl) (XS.iconst X48.here hx rfl (hb hby at_171) (XS.goto X48.here hx rfl (pc0 := 172) (pc' := 176) rfl (hb hby at_172) (by decide) (by decide) (XS.istore X48.here hx rfl (hb hby at_176) rfl (l' := #[.val (.long p1), .second, .val (.long p2), .second, .val (.long p3), .second, .val (.long p4), .second, iv p5, iv p6, .val (.long p1), .second, .val (.long v1), .second, .val (.long v2), .second, .val (.long v3), .second, iv (4 : Int32), rv b1, iv (1 : Int32)]) rfl (XS.iload X48.here hx rfl (hb hby at_178) rfl (XS.iconst X48.here hx rfl (hb hby at_180) kk_)))))))) ?_
            show own_GoesW p e below s (Q0 Z p1 p2 p3 p4 p5 p6 h0 n0) 16 1216 T48 (mkF m 181 #[.val (.long p1), .second, .val (.long p2), .second, .val (.long p3), .second, .val (.long p4), .second, iv p5, iv p6, .val (.long p1), .second, .val (.long v1), .second, .val (.long v2), .second, .val (.long v3), .second, iv (4 : Int32), rv b1, iv (1 : Int32)] [(.int (2 : Int32)), (.int (4 : Int32))])
            refine own_stW (fun _ kk_ => XS.icmpNo X48.here hx rfl (hb hby at_181) rfl (XT.ii_le_f (by decide)) (XS.iload X48.here hx rfl (hb hby at_184) rfl (XS.ifNo X48.here hx rfl (hb hby at_186) rfl (XT.i0_eq_f (by decide)) (XS.aload X48.here hx rfl (hb hby at_189) rfl rfl (XS.iconst X48.here hx rfl (hb hby at_191) kk_))))) ?_
            show own_GoesW p e below s (Q0 Z p1 p2 p3 p4 p5 p6 h0 n0) 16 1216 T48 (mkF m 192 #[.val (.long p1), .second, .val (.long p2), .second, .val (.long p3), .second, .val (.long p4), .second, iv p5, iv p6, .val (.long p1), .second, .val (.long v1), .second, .val (.long v2), .second, .val (.long v3), .second, iv (4 : Int32), rv b1, iv (1 : Int32)] [(.int (2 : Int32)), (.ref b1)])
            obtain ⟨cq49, kq49, q49a, q49b, q49c⟩ := isOf hZ eq48 f46_0
            obtain ⟨_, _, ⟨T49, L49, k49, n49⟩, -, X49, ⟨Lc49, hQ49, l49, y49, z49⟩, st49⟩ := X48.virtualBack hx (y := (⟨"com/example/graphbind/graphbind/RunningLongs", "get", "(I)J"⟩ : MethodName)) (z := (⟨"com/example/graphbind/graphbind/RunningLongs", "get", "(I)J"⟩ : MethodName)) hown (mvT hZ (hw _ (List.mem_of_getElem? (i := 33) rfl))) (mvT hZ (hw _ (List.mem_of_getElem? (i := 34) rfl))) (notFace_of_selects (args := #[]) (mvT hZ (hw _ (List.mem_of_getElem? (i := 36) rfl)))) (mvT hZ (hw _ (List.mem_of_getElem? (i := 36) rfl))) (mvT hZ (hw _ (List.mem_of_getElem? (i := 35) rfl))) (by decide) (backOf (W := 0) (rm4_2a l Z a0 hw [] (b1) (x44_ar) (x44_z9) (x44_kc) ((p1 + ((0 : Int32).toInt64))) (v1) (v2) (v3) T46.heap n0 Zs46 u46_2 u46_4 u44_5) hZ (hw _ (List.mem_of_getElem? (i := 37) rfl)) (hw _ (List.mem_of_getElem? (i := 3) rfl)) (by decide) (by decide)) q49a q49c (g := (mkF m 192 #[.val (.long p1), .second, .val (.long p2), .second, .val (.long p3), .second, .val (.long p4), .second, iv p5, iv p6, .val (.long p1), .second, .val (.long v1), .second, .val (.long v2), .second, .val (.long v3), .second, iv (4 : Int32), rv b1, iv (1 : Int32)] [(.int (2 : Int32)), (.ref b1)])) rfl (by rw [hml]; rfl) (Steps.refl _) (argsL := [(.int (2 : Int32))]) (rest := []) (lenOf pd_3 rfl) rfl (by show 2 * 0 + _ ≤ _; exact Nat.le_of_eq rfl) (hb hby at_192) (fun _ _ => ⟨rfl, eq48, (by decide : 4 + 0 ≤ _), (by decide : 60 + 0 ≤ _)⟩)
            dsimp only [Pt.U, Pt.locs, Pt.cells, Pt.slots] at X49 l49 y49 z49 st49 hQ49
            subst l49 y49 z49
            obtain ⟨rfl, Nq49, eq49⟩ := hQ49
            have N49 := Fr.app N48 Nq49
            refine own_stW (fun _ kk_ => st49.trans kk_) ?_
            show own_GoesW p e below s (Q0 Z p1 p2 p3 p4 p5 p6 h0 n0) 16 1216 T49 (mkF m 195 #[.val (.long p1), .second, .val (.long p2), .second, .val (.long p3), .second, .val (.long p4), .second, iv p5, iv p6, .val (.long p1), .second, .val (.long v1), .second, .val (.long v2), .second, .val (.long v3), .second, iv (4 : Int32), rv b1, iv (1 : Int32)] [(.long v2)])
            refine own_stW (fun _ kk_ => XS.lload X49.here hx rfl (hb hby at_195) rfl (XT.lcmp X49.here hx rfl (hb hby at_197) rfl (XS.ifNo X49.here hx rfl (hb hby at_198) rfl (XT.ll_ne_f rfl) (XS.iconst X49.here hx rfl (hb hby at_201) (XS.goto X49.here hx rfl (pc0 := 202) (pc' := 206) rfl (hb hby at_202) (by decide) (by decide) (XS.istore X49.here hx rfl (hb hby at_206) rfl (l' := #[.val (.long p1), .second, .val (.long p2), .second, .val (.long p3), .second, .val (.long p4), .second, iv p5, iv p6, .val (.long p1), .second, .val (.long v1), .second, .val (.long v2), .second, .val (.long v3), .second, iv (4 : Int32), rv b1, iv (1 : Int32)]) rfl (XS.iload X49.here hx rfl (hb hby at_208) rfl (XS.iconst X49.here hx rfl (hb hby at_210) kk_)))))))) ?_
            show own_GoesW p e below s (Q0 Z p1 p2 p3 p4 p5 p6 h0 n0) 16 1216 T49 (mkF m 211 #[.val (.long p1), .second, .val (.long p2), .second, .val (.long p3), .second, .val (.long p4), .second, iv p5, iv p6, .val (.long p1), .second, .val (.long v1), .second, .val (.long v2), .second, .val (.long v3), .second, iv (4 : Int32), rv b1, iv (1 : Int32)] [(.int (3 : Int32)), (.int (4 : Int32))])
            refine own_stW (fun _ kk_ => XS.icmpNo X49.here hx rfl (hb hby at_211) rfl (XT.ii_le_f (by decide)) (XS.iload X49.here hx rfl (hb hby at_214) rfl (XS.ifNo X49.here hx rfl (hb hby at_216) rfl (XT.i0_eq_f (by decide)) (XS.aload X49.here hx rfl (hb hby at_219) rfl rfl (XS.iconst X49.here hx rfl (hb hby at_221) kk_))))) ?_
            show own_GoesW p e below s (Q0 Z p1 p2 p3 p4 p5 p6 h0 n0) 16 1216 T49 (mkF m 222 #[.val (.long p1), .second, .val (.long p2), .second, .val (.long p3), .second, .val (.long p4), .second, iv p5, iv p6, .val (.long p1), .second, .val (.long v1), .second, .val (.long v2), .second, .val (.long v3), .second, iv (4 : Int32), rv b1, iv (1 : Int32)] [(.int (3 : Int32)), (.ref b1)])
            obtain ⟨cq50, kq50, q50a, q50b, q50c⟩ := isOf hZ eq49 f46_0
            obtain ⟨_, _, ⟨T50, L50, k50, n50⟩, -, X50, ⟨Lc50, hQ50, l50, y50, z50⟩, st50⟩ := X49.virtualBack hx (y := (⟨"com/example/graphbind/graphbind/RunningLongs", "get", "(I)J"⟩ : MethodName)) (z := (⟨"com/example/graphbind/graphbind/RunningLongs", "get", "(I)J"⟩ : MethodName)) hown (mvT hZ (hw _ (List.mem_of_getElem? (i := 33) rfl))) (mvT hZ (hw _ (List.mem_of_getElem? (i := 34) rfl))) (notFace_of_selects (args := #[]) (mvT hZ (hw _ (List.mem_of_getElem? (i := 36) rfl)))) (mvT hZ (hw _ (List.mem_of_getElem? (i := 36) rfl))) (mvT hZ (hw _ (List.mem_of_getElem? (i := 35) rfl))) (by decide) (backOf (W := 0) (rm4_3a l Z a0 hw [] (b1) (x44_ar) (x44_z9) (x44_kc) ((p1 + ((0 : Int32).toInt64))) (v1) (v2) (v3) T46.heap n0 Zs46 u46_2 u46_4 u44_5) hZ (hw _ (List.mem_of_getElem? (i := 37) rfl)) (hw _ (List.mem_of_getElem? (i := 3) rfl)) (by decide) (by decide)) q50a q50c (g := (mkF m 222 #[.val (.long p1), .second, .val (.long p2), .second, .val (.long p3), .second, .val (.long p4), .second, iv p5, iv p6, .val (.long p1), .second, .val (.long v1), .second, .val (.long v2), .second, .val (.long v3), .second, iv (4 : Int32), rv b1, iv (1 : Int32)] [(.int (3 : Int32)), (.ref b1)])) rfl (by rw [hml]; rfl) (Steps.refl _) (argsL := [(.int (3 : Int32))]) (rest := []) (lenOf pd_3 rfl) rfl (by show 2 * 0 + _ ≤ _; exact Nat.le_of_eq rfl) (hb hby at_222) (fun _ _ => ⟨rfl, eq49, (by decide : 4 + 0 ≤ _), (by decide : 60 + 0 ≤ _)⟩)
            dsimp only [Pt.U, Pt.locs, Pt.cells, Pt.slots] at X50 l50 y50 z50 st50 hQ50
            subst l50 y50 z50
            obtain ⟨rfl, Nq50, eq50⟩ := hQ50
            have N50 := Fr.app N49 Nq50
            refine own_stW (fun _ kk_ => st50.trans kk_) ?_
            show own_GoesW p e below s (Q0 Z p1 p2 p3 p4 p5 p6 h0 n0) 16 1216 T50 (mkF m 225 #[.val (.long p1), .second, .val (.long p2), .second, .val (.long p3), .second, .val (.long p4), .second, iv p5, iv p6, .val (.long p1), .second, .val (.long v1), .second, .val (.long v2), .second, .val (.long v3), .second, iv (4 : Int32), rv b1, iv (1 : Int32)] [(.long v3)])
            refine own_stW (fun _ kk_ => XS.lload X50.here hx rfl (hb hby at_225) rfl (XT.lcmp X50.here hx rfl (hb hby at_227) rfl (XS.ifNo X50.here hx rfl (hb hby at_228) rfl (XT.ll_ne_f rfl) (XS.iconst X50.here hx rfl (hb hby at_231) (XS.goto X50.here hx rfl (pc0 := 232) (pc' := 236) rfl (hb hby at_232) (by decide) (by decide) (XS.istore X50.here hx rfl (hb hby at_236) rfl (l' := #[.val (.long p1), .second, .val (.long p2), .second, .val (.long p3), .second, .val (.long p4), .second, iv p5, iv p6, .val (.long p1), .second, .val (.long v1), .second, .val (.long v2), .second, .val (.long v3), .second, iv (4 : Int32), rv b1, iv (1 : Int32)]) rfl (XS.iload X50.here hx rfl (hb hby at_238) rfl kk_))))))) ?_
            show own_GoesW p e below s (Q0 Z p1 p2 p3 p4 p5 p6 h0 n0) 16 1216 T50 (mkF m 240 #[.val (.long p1), .second, .val (.long p2), .second, .val (.long p3), .second, .val (.long p4), .second, iv p5, iv p6, .val (.long p1), .second, .val (.long v1), .second, .val (.long v2), .second, .val (.long v3), .second, iv (4 : Int32), rv b1, iv (1 : Int32)] [(.int (1 : Int32))])
            refine own_endW (v := (some (.int (nar .boolean (1 : Int32))))) X50 hlk hS2 (by rw [eq50]; exact Ks46) (fun h => by rw [Bd.returns] at h; cases h) (by decide) (by decide) ?_ (fun fs hr => retN X50 hx (t := .boolean) Bd.returns (by simp) (hb hby at_240) hr)
            show Q0 Z p1 p2 p3 p4 p5 p6 h0 n0 (some (.int (nar .boolean (1 : Int32)))) T50.heap _
            rw [eq50]
            exact ⟨rfl, N50⟩
      rcases Classical.em ((p5 &&& (4 : Int32)) = (0 : Int32)) with q55 | q55
      · refine own_stW (fun _ kk_ => XS.ifYes X0.here hx rfl (pc0 := 42) (pc' := 53) rfl (hb hby at_42) rfl (XT.i0_eq_t q55) (by decide) (by decide) (XS.lload X0.here hx rfl (hb hby at_53) rfl kk_)) ?_
        show own_GoesW p e below s (Q0 Z p1 p2 p3 p4 p5 p6 h0 n0) 16 1216 s₁ (mkF m 55 #[.val (.long p1), .second, .val (.long p2), .second, .val (.long p3), .second, .val (.long p4), .second, iv p5, iv p6, .val (.long p1), .second, .val (.long v1), .second, .val (.long v2), .second, .unset, .unset, .unset, .unset, .unset] [(.long p4)])
        exact J55 (p4)
      · refine own_stW (fun _ kk_ => XS.ifNo X0.here hx rfl (hb hby at_42) rfl (XT.i0_eq_f q55) (XS.lloadN X0.here hx rfl (hb hby at_45) rfl (X0.ldc2Long hx hown (mvT hZ (hw _ (List.mem_of_getElem? (i := 38) rfl))) (g := (mkF m 46 #[.val (.long p1), .second, .val (.long p2), .second, .val (.long p3), .second, .val (.long p4), .second, iv p5, iv p6, .val (.long p1), .second, .val (.long v1), .second, .val (.long v2), .second, .unset, .unset, .unset, .unset, .unset] [(.long p1)])) rfl (hb hby at_46) _ (XS.ladd X0.here hx rfl (hb hby at_49) rfl (XS.goto X0.here hx rfl (pc0 := 50) (pc' := 55) rfl (hb hby at_50) (by decide) (by decide) kk_))))) ?_
        show own_GoesW p e below s (Q0 Z p1 p2 p3 p4 p5 p6 h0 n0) 16 1216 s₁ (mkF m 55 #[.val (.long p1), .second, .val (.long p2), .second, .val (.long p3), .second, .val (.long p4), .second, iv p5, iv p6, .val (.long p1), .second, .val (.long v1), .second, .val (.long v2), .second, .unset, .unset, .unset, .unset, .unset] [(.long (p1 + (3 : Int64)))])
        exact J55 ((p1 + (3 : Int64)))
    rcases Classical.em ((p5 &&& (2 : Int32)) = (0 : Int32)) with q36 | q36
    · refine own_stW (fun _ kk_ => XS.ifYes X0.here hx rfl (pc0 := 23) (pc' := 34) rfl (hb hby at_23) rfl (XT.i0_eq_t q36) (by decide) (by decide) (XS.lload X0.here hx rfl (hb hby at_34) rfl kk_)) ?_
      show own_GoesW p e below s (Q0 Z p1 p2 p3 p4 p5 p6 h0 n0) 16 1216 s₁ (mkF m 36 #[.val (.long p1), .second, .val (.long p2), .second, .val (.long p3), .second, .val (.long p4), .second, iv p5, iv p6, .val (.long p1), .second, .val (.long v1), .second, .unset, .unset, .unset, .unset, .unset, .unset, .unset] [(.long p3)])
      exact J36 (p3)
    · refine own_stW (fun _ kk_ => XS.ifNo X0.here hx rfl (hb hby at_23) rfl (XT.i0_eq_f q36) (XS.lloadN X0.here hx rfl (hb hby at_26) rfl (X0.ldc2Long hx hown (mvT hZ (hw _ (List.mem_of_getElem? (i := 0) rfl))) (g := (mkF m 27 #[.val (.long p1), .second, .val (.long p2), .second, .val (.long p3), .second, .val (.long p4), .second, iv p5, iv p6, .val (.long p1), .second, .val (.long v1), .second, .unset, .unset, .unset, .unset, .unset, .unset, .unset] [(.long p1)])) rfl (hb hby at_27) _ (XS.ladd X0.here hx rfl (hb hby at_30) rfl (XS.goto X0.here hx rfl (pc0 := 31) (pc' := 36) rfl (hb hby at_31) (by decide) (by decide) kk_))))) ?_
      show own_GoesW p e below s (Q0 Z p1 p2 p3 p4 p5 p6 h0 n0) 16 1216 s₁ (mkF m 36 #[.val (.long p1), .second, .val (.long p2), .second, .val (.long p3), .second, .val (.long p4), .second, iv p5, iv p6, .val (.long p1), .second, .val (.long v1), .second, .unset, .unset, .unset, .unset, .unset, .unset, .unset] [(.long (p1 + (2 : Int64)))])
      exact J36 ((p1 + (2 : Int64)))
  rcases Classical.em ((p5 &&& (1 : Int32)) = (0 : Int32)) with q17 | q17
  · refine own_stW (fun _ kk_ => XS.ifYes X0.here hx rfl (pc0 := 7) (pc' := 16) rfl (hb hby at_7) rfl (XT.i0_eq_t q17) (by decide) (by decide) (XS.lloadN X0.here hx rfl (hb hby at_16) rfl kk_)) ?_
    show own_GoesW p e below s (Q0 Z p1 p2 p3 p4 p5 p6 h0 n0) 16 1216 s₁ (mkF m 17 #[.val (.long p1), .second, .val (.long p2), .second, .val (.long p3), .second, .val (.long p4), .second, iv p5, iv p6, .val (.long p1), .second, .unset, .unset, .unset, .unset, .unset, .unset, .unset, .unset, .unset] [(.long p2)])
    exact J17 (p2)
  · refine own_stW (fun _ kk_ => XS.ifNo X0.here hx rfl (hb hby at_7) rfl (XT.i0_eq_f q17) (XS.lloadN X0.here hx rfl (hb hby at_10) rfl (XS.lconst X0.here hx rfl (hb hby at_11) (XS.ladd X0.here hx rfl (hb hby at_12) rfl (XS.goto X0.here hx rfl (pc0 := 13) (pc' := 17) rfl (hb hby at_13) (by decide) (by decide) kk_))))) ?_
    show own_GoesW p e below s (Q0 Z p1 p2 p3 p4 p5 p6 h0 n0) 16 1216 s₁ (mkF m 17 #[.val (.long p1), .second, .val (.long p2), .second, .val (.long p3), .second, .val (.long p4), .second, iv p5, iv p6, .val (.long p1), .second, .unset, .unset, .unset, .unset, .unset, .unset, .unset, .unset, .unset] [(.long (p1 + (1 : Int64)))])
    exact J17 ((p1 + (1 : Int64)))
set_option maxRecDepth 65536 in
set_option maxHeartbeats 40000000 in
theorem comes_1 {Post : Tables → Env → Array Value → State → Outcome → State → Prop} (hpost : ∀ tb e args s v u, (limb_1_1.after args s (.returned v) u = true ∧ limb_1_2.after args s (.returned v) u = true ∧ True) → ReturnedEndW s (.returned v) u (Jvm.fieldLocs frame_1_writes args s ++ Jvm.arrayLocs frame_1_arrays args s ++ Jvm.staticLocs frame_1_statics s) 16 1216 → Post tb e args s (.returned v) u) :
    ArmFor flags0 classFile x code maxLocals ret World_1 tables_1 room_1 Calls_1 rest_1 Pre_1 Post := by
  intro l hfl _ _ p e ha hc hk s m args below hf hA hF happ hP
  obtain ⟨hcalls, hrest, hpre⟩ := hP
  obtain ⟨-, -, -, hnamed, -, -, -, hat⟩ := (Spec.applies_iff hf).mp happ
  obtain ⟨hg, hn⟩ := and_e (Cond.before_iff.mp (show (Jvm.Cond.and given_1 narrow_1).before args s = true from hpre))
  obtain ⟨h1, g0⟩ := and_e hg
  obtain ⟨w0, w1, w2, w3, w4, w5, rfl⟩ : ∃ w0 w1 w2 w3 w4 w5 : Value, args = #[w0, w1, w2, w3, w4, w5] := by
    have hs : args.size = 6 := by simpa [Cond.value, given_1] using h1
    obtain ⟨L⟩ := args
    match L, hs with
    | [w0, w1, w2, w3, w4, w5], _ => exact ⟨w0, w1, w2, w3, w4, w5, rfl⟩
  have hw := fun d (hd : d ∈ tables_1) => atoms_spec (ws := Jvm.Cond.code x code maxLocals ret :: tables_1) hat d (List.mem_cons_of_mem _ hd)
  have hfit : Fit s := fun {y c} hc i hi => by
    obtain ⟨ha, rfl⟩ := Array.getElem?_eq_some_iff.mp hc
    have q := List.all_eq_true.mp ((Array.all_eq_true_iff_forall_mem.mp hF) _ (Array.getElem_mem ha)) i (List.mem_range.mpr hi)
    simpa [Array.getElem?_eq_getElem hi] using q
  obtain ⟨k0, g1⟩ := and_e g0
  obtain ⟨i0, e0⟩ := isL_v k0
  obtain rfl : w0 = (.long i0) := Option.some.inj e0
  obtain ⟨k1, g2⟩ := and_e g1
  obtain ⟨i1, e1⟩ := isL_v k1
  obtain rfl : w1 = (.long i1) := Option.some.inj e1
  obtain ⟨k2, g3⟩ := and_e g2
  obtain ⟨i2, e2⟩ := isL_v k2
  obtain rfl : w2 = (.long i2) := Option.some.inj e2
  obtain ⟨k3, g4⟩ := and_e g3
  obtain ⟨i3, e3⟩ := isL_v k3
  obtain rfl : w3 = (.long i3) := Option.some.inj e3
  obtain ⟨k4, g5⟩ := and_e g4
  obtain ⟨i4, e4⟩ := is_v k4
  obtain rfl : w4 = (.int i4) := Option.some.inj e4
  obtain ⟨i5, e5⟩ := is_v g5
  obtain rfl : w5 = (.int i5) := Option.some.inj e5
  obtain ⟨n, o, h1, h2, h3, _, L, rfl, ⟨rfl, N⟩, hq⟩ := rm0 l s _ hw tables_1 i0 i1 i2 i3 i4 i5  s.heap s.heap.size (Nat.le_refl _)  p e ha hc hk s m _ below hf ((Spec.applies_iff_loose hf).mp happ).1 ⟨rfl, State.Warmed39.refl s, rfl⟩ trivial
  refine ⟨n, _, h1, h2, h3, hpost _ _ _ _ _ _ ⟨Cond.after_iff.mpr rfl, Cond.after_iff.mpr (eq_i res_at (Term.int_eval (1)) rfl), trivial⟩ ⟨hq.1, hq.2.1, hq.2.2.1, (hq.2.2.2.sift fun y hy => Or.inr (N y hy)).mono (by decide) (by decide)⟩⟩
theorem main_1_1 : Claimed_1_1 := comes_1 fun _ _ _ _ _ _ h hF => ⟨h.1, hF⟩
theorem main_1_2 : Claimed_1_2 := comes_1 fun _ _ _ _ _ _ h hF => ⟨h.2.1, hF⟩
end Jvm.Pilot.@@N@@
namespace Jvm.Pilot.@@N@@
open Jvm Jvm.ClassFile Sem Op Lib Jvm.Free Jvm.Stand Jvm.Pilot.@@N@@.Jvm.D
/-! MADE BY PROGRAM (witnessworld.py) out of the Statement's table words and the real class files: 17 classes; the members and pool entries that the words name. The judged class is class 1, her method 1. -/
namespace start1
open Jvm.ClassFile
def u (s : String) : CpInfo := .utf8 (stringToUtf16 s)
/-- a pool by its gaps: so many unusable entries, then the entry; so many at the end -/
def gap : Nat → List CpInfo → List CpInfo
  | 0, r => r
  | n + 1, r => .unusable :: gap n r
def poolList (es : List (Nat × CpInfo)) (last : Nat) : List CpInfo := es.foldr (fun e r => gap e.1 (e.2 :: r)) (gap last [])
def pool (es : List (Nat × CpInfo)) (last : Nat) : Array CpInfo := ⟨poolList es last⟩
def fileOf (pool : Array CpInfo) (this : Nat) (attrs : Array Attribute := #[]) (ms : Array MethodInfo := #[]) (fl : Nat := 33) (sup : Nat := 0) (ifs : Array Nat := #[]) (fds : Array FieldInfo := #[]) : ClassFile where
  minorVersion := 0
  majorVersion := 65
  constantPool := pool
  accessFlags := fl
  thisClass := this
  superClass := sup
  interfaces := ifs
  fields := fds
  methods := ms
  attributes := attrs
def plain (name : String) (sup : Option ClassId) : Class where
  name := name
  kind := .ordinary
  loader := none
  accessFlags := 33
  super := sup
  interfaces := #[]
  cf := none
  fields := #[]
  methods := #[]
  instanceTypes := #[]
  staticTypes := #[]
  resolved := #[]
  callSites := []
  init := .initialized
  statics := none
  mirror := none

def pool0 : Array CpInfo := pool [(5, u "<init>"), (0, u "()V"), (1, .class_ 10), (1, u "java/lang/Object")] 113

def k0c0 : Code := { maxStack := 0, maxLocals := 1, code := object_method_1_code, exceptionTable := #[], attributes := #[] }
def k0m0 : Method := { name := "<init>", desc := "()V", sig := { parameters := [], returnType := none }, accessFlags := 1, code := some k0c0 }
/-- java/lang/Object -/
def k0 : Class := { plain "java/lang/Object" none with
  accessFlags := 33
  interfaces := #[]
  cf := some (fileOf pool0 8 #[] #[{ accessFlags := 1, nameIndex := 5, descriptorIndex := 6, attributes := #[] }] 33 0 #[] #[])
  fields := #[]
  methods := #[k0m0]
  instanceTypes := #[]
  staticTypes := #[]
  resolved := Array.replicate 124 none
  statics := none }

def pool1 : Array CpInfo := pool [(2, .class_ 4), (1, u "java/lang/Object"), (0, u "<init>"), (0, u "()V"), (0, .long 2), (1, .long 3), (1, .class_ 12), (0, u "com/example/graphbind/graphbind/RunningLongs"), (0, .string 14), (0, u "edges"), (0, .methodref 11 16), (0, .nameAndType 5 17), (0, u "(Ljava/lang/String;I)V"), (0, .methodref 11 19), (0, .nameAndType 20 21), (0, u "add"), (0, u "(J)V"), (0, .methodref 11 23), (0, .nameAndType 24 25), (0, u "get"), (0, u "(I)J"), (0, .class_ 27), (0, u "com/example/graphbind/graphbind/RunningLongsGetPinLaw"), (2, u "law"), (0, u "(JJJJII)Z")] 3

def k1m0 : Method := { name := "<init>", desc := "()V", sig := { parameters := [], returnType := none }, accessFlags := 1, code := none }
def k1c1 : Code := { maxStack := 5, maxLocals := 21, code := code, exceptionTable := #[], attributes := #[] }
def k1m1 : Method := { name := "law", desc := "(JJJJII)Z", sig := { parameters := [.long, .long, .long, .long, .int, .int], returnType := some .boolean }, accessFlags := 9, code := some k1c1 }
/-- com/example/graphbind/graphbind/RunningLongsGetPinLaw -/
def k1 : Class := { plain "com/example/graphbind/graphbind/RunningLongsGetPinLaw" (some 0) with
  accessFlags := 49
  interfaces := #[]
  cf := some (fileOf pool1 26 #[] #[{ accessFlags := 1, nameIndex := 5, descriptorIndex := 6, attributes := #[] }, { accessFlags := 9, nameIndex := 30, descriptorIndex := 31, attributes := #[] }] 49 2 #[] #[])
  fields := #[]
  methods := #[k1m0, k1m1]
  instanceTypes := #[]
  staticTypes := #[]
  resolved := Array.replicate 35 none
  statics := none }

def pool2 : Array CpInfo := pool [(1, .methodref 2 3), (0, .class_ 4), (0, .nameAndType 5 6), (0, u "java/lang/Object"), (0, u "<init>"), (0, u "()V"), (0, .fieldref 8 9), (0, .class_ 10), (0, .nameAndType 11 12), (0, u "com/example/graphbind/graphbind/RunningLongs"), (0, u "what"), (0, u "Ljava/lang/String;"), (0, .fieldref 8 14), (0, .nameAndType 15 16), (0, u "expected"), (0, u "I"), (0, .fieldref 8 18), (0, .nameAndType 19 16), (0, u "count"), (0, .fieldref 8 21), (0, .nameAndType 22 23), (0, u "first"), (0, u "J"), (0, .fieldref 8 25), (0, .nameAndType 26 27), (0, u "values"), (0, u "[J"), (0, .methodref 29 30), (0, .class_ 31), (0, .nameAndType 32 33), (0, u "java/lang/Math"), (0, u "max"), (0, u "(II)I"), (13, u "(Ljava/lang/String;I)V"), (2, u "add"), (0, u "(J)V"), (1, u "get"), (0, u "(I)J")] 4

def k2c0 : Code := { maxStack := 2, maxLocals := 3, code := prog_67_method_1_code, exceptionTable := #[], attributes := #[] }
def k2m0 : Method := { name := "<init>", desc := "(Ljava/lang/String;I)V", sig := { parameters := [(.object "java/lang/String"), .int], returnType := none }, accessFlags := 0, code := some k2c0 }
def k2c1 : Code := { maxStack := 6, maxLocals := 4, code := prog_67_method_2_code, exceptionTable := #[], attributes := #[] }
def k2m1 : Method := { name := "add", desc := "(J)V", sig := { parameters := [.long], returnType := none }, accessFlags := 0, code := some k2c1 }
def k2c2 : Code := { maxStack := 4, maxLocals := 2, code := prog_67_method_3_code, exceptionTable := #[], attributes := #[] }
def k2m2 : Method := { name := "get", desc := "(I)J", sig := { parameters := [.int], returnType := some .long }, accessFlags := 0, code := some k2c2 }
/-- com/example/graphbind/graphbind/RunningLongs -/
def k2 : Class := { plain "com/example/graphbind/graphbind/RunningLongs" (some 0) with
  accessFlags := 48
  interfaces := #[]
  cf := some (fileOf pool2 8 #[] #[{ accessFlags := 0, nameIndex := 5, descriptorIndex := 47, attributes := #[] }, { accessFlags := 0, nameIndex := 50, descriptorIndex := 51, attributes := #[] }, { accessFlags := 0, nameIndex := 53, descriptorIndex := 54, attributes := #[] }] 48 2 #[] #[{ accessFlags := 18, nameIndex := 11, descriptorIndex := 12, attributes := #[] }, { accessFlags := 18, nameIndex := 15, descriptorIndex := 16, attributes := #[] }, { accessFlags := 2, nameIndex := 22, descriptorIndex := 23, attributes := #[] }, { accessFlags := 2, nameIndex := 19, descriptorIndex := 16, attributes := #[] }, { accessFlags := 2, nameIndex := 26, descriptorIndex := 27, attributes := #[] }])
  fields := #[{ name := "what", type := (.object "java/lang/String"), accessFlags := 18, slot := 0, constantValue := 0 }, { name := "expected", type := .int, accessFlags := 18, slot := 1, constantValue := 0 }, { name := "first", type := .long, accessFlags := 2, slot := 2, constantValue := 0 }, { name := "count", type := .int, accessFlags := 2, slot := 3, constantValue := 0 }, { name := "values", type := (.array .long), accessFlags := 2, slot := 4, constantValue := 0 }]
  methods := #[k2m0, k2m1, k2m2]
  instanceTypes := #[(.object "java/lang/String"), .int, .long, .int, (.array .long)]
  staticTypes := #[]
  resolved := Array.replicate 59 none
  statics := none }

def pool3 : Array CpInfo := pool [(1, .class_ 2), (0, u "java/io/Serializable"), (0, .class_ 4), (0, u "java/lang/Object")] 2

/-- java/io/Serializable -/
def k3 : Class := { plain "java/io/Serializable" (some 0) with
  accessFlags := 1537
  interfaces := #[]
  cf := some (fileOf pool3 1 #[] #[] 1537 3 #[] #[])
  fields := #[]
  methods := #[]
  instanceTypes := #[]
  staticTypes := #[]
  resolved := Array.replicate 7 none
  statics := none }

def pool4 : Array CpInfo := pool [(1, .class_ 2), (0, u "java/lang/Comparable"), (0, .class_ 4), (0, u "java/lang/Object")] 7

/-- java/lang/Comparable -/
def k4 : Class := { plain "java/lang/Comparable" (some 0) with
  accessFlags := 1537
  interfaces := #[]
  cf := some (fileOf pool4 1 #[] #[] 1537 3 #[] #[])
  fields := #[]
  methods := #[]
  instanceTypes := #[]
  staticTypes := #[]
  resolved := Array.replicate 12 none
  statics := none }

def pool5 : Array CpInfo := pool [(2, .class_ 4), (1, u "java/lang/CharSequence"), (42, .class_ 48), (0, u "java/lang/CharSequence$1CodePointIterator"), (10, .class_ 60), (0, u "java/lang/CharSequence$1CharIterator"), (5, .class_ 67), (0, u "java/lang/Object")] 63

/-- java/lang/CharSequence -/
def k5 : Class := { plain "java/lang/CharSequence" (some 0) with
  accessFlags := 1537
  interfaces := #[]
  cf := some (fileOf pool5 2 #[.nestMembers #[47, 59]] #[] 1537 66 #[] #[])
  fields := #[]
  methods := #[]
  instanceTypes := #[]
  staticTypes := #[]
  resolved := Array.replicate 131 none
  statics := none }

def pool6 : Array CpInfo := pool [(1, .class_ 2), (0, u "java/lang/constant/Constable"), (0, .class_ 4), (0, u "java/lang/Object")] 6

/-- java/lang/constant/Constable -/
def k6 : Class := { plain "java/lang/constant/Constable" (some 0) with
  accessFlags := 1537
  interfaces := #[]
  cf := some (fileOf pool6 1 #[] #[] 1537 3 #[] #[])
  fields := #[]
  methods := #[]
  instanceTypes := #[]
  staticTypes := #[]
  resolved := Array.replicate 11 none
  statics := none }

def pool7 : Array CpInfo := pool [(1, .class_ 2), (0, u "java/lang/constant/ConstantDesc"), (0, .class_ 4), (0, u "java/lang/Object")] 32

/-- java/lang/constant/ConstantDesc -/
def k7 : Class := { plain "java/lang/constant/ConstantDesc" (some 0) with
  accessFlags := 1537
  interfaces := #[]
  cf := some (fileOf pool7 1 #[] #[] 1537 3 #[] #[])
  fields := #[]
  methods := #[]
  instanceTypes := #[]
  staticTypes := #[]
  resolved := Array.replicate 37 none
  statics := none }

def pool8 : Array CpInfo := pool [(2, .class_ 4), (1, u "java/lang/Object"), (0, u "<init>"), (0, u "()V"), (3, .class_ 12), (1, u "java/lang/String"), (0, u "value"), (0, u "[B"), (2, u "coder"), (0, u "B"), (2, u "hash"), (0, u "I"), (2, u "hashIsZero"), (0, u "Z"), (13, u "COMPACT_STRINGS"), (534, .class_ 576), (0, u "java/lang/CharSequence"), (22, u "CASE_INSENSITIVE_ORDER"), (0, u "Ljava/util/Comparator;"), (500, u "serialPersistentFields"), (0, u "[Ljava/io/ObjectStreamField;"), (0, .class_ 1104), (0, u "java/lang/String$CaseInsensitiveComparator"), (1, .class_ 1107), (0, u "java/io/Serializable"), (0, .class_ 1109), (0, u "java/lang/Comparable"), (0, .class_ 1111), (0, u "java/lang/constant/Constable"), (0, .class_ 1113), (0, u "java/lang/constant/ConstantDesc"), (2, u "serialVersionUID"), (0, u "J"), (3, u "REPL"), (0, u "C"), (2, u "LATIN1"), (1, u "UTF16")] 323

def k8m0 : Method := { name := "<init>", desc := "()V", sig := { parameters := [], returnType := none }, accessFlags := 1, code := none }
/-- java/lang/String -/
def k8 : Class := { plain "java/lang/String" (some 0) with
  accessFlags := 49
  interfaces := #[3, 4, 5, 6, 7]
  cf := some (fileOf pool8 10 #[.nestMembers #[1103]] #[{ accessFlags := 1, nameIndex := 5, descriptorIndex := 6, attributes := #[] }] 49 2 #[1106, 1108, 575, 1110, 1112] #[{ accessFlags := 18, nameIndex := 13, descriptorIndex := 14, attributes := #[] }, { accessFlags := 18, nameIndex := 17, descriptorIndex := 18, attributes := #[] }, { accessFlags := 2, nameIndex := 21, descriptorIndex := 22, attributes := #[] }, { accessFlags := 2, nameIndex := 25, descriptorIndex := 26, attributes := #[] }, { accessFlags := 26, nameIndex := 1116, descriptorIndex := 1117, attributes := #[] }, { accessFlags := 24, nameIndex := 40, descriptorIndex := 26, attributes := #[] }, { accessFlags := 26, nameIndex := 1101, descriptorIndex := 1102, attributes := #[] }, { accessFlags := 26, nameIndex := 1121, descriptorIndex := 1122, attributes := #[] }, { accessFlags := 25, nameIndex := 599, descriptorIndex := 600, attributes := #[] }, { accessFlags := 24, nameIndex := 1125, descriptorIndex := 18, attributes := #[] }, { accessFlags := 24, nameIndex := 1127, descriptorIndex := 18, attributes := #[] }])
  fields := #[{ name := "value", type := (.array .byte), accessFlags := 18, slot := 0, constantValue := 0 }, { name := "coder", type := .byte, accessFlags := 18, slot := 1, constantValue := 0 }, { name := "hash", type := .int, accessFlags := 2, slot := 2, constantValue := 0 }, { name := "hashIsZero", type := .boolean, accessFlags := 2, slot := 3, constantValue := 0 }, { name := "serialVersionUID", type := .long, accessFlags := 26, slot := 0, constantValue := 0 }, { name := "COMPACT_STRINGS", type := .boolean, accessFlags := 24, slot := 1, constantValue := 0 }, { name := "serialPersistentFields", type := (.array (.object "java/io/ObjectStreamField")), accessFlags := 26, slot := 2, constantValue := 0 }, { name := "REPL", type := .char, accessFlags := 26, slot := 3, constantValue := 0 }, { name := "CASE_INSENSITIVE_ORDER", type := (.object "java/util/Comparator"), accessFlags := 25, slot := 4, constantValue := 0 }, { name := "LATIN1", type := .byte, accessFlags := 24, slot := 5, constantValue := 0 }, { name := "UTF16", type := .byte, accessFlags := 24, slot := 6, constantValue := 0 }]
  methods := #[k8m0]
  instanceTypes := #[(.array .byte), .byte, .int, .boolean]
  staticTypes := #[.long, .boolean, (.array (.object "java/io/ObjectStreamField")), .char, (.object "java/util/Comparator"), .byte, .byte]
  resolved := Array.replicate 1451 none
  statics := none }

def pool9 : Array CpInfo := pool [(1, .class_ 2), (0, u "java/lang/Math"), (1, .class_ 6), (1, u "java/lang/Object"), (0, u "<init>"), (0, u "()V"), (89, .class_ 100), (1, u "java/lang/Math$RandomNumberGeneratorHolder"), (71, u "negativeZeroFloatBits"), (0, u "J"), (2, u "negativeZeroDoubleBits"), (21, u "max"), (46, u "$assertionsDisabled"), (0, u "Z"), (88, u "(II)I"), (2, u "twoToTheDoubleScaleDown"), (0, u "D"), (4, u "twoToTheDoubleScaleUp"), (9, u "E"), (3, u "PI"), (2, u "TAU"), (2, u "DEGREES_TO_RADIANS"), (0, u "RADIANS_TO_DEGREES")] 94

def k9m0 : Method := { name := "<init>", desc := "()V", sig := { parameters := [], returnType := none }, accessFlags := 2, code := none }
def k9c1 : Code := { maxStack := 2, maxLocals := 2, code := jdk_29_method_65_code, exceptionTable := #[], attributes := #[] }
def k9m1 : Method := { name := "max", desc := "(II)I", sig := { parameters := [.int, .int], returnType := some .int }, accessFlags := 9, code := some k9c1 }
/-- java/lang/Math -/
def k9 : Class := { plain "java/lang/Math" (some 0) with
  accessFlags := 49
  interfaces := #[]
  cf := some (fileOf pool9 1 #[.nestMembers #[98]] #[{ accessFlags := 2, nameIndex := 7, descriptorIndex := 8, attributes := #[] }, { accessFlags := 9, nameIndex := 198, descriptorIndex := 335, attributes := #[] }] 49 4 #[] #[{ accessFlags := 25, nameIndex := 354, descriptorIndex := 339, attributes := #[] }, { accessFlags := 25, nameIndex := 358, descriptorIndex := 339, attributes := #[] }, { accessFlags := 25, nameIndex := 361, descriptorIndex := 339, attributes := #[] }, { accessFlags := 26, nameIndex := 364, descriptorIndex := 339, attributes := #[] }, { accessFlags := 26, nameIndex := 365, descriptorIndex := 339, attributes := #[] }, { accessFlags := 26, nameIndex := 172, descriptorIndex := 173, attributes := #[] }, { accessFlags := 26, nameIndex := 176, descriptorIndex := 173, attributes := #[] }, { accessFlags := 8, nameIndex := 344, descriptorIndex := 339, attributes := #[] }, { accessFlags := 8, nameIndex := 338, descriptorIndex := 339, attributes := #[] }, { accessFlags := 4120, nameIndex := 245, descriptorIndex := 246, attributes := #[] }])
  fields := #[{ name := "E", type := .double, accessFlags := 25, slot := 0, constantValue := 0 }, { name := "PI", type := .double, accessFlags := 25, slot := 1, constantValue := 0 }, { name := "TAU", type := .double, accessFlags := 25, slot := 2, constantValue := 0 }, { name := "DEGREES_TO_RADIANS", type := .double, accessFlags := 26, slot := 3, constantValue := 0 }, { name := "RADIANS_TO_DEGREES", type := .double, accessFlags := 26, slot := 4, constantValue := 0 }, { name := "negativeZeroFloatBits", type := .long, accessFlags := 26, slot := 5, constantValue := 0 }, { name := "negativeZeroDoubleBits", type := .long, accessFlags := 26, slot := 6, constantValue := 0 }, { name := "twoToTheDoubleScaleUp", type := .double, accessFlags := 8, slot := 7, constantValue := 0 }, { name := "twoToTheDoubleScaleDown", type := .double, accessFlags := 8, slot := 8, constantValue := 0 }, { name := "$assertionsDisabled", type := .boolean, accessFlags := 4120, slot := 9, constantValue := 0 }]
  methods := #[k9m0, k9m1]
  instanceTypes := #[]
  staticTypes := #[.double, .double, .double, .double, .double, .long, .long, .double, .double, .boolean]
  resolved := Array.replicate 460 none
  statics := none }

def pool10 : Array CpInfo := pool [(1, u "java/lang/Cloneable"), (0, .class_ 1), (0, u "java/lang/Object"), (0, .class_ 3)] 3

/-- java/lang/Cloneable -/
def k10 : Class := { plain "java/lang/Cloneable" (some 0) with
  accessFlags := 1537
  interfaces := #[]
  cf := some (fileOf pool10 2 #[] #[] 1537 4 #[] #[])
  fields := #[]
  methods := #[]
  instanceTypes := #[]
  staticTypes := #[]
  resolved := Array.replicate 8 none
  statics := none }

/-- the primitive byte -/
def k11 : Class := { plain "byte" none with kind := .primitive 'B', accessFlags := 0x411 }
/-- [B -/
def k12 : Class := { plain "[B" (some 0) with kind := .array 11 .byte, interfaces := #[10, 3], accessFlags := 1041 }

/-- the primitive int -/
def k13 : Class := { plain "int" none with kind := .primitive 'I', accessFlags := 0x411 }
/-- [I -/
def k14 : Class := { plain "[I" (some 0) with kind := .array 13 .int, interfaces := #[10, 3], accessFlags := 1041 }

/-- the primitive long -/
def k15 : Class := { plain "long" none with kind := .primitive 'J', accessFlags := 0x411 }
/-- [J -/
def k16 : Class := { plain "[J" (some 0) with kind := .array 15 .long, interfaces := #[10, 3], accessFlags := 1041 }

def heap : Heap := #[]
def classes : Array Class := #[k0, k1, k2, k3, k4, k5, k6, k7, k8, k9, k10, k11, k12, k13, k14, k15, k16]
def interned : List (Array UInt16 × Addr) := []
def slotsUsed : Nat := 0
def theMethod : MethodId := ⟨1, 1⟩
def args0 : Array Value := #[.long 1, .long 2, .long 3, .long 4, .int 5, .int 6]
def aboutOver (below : List Frame) : State where
  vm := { classes := classes, interned := interned.toArray }
  heap := heap
  slotsUsed := slotsUsed
  threads := #[{ frames := .invoking theMethod args0 :: below }]
def below0 : List Frame := [.native { method := ⟨0, 0⟩, args := #[] }]
def about1 : State := aboutOver below0
def p0 : Program := .bare "" "" ""
def e0 : Env := launch0.env 0 0 0
theorem w_frames : about1.frames = Frame.invoking theMethod args0 :: below0 := rfl
set_option maxRecDepth 65536 in
theorem w_args : argsFit about1.vm theMethod args0 = true := by decide +kernel
set_option maxRecDepth 65536 in
theorem w_heap : heapFits about1 = true := by decide +kernel
set_option maxRecDepth 65536 in
theorem w_runnable : about1.curStatus? = some .runnable := by decide +kernel
set_option maxRecDepth 65536 in
theorem w_alone : about1.alone = true := by decide +kernel
set_option maxRecDepth 65536 in
theorem w_named : about1.methodNamed? x = some theMethod := by decide +kernel
set_option maxRecDepth 65536 in
theorem w_hears : about1.hears theMethod below0 = true := by decide +kernel
set_option maxRecDepth 65536 in
theorem w_ripe : about1.ripe theMethod args0 below0 = true := by decide +kernel
theorem w_running : about1.status = .running := rfl
set_option maxRecDepth 65536 in
theorem w_room : about1.hasRoom e0.platform room_1 = true :=
  launch0.hasRoom_least _ room_1 (by decide +kernel) (by decide +kernel) (by decide +kernel) (by decide +kernel) (by decide +kernel) (by decide +kernel)
theorem allAtoms_all (ts : List Jvm.Cond) (a : Array Jvm.Value) (st : Jvm.State) : (allAtoms ts).before a st = ts.all (fun c => c.before a st) := by
  induction ts with
  | nil => rfl
  | cons c t ih =>
    show (Jvm.Cond.and c (allAtoms t)).before a st = _
    rw [Jvm.Cond.before_and, ih, List.all_cons]
def words1 : List Jvm.Cond := Jvm.Cond.code x code maxLocals ret :: tables_1
/-- a 'code' word, met by the world's own term for the bytes: nothing is compared byte by byte -/
theorem code_word {y : MethodName} {bytes : ByteArray} {mx : Nat} {rt : Option FieldType} {a : Array Value} {s : State} {m : MethodId} {meth : Method} {c : Code} (h1 : s.methodNamed? y = some m) (h2 : s.vm.method? m = some meth) (h3 : meth.code = some c) (h4 : c.code = bytes)
    (h5 : (c.maxLocals == mx && c.exceptionTable.isEmpty && decide (c.maxStack ≤ mostOperands) && decide (meth.sig.returnType = rt) && !meth.locks && decide (parseMethodDescriptor y.desc = some meth.sig)) = true) : (Jvm.Cond.code y bytes mx rt).before a s = true := by
  simp only [Bool.and_eq_true, beq_iff_eq, Bool.not_eq_true', decide_eq_true_eq] at h5
  obtain ⟨⟨⟨⟨⟨g1, g2⟩, g3⟩, g4⟩, g5⟩, g6⟩ := h5
  simp [Cond.before, Cond.holds, Cond.value, h1, h2, h3, h4, g1, g2, g3, g4, g5, g6]
def isCode : Jvm.Cond → Bool
  | .code _ _ _ _ => true
  | _ => false
theorem all_split {L : List Jvm.Cond} {P : Jvm.Cond → Bool} (h1 : L.all (fun c => isCode c || P c) = true) (h2 : ∀ c ∈ L.filter isCode, P c = true) : L.all P = true := by
  refine List.all_eq_true.mpr fun c hc => ?_
  have h := List.all_eq_true.mp h1 c hc
  rcases Bool.eq_false_or_eq_true (isCode c) with hi | hi
  · exact h2 c (List.mem_filter.mpr ⟨hc, hi⟩)
  · simpa [hi] using h
set_option maxRecDepth 65536 in
theorem w_c0 : (Jvm.Cond.code x code maxLocals ret).before args0 about1 = true := code_word (m := ⟨1, 1⟩) (meth := k1m1) (c := k1c1) (by decide +kernel) rfl rfl rfl (by decide +kernel)
set_option maxRecDepth 65536 in
theorem w_c1 : (Jvm.Cond.code ({ cls := "com/example/graphbind/graphbind/RunningLongs", name := "<init>", desc := "(Ljava/lang/String;I)V" } : Jvm.MethodName) prog_67_method_1_code (3 : Nat) (Option.none : Option Jvm.ClassFile.FieldType)).before args0 about1 = true := code_word (m := ⟨2, 0⟩) (meth := k2m0) (c := k2c0) (by decide +kernel) rfl rfl rfl (by decide +kernel)
set_option maxRecDepth 65536 in
theorem w_c2 : (Jvm.Cond.code ({ cls := "java/lang/Object", name := "<init>", desc := "()V" } : Jvm.MethodName) object_method_1_code (1 : Nat) (Option.none : Option Jvm.ClassFile.FieldType)).before args0 about1 = true := code_word (m := ⟨0, 0⟩) (meth := k0m0) (c := k0c0) (by decide +kernel) rfl rfl rfl (by decide +kernel)
set_option maxRecDepth 65536 in
theorem w_c3 : (Jvm.Cond.code ({ cls := "com/example/graphbind/graphbind/RunningLongs", name := "add", desc := "(J)V" } : Jvm.MethodName) prog_67_method_2_code (4 : Nat) (Option.none : Option Jvm.ClassFile.FieldType)).before args0 about1 = true := code_word (m := ⟨2, 1⟩) (meth := k2m1) (c := k2c1) (by decide +kernel) rfl rfl rfl (by decide +kernel)
set_option maxRecDepth 65536 in
theorem w_c4 : (Jvm.Cond.code ({ cls := "com/example/graphbind/graphbind/RunningLongs", name := "get", desc := "(I)J" } : Jvm.MethodName) prog_67_method_3_code (2 : Nat) (Option.some Jvm.ClassFile.FieldType.long)).before args0 about1 = true := code_word (m := ⟨2, 2⟩) (meth := k2m2) (c := k2c2) (by decide +kernel) rfl rfl rfl (by decide +kernel)
set_option maxRecDepth 65536 in
theorem w_c5 : (Jvm.Cond.code ({ cls := "java/lang/Math", name := "max", desc := "(II)I" } : Jvm.MethodName) jdk_29_method_65_code (2 : Nat) (Option.some Jvm.ClassFile.FieldType.int)).before args0 about1 = true := code_word (m := ⟨9, 1⟩) (meth := k9m1) (c := k9c1) (by decide +kernel) rfl rfl rfl (by decide +kernel)
def codes1 : List Jvm.Cond := [Jvm.Cond.code x code maxLocals ret, Jvm.Cond.code ({ cls := "com/example/graphbind/graphbind/RunningLongs", name := "<init>", desc := "(Ljava/lang/String;I)V" } : Jvm.MethodName) prog_67_method_1_code (3 : Nat) (Option.none : Option Jvm.ClassFile.FieldType), Jvm.Cond.code ({ cls := "java/lang/Object", name := "<init>", desc := "()V" } : Jvm.MethodName) object_method_1_code (1 : Nat) (Option.none : Option Jvm.ClassFile.FieldType), Jvm.Cond.code ({ cls := "com/example/graphbind/graphbind/RunningLongs", name := "add", desc := "(J)V" } : Jvm.MethodName) prog_67_method_2_code (4 : Nat) (Option.none : Option Jvm.ClassFile.FieldType), Jvm.Cond.code ({ cls := "com/example/graphbind/graphbind/RunningLongs", name := "get", desc := "(I)J" } : Jvm.MethodName) prog_67_method_3_code (2 : Nat) (Option.some Jvm.ClassFile.FieldType.long), Jvm.Cond.code ({ cls := "java/lang/Math", name := "max", desc := "(II)I" } : Jvm.MethodName) jdk_29_method_65_code (2 : Nat) (Option.some Jvm.ClassFile.FieldType.int)]
set_option maxRecDepth 65536 in
theorem codes_eq : words1.filter isCode = codes1 := rfl
theorem w_codes : ∀ c ∈ words1.filter isCode, c.before args0 about1 = true := by
  rw [codes_eq]
  intro c hc
  simp only [codes1, List.mem_cons, List.not_mem_nil, or_false] at hc
  rcases hc with rfl | rfl | rfl | rfl | rfl | rfl
  · exact w_c0
  · exact w_c1
  · exact w_c2
  · exact w_c3
  · exact w_c4
  · exact w_c5
set_option maxRecDepth 65536 in
theorem w_t1 : (words1.take 24).all (fun c => isCode c || c.before args0 about1) = true := by decide +kernel
set_option maxRecDepth 65536 in
theorem w_t2 : (words1.drop 24).all (fun c => isCode c || c.before args0 about1) = true := by decide +kernel
theorem w_tables : (allAtoms (Jvm.Cond.code x code maxLocals ret :: tables_1)).before args0 about1 = true := by
  rw [allAtoms_all]
  show words1.all (fun c => c.before args0 about1) = true
  refine all_split ?_ w_codes
  rw [← List.take_append_drop 24 words1, List.all_append, w_t1, w_t2]
  rfl
set_option maxRecDepth 65536 in
theorem w_case : (Jvm.Cond.and given_1 narrow_1).before args0 about1 = true := by decide +kernel
theorem w_applies : (headSpec (Jvm.Cond.code x code maxLocals ret :: tables_1) room_1).applies x e0.platform about1 = true :=
  (Spec.applies_iff w_frames).mpr ⟨w_running, w_runnable, w_alone, w_named, w_hears, w_ripe, w_room, w_tables⟩
theorem atStart : AtStart classFile x code maxLocals ret World_1 tables_1 room_1 Calls_1 rest_1 Pre_1 launch0 p0 e0 about1 theMethod args0 below0 :=
  ⟨lists_1, trivial, launch0.admits_env _ _ _, launch0.least_env, fairChoices_fair.cas, fairChoices_fair.clock, w_frames, w_args, w_heap, w_applies, trivial, trivial, w_case⟩
end start1
theorem witness_1 : WitnessClaimed_1 := ⟨start1.p0, start1.e0, start1.about1, start1.theMethod, start1.args0, start1.below0, start1.atStart⟩
end Jvm.Pilot.@@N@@
