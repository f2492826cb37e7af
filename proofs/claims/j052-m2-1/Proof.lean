import JvmDerived
import JvmDerived.Pilot.@@N@@Statement
import JvmDerived.Pilot.@@N@@Code
set_option linter.unusedVariables false
set_option linter.unusedSimpArgs false
namespace Jvm.RoadKit
open Sem ClassFile Op Lib Jvm.Stand Jvm.Free Jvm.LawKit
section New
variable {p : Program} {l : Launch} {e : Env} {R : Room} {s : State} {m : MethodId} {args : Array Value} {below : List Frame} {meth : Method} {c : Code} {T T' : State} {locs : List Loc} {cells slots : Nat} {Q : Option Value → Heap → List Loc → Prop} {cc ss : Nat} {g g' : JFrame} {pc : Nat} {Ls : Array Slot}
/-- from here the body comes to an end that meets Q -/
def own_Goes (p : Program) (e : Env) (below : List Frame) (s : State) (Q : Option Value → Heap → List Loc → Prop) (cc ss : Nat) (T : State) (g : JFrame) : Prop :=
  ∃ s₂ o, Steps p.tables e below (T.setTop g) s₂ ∧ s₂.status = .running ∧ Ended s₂ below o ∧ ∃ v L, o = .returned v ∧ Q v s₂.heap L ∧ FrameEnd s o s₂ L cc ss
theorem own_st (h : ∀ t, Steps p.tables e below (T'.setTop g') t → Steps p.tables e below (T.setTop g) t) (k : own_Goes p e below s Q cc ss T' g') : own_Goes p e below s Q cc ss T g := by
  obtain ⟨s₂, o, h1, r⟩ := k; exact ⟨s₂, o, h _ h1, r⟩
theorem own_end {v : Option Value} (X : Stand p l e R s m args below meth c T locs cells slots) (hlk : meth.locks = false) (hv : meth.sig.returnType = none → v = none) (hc : cells ≤ cc) (hs : slots ≤ ss) (hQ : Q v T.heap locs)
    (st : ∀ fs, (∀ (f : JFrame) (acts : List Action), f.method = m → f.locked = none → f.entered = [] → (doReturn e (T.setTop f) acts v).1 = T.setFrames fs) → Steps p.tables e below (T.setTop g) (T.setFrames fs)) : own_Goes p e below s Q cc ss T g := by
  obtain ⟨fs, hr, hrun, hended, hW, hsame⟩ := X.leave (v := v) hv hlk
  exact ⟨_, _, st fs hr, hrun, hended, _, _, rfl, hQ, ⟨_, rfl⟩, hW, hsame.mono hc hs⟩
theorem own_retN (X : Stand p l e R s m args below meth c T locs cells slots) (hx : p.tables.exec = Jvm.exec) (hlk : meth.locks = false) {t : FieldType} {z : Int32} {rest : List Value} (hret : meth.sig.returnType = some t) (ht : t = .boolean ∨ t = .byte ∨ t = .char ∨ t = .short) (hd : decode c.code pc = .ok (.ireturn, 1)) (hc : cells ≤ cc) (hs : slots ≤ ss) (hQ : Q (some (.int (nar t z))) T.heap locs) : own_Goes p e below s Q cc ss T (mkF m pc Ls (.int z :: rest)) :=
  own_end X hlk (fun h => by rw [hret] at h; cases h) hc hs hQ fun fs hr => retN X hx hret ht hd hr
theorem own_retI (X : Stand p l e R s m args below meth c T locs cells slots) (hx : p.tables.exec = Jvm.exec) (hlk : meth.locks = false) {z : Int32} {rest : List Value} (hret : meth.sig.returnType = some .int) (hd : decode c.code pc = .ok (.ireturn, 1)) (hc : cells ≤ cc) (hs : slots ≤ ss) (hQ : Q (some (.int z)) T.heap locs) : own_Goes p e below s Q cc ss T (mkF m pc Ls (.int z :: rest)) :=
  own_end X hlk (fun h => by rw [hret] at h; cases h) hc hs hQ fun fs hr => retOut X hx hret rfl (Or.inl ⟨rfl, Or.inl rfl, _, rfl⟩) hd hr
theorem own_retL (X : Stand p l e R s m args below meth c T locs cells slots) (hx : p.tables.exec = Jvm.exec) (hlk : meth.locks = false) {z : Int64} {rest : List Value} (hret : meth.sig.returnType = some .long) (hd : decode c.code pc = .ok (.lreturn, 1)) (hc : cells ≤ cc) (hs : slots ≤ ss) (hQ : Q (some (.long z)) T.heap locs) : own_Goes p e below s Q cc ss T (mkF m pc Ls (.long z :: rest)) :=
  own_end X hlk (fun h => by rw [hret] at h; cases h) hc hs hQ fun fs hr => retOut X hx hret rfl (Or.inr (Or.inl ⟨rfl, rfl, _, rfl⟩)) hd hr
theorem own_narR {t : FieldType} {w : Value} (hw : w.isRef = true) : narrow t w = w := by rcases ref_cases hw with rfl | ⟨a, rfl⟩ <;> cases t <;> rfl
theorem own_fitR {n : String} {w : Value} (hw : w.isRef = true) : fits (.object n) w = true := by rcases ref_cases hw with rfl | ⟨a, rfl⟩ <;> rfl
theorem own_retA (X : Stand p l e R s m args below meth c T locs cells slots) (hx : p.tables.exec = Jvm.exec) (hlk : meth.locks = false) {w : Value} {t : FieldType} {rest : List Value} (hw : w.isRef = true) (hret : meth.sig.returnType = some t) (ht : t.isReference = true) (hd : decode c.code pc = .ok (.areturn, 1)) (hc : cells ≤ cc) (hs : slots ≤ ss) (hQ : Q (some w) T.heap locs) : own_Goes p e below s Q cc ss T (mkF m pc Ls (w :: rest)) :=
  own_end X hlk (fun h => by rw [hret] at h; cases h) hc hs hQ fun fs hr => retOut X hx hret (own_narR hw) (Or.inr (Or.inr (Or.inr (Or.inr ⟨rfl, ht, hw⟩)))) hd hr
theorem own_ret0 (X : Stand p l e R s m args below meth c T locs cells slots) (hx : p.tables.exec = Jvm.exec) (hlk : meth.locks = false) (hret : meth.sig.returnType = none) (hd : decode c.code pc = .ok (.return_, 1)) (hc : cells ≤ cc) (hs : slots ≤ ss) (hQ : Q none T.heap locs) : own_Goes p e below s Q cc ss T (mkF m pc Ls []) :=
  own_end X hlk (fun _ => rfl) hc hs hQ fun fs hr => X.returnOut hx hret hd hr
theorem own_nsr {Z : State} {a0 : Array Value} {O K : String} {n : Nat} (w : (Cond.noSuperclass O).before a0 Z = true) (wk : (Cond.instantiable K n).before a0 Z = true) (hn : O ≠ K) : NS Z O K := by
  obtain ⟨c, k, h1, h2, h3, -, -⟩ := Cond.noSuperclass_spec w
  obtain ⟨t, kt, g1, -⟩ := Cond.instantiable_spec wk
  have ne := ids_ne h1 g1 hn
  refine ⟨c, t, h1, g1, fun fuel => ?_⟩
  cases fuel with
  | zero => rfl
  | succ f => simp [Vm.isSubclassAux, ne, h2, h3]
theorem own_nsn {Z : State} {a0 : Array Value} {C S K : String} {n : Nat} (w : (Cond.superclass C S).before a0 Z = true) (wk : (Cond.instantiable K n).before a0 Z = true) (q : NS Z C K) (hn : C ≠ K) : ∃ c t, Z.vm.findClass C = some c ∧ Z.vm.findClass K = some t ∧ Z.vm.assignable c t = false := by
  obtain ⟨c, t, h0, g0, n3⟩ := q
  obtain ⟨p, k, kp, h1, h2, h3, h4, h5, -, h7⟩ := Cond.superclass_spec h0 w
  obtain ⟨t', kt, g1, g2, g5, g6, -⟩ := Cond.instantiable_spec wk
  cases g0.symm.trans g1
  have g7 : kt.isInterface = false := by simp only [Bool.or_eq_false_iff] at g6; exact g6.1
  have ne := ids_ne h0 g0 hn
  refine ⟨c, t, h0, g0, ?_⟩
  show Z.vm.assignableAux (255 + 1) c t = false
  simp [Vm.assignableAux, ne, h2, g2, h5, g5, g7, Vm.isSubclass, n3]
theorem own_Sta_keep {Z : State} {h h' : Heap} {ws : List Addr} {C n d : String} {w : Value} (F : Sta Z h C n d w) (K : Keep h h' ws) (q : ∀ x ∈ ws, ∀ cell : Cell, h[x]? = some cell → cell.vm.isStatics = false) : Sta Z h' C n d w := by
  obtain ⟨cf, i, k, f, st, cell, h1, h2, h3, h4, h5, h6, h7⟩ := F
  exact ⟨cf, i, k, f, st, cell, h1, h2, h3, h4, K.2.1 st cell h5 (fun z => by rw [q st z cell h5] at h6; cases h6), h6, h7⟩
end New
end Jvm.RoadKit
namespace Jvm.Pilot.@@N@@
open Jvm Jvm.ClassFile Sem Op Lib Jvm.Free Jvm.Stand Jvm.LawKit Jvm.RoadKit Bundle Jvm.Pilot.@@N@@.Jvm.D
def own_b (P : Prop) [Decidable P] : Int32 := if P then 1 else 0
theorem own_bt {P : Prop} [Decidable P] (h : P) : (some (Value.int (nar .boolean 1)) : Option Value) = some (.int (own_b P)) := by rw [own_b, if_pos h]; rfl
theorem own_bf {P : Prop} [Decidable P] (h : ¬ P) : (some (Value.int (nar .boolean 0)) : Option Value) = some (.int (own_b P)) := by rw [own_b, if_neg h]; rfl
theorem own_b1 {P : Prop} [Decidable P] (h : P) : own_b P = 1 := if_pos h
theorem own_b0 {P : Prop} [Decidable P] (h : ¬ P) : own_b P = 0 := if_neg h
theorem own_bc {P P' : Prop} [Decidable P] [Decidable P'] (h : P ↔ P') : own_b P = own_b P' := by simp only [own_b, h]
theorem own_ord {args : Array Value} {s : State} {t : Term} {a : Addr} {C n d : String} {k : Int32} (et : t.eval args s none [] s = some (.ref a)) (h : (Jvm.Cond.eq (.field t C n d) (.int k)).value args s none s [] = some true) : Fld s s.heap a C n d (.int k) := by
  refine Fld.start ?_
  have e1 := fld_at (C := C) (n := n) (dd := d) et
  obtain ⟨x, y, h1, h2, h3, -⟩ := cmp_v (Or.inl h)
  rw [e1] at h1
  have h4 : y = .int k := (Option.some.inj h2).symm
  subst h4
  cases x <;> simp [Kin, Value.isRef] at h3
  rename_i z
  have q : (Jvm.Cond.eq (.field t C n d) (.int k)).value args s none s [] = some (decide (z = k)) := by simp [Cond.value, Term.eval, et, h1]
  rw [h1, gotT q h]
theorem own_fref {args : Array Value} {s : State} {t : Term} {a : Addr} {C n d K : String} (et : t.eval args s none [] s = some (.ref a)) (h : (Jvm.Cond.exactly (.field t C n d) K).value args s none s [] = some true) : ∃ k, Fld s s.heap a C n d (.ref k) := by
  obtain ⟨k, e⟩ := exa_v h
  exact ⟨k, Fld.start ((fld_at et).symm.trans e)⟩
theorem own_fnull {args : Array Value} {s : State} {t : Term} {a : Addr} {C n d : String} (et : t.eval args s none [] s = some (.ref a)) (h : (Jvm.Cond.eq (.field t C n d) .null).value args s none s [] = some true) : Fld s s.heap a C n d .null :=
  Fld.start ((fld_at et).symm.trans (null_v h))
abbrev rRrm1h : Room := { frames := 0, cells := 0, slots := 0, locals := 0 }
theorem d1_0 : decode prog_42_method_4_code 0 = .ok (.aload_n 0, 1) := by decide +kernel
theorem d1_1 : decode prog_42_method_4_code 1 = .ok (.getstatic 3, 3) := by decide +kernel
theorem d1_4 : decode prog_42_method_4_code 4 = .ok (.if_acmp .ne 9, 3) := by decide +kernel
theorem d1_7 : decode prog_42_method_4_code 7 = .ok (.getstatic 7, 3) := by decide +kernel
theorem d1_10 : decode prog_42_method_4_code 10 = .ok (.goto 6, 3) := by decide +kernel
theorem d1_16 : decode prog_42_method_4_code 16 = .ok (.areturn, 1) := by decide +kernel
theorem pn_rm1h : plainFor (⟨"com/example/treepass/treepass/Orientation", "across", "()Lcom/example/treepass/treepass/Orientation;"⟩ : MethodName) = true := by first | exact plainFor_of_name (by first | (simp [plainName, overriddenIn]; done) | decide +kernel) | decide +kernel
theorem ef_rm1h (m : MethodId) (sh : Addr) : entryFrame m #[(.ref sh)] 1 = (mkF m 0 #[rv sh] []) := by first | rfl | (simp [entryFrame, mkF, argsToLocals, Value.category]; done)
def Q1h (Z : State) (sh : Addr) (sv : Addr) (h0 : Heap) (n0 : Nat) (v : Option Value) (h : Heap) (L : List Loc) : Prop := (v = some (.ref sv)) ∧ (Fr n0 L) ∧ (h = h0)
set_option maxRecDepth 65536 in
set_option maxHeartbeats 40000000 in
theorem rm1h (l : Launch) (Z : State) (a0 : Array Value) (hw : ∀ d ∈ tables_1, d.before a0 Z = true) (ws : List Jvm.Cond) (sh : Addr) (sv : Addr) (h0 : Heap) (n0 : Nat) (Z0 : n0 ≤ h0.size) (p_0 : Sta Z h0 "com/example/treepass/treepass/Orientation" "HORIZONTAL" "Lcom/example/treepass/treepass/Orientation;" (.ref sh)) (p_1 : Sta Z h0 "com/example/treepass/treepass/Orientation" "VERTICAL" "Lcom/example/treepass/treepass/Orientation;" (.ref sv)) :
    MetFree l (⟨"com/example/treepass/treepass/Orientation", "across", "()Lcom/example/treepass/treepass/Orientation;"⟩ : MethodName) (head1 (Jvm.Cond.code (⟨"com/example/treepass/treepass/Orientation", "across", "()Lcom/example/treepass/treepass/Orientation;"⟩ : MethodName) prog_42_method_4_code 1 (some (.object "com/example/treepass/treepass/Orientation")) :: ws) rRrm1h) (fun a U => a = #[(.ref sh)] ∧ Z.Warmed39 U.vm ∧ U.heap = h0) (fun _ _ _ _ _ => True) (fun _ U o U' => ∃ v L, o = .returned v ∧ Q1h Z sh sv h0 n0 v U'.heap L ∧ FrameEnd U o U' L rRrm1h.cells rRrm1h.slots) := by
  refine MetFree.of_bodySF pn_rm1h hisR ?_
  intro p e s m args below meth c s₁ Bd hml0 hP hK
  obtain ⟨rfl, hZ, hh⟩ := hP
  have hx := Bd.exec
  have hby := Bd.bytes
  have hlk : meth.locks = false := Bd.notSynchronized
  have hml : c.maxLocals = 1 := hml0
  have hown : s.vm.findClass "com/example/treepass/treepass/Orientation" = some m.cls := findClass_of_methodNamed Bd.named
  have hnm := (name_of_methodNamed Bd.named Bd.method).1
  have X0 : Stand p l e rRrm1h s m #[(.ref sh)] below meth c s₁ [] 0 0 := Stand.of_body Bd
  have e0 : s₁.heap = h0 := by rw [← hh, Bd.state]; rfl
  have N0 := Fr.nil n0
  show own_Goes p e below s (Q1h Z sh sv h0 n0) rRrm1h.cells rRrm1h.slots s₁ (entryFrame m #[(.ref sh)] 1)
  rw [ef_rm1h m sh]
  show own_Goes p e below s (Q1h Z sh sv h0 n0) rRrm1h.cells rRrm1h.slots s₁ (mkF m 0 #[rv sh] [])
  refine own_st (fun _ k => XS.aloadN X0.here hx rfl (hb hby d1_0) rfl rfl k) ?_
  show own_Goes p e below s (Q1h Z sh sv h0 n0) rRrm1h.cells rRrm1h.slots s₁ (mkF m 1 #[rv sh] [(.ref sh)])
  obtain ⟨T1, X1, e1, st1⟩ := getS2 X0 hx hZ hown (host := "") (Or.inl (hw _ (List.mem_of_getElem? (i := 8) rfl))) Via.refl e0 p_0 (g := (mkF m 1 #[rv sh] [(.ref sh)])) rfl (hb hby d1_1)
  refine own_st st1 ?_
  show own_Goes p e below s (Q1h Z sh sv h0 n0) rRrm1h.cells rRrm1h.slots T1 (mkF m 4 #[rv sh] [(.ref sh), (.ref sh)])
  refine own_st (fun _ k => XT.acmpNo X1.here hx rfl (hb hby d1_4) rfl rfl rfl (XT.aa_ne_f rfl) k) ?_
  show own_Goes p e below s (Q1h Z sh sv h0 n0) rRrm1h.cells rRrm1h.slots T1 (mkF m 7 #[rv sh] [])
  obtain ⟨T2, X2, e2, st2⟩ := getS2 X1 hx hZ hown (host := "") (Or.inl (hw _ (List.mem_of_getElem? (i := 9) rfl))) Via.refl e1 p_1 (g := (mkF m 7 #[rv sh] [])) rfl (hb hby d1_7)
  refine own_st st2 ?_
  show own_Goes p e below s (Q1h Z sh sv h0 n0) rRrm1h.cells rRrm1h.slots T2 (mkF m 10 #[rv sh] [(.ref sv)])
  refine own_st (fun _ k => XS.goto X2.here hx rfl (pc0 := 10) (pc' := 16) rfl (hb hby d1_10) (by decide) (by decide) k) ?_
  show own_Goes p e below s (Q1h Z sh sv h0 n0) rRrm1h.cells rRrm1h.slots T2 (mkF m 16 #[rv sh] [(.ref sv)])
  refine own_retA X2 hx hlk rfl Bd.returns rfl (hb hby d1_16) (by decide) (by decide) ?_
  show Q1h Z sh sv h0 n0 (some (.ref sv)) T2.heap _
  rw [e2]
  exact ⟨rfl, N0, rfl⟩
abbrev rRrm1v : Room := { frames := 0, cells := 0, slots := 0, locals := 0 }
theorem d1_13 : decode prog_42_method_4_code 13 = .ok (.getstatic 3, 3) := by decide +kernel
theorem pn_rm1v : plainFor (⟨"com/example/treepass/treepass/Orientation", "across", "()Lcom/example/treepass/treepass/Orientation;"⟩ : MethodName) = true := by first | exact plainFor_of_name (by first | (simp [plainName, overriddenIn]; done) | decide +kernel) | decide +kernel
theorem ef_rm1v (m : MethodId) (sv : Addr) : entryFrame m #[(.ref sv)] 1 = (mkF m 0 #[rv sv] []) := by first | rfl | (simp [entryFrame, mkF, argsToLocals, Value.category]; done)
def Q1v (Z : State) (sv : Addr) (sh : Addr) (h0 : Heap) (n0 : Nat) (v : Option Value) (h : Heap) (L : List Loc) : Prop := (v = some (.ref sh)) ∧ (Fr n0 L) ∧ (h = h0)
set_option maxRecDepth 65536 in
set_option maxHeartbeats 40000000 in
theorem rm1v (l : Launch) (Z : State) (a0 : Array Value) (hw : ∀ d ∈ tables_1, d.before a0 Z = true) (ws : List Jvm.Cond) (sv : Addr) (sh : Addr) (h0 : Heap) (n0 : Nat) (Z0 : n0 ≤ h0.size) (p_0 : Sta Z h0 "com/example/treepass/treepass/Orientation" "HORIZONTAL" "Lcom/example/treepass/treepass/Orientation;" (.ref sh)) (p_1 : Sta Z h0 "com/example/treepass/treepass/Orientation" "VERTICAL" "Lcom/example/treepass/treepass/Orientation;" (.ref sv)) (p_2 : sv ≠ sh) :
    MetFree l (⟨"com/example/treepass/treepass/Orientation", "across", "()Lcom/example/treepass/treepass/Orientation;"⟩ : MethodName) (head1 (Jvm.Cond.code (⟨"com/example/treepass/treepass/Orientation", "across", "()Lcom/example/treepass/treepass/Orientation;"⟩ : MethodName) prog_42_method_4_code 1 (some (.object "com/example/treepass/treepass/Orientation")) :: ws) rRrm1v) (fun a U => a = #[(.ref sv)] ∧ Z.Warmed39 U.vm ∧ U.heap = h0) (fun _ _ _ _ _ => True) (fun _ U o U' => ∃ v L, o = .returned v ∧ Q1v Z sv sh h0 n0 v U'.heap L ∧ FrameEnd U o U' L rRrm1v.cells rRrm1v.slots) := by
  refine MetFree.of_bodySF pn_rm1v hisR ?_
  intro p e s m args below meth c s₁ Bd hml0 hP hK
  obtain ⟨rfl, hZ, hh⟩ := hP
  have hx := Bd.exec
  have hby := Bd.bytes
  have hlk : meth.locks = false := Bd.notSynchronized
  have hml : c.maxLocals = 1 := hml0
  have hown : s.vm.findClass "com/example/treepass/treepass/Orientation" = some m.cls := findClass_of_methodNamed Bd.named
  have hnm := (name_of_methodNamed Bd.named Bd.method).1
  have X0 : Stand p l e rRrm1v s m #[(.ref sv)] below meth c s₁ [] 0 0 := Stand.of_body Bd
  have e0 : s₁.heap = h0 := by rw [← hh, Bd.state]; rfl
  have N0 := Fr.nil n0
  show own_Goes p e below s (Q1v Z sv sh h0 n0) rRrm1v.cells rRrm1v.slots s₁ (entryFrame m #[(.ref sv)] 1)
  rw [ef_rm1v m sv]
  show own_Goes p e below s (Q1v Z sv sh h0 n0) rRrm1v.cells rRrm1v.slots s₁ (mkF m 0 #[rv sv] [])
  refine own_st (fun _ k => XS.aloadN X0.here hx rfl (hb hby d1_0) rfl rfl k) ?_
  show own_Goes p e below s (Q1v Z sv sh h0 n0) rRrm1v.cells rRrm1v.slots s₁ (mkF m 1 #[rv sv] [(.ref sv)])
  obtain ⟨T1, X1, e1, st1⟩ := getS2 X0 hx hZ hown (host := "") (Or.inl (hw _ (List.mem_of_getElem? (i := 8) rfl))) Via.refl e0 p_0 (g := (mkF m 1 #[rv sv] [(.ref sv)])) rfl (hb hby d1_1)
  refine own_st st1 ?_
  show own_Goes p e below s (Q1v Z sv sh h0 n0) rRrm1v.cells rRrm1v.slots T1 (mkF m 4 #[rv sv] [(.ref sh), (.ref sv)])
  refine own_st (fun _ k => XT.acmpYes X1.here hx rfl (pc0 := 4) (pc' := 13) rfl (hb hby d1_4) rfl rfl rfl (XT.aa_ne_t (fun q => p_2 (Value.ref.inj q))) (by decide) (by decide) k) ?_
  show own_Goes p e below s (Q1v Z sv sh h0 n0) rRrm1v.cells rRrm1v.slots T1 (mkF m 13 #[rv sv] [])
  obtain ⟨T2, X2, e2, st2⟩ := getS2 X1 hx hZ hown (host := "") (Or.inl (hw _ (List.mem_of_getElem? (i := 8) rfl))) Via.refl e1 p_0 (g := (mkF m 13 #[rv sv] [])) rfl (hb hby d1_13)
  refine own_st st2 ?_
  show own_Goes p e below s (Q1v Z sv sh h0 n0) rRrm1v.cells rRrm1v.slots T2 (mkF m 16 #[rv sv] [(.ref sh)])
  refine own_retA X2 hx hlk rfl Bd.returns rfl (hb hby d1_16) (by decide) (by decide) ?_
  show Q1v Z sv sh h0 n0 (some (.ref sh)) T2.heap _
  rw [e2]
  exact ⟨rfl, N0, rfl⟩
theorem pd_0 : parseMethodDescriptor "()Lcom/example/treepass/treepass/Orientation;" = some ⟨[], some (.object "com/example/treepass/treepass/Orientation")⟩ := by decide +kernel
theorem pn_rm0 : plainFor x = true := by first | exact plainFor_of_name (by first | (simp [plainName, overriddenIn]; done) | decide +kernel) | decide +kernel
theorem ef_rm0 (m : MethodId) (p1 : Int32) : entryFrame m #[(.int p1)] maxLocals = (mkF m 0 #[iv p1, .unset, .unset] []) := by first | rfl | (simp [entryFrame, mkF, argsToLocals, Value.category, maxLocals]; done)
def Q0 (Z : State) (p1 : Int32) (sh : Addr) (sv : Addr) (h0 : Heap) (n0 : Nat) (v : Option Value) (h : Heap) (L : List Loc) : Prop := (v = some (.int (1 : Int32))) ∧ (Fr n0 L)
set_option maxRecDepth 65536 in
set_option maxHeartbeats 40000000 in
theorem rm0 (l : Launch) (Z : State) (a0 : Array Value) (hw : ∀ d ∈ tables_1, d.before a0 Z = true) (ws : List Jvm.Cond) (p1 : Int32) (sh : Addr) (sv : Addr) (h0 : Heap) (n0 : Nat) (Z0 : n0 ≤ h0.size) (p_0 : Sta Z h0 "com/example/treepass/treepass/Orientation" "HORIZONTAL" "Lcom/example/treepass/treepass/Orientation;" (.ref sh)) (p_1 : Sta Z h0 "com/example/treepass/treepass/Orientation" "VERTICAL" "Lcom/example/treepass/treepass/Orientation;" (.ref sv)) (p_2 : Exa Z h0 sh "com/example/treepass/treepass/Orientation") (p_3 : Exa Z h0 sv "com/example/treepass/treepass/Orientation") (p_4 : sv ≠ sh) :
    MetFree l x (head1 (Jvm.Cond.code x code maxLocals ret :: ws) room_1) (fun a U => a = #[(.int p1)] ∧ Z.Warmed39 U.vm ∧ U.heap = h0) (fun _ _ _ _ _ => True) (fun _ U o U' => ∃ v L, o = .returned v ∧ Q0 Z p1 sh sv h0 n0 v U'.heap L ∧ FrameEnd U o U' L 0 0) := by
  refine MetFree.of_bodySF pn_rm0 hisR ?_
  intro p e s m args below meth c s₁ Bd hml0 hP hK
  obtain ⟨rfl, hZ, hh⟩ := hP
  have hx := Bd.exec
  have hby := Bd.bytes
  have hlk : meth.locks = false := Bd.notSynchronized
  have hml : c.maxLocals = 3 := hml0
  have hown : s.vm.findClass "com/example/treepass/treepass/OrientationAcrossPinLaw" = some m.cls := findClass_of_methodNamed Bd.named
  have hnm := (name_of_methodNamed Bd.named Bd.method).1
  have X0 : Stand p l e room_1 s m #[(.int p1)] below meth c s₁ [] 0 0 := Stand.of_body Bd
  have e0 : s₁.heap = h0 := by rw [← hh, Bd.state]; rfl
  have N0 := Fr.nil n0
  show own_Goes p e below s (Q0 Z p1 sh sv h0 n0) 0 0 s₁ (entryFrame m #[(.int p1)] maxLocals)
  rw [ef_rm0 m p1]
  show own_Goes p e below s (Q0 Z p1 sh sv h0 n0) 0 0 s₁ (mkF m 0 #[iv p1, .unset, .unset] [])
  refine own_st (fun _ k => XS.iloadN X0.here hx rfl (hb hby at_0) rfl (XS.iconst X0.here hx rfl (hb hby at_1) (XS.iand X0.here hx rfl (hb hby at_2) rfl k))) ?_
  show own_Goes p e below s (Q0 Z p1 sh sv h0 n0) 0 0 s₁ (mkF m 3 #[iv p1, .unset, .unset] [(.int (p1 &&& (1 : Int32)))])
  rcases Classical.em ((p1 &&& (1 : Int32)) = (0 : Int32)) with q | q
  · refine own_st (fun _ k => XS.ifNo X0.here hx rfl (hb hby at_3) rfl (XT.i0_ne_f q) k) ?_
    show own_Goes p e below s (Q0 Z p1 sh sv h0 n0) 0 0 s₁ (mkF m 6 #[iv p1, .unset, .unset] [])
    obtain ⟨T1, X1, e1, st1⟩ := getS2 X0 hx hZ hown (host := "") (Or.inl (hw _ (List.mem_of_getElem? (i := 0) rfl))) Via.refl e0 p_0 (g := (mkF m 6 #[iv p1, .unset, .unset] [])) rfl (hb hby at_6)
    refine own_st st1 ?_
    show own_Goes p e below s (Q0 Z p1 sh sv h0 n0) 0 0 T1 (mkF m 9 #[iv p1, .unset, .unset] [(.ref sh)])
    refine own_st (fun _ k => XS.goto X1.here hx rfl (pc0 := 9) (pc' := 15) rfl (hb hby at_9) (by decide) (by decide) (XS.astoreN X1.here hx rfl (hb hby at_15) rfl rfl (l' := #[iv p1, rv sh, .unset]) rfl (XS.aloadN X1.here hx rfl (hb hby at_16) rfl rfl k))) ?_
    show own_Goes p e below s (Q0 Z p1 sh sv h0 n0) 0 0 T1 (mkF m 17 #[iv p1, rv sh, .unset] [(.ref sh)])
    obtain ⟨cq2, kq2, q2a, q2b, q2c⟩ := isOf hZ e1 p_2
    obtain ⟨_, _, ⟨T2, L2, k2, n2⟩, -, X2, ⟨Lc2, hQ2, l2, y2, z2⟩, st2⟩ := X1.virtualBack hx (y := (⟨"com/example/treepass/treepass/Orientation", "across", "()Lcom/example/treepass/treepass/Orientation;"⟩ : MethodName)) (z := (⟨"com/example/treepass/treepass/Orientation", "across", "()Lcom/example/treepass/treepass/Orientation;"⟩ : MethodName)) hown (mvT hZ (hw _ (List.mem_of_getElem? (i := 3) rfl))) (mvT hZ (hw _ (List.mem_of_getElem? (i := 4) rfl))) (notFace_of_selects (args := #[]) (mvT hZ (hw _ (List.mem_of_getElem? (i := 6) rfl)))) (mvT hZ (hw _ (List.mem_of_getElem? (i := 6) rfl))) (mvT hZ (hw _ (List.mem_of_getElem? (i := 5) rfl))) (by decide) (backOf (W := 0) (rm1h l Z a0 hw [] (sh) (sv) h0 n0 Z0 p_0 p_1) hZ (hw _ (List.mem_of_getElem? (i := 7) rfl)) (hw _ (List.mem_of_getElem? (i := 1) rfl)) (by decide) (by decide)) q2a q2c (g := (mkF m 17 #[iv p1, rv sh, .unset] [(.ref sh)])) rfl (by rw [hml]; rfl) (Steps.refl _) (argsL := []) (rest := []) (lenOf pd_0 rfl) rfl (by show 2 * 0 + _ ≤ _; exact Nat.le_of_eq rfl) (hb hby at_17) (fun _ _ => ⟨rfl, e1, (by decide : 0 + 0 ≤ _), (by decide : 0 + 0 ≤ _)⟩)
    dsimp only [Pt.U, Pt.locs, Pt.cells, Pt.slots] at X2 l2 y2 z2 st2 hQ2
    subst l2 y2 z2
    obtain ⟨rfl, Nq2, eq2⟩ := hQ2
    have N2 := Fr.app N0 Nq2
    refine own_st (fun _ k => st2.trans k) ?_
    show own_Goes p e below s (Q0 Z p1 sh sv h0 n0) 0 0 T2 (mkF m 20 #[iv p1, rv sh, .unset] [(.ref sv)])
    refine own_st (fun _ k => XS.astoreN X2.here hx rfl (hb hby at_20) rfl rfl (l' := #[iv p1, rv sh, rv sv]) rfl (XS.aloadN X2.here hx rfl (hb hby at_21) rfl rfl (XS.ifnullNo X2.here hx rfl (hb hby at_22) rfl (XS.aloadN X2.here hx rfl (hb hby at_25) rfl rfl (XS.aloadN X2.here hx rfl (hb hby at_26) rfl rfl (XT.acmpYes X2.here hx rfl (pc0 := 27) (pc' := 32) rfl (hb hby at_27) rfl rfl rfl (XT.aa_ne_t (fun q => p_4 (Value.ref.inj q))) (by decide) (by decide) (XS.aloadN X2.here hx rfl (hb hby at_32) rfl rfl k))))))) ?_
    show own_Goes p e below s (Q0 Z p1 sh sv h0 n0) 0 0 T2 (mkF m 33 #[iv p1, rv sh, rv sv] [(.ref sv)])
    obtain ⟨cq3, kq3, q3a, q3b, q3c⟩ := isOf hZ eq2 p_3
    obtain ⟨_, _, ⟨T3, L3, k3, n3⟩, -, X3, ⟨Lc3, hQ3, l3, y3, z3⟩, st3⟩ := X2.virtualBack hx (y := (⟨"com/example/treepass/treepass/Orientation", "across", "()Lcom/example/treepass/treepass/Orientation;"⟩ : MethodName)) (z := (⟨"com/example/treepass/treepass/Orientation", "across", "()Lcom/example/treepass/treepass/Orientation;"⟩ : MethodName)) hown (mvT hZ (hw _ (List.mem_of_getElem? (i := 3) rfl))) (mvT hZ (hw _ (List.mem_of_getElem? (i := 4) rfl))) (notFace_of_selects (args := #[]) (mvT hZ (hw _ (List.mem_of_getElem? (i := 6) rfl)))) (mvT hZ (hw _ (List.mem_of_getElem? (i := 6) rfl))) (mvT hZ (hw _ (List.mem_of_getElem? (i := 5) rfl))) (by decide) (backOf (W := 0) (rm1v l Z a0 hw [] (sv) (sh) h0 n0 Z0 p_0 p_1 p_4) hZ (hw _ (List.mem_of_getElem? (i := 7) rfl)) (hw _ (List.mem_of_getElem? (i := 1) rfl)) (by decide) (by decide)) q3a q3c (g := (mkF m 33 #[iv p1, rv sh, rv sv] [(.ref sv)])) rfl (by rw [hml]; rfl) (Steps.refl _) (argsL := []) (rest := []) (lenOf pd_0 rfl) rfl (by show 2 * 0 + _ ≤ _; exact Nat.le_of_eq rfl) (hb hby at_33) (fun _ _ => ⟨rfl, eq2, (by decide : 0 + 0 ≤ _), (by decide : 0 + 0 ≤ _)⟩)
    dsimp only [Pt.U, Pt.locs, Pt.cells, Pt.slots] at X3 l3 y3 z3 st3 hQ3
    subst l3 y3 z3
    obtain ⟨rfl, Nq3, eq3⟩ := hQ3
    have N3 := Fr.app N2 Nq3
    refine own_st (fun _ k => st3.trans k) ?_
    show own_Goes p e below s (Q0 Z p1 sh sv h0 n0) 0 0 T3 (mkF m 36 #[iv p1, rv sh, rv sv] [(.ref sh)])
    refine own_st (fun _ k => XS.aloadN X3.here hx rfl (hb hby at_36) rfl rfl (XT.acmpNo X3.here hx rfl (hb hby at_37) rfl rfl rfl (XT.aa_ne_f rfl) (XS.iconst X3.here hx rfl (hb hby at_40) (XS.goto X3.here hx rfl (pc0 := 41) (pc' := 45) rfl (hb hby at_41) (by decide) (by decide) k)))) ?_
    show own_Goes p e below s (Q0 Z p1 sh sv h0 n0) 0 0 T3 (mkF m 45 #[iv p1, rv sh, rv sv] [(.int (1 : Int32))])
    refine own_retN X3 hx hlk (t := .boolean) Bd.returns (by simp) (hb hby at_45) (by decide) (by decide) ?_
    show Q0 Z p1 sh sv h0 n0 (some (.int (nar .boolean (1 : Int32)))) T3.heap _
    rw [eq3]
    exact ⟨rfl, N3⟩
  · refine own_st (fun _ k => XS.ifYes X0.here hx rfl (pc0 := 3) (pc' := 12) rfl (hb hby at_3) rfl (XT.i0_ne_t q) (by decide) (by decide) k) ?_
    show own_Goes p e below s (Q0 Z p1 sh sv h0 n0) 0 0 s₁ (mkF m 12 #[iv p1, .unset, .unset] [])
    obtain ⟨T4, X4, e4, st4⟩ := getS2 X0 hx hZ hown (host := "") (Or.inl (hw _ (List.mem_of_getElem? (i := 11) rfl))) Via.refl e0 p_1 (g := (mkF m 12 #[iv p1, .unset, .unset] [])) rfl (hb hby at_12)
    refine own_st st4 ?_
    show own_Goes p e below s (Q0 Z p1 sh sv h0 n0) 0 0 T4 (mkF m 15 #[iv p1, .unset, .unset] [(.ref sv)])
    refine own_st (fun _ k => XS.astoreN X4.here hx rfl (hb hby at_15) rfl rfl (l' := #[iv p1, rv sv, .unset]) rfl (XS.aloadN X4.here hx rfl (hb hby at_16) rfl rfl k)) ?_
    show own_Goes p e below s (Q0 Z p1 sh sv h0 n0) 0 0 T4 (mkF m 17 #[iv p1, rv sv, .unset] [(.ref sv)])
    obtain ⟨cq5, kq5, q5a, q5b, q5c⟩ := isOf hZ e4 p_3
    obtain ⟨_, _, ⟨T5, L5, k5, n5⟩, -, X5, ⟨Lc5, hQ5, l5, y5, z5⟩, st5⟩ := X4.virtualBack hx (y := (⟨"com/example/treepass/treepass/Orientation", "across", "()Lcom/example/treepass/treepass/Orientation;"⟩ : MethodName)) (z := (⟨"com/example/treepass/treepass/Orientation", "across", "()Lcom/example/treepass/treepass/Orientation;"⟩ : MethodName)) hown (mvT hZ (hw _ (List.mem_of_getElem? (i := 3) rfl))) (mvT hZ (hw _ (List.mem_of_getElem? (i := 4) rfl))) (notFace_of_selects (args := #[]) (mvT hZ (hw _ (List.mem_of_getElem? (i := 6) rfl)))) (mvT hZ (hw _ (List.mem_of_getElem? (i := 6) rfl))) (mvT hZ (hw _ (List.mem_of_getElem? (i := 5) rfl))) (by decide) (backOf (W := 0) (rm1v l Z a0 hw [] (sv) (sh) h0 n0 Z0 p_0 p_1 p_4) hZ (hw _ (List.mem_of_getElem? (i := 7) rfl)) (hw _ (List.mem_of_getElem? (i := 1) rfl)) (by decide) (by decide)) q5a q5c (g := (mkF m 17 #[iv p1, rv sv, .unset] [(.ref sv)])) rfl (by rw [hml]; rfl) (Steps.refl _) (argsL := []) (rest := []) (lenOf pd_0 rfl) rfl (by show 2 * 0 + _ ≤ _; exact Nat.le_of_eq rfl) (hb hby at_17) (fun _ _ => ⟨rfl, e4, (by decide : 0 + 0 ≤ _), (by decide : 0 + 0 ≤ _)⟩)
    dsimp only [Pt.U, Pt.locs, Pt.cells, Pt.slots] at X5 l5 y5 z5 st5 hQ5
    subst l5 y5 z5
    obtain ⟨rfl, Nq5, eq5⟩ := hQ5
    have N5 := Fr.app N0 Nq5
    refine own_st (fun _ k => st5.trans k) ?_
    show own_Goes p e below s (Q0 Z p1 sh sv h0 n0) 0 0 T5 (mkF m 20 #[iv p1, rv sv, .unset] [(.ref sh)])
    refine own_st (fun _ k => XS.astoreN X5.here hx rfl (hb hby at_20) rfl rfl (l' := #[iv p1, rv sv, rv sh]) rfl (XS.aloadN X5.here hx rfl (hb hby at_21) rfl rfl (XS.ifnullNo X5.here hx rfl (hb hby at_22) rfl (XS.aloadN X5.here hx rfl (hb hby at_25) rfl rfl (XS.aloadN X5.here hx rfl (hb hby at_26) rfl rfl (XT.acmpYes X5.here hx rfl (pc0 := 27) (pc' := 32) rfl (hb hby at_27) rfl rfl rfl (XT.aa_ne_t (fun q => (Ne.symm p_4) (Value.ref.inj q))) (by decide) (by decide) (XS.aloadN X5.here hx rfl (hb hby at_32) rfl rfl k))))))) ?_
    show own_Goes p e below s (Q0 Z p1 sh sv h0 n0) 0 0 T5 (mkF m 33 #[iv p1, rv sv, rv sh] [(.ref sh)])
    obtain ⟨cq6, kq6, q6a, q6b, q6c⟩ := isOf hZ eq5 p_2
    obtain ⟨_, _, ⟨T6, L6, k6, n6⟩, -, X6, ⟨Lc6, hQ6, l6, y6, z6⟩, st6⟩ := X5.virtualBack hx (y := (⟨"com/example/treepass/treepass/Orientation", "across", "()Lcom/example/treepass/treepass/Orientation;"⟩ : MethodName)) (z := (⟨"com/example/treepass/treepass/Orientation", "across", "()Lcom/example/treepass/treepass/Orientation;"⟩ : MethodName)) hown (mvT hZ (hw _ (List.mem_of_getElem? (i := 3) rfl))) (mvT hZ (hw _ (List.mem_of_getElem? (i := 4) rfl))) (notFace_of_selects (args := #[]) (mvT hZ (hw _ (List.mem_of_getElem? (i := 6) rfl)))) (mvT hZ (hw _ (List.mem_of_getElem? (i := 6) rfl))) (mvT hZ (hw _ (List.mem_of_getElem? (i := 5) rfl))) (by decide) (backOf (W := 0) (rm1h l Z a0 hw [] (sh) (sv) h0 n0 Z0 p_0 p_1) hZ (hw _ (List.mem_of_getElem? (i := 7) rfl)) (hw _ (List.mem_of_getElem? (i := 1) rfl)) (by decide) (by decide)) q6a q6c (g := (mkF m 33 #[iv p1, rv sv, rv sh] [(.ref sh)])) rfl (by rw [hml]; rfl) (Steps.refl _) (argsL := []) (rest := []) (lenOf pd_0 rfl) rfl (by show 2 * 0 + _ ≤ _; exact Nat.le_of_eq rfl) (hb hby at_33) (fun _ _ => ⟨rfl, eq5, (by decide : 0 + 0 ≤ _), (by decide : 0 + 0 ≤ _)⟩)
    dsimp only [Pt.U, Pt.locs, Pt.cells, Pt.slots] at X6 l6 y6 z6 st6 hQ6
    subst l6 y6 z6
    obtain ⟨rfl, Nq6, eq6⟩ := hQ6
    have N6 := Fr.app N5 Nq6
    refine own_st (fun _ k => st6.trans k) ?_
    show own_Goes p e below s (Q0 Z p1 sh sv h0 n0) 0 0 T6 (mkF m 36 #[iv p1, rv sv, rv sh] [(.ref sv)])
    refine own_st (fun _ k => XS.aloadN X6.here hx rfl (hb hby at_36) rfl rfl (XT.acmpNo X6.here hx rfl (hb hby at_37) rfl rfl rfl (XT.aa_ne_f rfl) (XS.iconst X6.here hx rfl (hb hby at_40) (XS.goto X6.here hx rfl (pc0 := 41) (pc' := 45) rfl (hb hby at_41) (by decide) (by decide) k)))) ?_
    show own_Goes p e below s (Q0 Z p1 sh sv h0 n0) 0 0 T6 (mkF m 45 #[iv p1, rv sv, rv sh] [(.int (1 : Int32))])
    refine own_retN X6 hx hlk (t := .boolean) Bd.returns (by simp) (hb hby at_45) (by decide) (by decide) ?_
    show Q0 Z p1 sh sv h0 n0 (some (.int (nar .boolean (1 : Int32)))) T6.heap _
    rw [eq6]
    exact ⟨rfl, N6⟩
set_option maxRecDepth 65536 in
set_option maxHeartbeats 40000000 in
theorem comes_1 {Post : Tables → Env → Array Value → State → Outcome → State → Prop} (hpost : ∀ tb e args s v u, (limb_1_1.after args s (.returned v) u = true ∧ limb_1_2.after args s (.returned v) u = true ∧ True) → FrameEnd s (.returned v) u (Jvm.fieldLocs frame_1_writes args s ++ Jvm.arrayLocs frame_1_arrays args s ++ Jvm.staticLocs frame_1_statics s) 0 0 → Post tb e args s (.returned v) u) :
    ArmFor flags0 classFile x code maxLocals ret World_1 tables_1 room_1 Calls_1 rest_1 Pre_1 Post := by
  intro l hfl _ _ p e ha hc hk s m args below hf hA hF happ hP
  obtain ⟨hcalls, hrest, hpre⟩ := hP
  obtain ⟨-, -, -, hnamed, -, -, -, hat⟩ := (Spec.applies_iff hf).mp happ
  obtain ⟨hg, hn⟩ := and_e (Cond.before_iff.mp (show (Jvm.Cond.and given_1 narrow_1).before args s = true from hpre))
  obtain ⟨h1, g0⟩ := and_e hg
  obtain ⟨w0, rfl⟩ : ∃ w0 : Value, args = #[w0] := by
    have hs : args.size = 1 := by simpa [Cond.value, given_1] using h1
    obtain ⟨L⟩ := args
    match L, hs with
    | [w0], _ => exact ⟨w0, rfl⟩
  have hw := fun d (hd : d ∈ tables_1) => atoms_spec (ws := Jvm.Cond.code x code maxLocals ret :: tables_1) hat d (List.mem_cons_of_mem _ hd)
  have hfit : Fit s := fun {y c} hc i hi => by
    obtain ⟨ha, rfl⟩ := Array.getElem?_eq_some_iff.mp hc
    have q := List.all_eq_true.mp ((Array.all_eq_true_iff_forall_mem.mp hF) _ (Array.getElem_mem ha)) i (List.mem_range.mpr hi)
    simpa [Array.getElem?_eq_getElem hi] using q
  obtain ⟨i0, e0⟩ := is_v g0
  obtain rfl : w0 = (.int i0) := Option.some.inj e0
  obtain ⟨c0, r0⟩ := and_e hn
  obtain ⟨c1, r1⟩ := and_e r0
  obtain ⟨c2, r2⟩ := and_e r1
  have c3 := r2
  obtain ⟨s_HORIZONTAL, ev_HORIZONTAL⟩ := exa_v c0
  have Ex_HORIZONTAL : Exa s s.heap s_HORIZONTAL "com/example/treepass/treepass/Orientation" := Exa.start ev_HORIZONTAL c0
  have St_HORIZONTAL : Sta s s.heap "com/example/treepass/treepass/Orientation" "HORIZONTAL" "Lcom/example/treepass/treepass/Orientation;" (.ref s_HORIZONTAL) := Sta.start ev_HORIZONTAL (Or.inr ⟨(hw _ (List.mem_of_getElem? (i := 1) rfl)), (hw _ (List.mem_of_getElem? (i := 2) rfl))⟩)
  obtain ⟨s_VERTICAL, ev_VERTICAL⟩ := exa_v c1
  have Ex_VERTICAL : Exa s s.heap s_VERTICAL "com/example/treepass/treepass/Orientation" := Exa.start ev_VERTICAL c1
  have St_VERTICAL : Sta s s.heap "com/example/treepass/treepass/Orientation" "VERTICAL" "Lcom/example/treepass/treepass/Orientation;" (.ref s_VERTICAL) := Sta.start ev_VERTICAL (Or.inr ⟨(hw _ (List.mem_of_getElem? (i := 1) rfl)), (hw _ (List.mem_of_getElem? (i := 10) rfl))⟩)
  have Or_VERTICAL := own_ord ev_VERTICAL c2
  have Or_HORIZONTAL := own_ord ev_HORIZONTAL c3
  obtain ⟨n, o, h1, h2, h3, _, L, rfl, ⟨rfl, N⟩, hq⟩ := rm0 l s _ hw tables_1 i0 s_HORIZONTAL s_VERTICAL s.heap s.heap.size (Nat.le_refl _) St_HORIZONTAL St_VERTICAL Ex_HORIZONTAL Ex_VERTICAL (Fld.ne Or_VERTICAL Or_HORIZONTAL (by decide)) p e ha hc hk s m _ below hf ((Spec.applies_iff_loose hf).mp happ).1 ⟨rfl, State.Warmed39.refl s, rfl⟩ trivial
  refine ⟨n, _, h1, h2, h3, hpost _ _ _ _ _ _ ⟨Cond.after_iff.mpr rfl, Cond.after_iff.mpr (eq_i res_at (Term.int_eval (1)) rfl), trivial⟩ ⟨hq.1, hq.2.1, (hq.2.2.sift fun y hy => Or.inr (N y hy)).mono (by decide) (by decide)⟩⟩
theorem main_1_1 : Claimed_1_1 := comes_1 fun _ _ _ _ _ _ h hF => ⟨h.1, hF⟩
theorem main_1_2 : Claimed_1_2 := comes_1 fun _ _ _ _ _ _ h hF => ⟨h.2.1, hF⟩
end Jvm.Pilot.@@N@@
namespace Jvm.Pilot.@@N@@
open Jvm Jvm.ClassFile Sem Op Lib Jvm.Free Jvm.Stand Jvm.Pilot.@@N@@.Jvm.D
/-! MADE BY PROGRAM (witnessworld.py) out of the Statement's table words and the real class files: 12 classes; the members and pool entries that the words name. The judged class is class 1, her method 1. -/
namespace start1
open Jvm.ClassFile
def u (s : String) : CpInfo := .utf8 (stringToUtf16 s)
/-- a pool by its gaps: so many unusable entries, then the entry; so many at the end -/
def gap : Nat → List CpInfo → List CpInfo
  | 0, r => r
  | n + 1, r => .unusable :: gap n r
def poolList (es : List (Nat × CpInfo)) (last : Nat) : List CpInfo := es.foldr (fun e r => gap e.1 (e.2 :: r)) (gap last [])
def pool (es : List (Nat × CpInfo)) (last : Nat) : Array CpInfo := ⟨poolList es last⟩
def fileOf (pool : Array CpInfo) (this : Nat) (attrs : Array Attribute := #[]) (ms : Array MethodInfo := #[]) (fl : Nat := 33) (sup : Nat := 0) (ifs : Array Nat := #[]) (fds : Array FieldInfo := #[]) : ClassFile where
  minorVersion := 0
  majorVersion := 65
  constantPool := pool
  accessFlags := fl
  thisClass := this
  superClass := sup
  interfaces := ifs
  fields := fds
  methods := ms
  attributes := attrs
def plain (name : String) (sup : Option ClassId) : Class where
  name := name
  kind := .ordinary
  loader := none
  accessFlags := 33
  super := sup
  interfaces := #[]
  cf := none
  fields := #[]
  methods := #[]
  instanceTypes := #[]
  staticTypes := #[]
  resolved := #[]
  callSites := []
  init := .initialized
  statics := none
  mirror := none

def pool0 : Array CpInfo := pool [(5, u "<init>"), (0, u "()V"), (1, .class_ 10), (1, u "java/lang/Object")] 113

def k0m0 : Method := { name := "<init>", desc := "()V", sig := { parameters := [], returnType := none }, accessFlags := 1, code := none }
/-- java/lang/Object -/
def k0 : Class := { plain "java/lang/Object" none with
  accessFlags := 33
  interfaces := #[]
  cf := some (fileOf pool0 8 #[] #[{ accessFlags := 1, nameIndex := 5, descriptorIndex := 6, attributes := #[] }] 33 0 #[] #[])
  fields := #[]
  methods := #[k0m0]
  instanceTypes := #[]
  staticTypes := #[]
  resolved := Array.replicate 124 none
  statics := none }

def pool1 : Array CpInfo := pool [(2, .class_ 4), (1, u "java/lang/Object"), (0, u "<init>"), (0, u "()V"), (0, .fieldref 8 9), (0, .class_ 10), (0, .nameAndType 11 12), (0, u "com/example/treepass/treepass/Orientation"), (0, u "HORIZONTAL"), (0, u "Lcom/example/treepass/treepass/Orientation;"), (0, .fieldref 8 14), (0, .nameAndType 15 12), (0, u "VERTICAL"), (0, .methodref 8 17), (0, .nameAndType 18 19), (0, u "across"), (0, u "()Lcom/example/treepass/treepass/Orientation;"), (0, .class_ 21), (0, u "com/example/treepass/treepass/OrientationAcrossPinLaw"), (2, u "law"), (0, u "(I)Z")] 3

def k1m0 : Method := { name := "<init>", desc := "()V", sig := { parameters := [], returnType := none }, accessFlags := 2, code := none }
def k1c1 : Code := { maxStack := 2, maxLocals := 3, code := code, exceptionTable := #[], attributes := #[] }
def k1m1 : Method := { name := "law", desc := "(I)Z", sig := { parameters := [.int], returnType := some .boolean }, accessFlags := 9, code := some k1c1 }
/-- com/example/treepass/treepass/OrientationAcrossPinLaw -/
def k1 : Class := { plain "com/example/treepass/treepass/OrientationAcrossPinLaw" (some 0) with
  accessFlags := 49
  interfaces := #[]
  cf := some (fileOf pool1 20 #[] #[{ accessFlags := 2, nameIndex := 5, descriptorIndex := 6, attributes := #[] }, { accessFlags := 9, nameIndex := 24, descriptorIndex := 25, attributes := #[] }] 49 2 #[] #[])
  fields := #[]
  methods := #[k1m0, k1m1]
  instanceTypes := #[]
  staticTypes := #[]
  resolved := Array.replicate 29 none
  statics := none }

def pool2 : Array CpInfo := pool [(1, .class_ 2), (0, u "java/lang/constant/Constable"), (0, .class_ 4), (0, u "java/lang/Object")] 6

/-- java/lang/constant/Constable -/
def k2 : Class := { plain "java/lang/constant/Constable" (some 0) with
  accessFlags := 1537
  interfaces := #[]
  cf := some (fileOf pool2 1 #[] #[] 1537 3 #[] #[])
  fields := #[]
  methods := #[]
  instanceTypes := #[]
  staticTypes := #[]
  resolved := Array.replicate 11 none
  statics := none }

def pool3 : Array CpInfo := pool [(1, .class_ 2), (0, u "java/lang/Comparable"), (0, .class_ 4), (0, u "java/lang/Object")] 7

/-- java/lang/Comparable -/
def k3 : Class := { plain "java/lang/Comparable" (some 0) with
  accessFlags := 1537
  interfaces := #[]
  cf := some (fileOf pool3 1 #[] #[] 1537 3 #[] #[])
  fields := #[]
  methods := #[]
  instanceTypes := #[]
  staticTypes := #[]
  resolved := Array.replicate 12 none
  statics := none }

def pool4 : Array CpInfo := pool [(1, .class_ 2), (0, u "java/io/Serializable"), (0, .class_ 4), (0, u "java/lang/Object")] 2

/-- java/io/Serializable -/
def k4 : Class := { plain "java/io/Serializable" (some 0) with
  accessFlags := 1537
  interfaces := #[]
  cf := some (fileOf pool4 1 #[] #[] 1537 3 #[] #[])
  fields := #[]
  methods := #[]
  instanceTypes := #[]
  staticTypes := #[]
  resolved := Array.replicate 7 none
  statics := none }

def pool5 : Array CpInfo := pool [(2, .class_ 4), (1, u "java/lang/Enum"), (0, u "name"), (0, u "Ljava/lang/String;"), (2, u "ordinal"), (0, u "I"), (1, .class_ 14), (1, u "java/lang/Object"), (4, u "hash"), (86, .class_ 108), (1, u "java/lang/Enum$EnumDesc"), (2, .class_ 112), (0, u "java/lang/constant/Constable"), (0, .class_ 114), (0, u "java/lang/Comparable"), (0, .class_ 116), (0, u "java/io/Serializable")] 87

/-- java/lang/Enum -/
def k5 : Class := { plain "java/lang/Enum" (some 0) with
  accessFlags := 1057
  interfaces := #[2, 3, 4]
  cf := some (fileOf pool5 2 #[.nestMembers #[106]] #[] 1057 12 #[111, 113, 115] #[{ accessFlags := 18, nameIndex := 5, descriptorIndex := 6, attributes := #[] }, { accessFlags := 18, nameIndex := 9, descriptorIndex := 10, attributes := #[] }, { accessFlags := 2, nameIndex := 19, descriptorIndex := 10, attributes := #[] }])
  fields := #[{ name := "name", type := (.object "java/lang/String"), accessFlags := 18, slot := 0, constantValue := 0 }, { name := "ordinal", type := .int, accessFlags := 18, slot := 1, constantValue := 0 }, { name := "hash", type := .int, accessFlags := 2, slot := 2, constantValue := 0 }]
  methods := #[]
  instanceTypes := #[(.object "java/lang/String"), .int, .int]
  staticTypes := #[]
  resolved := Array.replicate 204 none
  statics := none }

def pool6 : Array CpInfo := pool [(1, .class_ 2), (0, u "com/example/treepass/treepass/Orientation"), (0, .fieldref 1 4), (0, .nameAndType 5 6), (0, u "HORIZONTAL"), (0, u "Lcom/example/treepass/treepass/Orientation;"), (0, .fieldref 1 8), (0, .nameAndType 9 6), (0, u "VERTICAL"), (2, u "$VALUES"), (0, u "[Lcom/example/treepass/treepass/Orientation;"), (6, .class_ 22), (1, u "java/lang/Enum"), (101, u "across"), (0, u "()Lcom/example/treepass/treepass/Orientation;")] 19

def k6c0 : Code := { maxStack := 2, maxLocals := 1, code := prog_42_method_4_code, exceptionTable := #[], attributes := #[] }
def k6m0 : Method := { name := "across", desc := "()Lcom/example/treepass/treepass/Orientation;", sig := { parameters := [], returnType := some (.object "com/example/treepass/treepass/Orientation") }, accessFlags := 0, code := some k6c0 }
/-- com/example/treepass/treepass/Orientation -/
def k6 : Class := { plain "com/example/treepass/treepass/Orientation" (some 5) with
  accessFlags := 16433
  interfaces := #[]
  cf := some (fileOf pool6 1 #[] #[{ accessFlags := 0, nameIndex := 124, descriptorIndex := 125, attributes := #[] }] 16433 20 #[] #[{ accessFlags := 16409, nameIndex := 5, descriptorIndex := 6, attributes := #[] }, { accessFlags := 16409, nameIndex := 9, descriptorIndex := 6, attributes := #[] }, { accessFlags := 4122, nameIndex := 12, descriptorIndex := 13, attributes := #[] }])
  fields := #[{ name := "HORIZONTAL", type := (.object "com/example/treepass/treepass/Orientation"), accessFlags := 16409, slot := 0, constantValue := 0 }, { name := "VERTICAL", type := (.object "com/example/treepass/treepass/Orientation"), accessFlags := 16409, slot := 1, constantValue := 0 }, { name := "$VALUES", type := (.array (.object "com/example/treepass/treepass/Orientation")), accessFlags := 4122, slot := 2, constantValue := 0 }]
  methods := #[k6m0]
  instanceTypes := #[(.object "java/lang/String"), .int, .int]
  staticTypes := #[(.object "com/example/treepass/treepass/Orientation"), (.object "com/example/treepass/treepass/Orientation"), (.array (.object "com/example/treepass/treepass/Orientation"))]
  resolved := Array.replicate 145 none
  statics := some 0 }

def pool7 : Array CpInfo := pool [(1, u "java/lang/Cloneable"), (0, .class_ 1), (0, u "java/lang/Object"), (0, .class_ 3)] 3

/-- java/lang/Cloneable -/
def k7 : Class := { plain "java/lang/Cloneable" (some 0) with
  accessFlags := 1537
  interfaces := #[]
  cf := some (fileOf pool7 2 #[] #[] 1537 4 #[] #[])
  fields := #[]
  methods := #[]
  instanceTypes := #[]
  staticTypes := #[]
  resolved := Array.replicate 8 none
  statics := none }

/-- the primitive byte -/
def k8 : Class := { plain "byte" none with kind := .primitive 'B', accessFlags := 0x411 }
/-- [B -/
def k9 : Class := { plain "[B" (some 0) with kind := .array 8 .byte, interfaces := #[7, 4], accessFlags := 1041 }

/-- the primitive int -/
def k10 : Class := { plain "int" none with kind := .primitive 'I', accessFlags := 0x411 }
/-- [I -/
def k11 : Class := { plain "[I" (some 0) with kind := .array 10 .int, interfaces := #[7, 4], accessFlags := 1041 }

def heap : Heap := #[{ cls := 6, slots := #[.ref 1, .ref 2, .null], vm := .statics 6 },
  { cls := 6, slots := #[.null, .int 0, .int 0], vm := .none },
  { cls := 6, slots := #[.null, .int 1, .int 0], vm := .none }]
def classes : Array Class := #[k0, k1, k2, k3, k4, k5, k6, k7, k8, k9, k10, k11]
def interned : List (Array UInt16 × Addr) := []
def slotsUsed : Nat := 9
def theMethod : MethodId := ⟨1, 1⟩
def args0 : Array Value := #[.int 5]
def aboutOver (below : List Frame) : State where
  vm := { classes := classes, interned := interned.toArray }
  heap := heap
  slotsUsed := slotsUsed
  threads := #[{ frames := .invoking theMethod args0 :: below }]
def below0 : List Frame := [.native { method := ⟨0, 0⟩, args := #[] }]
def about1 : State := aboutOver below0
def p0 : Program := .bare "" "" ""
def e0 : Env := launch0.env 0 0 0
theorem w_frames : about1.frames = Frame.invoking theMethod args0 :: below0 := rfl
set_option maxRecDepth 65536 in
theorem w_args : argsFit about1.vm theMethod args0 = true := by decide +kernel
set_option maxRecDepth 65536 in
theorem w_heap : heapFits about1 = true := by decide +kernel
set_option maxRecDepth 65536 in
theorem w_runnable : about1.curStatus? = some .runnable := by decide +kernel
set_option maxRecDepth 65536 in
theorem w_alone : about1.alone = true := by decide +kernel
set_option maxRecDepth 65536 in
theorem w_named : about1.methodNamed? x = some theMethod := by decide +kernel
set_option maxRecDepth 65536 in
theorem w_hears : about1.hears theMethod below0 = true := by decide +kernel
set_option maxRecDepth 65536 in
theorem w_ripe : about1.ripe theMethod args0 below0 = true := by decide +kernel
theorem w_running : about1.status = .running := rfl
set_option maxRecDepth 65536 in
theorem w_room : about1.hasRoom e0.platform room_1 = true :=
  launch0.hasRoom_least _ room_1 (by decide +kernel) (by decide +kernel) (by decide +kernel) (by decide +kernel) (by decide +kernel) (by decide +kernel)
theorem allAtoms_all (ts : List Jvm.Cond) (a : Array Jvm.Value) (st : Jvm.State) : (allAtoms ts).before a st = ts.all (fun c => c.before a st) := by
  induction ts with
  | nil => rfl
  | cons c t ih =>
    show (Jvm.Cond.and c (allAtoms t)).before a st = _
    rw [Jvm.Cond.before_and, ih, List.all_cons]
def words1 : List Jvm.Cond := Jvm.Cond.code x code maxLocals ret :: tables_1
/-- a 'code' word, met by the world's own term for the bytes: nothing is compared byte by byte -/
theorem code_word {y : MethodName} {bytes : ByteArray} {mx : Nat} {rt : Option FieldType} {a : Array Value} {s : State} {m : MethodId} {meth : Method} {c : Code} (h1 : s.methodNamed? y = some m) (h2 : s.vm.method? m = some meth) (h3 : meth.code = some c) (h4 : c.code = bytes)
    (h5 : (c.maxLocals == mx && c.exceptionTable.isEmpty && decide (c.maxStack ≤ mostOperands) && decide (meth.sig.returnType = rt) && !meth.locks && decide (parseMethodDescriptor y.desc = some meth.sig)) = true) : (Jvm.Cond.code y bytes mx rt).before a s = true := by
  simp only [Bool.and_eq_true, beq_iff_eq, Bool.not_eq_true', decide_eq_true_eq] at h5
  obtain ⟨⟨⟨⟨⟨g1, g2⟩, g3⟩, g4⟩, g5⟩, g6⟩ := h5
  simp [Cond.before, Cond.holds, Cond.value, h1, h2, h3, h4, g1, g2, g3, g4, g5, g6]
def isCode : Jvm.Cond → Bool
  | .code _ _ _ _ => true
  | _ => false
theorem all_split {L : List Jvm.Cond} {P : Jvm.Cond → Bool} (h1 : L.all (fun c => isCode c || P c) = true) (h2 : ∀ c ∈ L.filter isCode, P c = true) : L.all P = true := by
  refine List.all_eq_true.mpr fun c hc => ?_
  have h := List.all_eq_true.mp h1 c hc
  rcases Bool.eq_false_or_eq_true (isCode c) with hi | hi
  · exact h2 c (List.mem_filter.mpr ⟨hc, hi⟩)
  · simpa [hi] using h
set_option maxRecDepth 65536 in
theorem w_c0 : (Jvm.Cond.code x code maxLocals ret).before args0 about1 = true := code_word (m := ⟨1, 1⟩) (meth := k1m1) (c := k1c1) (by decide +kernel) rfl rfl rfl (by decide +kernel)
set_option maxRecDepth 65536 in
theorem w_c1 : (Jvm.Cond.code ({ cls := "com/example/treepass/treepass/Orientation", name := "across", desc := "()Lcom/example/treepass/treepass/Orientation;" } : Jvm.MethodName) prog_42_method_4_code (1 : Nat) (Option.some (Jvm.ClassFile.FieldType.object "com/example/treepass/treepass/Orientation"))).before args0 about1 = true := code_word (m := ⟨6, 0⟩) (meth := k6m0) (c := k6c0) (by decide +kernel) rfl rfl rfl (by decide +kernel)
def codes1 : List Jvm.Cond := [Jvm.Cond.code x code maxLocals ret, Jvm.Cond.code ({ cls := "com/example/treepass/treepass/Orientation", name := "across", desc := "()Lcom/example/treepass/treepass/Orientation;" } : Jvm.MethodName) prog_42_method_4_code (1 : Nat) (Option.some (Jvm.ClassFile.FieldType.object "com/example/treepass/treepass/Orientation"))]
set_option maxRecDepth 65536 in
theorem codes_eq : words1.filter isCode = codes1 := rfl
theorem w_codes : ∀ c ∈ words1.filter isCode, c.before args0 about1 = true := by
  rw [codes_eq]
  intro c hc
  simp only [codes1, List.mem_cons, List.not_mem_nil, or_false] at hc
  rcases hc with rfl | rfl
  · exact w_c0
  · exact w_c1
set_option maxRecDepth 65536 in
theorem w_t1 : words1.all (fun c => isCode c || c.before args0 about1) = true := by decide +kernel
theorem w_tables : (allAtoms (Jvm.Cond.code x code maxLocals ret :: tables_1)).before args0 about1 = true := by
  rw [allAtoms_all]
  show words1.all (fun c => c.before args0 about1) = true
  refine all_split ?_ w_codes
  rw [w_t1]
set_option maxRecDepth 65536 in
theorem w_case : (Jvm.Cond.and given_1 narrow_1).before args0 about1 = true := by decide +kernel
theorem w_applies : (headSpec (Jvm.Cond.code x code maxLocals ret :: tables_1) room_1).applies x e0.platform about1 = true :=
  (Spec.applies_iff w_frames).mpr ⟨w_running, w_runnable, w_alone, w_named, w_hears, w_ripe, w_room, w_tables⟩
theorem atStart : AtStart classFile x code maxLocals ret World_1 tables_1 room_1 Calls_1 rest_1 Pre_1 launch0 p0 e0 about1 theMethod args0 below0 :=
  ⟨lists_1, trivial, launch0.admits_env _ _ _, launch0.least_env, fairChoices_fair.cas, fairChoices_fair.clock, w_frames, w_args, w_heap, w_applies, trivial, trivial, w_case⟩
end start1
theorem witness_1 : WitnessClaimed_1 := ⟨start1.p0, start1.e0, start1.about1, start1.theMethod, start1.args0, start1.below0, start1.atStart⟩
end Jvm.Pilot.@@N@@
