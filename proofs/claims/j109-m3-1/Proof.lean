import JvmDerived
import JvmDerived.Pilot.@@N@@Statement
import JvmDerived.Pilot.@@N@@Code
set_option linter.unusedVariables false
set_option linter.unusedSimpArgs false
namespace Jvm.RoadKit
open Sem ClassFile Op Lib Jvm.Stand Jvm.Free Jvm.LawKit
section New
variable {p : Program} {l : Launch} {e : Env} {R : Room} {s : State} {m : MethodId} {args : Array Value} {below : List Frame} {meth : Method} {c : Code} {T T' : State} {locs : List Loc} {cells slots : Nat} {Q : Option Value → Heap → List Loc → Prop} {cc ss : Nat} {g g' : JFrame} {pc : Nat} {Ls : Array Slot}
/-- from here the body comes to an end that meets Q -/
def own_Goes (p : Program) (e : Env) (below : List Frame) (s : State) (Q : Option Value → Heap → List Loc → Prop) (cc ss : Nat) (T : State) (g : JFrame) : Prop :=
  ∃ s₂ o, Steps p.tables e below (T.setTop g) s₂ ∧ s₂.status = .running ∧ Ended s₂ below o ∧ ∃ v L, o = .returned v ∧ Q v s₂.heap L ∧ FrameEnd s o s₂ L cc ss
theorem own_st (h : ∀ t, Steps p.tables e below (T'.setTop g') t → Steps p.tables e below (T.setTop g) t) (k : own_Goes p e below s Q cc ss T' g') : own_Goes p e below s Q cc ss T g := by
  obtain ⟨s₂, o, h1, r⟩ := k; exact ⟨s₂, o, h _ h1, r⟩
theorem own_end {v : Option Value} (X : Stand p l e R s m args below meth c T locs cells slots) (hlk : meth.locks = false) (hv : meth.sig.returnType = none → v = none) (hc : cells ≤ cc) (hs : slots ≤ ss) (hQ : Q v T.heap locs)
    (st : ∀ fs, (∀ (f : JFrame) (acts : List Action), f.method = m → f.locked = none → f.entered = [] → (doReturn e (T.setTop f) acts v).1 = T.setFrames fs) → Steps p.tables e below (T.setTop g) (T.setFrames fs)) : own_Goes p e below s Q cc ss T g := by
  obtain ⟨fs, hr, hrun, hended, hW, hsame⟩ := X.leave (v := v) hv hlk
  exact ⟨_, _, st fs hr, hrun, hended, _, _, rfl, hQ, ⟨_, rfl⟩, hW, hsame.mono hc hs⟩
theorem own_retN (X : Stand p l e R s m args below meth c T locs cells slots) (hx : p.tables.exec = Jvm.exec) (hlk : meth.locks = false) {t : FieldType} {z : Int32} {rest : List Value} (hret : meth.sig.returnType = some t) (ht : t = .boolean ∨ t = .byte ∨ t = .char ∨ t = .short) (hd : decode c.code pc = .ok (.ireturn, 1)) (hc : cells ≤ cc) (hs : slots ≤ ss) (hQ : Q (some (.int (nar t z))) T.heap locs) : own_Goes p e below s Q cc ss T (mkF m pc Ls (.int z :: rest)) :=
  own_end X hlk (fun h => by rw [hret] at h; cases h) hc hs hQ fun fs hr => retN X hx hret ht hd hr
theorem own_retI (X : Stand p l e R s m args below meth c T locs cells slots) (hx : p.tables.exec = Jvm.exec) (hlk : meth.locks = false) {z : Int32} {rest : List Value} (hret : meth.sig.returnType = some .int) (hd : decode c.code pc = .ok (.ireturn, 1)) (hc : cells ≤ cc) (hs : slots ≤ ss) (hQ : Q (some (.int z)) T.heap locs) : own_Goes p e below s Q cc ss T (mkF m pc Ls (.int z :: rest)) :=
  own_end X hlk (fun h => by rw [hret] at h; cases h) hc hs hQ fun fs hr => retOut X hx hret rfl (Or.inl ⟨rfl, Or.inl rfl, _, rfl⟩) hd hr
theorem own_retL (X : Stand p l e R s m args below meth c T locs cells slots) (hx : p.tables.exec = Jvm.exec) (hlk : meth.locks = false) {z : Int64} {rest : List Value} (hret : meth.sig.returnType = some .long) (hd : decode c.code pc = .ok (.lreturn, 1)) (hc : cells ≤ cc) (hs : slots ≤ ss) (hQ : Q (some (.long z)) T.heap locs) : own_Goes p e below s Q cc ss T (mkF m pc Ls (.long z :: rest)) :=
  own_end X hlk (fun h => by rw [hret] at h; cases h) hc hs hQ fun fs hr => retOut X hx hret rfl (Or.inr (Or.inl ⟨rfl, rfl, _, rfl⟩)) hd hr
theorem own_narR {t : FieldType} {w : Value} (hw : w.isRef = true) : narrow t w = w := by rcases ref_cases hw with rfl | ⟨a, rfl⟩ <;> cases t <;> rfl
theorem own_fitR {n : String} {w : Value} (hw : w.isRef = true) : fits (.object n) w = true := by rcases ref_cases hw with rfl | ⟨a, rfl⟩ <;> rfl
theorem own_retA (X : Stand p l e R s m args below meth c T locs cells slots) (hx : p.tables.exec = Jvm.exec) (hlk : meth.locks = false) {w : Value} {t : FieldType} {rest : List Value} (hw : w.isRef = true) (hret : meth.sig.returnType = some t) (ht : t.isReference = true) (hd : decode c.code pc = .ok (.areturn, 1)) (hc : cells ≤ cc) (hs : slots ≤ ss) (hQ : Q (some w) T.heap locs) : own_Goes p e below s Q cc ss T (mkF m pc Ls (w :: rest)) :=
  own_end X hlk (fun h => by rw [hret] at h; cases h) hc hs hQ fun fs hr => retOut X hx hret (own_narR hw) (Or.inr (Or.inr (Or.inr (Or.inr ⟨rfl, ht, hw⟩)))) hd hr
theorem own_ret0 (X : Stand p l e R s m args below meth c T locs cells slots) (hx : p.tables.exec = Jvm.exec) (hlk : meth.locks = false) (hret : meth.sig.returnType = none) (hd : decode c.code pc = .ok (.return_, 1)) (hc : cells ≤ cc) (hs : slots ≤ ss) (hQ : Q none T.heap locs) : own_Goes p e below s Q cc ss T (mkF m pc Ls []) :=
  own_end X hlk (fun _ => rfl) hc hs hQ fun fs hr => X.returnOut hx hret hd hr
theorem own_nsr {Z : State} {a0 : Array Value} {O K : String} {n : Nat} (w : (Cond.noSuperclass O).before a0 Z = true) (wk : (Cond.instantiable K n).before a0 Z = true) (hn : O ≠ K) : NS Z O K := by
  obtain ⟨c, k, h1, h2, h3, -, -⟩ := Cond.noSuperclass_spec w
  obtain ⟨t, kt, g1, -⟩ := Cond.instantiable_spec wk
  have ne := ids_ne h1 g1 hn
  refine ⟨c, t, h1, g1, fun fuel => ?_⟩
  cases fuel with
  | zero => rfl
  | succ f => simp [Vm.isSubclassAux, ne, h2, h3]
theorem own_nsn {Z : State} {a0 : Array Value} {C S K : String} {n : Nat} (w : (Cond.superclass C S).before a0 Z = true) (wk : (Cond.instantiable K n).before a0 Z = true) (q : NS Z C K) (hn : C ≠ K) : ∃ c t, Z.vm.findClass C = some c ∧ Z.vm.findClass K = some t ∧ Z.vm.assignable c t = false := by
  obtain ⟨c, t, h0, g0, n3⟩ := q
  obtain ⟨p, k, kp, h1, h2, h3, h4, h5, -, h7⟩ := Cond.superclass_spec h0 w
  obtain ⟨t', kt, g1, g2, g5, g6, -⟩ := Cond.instantiable_spec wk
  cases g0.symm.trans g1
  have g7 : kt.isInterface = false := by simp only [Bool.or_eq_false_iff] at g6; exact g6.1
  have ne := ids_ne h0 g0 hn
  refine ⟨c, t, h0, g0, ?_⟩
  show Z.vm.assignableAux (255 + 1) c t = false
  simp [Vm.assignableAux, ne, h2, g2, h5, g5, g7, Vm.isSubclass, n3]
theorem own_Sta_keep {Z : State} {h h' : Heap} {ws : List Addr} {C n d : String} {w : Value} (F : Sta Z h C n d w) (K : Keep h h' ws) (q : ∀ x ∈ ws, ∀ cell : Cell, h[x]? = some cell → cell.vm.isStatics = false) : Sta Z h' C n d w := by
  obtain ⟨cf, i, k, f, st, cell, h1, h2, h3, h4, h5, h6, h7⟩ := F
  exact ⟨cf, i, k, f, st, cell, h1, h2, h3, h4, K.2.1 st cell h5 (fun z => by rw [q st z cell h5] at h6; cases h6), h6, h7⟩
end New
end Jvm.RoadKit
namespace Jvm.Pilot.@@N@@
open Jvm Jvm.ClassFile Sem Op Lib Jvm.Free Jvm.Stand Jvm.LawKit Jvm.RoadKit Bundle Jvm.Pilot.@@N@@.Jvm.D
def own_b (P : Prop) [Decidable P] : Int32 := if P then 1 else 0
theorem own_bt {P : Prop} [Decidable P] (h : P) : (some (Value.int (nar .boolean 1)) : Option Value) = some (.int (own_b P)) := by rw [own_b, if_pos h]; rfl
theorem own_bf {P : Prop} [Decidable P] (h : ¬ P) : (some (Value.int (nar .boolean 0)) : Option Value) = some (.int (own_b P)) := by rw [own_b, if_neg h]; rfl
theorem own_b1 {P : Prop} [Decidable P] (h : P) : own_b P = 1 := if_pos h
theorem own_b0 {P : Prop} [Decidable P] (h : ¬ P) : own_b P = 0 := if_neg h
theorem own_bc {P P' : Prop} [Decidable P] [Decidable P'] (h : P ↔ P') : own_b P = own_b P' := by simp only [own_b, h]
theorem own_dv (x : Int32) : (x &&& 2147483647).toInt = x.toInt % 2147483648 := by
  have := c_mask x 2147483647 31 (by decide) (by decide); simpa using this
theorem own_o (x : Int32) : 0 ≤ ((x &&& 2147483647) % 9).toInt ∧ ((x &&& 2147483647) % 9).toInt ≤ 8 := by
  have h1 := (c_and x 2147483647 (by decide)).1
  have h2 := (c_irem (x &&& 2147483647) 9 9 (by decide)).1 h1
  omega
theorem own_8 {o : Int32} (h : 0 ≤ o.toInt ∧ o.toInt ≤ 8) : ((8 - o) + 1).toInt = 9 - o.toInt := by
  have h1 := c_isub 8 o; have h2 := c_iadd (8 - o) 1; have := rng32 (8 - o); have := rng32 ((8 - o) + 1)
  simp only [Int32.reduceToInt] at h1 h2; omega
theorem own_nz {o : Int32} (h : 0 ≤ o.toInt ∧ o.toInt ≤ 8) : ((8 - o) + 1) ≠ 0 := by
  intro q; have h1 := own_8 h; rw [q] at h1; simp only [Int32.reduceToInt] at h1; omega
theorem own_l {o x : Int32} (h : 0 ≤ o.toInt ∧ o.toInt ≤ 8) : 0 ≤ ((x &&& 2147483647) % ((8 - o) + 1)).toInt ∧ o.toInt + ((x &&& 2147483647) % ((8 - o) + 1)).toInt ≤ 8 := by
  have h1 := (c_and x 2147483647 (by decide)).1; have h2 := own_8 h
  have h3 := (c_iremV (x &&& 2147483647) ((8 - o) + 1)).1 h1 (by omega)
  omega
theorem own_1 {l : Int32} (h : 0 ≤ l.toInt ∧ l.toInt ≤ 8) : (l + 1).toInt = l.toInt + 1 := by
  have h2 := c_iadd l 1; have := rng32 (l + 1); simp only [Int32.reduceToInt] at h2; omega
theorem own_nz1 {l : Int32} (h : 0 ≤ l.toInt ∧ l.toInt ≤ 8) : (l + 1) ≠ 0 := by
  intro q; have h1 := own_1 h; rw [q] at h1; simp only [Int32.reduceToInt] at h1; omega
theorem own_s {l x : Int32} (h : 0 ≤ l.toInt ∧ l.toInt ≤ 8) : 0 ≤ ((x &&& 2147483647) % (l + 1)).toInt ∧ ((x &&& 2147483647) % (l + 1)).toInt ≤ l.toInt := by
  have h1 := (c_and x 2147483647 (by decide)).1; have h2 := own_1 h
  have h3 := (c_iremV (x &&& 2147483647) (l + 1)).1 h1 (by omega)
  omega
theorem own_add {x y : Int32} (h : 0 ≤ x.toInt) (h2 : 0 ≤ y.toInt) (h3 : x.toInt + y.toInt ≤ 100) : (x + y).toInt = x.toInt + y.toInt := by
  have h4 := c_iadd x y; have := rng32 (x + y); omega
theorem own_byte (x : Int32) : nar .byte ((x &&& 127).toInt8.toInt32) = x &&& 127 ∧ ¬ nar .byte ((x &&& 127).toInt8.toInt32) < 0 := by
  have h1 := c_and x 127 (by decide)
  have h2 := c_i2b (x &&& 127)
  have h4 : (x &&& 127).toInt8.toInt32 = x &&& 127 := by
    refine Int32.toInt_inj.mp ?_; simp only [Int32.reduceToInt] at h1; omega
  have h3 : nar .byte ((x &&& 127).toInt8.toInt32) = x &&& 127 := by
    show ((x &&& 127).toInt8.toInt32).toInt8.toInt32 = _
    rw [h4, h4]
  rw [h3]; refine ⟨rfl, ?_⟩
  simp only [Int32.lt_iff_toInt_lt, Int32.reduceToInt] at h1 ⊢; omega
theorem own_get8 {x d : Value} {n : Nat} (h : n < 8) : [x, x, x, x, x, x, x, x].getD n d = x := by
  match n, h with
  | 0, _ => rfl
  | 1, _ => rfl
  | 2, _ => rfl
  | 3, _ => rfl
  | 4, _ => rfl
  | 5, _ => rfl
  | 6, _ => rfl
  | 7, _ => rfl
theorem own_clamp {q : Int32} (h : 0 ≤ q.toInt ∧ q.toInt < 8) : ¬ q < 0 ∧ q < (8 : Int32) ∧ q.toNatClampNeg < 8 := by
  have h0 : ¬ q < 0 := by simp only [Int32.lt_iff_toInt_lt, Int32.reduceToInt]; omega
  refine ⟨h0, by simp only [Int32.lt_iff_toInt_lt, Int32.reduceToInt]; omega, ?_⟩
  have := nat_of h0; omega
theorem own_shl (y : Int64) : ((0 : Int64) ||| (y <<< ((0 : Int32) &&& 0x3f).toInt64)) = y := by
  have e : ((0 : Int32) &&& 0x3f).toInt64 = 0 := by decide
  rw [e]; simp
theorem own_mm (x : Int32) : (x &&& 127) &&& 127 = x &&& 127 := by rw [Int32.and_assoc]; rfl
abbrev rRrm1 : Room := { frames := 1, cells := 0, slots := 0, locals := 12 }
theorem d1_0 : decode prog_59_method_2_code 0 = .ok (.aload_n 0, 1) := by decide +kernel
theorem d1_1 : decode prog_59_method_2_code 1 = .ok (.invokespecial 23, 3) := by decide +kernel
theorem d1_4 : decode prog_59_method_2_code 4 = .ok (.aload_n 0, 1) := by decide +kernel
theorem d1_5 : decode prog_59_method_2_code 5 = .ok (.aload_n 1, 1) := by decide +kernel
theorem d1_6 : decode prog_59_method_2_code 6 = .ok (.putfield 29, 3) := by decide +kernel
theorem d1_9 : decode prog_59_method_2_code 9 = .ok (.aload_n 0, 1) := by decide +kernel
theorem d1_10 : decode prog_59_method_2_code 10 = .ok (.iload_n 2, 1) := by decide +kernel
theorem d1_11 : decode prog_59_method_2_code 11 = .ok (.putfield 33, 3) := by decide +kernel
theorem d1_14 : decode prog_59_method_2_code 14 = .ok (.aload_n 0, 1) := by decide +kernel
theorem d1_15 : decode prog_59_method_2_code 15 = .ok (.iload_n 2, 1) := by decide +kernel
theorem d1_16 : decode prog_59_method_2_code 16 = .ok (.iload_n 3, 1) := by decide +kernel
theorem d1_17 : decode prog_59_method_2_code 17 = .ok (.iadd, 1) := by decide +kernel
theorem d1_18 : decode prog_59_method_2_code 18 = .ok (.putfield 37, 3) := by decide +kernel
theorem d1_21 : decode prog_59_method_2_code 21 = .ok (.aload_n 0, 1) := by decide +kernel
theorem d1_22 : decode prog_59_method_2_code 22 = .ok (.iload 4, 2) := by decide +kernel
theorem d1_24 : decode prog_59_method_2_code 24 = .ok (.putfield 40, 3) := by decide +kernel
theorem d1_27 : decode prog_59_method_2_code 27 = .ok (.return_, 1) := by decide +kernel
theorem pn_rm1 : plainFor (⟨"com/example/wirefold/wirefold/WireReader", "<init>", "([BIIZ)V"⟩ : MethodName) = true := by first | exact plainFor_of_name (by first | (simp [plainName, overriddenIn]; done) | decide +kernel) | decide +kernel
theorem ef_rm1 (m : MethodId) (a : Addr) (d : Addr) (of : Int32) (ln : Int32) (z1 : Int32) : entryFrame m #[(.ref a), (.ref d), (.int of), (.int ln), (.int z1)] 5 = (mkF m 0 #[rv a, rv d, iv of, iv ln, iv z1] []) := by first | (simp [entryFrame, mkF, argsToLocals, Value.category]; done) | rfl
def Q1 (Z : State) (a : Addr) (d : Addr) (of : Int32) (ln : Int32) (z1 : Int32) (h0 : Heap) (n0 : Nat) (v_ : Option Value) (h_ : Heap) (L_ : List Loc) : Prop := (v_ = none) ∧ (Fr n0 L_) ∧ (Keep h0 h_ [a]) ∧ (Fld Z h_ a "com/example/wirefold/wirefold/WireReader" "data" "[B" (.ref d)) ∧ (Fld Z h_ a "com/example/wirefold/wirefold/WireReader" "position" "I" (.int of)) ∧ (Fld Z h_ a "com/example/wirefold/wirefold/WireReader" "end" "I" (.int (of + ln))) ∧ (Fld Z h_ a "com/example/wirefold/wirefold/WireReader" "shortestOnly" "Z" (.int (nar .boolean z1)))
set_option maxRecDepth 65536 in
set_option maxHeartbeats 40000000 in
theorem rm1 (l : Launch) (Z : State) (a0 : Array Value) (hw : ∀ d ∈ tables_1, d.before a0 Z = true) (ws : List Jvm.Cond) (a : Addr) (d : Addr) (of : Int32) (ln : Int32) (z1 : Int32) (h0 : Heap) (n0 : Nat) (Z0 : n0 ≤ h0.size) (p_0 : Exa Z h0 a "com/example/wirefold/wirefold/WireReader") (p_1 : Fld Z h0 a "com/example/wirefold/wirefold/WireReader" "data" "[B" .null) (p_2 : Fld Z h0 a "com/example/wirefold/wirefold/WireReader" "position" "I" (.int (0 : Int32))) (p_3 : Fld Z h0 a "com/example/wirefold/wirefold/WireReader" "end" "I" (.int (0 : Int32))) (p_4 : Fld Z h0 a "com/example/wirefold/wirefold/WireReader" "shortestOnly" "Z" (.int (0 : Int32))) (p_5 : n0 ≤ a) :
    MetFree l (⟨"com/example/wirefold/wirefold/WireReader", "<init>", "([BIIZ)V"⟩ : MethodName) (head1 (Jvm.Cond.code (⟨"com/example/wirefold/wirefold/WireReader", "<init>", "([BIIZ)V"⟩ : MethodName) prog_59_method_2_code 5 none :: ws) rRrm1) (fun a_ U_ => a_ = #[(.ref a), (.ref d), (.int of), (.int ln), (.int z1)] ∧ Z.Warmed39 U_.vm ∧ U_.heap = h0) (fun _ _ _ _ _ => True) (fun _ U_ o_ U1_ => ∃ v_ L_, o_ = .returned v_ ∧ Q1 Z a d of ln z1 h0 n0 v_ U1_.heap L_ ∧ FrameEnd U_ o_ U1_ L_ rRrm1.cells rRrm1.slots) := by
  refine MetFree.of_bodySF pn_rm1 hisR ?_
  intro p e s m args below meth c s₁ Bd hml0 hP hK
  obtain ⟨rfl, hZ, hh⟩ := hP
  have hx := Bd.exec
  have hby := Bd.bytes
  have hlk : meth.locks = false := Bd.notSynchronized
  have hml : c.maxLocals = 5 := hml0
  have hown : s.vm.findClass "com/example/wirefold/wirefold/WireReader" = some m.cls := findClass_of_methodNamed Bd.named
  have hnm := (name_of_methodNamed Bd.named Bd.method).1
  have X0 : Stand p l e rRrm1 s m #[(.ref a), (.ref d), (.int of), (.int ln), (.int z1)] below meth c s₁ [] 0 0 := Stand.of_body Bd
  have e0 : s₁.heap = h0 := by rw [← hh, Bd.state]; rfl
  have N0 := Fr.nil n0
  show own_Goes p e below s (Q1 Z a d of ln z1 h0 n0) rRrm1.cells rRrm1.slots s₁ (entryFrame m #[(.ref a), (.ref d), (.int of), (.int ln), (.int z1)] 5)
  rw [ef_rm1 m a d of ln z1]
  show own_Goes p e below s (Q1 Z a d of ln z1 h0 n0) rRrm1.cells rRrm1.slots s₁ (mkF m 0 #[rv a, rv d, iv of, iv ln, iv z1] [])
  refine own_st (fun _ kk_ => XS.aloadN X0.here hx rfl (hb hby d1_0) rfl rfl kk_) ?_
  show own_Goes p e below s (Q1 Z a d of ln z1 h0 n0) rRrm1.cells rRrm1.slots s₁ (mkF m 1 #[rv a, rv d, iv of, iv ln, iv z1] [(.ref a)])
  obtain ⟨T1, X1, e1, st1⟩ := initO X0 hx hZ hown (hw _ (List.mem_of_getElem? (i := 8) rfl)) (hw _ (List.mem_of_getElem? (i := 9) rfl)) (hw _ (List.mem_of_getElem? (i := 10) rfl)) e0 (g := (mkF m 1 #[rv a, rv d, iv of, iv ln, iv z1] [(.ref a)])) rfl (by rw [hml]; rfl) rfl (hb hby d1_1) (by decide) (W := 0) (by show 2 * 0 + _ ≤ _; exact Nat.le_of_eq rfl) (by decide)
  refine own_st st1 ?_
  show own_Goes p e below s (Q1 Z a d of ln z1 h0 n0) rRrm1.cells rRrm1.slots T1 (mkF m 4 #[rv a, rv d, iv of, iv ln, iv z1] [])
  refine own_st (fun _ kk_ => XS.aloadN X1.here hx rfl (hb hby d1_4) rfl rfl (XS.aloadN X1.here hx rfl (hb hby d1_5) rfl rfl kk_)) ?_
  show own_Goes p e below s (Q1 Z a d of ln z1 h0 n0) rRrm1.cells rRrm1.slots T1 (mkF m 6 #[rv a, rv d, iv of, iv ln, iv z1] [(.ref d), (.ref a)])
  obtain ⟨T2, h2, X2, e2, W2, st2⟩ := putF X1 hx hZ hown (host := "") (Or.inl (hw _ (List.mem_of_getElem? (i := 11) rfl))) Via.refl e1 p_1 p_0 (Or.inr ⟨(hw _ (List.mem_of_getElem? (i := 12) rfl)), rfl, hnm⟩) (hw _ (List.mem_of_getElem? (i := 3) rfl)) (ty := (.array .byte)) (by decide) rfl rfl (g := (mkF m 6 #[rv a, rv d, iv of, iv ln, iv z1] [(.ref d), (.ref a)])) rfl rfl (hb hby d1_6)
  have fw2 : Fld Z h2 a "com/example/wirefold/wirefold/WireReader" "data" "[B" (.ref d) := p_1.same W2
  have f2_0 := p_0.wr W2
  have f2_2 := p_2.other W2 (Or.inr (slot_ne (Or.inl (hw _ (List.mem_of_getElem? (i := 14) rfl))) (Or.inr (hw _ (List.mem_of_getElem? (i := 12) rfl))) (by decide) (t := .int) (t' := (.array .byte)) (by decide) (by decide)))
  have f2_3 := p_3.other W2 (Or.inr (slot_ne (Or.inr (hw _ (List.mem_of_getElem? (i := 16) rfl))) (Or.inr (hw _ (List.mem_of_getElem? (i := 12) rfl))) (by decide) (t := .int) (t' := (.array .byte)) (by decide) (by decide)))
  have f2_4 := p_4.other W2 (Or.inr (slot_ne (Or.inr (hw _ (List.mem_of_getElem? (i := 18) rfl))) (Or.inr (hw _ (List.mem_of_getElem? (i := 12) rfl))) (by decide) (t := .boolean) (t' := (.array .byte)) (by decide) (by decide)))
  have Zs2 : n0 ≤ h2.size := Nat.le_trans Z0 (Nat.le_of_eq W2.size.symm)
  have K2 := (Keep.refl h0 [a]).wr W2 (Or.inl (List.mem_of_getElem? (i := 0) rfl))
  have N2 := Fr.snoc X2 N0 p_5
  refine own_st st2 ?_
  show own_Goes p e below s (Q1 Z a d of ln z1 h0 n0) rRrm1.cells rRrm1.slots T2 (mkF m 9 #[rv a, rv d, iv of, iv ln, iv z1] [])
  refine own_st (fun _ kk_ => XS.aloadN X2.here hx rfl (hb hby d1_9) rfl rfl (XS.iloadN X2.here hx rfl (hb hby d1_10) rfl kk_)) ?_
  show own_Goes p e below s (Q1 Z a d of ln z1 h0 n0) rRrm1.cells rRrm1.slots T2 (mkF m 11 #[rv a, rv d, iv of, iv ln, iv z1] [(.int of), (.ref a)])
  obtain ⟨T3, h3, X3, e3, W3, st3⟩ := putF X2 hx hZ hown (host := "") (Or.inl (hw _ (List.mem_of_getElem? (i := 13) rfl))) Via.refl e2 f2_2 f2_0 (Or.inl (hw _ (List.mem_of_getElem? (i := 14) rfl))) (hw _ (List.mem_of_getElem? (i := 3) rfl)) (ty := .int) (by decide) rfl rfl (g := (mkF m 11 #[rv a, rv d, iv of, iv ln, iv z1] [(.int of), (.ref a)])) rfl rfl (hb hby d1_11)
  have fw3 : Fld Z h3 a "com/example/wirefold/wirefold/WireReader" "position" "I" (.int of) := f2_2.same W3
  have f3_0 := f2_0.wr W3
  have f3_2 := f2_3.other W3 (Or.inr (slot_ne (Or.inr (hw _ (List.mem_of_getElem? (i := 16) rfl))) (Or.inl (hw _ (List.mem_of_getElem? (i := 14) rfl))) (by decide) (t := .int) (t' := .int) (by decide) (by decide)))
  have f3_3 := f2_4.other W3 (Or.inr (slot_ne (Or.inr (hw _ (List.mem_of_getElem? (i := 18) rfl))) (Or.inl (hw _ (List.mem_of_getElem? (i := 14) rfl))) (by decide) (t := .boolean) (t' := .int) (by decide) (by decide)))
  have f3_4 := fw2.other W3 (Or.inr (slot_ne (Or.inr (hw _ (List.mem_of_getElem? (i := 12) rfl))) (Or.inl (hw _ (List.mem_of_getElem? (i := 14) rfl))) (by decide) (t := (.array .byte)) (t' := .int) (by decide) (by decide)))
  have Zs3 : n0 ≤ h3.size := Nat.le_trans Zs2 (Nat.le_of_eq W3.size.symm)
  have K3 := K2.wr W3 (Or.inl (List.mem_of_getElem? (i := 0) rfl))
  have N3 := Fr.snoc X3 N2 p_5
  refine own_st st3 ?_
  show own_Goes p e below s (Q1 Z a d of ln z1 h0 n0) rRrm1.cells rRrm1.slots T3 (mkF m 14 #[rv a, rv d, iv of, iv ln, iv z1] [])
  refine own_st (fun _ kk_ => XS.aloadN X3.here hx rfl (hb hby d1_14) rfl rfl (XS.iloadN X3.here hx rfl (hb hby d1_15) rfl (XS.iloadN X3.here hx rfl (hb hby d1_16) rfl (XS.iadd X3.here hx rfl (hb hby d1_17) rfl kk_)))) ?_
  show own_Goes p e below s (Q1 Z a d of ln z1 h0 n0) rRrm1.cells rRrm1.slots T3 (mkF m 18 #[rv a, rv d, iv of, iv ln, iv z1] [(.int (of + ln)), (.ref a)])
  obtain ⟨T4, h4, X4, e4, W4, st4⟩ := putF X3 hx hZ hown (host := "") (Or.inl (hw _ (List.mem_of_getElem? (i := 15) rfl))) Via.refl e3 f3_2 f3_0 (Or.inr ⟨(hw _ (List.mem_of_getElem? (i := 16) rfl)), rfl, hnm⟩) (hw _ (List.mem_of_getElem? (i := 3) rfl)) (ty := .int) (by decide) rfl rfl (g := (mkF m 18 #[rv a, rv d, iv of, iv ln, iv z1] [(.int (of + ln)), (.ref a)])) rfl rfl (hb hby d1_18)
  have fw4 : Fld Z h4 a "com/example/wirefold/wirefold/WireReader" "end" "I" (.int (of + ln)) := f3_2.same W4
  have f4_0 := f3_0.wr W4
  have f4_2 := f3_3.other W4 (Or.inr (slot_ne (Or.inr (hw _ (List.mem_of_getElem? (i := 18) rfl))) (Or.inr (hw _ (List.mem_of_getElem? (i := 16) rfl))) (by decide) (t := .boolean) (t' := .int) (by decide) (by decide)))
  have f4_3 := f3_4.other W4 (Or.inr (slot_ne (Or.inr (hw _ (List.mem_of_getElem? (i := 12) rfl))) (Or.inr (hw _ (List.mem_of_getElem? (i := 16) rfl))) (by decide) (t := (.array .byte)) (t' := .int) (by decide) (by decide)))
  have f4_4 := fw3.other W4 (Or.inr (slot_ne (Or.inl (hw _ (List.mem_of_getElem? (i := 14) rfl))) (Or.inr (hw _ (List.mem_of_getElem? (i := 16) rfl))) (by decide) (t := .int) (t' := .int) (by decide) (by decide)))
  have Zs4 : n0 ≤ h4.size := Nat.le_trans Zs3 (Nat.le_of_eq W4.size.symm)
  have K4 := K3.wr W4 (Or.inl (List.mem_of_getElem? (i := 0) rfl))
  have N4 := Fr.snoc X4 N3 p_5
  refine own_st st4 ?_
  show own_Goes p e below s (Q1 Z a d of ln z1 h0 n0) rRrm1.cells rRrm1.slots T4 (mkF m 21 #[rv a, rv d, iv of, iv ln, iv z1] [])
  refine own_st (fun _ kk_ => XS.aloadN X4.here hx rfl (hb hby d1_21) rfl rfl (XS.iload X4.here hx rfl (hb hby d1_22) rfl kk_)) ?_
  show own_Goes p e below s (Q1 Z a d of ln z1 h0 n0) rRrm1.cells rRrm1.slots T4 (mkF m 24 #[rv a, rv d, iv of, iv ln, iv z1] [(.int z1), (.ref a)])
  obtain ⟨T5, h5, X5, e5, W5, st5⟩ := putFN X4 hx hZ hown (hw _ (List.mem_of_getElem? (i := 17) rfl)) Via.refl e4 f4_2 f4_0 (Or.inr ⟨(hw _ (List.mem_of_getElem? (i := 18) rfl)), rfl, hnm⟩) (hw _ (List.mem_of_getElem? (i := 3) rfl)) (ty := .boolean) (v' := (.int (nar .boolean z1))) (by decide) rfl (fits_nar_bool _) (g := (mkF m 24 #[rv a, rv d, iv of, iv ln, iv z1] [(.int z1), (.ref a)])) rfl rfl (hb hby d1_24)
  have fw5 : Fld Z h5 a "com/example/wirefold/wirefold/WireReader" "shortestOnly" "Z" (.int (nar .boolean z1)) := f4_2.same W5
  have f5_0 := f4_0.wr W5
  have f5_2 := f4_3.other W5 (Or.inr (slot_ne (Or.inr (hw _ (List.mem_of_getElem? (i := 12) rfl))) (Or.inr (hw _ (List.mem_of_getElem? (i := 18) rfl))) (by decide) (t := (.array .byte)) (t' := .boolean) (by decide) (by decide)))
  have f5_3 := f4_4.other W5 (Or.inr (slot_ne (Or.inl (hw _ (List.mem_of_getElem? (i := 14) rfl))) (Or.inr (hw _ (List.mem_of_getElem? (i := 18) rfl))) (by decide) (t := .int) (t' := .boolean) (by decide) (by decide)))
  have f5_4 := fw4.other W5 (Or.inr (slot_ne (Or.inr (hw _ (List.mem_of_getElem? (i := 16) rfl))) (Or.inr (hw _ (List.mem_of_getElem? (i := 18) rfl))) (by decide) (t := .int) (t' := .boolean) (by decide) (by decide)))
  have Zs5 : n0 ≤ h5.size := Nat.le_trans Zs4 (Nat.le_of_eq W5.size.symm)
  have K5 := K4.wr W5 (Or.inl (List.mem_of_getElem? (i := 0) rfl))
  have N5 := Fr.snoc X5 N4 p_5
  refine own_st st5 ?_
  show own_Goes p e below s (Q1 Z a d of ln z1 h0 n0) rRrm1.cells rRrm1.slots T5 (mkF m 27 #[rv a, rv d, iv of, iv ln, iv z1] [])
  refine own_ret0 X5 hx hlk Bd.returns (hb hby d1_27) (by decide) (by decide) ?_
  show Q1 Z a d of ln z1 h0 n0 none T5.heap _
  rw [e5]
  exact ⟨rfl, N5, K5, f5_2, f5_3, f5_4, fw5⟩
abbrev rRrm3 : Room := { frames := 0, cells := 0, slots := 0, locals := 0 }
theorem d3_0 : decode prog_59_method_5_code 0 = .ok (.aload_n 0, 1) := by decide +kernel
theorem d3_1 : decode prog_59_method_5_code 1 = .ok (.getfield 33, 3) := by decide +kernel
theorem d3_4 : decode prog_59_method_5_code 4 = .ok (.aload_n 0, 1) := by decide +kernel
theorem d3_5 : decode prog_59_method_5_code 5 = .ok (.getfield 37, 3) := by decide +kernel
theorem d3_8 : decode prog_59_method_5_code 8 = .ok (.if_icmp .ne 7, 3) := by decide +kernel
theorem d3_11 : decode prog_59_method_5_code 11 = .ok (.iconst 1, 1) := by decide +kernel
theorem d3_12 : decode prog_59_method_5_code 12 = .ok (.goto 4, 3) := by decide +kernel
theorem d3_15 : decode prog_59_method_5_code 15 = .ok (.iconst 0, 1) := by decide +kernel
theorem d3_16 : decode prog_59_method_5_code 16 = .ok (.ireturn, 1) := by decide +kernel
theorem pn_rm3 : plainFor (⟨"com/example/wirefold/wirefold/WireReader", "atEnd", "()Z"⟩ : MethodName) = true := by first | exact plainFor_of_name (by first | (simp [plainName, overriddenIn]; done) | decide +kernel) | decide +kernel
theorem ef_rm3 (m : MethodId) (a : Addr) : entryFrame m #[(.ref a)] 1 = (mkF m 0 #[rv a] []) := by first | (simp [entryFrame, mkF, argsToLocals, Value.category]; done) | rfl
def Q3 (Z : State) (a : Addr) (q : Int32) (n : Int32) (h0 : Heap) (n0 : Nat) (v_ : Option Value) (h_ : Heap) (L_ : List Loc) : Prop := (v_ = some (.int (own_b (q = n)))) ∧ (Fr n0 L_) ∧ (h_ = h0)
set_option maxRecDepth 65536 in
set_option maxHeartbeats 40000000 in
theorem rm3 (l : Launch) (Z : State) (a0 : Array Value) (hw : ∀ d ∈ tables_1, d.before a0 Z = true) (ws : List Jvm.Cond) (a : Addr) (q : Int32) (n : Int32) (h0 : Heap) (n0 : Nat) (Z0 : n0 ≤ h0.size) (p_0 : Fld Z h0 a "com/example/wirefold/wirefold/WireReader" "position" "I" (.int q)) (p_1 : Fld Z h0 a "com/example/wirefold/wirefold/WireReader" "end" "I" (.int n)) :
    MetFree l (⟨"com/example/wirefold/wirefold/WireReader", "atEnd", "()Z"⟩ : MethodName) (head1 (Jvm.Cond.code (⟨"com/example/wirefold/wirefold/WireReader", "atEnd", "()Z"⟩ : MethodName) prog_59_method_5_code 1 (some .boolean) :: ws) rRrm3) (fun a_ U_ => a_ = #[(.ref a)] ∧ Z.Warmed39 U_.vm ∧ U_.heap = h0) (fun _ _ _ _ _ => True) (fun _ U_ o_ U1_ => ∃ v_ L_, o_ = .returned v_ ∧ Q3 Z a q n h0 n0 v_ U1_.heap L_ ∧ FrameEnd U_ o_ U1_ L_ rRrm3.cells rRrm3.slots) := by
  refine MetFree.of_bodySF pn_rm3 hisR ?_
  intro p e s m args below meth c s₁ Bd hml0 hP hK
  obtain ⟨rfl, hZ, hh⟩ := hP
  have hx := Bd.exec
  have hby := Bd.bytes
  have hlk : meth.locks = false := Bd.notSynchronized
  have hml : c.maxLocals = 1 := hml0
  have hown : s.vm.findClass "com/example/wirefold/wirefold/WireReader" = some m.cls := findClass_of_methodNamed Bd.named
  have hnm := (name_of_methodNamed Bd.named Bd.method).1
  have X0 : Stand p l e rRrm3 s m #[(.ref a)] below meth c s₁ [] 0 0 := Stand.of_body Bd
  have e0 : s₁.heap = h0 := by rw [← hh, Bd.state]; rfl
  have N0 := Fr.nil n0
  show own_Goes p e below s (Q3 Z a q n h0 n0) rRrm3.cells rRrm3.slots s₁ (entryFrame m #[(.ref a)] 1)
  rw [ef_rm3 m a]
  show own_Goes p e below s (Q3 Z a q n h0 n0) rRrm3.cells rRrm3.slots s₁ (mkF m 0 #[rv a] [])
  refine own_st (fun _ kk_ => XS.aloadN X0.here hx rfl (hb hby d3_0) rfl rfl kk_) ?_
  show own_Goes p e below s (Q3 Z a q n h0 n0) rRrm3.cells rRrm3.slots s₁ (mkF m 1 #[rv a] [(.ref a)])
  obtain ⟨T1, X1, e1, st1⟩ := getF X0 hx hZ hown (host := "") (Or.inl (hw _ (List.mem_of_getElem? (i := 13) rfl))) Via.refl e0 p_0 (g := (mkF m 1 #[rv a] [(.ref a)])) rfl rfl (hb hby d3_1)
  refine own_st st1 ?_
  show own_Goes p e below s (Q3 Z a q n h0 n0) rRrm3.cells rRrm3.slots T1 (mkF m 4 #[rv a] [(.int q)])
  refine own_st (fun _ kk_ => XS.aloadN X1.here hx rfl (hb hby d3_4) rfl rfl kk_) ?_
  show own_Goes p e below s (Q3 Z a q n h0 n0) rRrm3.cells rRrm3.slots T1 (mkF m 5 #[rv a] [(.ref a), (.int q)])
  obtain ⟨T2, X2, e2, st2⟩ := getF X1 hx hZ hown (host := "") (Or.inl (hw _ (List.mem_of_getElem? (i := 15) rfl))) Via.refl e1 p_1 (g := (mkF m 5 #[rv a] [(.ref a), (.int q)])) rfl rfl (hb hby d3_5)
  refine own_st st2 ?_
  show own_Goes p e below s (Q3 Z a q n h0 n0) rRrm3.cells rRrm3.slots T2 (mkF m 8 #[rv a] [(.int n), (.int q)])
  rcases Classical.em (q = n) with hq0 | hq0
  · refine own_st (fun _ kk_ => XS.icmpNo X2.here hx rfl (hb hby d3_8) rfl (XT.ii_ne_f hq0) (XS.iconst X2.here hx rfl (hb hby d3_11) (XS.goto X2.here hx rfl (pc0 := 12) (pc' := 16) rfl (hb hby d3_12) (by decide) (by decide) kk_))) ?_
    show own_Goes p e below s (Q3 Z a q n h0 n0) rRrm3.cells rRrm3.slots T2 (mkF m 16 #[rv a] [(.int (1 : Int32))])
    refine own_retN X2 hx hlk (t := .boolean) Bd.returns (by simp) (hb hby d3_16) (by decide) (by decide) ?_
    show Q3 Z a q n h0 n0 (some (.int (nar .boolean (1 : Int32)))) T2.heap _
    rw [e2]
    exact ⟨by exact own_bt hq0, N0, rfl⟩
  · refine own_st (fun _ kk_ => XS.icmpYes X2.here hx rfl (pc0 := 8) (pc' := 15) rfl (hb hby d3_8) rfl (XT.ii_ne_t hq0) (by decide) (by decide) (XS.iconst X2.here hx rfl (hb hby d3_15) kk_)) ?_
    show own_Goes p e below s (Q3 Z a q n h0 n0) rRrm3.cells rRrm3.slots T2 (mkF m 16 #[rv a] [(.int (0 : Int32))])
    refine own_retN X2 hx hlk (t := .boolean) Bd.returns (by simp) (hb hby d3_16) (by decide) (by decide) ?_
    show Q3 Z a q n h0 n0 (some (.int (nar .boolean (0 : Int32)))) T2.heap _
    rw [e2]
    exact ⟨by exact own_bf hq0, N0, rfl⟩
abbrev rRrm4 : Room := { frames := 0, cells := 0, slots := 0, locals := 0 }
theorem d4_0 : decode prog_59_method_13_code 0 = .ok (.aload_n 0, 1) := by decide +kernel
theorem d4_1 : decode prog_59_method_13_code 1 = .ok (.dup, 1) := by decide +kernel
theorem d4_2 : decode prog_59_method_13_code 2 = .ok (.getfield 33, 3) := by decide +kernel
theorem d4_5 : decode prog_59_method_13_code 5 = .ok (.iload_n 1, 1) := by decide +kernel
theorem d4_6 : decode prog_59_method_13_code 6 = .ok (.iadd, 1) := by decide +kernel
theorem d4_7 : decode prog_59_method_13_code 7 = .ok (.putfield 33, 3) := by decide +kernel
theorem d4_10 : decode prog_59_method_13_code 10 = .ok (.return_, 1) := by decide +kernel
theorem pn_rm4 : plainFor (⟨"com/example/wirefold/wirefold/WireReader", "skip", "(I)V"⟩ : MethodName) = true := by first | exact plainFor_of_name (by first | (simp [plainName, overriddenIn]; done) | decide +kernel) | decide +kernel
theorem ef_rm4 (m : MethodId) (a : Addr) (k : Int32) : entryFrame m #[(.ref a), (.int k)] 2 = (mkF m 0 #[rv a, iv k] []) := by first | (simp [entryFrame, mkF, argsToLocals, Value.category]; done) | rfl
def Q4 (Z : State) (a : Addr) (k : Int32) (q : Int32) (d : Addr) (n : Int32) (z1 : Int32) (h0 : Heap) (n0 : Nat) (v_ : Option Value) (h_ : Heap) (L_ : List Loc) : Prop := (v_ = none) ∧ (Fr n0 L_) ∧ (Keep h0 h_ [a]) ∧ (Fld Z h_ a "com/example/wirefold/wirefold/WireReader" "position" "I" (.int (q + k))) ∧ (Fld Z h_ a "com/example/wirefold/wirefold/WireReader" "data" "[B" (.ref d)) ∧ (Fld Z h_ a "com/example/wirefold/wirefold/WireReader" "end" "I" (.int n)) ∧ (Fld Z h_ a "com/example/wirefold/wirefold/WireReader" "shortestOnly" "Z" (.int z1))
set_option maxRecDepth 65536 in
set_option maxHeartbeats 40000000 in
theorem rm4 (l : Launch) (Z : State) (a0 : Array Value) (hw : ∀ d ∈ tables_1, d.before a0 Z = true) (ws : List Jvm.Cond) (a : Addr) (k : Int32) (q : Int32) (d : Addr) (n : Int32) (z1 : Int32) (h0 : Heap) (n0 : Nat) (Z0 : n0 ≤ h0.size) (p_0 : Fld Z h0 a "com/example/wirefold/wirefold/WireReader" "position" "I" (.int q)) (p_1 : Exa Z h0 a "com/example/wirefold/wirefold/WireReader") (p_2 : n0 ≤ a) (p_3 : Fld Z h0 a "com/example/wirefold/wirefold/WireReader" "data" "[B" (.ref d)) (p_4 : Fld Z h0 a "com/example/wirefold/wirefold/WireReader" "end" "I" (.int n)) (p_5 : Fld Z h0 a "com/example/wirefold/wirefold/WireReader" "shortestOnly" "Z" (.int z1)) :
    MetFree l (⟨"com/example/wirefold/wirefold/WireReader", "skip", "(I)V"⟩ : MethodName) (head1 (Jvm.Cond.code (⟨"com/example/wirefold/wirefold/WireReader", "skip", "(I)V"⟩ : MethodName) prog_59_method_13_code 2 none :: ws) rRrm4) (fun a_ U_ => a_ = #[(.ref a), (.int k)] ∧ Z.Warmed39 U_.vm ∧ U_.heap = h0) (fun _ _ _ _ _ => True) (fun _ U_ o_ U1_ => ∃ v_ L_, o_ = .returned v_ ∧ Q4 Z a k q d n z1 h0 n0 v_ U1_.heap L_ ∧ FrameEnd U_ o_ U1_ L_ rRrm4.cells rRrm4.slots) := by
  refine MetFree.of_bodySF pn_rm4 hisR ?_
  intro p e s m args below meth c s₁ Bd hml0 hP hK
  obtain ⟨rfl, hZ, hh⟩ := hP
  have hx := Bd.exec
  have hby := Bd.bytes
  have hlk : meth.locks = false := Bd.notSynchronized
  have hml : c.maxLocals = 2 := hml0
  have hown : s.vm.findClass "com/example/wirefold/wirefold/WireReader" = some m.cls := findClass_of_methodNamed Bd.named
  have hnm := (name_of_methodNamed Bd.named Bd.method).1
  have X0 : Stand p l e rRrm4 s m #[(.ref a), (.int k)] below meth c s₁ [] 0 0 := Stand.of_body Bd
  have e0 : s₁.heap = h0 := by rw [← hh, Bd.state]; rfl
  have N0 := Fr.nil n0
  show own_Goes p e below s (Q4 Z a k q d n z1 h0 n0) rRrm4.cells rRrm4.slots s₁ (entryFrame m #[(.ref a), (.int k)] 2)
  rw [ef_rm4 m a k]
  show own_Goes p e below s (Q4 Z a k q d n z1 h0 n0) rRrm4.cells rRrm4.slots s₁ (mkF m 0 #[rv a, iv k] [])
  refine own_st (fun _ kk_ => XS.aloadN X0.here hx rfl (hb hby d4_0) rfl rfl (XS.dup X0.here hx rfl (hb hby d4_1) rfl rfl kk_)) ?_
  show own_Goes p e below s (Q4 Z a k q d n z1 h0 n0) rRrm4.cells rRrm4.slots s₁ (mkF m 2 #[rv a, iv k] [(.ref a), (.ref a)])
  obtain ⟨T1, X1, e1, st1⟩ := getF X0 hx hZ hown (host := "") (Or.inl (hw _ (List.mem_of_getElem? (i := 13) rfl))) Via.refl e0 p_0 (g := (mkF m 2 #[rv a, iv k] [(.ref a), (.ref a)])) rfl rfl (hb hby d4_2)
  refine own_st st1 ?_
  show own_Goes p e below s (Q4 Z a k q d n z1 h0 n0) rRrm4.cells rRrm4.slots T1 (mkF m 5 #[rv a, iv k] [(.int q), (.ref a)])
  refine own_st (fun _ kk_ => XS.iloadN X1.here hx rfl (hb hby d4_5) rfl (XS.iadd X1.here hx rfl (hb hby d4_6) rfl kk_)) ?_
  show own_Goes p e below s (Q4 Z a k q d n z1 h0 n0) rRrm4.cells rRrm4.slots T1 (mkF m 7 #[rv a, iv k] [(.int (q + k)), (.ref a)])
  obtain ⟨T2, h2, X2, e2, W2, st2⟩ := putF X1 hx hZ hown (host := "") (Or.inl (hw _ (List.mem_of_getElem? (i := 13) rfl))) Via.refl e1 p_0 p_1 (Or.inl (hw _ (List.mem_of_getElem? (i := 14) rfl))) (hw _ (List.mem_of_getElem? (i := 3) rfl)) (ty := .int) (by decide) rfl rfl (g := (mkF m 7 #[rv a, iv k] [(.int (q + k)), (.ref a)])) rfl rfl (hb hby d4_7)
  have fw2 : Fld Z h2 a "com/example/wirefold/wirefold/WireReader" "position" "I" (.int (q + k)) := p_0.same W2
  have f2_1 := p_1.wr W2
  have f2_2 := p_3.other W2 (Or.inr (slot_ne (Or.inr (hw _ (List.mem_of_getElem? (i := 12) rfl))) (Or.inl (hw _ (List.mem_of_getElem? (i := 14) rfl))) (by decide) (t := (.array .byte)) (t' := .int) (by decide) (by decide)))
  have f2_3 := p_4.other W2 (Or.inr (slot_ne (Or.inr (hw _ (List.mem_of_getElem? (i := 16) rfl))) (Or.inl (hw _ (List.mem_of_getElem? (i := 14) rfl))) (by decide) (t := .int) (t' := .int) (by decide) (by decide)))
  have f2_4 := p_5.other W2 (Or.inr (slot_ne (Or.inr (hw _ (List.mem_of_getElem? (i := 18) rfl))) (Or.inl (hw _ (List.mem_of_getElem? (i := 14) rfl))) (by decide) (t := .boolean) (t' := .int) (by decide) (by decide)))
  have Zs2 : n0 ≤ h2.size := Nat.le_trans Z0 (Nat.le_of_eq W2.size.symm)
  have K2 := (Keep.refl h0 [a]).wr W2 (Or.inl (List.mem_of_getElem? (i := 0) rfl))
  have N2 := Fr.snoc X2 N0 p_2
  refine own_st st2 ?_
  show own_Goes p e below s (Q4 Z a k q d n z1 h0 n0) rRrm4.cells rRrm4.slots T2 (mkF m 10 #[rv a, iv k] [])
  refine own_ret0 X2 hx hlk Bd.returns (hb hby d4_10) (by decide) (by decide) ?_
  show Q4 Z a k q d n z1 h0 n0 none T2.heap _
  rw [e2]
  exact ⟨rfl, N2, K2, fw2, f2_2, f2_3, f2_4⟩
abbrev rRrm5 : Room := { frames := 0, cells := 0, slots := 0, locals := 0 }
theorem d5_0 : decode prog_59_method_4_code 0 = .ok (.aload_n 0, 1) := by decide +kernel
theorem d5_1 : decode prog_59_method_4_code 1 = .ok (.getfield 33, 3) := by decide +kernel
theorem d5_4 : decode prog_59_method_4_code 4 = .ok (.ireturn, 1) := by decide +kernel
theorem pn_rm5 : plainFor (⟨"com/example/wirefold/wirefold/WireReader", "position", "()I"⟩ : MethodName) = true := by first | exact plainFor_of_name (by first | (simp [plainName, overriddenIn]; done) | decide +kernel) | decide +kernel
theorem ef_rm5 (m : MethodId) (a : Addr) : entryFrame m #[(.ref a)] 1 = (mkF m 0 #[rv a] []) := by first | (simp [entryFrame, mkF, argsToLocals, Value.category]; done) | rfl
def Q5 (Z : State) (a : Addr) (q : Int32) (h0 : Heap) (n0 : Nat) (v_ : Option Value) (h_ : Heap) (L_ : List Loc) : Prop := (v_ = some (.int q)) ∧ (Fr n0 L_) ∧ (h_ = h0)
set_option maxRecDepth 65536 in
set_option maxHeartbeats 40000000 in
theorem rm5 (l : Launch) (Z : State) (a0 : Array Value) (hw : ∀ d ∈ tables_1, d.before a0 Z = true) (ws : List Jvm.Cond) (a : Addr) (q : Int32) (h0 : Heap) (n0 : Nat) (Z0 : n0 ≤ h0.size) (p_0 : Fld Z h0 a "com/example/wirefold/wirefold/WireReader" "position" "I" (.int q)) :
    MetFree l (⟨"com/example/wirefold/wirefold/WireReader", "position", "()I"⟩ : MethodName) (head1 (Jvm.Cond.code (⟨"com/example/wirefold/wirefold/WireReader", "position", "()I"⟩ : MethodName) prog_59_method_4_code 1 (some .int) :: ws) rRrm5) (fun a_ U_ => a_ = #[(.ref a)] ∧ Z.Warmed39 U_.vm ∧ U_.heap = h0) (fun _ _ _ _ _ => True) (fun _ U_ o_ U1_ => ∃ v_ L_, o_ = .returned v_ ∧ Q5 Z a q h0 n0 v_ U1_.heap L_ ∧ FrameEnd U_ o_ U1_ L_ rRrm5.cells rRrm5.slots) := by
  refine MetFree.of_bodySF pn_rm5 hisR ?_
  intro p e s m args below meth c s₁ Bd hml0 hP hK
  obtain ⟨rfl, hZ, hh⟩ := hP
  have hx := Bd.exec
  have hby := Bd.bytes
  have hlk : meth.locks = false := Bd.notSynchronized
  have hml : c.maxLocals = 1 := hml0
  have hown : s.vm.findClass "com/example/wirefold/wirefold/WireReader" = some m.cls := findClass_of_methodNamed Bd.named
  have hnm := (name_of_methodNamed Bd.named Bd.method).1
  have X0 : Stand p l e rRrm5 s m #[(.ref a)] below meth c s₁ [] 0 0 := Stand.of_body Bd
  have e0 : s₁.heap = h0 := by rw [← hh, Bd.state]; rfl
  have N0 := Fr.nil n0
  show own_Goes p e below s (Q5 Z a q h0 n0) rRrm5.cells rRrm5.slots s₁ (entryFrame m #[(.ref a)] 1)
  rw [ef_rm5 m a]
  show own_Goes p e below s (Q5 Z a q h0 n0) rRrm5.cells rRrm5.slots s₁ (mkF m 0 #[rv a] [])
  refine own_st (fun _ kk_ => XS.aloadN X0.here hx rfl (hb hby d5_0) rfl rfl kk_) ?_
  show own_Goes p e below s (Q5 Z a q h0 n0) rRrm5.cells rRrm5.slots s₁ (mkF m 1 #[rv a] [(.ref a)])
  obtain ⟨T1, X1, e1, st1⟩ := getF X0 hx hZ hown (host := "") (Or.inl (hw _ (List.mem_of_getElem? (i := 13) rfl))) Via.refl e0 p_0 (g := (mkF m 1 #[rv a] [(.ref a)])) rfl rfl (hb hby d5_1)
  refine own_st st1 ?_
  show own_Goes p e below s (Q5 Z a q h0 n0) rRrm5.cells rRrm5.slots T1 (mkF m 4 #[rv a] [(.int q)])
  refine own_retI X1 hx hlk Bd.returns (hb hby d5_4) (by decide) (by decide) ?_
  show Q5 Z a q h0 n0 (some (.int q)) T1.heap _
  rw [e1]
  exact ⟨rfl, N0, rfl⟩
abbrev rRrm6 : Room := { frames := 0, cells := 0, slots := 0, locals := 0 }
theorem d6_0 : decode prog_59_method_7_code 0 = .ok (.aload_n 0, 1) := by decide +kernel
theorem d6_1 : decode prog_59_method_7_code 1 = .ok (.getfield 33, 3) := by decide +kernel
theorem d6_4 : decode prog_59_method_7_code 4 = .ok (.istore_n 1, 1) := by decide +kernel
theorem d6_5 : decode prog_59_method_7_code 5 = .ok (.lconst 0, 1) := by decide +kernel
theorem d6_6 : decode prog_59_method_7_code 6 = .ok (.lstore_n 2, 1) := by decide +kernel
theorem d6_7 : decode prog_59_method_7_code 7 = .ok (.iconst 0, 1) := by decide +kernel
theorem d6_8 : decode prog_59_method_7_code 8 = .ok (.istore 4, 2) := by decide +kernel
theorem d6_10 : decode prog_59_method_7_code 10 = .ok (.iload 4, 2) := by decide +kernel
theorem d6_12 : decode prog_59_method_7_code 12 = .ok (.bipush 64, 2) := by decide +kernel
theorem d6_14 : decode prog_59_method_7_code 14 = .ok (.if_icmp .ge 120, 3) := by decide +kernel
theorem d6_17 : decode prog_59_method_7_code 17 = .ok (.aload_n 0, 1) := by decide +kernel
theorem d6_18 : decode prog_59_method_7_code 18 = .ok (.getfield 33, 3) := by decide +kernel
theorem d6_21 : decode prog_59_method_7_code 21 = .ok (.aload_n 0, 1) := by decide +kernel
theorem d6_22 : decode prog_59_method_7_code 22 = .ok (.getfield 37, 3) := by decide +kernel
theorem d6_25 : decode prog_59_method_7_code 25 = .ok (.if_icmp .ne 14, 3) := by decide +kernel
theorem d6_39 : decode prog_59_method_7_code 39 = .ok (.aload_n 0, 1) := by decide +kernel
theorem d6_40 : decode prog_59_method_7_code 40 = .ok (.getfield 29, 3) := by decide +kernel
theorem d6_43 : decode prog_59_method_7_code 43 = .ok (.aload_n 0, 1) := by decide +kernel
theorem d6_44 : decode prog_59_method_7_code 44 = .ok (.dup, 1) := by decide +kernel
theorem d6_45 : decode prog_59_method_7_code 45 = .ok (.getfield 33, 3) := by decide +kernel
theorem d6_48 : decode prog_59_method_7_code 48 = .ok (.dup_x1, 1) := by decide +kernel
theorem d6_49 : decode prog_59_method_7_code 49 = .ok (.iconst 1, 1) := by decide +kernel
theorem d6_50 : decode prog_59_method_7_code 50 = .ok (.iadd, 1) := by decide +kernel
theorem d6_51 : decode prog_59_method_7_code 51 = .ok (.putfield 33, 3) := by decide +kernel
theorem d6_54 : decode prog_59_method_7_code 54 = .ok (.baload, 1) := by decide +kernel
theorem d6_55 : decode prog_59_method_7_code 55 = .ok (.istore 5, 2) := by decide +kernel
theorem d6_57 : decode prog_59_method_7_code 57 = .ok (.lload_n 2, 1) := by decide +kernel
theorem d6_58 : decode prog_59_method_7_code 58 = .ok (.iload 5, 2) := by decide +kernel
theorem d6_60 : decode prog_59_method_7_code 60 = .ok (.bipush 127, 2) := by decide +kernel
theorem d6_62 : decode prog_59_method_7_code 62 = .ok (.iand, 1) := by decide +kernel
theorem d6_63 : decode prog_59_method_7_code 63 = .ok (.i2l, 1) := by decide +kernel
theorem d6_64 : decode prog_59_method_7_code 64 = .ok (.iload 4, 2) := by decide +kernel
theorem d6_66 : decode prog_59_method_7_code 66 = .ok (.lshl, 1) := by decide +kernel
theorem d6_67 : decode prog_59_method_7_code 67 = .ok (.lor, 1) := by decide +kernel
theorem d6_68 : decode prog_59_method_7_code 68 = .ok (.lstore_n 2, 1) := by decide +kernel
theorem d6_69 : decode prog_59_method_7_code 69 = .ok (.iload 5, 2) := by decide +kernel
theorem d6_71 : decode prog_59_method_7_code 71 = .ok (.ifCond .lt 57, 3) := by decide +kernel
theorem d6_74 : decode prog_59_method_7_code 74 = .ok (.iload 4, 2) := by decide +kernel
theorem d6_76 : decode prog_59_method_7_code 76 = .ok (.bipush 63, 2) := by decide +kernel
theorem d6_78 : decode prog_59_method_7_code 78 = .ok (.if_icmp .ne 20, 3) := by decide +kernel
theorem d6_98 : decode prog_59_method_7_code 98 = .ok (.aload_n 0, 1) := by decide +kernel
theorem d6_99 : decode prog_59_method_7_code 99 = .ok (.getfield 40, 3) := by decide +kernel
theorem d6_102 : decode prog_59_method_7_code 102 = .ok (.ifCond .eq 24, 3) := by decide +kernel
theorem d6_105 : decode prog_59_method_7_code 105 = .ok (.iload 5, 2) := by decide +kernel
theorem d6_107 : decode prog_59_method_7_code 107 = .ok (.ifCond .ne 19, 3) := by decide +kernel
theorem d6_110 : decode prog_59_method_7_code 110 = .ok (.iload 4, 2) := by decide +kernel
theorem d6_112 : decode prog_59_method_7_code 112 = .ok (.ifCond .le 14, 3) := by decide +kernel
theorem d6_126 : decode prog_59_method_7_code 126 = .ok (.lload_n 2, 1) := by decide +kernel
theorem d6_127 : decode prog_59_method_7_code 127 = .ok (.lreturn, 1) := by decide +kernel
theorem pn_rm6 : plainFor (⟨"com/example/wirefold/wirefold/WireReader", "readVarint", "()J"⟩ : MethodName) = true := by first | exact plainFor_of_name (by first | (simp [plainName, overriddenIn]; done) | decide +kernel) | decide +kernel
theorem ef_rm6 (m : MethodId) (a : Addr) : entryFrame m #[(.ref a)] 6 = (mkF m 0 #[rv a, .unset, .unset, .unset, .unset, .unset] []) := by first | (simp [entryFrame, mkF, argsToLocals, Value.category]; done) | rfl
def Q6 (Z : State) (a : Addr) (d : Addr) (q : Int32) (n : Int32) (z1 : Int32) (x : Int32) (kc : ClassId) (h0 : Heap) (n0 : Nat) (v_ : Option Value) (h_ : Heap) (L_ : List Loc) : Prop := (v_ = some (.long (x &&& 127).toInt64)) ∧ (Fr n0 L_) ∧ (Keep h0 h_ [a]) ∧ (Fld Z h_ a "com/example/wirefold/wirefold/WireReader" "position" "I" (.int (q + (1 : Int32)))) ∧ (Fld Z h_ a "com/example/wirefold/wirefold/WireReader" "end" "I" (.int n))
set_option maxRecDepth 65536 in
set_option maxHeartbeats 40000000 in
theorem rm6 (l : Launch) (Z : State) (a0 : Array Value) (hw : ∀ d ∈ tables_1, d.before a0 Z = true) (ws : List Jvm.Cond) (a : Addr) (d : Addr) (q : Int32) (n : Int32) (z1 : Int32) (x : Int32) (kc : ClassId) (h0 : Heap) (n0 : Nat) (Z0 : n0 ≤ h0.size) (p_0 : Fld Z h0 a "com/example/wirefold/wirefold/WireReader" "data" "[B" (.ref d)) (p_1 : Fld Z h0 a "com/example/wirefold/wirefold/WireReader" "position" "I" (.int q)) (p_2 : Fld Z h0 a "com/example/wirefold/wirefold/WireReader" "end" "I" (.int n)) (p_3 : Fld Z h0 a "com/example/wirefold/wirefold/WireReader" "shortestOnly" "Z" (.int z1)) (p_4 : Exa Z h0 a "com/example/wirefold/wirefold/WireReader") (p_5 : n0 ≤ a) (p_6 : d ≠ a) (p_7 : Arv Z h0 d kc .byte (8 : Int32) [(.int x), (.int x), (.int x), (.int x), (.int x), (.int x), (.int x), (.int x)] (.int (0 : Int32))) (hq : 0 ≤ q.toInt ∧ q.toInt < 8) (hqn : ¬ q = n) (hx0 : ¬ x < 0) :
    MetFree l (⟨"com/example/wirefold/wirefold/WireReader", "readVarint", "()J"⟩ : MethodName) (head1 (Jvm.Cond.code (⟨"com/example/wirefold/wirefold/WireReader", "readVarint", "()J"⟩ : MethodName) prog_59_method_7_code 6 (some .long) :: ws) rRrm6) (fun a_ U_ => a_ = #[(.ref a)] ∧ Z.Warmed39 U_.vm ∧ U_.heap = h0) (fun _ _ _ _ _ => True) (fun _ U_ o_ U1_ => ∃ v_ L_, o_ = .returned v_ ∧ Q6 Z a d q n z1 x kc h0 n0 v_ U1_.heap L_ ∧ FrameEnd U_ o_ U1_ L_ rRrm6.cells rRrm6.slots) := by
  refine MetFree.of_bodySF pn_rm6 hisR ?_
  intro p e s m args below meth c s₁ Bd hml0 hP hK
  obtain ⟨rfl, hZ, hh⟩ := hP
  have hx := Bd.exec
  have hby := Bd.bytes
  have hlk : meth.locks = false := Bd.notSynchronized
  have hml : c.maxLocals = 6 := hml0
  have hown : s.vm.findClass "com/example/wirefold/wirefold/WireReader" = some m.cls := findClass_of_methodNamed Bd.named
  have hnm := (name_of_methodNamed Bd.named Bd.method).1
  have X0 : Stand p l e rRrm6 s m #[(.ref a)] below meth c s₁ [] 0 0 := Stand.of_body Bd
  have e0 : s₁.heap = h0 := by rw [← hh, Bd.state]; rfl
  have N0 := Fr.nil n0
  show own_Goes p e below s (Q6 Z a d q n z1 x kc h0 n0) rRrm6.cells rRrm6.slots s₁ (entryFrame m #[(.ref a)] 6)
  rw [ef_rm6 m a]
  show own_Goes p e below s (Q6 Z a d q n z1 x kc h0 n0) rRrm6.cells rRrm6.slots s₁ (mkF m 0 #[rv a, .unset, .unset, .unset, .unset, .unset] [])
  refine own_st (fun _ kk_ => XS.aloadN X0.here hx rfl (hb hby d6_0) rfl rfl kk_) ?_
  show own_Goes p e below s (Q6 Z a d q n z1 x kc h0 n0) rRrm6.cells rRrm6.slots s₁ (mkF m 1 #[rv a, .unset, .unset, .unset, .unset, .unset] [(.ref a)])
  obtain ⟨T1, X1, e1, st1⟩ := getF X0 hx hZ hown (host := "") (Or.inl (hw _ (List.mem_of_getElem? (i := 13) rfl))) Via.refl e0 p_1 (g := (mkF m 1 #[rv a, .unset, .unset, .unset, .unset, .unset] [(.ref a)])) rfl rfl (hb hby d6_1)
  refine own_st st1 ?_
  show own_Goes p e below s (Q6 Z a d q n z1 x kc h0 n0) rRrm6.cells rRrm6.slots T1 (mkF m 4 #[rv a, .unset, .unset, .unset, .unset, .unset] [(.int q)])
  refine own_st (fun _ kk_ => XS.istoreN X1.here hx rfl (hb hby d6_4) rfl (l' := #[rv a, iv q, .unset, .unset, .unset, .unset]) rfl (XS.lconst X1.here hx rfl (hb hby d6_5) (XS.lstoreN X1.here hx rfl (hb hby d6_6) rfl (l' := #[rv a, iv q, .val (.long (0 : Int64)), .second, .unset, .unset]) rfl (XS.iconst X1.here hx rfl (hb hby d6_7) (XS.istore X1.here hx rfl (hb hby d6_8) rfl (l' := #[rv a, iv q, .val (.long (0 : Int64)), .second, iv (0 : Int32), .unset]) rfl (XS.iload X1.here hx rfl (hb hby d6_10) rfl (XS.bipush X1.here hx rfl (hb hby d6_12) (XS.icmpNo X1.here hx rfl (hb hby d6_14) rfl (XT.ii_ge_f (by decide)) kk_)))))))) ?_
  show own_Goes p e below s (Q6 Z a d q n z1 x kc h0 n0) rRrm6.cells rRrm6.slots T1 (mkF m 17 #[rv a, iv q, .val (.long (0 : Int64)), .second, iv (0 : Int32), .unset] [])
  refine own_st (fun _ kk_ => XS.aloadN X1.here hx rfl (hb hby d6_17) rfl rfl kk_) ?_
  show own_Goes p e below s (Q6 Z a d q n z1 x kc h0 n0) rRrm6.cells rRrm6.slots T1 (mkF m 18 #[rv a, iv q, .val (.long (0 : Int64)), .second, iv (0 : Int32), .unset] [(.ref a)])
  obtain ⟨T2, X2, e2, st2⟩ := getF X1 hx hZ hown (host := "") (Or.inl (hw _ (List.mem_of_getElem? (i := 13) rfl))) Via.refl e1 p_1 (g := (mkF m 18 #[rv a, iv q, .val (.long (0 : Int64)), .second, iv (0 : Int32), .unset] [(.ref a)])) rfl rfl (hb hby d6_18)
  refine own_st st2 ?_
  show own_Goes p e below s (Q6 Z a d q n z1 x kc h0 n0) rRrm6.cells rRrm6.slots T2 (mkF m 21 #[rv a, iv q, .val (.long (0 : Int64)), .second, iv (0 : Int32), .unset] [(.int q)])
  refine own_st (fun _ kk_ => XS.aloadN X2.here hx rfl (hb hby d6_21) rfl rfl kk_) ?_
  show own_Goes p e below s (Q6 Z a d q n z1 x kc h0 n0) rRrm6.cells rRrm6.slots T2 (mkF m 22 #[rv a, iv q, .val (.long (0 : Int64)), .second, iv (0 : Int32), .unset] [(.ref a), (.int q)])
  obtain ⟨T3, X3, e3, st3⟩ := getF X2 hx hZ hown (host := "") (Or.inl (hw _ (List.mem_of_getElem? (i := 15) rfl))) Via.refl e2 p_2 (g := (mkF m 22 #[rv a, iv q, .val (.long (0 : Int64)), .second, iv (0 : Int32), .unset] [(.ref a), (.int q)])) rfl rfl (hb hby d6_22)
  refine own_st st3 ?_
  show own_Goes p e below s (Q6 Z a d q n z1 x kc h0 n0) rRrm6.cells rRrm6.slots T3 (mkF m 25 #[rv a, iv q, .val (.long (0 : Int64)), .second, iv (0 : Int32), .unset] [(.int n), (.int q)])
  refine own_st (fun _ kk_ => XS.icmpYes X3.here hx rfl (pc0 := 25) (pc' := 39) rfl (hb hby d6_25) rfl (XT.ii_ne_t hqn) (by decide) (by decide) (XS.aloadN X3.here hx rfl (hb hby d6_39) rfl rfl kk_)) ?_
  show own_Goes p e below s (Q6 Z a d q n z1 x kc h0 n0) rRrm6.cells rRrm6.slots T3 (mkF m 40 #[rv a, iv q, .val (.long (0 : Int64)), .second, iv (0 : Int32), .unset] [(.ref a)])
  obtain ⟨T4, X4, e4, st4⟩ := getF X3 hx hZ hown (host := "") (Or.inl (hw _ (List.mem_of_getElem? (i := 11) rfl))) Via.refl e3 p_0 (g := (mkF m 40 #[rv a, iv q, .val (.long (0 : Int64)), .second, iv (0 : Int32), .unset] [(.ref a)])) rfl rfl (hb hby d6_40)
  refine own_st st4 ?_
  show own_Goes p e below s (Q6 Z a d q n z1 x kc h0 n0) rRrm6.cells rRrm6.slots T4 (mkF m 43 #[rv a, iv q, .val (.long (0 : Int64)), .second, iv (0 : Int32), .unset] [(.ref d)])
  refine own_st (fun _ kk_ => XS.aloadN X4.here hx rfl (hb hby d6_43) rfl rfl (XS.dup X4.here hx rfl (hb hby d6_44) rfl rfl kk_)) ?_
  show own_Goes p e below s (Q6 Z a d q n z1 x kc h0 n0) rRrm6.cells rRrm6.slots T4 (mkF m 45 #[rv a, iv q, .val (.long (0 : Int64)), .second, iv (0 : Int32), .unset] [(.ref a), (.ref a), (.ref d)])
  obtain ⟨T5, X5, e5, st5⟩ := getF X4 hx hZ hown (host := "") (Or.inl (hw _ (List.mem_of_getElem? (i := 13) rfl))) Via.refl e4 p_1 (g := (mkF m 45 #[rv a, iv q, .val (.long (0 : Int64)), .second, iv (0 : Int32), .unset] [(.ref a), (.ref a), (.ref d)])) rfl rfl (hb hby d6_45)
  refine own_st st5 ?_
  show own_Goes p e below s (Q6 Z a d q n z1 x kc h0 n0) rRrm6.cells rRrm6.slots T5 (mkF m 48 #[rv a, iv q, .val (.long (0 : Int64)), .second, iv (0 : Int32), .unset] [(.int q), (.ref a), (.ref d)])
  refine own_st (fun _ kk_ => XS.dupX1 X5.here hx rfl (hb hby d6_48) rfl rfl rfl (XS.iconst X5.here hx rfl (hb hby d6_49) (XS.iadd X5.here hx rfl (hb hby d6_50) rfl kk_))) ?_
  show own_Goes p e below s (Q6 Z a d q n z1 x kc h0 n0) rRrm6.cells rRrm6.slots T5 (mkF m 51 #[rv a, iv q, .val (.long (0 : Int64)), .second, iv (0 : Int32), .unset] [(.int (q + (1 : Int32))), (.ref a), (.int q), (.ref d)])
  obtain ⟨T6, h6, X6, e6, W6, st6⟩ := putF X5 hx hZ hown (host := "") (Or.inl (hw _ (List.mem_of_getElem? (i := 13) rfl))) Via.refl e5 p_1 p_4 (Or.inl (hw _ (List.mem_of_getElem? (i := 14) rfl))) (hw _ (List.mem_of_getElem? (i := 3) rfl)) (ty := .int) (by decide) rfl rfl (g := (mkF m 51 #[rv a, iv q, .val (.long (0 : Int64)), .second, iv (0 : Int32), .unset] [(.int (q + (1 : Int32))), (.ref a), (.int q), (.ref d)])) rfl rfl (hb hby d6_51)
  have fw6 : Fld Z h6 a "com/example/wirefold/wirefold/WireReader" "position" "I" (.int (q + (1 : Int32))) := p_1.same W6
  have f6_0 := p_0.other W6 (Or.inr (slot_ne (Or.inr (hw _ (List.mem_of_getElem? (i := 12) rfl))) (Or.inl (hw _ (List.mem_of_getElem? (i := 14) rfl))) (by decide) (t := (.array .byte)) (t' := .int) (by decide) (by decide)))
  have f6_2 := p_2.other W6 (Or.inr (slot_ne (Or.inr (hw _ (List.mem_of_getElem? (i := 16) rfl))) (Or.inl (hw _ (List.mem_of_getElem? (i := 14) rfl))) (by decide) (t := .int) (t' := .int) (by decide) (by decide)))
  have f6_3 := p_3.other W6 (Or.inr (slot_ne (Or.inr (hw _ (List.mem_of_getElem? (i := 18) rfl))) (Or.inl (hw _ (List.mem_of_getElem? (i := 14) rfl))) (by decide) (t := .boolean) (t' := .int) (by decide) (by decide)))
  have f6_4 := p_4.wr W6
  have f6_5 := p_7.other W6 p_6
  have Zs6 : n0 ≤ h6.size := Nat.le_trans Z0 (Nat.le_of_eq W6.size.symm)
  have K6 := (Keep.refl h0 [a]).wr W6 (Or.inl (List.mem_of_getElem? (i := 0) rfl))
  have N6 := Fr.snoc X6 N0 p_5
  refine own_st st6 ?_
  show own_Goes p e below s (Q6 Z a d q n z1 x kc h0 n0) rRrm6.cells rRrm6.slots T6 (mkF m 54 #[rv a, iv q, .val (.long (0 : Int64)), .second, iv (0 : Int32), .unset] [(.int q), (.ref d)])
  obtain ⟨cl7, Ar7, q7, Sz7, Nn7, Hh7, Gg7⟩ := f6_5
  refine own_st (fun _ kk_ => X6.baloadBytes hx (j := q) (v := (.int x)) (by rw [e6]; exact Ar7.1) (State.isArrayOf_alike hZ.alike Ar7.2.1) Ar7.2.2 (inb_of Sz7 ⟨(own_clamp hq).1, (own_clamp hq).2.1⟩) (Hh7.at (inb_of Sz7 ⟨(own_clamp hq).1, (own_clamp hq).2.1⟩) (own_get8 (own_clamp hq).2.2)) (g := (mkF m 54 #[rv a, iv q, .val (.long (0 : Int64)), .second, iv (0 : Int32), .unset] [(.int q), (.ref d)])) rfl rfl (hb hby d6_54) _ kk_) ?_
  show own_Goes p e below s (Q6 Z a d q n z1 x kc h0 n0) rRrm6.cells rRrm6.slots T6 (mkF m 55 #[rv a, iv q, .val (.long (0 : Int64)), .second, iv (0 : Int32), .unset] [(.int x)])
  refine own_st (fun _ kk_ => XS.istore X6.here hx rfl (hb hby d6_55) rfl (l' := #[rv a, iv q, .val (.long (0 : Int64)), .second, iv (0 : Int32), iv x]) rfl (XS.lloadN X6.here hx rfl (hb hby d6_57) rfl (XS.iload X6.here hx rfl (hb hby d6_58) rfl (XS.bipush X6.here hx rfl (hb hby d6_60) (XS.iand X6.here hx rfl (hb hby d6_62) rfl (XS.i2l X6.here hx rfl (hb hby d6_63) rfl (XS.iload X6.here hx rfl (hb hby d6_64) rfl (XS.lshl X6.here hx rfl (hb hby d6_66) rfl kk_)))))))) ?_
  show own_Goes p e below s (Q6 Z a d q n z1 x kc h0 n0) rRrm6.cells rRrm6.slots T6 (mkF m 67 #[rv a, iv q, .val (.long (0 : Int64)), .second, iv (0 : Int32), iv x] [(.long (((x &&& (127 : Int32)).toInt64) <<< ((0 : Int32) &&& 0x3f).toInt64)), (.long (0 : Int64))])
  refine own_st (fun _ kk_ => XS.lor X6.here hx rfl (hb hby d6_67) rfl (XS.lstoreN X6.here hx rfl (hb hby d6_68) rfl (l' := #[rv a, iv q, .val (.long ((0 : Int64) ||| (((x &&& (127 : Int32)).toInt64) <<< ((0 : Int32) &&& 0x3f).toInt64))), .second, iv (0 : Int32), iv x]) rfl (XS.iload X6.here hx rfl (hb hby d6_69) rfl (XS.ifNo X6.here hx rfl (hb hby d6_71) rfl (XT.i0_lt_f hx0) (XS.iload X6.here hx rfl (hb hby d6_74) rfl (XS.bipush X6.here hx rfl (hb hby d6_76) (XS.icmpYes X6.here hx rfl (pc0 := 78) (pc' := 98) rfl (hb hby d6_78) rfl (XT.ii_ne_t (by decide)) (by decide) (by decide) (XS.aloadN X6.here hx rfl (hb hby d6_98) rfl rfl kk_)))))))) ?_
  show own_Goes p e below s (Q6 Z a d q n z1 x kc h0 n0) rRrm6.cells rRrm6.slots T6 (mkF m 99 #[rv a, iv q, .val (.long ((0 : Int64) ||| (((x &&& (127 : Int32)).toInt64) <<< ((0 : Int32) &&& 0x3f).toInt64))), .second, iv (0 : Int32), iv x] [(.ref a)])
  obtain ⟨T8, X8, e8, st8⟩ := getF X6 hx hZ hown (host := "") (Or.inl (hw _ (List.mem_of_getElem? (i := 17) rfl))) Via.refl e6 f6_3 (g := (mkF m 99 #[rv a, iv q, .val (.long ((0 : Int64) ||| (((x &&& (127 : Int32)).toInt64) <<< ((0 : Int32) &&& 0x3f).toInt64))), .second, iv (0 : Int32), iv x] [(.ref a)])) rfl rfl (hb hby d6_99)
  refine own_st st8 ?_
  show own_Goes p e below s (Q6 Z a d q n z1 x kc h0 n0) rRrm6.cells rRrm6.slots T8 (mkF m 102 #[rv a, iv q, .val (.long ((0 : Int64) ||| (((x &&& (127 : Int32)).toInt64) <<< ((0 : Int32) &&& 0x3f).toInt64))), .second, iv (0 : Int32), iv x] [(.int z1)])
  rcases Classical.em (z1 = (0 : Int32)) with hz0 | hz0
  · refine own_st (fun _ kk_ => XS.ifYes X8.here hx rfl (pc0 := 102) (pc' := 126) rfl (hb hby d6_102) rfl (XT.i0_eq_t hz0) (by decide) (by decide) (XS.lloadN X8.here hx rfl (hb hby d6_126) rfl kk_)) ?_
    show own_Goes p e below s (Q6 Z a d q n z1 x kc h0 n0) rRrm6.cells rRrm6.slots T8 (mkF m 127 #[rv a, iv q, .val (.long ((0 : Int64) ||| (((x &&& (127 : Int32)).toInt64) <<< ((0 : Int32) &&& 0x3f).toInt64))), .second, iv (0 : Int32), iv x] [(.long ((0 : Int64) ||| (((x &&& (127 : Int32)).toInt64) <<< ((0 : Int32) &&& 0x3f).toInt64)))])
    refine own_retL X8 hx hlk Bd.returns (hb hby d6_127) (by decide) (by decide) ?_
    show Q6 Z a d q n z1 x kc h0 n0 (some (.long ((0 : Int64) ||| (((x &&& (127 : Int32)).toInt64) <<< ((0 : Int32) &&& 0x3f).toInt64)))) T8.heap _
    rw [e8]
    exact ⟨by exact congrArg (fun z => some (Value.long z)) (own_shl _), N6, K6, fw6, f6_2⟩
  · refine own_st (fun _ kk_ => XS.ifNo X8.here hx rfl (hb hby d6_102) rfl (XT.i0_eq_f hz0) (XS.iload X8.here hx rfl (hb hby d6_105) rfl kk_)) ?_
    show own_Goes p e below s (Q6 Z a d q n z1 x kc h0 n0) rRrm6.cells rRrm6.slots T8 (mkF m 107 #[rv a, iv q, .val (.long ((0 : Int64) ||| (((x &&& (127 : Int32)).toInt64) <<< ((0 : Int32) &&& 0x3f).toInt64))), .second, iv (0 : Int32), iv x] [(.int x)])
    rcases Classical.em (x = (0 : Int32)) with hz1 | hz1
    · refine own_st (fun _ kk_ => XS.ifNo X8.here hx rfl (hb hby d6_107) rfl (XT.i0_ne_f hz1) (XS.iload X8.here hx rfl (hb hby d6_110) rfl (XS.ifYes X8.here hx rfl (pc0 := 112) (pc' := 126) rfl (hb hby d6_112) rfl (XT.i0_le_t (by decide)) (by decide) (by decide) (XS.lloadN X8.here hx rfl (hb hby d6_126) rfl kk_)))) ?_
      show own_Goes p e below s (Q6 Z a d q n z1 x kc h0 n0) rRrm6.cells rRrm6.slots T8 (mkF m 127 #[rv a, iv q, .val (.long ((0 : Int64) ||| (((x &&& (127 : Int32)).toInt64) <<< ((0 : Int32) &&& 0x3f).toInt64))), .second, iv (0 : Int32), iv x] [(.long ((0 : Int64) ||| (((x &&& (127 : Int32)).toInt64) <<< ((0 : Int32) &&& 0x3f).toInt64)))])
      refine own_retL X8 hx hlk Bd.returns (hb hby d6_127) (by decide) (by decide) ?_
      show Q6 Z a d q n z1 x kc h0 n0 (some (.long ((0 : Int64) ||| (((x &&& (127 : Int32)).toInt64) <<< ((0 : Int32) &&& 0x3f).toInt64)))) T8.heap _
      rw [e8]
      exact ⟨by exact congrArg (fun z => some (Value.long z)) (own_shl _), N6, K6, fw6, f6_2⟩
    · refine own_st (fun _ kk_ => XS.ifYes X8.here hx rfl (pc0 := 107) (pc' := 126) rfl (hb hby d6_107) rfl (XT.i0_ne_t hz1) (by decide) (by decide) (XS.lloadN X8.here hx rfl (hb hby d6_126) rfl kk_)) ?_
      show own_Goes p e below s (Q6 Z a d q n z1 x kc h0 n0) rRrm6.cells rRrm6.slots T8 (mkF m 127 #[rv a, iv q, .val (.long ((0 : Int64) ||| (((x &&& (127 : Int32)).toInt64) <<< ((0 : Int32) &&& 0x3f).toInt64))), .second, iv (0 : Int32), iv x] [(.long ((0 : Int64) ||| (((x &&& (127 : Int32)).toInt64) <<< ((0 : Int32) &&& 0x3f).toInt64)))])
      refine own_retL X8 hx hlk Bd.returns (hb hby d6_127) (by decide) (by decide) ?_
      show Q6 Z a d q n z1 x kc h0 n0 (some (.long ((0 : Int64) ||| (((x &&& (127 : Int32)).toInt64) <<< ((0 : Int32) &&& 0x3f).toInt64)))) T8.heap _
      rw [e8]
      exact ⟨by exact congrArg (fun z => some (Value.long z)) (own_shl _), N6, K6, fw6, f6_2⟩
theorem pd_0 : parseMethodDescriptor "([BIIZ)V" = some ⟨[(.array .byte), .int, .int, .boolean], none⟩ := by decide +kernel
theorem pd_1 : parseMethodDescriptor "()Z" = some ⟨[], some .boolean⟩ := by decide +kernel
theorem pd_2 : parseMethodDescriptor "(I)V" = some ⟨[.int], none⟩ := by decide +kernel
theorem pd_3 : parseMethodDescriptor "()I" = some ⟨[], some .int⟩ := by decide +kernel
theorem pd_4 : parseMethodDescriptor "()J" = some ⟨[], some .long⟩ := by decide +kernel
theorem pn_rm0 : plainFor x = true := by first | exact plainFor_of_name (by first | (simp [plainName, overriddenIn]; done) | decide +kernel) | decide +kernel
theorem ef_rm0 (m : MethodId) (p1 : Int32) (p2 : Int32) (p3 : Int32) (p4 : Int32) (p5 : Int32) : entryFrame m #[(.int p1), (.int p2), (.int p3), (.int p4), (.int p5)] maxLocals = (mkF m 0 #[iv p1, iv p2, iv p3, iv p4, iv p5, .unset, .unset, .unset, .unset, .unset, .unset, .unset, .unset, .unset, .unset] []) := by first | (simp [entryFrame, mkF, argsToLocals, Value.category, maxLocals]; done) | rfl
def Q0 (Z : State) (p1 : Int32) (p2 : Int32) (p3 : Int32) (p4 : Int32) (p5 : Int32) (h0 : Heap) (n0 : Nat) (v_ : Option Value) (h_ : Heap) (L_ : List Loc) : Prop := (v_ = some (.int (1 : Int32))) ∧ (Fr n0 L_)
set_option maxRecDepth 65536 in
set_option maxHeartbeats 40000000 in
theorem rm0 (l : Launch) (Z : State) (a0 : Array Value) (hw : ∀ d ∈ tables_1, d.before a0 Z = true) (ws : List Jvm.Cond) (p1 : Int32) (p2 : Int32) (p3 : Int32) (p4 : Int32) (p5 : Int32) (h0 : Heap) (n0 : Nat) (Z0 : n0 ≤ h0.size) :
    MetFree l x (head1 (Jvm.Cond.code x code maxLocals ret :: ws) room_1) (fun a_ U_ => a_ = #[(.int p1), (.int p2), (.int p3), (.int p4), (.int p5)] ∧ Z.Warmed39 U_.vm ∧ U_.heap = h0) (fun _ _ _ _ _ => True) (fun _ U_ o_ U1_ => ∃ v_ L_, o_ = .returned v_ ∧ Q0 Z p1 p2 p3 p4 p5 h0 n0 v_ U1_.heap L_ ∧ FrameEnd U_ o_ U1_ L_ 16 128) := by
  refine MetFree.of_bodySF pn_rm0 hisR ?_
  intro p e s m args below meth c s₁ Bd hml0 hP hK
  obtain ⟨rfl, hZ, hh⟩ := hP
  have hx := Bd.exec
  have hby := Bd.bytes
  have hlk : meth.locks = false := Bd.notSynchronized
  have hml : c.maxLocals = 15 := hml0
  have hown : s.vm.findClass "com/example/wirefold/wirefold/WireReaderAtEndPinLaw" = some m.cls := findClass_of_methodNamed Bd.named
  have hnm := (name_of_methodNamed Bd.named Bd.method).1
  have X0 : Stand p l e room_1 s m #[(.int p1), (.int p2), (.int p3), (.int p4), (.int p5)] below meth c s₁ [] 0 0 := Stand.of_body Bd
  have e0 : s₁.heap = h0 := by rw [← hh, Bd.state]; rfl
  have N0 := Fr.nil n0
  show own_Goes p e below s (Q0 Z p1 p2 p3 p4 p5 h0 n0) 16 128 s₁ (entryFrame m #[(.int p1), (.int p2), (.int p3), (.int p4), (.int p5)] maxLocals)
  rw [ef_rm0 m p1 p2 p3 p4 p5]
  show own_Goes p e below s (Q0 Z p1 p2 p3 p4 p5 h0 n0) 16 128 s₁ (mkF m 0 #[iv p1, iv p2, iv p3, iv p4, iv p5, .unset, .unset, .unset, .unset, .unset, .unset, .unset, .unset, .unset, .unset] [])
  refine own_st (fun _ kk_ => XS.iloadN X0.here hx rfl (hb hby at_0) rfl (X0.ldcInt hx hown (mvT hZ (hw _ (List.mem_of_getElem? (i := 0) rfl))) (g := (mkF m 1 #[iv p1, iv p2, iv p3, iv p4, iv p5, .unset, .unset, .unset, .unset, .unset, .unset, .unset, .unset, .unset, .unset] [(.int p1)])) rfl (hb hby at_1) _ (XS.iand X0.here hx rfl (hb hby at_3) rfl (XS.bipush X0.here hx rfl (hb hby at_4) (iremM X0 hx rfl (hb hby at_6) rfl (by decide) (XS.istore X0.here hx rfl (hb hby at_7) rfl (l' := #[iv p1, iv p2, iv p3, iv p4, iv p5, iv ((p1 &&& (2147483647 : Int32)) % (9 : Int32)), .unset, .unset, .unset, .unset, .unset, .unset, .unset, .unset, .unset]) rfl kk_)))))) ?_
  show own_Goes p e below s (Q0 Z p1 p2 p3 p4 p5 h0 n0) 16 128 s₁ (mkF m 9 #[iv p1, iv p2, iv p3, iv p4, iv p5, iv ((p1 &&& (2147483647 : Int32)) % (9 : Int32)), .unset, .unset, .unset, .unset, .unset, .unset, .unset, .unset, .unset] [])
  obtain ⟨o, h_o⟩ : ∃ z, z = ((p1 &&& (2147483647 : Int32)) % (9 : Int32)) := ⟨_, rfl⟩
  rw [← h_o]
  show own_Goes p e below s (Q0 Z p1 p2 p3 p4 p5 h0 n0) 16 128 s₁ (mkF m 9 #[iv p1, iv p2, iv p3, iv p4, iv p5, iv o, .unset, .unset, .unset, .unset, .unset, .unset, .unset, .unset, .unset] [])
  have ho : 0 ≤ o.toInt ∧ o.toInt ≤ 8 := by rw [h_o]; exact own_o p1
  refine own_st (fun _ kk_ => XS.bipush X0.here hx rfl (hb hby at_9) (XS.iload X0.here hx rfl (hb hby at_11) rfl (XS.isub X0.here hx rfl (hb hby at_13) rfl (XS.istore X0.here hx rfl (hb hby at_14) rfl (l' := #[iv p1, iv p2, iv p3, iv p4, iv p5, iv o, iv ((8 : Int32) - o), .unset, .unset, .unset, .unset, .unset, .unset, .unset, .unset]) rfl (XS.iloadN X0.here hx rfl (hb hby at_16) rfl (X0.ldcInt hx hown (mvT hZ (hw _ (List.mem_of_getElem? (i := 0) rfl))) (g := (mkF m 17 #[iv p1, iv p2, iv p3, iv p4, iv p5, iv o, iv ((8 : Int32) - o), .unset, .unset, .unset, .unset, .unset, .unset, .unset, .unset] [(.int p2)])) rfl (hb hby at_17) _ (XS.iand X0.here hx rfl (hb hby at_19) rfl (XS.iload X0.here hx rfl (hb hby at_20) rfl kk_)))))))) ?_
  show own_Goes p e below s (Q0 Z p1 p2 p3 p4 p5 h0 n0) 16 128 s₁ (mkF m 22 #[iv p1, iv p2, iv p3, iv p4, iv p5, iv o, iv ((8 : Int32) - o), .unset, .unset, .unset, .unset, .unset, .unset, .unset, .unset] [(.int ((8 : Int32) - o)), (.int (p2 &&& (2147483647 : Int32)))])
  refine own_st (fun _ kk_ => XS.iconst X0.here hx rfl (hb hby at_22) (XS.iadd X0.here hx rfl (hb hby at_23) rfl (iremM X0 hx rfl (hb hby at_24) rfl (own_nz ho) (XS.istore X0.here hx rfl (hb hby at_25) rfl (l' := #[iv p1, iv p2, iv p3, iv p4, iv p5, iv o, iv ((8 : Int32) - o), iv ((p2 &&& (2147483647 : Int32)) % (((8 : Int32) - o) + (1 : Int32))), .unset, .unset, .unset, .unset, .unset, .unset, .unset]) rfl kk_)))) ?_
  show own_Goes p e below s (Q0 Z p1 p2 p3 p4 p5 h0 n0) 16 128 s₁ (mkF m 27 #[iv p1, iv p2, iv p3, iv p4, iv p5, iv o, iv ((8 : Int32) - o), iv ((p2 &&& (2147483647 : Int32)) % (((8 : Int32) - o) + (1 : Int32))), .unset, .unset, .unset, .unset, .unset, .unset, .unset] [])
  obtain ⟨l9, h_l9⟩ : ∃ z, z = ((p2 &&& (2147483647 : Int32)) % (((8 : Int32) - o) + (1 : Int32))) := ⟨_, rfl⟩
  rw [← h_l9]
  show own_Goes p e below s (Q0 Z p1 p2 p3 p4 p5 h0 n0) 16 128 s₁ (mkF m 27 #[iv p1, iv p2, iv p3, iv p4, iv p5, iv o, iv ((8 : Int32) - o), iv l9, .unset, .unset, .unset, .unset, .unset, .unset, .unset] [])
  have hl : 0 ≤ l9.toInt ∧ o.toInt + l9.toInt ≤ 8 := by rw [h_l9]; exact own_l ho
  refine own_st (fun _ kk_ => XS.iloadN X0.here hx rfl (hb hby at_27) rfl (X0.ldcInt hx hown (mvT hZ (hw _ (List.mem_of_getElem? (i := 0) rfl))) (g := (mkF m 28 #[iv p1, iv p2, iv p3, iv p4, iv p5, iv o, iv ((8 : Int32) - o), iv l9, .unset, .unset, .unset, .unset, .unset, .unset, .unset] [(.int p3)])) rfl (hb hby at_28) _ (XS.iand X0.here hx rfl (hb hby at_30) rfl (XS.iload X0.here hx rfl (hb hby at_31) rfl (XS.iconst X0.here hx rfl (hb hby at_33) (XS.iadd X0.here hx rfl (hb hby at_34) rfl (iremM X0 hx rfl (hb hby at_35) rfl (own_nz1 ⟨hl.1, by omega⟩) (XS.istore X0.here hx rfl (hb hby at_36) rfl (l' := #[iv p1, iv p2, iv p3, iv p4, iv p5, iv o, iv ((8 : Int32) - o), iv l9, iv ((p3 &&& (2147483647 : Int32)) % (l9 + (1 : Int32))), .unset, .unset, .unset, .unset, .unset, .unset]) rfl kk_)))))))) ?_
  show own_Goes p e below s (Q0 Z p1 p2 p3 p4 p5 h0 n0) 16 128 s₁ (mkF m 38 #[iv p1, iv p2, iv p3, iv p4, iv p5, iv o, iv ((8 : Int32) - o), iv l9, iv ((p3 &&& (2147483647 : Int32)) % (l9 + (1 : Int32))), .unset, .unset, .unset, .unset, .unset, .unset] [])
  obtain ⟨s9, h_s9⟩ : ∃ z, z = ((p3 &&& (2147483647 : Int32)) % (l9 + (1 : Int32))) := ⟨_, rfl⟩
  rw [← h_s9]
  show own_Goes p e below s (Q0 Z p1 p2 p3 p4 p5 h0 n0) 16 128 s₁ (mkF m 38 #[iv p1, iv p2, iv p3, iv p4, iv p5, iv o, iv ((8 : Int32) - o), iv l9, iv s9, .unset, .unset, .unset, .unset, .unset, .unset] [])
  have hs : 0 ≤ s9.toInt ∧ s9.toInt ≤ l9.toInt := by rw [h_s9]; exact own_s ⟨hl.1, by omega⟩
  have hol : (o + l9).toInt = o.toInt + l9.toInt := own_add ho.1 hl.1 (by omega)
  have hos : (o + s9).toInt = o.toInt + s9.toInt := own_add ho.1 hs.1 (by omega)
  have hos1 : ((o + s9) + 1).toInt = o.toInt + s9.toInt + 1 := by rw [own_1 (by omega)]; omega
  have hs1 : (s9 + 1).toInt = s9.toInt + 1 := own_1 (by omega)
  refine own_st (fun _ kk_ => XS.iloadN X0.here hx rfl (hb hby at_38) rfl (XS.bipush X0.here hx rfl (hb hby at_39) (XS.iand X0.here hx rfl (hb hby at_41) rfl (XS.i2b X0.here hx rfl (hb hby at_42) rfl (XS.istore X0.here hx rfl (hb hby at_43) rfl (l' := #[iv p1, iv p2, iv p3, iv p4, iv p5, iv o, iv ((8 : Int32) - o), iv l9, iv s9, iv ((p4 &&& (127 : Int32)).toInt8.toInt32), .unset, .unset, .unset, .unset, .unset]) rfl kk_))))) ?_
  show own_Goes p e below s (Q0 Z p1 p2 p3 p4 p5 h0 n0) 16 128 s₁ (mkF m 45 #[iv p1, iv p2, iv p3, iv p4, iv p5, iv o, iv ((8 : Int32) - o), iv l9, iv s9, iv ((p4 &&& (127 : Int32)).toInt8.toInt32), .unset, .unset, .unset, .unset, .unset] [])
  obtain ⟨bv, h_bv⟩ : ∃ z, z = ((p4 &&& (127 : Int32)).toInt8.toInt32) := ⟨_, rfl⟩
  rw [← h_bv]
  show own_Goes p e below s (Q0 Z p1 p2 p3 p4 p5 h0 n0) 16 128 s₁ (mkF m 45 #[iv p1, iv p2, iv p3, iv p4, iv p5, iv o, iv ((8 : Int32) - o), iv l9, iv s9, iv bv, .unset, .unset, .unset, .unset, .unset] [])
  have hbv := own_byte p4
  rw [← h_bv] at hbv
  refine own_st (fun _ kk_ => XS.bipush X0.here hx rfl (hb hby at_45) kk_) ?_
  show own_Goes p e below s (Q0 Z p1 p2 p3 p4 p5 h0 n0) 16 128 s₁ (mkF m 47 #[iv p1, iv p2, iv p3, iv p4, iv p5, iv o, iv ((8 : Int32) - o), iv l9, iv s9, iv bv, .unset, .unset, .unset, .unset, .unset] [(.int (8 : Int32))])
  obtain ⟨T1, h1, k1, X1, e1, E1, A1, st1⟩ := newP X0 hx hZ (hw _ (List.mem_of_getElem? (i := 1) rfl)) e0 (g := (mkF m 47 #[iv p1, iv p2, iv p3, iv p4, iv p5, iv o, iv ((8 : Int32) - o), iv l9, iv s9, iv bv, .unset, .unset, .unset, .unset, .unset] [(.int (8 : Int32))])) rfl (hb hby at_47) rfl (by decide) (cap := 8) (by decide) (by decide) (by decide) (by decide)
  obtain ⟨b1, gx1⟩ : ∃ z, z = h0.size := ⟨_, rfl⟩
  rw [← gx1] at A1 st1
  have gg1 : n0 ≤ b1 := Nat.le_trans Z0 (Nat.le_of_eq gx1.symm)
  have Zs1 : n0 ≤ h1.size := Nat.le_trans Z0 E1.1
  have V1 : Arv Z h1 b1 k1 .byte (8 : Int32) [(.int (0 : Int32)), (.int (0 : Int32)), (.int (0 : Int32)), (.int (0 : Int32)), (.int (0 : Int32)), (.int (0 : Int32)), (.int (0 : Int32)), (.int (0 : Int32))] (.int (0 : Int32)) := (Arv.new A1 (by decide)).pad (pad_rep [] (.int (0 : Int32)) 8)
  refine own_st st1 ?_
  show own_Goes p e below s (Q0 Z p1 p2 p3 p4 p5 h0 n0) 16 128 T1 (mkF m 49 #[iv p1, iv p2, iv p3, iv p4, iv p5, iv o, iv ((8 : Int32) - o), iv l9, iv s9, iv bv, .unset, .unset, .unset, .unset, .unset] [(.ref b1)])
  refine own_st (fun _ kk_ => XS.astore X1.here hx rfl (hb hby at_49) rfl rfl (l' := #[iv p1, iv p2, iv p3, iv p4, iv p5, iv o, iv ((8 : Int32) - o), iv l9, iv s9, iv bv, rv b1, .unset, .unset, .unset, .unset]) rfl (XS.aload X1.here hx rfl (hb hby at_51) rfl rfl (XS.iconst X1.here hx rfl (hb hby at_53) (XS.iload X1.here hx rfl (hb hby at_54) rfl kk_)))) ?_
  show own_Goes p e below s (Q0 Z p1 p2 p3 p4 p5 h0 n0) 16 128 T1 (mkF m 56 #[iv p1, iv p2, iv p3, iv p4, iv p5, iv o, iv ((8 : Int32) - o), iv l9, iv s9, iv bv, rv b1, .unset, .unset, .unset, .unset] [(.int bv), (.int (0 : Int32)), (.ref b1)])
  obtain ⟨cl2, Ar2, q2, Sz2, Nn2, Hh2, Gg2⟩ := V1
  obtain ⟨T2, h2, X2, e2, W2, st2⟩ := stB X1 hx hZ e1 Ar2 (j := (0 : Int32)) (inb_of Sz2 ⟨by decide, by decide⟩) (g := (mkF m 56 #[iv p1, iv p2, iv p3, iv p4, iv p5, iv o, iv ((8 : Int32) - o), iv l9, iv s9, iv bv, rv b1, .unset, .unset, .unset, .unset] [(.int bv), (.int (0 : Int32)), (.ref b1)])) rfl rfl (hb hby at_56)
  have V2 : Arv Z h2 b1 k1 .byte (8 : Int32) [(.int (nar .byte bv)), (.int (0 : Int32)), (.int (0 : Int32)), (.int (0 : Int32)), (.int (0 : Int32)), (.int (0 : Int32)), (.int (0 : Int32)), (.int (0 : Int32))] (.int (0 : Int32)) := Arv.set Ar2 q2 Sz2 Nn2 Hh2 Gg2 (fits_nar_byte _) W2 0 rfl (Nat.le_of_ble_eq_true rfl)
  have Zs2 : n0 ≤ h2.size := Nat.le_trans Zs1 (Nat.le_of_eq W2.size.symm)
  have N2 := Fr.snoc X2 N0 gg1
  refine own_st st2 ?_
  show own_Goes p e below s (Q0 Z p1 p2 p3 p4 p5 h0 n0) 16 128 T2 (mkF m 57 #[iv p1, iv p2, iv p3, iv p4, iv p5, iv o, iv ((8 : Int32) - o), iv l9, iv s9, iv bv, rv b1, .unset, .unset, .unset, .unset] [])
  refine own_st (fun _ kk_ => XS.aload X2.here hx rfl (hb hby at_57) rfl rfl (XS.iconst X2.here hx rfl (hb hby at_59) (XS.iload X2.here hx rfl (hb hby at_60) rfl kk_))) ?_
  show own_Goes p e below s (Q0 Z p1 p2 p3 p4 p5 h0 n0) 16 128 T2 (mkF m 62 #[iv p1, iv p2, iv p3, iv p4, iv p5, iv o, iv ((8 : Int32) - o), iv l9, iv s9, iv bv, rv b1, .unset, .unset, .unset, .unset] [(.int bv), (.int (1 : Int32)), (.ref b1)])
  obtain ⟨cl3, Ar3, q3, Sz3, Nn3, Hh3, Gg3⟩ := V2
  obtain ⟨T3, h3, X3, e3, W3, st3⟩ := stB X2 hx hZ e2 Ar3 (j := (1 : Int32)) (inb_of Sz3 ⟨by decide, by decide⟩) (g := (mkF m 62 #[iv p1, iv p2, iv p3, iv p4, iv p5, iv o, iv ((8 : Int32) - o), iv l9, iv s9, iv bv, rv b1, .unset, .unset, .unset, .unset] [(.int bv), (.int (1 : Int32)), (.ref b1)])) rfl rfl (hb hby at_62)
  have V3 : Arv Z h3 b1 k1 .byte (8 : Int32) [(.int (nar .byte bv)), (.int (nar .byte bv)), (.int (0 : Int32)), (.int (0 : Int32)), (.int (0 : Int32)), (.int (0 : Int32)), (.int (0 : Int32)), (.int (0 : Int32))] (.int (0 : Int32)) := Arv.set Ar3 q3 Sz3 Nn3 Hh3 Gg3 (fits_nar_byte _) W3 1 rfl (Nat.le_of_ble_eq_true rfl)
  have Zs3 : n0 ≤ h3.size := Nat.le_trans Zs2 (Nat.le_of_eq W3.size.symm)
  have N3 := Fr.snoc X3 N2 gg1
  refine own_st st3 ?_
  show own_Goes p e below s (Q0 Z p1 p2 p3 p4 p5 h0 n0) 16 128 T3 (mkF m 63 #[iv p1, iv p2, iv p3, iv p4, iv p5, iv o, iv ((8 : Int32) - o), iv l9, iv s9, iv bv, rv b1, .unset, .unset, .unset, .unset] [])
  refine own_st (fun _ kk_ => XS.aload X3.here hx rfl (hb hby at_63) rfl rfl (XS.iconst X3.here hx rfl (hb hby at_65) (XS.iload X3.here hx rfl (hb hby at_66) rfl kk_))) ?_
  show own_Goes p e below s (Q0 Z p1 p2 p3 p4 p5 h0 n0) 16 128 T3 (mkF m 68 #[iv p1, iv p2, iv p3, iv p4, iv p5, iv o, iv ((8 : Int32) - o), iv l9, iv s9, iv bv, rv b1, .unset, .unset, .unset, .unset] [(.int bv), (.int (2 : Int32)), (.ref b1)])
  obtain ⟨cl4, Ar4, q4, Sz4, Nn4, Hh4, Gg4⟩ := V3
  obtain ⟨T4, h4, X4, e4, W4, st4⟩ := stB X3 hx hZ e3 Ar4 (j := (2 : Int32)) (inb_of Sz4 ⟨by decide, by decide⟩) (g := (mkF m 68 #[iv p1, iv p2, iv p3, iv p4, iv p5, iv o, iv ((8 : Int32) - o), iv l9, iv s9, iv bv, rv b1, .unset, .unset, .unset, .unset] [(.int bv), (.int (2 : Int32)), (.ref b1)])) rfl rfl (hb hby at_68)
  have V4 : Arv Z h4 b1 k1 .byte (8 : Int32) [(.int (nar .byte bv)), (.int (nar .byte bv)), (.int (nar .byte bv)), (.int (0 : Int32)), (.int (0 : Int32)), (.int (0 : Int32)), (.int (0 : Int32)), (.int (0 : Int32))] (.int (0 : Int32)) := Arv.set Ar4 q4 Sz4 Nn4 Hh4 Gg4 (fits_nar_byte _) W4 2 rfl (Nat.le_of_ble_eq_true rfl)
  have Zs4 : n0 ≤ h4.size := Nat.le_trans Zs3 (Nat.le_of_eq W4.size.symm)
  have N4 := Fr.snoc X4 N3 gg1
  refine own_st st4 ?_
  show own_Goes p e below s (Q0 Z p1 p2 p3 p4 p5 h0 n0) 16 128 T4 (mkF m 69 #[iv p1, iv p2, iv p3, iv p4, iv p5, iv o, iv ((8 : Int32) - o), iv l9, iv s9, iv bv, rv b1, .unset, .unset, .unset, .unset] [])
  refine own_st (fun _ kk_ => XS.aload X4.here hx rfl (hb hby at_69) rfl rfl (XS.iconst X4.here hx rfl (hb hby at_71) (XS.iload X4.here hx rfl (hb hby at_72) rfl kk_))) ?_
  show own_Goes p e below s (Q0 Z p1 p2 p3 p4 p5 h0 n0) 16 128 T4 (mkF m 74 #[iv p1, iv p2, iv p3, iv p4, iv p5, iv o, iv ((8 : Int32) - o), iv l9, iv s9, iv bv, rv b1, .unset, .unset, .unset, .unset] [(.int bv), (.int (3 : Int32)), (.ref b1)])
  obtain ⟨cl5, Ar5, q5, Sz5, Nn5, Hh5, Gg5⟩ := V4
  obtain ⟨T5, h5, X5, e5, W5, st5⟩ := stB X4 hx hZ e4 Ar5 (j := (3 : Int32)) (inb_of Sz5 ⟨by decide, by decide⟩) (g := (mkF m 74 #[iv p1, iv p2, iv p3, iv p4, iv p5, iv o, iv ((8 : Int32) - o), iv l9, iv s9, iv bv, rv b1, .unset, .unset, .unset, .unset] [(.int bv), (.int (3 : Int32)), (.ref b1)])) rfl rfl (hb hby at_74)
  have V5 : Arv Z h5 b1 k1 .byte (8 : Int32) [(.int (nar .byte bv)), (.int (nar .byte bv)), (.int (nar .byte bv)), (.int (nar .byte bv)), (.int (0 : Int32)), (.int (0 : Int32)), (.int (0 : Int32)), (.int (0 : Int32))] (.int (0 : Int32)) := Arv.set Ar5 q5 Sz5 Nn5 Hh5 Gg5 (fits_nar_byte _) W5 3 rfl (Nat.le_of_ble_eq_true rfl)
  have Zs5 : n0 ≤ h5.size := Nat.le_trans Zs4 (Nat.le_of_eq W5.size.symm)
  have N5 := Fr.snoc X5 N4 gg1
  refine own_st st5 ?_
  show own_Goes p e below s (Q0 Z p1 p2 p3 p4 p5 h0 n0) 16 128 T5 (mkF m 75 #[iv p1, iv p2, iv p3, iv p4, iv p5, iv o, iv ((8 : Int32) - o), iv l9, iv s9, iv bv, rv b1, .unset, .unset, .unset, .unset] [])
  refine own_st (fun _ kk_ => XS.aload X5.here hx rfl (hb hby at_75) rfl rfl (XS.iconst X5.here hx rfl (hb hby at_77) (XS.iload X5.here hx rfl (hb hby at_78) rfl kk_))) ?_
  show own_Goes p e below s (Q0 Z p1 p2 p3 p4 p5 h0 n0) 16 128 T5 (mkF m 80 #[iv p1, iv p2, iv p3, iv p4, iv p5, iv o, iv ((8 : Int32) - o), iv l9, iv s9, iv bv, rv b1, .unset, .unset, .unset, .unset] [(.int bv), (.int (4 : Int32)), (.ref b1)])
  obtain ⟨cl6, Ar6, q6, Sz6, Nn6, Hh6, Gg6⟩ := V5
  obtain ⟨T6, h6, X6, e6, W6, st6⟩ := stB X5 hx hZ e5 Ar6 (j := (4 : Int32)) (inb_of Sz6 ⟨by decide, by decide⟩) (g := (mkF m 80 #[iv p1, iv p2, iv p3, iv p4, iv p5, iv o, iv ((8 : Int32) - o), iv l9, iv s9, iv bv, rv b1, .unset, .unset, .unset, .unset] [(.int bv), (.int (4 : Int32)), (.ref b1)])) rfl rfl (hb hby at_80)
  have V6 : Arv Z h6 b1 k1 .byte (8 : Int32) [(.int (nar .byte bv)), (.int (nar .byte bv)), (.int (nar .byte bv)), (.int (nar .byte bv)), (.int (nar .byte bv)), (.int (0 : Int32)), (.int (0 : Int32)), (.int (0 : Int32))] (.int (0 : Int32)) := Arv.set Ar6 q6 Sz6 Nn6 Hh6 Gg6 (fits_nar_byte _) W6 4 rfl (Nat.le_of_ble_eq_true rfl)
  have Zs6 : n0 ≤ h6.size := Nat.le_trans Zs5 (Nat.le_of_eq W6.size.symm)
  have N6 := Fr.snoc X6 N5 gg1
  refine own_st st6 ?_
  show own_Goes p e below s (Q0 Z p1 p2 p3 p4 p5 h0 n0) 16 128 T6 (mkF m 81 #[iv p1, iv p2, iv p3, iv p4, iv p5, iv o, iv ((8 : Int32) - o), iv l9, iv s9, iv bv, rv b1, .unset, .unset, .unset, .unset] [])
  refine own_st (fun _ kk_ => XS.aload X6.here hx rfl (hb hby at_81) rfl rfl (XS.iconst X6.here hx rfl (hb hby at_83) (XS.iload X6.here hx rfl (hb hby at_84) rfl kk_))) ?_
  show own_Goes p e below s (Q0 Z p1 p2 p3 p4 p5 h0 n0) 16 128 T6 (mkF m 86 #[iv p1, iv p2, iv p3, iv p4, iv p5, iv o, iv ((8 : Int32) - o), iv l9, iv s9, iv bv, rv b1, .unset, .unset, .unset, .unset] [(.int bv), (.int (5 : Int32)), (.ref b1)])
  obtain ⟨cl7, Ar7, q7, Sz7, Nn7, Hh7, Gg7⟩ := V6
  obtain ⟨T7, h7, X7, e7, W7, st7⟩ := stB X6 hx hZ e6 Ar7 (j := (5 : Int32)) (inb_of Sz7 ⟨by decide, by decide⟩) (g := (mkF m 86 #[iv p1, iv p2, iv p3, iv p4, iv p5, iv o, iv ((8 : Int32) - o), iv l9, iv s9, iv bv, rv b1, .unset, .unset, .unset, .unset] [(.int bv), (.int (5 : Int32)), (.ref b1)])) rfl rfl (hb hby at_86)
  have V7 : Arv Z h7 b1 k1 .byte (8 : Int32) [(.int (nar .byte bv)), (.int (nar .byte bv)), (.int (nar .byte bv)), (.int (nar .byte bv)), (.int (nar .byte bv)), (.int (nar .byte bv)), (.int (0 : Int32)), (.int (0 : Int32))] (.int (0 : Int32)) := Arv.set Ar7 q7 Sz7 Nn7 Hh7 Gg7 (fits_nar_byte _) W7 5 rfl (Nat.le_of_ble_eq_true rfl)
  have Zs7 : n0 ≤ h7.size := Nat.le_trans Zs6 (Nat.le_of_eq W7.size.symm)
  have N7 := Fr.snoc X7 N6 gg1
  refine own_st st7 ?_
  show own_Goes p e below s (Q0 Z p1 p2 p3 p4 p5 h0 n0) 16 128 T7 (mkF m 87 #[iv p1, iv p2, iv p3, iv p4, iv p5, iv o, iv ((8 : Int32) - o), iv l9, iv s9, iv bv, rv b1, .unset, .unset, .unset, .unset] [])
  refine own_st (fun _ kk_ => XS.aload X7.here hx rfl (hb hby at_87) rfl rfl (XS.bipush X7.here hx rfl (hb hby at_89) (XS.iload X7.here hx rfl (hb hby at_91) rfl kk_))) ?_
  show own_Goes p e below s (Q0 Z p1 p2 p3 p4 p5 h0 n0) 16 128 T7 (mkF m 93 #[iv p1, iv p2, iv p3, iv p4, iv p5, iv o, iv ((8 : Int32) - o), iv l9, iv s9, iv bv, rv b1, .unset, .unset, .unset, .unset] [(.int bv), (.int (6 : Int32)), (.ref b1)])
  obtain ⟨cl8, Ar8, q8, Sz8, Nn8, Hh8, Gg8⟩ := V7
  obtain ⟨T8, h8, X8, e8, W8, st8⟩ := stB X7 hx hZ e7 Ar8 (j := (6 : Int32)) (inb_of Sz8 ⟨by decide, by decide⟩) (g := (mkF m 93 #[iv p1, iv p2, iv p3, iv p4, iv p5, iv o, iv ((8 : Int32) - o), iv l9, iv s9, iv bv, rv b1, .unset, .unset, .unset, .unset] [(.int bv), (.int (6 : Int32)), (.ref b1)])) rfl rfl (hb hby at_93)
  have V8 : Arv Z h8 b1 k1 .byte (8 : Int32) [(.int (nar .byte bv)), (.int (nar .byte bv)), (.int (nar .byte bv)), (.int (nar .byte bv)), (.int (nar .byte bv)), (.int (nar .byte bv)), (.int (nar .byte bv)), (.int (0 : Int32))] (.int (0 : Int32)) := Arv.set Ar8 q8 Sz8 Nn8 Hh8 Gg8 (fits_nar_byte _) W8 6 rfl (Nat.le_of_ble_eq_true rfl)
  have Zs8 : n0 ≤ h8.size := Nat.le_trans Zs7 (Nat.le_of_eq W8.size.symm)
  have N8 := Fr.snoc X8 N7 gg1
  refine own_st st8 ?_
  show own_Goes p e below s (Q0 Z p1 p2 p3 p4 p5 h0 n0) 16 128 T8 (mkF m 94 #[iv p1, iv p2, iv p3, iv p4, iv p5, iv o, iv ((8 : Int32) - o), iv l9, iv s9, iv bv, rv b1, .unset, .unset, .unset, .unset] [])
  refine own_st (fun _ kk_ => XS.aload X8.here hx rfl (hb hby at_94) rfl rfl (XS.bipush X8.here hx rfl (hb hby at_96) (XS.iload X8.here hx rfl (hb hby at_98) rfl kk_))) ?_
  show own_Goes p e below s (Q0 Z p1 p2 p3 p4 p5 h0 n0) 16 128 T8 (mkF m 100 #[iv p1, iv p2, iv p3, iv p4, iv p5, iv o, iv ((8 : Int32) - o), iv l9, iv s9, iv bv, rv b1, .unset, .unset, .unset, .unset] [(.int bv), (.int (7 : Int32)), (.ref b1)])
  obtain ⟨cl9, Ar9, q9, Sz9, Nn9, Hh9, Gg9⟩ := V8
  obtain ⟨T9, h9, X9, e9, W9, st9⟩ := stB X8 hx hZ e8 Ar9 (j := (7 : Int32)) (inb_of Sz9 ⟨by decide, by decide⟩) (g := (mkF m 100 #[iv p1, iv p2, iv p3, iv p4, iv p5, iv o, iv ((8 : Int32) - o), iv l9, iv s9, iv bv, rv b1, .unset, .unset, .unset, .unset] [(.int bv), (.int (7 : Int32)), (.ref b1)])) rfl rfl (hb hby at_100)
  have V9 : Arv Z h9 b1 k1 .byte (8 : Int32) [(.int (nar .byte bv)), (.int (nar .byte bv)), (.int (nar .byte bv)), (.int (nar .byte bv)), (.int (nar .byte bv)), (.int (nar .byte bv)), (.int (nar .byte bv)), (.int (nar .byte bv))] (.int (0 : Int32)) := Arv.set Ar9 q9 Sz9 Nn9 Hh9 Gg9 (fits_nar_byte _) W9 7 rfl (Nat.le_of_ble_eq_true rfl)
  have Zs9 : n0 ≤ h9.size := Nat.le_trans Zs8 (Nat.le_of_eq W9.size.symm)
  have N9 := Fr.snoc X9 N8 gg1
  refine own_st st9 ?_
  show own_Goes p e below s (Q0 Z p1 p2 p3 p4 p5 h0 n0) 16 128 T9 (mkF m 101 #[iv p1, iv p2, iv p3, iv p4, iv p5, iv o, iv ((8 : Int32) - o), iv l9, iv s9, iv bv, rv b1, .unset, .unset, .unset, .unset] [])
  obtain ⟨T10, h10, X10, e10, E10, A10, D10, -, st10⟩ := newO X9 hx hZ hown (hw _ (List.mem_of_getElem? (i := 2) rfl)) (hw _ (List.mem_of_getElem? (i := 3) rfl)) (hw _ (List.mem_of_getElem? (i := 4) rfl)) e9 (g := (mkF m 101 #[iv p1, iv p2, iv p3, iv p4, iv p5, iv o, iv ((8 : Int32) - o), iv l9, iv s9, iv bv, rv b1, .unset, .unset, .unset, .unset] [])) rfl (hb hby at_101) (by decide) (by decide)
  obtain ⟨b10, gx10⟩ : ∃ z, z = h9.size := ⟨_, rfl⟩
  rw [← gx10] at A10 D10 st10
  have ne10_b1 : b1 ≠ b10 := Nat.ne_of_lt (Nat.lt_of_lt_of_eq V9.lt gx10.symm)
  have gg10 : n0 ≤ b10 := Nat.le_trans Zs9 (Nat.le_of_eq gx10.symm)
  have f10_0 := V9.ext E10
  have Zs10 : n0 ≤ h10.size := Nat.le_trans Zs9 E10.1
  have fn10_data : Fld Z h10 b10 "com/example/wirefold/wirefold/WireReader" "data" "[B" .null := D10 (Or.inr (hw _ (List.mem_of_getElem? (i := 12) rfl))) (ty := (.array .byte)) (by decide)
  have fn10_position : Fld Z h10 b10 "com/example/wirefold/wirefold/WireReader" "position" "I" (.int (0 : Int32)) := D10 (Or.inl (hw _ (List.mem_of_getElem? (i := 14) rfl))) (ty := .int) (by decide)
  have fn10_end : Fld Z h10 b10 "com/example/wirefold/wirefold/WireReader" "end" "I" (.int (0 : Int32)) := D10 (Or.inr (hw _ (List.mem_of_getElem? (i := 16) rfl))) (ty := .int) (by decide)
  have fn10_shortestOnly : Fld Z h10 b10 "com/example/wirefold/wirefold/WireReader" "shortestOnly" "Z" (.int (0 : Int32)) := D10 (Or.inr (hw _ (List.mem_of_getElem? (i := 18) rfl))) (ty := .boolean) (by decide)
  refine own_st st10 ?_
  show own_Goes p e below s (Q0 Z p1 p2 p3 p4 p5 h0 n0) 16 128 T10 (mkF m 104 #[iv p1, iv p2, iv p3, iv p4, iv p5, iv o, iv ((8 : Int32) - o), iv l9, iv s9, iv bv, rv b1, .unset, .unset, .unset, .unset] [(.ref b10)])
  refine own_st (fun _ kk_ => XS.dup X10.here hx rfl (hb hby at_104) rfl rfl (XS.aload X10.here hx rfl (hb hby at_105) rfl rfl (XS.iload X10.here hx rfl (hb hby at_107) rfl (XS.iload X10.here hx rfl (hb hby at_109) rfl (XS.iload X10.here hx rfl (hb hby at_111) rfl (XS.iconst X10.here hx rfl (hb hby at_113) (XS.iand X10.here hx rfl (hb hby at_114) rfl kk_))))))) ?_
  show own_Goes p e below s (Q0 Z p1 p2 p3 p4 p5 h0 n0) 16 128 T10 (mkF m 115 #[iv p1, iv p2, iv p3, iv p4, iv p5, iv o, iv ((8 : Int32) - o), iv l9, iv s9, iv bv, rv b1, .unset, .unset, .unset, .unset] [(.int (p5 &&& (1 : Int32))), (.int l9), (.int o), (.ref b1), (.ref b10), (.ref b10)])
  have J123 : ∀ (zz : Int32), own_Goes p e below s (Q0 Z p1 p2 p3 p4 p5 h0 n0) 16 128 T10 (mkF m 123 #[iv p1, iv p2, iv p3, iv p4, iv p5, iv o, iv ((8 : Int32) - o), iv l9, iv s9, iv bv, rv b1, .unset, .unset, .unset, .unset] [(.int zz), (.int l9), (.int o), (.ref b1), (.ref b10), (.ref b10)]) := by
    intro zz
    show own_Goes p e below s (Q0 Z p1 p2 p3 p4 p5 h0 n0) 16 128 T10 (mkF m 123 #[iv p1, iv p2, iv p3, iv p4, iv p5, iv o, iv ((8 : Int32) - o), iv l9, iv s9, iv bv, rv b1, .unset, .unset, .unset, .unset] [(.int zz), (.int l9), (.int o), (.ref b1), (.ref b10), (.ref b10)])
    obtain ⟨_, _, ⟨T11, L11, k11, n11⟩, -, X11, ⟨Lc11, hQ11, l11, y11, z11⟩, st11⟩ := X10.specialBack hx (y := (⟨"com/example/wirefold/wirefold/WireReader", "<init>", "([BIIZ)V"⟩ : MethodName)) rfl hown (mvT hZ (hw _ (List.mem_of_getElem? (i := 5) rfl))) (mvT hZ (hw _ (List.mem_of_getElem? (i := 6) rfl))) (mvT hZ (hw _ (List.mem_of_getElem? (i := 7) rfl))) (by decide) (backOf (W := 1) (rm1 l Z a0 hw [] (b10) (b1) (o) (l9) (zz) h10 n0 Zs10 A10 fn10_data fn10_position fn10_end fn10_shortestOnly gg10) hZ (hw _ (List.mem_of_getElem? (i := 7) rfl)) (hw _ (List.mem_of_getElem? (i := 4) rfl)) (by decide) (by decide)) (g := (mkF m 123 #[iv p1, iv p2, iv p3, iv p4, iv p5, iv o, iv ((8 : Int32) - o), iv l9, iv s9, iv bv, rv b1, .unset, .unset, .unset, .unset] [(.int zz), (.int l9), (.int o), (.ref b1), (.ref b10), (.ref b10)])) rfl (by rw [hml]; rfl) (Steps.refl _) (a := b10) (argsL := [(.ref b1), (.int o), (.int l9), (.int zz)]) (rest := [(.ref b10)]) (lenOf pd_0 rfl) rfl (by show 2 * 0 + _ ≤ _; exact Nat.le_of_eq rfl) (hb hby at_123) (fun _ _ => ⟨rfl, e10, (by decide : 2 + 0 ≤ _), (by decide : 12 + 0 ≤ _)⟩)
    dsimp only [Pt.U, Pt.locs, Pt.cells, Pt.slots] at X11 l11 y11 z11 st11 hQ11
    subst l11 y11 z11
    obtain ⟨rfl, Nq11, Kq11, u11_0, u11_1, u11_2, u11_3⟩ := hQ11
    have N11 := Fr.app N9 Nq11
    have f11_0 := f10_0.keep Kq11 (ninS ne10_b1 nin0)
    have f11_1 := A10.keep Kq11
    have Zs11 : n0 ≤ T11.heap.size := Nat.le_trans Zs10 Kq11.1
    refine own_st (fun _ kk_ => st11.trans kk_) ?_
    show own_Goes p e below s (Q0 Z p1 p2 p3 p4 p5 h0 n0) 16 128 T11 (mkF m 126 #[iv p1, iv p2, iv p3, iv p4, iv p5, iv o, iv ((8 : Int32) - o), iv l9, iv s9, iv bv, rv b1, .unset, .unset, .unset, .unset] [(.ref b10)])
    refine own_st (fun _ kk_ => XS.astore X11.here hx rfl (hb hby at_126) rfl rfl (l' := #[iv p1, iv p2, iv p3, iv p4, iv p5, iv o, iv ((8 : Int32) - o), iv l9, iv s9, iv bv, rv b1, rv b10, .unset, .unset, .unset]) rfl (XS.aload X11.here hx rfl (hb hby at_128) rfl rfl kk_)) ?_
    show own_Goes p e below s (Q0 Z p1 p2 p3 p4 p5 h0 n0) 16 128 T11 (mkF m 130 #[iv p1, iv p2, iv p3, iv p4, iv p5, iv o, iv ((8 : Int32) - o), iv l9, iv s9, iv bv, rv b1, rv b10, .unset, .unset, .unset] [(.ref b10)])
    obtain ⟨cq12, kq12, q12a, q12b, q12c⟩ := isOf hZ rfl f11_1
    obtain ⟨_, _, ⟨T12, L12, k12, n12⟩, -, X12, ⟨Lc12, hQ12, l12, y12, z12⟩, st12⟩ := X11.virtualBack hx (y := (⟨"com/example/wirefold/wirefold/WireReader", "atEnd", "()Z"⟩ : MethodName)) (z := (⟨"com/example/wirefold/wirefold/WireReader", "atEnd", "()Z"⟩ : MethodName)) hown (mvT hZ (hw _ (List.mem_of_getElem? (i := 19) rfl))) (mvT hZ (hw _ (List.mem_of_getElem? (i := 20) rfl))) (notFace_of_selects (args := #[]) (mvT hZ (hw _ (List.mem_of_getElem? (i := 22) rfl)))) (mvT hZ (hw _ (List.mem_of_getElem? (i := 22) rfl))) (mvT hZ (hw _ (List.mem_of_getElem? (i := 21) rfl))) (by decide) (backOf (W := 0) (rm3 l Z a0 hw [] (b10) (o) ((o + l9)) T11.heap n0 Zs11 u11_1 u11_2) hZ (hw _ (List.mem_of_getElem? (i := 23) rfl)) (hw _ (List.mem_of_getElem? (i := 4) rfl)) (by decide) (by decide)) q12a q12c (g := (mkF m 130 #[iv p1, iv p2, iv p3, iv p4, iv p5, iv o, iv ((8 : Int32) - o), iv l9, iv s9, iv bv, rv b1, rv b10, .unset, .unset, .unset] [(.ref b10)])) rfl (by rw [hml]; rfl) (Steps.refl _) (argsL := []) (rest := []) (lenOf pd_1 rfl) rfl (by show 2 * 0 + _ ≤ _; exact Nat.le_of_eq rfl) (hb hby at_130) (fun _ _ => ⟨rfl, rfl, (by decide : 2 + 0 ≤ _), (by decide : 12 + 0 ≤ _)⟩)
    dsimp only [Pt.U, Pt.locs, Pt.cells, Pt.slots] at X12 l12 y12 z12 st12 hQ12
    subst l12 y12 z12
    obtain ⟨rfl, Nq12, eq12⟩ := hQ12
    have N12 := Fr.app N11 Nq12
    refine own_st (fun _ kk_ => st12.trans kk_) ?_
    show own_Goes p e below s (Q0 Z p1 p2 p3 p4 p5 h0 n0) 16 128 T12 (mkF m 133 #[iv p1, iv p2, iv p3, iv p4, iv p5, iv o, iv ((8 : Int32) - o), iv l9, iv s9, iv bv, rv b1, rv b10, .unset, .unset, .unset] [(.int (own_b (o = (o + l9))))])
    refine own_st (fun _ kk_ => XS.iload X12.here hx rfl (hb hby at_133) rfl kk_) ?_
    show own_Goes p e below s (Q0 Z p1 p2 p3 p4 p5 h0 n0) 16 128 T12 (mkF m 135 #[iv p1, iv p2, iv p3, iv p4, iv p5, iv o, iv ((8 : Int32) - o), iv l9, iv s9, iv bv, rv b1, rv b10, .unset, .unset, .unset] [(.int l9), (.int (own_b (o = (o + l9))))])
    have J151 : own_Goes p e below s (Q0 Z p1 p2 p3 p4 p5 h0 n0) 16 128 T12 (mkF m 151 #[iv p1, iv p2, iv p3, iv p4, iv p5, iv o, iv ((8 : Int32) - o), iv l9, iv s9, iv bv, rv b1, rv b10, .unset, .unset, .unset] [(.int (1 : Int32))]) := by
      show own_Goes p e below s (Q0 Z p1 p2 p3 p4 p5 h0 n0) 16 128 T12 (mkF m 151 #[iv p1, iv p2, iv p3, iv p4, iv p5, iv o, iv ((8 : Int32) - o), iv l9, iv s9, iv bv, rv b1, rv b10, .unset, .unset, .unset] [(.int (1 : Int32))])
      refine own_st (fun _ kk_ => XS.istore X12.here hx rfl (hb hby at_151) rfl (l' := #[iv p1, iv p2, iv p3, iv p4, iv p5, iv o, iv ((8 : Int32) - o), iv l9, iv s9, iv bv, rv b1, rv b10, iv (1 : Int32), .unset, .unset]) rfl (XS.aload X12.here hx rfl (hb hby at_153) rfl rfl (XS.iload X12.here hx rfl (hb hby at_155) rfl kk_))) ?_
      show own_Goes p e below s (Q0 Z p1 p2 p3 p4 p5 h0 n0) 16 128 T12 (mkF m 157 #[iv p1, iv p2, iv p3, iv p4, iv p5, iv o, iv ((8 : Int32) - o), iv l9, iv s9, iv bv, rv b1, rv b10, iv (1 : Int32), .unset, .unset] [(.int s9), (.ref b10)])
      obtain ⟨cq13, kq13, q13a, q13b, q13c⟩ := isOf hZ eq12 f11_1
      obtain ⟨_, _, ⟨T13, L13, k13, n13⟩, -, X13, ⟨Lc13, hQ13, l13, y13, z13⟩, st13⟩ := X12.virtualBack hx (y := (⟨"com/example/wirefold/wirefold/WireReader", "skip", "(I)V"⟩ : MethodName)) (z := (⟨"com/example/wirefold/wirefold/WireReader", "skip", "(I)V"⟩ : MethodName)) hown (mvT hZ (hw _ (List.mem_of_getElem? (i := 24) rfl))) (mvT hZ (hw _ (List.mem_of_getElem? (i := 25) rfl))) (notFace_of_selects (args := #[]) (mvT hZ (hw _ (List.mem_of_getElem? (i := 27) rfl)))) (mvT hZ (hw _ (List.mem_of_getElem? (i := 27) rfl))) (mvT hZ (hw _ (List.mem_of_getElem? (i := 26) rfl))) (by decide) (backOf (W := 0) (rm4 l Z a0 hw [] (b10) (s9) (o) (b1) ((o + l9)) ((nar .boolean zz)) T11.heap n0 Zs11 u11_1 f11_1 gg10 u11_0 u11_2 u11_3) hZ (hw _ (List.mem_of_getElem? (i := 28) rfl)) (hw _ (List.mem_of_getElem? (i := 4) rfl)) (by decide) (by decide)) q13a q13c (g := (mkF m 157 #[iv p1, iv p2, iv p3, iv p4, iv p5, iv o, iv ((8 : Int32) - o), iv l9, iv s9, iv bv, rv b1, rv b10, iv (1 : Int32), .unset, .unset] [(.int s9), (.ref b10)])) rfl (by rw [hml]; rfl) (Steps.refl _) (argsL := [(.int s9)]) (rest := []) (lenOf pd_2 rfl) rfl (by show 2 * 0 + _ ≤ _; exact Nat.le_of_eq rfl) (hb hby at_157) (fun _ _ => ⟨rfl, eq12, (by decide : 2 + 0 ≤ _), (by decide : 12 + 0 ≤ _)⟩)
      dsimp only [Pt.U, Pt.locs, Pt.cells, Pt.slots] at X13 l13 y13 z13 st13 hQ13
      subst l13 y13 z13
      obtain ⟨rfl, Nq13, Kq13, u13_0, u13_1, u13_2, u13_3⟩ := hQ13
      have N13 := Fr.app N12 Nq13
      have f13_0 := f11_0.keep Kq13 (ninS ne10_b1 nin0)
      have f13_1 := f11_1.keep Kq13
      have Zs13 : n0 ≤ T13.heap.size := Nat.le_trans Zs11 Kq13.1
      refine own_st (fun _ kk_ => st13.trans kk_) ?_
      show own_Goes p e below s (Q0 Z p1 p2 p3 p4 p5 h0 n0) 16 128 T13 (mkF m 160 #[iv p1, iv p2, iv p3, iv p4, iv p5, iv o, iv ((8 : Int32) - o), iv l9, iv s9, iv bv, rv b1, rv b10, iv (1 : Int32), .unset, .unset] [])
      refine own_st (fun _ kk_ => XS.iload X13.here hx rfl (hb hby at_160) rfl (XS.ifNo X13.here hx rfl (hb hby at_162) rfl (XT.i0_eq_f (by decide)) (XS.aload X13.here hx rfl (hb hby at_165) rfl rfl kk_))) ?_
      show own_Goes p e below s (Q0 Z p1 p2 p3 p4 p5 h0 n0) 16 128 T13 (mkF m 167 #[iv p1, iv p2, iv p3, iv p4, iv p5, iv o, iv ((8 : Int32) - o), iv l9, iv s9, iv bv, rv b1, rv b10, iv (1 : Int32), .unset, .unset] [(.ref b10)])
      obtain ⟨cq14, kq14, q14a, q14b, q14c⟩ := isOf hZ rfl f13_1
      obtain ⟨_, _, ⟨T14, L14, k14, n14⟩, -, X14, ⟨Lc14, hQ14, l14, y14, z14⟩, st14⟩ := X13.virtualBack hx (y := (⟨"com/example/wirefold/wirefold/WireReader", "position", "()I"⟩ : MethodName)) (z := (⟨"com/example/wirefold/wirefold/WireReader", "position", "()I"⟩ : MethodName)) hown (mvT hZ (hw _ (List.mem_of_getElem? (i := 29) rfl))) (mvT hZ (hw _ (List.mem_of_getElem? (i := 30) rfl))) (notFace_of_selects (args := #[]) (mvT hZ (hw _ (List.mem_of_getElem? (i := 32) rfl)))) (mvT hZ (hw _ (List.mem_of_getElem? (i := 32) rfl))) (mvT hZ (hw _ (List.mem_of_getElem? (i := 31) rfl))) (by decide) (backOf (W := 0) (rm5 l Z a0 hw [] (b10) ((o + s9)) T13.heap n0 Zs13 u13_0) hZ (hw _ (List.mem_of_getElem? (i := 33) rfl)) (hw _ (List.mem_of_getElem? (i := 4) rfl)) (by decide) (by decide)) q14a q14c (g := (mkF m 167 #[iv p1, iv p2, iv p3, iv p4, iv p5, iv o, iv ((8 : Int32) - o), iv l9, iv s9, iv bv, rv b1, rv b10, iv (1 : Int32), .unset, .unset] [(.ref b10)])) rfl (by rw [hml]; rfl) (Steps.refl _) (argsL := []) (rest := []) (lenOf pd_3 rfl) rfl (by show 2 * 0 + _ ≤ _; exact Nat.le_of_eq rfl) (hb hby at_167) (fun _ _ => ⟨rfl, rfl, (by decide : 2 + 0 ≤ _), (by decide : 12 + 0 ≤ _)⟩)
      dsimp only [Pt.U, Pt.locs, Pt.cells, Pt.slots] at X14 l14 y14 z14 st14 hQ14
      subst l14 y14 z14
      obtain ⟨rfl, Nq14, eq14⟩ := hQ14
      have N14 := Fr.app N13 Nq14
      refine own_st (fun _ kk_ => st14.trans kk_) ?_
      show own_Goes p e below s (Q0 Z p1 p2 p3 p4 p5 h0 n0) 16 128 T14 (mkF m 170 #[iv p1, iv p2, iv p3, iv p4, iv p5, iv o, iv ((8 : Int32) - o), iv l9, iv s9, iv bv, rv b1, rv b10, iv (1 : Int32), .unset, .unset] [(.int (o + s9))])
      refine own_st (fun _ kk_ => XS.iload X14.here hx rfl (hb hby at_170) rfl (XS.iload X14.here hx rfl (hb hby at_172) rfl (XS.iadd X14.here hx rfl (hb hby at_174) rfl (XS.icmpNo X14.here hx rfl (hb hby at_175) rfl (XT.ii_ne_f rfl) (XS.iconst X14.here hx rfl (hb hby at_178) (XS.goto X14.here hx rfl (pc0 := 179) (pc' := 183) rfl (hb hby at_179) (by decide) (by decide) (XS.istore X14.here hx rfl (hb hby at_183) rfl (l' := #[iv p1, iv p2, iv p3, iv p4, iv p5, iv o, iv ((8 : Int32) - o), iv l9, iv s9, iv bv, rv b1, rv b10, iv (1 : Int32), .unset, .unset]) rfl (XS.iload X14.here hx rfl (hb hby at_185) rfl kk_)))))))) ?_
      show own_Goes p e below s (Q0 Z p1 p2 p3 p4 p5 h0 n0) 16 128 T14 (mkF m 187 #[iv p1, iv p2, iv p3, iv p4, iv p5, iv o, iv ((8 : Int32) - o), iv l9, iv s9, iv bv, rv b1, rv b10, iv (1 : Int32), .unset, .unset] [(.int (1 : Int32))])
      refine own_st (fun _ kk_ => XS.ifNo X14.here hx rfl (hb hby at_187) rfl (XT.i0_eq_f (by decide)) (XS.aload X14.here hx rfl (hb hby at_190) rfl rfl kk_)) ?_
      show own_Goes p e below s (Q0 Z p1 p2 p3 p4 p5 h0 n0) 16 128 T14 (mkF m 192 #[iv p1, iv p2, iv p3, iv p4, iv p5, iv o, iv ((8 : Int32) - o), iv l9, iv s9, iv bv, rv b1, rv b10, iv (1 : Int32), .unset, .unset] [(.ref b10)])
      obtain ⟨cq15, kq15, q15a, q15b, q15c⟩ := isOf hZ eq14 f13_1
      obtain ⟨_, _, ⟨T15, L15, k15, n15⟩, -, X15, ⟨Lc15, hQ15, l15, y15, z15⟩, st15⟩ := X14.virtualBack hx (y := (⟨"com/example/wirefold/wirefold/WireReader", "atEnd", "()Z"⟩ : MethodName)) (z := (⟨"com/example/wirefold/wirefold/WireReader", "atEnd", "()Z"⟩ : MethodName)) hown (mvT hZ (hw _ (List.mem_of_getElem? (i := 19) rfl))) (mvT hZ (hw _ (List.mem_of_getElem? (i := 20) rfl))) (notFace_of_selects (args := #[]) (mvT hZ (hw _ (List.mem_of_getElem? (i := 22) rfl)))) (mvT hZ (hw _ (List.mem_of_getElem? (i := 22) rfl))) (mvT hZ (hw _ (List.mem_of_getElem? (i := 21) rfl))) (by decide) (backOf (W := 0) (rm3 l Z a0 hw [] (b10) ((o + s9)) ((o + l9)) T13.heap n0 Zs13 u13_0 u13_2) hZ (hw _ (List.mem_of_getElem? (i := 23) rfl)) (hw _ (List.mem_of_getElem? (i := 4) rfl)) (by decide) (by decide)) q15a q15c (g := (mkF m 192 #[iv p1, iv p2, iv p3, iv p4, iv p5, iv o, iv ((8 : Int32) - o), iv l9, iv s9, iv bv, rv b1, rv b10, iv (1 : Int32), .unset, .unset] [(.ref b10)])) rfl (by rw [hml]; rfl) (Steps.refl _) (argsL := []) (rest := []) (lenOf pd_1 rfl) rfl (by show 2 * 0 + _ ≤ _; exact Nat.le_of_eq rfl) (hb hby at_192) (fun _ _ => ⟨rfl, eq14, (by decide : 2 + 0 ≤ _), (by decide : 12 + 0 ≤ _)⟩)
      dsimp only [Pt.U, Pt.locs, Pt.cells, Pt.slots] at X15 l15 y15 z15 st15 hQ15
      subst l15 y15 z15
      obtain ⟨rfl, Nq15, eq15⟩ := hQ15
      have N15 := Fr.app N14 Nq15
      refine own_st (fun _ kk_ => st15.trans kk_) ?_
      show own_Goes p e below s (Q0 Z p1 p2 p3 p4 p5 h0 n0) 16 128 T15 (mkF m 195 #[iv p1, iv p2, iv p3, iv p4, iv p5, iv o, iv ((8 : Int32) - o), iv l9, iv s9, iv bv, rv b1, rv b10, iv (1 : Int32), .unset, .unset] [(.int (own_b ((o + s9) = (o + l9))))])
      refine own_st (fun _ kk_ => XS.iload X15.here hx rfl (hb hby at_195) rfl (XS.iload X15.here hx rfl (hb hby at_197) rfl kk_)) ?_
      show own_Goes p e below s (Q0 Z p1 p2 p3 p4 p5 h0 n0) 16 128 T15 (mkF m 199 #[iv p1, iv p2, iv p3, iv p4, iv p5, iv o, iv ((8 : Int32) - o), iv l9, iv s9, iv bv, rv b1, rv b10, iv (1 : Int32), .unset, .unset] [(.int l9), (.int s9), (.int (own_b ((o + s9) = (o + l9))))])
      have J215 : own_Goes p e below s (Q0 Z p1 p2 p3 p4 p5 h0 n0) 16 128 T15 (mkF m 215 #[iv p1, iv p2, iv p3, iv p4, iv p5, iv o, iv ((8 : Int32) - o), iv l9, iv s9, iv bv, rv b1, rv b10, iv (1 : Int32), .unset, .unset] [(.int (1 : Int32))]) := by
        show own_Goes p e below s (Q0 Z p1 p2 p3 p4 p5 h0 n0) 16 128 T15 (mkF m 215 #[iv p1, iv p2, iv p3, iv p4, iv p5, iv o, iv ((8 : Int32) - o), iv l9, iv s9, iv bv, rv b1, rv b10, iv (1 : Int32), .unset, .unset] [(.int (1 : Int32))])
        refine own_st (fun _ kk_ => XS.istore X15.here hx rfl (hb hby at_215) rfl (l' := #[iv p1, iv p2, iv p3, iv p4, iv p5, iv o, iv ((8 : Int32) - o), iv l9, iv s9, iv bv, rv b1, rv b10, iv (1 : Int32), .unset, .unset]) rfl (XS.iload X15.here hx rfl (hb hby at_217) rfl (XS.iload X15.here hx rfl (hb hby at_219) rfl kk_))) ?_
        show own_Goes p e below s (Q0 Z p1 p2 p3 p4 p5 h0 n0) 16 128 T15 (mkF m 221 #[iv p1, iv p2, iv p3, iv p4, iv p5, iv o, iv ((8 : Int32) - o), iv l9, iv s9, iv bv, rv b1, rv b10, iv (1 : Int32), .unset, .unset] [(.int l9), (.int s9)])
        rcases Classical.em (s9 < l9) with qlt | qlt
        · refine own_st (fun _ kk_ => XS.icmpNo X15.here hx rfl (hb hby at_221) rfl (XT.ii_ge_f qlt) kk_) ?_
          show own_Goes p e below s (Q0 Z p1 p2 p3 p4 p5 h0 n0) 16 128 T15 (mkF m 224 #[iv p1, iv p2, iv p3, iv p4, iv p5, iv o, iv ((8 : Int32) - o), iv l9, iv s9, iv bv, rv b1, rv b10, iv (1 : Int32), .unset, .unset] [])
          have hlt : s9.toInt < l9.toInt := by rw [← Int32.lt_iff_toInt_lt]; exact qlt
          refine own_st (fun _ kk_ => XS.aload X15.here hx rfl (hb hby at_224) rfl rfl kk_) ?_
          show own_Goes p e below s (Q0 Z p1 p2 p3 p4 p5 h0 n0) 16 128 T15 (mkF m 226 #[iv p1, iv p2, iv p3, iv p4, iv p5, iv o, iv ((8 : Int32) - o), iv l9, iv s9, iv bv, rv b1, rv b10, iv (1 : Int32), .unset, .unset] [(.ref b10)])
          obtain ⟨cq16, kq16, q16a, q16b, q16c⟩ := isOf hZ eq15 f13_1
          obtain ⟨_, _, ⟨T16, L16, k16, n16⟩, -, X16, ⟨Lc16, hQ16, l16, y16, z16⟩, st16⟩ := X15.virtualBack hx (y := (⟨"com/example/wirefold/wirefold/WireReader", "readVarint", "()J"⟩ : MethodName)) (z := (⟨"com/example/wirefold/wirefold/WireReader", "readVarint", "()J"⟩ : MethodName)) hown (mvT hZ (hw _ (List.mem_of_getElem? (i := 34) rfl))) (mvT hZ (hw _ (List.mem_of_getElem? (i := 35) rfl))) (notFace_of_selects (args := #[]) (mvT hZ (hw _ (List.mem_of_getElem? (i := 37) rfl)))) (mvT hZ (hw _ (List.mem_of_getElem? (i := 37) rfl))) (mvT hZ (hw _ (List.mem_of_getElem? (i := 36) rfl))) (by decide) (backOf (W := 0) (rm6 l Z a0 hw [] (b10) (b1) ((o + s9)) ((o + l9)) ((nar .boolean zz)) ((nar .byte bv)) (k1) T13.heap n0 Zs13 u13_1 u13_0 u13_2 u13_3 f13_1 gg10 ne10_b1 f13_0 ⟨by omega, by omega⟩ (by rw [← Int32.toInt_inj]; omega) hbv.2) hZ (hw _ (List.mem_of_getElem? (i := 38) rfl)) (hw _ (List.mem_of_getElem? (i := 4) rfl)) (by decide) (by decide)) q16a q16c (g := (mkF m 226 #[iv p1, iv p2, iv p3, iv p4, iv p5, iv o, iv ((8 : Int32) - o), iv l9, iv s9, iv bv, rv b1, rv b10, iv (1 : Int32), .unset, .unset] [(.ref b10)])) rfl (by rw [hml]; rfl) (Steps.refl _) (argsL := []) (rest := []) (lenOf pd_4 rfl) rfl (by show 2 * 0 + _ ≤ _; exact Nat.le_of_eq rfl) (hb hby at_226) (fun _ _ => ⟨rfl, eq15, (by decide : 2 + 0 ≤ _), (by decide : 12 + 0 ≤ _)⟩)
          dsimp only [Pt.U, Pt.locs, Pt.cells, Pt.slots] at X16 l16 y16 z16 st16 hQ16
          subst l16 y16 z16
          obtain ⟨rfl, Nq16, Kq16, u16_0, u16_1⟩ := hQ16
          have N16 := Fr.app N15 Nq16
          have f16_0 := f13_0.keep Kq16 (ninS ne10_b1 nin0)
          have f16_1 := f13_1.keep Kq16
          have Zs16 : n0 ≤ T16.heap.size := Nat.le_trans Zs13 Kq16.1
          refine own_st (fun _ kk_ => st16.trans kk_) ?_
          show own_Goes p e below s (Q0 Z p1 p2 p3 p4 p5 h0 n0) 16 128 T16 (mkF m 229 #[iv p1, iv p2, iv p3, iv p4, iv p5, iv o, iv ((8 : Int32) - o), iv l9, iv s9, iv bv, rv b1, rv b10, iv (1 : Int32), .unset, .unset] [(.long ((nar .byte bv) &&& 127).toInt64)])
          refine own_st (fun _ kk_ => XS.lstore X16.here hx rfl (hb hby at_229) rfl (l' := #[iv p1, iv p2, iv p3, iv p4, iv p5, iv o, iv ((8 : Int32) - o), iv l9, iv s9, iv bv, rv b1, rv b10, iv (1 : Int32), .val (.long ((nar .byte bv) &&& 127).toInt64), .second]) rfl (XS.iload X16.here hx rfl (hb hby at_231) rfl (XS.ifNo X16.here hx rfl (hb hby at_233) rfl (XT.i0_eq_f (by decide)) (XS.lload X16.here hx rfl (hb hby at_236) rfl (XS.iloadN X16.here hx rfl (hb hby at_238) rfl (XS.bipush X16.here hx rfl (hb hby at_239) (XS.iand X16.here hx rfl (hb hby at_241) rfl (XS.i2l X16.here hx rfl (hb hby at_242) rfl kk_)))))))) ?_
          show own_Goes p e below s (Q0 Z p1 p2 p3 p4 p5 h0 n0) 16 128 T16 (mkF m 243 #[iv p1, iv p2, iv p3, iv p4, iv p5, iv o, iv ((8 : Int32) - o), iv l9, iv s9, iv bv, rv b1, rv b10, iv (1 : Int32), .val (.long ((nar .byte bv) &&& 127).toInt64), .second] [(.long ((p4 &&& (127 : Int32)).toInt64)), (.long ((nar .byte bv) &&& 127).toInt64)])
          refine own_st (fun _ kk_ => XT.lcmp X16.here hx rfl (hb hby at_243) rfl (XS.ifNo X16.here hx rfl (hb hby at_244) rfl (XT.ll_ne_f (by rw [hbv.1, own_mm])) (XS.iconst X16.here hx rfl (hb hby at_247) (XS.goto X16.here hx rfl (pc0 := 248) (pc' := 252) rfl (hb hby at_248) (by decide) (by decide) (XS.istore X16.here hx rfl (hb hby at_252) rfl (l' := #[iv p1, iv p2, iv p3, iv p4, iv p5, iv o, iv ((8 : Int32) - o), iv l9, iv s9, iv bv, rv b1, rv b10, iv (1 : Int32), .val (.long ((nar .byte bv) &&& 127).toInt64), .second]) rfl (XS.iload X16.here hx rfl (hb hby at_254) rfl (XS.ifNo X16.here hx rfl (hb hby at_256) rfl (XT.i0_eq_f (by decide)) (XS.aload X16.here hx rfl (hb hby at_259) rfl rfl kk_)))))))) ?_
          show own_Goes p e below s (Q0 Z p1 p2 p3 p4 p5 h0 n0) 16 128 T16 (mkF m 261 #[iv p1, iv p2, iv p3, iv p4, iv p5, iv o, iv ((8 : Int32) - o), iv l9, iv s9, iv bv, rv b1, rv b10, iv (1 : Int32), .val (.long ((nar .byte bv) &&& 127).toInt64), .second] [(.ref b10)])
          obtain ⟨cq17, kq17, q17a, q17b, q17c⟩ := isOf hZ rfl f16_1
          obtain ⟨_, _, ⟨T17, L17, k17, n17⟩, -, X17, ⟨Lc17, hQ17, l17, y17, z17⟩, st17⟩ := X16.virtualBack hx (y := (⟨"com/example/wirefold/wirefold/WireReader", "atEnd", "()Z"⟩ : MethodName)) (z := (⟨"com/example/wirefold/wirefold/WireReader", "atEnd", "()Z"⟩ : MethodName)) hown (mvT hZ (hw _ (List.mem_of_getElem? (i := 19) rfl))) (mvT hZ (hw _ (List.mem_of_getElem? (i := 20) rfl))) (notFace_of_selects (args := #[]) (mvT hZ (hw _ (List.mem_of_getElem? (i := 22) rfl)))) (mvT hZ (hw _ (List.mem_of_getElem? (i := 22) rfl))) (mvT hZ (hw _ (List.mem_of_getElem? (i := 21) rfl))) (by decide) (backOf (W := 0) (rm3 l Z a0 hw [] (b10) (((o + s9) + (1 : Int32))) ((o + l9)) T16.heap n0 Zs16 u16_0 u16_1) hZ (hw _ (List.mem_of_getElem? (i := 23) rfl)) (hw _ (List.mem_of_getElem? (i := 4) rfl)) (by decide) (by decide)) q17a q17c (g := (mkF m 261 #[iv p1, iv p2, iv p3, iv p4, iv p5, iv o, iv ((8 : Int32) - o), iv l9, iv s9, iv bv, rv b1, rv b10, iv (1 : Int32), .val (.long ((nar .byte bv) &&& 127).toInt64), .second] [(.ref b10)])) rfl (by rw [hml]; rfl) (Steps.refl _) (argsL := []) (rest := []) (lenOf pd_1 rfl) rfl (by show 2 * 0 + _ ≤ _; exact Nat.le_of_eq rfl) (hb hby at_261) (fun _ _ => ⟨rfl, rfl, (by decide : 2 + 0 ≤ _), (by decide : 12 + 0 ≤ _)⟩)
          dsimp only [Pt.U, Pt.locs, Pt.cells, Pt.slots] at X17 l17 y17 z17 st17 hQ17
          subst l17 y17 z17
          obtain ⟨rfl, Nq17, eq17⟩ := hQ17
          have N17 := Fr.app N16 Nq17
          refine own_st (fun _ kk_ => st17.trans kk_) ?_
          show own_Goes p e below s (Q0 Z p1 p2 p3 p4 p5 h0 n0) 16 128 T17 (mkF m 264 #[iv p1, iv p2, iv p3, iv p4, iv p5, iv o, iv ((8 : Int32) - o), iv l9, iv s9, iv bv, rv b1, rv b10, iv (1 : Int32), .val (.long ((nar .byte bv) &&& 127).toInt64), .second] [(.int (own_b (((o + s9) + (1 : Int32)) = (o + l9))))])
          refine own_st (fun _ kk_ => XS.iload X17.here hx rfl (hb hby at_264) rfl (XS.iconst X17.here hx rfl (hb hby at_266) (XS.iadd X17.here hx rfl (hb hby at_267) rfl (XS.iload X17.here hx rfl (hb hby at_268) rfl kk_)))) ?_
          show own_Goes p e below s (Q0 Z p1 p2 p3 p4 p5 h0 n0) 16 128 T17 (mkF m 270 #[iv p1, iv p2, iv p3, iv p4, iv p5, iv o, iv ((8 : Int32) - o), iv l9, iv s9, iv bv, rv b1, rv b10, iv (1 : Int32), .val (.long ((nar .byte bv) &&& 127).toInt64), .second] [(.int l9), (.int (s9 + (1 : Int32))), (.int (own_b (((o + s9) + (1 : Int32)) = (o + l9))))])
          have J286 : own_Goes p e below s (Q0 Z p1 p2 p3 p4 p5 h0 n0) 16 128 T17 (mkF m 286 #[iv p1, iv p2, iv p3, iv p4, iv p5, iv o, iv ((8 : Int32) - o), iv l9, iv s9, iv bv, rv b1, rv b10, iv (1 : Int32), .val (.long ((nar .byte bv) &&& 127).toInt64), .second] [(.int (1 : Int32))]) := by
            show own_Goes p e below s (Q0 Z p1 p2 p3 p4 p5 h0 n0) 16 128 T17 (mkF m 286 #[iv p1, iv p2, iv p3, iv p4, iv p5, iv o, iv ((8 : Int32) - o), iv l9, iv s9, iv bv, rv b1, rv b10, iv (1 : Int32), .val (.long ((nar .byte bv) &&& 127).toInt64), .second] [(.int (1 : Int32))])
            refine own_st (fun _ kk_ => XS.istore X17.here hx rfl (hb hby at_286) rfl (l' := #[iv p1, iv p2, iv p3, iv p4, iv p5, iv o, iv ((8 : Int32) - o), iv l9, iv s9, iv bv, rv b1, rv b10, iv (1 : Int32), .val (.long ((nar .byte bv) &&& 127).toInt64), .second]) rfl (XS.iload X17.here hx rfl (hb hby at_288) rfl kk_)) ?_
            show own_Goes p e below s (Q0 Z p1 p2 p3 p4 p5 h0 n0) 16 128 T17 (mkF m 290 #[iv p1, iv p2, iv p3, iv p4, iv p5, iv o, iv ((8 : Int32) - o), iv l9, iv s9, iv bv, rv b1, rv b10, iv (1 : Int32), .val (.long ((nar .byte bv) &&& 127).toInt64), .second] [(.int (1 : Int32))])
            refine own_retN X17 hx hlk (t := .boolean) Bd.returns (by simp) (hb hby at_290) (by decide) (by decide) ?_
            show Q0 Z p1 p2 p3 p4 p5 h0 n0 (some (.int (nar .boolean (1 : Int32)))) T17.heap _
            rw [eq17]
            exact ⟨rfl, N17⟩
          rcases Classical.em ((s9 + (1 : Int32)) = l9) with qJ286 | qJ286
          · refine own_st (fun _ kk_ => XS.icmpNo X17.here hx rfl (hb hby at_270) rfl (XT.ii_ne_f qJ286) (XS.iconst X17.here hx rfl (hb hby at_273) (XS.goto X17.here hx rfl (pc0 := 274) (pc' := 278) rfl (hb hby at_274) (by decide) (by decide) (XS.icmpNo X17.here hx rfl (hb hby at_278) rfl (XT.ii_ne_f (own_b1 (by revert qJ286 hol hos1 hs1; simp only [← Int32.toInt_inj, Int32.reduceToInt]; omega))) (XS.iconst X17.here hx rfl (hb hby at_281) (XS.goto X17.here hx rfl (pc0 := 282) (pc' := 286) rfl (hb hby at_282) (by decide) (by decide) kk_)))))) ?_
            show own_Goes p e below s (Q0 Z p1 p2 p3 p4 p5 h0 n0) 16 128 T17 (mkF m 286 #[iv p1, iv p2, iv p3, iv p4, iv p5, iv o, iv ((8 : Int32) - o), iv l9, iv s9, iv bv, rv b1, rv b10, iv (1 : Int32), .val (.long ((nar .byte bv) &&& 127).toInt64), .second] [(.int (1 : Int32))])
            exact J286
          · refine own_st (fun _ kk_ => XS.icmpYes X17.here hx rfl (pc0 := 270) (pc' := 277) rfl (hb hby at_270) rfl (XT.ii_ne_t qJ286) (by decide) (by decide) (XS.iconst X17.here hx rfl (hb hby at_277) (XS.icmpNo X17.here hx rfl (hb hby at_278) rfl (XT.ii_ne_f (own_b0 (by revert qJ286 hol hos1 hs1; simp only [← Int32.toInt_inj, Int32.reduceToInt]; omega))) (XS.iconst X17.here hx rfl (hb hby at_281) (XS.goto X17.here hx rfl (pc0 := 282) (pc' := 286) rfl (hb hby at_282) (by decide) (by decide) kk_))))) ?_
            show own_Goes p e below s (Q0 Z p1 p2 p3 p4 p5 h0 n0) 16 128 T17 (mkF m 286 #[iv p1, iv p2, iv p3, iv p4, iv p5, iv o, iv ((8 : Int32) - o), iv l9, iv s9, iv bv, rv b1, rv b10, iv (1 : Int32), .val (.long ((nar .byte bv) &&& 127).toInt64), .second] [(.int (1 : Int32))])
            exact J286
        · refine own_st (fun _ kk_ => XS.icmpYes X15.here hx rfl (pc0 := 221) (pc' := 288) rfl (hb hby at_221) rfl (XT.ii_ge_t qlt) (by decide) (by decide) (XS.iload X15.here hx rfl (hb hby at_288) rfl kk_)) ?_
          show own_Goes p e below s (Q0 Z p1 p2 p3 p4 p5 h0 n0) 16 128 T15 (mkF m 290 #[iv p1, iv p2, iv p3, iv p4, iv p5, iv o, iv ((8 : Int32) - o), iv l9, iv s9, iv bv, rv b1, rv b10, iv (1 : Int32), .unset, .unset] [(.int (1 : Int32))])
          refine own_retN X15 hx hlk (t := .boolean) Bd.returns (by simp) (hb hby at_290) (by decide) (by decide) ?_
          show Q0 Z p1 p2 p3 p4 p5 h0 n0 (some (.int (nar .boolean (1 : Int32)))) T15.heap _
          rw [eq15]
          exact ⟨rfl, N15⟩
      rcases Classical.em (s9 = l9) with qJ215 | qJ215
      · refine own_st (fun _ kk_ => XS.icmpNo X15.here hx rfl (hb hby at_199) rfl (XT.ii_ne_f qJ215) (XS.iconst X15.here hx rfl (hb hby at_202) (XS.goto X15.here hx rfl (pc0 := 203) (pc' := 207) rfl (hb hby at_203) (by decide) (by decide) (XS.icmpNo X15.here hx rfl (hb hby at_207) rfl (XT.ii_ne_f (own_b1 (by revert qJ215 hol hos; simp only [← Int32.toInt_inj, Int32.reduceToInt]; omega))) (XS.iconst X15.here hx rfl (hb hby at_210) (XS.goto X15.here hx rfl (pc0 := 211) (pc' := 215) rfl (hb hby at_211) (by decide) (by decide) kk_)))))) ?_
        show own_Goes p e below s (Q0 Z p1 p2 p3 p4 p5 h0 n0) 16 128 T15 (mkF m 215 #[iv p1, iv p2, iv p3, iv p4, iv p5, iv o, iv ((8 : Int32) - o), iv l9, iv s9, iv bv, rv b1, rv b10, iv (1 : Int32), .unset, .unset] [(.int (1 : Int32))])
        exact J215
      · refine own_st (fun _ kk_ => XS.icmpYes X15.here hx rfl (pc0 := 199) (pc' := 206) rfl (hb hby at_199) rfl (XT.ii_ne_t qJ215) (by decide) (by decide) (XS.iconst X15.here hx rfl (hb hby at_206) (XS.icmpNo X15.here hx rfl (hb hby at_207) rfl (XT.ii_ne_f (own_b0 (by revert qJ215 hol hos; simp only [← Int32.toInt_inj, Int32.reduceToInt]; omega))) (XS.iconst X15.here hx rfl (hb hby at_210) (XS.goto X15.here hx rfl (pc0 := 211) (pc' := 215) rfl (hb hby at_211) (by decide) (by decide) kk_))))) ?_
        show own_Goes p e below s (Q0 Z p1 p2 p3 p4 p5 h0 n0) 16 128 T15 (mkF m 215 #[iv p1, iv p2, iv p3, iv p4, iv p5, iv o, iv ((8 : Int32) - o), iv l9, iv s9, iv bv, rv b1, rv b10, iv (1 : Int32), .unset, .unset] [(.int (1 : Int32))])
        exact J215
    rcases Classical.em (l9 = (0 : Int32)) with qJ151 | qJ151
    · refine own_st (fun _ kk_ => XS.ifNo X12.here hx rfl (hb hby at_135) rfl (XT.i0_ne_f qJ151) (XS.iconst X12.here hx rfl (hb hby at_138) (XS.goto X12.here hx rfl (pc0 := 139) (pc' := 143) rfl (hb hby at_139) (by decide) (by decide) (XS.icmpNo X12.here hx rfl (hb hby at_143) rfl (XT.ii_ne_f (own_b1 (by revert qJ151 hol; simp only [← Int32.toInt_inj, Int32.reduceToInt]; omega))) (XS.iconst X12.here hx rfl (hb hby at_146) (XS.goto X12.here hx rfl (pc0 := 147) (pc' := 151) rfl (hb hby at_147) (by decide) (by decide) kk_)))))) ?_
      show own_Goes p e below s (Q0 Z p1 p2 p3 p4 p5 h0 n0) 16 128 T12 (mkF m 151 #[iv p1, iv p2, iv p3, iv p4, iv p5, iv o, iv ((8 : Int32) - o), iv l9, iv s9, iv bv, rv b1, rv b10, .unset, .unset, .unset] [(.int (1 : Int32))])
      exact J151
    · refine own_st (fun _ kk_ => XS.ifYes X12.here hx rfl (pc0 := 135) (pc' := 142) rfl (hb hby at_135) rfl (XT.i0_ne_t qJ151) (by decide) (by decide) (XS.iconst X12.here hx rfl (hb hby at_142) (XS.icmpNo X12.here hx rfl (hb hby at_143) rfl (XT.ii_ne_f (own_b0 (by revert qJ151 hol; simp only [← Int32.toInt_inj, Int32.reduceToInt]; omega))) (XS.iconst X12.here hx rfl (hb hby at_146) (XS.goto X12.here hx rfl (pc0 := 147) (pc' := 151) rfl (hb hby at_147) (by decide) (by decide) kk_))))) ?_
      show own_Goes p e below s (Q0 Z p1 p2 p3 p4 p5 h0 n0) 16 128 T12 (mkF m 151 #[iv p1, iv p2, iv p3, iv p4, iv p5, iv o, iv ((8 : Int32) - o), iv l9, iv s9, iv bv, rv b1, rv b10, .unset, .unset, .unset] [(.int (1 : Int32))])
      exact J151
  rcases Classical.em ((p5 &&& (1 : Int32)) = (0 : Int32)) with q | q
  · refine own_st (fun _ kk_ => XS.ifYes X10.here hx rfl (pc0 := 115) (pc' := 122) rfl (hb hby at_115) rfl (XT.i0_eq_t q) (by decide) (by decide) (XS.iconst X10.here hx rfl (hb hby at_122) kk_)) ?_
    show own_Goes p e below s (Q0 Z p1 p2 p3 p4 p5 h0 n0) 16 128 T10 (mkF m 123 #[iv p1, iv p2, iv p3, iv p4, iv p5, iv o, iv ((8 : Int32) - o), iv l9, iv s9, iv bv, rv b1, .unset, .unset, .unset, .unset] [(.int (0 : Int32)), (.int l9), (.int o), (.ref b1), (.ref b10), (.ref b10)])
    exact J123 ((0 : Int32))
  · refine own_st (fun _ kk_ => XS.ifNo X10.here hx rfl (hb hby at_115) rfl (XT.i0_eq_f q) (XS.iconst X10.here hx rfl (hb hby at_118) (XS.goto X10.here hx rfl (pc0 := 119) (pc' := 123) rfl (hb hby at_119) (by decide) (by decide) kk_))) ?_
    show own_Goes p e below s (Q0 Z p1 p2 p3 p4 p5 h0 n0) 16 128 T10 (mkF m 123 #[iv p1, iv p2, iv p3, iv p4, iv p5, iv o, iv ((8 : Int32) - o), iv l9, iv s9, iv bv, rv b1, .unset, .unset, .unset, .unset] [(.int (1 : Int32)), (.int l9), (.int o), (.ref b1), (.ref b10), (.ref b10)])
    exact J123 ((1 : Int32))
set_option maxRecDepth 65536 in
set_option maxHeartbeats 40000000 in
theorem comes_1 {Post : Tables → Env → Array Value → State → Outcome → State → Prop} (hpost : ∀ tb e args s v u, (limb_1_1.after args s (.returned v) u = true ∧ limb_1_2.after args s (.returned v) u = true ∧ True) → FrameEnd s (.returned v) u (Jvm.fieldLocs frame_1_writes args s ++ Jvm.arrayLocs frame_1_arrays args s ++ Jvm.staticLocs frame_1_statics s) 16 128 → Post tb e args s (.returned v) u) :
    ArmFor flags0 classFile x code maxLocals ret World_1 tables_1 room_1 Calls_1 rest_1 Pre_1 Post := by
  intro l hfl _ _ p e ha hc hk s m args below hf hA hF happ hP
  obtain ⟨hcalls, hrest, hpre⟩ := hP
  obtain ⟨-, -, -, hnamed, -, -, -, hat⟩ := (Spec.applies_iff hf).mp happ
  obtain ⟨hg, hn⟩ := and_e (Cond.before_iff.mp (show (Jvm.Cond.and given_1 narrow_1).before args s = true from hpre))
  obtain ⟨h1, g0⟩ := and_e hg
  obtain ⟨w0, w1, w2, w3, w4, rfl⟩ : ∃ w0 w1 w2 w3 w4 : Value, args = #[w0, w1, w2, w3, w4] := by
    have hs : args.size = 5 := by simpa [Cond.value, given_1] using h1
    obtain ⟨L⟩ := args
    match L, hs with
    | [w0, w1, w2, w3, w4], _ => exact ⟨w0, w1, w2, w3, w4, rfl⟩
  have hw := fun d (hd : d ∈ tables_1) => atoms_spec (ws := Jvm.Cond.code x code maxLocals ret :: tables_1) hat d (List.mem_cons_of_mem _ hd)
  have hfit : Fit s := fun {y c} hc i hi => by
    obtain ⟨ha, rfl⟩ := Array.getElem?_eq_some_iff.mp hc
    have q := List.all_eq_true.mp ((Array.all_eq_true_iff_forall_mem.mp hF) _ (Array.getElem_mem ha)) i (List.mem_range.mpr hi)
    simpa [Array.getElem?_eq_getElem hi] using q
  obtain ⟨k0, g1⟩ := and_e g0
  obtain ⟨i0, e0⟩ := is_v k0
  obtain rfl : w0 = (.int i0) := Option.some.inj e0
  obtain ⟨k1, g2⟩ := and_e g1
  obtain ⟨i1, e1⟩ := is_v k1
  obtain rfl : w1 = (.int i1) := Option.some.inj e1
  obtain ⟨k2, g3⟩ := and_e g2
  obtain ⟨i2, e2⟩ := is_v k2
  obtain rfl : w2 = (.int i2) := Option.some.inj e2
  obtain ⟨k3, g4⟩ := and_e g3
  obtain ⟨i3, e3⟩ := is_v k3
  obtain rfl : w3 = (.int i3) := Option.some.inj e3
  obtain ⟨i4, e4⟩ := is_v g4
  obtain rfl : w4 = (.int i4) := Option.some.inj e4
  obtain ⟨n, o, h1, h2, h3, _, L, rfl, ⟨rfl, N⟩, hq⟩ := rm0 l s _ hw tables_1 i0 i1 i2 i3 i4  s.heap s.heap.size (Nat.le_refl _)  p e ha hc hk s m _ below hf ((Spec.applies_iff_loose hf).mp happ).1 ⟨rfl, State.Warmed39.refl s, rfl⟩ trivial
  refine ⟨n, _, h1, h2, h3, hpost _ _ _ _ _ _ ⟨Cond.after_iff.mpr rfl, Cond.after_iff.mpr (eq_i res_at (Term.int_eval (1)) rfl), trivial⟩ ⟨hq.1, hq.2.1, (hq.2.2.sift fun y hy => Or.inr (N y hy)).mono (by decide) (by decide)⟩⟩
theorem main_1_1 : Claimed_1_1 := comes_1 fun _ _ _ _ _ _ h hF => ⟨h.1, hF⟩
theorem main_1_2 : Claimed_1_2 := comes_1 fun _ _ _ _ _ _ h hF => ⟨h.2.1, hF⟩
end Jvm.Pilot.@@N@@
namespace Jvm.Pilot.@@N@@
open Jvm Jvm.ClassFile Sem Op Lib Jvm.Free Jvm.Stand Jvm.Pilot.@@N@@.Jvm.D
/-! MADE BY PROGRAM (witnessworld.py) out of the Statement's table words and the real class files: 9 classes; the members and pool entries that the words name. The judged class is class 1, her method 1. -/
namespace start1
open Jvm.ClassFile
def u (s : String) : CpInfo := .utf8 (stringToUtf16 s)
/-- a pool by its gaps: so many unusable entries, then the entry; so many at the end -/
def gap : Nat → List CpInfo → List CpInfo
  | 0, r => r
  | n + 1, r => .unusable :: gap n r
def poolList (es : List (Nat × CpInfo)) (last : Nat) : List CpInfo := es.foldr (fun e r => gap e.1 (e.2 :: r)) (gap last [])
def pool (es : List (Nat × CpInfo)) (last : Nat) : Array CpInfo := ⟨poolList es last⟩
def fileOf (pool : Array CpInfo) (this : Nat) (attrs : Array Attribute := #[]) (ms : Array MethodInfo := #[]) (fl : Nat := 33) (sup : Nat := 0) (ifs : Array Nat := #[]) (fds : Array FieldInfo := #[]) : ClassFile where
  minorVersion := 0
  majorVersion := 65
  constantPool := pool
  accessFlags := fl
  thisClass := this
  superClass := sup
  interfaces := ifs
  fields := fds
  methods := ms
  attributes := attrs
def plain (name : String) (sup : Option ClassId) : Class where
  name := name
  kind := .ordinary
  loader := none
  accessFlags := 33
  super := sup
  interfaces := #[]
  cf := none
  fields := #[]
  methods := #[]
  instanceTypes := #[]
  staticTypes := #[]
  resolved := #[]
  callSites := []
  init := .initialized
  statics := none
  mirror := none

def pool0 : Array CpInfo := pool [(5, u "<init>"), (0, u "()V"), (1, .class_ 10), (1, u "java/lang/Object")] 113

def k0c0 : Code := { maxStack := 0, maxLocals := 1, code := object_method_1_code, exceptionTable := #[], attributes := #[] }
def k0m0 : Method := { name := "<init>", desc := "()V", sig := { parameters := [], returnType := none }, accessFlags := 1, code := some k0c0 }
/-- java/lang/Object -/
def k0 : Class := { plain "java/lang/Object" none with
  accessFlags := 33
  interfaces := #[]
  cf := some (fileOf pool0 8 #[] #[{ accessFlags := 1, nameIndex := 5, descriptorIndex := 6, attributes := #[] }] 33 0 #[] #[])
  fields := #[]
  methods := #[k0m0]
  instanceTypes := #[]
  staticTypes := #[]
  resolved := Array.replicate 124 none
  statics := none }

def pool1 : Array CpInfo := pool [(2, .class_ 4), (1, u "java/lang/Object"), (0, u "<init>"), (0, u "()V"), (0, .integer 2147483647), (0, .class_ 9), (0, u "com/example/wirefold/wirefold/WireReader"), (0, .methodref 8 11), (0, .nameAndType 5 12), (0, u "([BIIZ)V"), (0, .methodref 8 14), (0, .nameAndType 15 16), (0, u "atEnd"), (0, u "()Z"), (0, .methodref 8 18), (0, .nameAndType 19 20), (0, u "skip"), (0, u "(I)V"), (0, .methodref 8 22), (0, .nameAndType 23 24), (0, u "position"), (0, u "()I"), (0, .methodref 8 26), (0, .nameAndType 27 28), (0, u "readVarint"), (0, u "()J"), (0, .class_ 30), (0, u "com/example/wirefold/wirefold/WireReaderAtEndPinLaw"), (2, u "law"), (0, u "(IIIII)Z")] 8

def k1m0 : Method := { name := "<init>", desc := "()V", sig := { parameters := [], returnType := none }, accessFlags := 2, code := none }
def k1c1 : Code := { maxStack := 7, maxLocals := 15, code := code, exceptionTable := #[], attributes := #[] }
def k1m1 : Method := { name := "law", desc := "(IIIII)Z", sig := { parameters := [.int, .int, .int, .int, .int], returnType := some .boolean }, accessFlags := 9, code := some k1c1 }
/-- com/example/wirefold/wirefold/WireReaderAtEndPinLaw -/
def k1 : Class := { plain "com/example/wirefold/wirefold/WireReaderAtEndPinLaw" (some 0) with
  accessFlags := 49
  interfaces := #[]
  cf := some (fileOf pool1 29 #[] #[{ accessFlags := 2, nameIndex := 5, descriptorIndex := 6, attributes := #[] }, { accessFlags := 9, nameIndex := 33, descriptorIndex := 34, attributes := #[] }] 49 2 #[] #[])
  fields := #[]
  methods := #[k1m0, k1m1]
  instanceTypes := #[]
  staticTypes := #[]
  resolved := Array.replicate 43 none
  statics := none }

def pool2 : Array CpInfo := pool [(2, .class_ 4), (1, u "com/example/wirefold/wirefold/WireReader"), (0, u "EIGHT_BYTES"), (0, u "Ljava/lang/invoke/VarHandle;"), (16, .methodref 24 25), (0, .class_ 26), (0, .nameAndType 27 28), (0, u "java/lang/Object"), (0, u "<init>"), (0, u "()V"), (0, .fieldref 2 30), (0, .nameAndType 31 32), (0, u "data"), (0, u "[B"), (0, .fieldref 2 34), (0, .nameAndType 35 36), (0, u "position"), (0, u "I"), (0, .fieldref 2 38), (0, .nameAndType 39 36), (0, u "end"), (0, .fieldref 2 41), (0, .nameAndType 42 43), (0, u "shortestOnly"), (0, u "Z"), (2, u "readVarint"), (0, u "()J"), (29, .class_ 79), (1, u "com/example/wirefold/wirefold/WireReader$1"), (7, u "()I"), (22, u "atEnd"), (0, u "()Z"), (36, u "MAX_FIELD_NUMBER"), (7, u "([BIIZ)V"), (8, u "skip"), (0, u "(I)V")] 25

def k2c0 : Code := { maxStack := 3, maxLocals := 5, code := prog_59_method_2_code, exceptionTable := #[], attributes := #[] }
def k2m0 : Method := { name := "<init>", desc := "([BIIZ)V", sig := { parameters := [(.array .byte), .int, .int, .boolean], returnType := none }, accessFlags := 0, code := some k2c0 }
def k2c1 : Code := { maxStack := 1, maxLocals := 1, code := prog_59_method_4_code, exceptionTable := #[], attributes := #[] }
def k2m1 : Method := { name := "position", desc := "()I", sig := { parameters := [], returnType := some .int }, accessFlags := 0, code := some k2c1 }
def k2c2 : Code := { maxStack := 2, maxLocals := 1, code := prog_59_method_5_code, exceptionTable := #[], attributes := #[] }
def k2m2 : Method := { name := "atEnd", desc := "()Z", sig := { parameters := [], returnType := some .boolean }, accessFlags := 0, code := some k2c2 }
def k2c3 : Code := { maxStack := 5, maxLocals := 6, code := prog_59_method_7_code, exceptionTable := #[], attributes := #[] }
def k2m3 : Method := { name := "readVarint", desc := "()J", sig := { parameters := [], returnType := some .long }, accessFlags := 0, code := some k2c3 }
def k2c4 : Code := { maxStack := 3, maxLocals := 2, code := prog_59_method_13_code, exceptionTable := #[], attributes := #[] }
def k2m4 : Method := { name := "skip", desc := "(I)V", sig := { parameters := [.int], returnType := none }, accessFlags := 0, code := some k2c4 }
/-- com/example/wirefold/wirefold/WireReader -/
def k2 : Class := { plain "com/example/wirefold/wirefold/WireReader" (some 0) with
  accessFlags := 48
  interfaces := #[]
  cf := some (fileOf pool2 2 #[.nestMembers #[77]] #[{ accessFlags := 0, nameIndex := 27, descriptorIndex := 156, attributes := #[] }, { accessFlags := 0, nameIndex := 35, descriptorIndex := 87, attributes := #[] }, { accessFlags := 0, nameIndex := 110, descriptorIndex := 111, attributes := #[] }, { accessFlags := 0, nameIndex := 46, descriptorIndex := 47, attributes := #[] }, { accessFlags := 0, nameIndex := 165, descriptorIndex := 166, attributes := #[] }] 48 24 #[] #[{ accessFlags := 24, nameIndex := 148, descriptorIndex := 36, attributes := #[] }, { accessFlags := 26, nameIndex := 5, descriptorIndex := 6, attributes := #[] }, { accessFlags := 18, nameIndex := 31, descriptorIndex := 32, attributes := #[] }, { accessFlags := 18, nameIndex := 39, descriptorIndex := 36, attributes := #[] }, { accessFlags := 18, nameIndex := 42, descriptorIndex := 43, attributes := #[] }, { accessFlags := 2, nameIndex := 35, descriptorIndex := 36, attributes := #[] }])
  fields := #[{ name := "MAX_FIELD_NUMBER", type := .int, accessFlags := 24, slot := 0, constantValue := 0 }, { name := "EIGHT_BYTES", type := (.object "java/lang/invoke/VarHandle"), accessFlags := 26, slot := 1, constantValue := 0 }, { name := "data", type := (.array .byte), accessFlags := 18, slot := 0, constantValue := 0 }, { name := "end", type := .int, accessFlags := 18, slot := 1, constantValue := 0 }, { name := "shortestOnly", type := .boolean, accessFlags := 18, slot := 2, constantValue := 0 }, { name := "position", type := .int, accessFlags := 2, slot := 3, constantValue := 0 }]
  methods := #[k2m0, k2m1, k2m2, k2m3, k2m4]
  instanceTypes := #[(.array .byte), .int, .boolean, .int]
  staticTypes := #[.int, (.object "java/lang/invoke/VarHandle")]
  resolved := Array.replicate 192 none
  statics := none }

def pool3 : Array CpInfo := pool [(1, u "java/lang/Cloneable"), (0, .class_ 1), (0, u "java/lang/Object"), (0, .class_ 3)] 3

/-- java/lang/Cloneable -/
def k3 : Class := { plain "java/lang/Cloneable" (some 0) with
  accessFlags := 1537
  interfaces := #[]
  cf := some (fileOf pool3 2 #[] #[] 1537 4 #[] #[])
  fields := #[]
  methods := #[]
  instanceTypes := #[]
  staticTypes := #[]
  resolved := Array.replicate 8 none
  statics := none }

def pool4 : Array CpInfo := pool [(1, u "java/io/Serializable"), (0, .class_ 1), (0, u "java/lang/Object"), (0, .class_ 3)] 3

/-- java/io/Serializable -/
def k4 : Class := { plain "java/io/Serializable" (some 0) with
  accessFlags := 1537
  interfaces := #[]
  cf := some (fileOf pool4 2 #[] #[] 1537 4 #[] #[])
  fields := #[]
  methods := #[]
  instanceTypes := #[]
  staticTypes := #[]
  resolved := Array.replicate 8 none
  statics := none }

/-- the primitive byte -/
def k5 : Class := { plain "byte" none with kind := .primitive 'B', accessFlags := 0x411 }
/-- [B -/
def k6 : Class := { plain "[B" (some 0) with kind := .array 5 .byte, interfaces := #[3, 4], accessFlags := 1041 }

/-- the primitive int -/
def k7 : Class := { plain "int" none with kind := .primitive 'I', accessFlags := 0x411 }
/-- [I -/
def k8 : Class := { plain "[I" (some 0) with kind := .array 7 .int, interfaces := #[3, 4], accessFlags := 1041 }

def heap : Heap := #[]
def classes : Array Class := #[k0, k1, k2, k3, k4, k5, k6, k7, k8]
def interned : List (Array UInt16 × Addr) := []
def slotsUsed : Nat := 0
def theMethod : MethodId := ⟨1, 1⟩
def args0 : Array Value := #[.int 1, .int 2, .int 3, .int 4, .int 5]
def aboutOver (below : List Frame) : State where
  vm := { classes := classes, interned := interned.toArray }
  heap := heap
  slotsUsed := slotsUsed
  threads := #[{ frames := .invoking theMethod args0 :: below }]
def below0 : List Frame := [.native { method := ⟨0, 0⟩, args := #[] }]
def about1 : State := aboutOver below0
def p0 : Program := .bare "" "" ""
def e0 : Env := launch0.env 0 0 0
theorem w_frames : about1.frames = Frame.invoking theMethod args0 :: below0 := rfl
set_option maxRecDepth 65536 in
theorem w_args : argsFit about1.vm theMethod args0 = true := by decide +kernel
set_option maxRecDepth 65536 in
theorem w_heap : heapFits about1 = true := by decide +kernel
set_option maxRecDepth 65536 in
theorem w_runnable : about1.curStatus? = some .runnable := by decide +kernel
set_option maxRecDepth 65536 in
theorem w_alone : about1.alone = true := by decide +kernel
set_option maxRecDepth 65536 in
theorem w_named : about1.methodNamed? x = some theMethod := by decide +kernel
set_option maxRecDepth 65536 in
theorem w_hears : about1.hears theMethod below0 = true := by decide +kernel
set_option maxRecDepth 65536 in
theorem w_ripe : about1.ripe theMethod args0 below0 = true := by decide +kernel
theorem w_running : about1.status = .running := rfl
set_option maxRecDepth 65536 in
theorem w_room : about1.hasRoom e0.platform room_1 = true :=
  launch0.hasRoom_least _ room_1 (by decide +kernel) (by decide +kernel) (by decide +kernel) (by decide +kernel) (by decide +kernel) (by decide +kernel)
theorem allAtoms_all (ts : List Jvm.Cond) (a : Array Jvm.Value) (st : Jvm.State) : (allAtoms ts).before a st = ts.all (fun c => c.before a st) := by
  induction ts with
  | nil => rfl
  | cons c t ih =>
    show (Jvm.Cond.and c (allAtoms t)).before a st = _
    rw [Jvm.Cond.before_and, ih, List.all_cons]
def words1 : List Jvm.Cond := Jvm.Cond.code x code maxLocals ret :: tables_1
/-- a 'code' word, met by the world's own term for the bytes: nothing is compared byte by byte -/
theorem code_word {y : MethodName} {bytes : ByteArray} {mx : Nat} {rt : Option FieldType} {a : Array Value} {s : State} {m : MethodId} {meth : Method} {c : Code} (h1 : s.methodNamed? y = some m) (h2 : s.vm.method? m = some meth) (h3 : meth.code = some c) (h4 : c.code = bytes)
    (h5 : (c.maxLocals == mx && c.exceptionTable.isEmpty && decide (c.maxStack ≤ mostOperands) && decide (meth.sig.returnType = rt) && !meth.locks && decide (parseMethodDescriptor y.desc = some meth.sig)) = true) : (Jvm.Cond.code y bytes mx rt).before a s = true := by
  simp only [Bool.and_eq_true, beq_iff_eq, Bool.not_eq_true', decide_eq_true_eq] at h5
  obtain ⟨⟨⟨⟨⟨g1, g2⟩, g3⟩, g4⟩, g5⟩, g6⟩ := h5
  simp [Cond.before, Cond.holds, Cond.value, h1, h2, h3, h4, g1, g2, g3, g4, g5, g6]
def isCode : Jvm.Cond → Bool
  | .code _ _ _ _ => true
  | _ => false
theorem all_split {L : List Jvm.Cond} {P : Jvm.Cond → Bool} (h1 : L.all (fun c => isCode c || P c) = true) (h2 : ∀ c ∈ L.filter isCode, P c = true) : L.all P = true := by
  refine List.all_eq_true.mpr fun c hc => ?_
  have h := List.all_eq_true.mp h1 c hc
  rcases Bool.eq_false_or_eq_true (isCode c) with hi | hi
  · exact h2 c (List.mem_filter.mpr ⟨hc, hi⟩)
  · simpa [hi] using h
set_option maxRecDepth 65536 in
theorem w_c0 : (Jvm.Cond.code x code maxLocals ret).before args0 about1 = true := code_word (m := ⟨1, 1⟩) (meth := k1m1) (c := k1c1) (by decide +kernel) rfl rfl rfl (by decide +kernel)
set_option maxRecDepth 65536 in
theorem w_c1 : (Jvm.Cond.code ({ cls := "com/example/wirefold/wirefold/WireReader", name := "<init>", desc := "([BIIZ)V" } : Jvm.MethodName) prog_59_method_2_code (5 : Nat) (Option.none : Option Jvm.ClassFile.FieldType)).before args0 about1 = true := code_word (m := ⟨2, 0⟩) (meth := k2m0) (c := k2c0) (by decide +kernel) rfl rfl rfl (by decide +kernel)
set_option maxRecDepth 65536 in
theorem w_c2 : (Jvm.Cond.code ({ cls := "java/lang/Object", name := "<init>", desc := "()V" } : Jvm.MethodName) object_method_1_code (1 : Nat) (Option.none : Option Jvm.ClassFile.FieldType)).before args0 about1 = true := code_word (m := ⟨0, 0⟩) (meth := k0m0) (c := k0c0) (by decide +kernel) rfl rfl rfl (by decide +kernel)
set_option maxRecDepth 65536 in
theorem w_c3 : (Jvm.Cond.code ({ cls := "com/example/wirefold/wirefold/WireReader", name := "atEnd", desc := "()Z" } : Jvm.MethodName) prog_59_method_5_code (1 : Nat) (Option.some Jvm.ClassFile.FieldType.boolean)).before args0 about1 = true := code_word (m := ⟨2, 2⟩) (meth := k2m2) (c := k2c2) (by decide +kernel) rfl rfl rfl (by decide +kernel)
set_option maxRecDepth 65536 in
theorem w_c4 : (Jvm.Cond.code ({ cls := "com/example/wirefold/wirefold/WireReader", name := "skip", desc := "(I)V" } : Jvm.MethodName) prog_59_method_13_code (2 : Nat) (Option.none : Option Jvm.ClassFile.FieldType)).before args0 about1 = true := code_word (m := ⟨2, 4⟩) (meth := k2m4) (c := k2c4) (by decide +kernel) rfl rfl rfl (by decide +kernel)
set_option maxRecDepth 65536 in
theorem w_c5 : (Jvm.Cond.code ({ cls := "com/example/wirefold/wirefold/WireReader", name := "position", desc := "()I" } : Jvm.MethodName) prog_59_method_4_code (1 : Nat) (Option.some Jvm.ClassFile.FieldType.int)).before args0 about1 = true := code_word (m := ⟨2, 1⟩) (meth := k2m1) (c := k2c1) (by decide +kernel) rfl rfl rfl (by decide +kernel)
set_option maxRecDepth 65536 in
theorem w_c6 : (Jvm.Cond.code ({ cls := "com/example/wirefold/wirefold/WireReader", name := "readVarint", desc := "()J" } : Jvm.MethodName) prog_59_method_7_code (6 : Nat) (Option.some Jvm.ClassFile.FieldType.long)).before args0 about1 = true := code_word (m := ⟨2, 3⟩) (meth := k2m3) (c := k2c3) (by decide +kernel) rfl rfl rfl (by decide +kernel)
def codes1 : List Jvm.Cond := [Jvm.Cond.code x code maxLocals ret, Jvm.Cond.code ({ cls := "com/example/wirefold/wirefold/WireReader", name := "<init>", desc := "([BIIZ)V" } : Jvm.MethodName) prog_59_method_2_code (5 : Nat) (Option.none : Option Jvm.ClassFile.FieldType), Jvm.Cond.code ({ cls := "java/lang/Object", name := "<init>", desc := "()V" } : Jvm.MethodName) object_method_1_code (1 : Nat) (Option.none : Option Jvm.ClassFile.FieldType), Jvm.Cond.code ({ cls := "com/example/wirefold/wirefold/WireReader", name := "atEnd", desc := "()Z" } : Jvm.MethodName) prog_59_method_5_code (1 : Nat) (Option.some Jvm.ClassFile.FieldType.boolean), Jvm.Cond.code ({ cls := "com/example/wirefold/wirefold/WireReader", name := "skip", desc := "(I)V" } : Jvm.MethodName) prog_59_method_13_code (2 : Nat) (Option.none : Option Jvm.ClassFile.FieldType), Jvm.Cond.code ({ cls := "com/example/wirefold/wirefold/WireReader", name := "position", desc := "()I" } : Jvm.MethodName) prog_59_method_4_code (1 : Nat) (Option.some Jvm.ClassFile.FieldType.int), Jvm.Cond.code ({ cls := "com/example/wirefold/wirefold/WireReader", name := "readVarint", desc := "()J" } : Jvm.MethodName) prog_59_method_7_code (6 : Nat) (Option.some Jvm.ClassFile.FieldType.long)]
set_option maxRecDepth 65536 in
theorem codes_eq : words1.filter isCode = codes1 := rfl
theorem w_codes : ∀ c ∈ words1.filter isCode, c.before args0 about1 = true := by
  rw [codes_eq]
  intro c hc
  simp only [codes1, List.mem_cons, List.not_mem_nil, or_false] at hc
  rcases hc with rfl | rfl | rfl | rfl | rfl | rfl | rfl
  · exact w_c0
  · exact w_c1
  · exact w_c2
  · exact w_c3
  · exact w_c4
  · exact w_c5
  · exact w_c6
set_option maxRecDepth 65536 in
theorem w_t1 : (words1.take 24).all (fun c => isCode c || c.before args0 about1) = true := by decide +kernel
set_option maxRecDepth 65536 in
theorem w_t2 : (words1.drop 24).all (fun c => isCode c || c.before args0 about1) = true := by decide +kernel
theorem w_tables : (allAtoms (Jvm.Cond.code x code maxLocals ret :: tables_1)).before args0 about1 = true := by
  rw [allAtoms_all]
  show words1.all (fun c => c.before args0 about1) = true
  refine all_split ?_ w_codes
  rw [← List.take_append_drop 24 words1, List.all_append, w_t1, w_t2]
  rfl
set_option maxRecDepth 65536 in
theorem w_case : (Jvm.Cond.and given_1 narrow_1).before args0 about1 = true := by decide +kernel
theorem w_applies : (headSpec (Jvm.Cond.code x code maxLocals ret :: tables_1) room_1).applies x e0.platform about1 = true :=
  (Spec.applies_iff w_frames).mpr ⟨w_running, w_runnable, w_alone, w_named, w_hears, w_ripe, w_room, w_tables⟩
theorem atStart : AtStart classFile x code maxLocals ret World_1 tables_1 room_1 Calls_1 rest_1 Pre_1 launch0 p0 e0 about1 theMethod args0 below0 :=
  ⟨lists_1, trivial, launch0.admits_env _ _ _, launch0.least_env, fairChoices_fair.cas, fairChoices_fair.clock, w_frames, w_args, w_heap, w_applies, trivial, trivial, w_case⟩
end start1
theorem witness_1 : WitnessClaimed_1 := ⟨start1.p0, start1.e0, start1.about1, start1.theMethod, start1.args0, start1.below0, start1.atStart⟩
end Jvm.Pilot.@@N@@
