import JvmDerived
import JvmDerived.Pilot.@@N@@Statement
import JvmDerived.Pilot.@@N@@Code
set_option linter.unusedVariables false
set_option linter.unusedSimpArgs false
namespace Jvm.RoadKit
open Sem ClassFile Op Lib Jvm.Stand Jvm.Free Jvm.LawKit
section New
variable {p : Program} {l : Launch} {e : Env} {R : Room} {s : State} {m : MethodId} {args : Array Value} {below : List Frame} {meth : Method} {c : Code} {T T' : State} {locs : List Loc} {cells slots : Nat} {Q : Option Value → Heap → List Loc → Prop} {cc ss : Nat} {g g' : JFrame} {pc : Nat} {Ls : Array Slot}
/-- from here the body comes to an end that meets Q -/
def own_Goes (p : Program) (e : Env) (below : List Frame) (s : State) (Q : Option Value → Heap → List Loc → Prop) (cc ss : Nat) (T : State) (g : JFrame) : Prop :=
  ∃ s₂ o, Steps p.tables e below (T.setTop g) s₂ ∧ s₂.status = .running ∧ Ended s₂ below o ∧ ∃ v L, o = .returned v ∧ Q v s₂.heap L ∧ FrameEnd s o s₂ L cc ss
theorem own_st (h : ∀ t, Steps p.tables e below (T'.setTop g') t → Steps p.tables e below (T.setTop g) t) (k : own_Goes p e below s Q cc ss T' g') : own_Goes p e below s Q cc ss T g := by
  obtain ⟨s₂, o, h1, r⟩ := k; exact ⟨s₂, o, h _ h1, r⟩
theorem own_end {v : Option Value} (X : Stand p l e R s m args below meth c T locs cells slots) (hlk : meth.locks = false) (hv : meth.sig.returnType = none → v = none) (hc : cells ≤ cc) (hs : slots ≤ ss) (hQ : Q v T.heap locs)
    (st : ∀ fs, (∀ (f : JFrame) (acts : List Action), f.method = m → f.locked = none → f.entered = [] → (doReturn e (T.setTop f) acts v).1 = T.setFrames fs) → Steps p.tables e below (T.setTop g) (T.setFrames fs)) : own_Goes p e below s Q cc ss T g := by
  obtain ⟨fs, hr, hrun, hended, hW, hsame⟩ := X.leave (v := v) hv hlk
  exact ⟨_, _, st fs hr, hrun, hended, _, _, rfl, hQ, ⟨_, rfl⟩, hW, hsame.mono hc hs⟩
theorem own_retN (X : Stand p l e R s m args below meth c T locs cells slots) (hx : p.tables.exec = Jvm.exec) (hlk : meth.locks = false) {t : FieldType} {z : Int32} {rest : List Value} (hret : meth.sig.returnType = some t) (ht : t = .boolean ∨ t = .byte ∨ t = .char ∨ t = .short) (hd : decode c.code pc = .ok (.ireturn, 1)) (hc : cells ≤ cc) (hs : slots ≤ ss) (hQ : Q (some (.int (nar t z))) T.heap locs) : own_Goes p e below s Q cc ss T (mkF m pc Ls (.int z :: rest)) :=
  own_end X hlk (fun h => by rw [hret] at h; cases h) hc hs hQ fun fs hr => retN X hx hret ht hd hr
theorem own_retI (X : Stand p l e R s m args below meth c T locs cells slots) (hx : p.tables.exec = Jvm.exec) (hlk : meth.locks = false) {z : Int32} {rest : List Value} (hret : meth.sig.returnType = some .int) (hd : decode c.code pc = .ok (.ireturn, 1)) (hc : cells ≤ cc) (hs : slots ≤ ss) (hQ : Q (some (.int z)) T.heap locs) : own_Goes p e below s Q cc ss T (mkF m pc Ls (.int z :: rest)) :=
  own_end X hlk (fun h => by rw [hret] at h; cases h) hc hs hQ fun fs hr => retOut X hx hret rfl (Or.inl ⟨rfl, Or.inl rfl, _, rfl⟩) hd hr
theorem own_retL (X : Stand p l e R s m args below meth c T locs cells slots) (hx : p.tables.exec = Jvm.exec) (hlk : meth.locks = false) {z : Int64} {rest : List Value} (hret : meth.sig.returnType = some .long) (hd : decode c.code pc = .ok (.lreturn, 1)) (hc : cells ≤ cc) (hs : slots ≤ ss) (hQ : Q (some (.long z)) T.heap locs) : own_Goes p e below s Q cc ss T (mkF m pc Ls (.long z :: rest)) :=
  own_end X hlk (fun h => by rw [hret] at h; cases h) hc hs hQ fun fs hr => retOut X hx hret rfl (Or.inr (Or.inl ⟨rfl, rfl, _, rfl⟩)) hd hr
theorem own_narR {t : FieldType} {w : Value} (hw : w.isRef = true) : narrow t w = w := by rcases ref_cases hw with rfl | ⟨a, rfl⟩ <;> cases t <;> rfl
theorem own_fitR {n : String} {w : Value} (hw : w.isRef = true) : fits (.object n) w = true := by rcases ref_cases hw with rfl | ⟨a, rfl⟩ <;> rfl
theorem own_retA (X : Stand p l e R s m args below meth c T locs cells slots) (hx : p.tables.exec = Jvm.exec) (hlk : meth.locks = false) {w : Value} {t : FieldType} {rest : List Value} (hw : w.isRef = true) (hret : meth.sig.returnType = some t) (ht : t.isReference = true) (hd : decode c.code pc = .ok (.areturn, 1)) (hc : cells ≤ cc) (hs : slots ≤ ss) (hQ : Q (some w) T.heap locs) : own_Goes p e below s Q cc ss T (mkF m pc Ls (w :: rest)) :=
  own_end X hlk (fun h => by rw [hret] at h; cases h) hc hs hQ fun fs hr => retOut X hx hret (own_narR hw) (Or.inr (Or.inr (Or.inr (Or.inr ⟨rfl, ht, hw⟩)))) hd hr
theorem own_ret0 (X : Stand p l e R s m args below meth c T locs cells slots) (hx : p.tables.exec = Jvm.exec) (hlk : meth.locks = false) (hret : meth.sig.returnType = none) (hd : decode c.code pc = .ok (.return_, 1)) (hc : cells ≤ cc) (hs : slots ≤ ss) (hQ : Q none T.heap locs) : own_Goes p e below s Q cc ss T (mkF m pc Ls []) :=
  own_end X hlk (fun _ => rfl) hc hs hQ fun fs hr => X.returnOut hx hret hd hr
theorem own_nsr {Z : State} {a0 : Array Value} {O K : String} {n : Nat} (w : (Cond.noSuperclass O).before a0 Z = true) (wk : (Cond.instantiable K n).before a0 Z = true) (hn : O ≠ K) : NS Z O K := by
  obtain ⟨c, k, h1, h2, h3, -, -⟩ := Cond.noSuperclass_spec w
  obtain ⟨t, kt, g1, -⟩ := Cond.instantiable_spec wk
  have ne := ids_ne h1 g1 hn
  refine ⟨c, t, h1, g1, fun fuel => ?_⟩
  cases fuel with
  | zero => rfl
  | succ f => simp [Vm.isSubclassAux, ne, h2, h3]
theorem own_nsn {Z : State} {a0 : Array Value} {C S K : String} {n : Nat} (w : (Cond.superclass C S).before a0 Z = true) (wk : (Cond.instantiable K n).before a0 Z = true) (q : NS Z C K) (hn : C ≠ K) : ∃ c t, Z.vm.findClass C = some c ∧ Z.vm.findClass K = some t ∧ Z.vm.assignable c t = false := by
  obtain ⟨c, t, h0, g0, n3⟩ := q
  obtain ⟨p, k, kp, h1, h2, h3, h4, h5, -, h7⟩ := Cond.superclass_spec h0 w
  obtain ⟨t', kt, g1, g2, g5, g6, -⟩ := Cond.instantiable_spec wk
  cases g0.symm.trans g1
  have g7 : kt.isInterface = false := by simp only [Bool.or_eq_false_iff] at g6; exact g6.1
  have ne := ids_ne h0 g0 hn
  refine ⟨c, t, h0, g0, ?_⟩
  show Z.vm.assignableAux (255 + 1) c t = false
  simp [Vm.assignableAux, ne, h2, g2, h5, g5, g7, Vm.isSubclass, n3]
theorem own_Sta_keep {Z : State} {h h' : Heap} {ws : List Addr} {C n d : String} {w : Value} (F : Sta Z h C n d w) (K : Keep h h' ws) (q : ∀ x ∈ ws, ∀ cell : Cell, h[x]? = some cell → cell.vm.isStatics = false) : Sta Z h' C n d w := by
  obtain ⟨cf, i, k, f, st, cell, h1, h2, h3, h4, h5, h6, h7⟩ := F
  exact ⟨cf, i, k, f, st, cell, h1, h2, h3, h4, K.2.1 st cell h5 (fun z => by rw [q st z cell h5] at h6; cases h6), h6, h7⟩
end New
end Jvm.RoadKit
namespace Jvm.Pilot.@@N@@
open Jvm Jvm.ClassFile Sem Op Lib Jvm.Free Jvm.Stand Jvm.LawKit Jvm.RoadKit Bundle Jvm.Pilot.@@N@@.Jvm.D
def own_b (P : Prop) [Decidable P] : Int32 := if P then 1 else 0
theorem own_bt {P : Prop} [Decidable P] (h : P) : (some (Value.int (nar .boolean 1)) : Option Value) = some (.int (own_b P)) := by rw [own_b, if_pos h]; rfl
theorem own_bf {P : Prop} [Decidable P] (h : ¬ P) : (some (Value.int (nar .boolean 0)) : Option Value) = some (.int (own_b P)) := by rw [own_b, if_neg h]; rfl
theorem own_b1 {P : Prop} [Decidable P] (h : P) : own_b P = 1 := if_pos h
theorem own_b0 {P : Prop} [Decidable P] (h : ¬ P) : own_b P = 0 := if_neg h
theorem own_bc {P P' : Prop} [Decidable P] [Decidable P'] (h : P ↔ P') : own_b P = own_b P' := by simp only [own_b, h]
theorem own_ord {args : Array Value} {s : State} {t : Term} {a : Addr} {C n d : String} {k : Int32} (et : t.eval args s none [] s = some (.ref a)) (h : (Jvm.Cond.eq (.field t C n d) (.int k)).value args s none s [] = some true) : Fld s s.heap a C n d (.int k) := by
  refine Fld.start ?_
  have e1 := fld_at (C := C) (n := n) (dd := d) et
  obtain ⟨x, y, h1, h2, h3, -⟩ := cmp_v (Or.inl h)
  rw [e1] at h1
  have h4 : y = .int k := (Option.some.inj h2).symm
  subst h4
  cases x <;> simp [Kin, Value.isRef] at h3
  rename_i z
  have q : (Jvm.Cond.eq (.field t C n d) (.int k)).value args s none s [] = some (decide (z = k)) := by simp [Cond.value, Term.eval, et, h1]
  rw [h1, gotT q h]
theorem own_fref {args : Array Value} {s : State} {t : Term} {a : Addr} {C n d K : String} (et : t.eval args s none [] s = some (.ref a)) (h : (Jvm.Cond.exactly (.field t C n d) K).value args s none s [] = some true) : ∃ k, Fld s s.heap a C n d (.ref k) := by
  obtain ⟨k, e⟩ := exa_v h
  exact ⟨k, Fld.start ((fld_at et).symm.trans e)⟩
theorem own_fnull {args : Array Value} {s : State} {t : Term} {a : Addr} {C n d : String} (et : t.eval args s none [] s = some (.ref a)) (h : (Jvm.Cond.eq (.field t C n d) .null).value args s none s [] = some true) : Fld s s.heap a C n d .null :=
  Fld.start ((fld_at et).symm.trans (null_v h))
abbrev rRrm1 : Room := { frames := 0, cells := 0, slots := 0, locals := 0 }
theorem d1_0 : decode method_2_code 0 = .ok (.iload_n 0, 1) := by decide +kernel
theorem d1_1 : decode method_2_code 1 = .ok (.ifCond .ne 7, 3) := by decide +kernel
theorem d1_4 : decode method_2_code 4 = .ok (.getstatic 7, 3) := by decide +kernel
theorem d1_7 : decode method_2_code 7 = .ok (.areturn, 1) := by decide +kernel
theorem d1_8 : decode method_2_code 8 = .ok (.iload_n 0, 1) := by decide +kernel
theorem d1_9 : decode method_2_code 9 = .ok (.iconst 1, 1) := by decide +kernel
theorem d1_10 : decode method_2_code 10 = .ok (.if_icmp .ne 7, 3) := by decide +kernel
theorem d1_13 : decode method_2_code 13 = .ok (.getstatic 13, 3) := by decide +kernel
theorem d1_16 : decode method_2_code 16 = .ok (.areturn, 1) := by decide +kernel
theorem d1_17 : decode method_2_code 17 = .ok (.iload_n 0, 1) := by decide +kernel
theorem d1_18 : decode method_2_code 18 = .ok (.iconst 2, 1) := by decide +kernel
theorem d1_19 : decode method_2_code 19 = .ok (.if_icmp .ne 7, 3) := by decide +kernel
theorem d1_22 : decode method_2_code 22 = .ok (.getstatic 16, 3) := by decide +kernel
theorem d1_25 : decode method_2_code 25 = .ok (.areturn, 1) := by decide +kernel
theorem d1_26 : decode method_2_code 26 = .ok (.iload_n 0, 1) := by decide +kernel
theorem d1_27 : decode method_2_code 27 = .ok (.iconst 3, 1) := by decide +kernel
theorem d1_28 : decode method_2_code 28 = .ok (.if_icmp .ne 7, 3) := by decide +kernel
theorem d1_31 : decode method_2_code 31 = .ok (.getstatic 19, 3) := by decide +kernel
theorem d1_34 : decode method_2_code 34 = .ok (.areturn, 1) := by decide +kernel
theorem d1_35 : decode method_2_code 35 = .ok (.iload_n 0, 1) := by decide +kernel
theorem d1_36 : decode method_2_code 36 = .ok (.iconst 4, 1) := by decide +kernel
theorem d1_37 : decode method_2_code 37 = .ok (.if_icmp .ne 7, 3) := by decide +kernel
theorem d1_40 : decode method_2_code 40 = .ok (.getstatic 22, 3) := by decide +kernel
theorem d1_43 : decode method_2_code 43 = .ok (.areturn, 1) := by decide +kernel
theorem d1_44 : decode method_2_code 44 = .ok (.iload_n 0, 1) := by decide +kernel
theorem d1_45 : decode method_2_code 45 = .ok (.iconst 5, 1) := by decide +kernel
theorem d1_46 : decode method_2_code 46 = .ok (.if_icmp .ne 7, 3) := by decide +kernel
theorem d1_49 : decode method_2_code 49 = .ok (.getstatic 25, 3) := by decide +kernel
theorem d1_52 : decode method_2_code 52 = .ok (.areturn, 1) := by decide +kernel
theorem d1_53 : decode method_2_code 53 = .ok (.iload_n 0, 1) := by decide +kernel
theorem d1_54 : decode method_2_code 54 = .ok (.bipush 6, 2) := by decide +kernel
theorem d1_56 : decode method_2_code 56 = .ok (.if_icmp .ne 7, 3) := by decide +kernel
theorem d1_59 : decode method_2_code 59 = .ok (.getstatic 28, 3) := by decide +kernel
theorem d1_62 : decode method_2_code 62 = .ok (.areturn, 1) := by decide +kernel
theorem d1_63 : decode method_2_code 63 = .ok (.iload_n 0, 1) := by decide +kernel
theorem d1_64 : decode method_2_code 64 = .ok (.bipush 7, 2) := by decide +kernel
theorem d1_66 : decode method_2_code 66 = .ok (.if_icmp .ne 7, 3) := by decide +kernel
theorem d1_69 : decode method_2_code 69 = .ok (.getstatic 31, 3) := by decide +kernel
theorem d1_72 : decode method_2_code 72 = .ok (.areturn, 1) := by decide +kernel
theorem d1_73 : decode method_2_code 73 = .ok (.iload_n 0, 1) := by decide +kernel
theorem d1_74 : decode method_2_code 74 = .ok (.bipush 8, 2) := by decide +kernel
theorem d1_76 : decode method_2_code 76 = .ok (.if_icmp .ne 7, 3) := by decide +kernel
theorem d1_79 : decode method_2_code 79 = .ok (.getstatic 34, 3) := by decide +kernel
theorem d1_82 : decode method_2_code 82 = .ok (.areturn, 1) := by decide +kernel
theorem d1_83 : decode method_2_code 83 = .ok (.iload_n 0, 1) := by decide +kernel
theorem d1_84 : decode method_2_code 84 = .ok (.bipush 9, 2) := by decide +kernel
theorem d1_86 : decode method_2_code 86 = .ok (.if_icmp .ne 7, 3) := by decide +kernel
theorem d1_89 : decode method_2_code 89 = .ok (.getstatic 37, 3) := by decide +kernel
theorem d1_92 : decode method_2_code 92 = .ok (.areturn, 1) := by decide +kernel
theorem d1_93 : decode method_2_code 93 = .ok (.getstatic 40, 3) := by decide +kernel
theorem d1_96 : decode method_2_code 96 = .ok (.areturn, 1) := by decide +kernel
theorem pn_rm1 : plainFor (⟨"com/example/graphbind/graphbind/PropertyTypeIsZonedPinLaw", "pick", "(I)Lcom/example/graphbind/graphbind/PropertyType;"⟩ : MethodName) = true := by first | exact plainFor_of_name (by first | (simp [plainName, overriddenIn]; done) | decide +kernel) | decide +kernel
theorem ef_rm1 (m : MethodId) (k : Int32) : entryFrame m #[(.int k)] 1 = (mkF m 0 #[iv k] []) := by first | (simp [entryFrame, mkF, argsToLocals, Value.category]; done) | rfl
def Q1 (Z : State) (k : Int32) (s0 : Addr) (s1 : Addr) (s2 : Addr) (s3 : Addr) (s4 : Addr) (s5 : Addr) (s6 : Addr) (s7 : Addr) (s8 : Addr) (s9 : Addr) (s10 : Addr) (h0 : Heap) (n0 : Nat) (v_ : Option Value) (h_ : Heap) (L_ : List Loc) : Prop := ∃ r : Addr, (v_ = some (.ref r)) ∧ (Fr n0 L_) ∧ (h_ = h0) ∧ (Exa Z h0 r "com/example/graphbind/graphbind/PropertyType") ∧ ((k = 9 ∧ r = s9) ∨ (k = 10 ∧ r = s10) ∨ (¬ k = 9 ∧ ¬ k = 10 ∧ r ≠ s9 ∧ r ≠ s10))
set_option maxRecDepth 65536 in
set_option maxHeartbeats 40000000 in
theorem rm1 (l : Launch) (Z : State) (a0 : Array Value) (hw : ∀ d ∈ tables_1, d.before a0 Z = true) (ws : List Jvm.Cond) (k : Int32) (s0 : Addr) (s1 : Addr) (s2 : Addr) (s3 : Addr) (s4 : Addr) (s5 : Addr) (s6 : Addr) (s7 : Addr) (s8 : Addr) (s9 : Addr) (s10 : Addr) (h0 : Heap) (n0 : Nat) (Z0 : n0 ≤ h0.size) (p_0 : Sta Z h0 "com/example/graphbind/graphbind/PropertyType" "BOOLEAN" "Lcom/example/graphbind/graphbind/PropertyType;" (.ref s0)) (p_1 : Sta Z h0 "com/example/graphbind/graphbind/PropertyType" "INTEGER" "Lcom/example/graphbind/graphbind/PropertyType;" (.ref s1)) (p_2 : Sta Z h0 "com/example/graphbind/graphbind/PropertyType" "LONG" "Lcom/example/graphbind/graphbind/PropertyType;" (.ref s2)) (p_3 : Sta Z h0 "com/example/graphbind/graphbind/PropertyType" "FLOAT" "Lcom/example/graphbind/graphbind/PropertyType;" (.ref s3)) (p_4 : Sta Z h0 "com/example/graphbind/graphbind/PropertyType" "DOUBLE" "Lcom/example/graphbind/graphbind/PropertyType;" (.ref s4)) (p_5 : Sta Z h0 "com/example/graphbind/graphbind/PropertyType" "STRING" "Lcom/example/graphbind/graphbind/PropertyType;" (.ref s5)) (p_6 : Sta Z h0 "com/example/graphbind/graphbind/PropertyType" "LOCAL_DATE" "Lcom/example/graphbind/graphbind/PropertyType;" (.ref s6)) (p_7 : Sta Z h0 "com/example/graphbind/graphbind/PropertyType" "TIME" "Lcom/example/graphbind/graphbind/PropertyType;" (.ref s7)) (p_8 : Sta Z h0 "com/example/graphbind/graphbind/PropertyType" "TIMESTAMP" "Lcom/example/graphbind/graphbind/PropertyType;" (.ref s8)) (p_9 : Sta Z h0 "com/example/graphbind/graphbind/PropertyType" "TIME_WITH_TIMEZONE" "Lcom/example/graphbind/graphbind/PropertyType;" (.ref s9)) (p_10 : Sta Z h0 "com/example/graphbind/graphbind/PropertyType" "TIMESTAMP_WITH_TIMEZONE" "Lcom/example/graphbind/graphbind/PropertyType;" (.ref s10)) (p_11 : Exa Z h0 s0 "com/example/graphbind/graphbind/PropertyType") (p_12 : Exa Z h0 s1 "com/example/graphbind/graphbind/PropertyType") (p_13 : Exa Z h0 s2 "com/example/graphbind/graphbind/PropertyType") (p_14 : Exa Z h0 s3 "com/example/graphbind/graphbind/PropertyType") (p_15 : Exa Z h0 s4 "com/example/graphbind/graphbind/PropertyType") (p_16 : Exa Z h0 s5 "com/example/graphbind/graphbind/PropertyType") (p_17 : Exa Z h0 s6 "com/example/graphbind/graphbind/PropertyType") (p_18 : Exa Z h0 s7 "com/example/graphbind/graphbind/PropertyType") (p_19 : Exa Z h0 s8 "com/example/graphbind/graphbind/PropertyType") (p_20 : Exa Z h0 s9 "com/example/graphbind/graphbind/PropertyType") (p_21 : Exa Z h0 s10 "com/example/graphbind/graphbind/PropertyType") (p_22 : s0 ≠ s9) (p_23 : s0 ≠ s10) (p_24 : s1 ≠ s9) (p_25 : s1 ≠ s10) (p_26 : s2 ≠ s9) (p_27 : s2 ≠ s10) (p_28 : s3 ≠ s9) (p_29 : s3 ≠ s10) (p_30 : s4 ≠ s9) (p_31 : s4 ≠ s10) (p_32 : s5 ≠ s9) (p_33 : s5 ≠ s10) (p_34 : s6 ≠ s9) (p_35 : s6 ≠ s10) (p_36 : s7 ≠ s9) (p_37 : s7 ≠ s10) (p_38 : s8 ≠ s9) (p_39 : s8 ≠ s10) (p_40 : s9 ≠ s10) (hk : 0 ≤ k.toInt ∧ k.toInt < 11) :
    MetFree l (⟨"com/example/graphbind/graphbind/PropertyTypeIsZonedPinLaw", "pick", "(I)Lcom/example/graphbind/graphbind/PropertyType;"⟩ : MethodName) (head1 (Jvm.Cond.code (⟨"com/example/graphbind/graphbind/PropertyTypeIsZonedPinLaw", "pick", "(I)Lcom/example/graphbind/graphbind/PropertyType;"⟩ : MethodName) method_2_code 1 (some (.object "com/example/graphbind/graphbind/PropertyType")) :: ws) rRrm1) (fun a_ U_ => a_ = #[(.int k)] ∧ Z.Warmed39 U_.vm ∧ U_.heap = h0) (fun _ _ _ _ _ => True) (fun _ U_ o_ U1_ => ∃ v_ L_, o_ = .returned v_ ∧ Q1 Z k s0 s1 s2 s3 s4 s5 s6 s7 s8 s9 s10 h0 n0 v_ U1_.heap L_ ∧ FrameEnd U_ o_ U1_ L_ rRrm1.cells rRrm1.slots) := by
  refine MetFree.of_bodySF pn_rm1 hisR ?_
  intro p e s m args below meth c s₁ Bd hml0 hP hK
  obtain ⟨rfl, hZ, hh⟩ := hP
  have hx := Bd.exec
  have hby := Bd.bytes
  have hlk : meth.locks = false := Bd.notSynchronized
  have hml : c.maxLocals = 1 := hml0
  have hown : s.vm.findClass "com/example/graphbind/graphbind/PropertyTypeIsZonedPinLaw" = some m.cls := findClass_of_methodNamed Bd.named
  have hnm := (name_of_methodNamed Bd.named Bd.method).1
  have X0 : Stand p l e rRrm1 s m #[(.int k)] below meth c s₁ [] 0 0 := Stand.of_body Bd
  have e0 : s₁.heap = h0 := by rw [← hh, Bd.state]; rfl
  have N0 := Fr.nil n0
  show own_Goes p e below s (Q1 Z k s0 s1 s2 s3 s4 s5 s6 s7 s8 s9 s10 h0 n0) rRrm1.cells rRrm1.slots s₁ (entryFrame m #[(.int k)] 1)
  rw [ef_rm1 m k]
  show own_Goes p e below s (Q1 Z k s0 s1 s2 s3 s4 s5 s6 s7 s8 s9 s10 h0 n0) rRrm1.cells rRrm1.slots s₁ (mkF m 0 #[iv k] [])
  refine own_st (fun _ kk_ => XS.iloadN X0.here hx rfl (hb hby d1_0) rfl kk_) ?_
  show own_Goes p e below s (Q1 Z k s0 s1 s2 s3 s4 s5 s6 s7 s8 s9 s10 h0 n0) rRrm1.cells rRrm1.slots s₁ (mkF m 1 #[iv k] [(.int k)])
  rcases Classical.em (k = (0 : Int32)) with q0 | q0
  · refine own_st (fun _ kk_ => XS.ifNo X0.here hx rfl (hb hby d1_1) rfl (XT.i0_ne_f q0) kk_) ?_
    show own_Goes p e below s (Q1 Z k s0 s1 s2 s3 s4 s5 s6 s7 s8 s9 s10 h0 n0) rRrm1.cells rRrm1.slots s₁ (mkF m 4 #[iv k] [])
    obtain ⟨T1, X1, e1, st1⟩ := getS2 X0 hx hZ hown (host := "") (Or.inl (hw _ (List.mem_of_getElem? (i := 5) rfl))) Via.refl e0 p_0 (g := (mkF m 4 #[iv k] [])) rfl (hb hby d1_4)
    refine own_st st1 ?_
    show own_Goes p e below s (Q1 Z k s0 s1 s2 s3 s4 s5 s6 s7 s8 s9 s10 h0 n0) rRrm1.cells rRrm1.slots T1 (mkF m 7 #[iv k] [(.ref s0)])
    refine own_retA X1 hx hlk rfl Bd.returns rfl (hb hby d1_7) (by decide) (by decide) ?_
    show Q1 Z k s0 s1 s2 s3 s4 s5 s6 s7 s8 s9 s10 h0 n0 (some (.ref s0)) T1.heap _
    rw [e1]
    exact ⟨s0, rfl, N0, rfl, p_11, Or.inr (Or.inr ⟨by rw [q0]; decide, by rw [q0]; decide, p_22, p_23⟩)⟩
  · refine own_st (fun _ kk_ => XS.ifYes X0.here hx rfl (pc0 := 1) (pc' := 8) rfl (hb hby d1_1) rfl (XT.i0_ne_t q0) (by decide) (by decide) (XS.iloadN X0.here hx rfl (hb hby d1_8) rfl (XS.iconst X0.here hx rfl (hb hby d1_9) kk_))) ?_
    show own_Goes p e below s (Q1 Z k s0 s1 s2 s3 s4 s5 s6 s7 s8 s9 s10 h0 n0) rRrm1.cells rRrm1.slots s₁ (mkF m 10 #[iv k] [(.int (1 : Int32)), (.int k)])
    rcases Classical.em (k = (1 : Int32)) with q1 | q1
    · refine own_st (fun _ kk_ => XS.icmpNo X0.here hx rfl (hb hby d1_10) rfl (XT.ii_ne_f q1) kk_) ?_
      show own_Goes p e below s (Q1 Z k s0 s1 s2 s3 s4 s5 s6 s7 s8 s9 s10 h0 n0) rRrm1.cells rRrm1.slots s₁ (mkF m 13 #[iv k] [])
      obtain ⟨T2, X2, e2, st2⟩ := getS2 X0 hx hZ hown (host := "") (Or.inl (hw _ (List.mem_of_getElem? (i := 26) rfl))) Via.refl e0 p_1 (g := (mkF m 13 #[iv k] [])) rfl (hb hby d1_13)
      refine own_st st2 ?_
      show own_Goes p e below s (Q1 Z k s0 s1 s2 s3 s4 s5 s6 s7 s8 s9 s10 h0 n0) rRrm1.cells rRrm1.slots T2 (mkF m 16 #[iv k] [(.ref s1)])
      refine own_retA X2 hx hlk rfl Bd.returns rfl (hb hby d1_16) (by decide) (by decide) ?_
      show Q1 Z k s0 s1 s2 s3 s4 s5 s6 s7 s8 s9 s10 h0 n0 (some (.ref s1)) T2.heap _
      rw [e2]
      exact ⟨s1, rfl, N0, rfl, p_12, Or.inr (Or.inr ⟨by rw [q1]; decide, by rw [q1]; decide, p_24, p_25⟩)⟩
    · refine own_st (fun _ kk_ => XS.icmpYes X0.here hx rfl (pc0 := 10) (pc' := 17) rfl (hb hby d1_10) rfl (XT.ii_ne_t q1) (by decide) (by decide) (XS.iloadN X0.here hx rfl (hb hby d1_17) rfl (XS.iconst X0.here hx rfl (hb hby d1_18) kk_))) ?_
      show own_Goes p e below s (Q1 Z k s0 s1 s2 s3 s4 s5 s6 s7 s8 s9 s10 h0 n0) rRrm1.cells rRrm1.slots s₁ (mkF m 19 #[iv k] [(.int (2 : Int32)), (.int k)])
      rcases Classical.em (k = (2 : Int32)) with q2 | q2
      · refine own_st (fun _ kk_ => XS.icmpNo X0.here hx rfl (hb hby d1_19) rfl (XT.ii_ne_f q2) kk_) ?_
        show own_Goes p e below s (Q1 Z k s0 s1 s2 s3 s4 s5 s6 s7 s8 s9 s10 h0 n0) rRrm1.cells rRrm1.slots s₁ (mkF m 22 #[iv k] [])
        obtain ⟨T3, X3, e3, st3⟩ := getS2 X0 hx hZ hown (host := "") (Or.inl (hw _ (List.mem_of_getElem? (i := 23) rfl))) Via.refl e0 p_2 (g := (mkF m 22 #[iv k] [])) rfl (hb hby d1_22)
        refine own_st st3 ?_
        show own_Goes p e below s (Q1 Z k s0 s1 s2 s3 s4 s5 s6 s7 s8 s9 s10 h0 n0) rRrm1.cells rRrm1.slots T3 (mkF m 25 #[iv k] [(.ref s2)])
        refine own_retA X3 hx hlk rfl Bd.returns rfl (hb hby d1_25) (by decide) (by decide) ?_
        show Q1 Z k s0 s1 s2 s3 s4 s5 s6 s7 s8 s9 s10 h0 n0 (some (.ref s2)) T3.heap _
        rw [e3]
        exact ⟨s2, rfl, N0, rfl, p_13, Or.inr (Or.inr ⟨by rw [q2]; decide, by rw [q2]; decide, p_26, p_27⟩)⟩
      · refine own_st (fun _ kk_ => XS.icmpYes X0.here hx rfl (pc0 := 19) (pc' := 26) rfl (hb hby d1_19) rfl (XT.ii_ne_t q2) (by decide) (by decide) (XS.iloadN X0.here hx rfl (hb hby d1_26) rfl (XS.iconst X0.here hx rfl (hb hby d1_27) kk_))) ?_
        show own_Goes p e below s (Q1 Z k s0 s1 s2 s3 s4 s5 s6 s7 s8 s9 s10 h0 n0) rRrm1.cells rRrm1.slots s₁ (mkF m 28 #[iv k] [(.int (3 : Int32)), (.int k)])
        rcases Classical.em (k = (3 : Int32)) with q3 | q3
        · refine own_st (fun _ kk_ => XS.icmpNo X0.here hx rfl (hb hby d1_28) rfl (XT.ii_ne_f q3) kk_) ?_
          show own_Goes p e below s (Q1 Z k s0 s1 s2 s3 s4 s5 s6 s7 s8 s9 s10 h0 n0) rRrm1.cells rRrm1.slots s₁ (mkF m 31 #[iv k] [])
          obtain ⟨T4, X4, e4, st4⟩ := getS2 X0 hx hZ hown (host := "") (Or.inl (hw _ (List.mem_of_getElem? (i := 17) rfl))) Via.refl e0 p_3 (g := (mkF m 31 #[iv k] [])) rfl (hb hby d1_31)
          refine own_st st4 ?_
          show own_Goes p e below s (Q1 Z k s0 s1 s2 s3 s4 s5 s6 s7 s8 s9 s10 h0 n0) rRrm1.cells rRrm1.slots T4 (mkF m 34 #[iv k] [(.ref s3)])
          refine own_retA X4 hx hlk rfl Bd.returns rfl (hb hby d1_34) (by decide) (by decide) ?_
          show Q1 Z k s0 s1 s2 s3 s4 s5 s6 s7 s8 s9 s10 h0 n0 (some (.ref s3)) T4.heap _
          rw [e4]
          exact ⟨s3, rfl, N0, rfl, p_14, Or.inr (Or.inr ⟨by rw [q3]; decide, by rw [q3]; decide, p_28, p_29⟩)⟩
        · refine own_st (fun _ kk_ => XS.icmpYes X0.here hx rfl (pc0 := 28) (pc' := 35) rfl (hb hby d1_28) rfl (XT.ii_ne_t q3) (by decide) (by decide) (XS.iloadN X0.here hx rfl (hb hby d1_35) rfl (XS.iconst X0.here hx rfl (hb hby d1_36) kk_))) ?_
          show own_Goes p e below s (Q1 Z k s0 s1 s2 s3 s4 s5 s6 s7 s8 s9 s10 h0 n0) rRrm1.cells rRrm1.slots s₁ (mkF m 37 #[iv k] [(.int (4 : Int32)), (.int k)])
          rcases Classical.em (k = (4 : Int32)) with q4 | q4
          · refine own_st (fun _ kk_ => XS.icmpNo X0.here hx rfl (hb hby d1_37) rfl (XT.ii_ne_f q4) kk_) ?_
            show own_Goes p e below s (Q1 Z k s0 s1 s2 s3 s4 s5 s6 s7 s8 s9 s10 h0 n0) rRrm1.cells rRrm1.slots s₁ (mkF m 40 #[iv k] [])
            obtain ⟨T5, X5, e5, st5⟩ := getS2 X0 hx hZ hown (host := "") (Or.inl (hw _ (List.mem_of_getElem? (i := 33) rfl))) Via.refl e0 p_4 (g := (mkF m 40 #[iv k] [])) rfl (hb hby d1_40)
            refine own_st st5 ?_
            show own_Goes p e below s (Q1 Z k s0 s1 s2 s3 s4 s5 s6 s7 s8 s9 s10 h0 n0) rRrm1.cells rRrm1.slots T5 (mkF m 43 #[iv k] [(.ref s4)])
            refine own_retA X5 hx hlk rfl Bd.returns rfl (hb hby d1_43) (by decide) (by decide) ?_
            show Q1 Z k s0 s1 s2 s3 s4 s5 s6 s7 s8 s9 s10 h0 n0 (some (.ref s4)) T5.heap _
            rw [e5]
            exact ⟨s4, rfl, N0, rfl, p_15, Or.inr (Or.inr ⟨by rw [q4]; decide, by rw [q4]; decide, p_30, p_31⟩)⟩
          · refine own_st (fun _ kk_ => XS.icmpYes X0.here hx rfl (pc0 := 37) (pc' := 44) rfl (hb hby d1_37) rfl (XT.ii_ne_t q4) (by decide) (by decide) (XS.iloadN X0.here hx rfl (hb hby d1_44) rfl (XS.iconst X0.here hx rfl (hb hby d1_45) kk_))) ?_
            show own_Goes p e below s (Q1 Z k s0 s1 s2 s3 s4 s5 s6 s7 s8 s9 s10 h0 n0) rRrm1.cells rRrm1.slots s₁ (mkF m 46 #[iv k] [(.int (5 : Int32)), (.int k)])
            rcases Classical.em (k = (5 : Int32)) with q5 | q5
            · refine own_st (fun _ kk_ => XS.icmpNo X0.here hx rfl (hb hby d1_46) rfl (XT.ii_ne_f q5) kk_) ?_
              show own_Goes p e below s (Q1 Z k s0 s1 s2 s3 s4 s5 s6 s7 s8 s9 s10 h0 n0) rRrm1.cells rRrm1.slots s₁ (mkF m 49 #[iv k] [])
              obtain ⟨T6, X6, e6, st6⟩ := getS2 X0 hx hZ hown (host := "") (Or.inl (hw _ (List.mem_of_getElem? (i := 29) rfl))) Via.refl e0 p_5 (g := (mkF m 49 #[iv k] [])) rfl (hb hby d1_49)
              refine own_st st6 ?_
              show own_Goes p e below s (Q1 Z k s0 s1 s2 s3 s4 s5 s6 s7 s8 s9 s10 h0 n0) rRrm1.cells rRrm1.slots T6 (mkF m 52 #[iv k] [(.ref s5)])
              refine own_retA X6 hx hlk rfl Bd.returns rfl (hb hby d1_52) (by decide) (by decide) ?_
              show Q1 Z k s0 s1 s2 s3 s4 s5 s6 s7 s8 s9 s10 h0 n0 (some (.ref s5)) T6.heap _
              rw [e6]
              exact ⟨s5, rfl, N0, rfl, p_16, Or.inr (Or.inr ⟨by rw [q5]; decide, by rw [q5]; decide, p_32, p_33⟩)⟩
            · refine own_st (fun _ kk_ => XS.icmpYes X0.here hx rfl (pc0 := 46) (pc' := 53) rfl (hb hby d1_46) rfl (XT.ii_ne_t q5) (by decide) (by decide) (XS.iloadN X0.here hx rfl (hb hby d1_53) rfl (XS.bipush X0.here hx rfl (hb hby d1_54) kk_))) ?_
              show own_Goes p e below s (Q1 Z k s0 s1 s2 s3 s4 s5 s6 s7 s8 s9 s10 h0 n0) rRrm1.cells rRrm1.slots s₁ (mkF m 56 #[iv k] [(.int (6 : Int32)), (.int k)])
              rcases Classical.em (k = (6 : Int32)) with q6 | q6
              · refine own_st (fun _ kk_ => XS.icmpNo X0.here hx rfl (hb hby d1_56) rfl (XT.ii_ne_f q6) kk_) ?_
                show own_Goes p e below s (Q1 Z k s0 s1 s2 s3 s4 s5 s6 s7 s8 s9 s10 h0 n0) rRrm1.cells rRrm1.slots s₁ (mkF m 59 #[iv k] [])
                obtain ⟨T7, X7, e7, st7⟩ := getS2 X0 hx hZ hown (host := "") (Or.inl (hw _ (List.mem_of_getElem? (i := 31) rfl))) Via.refl e0 p_6 (g := (mkF m 59 #[iv k] [])) rfl (hb hby d1_59)
                refine own_st st7 ?_
                show own_Goes p e below s (Q1 Z k s0 s1 s2 s3 s4 s5 s6 s7 s8 s9 s10 h0 n0) rRrm1.cells rRrm1.slots T7 (mkF m 62 #[iv k] [(.ref s6)])
                refine own_retA X7 hx hlk rfl Bd.returns rfl (hb hby d1_62) (by decide) (by decide) ?_
                show Q1 Z k s0 s1 s2 s3 s4 s5 s6 s7 s8 s9 s10 h0 n0 (some (.ref s6)) T7.heap _
                rw [e7]
                exact ⟨s6, rfl, N0, rfl, p_17, Or.inr (Or.inr ⟨by rw [q6]; decide, by rw [q6]; decide, p_34, p_35⟩)⟩
              · refine own_st (fun _ kk_ => XS.icmpYes X0.here hx rfl (pc0 := 56) (pc' := 63) rfl (hb hby d1_56) rfl (XT.ii_ne_t q6) (by decide) (by decide) (XS.iloadN X0.here hx rfl (hb hby d1_63) rfl (XS.bipush X0.here hx rfl (hb hby d1_64) kk_))) ?_
                show own_Goes p e below s (Q1 Z k s0 s1 s2 s3 s4 s5 s6 s7 s8 s9 s10 h0 n0) rRrm1.cells rRrm1.slots s₁ (mkF m 66 #[iv k] [(.int (7 : Int32)), (.int k)])
                rcases Classical.em (k = (7 : Int32)) with q7 | q7
                · refine own_st (fun _ kk_ => XS.icmpNo X0.here hx rfl (hb hby d1_66) rfl (XT.ii_ne_f q7) kk_) ?_
                  show own_Goes p e below s (Q1 Z k s0 s1 s2 s3 s4 s5 s6 s7 s8 s9 s10 h0 n0) rRrm1.cells rRrm1.slots s₁ (mkF m 69 #[iv k] [])
                  obtain ⟨T8, X8, e8, st8⟩ := getS2 X0 hx hZ hown (host := "") (Or.inl (hw _ (List.mem_of_getElem? (i := 19) rfl))) Via.refl e0 p_7 (g := (mkF m 69 #[iv k] [])) rfl (hb hby d1_69)
                  refine own_st st8 ?_
                  show own_Goes p e below s (Q1 Z k s0 s1 s2 s3 s4 s5 s6 s7 s8 s9 s10 h0 n0) rRrm1.cells rRrm1.slots T8 (mkF m 72 #[iv k] [(.ref s7)])
                  refine own_retA X8 hx hlk rfl Bd.returns rfl (hb hby d1_72) (by decide) (by decide) ?_
                  show Q1 Z k s0 s1 s2 s3 s4 s5 s6 s7 s8 s9 s10 h0 n0 (some (.ref s7)) T8.heap _
                  rw [e8]
                  exact ⟨s7, rfl, N0, rfl, p_18, Or.inr (Or.inr ⟨by rw [q7]; decide, by rw [q7]; decide, p_36, p_37⟩)⟩
                · refine own_st (fun _ kk_ => XS.icmpYes X0.here hx rfl (pc0 := 66) (pc' := 73) rfl (hb hby d1_66) rfl (XT.ii_ne_t q7) (by decide) (by decide) (XS.iloadN X0.here hx rfl (hb hby d1_73) rfl (XS.bipush X0.here hx rfl (hb hby d1_74) kk_))) ?_
                  show own_Goes p e below s (Q1 Z k s0 s1 s2 s3 s4 s5 s6 s7 s8 s9 s10 h0 n0) rRrm1.cells rRrm1.slots s₁ (mkF m 76 #[iv k] [(.int (8 : Int32)), (.int k)])
                  rcases Classical.em (k = (8 : Int32)) with q8 | q8
                  · refine own_st (fun _ kk_ => XS.icmpNo X0.here hx rfl (hb hby d1_76) rfl (XT.ii_ne_f q8) kk_) ?_
                    show own_Goes p e below s (Q1 Z k s0 s1 s2 s3 s4 s5 s6 s7 s8 s9 s10 h0 n0) rRrm1.cells rRrm1.slots s₁ (mkF m 79 #[iv k] [])
                    obtain ⟨T9, X9, e9, st9⟩ := getS2 X0 hx hZ hown (host := "") (Or.inl (hw _ (List.mem_of_getElem? (i := 21) rfl))) Via.refl e0 p_8 (g := (mkF m 79 #[iv k] [])) rfl (hb hby d1_79)
                    refine own_st st9 ?_
                    show own_Goes p e below s (Q1 Z k s0 s1 s2 s3 s4 s5 s6 s7 s8 s9 s10 h0 n0) rRrm1.cells rRrm1.slots T9 (mkF m 82 #[iv k] [(.ref s8)])
                    refine own_retA X9 hx hlk rfl Bd.returns rfl (hb hby d1_82) (by decide) (by decide) ?_
                    show Q1 Z k s0 s1 s2 s3 s4 s5 s6 s7 s8 s9 s10 h0 n0 (some (.ref s8)) T9.heap _
                    rw [e9]
                    exact ⟨s8, rfl, N0, rfl, p_19, Or.inr (Or.inr ⟨by rw [q8]; decide, by rw [q8]; decide, p_38, p_39⟩)⟩
                  · refine own_st (fun _ kk_ => XS.icmpYes X0.here hx rfl (pc0 := 76) (pc' := 83) rfl (hb hby d1_76) rfl (XT.ii_ne_t q8) (by decide) (by decide) (XS.iloadN X0.here hx rfl (hb hby d1_83) rfl (XS.bipush X0.here hx rfl (hb hby d1_84) kk_))) ?_
                    show own_Goes p e below s (Q1 Z k s0 s1 s2 s3 s4 s5 s6 s7 s8 s9 s10 h0 n0) rRrm1.cells rRrm1.slots s₁ (mkF m 86 #[iv k] [(.int (9 : Int32)), (.int k)])
                    rcases Classical.em (k = (9 : Int32)) with q9 | q9
                    · refine own_st (fun _ kk_ => XS.icmpNo X0.here hx rfl (hb hby d1_86) rfl (XT.ii_ne_f q9) kk_) ?_
                      show own_Goes p e below s (Q1 Z k s0 s1 s2 s3 s4 s5 s6 s7 s8 s9 s10 h0 n0) rRrm1.cells rRrm1.slots s₁ (mkF m 89 #[iv k] [])
                      obtain ⟨T10, X10, e10, st10⟩ := getS2 X0 hx hZ hown (host := "") (Or.inl (hw _ (List.mem_of_getElem? (i := 28) rfl))) Via.refl e0 p_9 (g := (mkF m 89 #[iv k] [])) rfl (hb hby d1_89)
                      refine own_st st10 ?_
                      show own_Goes p e below s (Q1 Z k s0 s1 s2 s3 s4 s5 s6 s7 s8 s9 s10 h0 n0) rRrm1.cells rRrm1.slots T10 (mkF m 92 #[iv k] [(.ref s9)])
                      refine own_retA X10 hx hlk rfl Bd.returns rfl (hb hby d1_92) (by decide) (by decide) ?_
                      show Q1 Z k s0 s1 s2 s3 s4 s5 s6 s7 s8 s9 s10 h0 n0 (some (.ref s9)) T10.heap _
                      rw [e10]
                      exact ⟨s9, rfl, N0, rfl, p_20, Or.inl ⟨q9, rfl⟩⟩
                    · refine own_st (fun _ kk_ => XS.icmpYes X0.here hx rfl (pc0 := 86) (pc' := 93) rfl (hb hby d1_86) rfl (XT.ii_ne_t q9) (by decide) (by decide) kk_) ?_
                      show own_Goes p e below s (Q1 Z k s0 s1 s2 s3 s4 s5 s6 s7 s8 s9 s10 h0 n0) rRrm1.cells rRrm1.slots s₁ (mkF m 93 #[iv k] [])
                      obtain ⟨T11, X11, e11, st11⟩ := getS2 X0 hx hZ hown (host := "") (Or.inl (hw _ (List.mem_of_getElem? (i := 25) rfl))) Via.refl e0 p_10 (g := (mkF m 93 #[iv k] [])) rfl (hb hby d1_93)
                      refine own_st st11 ?_
                      show own_Goes p e below s (Q1 Z k s0 s1 s2 s3 s4 s5 s6 s7 s8 s9 s10 h0 n0) rRrm1.cells rRrm1.slots T11 (mkF m 96 #[iv k] [(.ref s10)])
                      refine own_retA X11 hx hlk rfl Bd.returns rfl (hb hby d1_96) (by decide) (by decide) ?_
                      show Q1 Z k s0 s1 s2 s3 s4 s5 s6 s7 s8 s9 s10 h0 n0 (some (.ref s10)) T11.heap _
                      rw [e11]
                      exact ⟨s10, rfl, N0, rfl, p_21, Or.inr (Or.inl ⟨by (revert hk q0 q1 q2 q3 q4 q5 q6 q7 q8 q9; simp only [Int32.lt_iff_toInt_lt, Int32.le_iff_toInt_le, ← Int32.toInt_inj, Int32.reduceToInt, Int64.lt_iff_toInt_lt, Int64.le_iff_toInt_le, ← Int64.toInt_inj, Int64.reduceToInt]; omega), rfl⟩)⟩
abbrev rRrm2 : Room := { frames := 0, cells := 0, slots := 0, locals := 0 }
theorem d2_0 : decode prog_66_method_6_code 0 = .ok (.aload_n 0, 1) := by decide +kernel
theorem d2_1 : decode prog_66_method_6_code 1 = .ok (.getstatic 31, 3) := by decide +kernel
theorem d2_4 : decode prog_66_method_6_code 4 = .ok (.if_acmp .eq 10, 3) := by decide +kernel
theorem d2_7 : decode prog_66_method_6_code 7 = .ok (.aload_n 0, 1) := by decide +kernel
theorem d2_8 : decode prog_66_method_6_code 8 = .ok (.getstatic 34, 3) := by decide +kernel
theorem d2_11 : decode prog_66_method_6_code 11 = .ok (.if_acmp .ne 7, 3) := by decide +kernel
theorem d2_14 : decode prog_66_method_6_code 14 = .ok (.iconst 1, 1) := by decide +kernel
theorem d2_15 : decode prog_66_method_6_code 15 = .ok (.goto 4, 3) := by decide +kernel
theorem d2_18 : decode prog_66_method_6_code 18 = .ok (.iconst 0, 1) := by decide +kernel
theorem d2_19 : decode prog_66_method_6_code 19 = .ok (.ireturn, 1) := by decide +kernel
theorem pn_rm2 : plainFor (⟨"com/example/graphbind/graphbind/PropertyType", "isZoned", "()Z"⟩ : MethodName) = true := by first | exact plainFor_of_name (by first | (simp [plainName, overriddenIn]; done) | decide +kernel) | decide +kernel
theorem ef_rm2 (m : MethodId) (r : Addr) : entryFrame m #[(.ref r)] 1 = (mkF m 0 #[rv r] []) := by first | (simp [entryFrame, mkF, argsToLocals, Value.category]; done) | rfl
def Q2 (Z : State) (r : Addr) (s9 : Addr) (s10 : Addr) (h0 : Heap) (n0 : Nat) (v_ : Option Value) (h_ : Heap) (L_ : List Loc) : Prop := (v_ = some (.int (own_b (r = s9 ∨ r = s10)))) ∧ (Fr n0 L_) ∧ (h_ = h0)
set_option maxRecDepth 65536 in
set_option maxHeartbeats 40000000 in
theorem rm2 (l : Launch) (Z : State) (a0 : Array Value) (hw : ∀ d ∈ tables_1, d.before a0 Z = true) (ws : List Jvm.Cond) (r : Addr) (s9 : Addr) (s10 : Addr) (h0 : Heap) (n0 : Nat) (Z0 : n0 ≤ h0.size) (p_0 : Sta Z h0 "com/example/graphbind/graphbind/PropertyType" "TIME_WITH_TIMEZONE" "Lcom/example/graphbind/graphbind/PropertyType;" (.ref s9)) (p_1 : Sta Z h0 "com/example/graphbind/graphbind/PropertyType" "TIMESTAMP_WITH_TIMEZONE" "Lcom/example/graphbind/graphbind/PropertyType;" (.ref s10)) :
    MetFree l (⟨"com/example/graphbind/graphbind/PropertyType", "isZoned", "()Z"⟩ : MethodName) (head1 (Jvm.Cond.code (⟨"com/example/graphbind/graphbind/PropertyType", "isZoned", "()Z"⟩ : MethodName) prog_66_method_6_code 1 (some .boolean) :: ws) rRrm2) (fun a_ U_ => a_ = #[(.ref r)] ∧ Z.Warmed39 U_.vm ∧ U_.heap = h0) (fun _ _ _ _ _ => True) (fun _ U_ o_ U1_ => ∃ v_ L_, o_ = .returned v_ ∧ Q2 Z r s9 s10 h0 n0 v_ U1_.heap L_ ∧ FrameEnd U_ o_ U1_ L_ rRrm2.cells rRrm2.slots) := by
  refine MetFree.of_bodySF pn_rm2 hisR ?_
  intro p e s m args below meth c s₁ Bd hml0 hP hK
  obtain ⟨rfl, hZ, hh⟩ := hP
  have hx := Bd.exec
  have hby := Bd.bytes
  have hlk : meth.locks = false := Bd.notSynchronized
  have hml : c.maxLocals = 1 := hml0
  have hown : s.vm.findClass "com/example/graphbind/graphbind/PropertyType" = some m.cls := findClass_of_methodNamed Bd.named
  have hnm := (name_of_methodNamed Bd.named Bd.method).1
  have X0 : Stand p l e rRrm2 s m #[(.ref r)] below meth c s₁ [] 0 0 := Stand.of_body Bd
  have e0 : s₁.heap = h0 := by rw [← hh, Bd.state]; rfl
  have N0 := Fr.nil n0
  show own_Goes p e below s (Q2 Z r s9 s10 h0 n0) rRrm2.cells rRrm2.slots s₁ (entryFrame m #[(.ref r)] 1)
  rw [ef_rm2 m r]
  show own_Goes p e below s (Q2 Z r s9 s10 h0 n0) rRrm2.cells rRrm2.slots s₁ (mkF m 0 #[rv r] [])
  refine own_st (fun _ kk_ => XS.aloadN X0.here hx rfl (hb hby d2_0) rfl rfl kk_) ?_
  show own_Goes p e below s (Q2 Z r s9 s10 h0 n0) rRrm2.cells rRrm2.slots s₁ (mkF m 1 #[rv r] [(.ref r)])
  obtain ⟨T1, X1, e1, st1⟩ := getS2 X0 hx hZ hown (host := "") (Or.inl (hw _ (List.mem_of_getElem? (i := 13) rfl))) Via.refl e0 p_0 (g := (mkF m 1 #[rv r] [(.ref r)])) rfl (hb hby d2_1)
  refine own_st st1 ?_
  show own_Goes p e below s (Q2 Z r s9 s10 h0 n0) rRrm2.cells rRrm2.slots T1 (mkF m 4 #[rv r] [(.ref s9), (.ref r)])
  rcases Classical.em ((Value.ref r) = (Value.ref s9)) with q0 | q0
  · refine own_st (fun _ kk_ => XT.acmpYes X1.here hx rfl (pc0 := 4) (pc' := 14) rfl (hb hby d2_4) rfl rfl rfl (XT.aa_eq_t q0) (by decide) (by decide) (XS.iconst X1.here hx rfl (hb hby d2_14) (XS.goto X1.here hx rfl (pc0 := 15) (pc' := 19) rfl (hb hby d2_15) (by decide) (by decide) kk_))) ?_
    show own_Goes p e below s (Q2 Z r s9 s10 h0 n0) rRrm2.cells rRrm2.slots T1 (mkF m 19 #[rv r] [(.int (1 : Int32))])
    refine own_retN X1 hx hlk (t := .boolean) Bd.returns (by simp) (hb hby d2_19) (by decide) (by decide) ?_
    show Q2 Z r s9 s10 h0 n0 (some (.int (nar .boolean (1 : Int32)))) T1.heap _
    rw [e1]
    exact ⟨by exact own_bt (by simp only [Value.ref.injEq] at q0; simp [q0]), N0, rfl⟩
  · refine own_st (fun _ kk_ => XT.acmpNo X1.here hx rfl (hb hby d2_4) rfl rfl rfl (XT.aa_eq_f q0) (XS.aloadN X1.here hx rfl (hb hby d2_7) rfl rfl kk_)) ?_
    show own_Goes p e below s (Q2 Z r s9 s10 h0 n0) rRrm2.cells rRrm2.slots T1 (mkF m 8 #[rv r] [(.ref r)])
    obtain ⟨T2, X2, e2, st2⟩ := getS2 X1 hx hZ hown (host := "") (Or.inl (hw _ (List.mem_of_getElem? (i := 15) rfl))) Via.refl e1 p_1 (g := (mkF m 8 #[rv r] [(.ref r)])) rfl (hb hby d2_8)
    refine own_st st2 ?_
    show own_Goes p e below s (Q2 Z r s9 s10 h0 n0) rRrm2.cells rRrm2.slots T2 (mkF m 11 #[rv r] [(.ref s10), (.ref r)])
    rcases Classical.em ((Value.ref r) = (Value.ref s10)) with q1 | q1
    · refine own_st (fun _ kk_ => XT.acmpNo X2.here hx rfl (hb hby d2_11) rfl rfl rfl (XT.aa_ne_f q1) (XS.iconst X2.here hx rfl (hb hby d2_14) (XS.goto X2.here hx rfl (pc0 := 15) (pc' := 19) rfl (hb hby d2_15) (by decide) (by decide) kk_))) ?_
      show own_Goes p e below s (Q2 Z r s9 s10 h0 n0) rRrm2.cells rRrm2.slots T2 (mkF m 19 #[rv r] [(.int (1 : Int32))])
      refine own_retN X2 hx hlk (t := .boolean) Bd.returns (by simp) (hb hby d2_19) (by decide) (by decide) ?_
      show Q2 Z r s9 s10 h0 n0 (some (.int (nar .boolean (1 : Int32)))) T2.heap _
      rw [e2]
      exact ⟨by exact own_bt (by simp only [Value.ref.injEq] at q0 q1; simp [q0, q1]), N0, rfl⟩
    · refine own_st (fun _ kk_ => XT.acmpYes X2.here hx rfl (pc0 := 11) (pc' := 18) rfl (hb hby d2_11) rfl rfl rfl (XT.aa_ne_t q1) (by decide) (by decide) (XS.iconst X2.here hx rfl (hb hby d2_18) kk_)) ?_
      show own_Goes p e below s (Q2 Z r s9 s10 h0 n0) rRrm2.cells rRrm2.slots T2 (mkF m 19 #[rv r] [(.int (0 : Int32))])
      refine own_retN X2 hx hlk (t := .boolean) Bd.returns (by simp) (hb hby d2_19) (by decide) (by decide) ?_
      show Q2 Z r s9 s10 h0 n0 (some (.int (nar .boolean (0 : Int32)))) T2.heap _
      rw [e2]
      exact ⟨by exact own_bf (by simp only [Value.ref.injEq] at q0 q1; simp [q0, q1]), N0, rfl⟩
theorem own_rng (p : Int32) : 0 ≤ ((p &&& 2147483647) % 11).toInt ∧ ((p &&& 2147483647) % 11).toInt < 11 := by
  have h1 := (c_and p 2147483647 (by decide)).1
  have h2 := (c_irem (p &&& 2147483647) 11 11 (by decide)).1 h1
  omega
theorem own_zy {k : Int32} {r s9 s10 : Addr} (fa : (k = 9 ∧ r = s9) ∨ (k = 10 ∧ r = s10) ∨ (¬ k = 9 ∧ ¬ k = 10 ∧ r ≠ s9 ∧ r ≠ s10)) (h : k = 9 ∨ k = 10) : r = s9 ∨ r = s10 := by
  rcases fa with ⟨u1, u2⟩ | ⟨u1, u2⟩ | ⟨u1, u2, u3, u4⟩
  · exact Or.inl u2
  · exact Or.inr u2
  · exact absurd h (fun q => q.elim u1 u2)
theorem own_zn {k : Int32} {r s9 s10 : Addr} (fa : (k = 9 ∧ r = s9) ∨ (k = 10 ∧ r = s10) ∨ (¬ k = 9 ∧ ¬ k = 10 ∧ r ≠ s9 ∧ r ≠ s10)) (h1 : ¬ k = 9) (h2 : ¬ k = 10) : ¬ (r = s9 ∨ r = s10) := by
  rcases fa with ⟨u1, u2⟩ | ⟨u1, u2⟩ | ⟨u1, u2, u3, u4⟩
  · exact absurd u1 h1
  · exact absurd u1 h2
  · exact fun q => q.elim u3 u4
theorem pd_0 : parseMethodDescriptor "(I)Lcom/example/graphbind/graphbind/PropertyType;" = some ⟨[.int], some (.object "com/example/graphbind/graphbind/PropertyType")⟩ := by decide +kernel
theorem pd_1 : parseMethodDescriptor "()Z" = some ⟨[], some .boolean⟩ := by decide +kernel
theorem pn_rm0 : plainFor x = true := by first | exact plainFor_of_name (by first | (simp [plainName, overriddenIn]; done) | decide +kernel) | decide +kernel
theorem ef_rm0 (m : MethodId) (p1 : Int32) : entryFrame m #[(.int p1)] maxLocals = (mkF m 0 #[iv p1, .unset, .unset, .unset] []) := by first | (simp [entryFrame, mkF, argsToLocals, Value.category, maxLocals]; done) | rfl
def Q0 (Z : State) (p1 : Int32) (s0 : Addr) (s1 : Addr) (s2 : Addr) (s3 : Addr) (s4 : Addr) (s5 : Addr) (s6 : Addr) (s7 : Addr) (s8 : Addr) (s9 : Addr) (s10 : Addr) (h0 : Heap) (n0 : Nat) (v_ : Option Value) (h_ : Heap) (L_ : List Loc) : Prop := (v_ = some (.int (1 : Int32))) ∧ (Fr n0 L_)
set_option maxRecDepth 65536 in
set_option maxHeartbeats 40000000 in
theorem rm0 (l : Launch) (Z : State) (a0 : Array Value) (hw : ∀ d ∈ tables_1, d.before a0 Z = true) (ws : List Jvm.Cond) (p1 : Int32) (s0 : Addr) (s1 : Addr) (s2 : Addr) (s3 : Addr) (s4 : Addr) (s5 : Addr) (s6 : Addr) (s7 : Addr) (s8 : Addr) (s9 : Addr) (s10 : Addr) (h0 : Heap) (n0 : Nat) (Z0 : n0 ≤ h0.size) (p_0 : Sta Z h0 "com/example/graphbind/graphbind/PropertyType" "BOOLEAN" "Lcom/example/graphbind/graphbind/PropertyType;" (.ref s0)) (p_1 : Sta Z h0 "com/example/graphbind/graphbind/PropertyType" "INTEGER" "Lcom/example/graphbind/graphbind/PropertyType;" (.ref s1)) (p_2 : Sta Z h0 "com/example/graphbind/graphbind/PropertyType" "LONG" "Lcom/example/graphbind/graphbind/PropertyType;" (.ref s2)) (p_3 : Sta Z h0 "com/example/graphbind/graphbind/PropertyType" "FLOAT" "Lcom/example/graphbind/graphbind/PropertyType;" (.ref s3)) (p_4 : Sta Z h0 "com/example/graphbind/graphbind/PropertyType" "DOUBLE" "Lcom/example/graphbind/graphbind/PropertyType;" (.ref s4)) (p_5 : Sta Z h0 "com/example/graphbind/graphbind/PropertyType" "STRING" "Lcom/example/graphbind/graphbind/PropertyType;" (.ref s5)) (p_6 : Sta Z h0 "com/example/graphbind/graphbind/PropertyType" "LOCAL_DATE" "Lcom/example/graphbind/graphbind/PropertyType;" (.ref s6)) (p_7 : Sta Z h0 "com/example/graphbind/graphbind/PropertyType" "TIME" "Lcom/example/graphbind/graphbind/PropertyType;" (.ref s7)) (p_8 : Sta Z h0 "com/example/graphbind/graphbind/PropertyType" "TIMESTAMP" "Lcom/example/graphbind/graphbind/PropertyType;" (.ref s8)) (p_9 : Sta Z h0 "com/example/graphbind/graphbind/PropertyType" "TIME_WITH_TIMEZONE" "Lcom/example/graphbind/graphbind/PropertyType;" (.ref s9)) (p_10 : Sta Z h0 "com/example/graphbind/graphbind/PropertyType" "TIMESTAMP_WITH_TIMEZONE" "Lcom/example/graphbind/graphbind/PropertyType;" (.ref s10)) (p_11 : Exa Z h0 s0 "com/example/graphbind/graphbind/PropertyType") (p_12 : Exa Z h0 s1 "com/example/graphbind/graphbind/PropertyType") (p_13 : Exa Z h0 s2 "com/example/graphbind/graphbind/PropertyType") (p_14 : Exa Z h0 s3 "com/example/graphbind/graphbind/PropertyType") (p_15 : Exa Z h0 s4 "com/example/graphbind/graphbind/PropertyType") (p_16 : Exa Z h0 s5 "com/example/graphbind/graphbind/PropertyType") (p_17 : Exa Z h0 s6 "com/example/graphbind/graphbind/PropertyType") (p_18 : Exa Z h0 s7 "com/example/graphbind/graphbind/PropertyType") (p_19 : Exa Z h0 s8 "com/example/graphbind/graphbind/PropertyType") (p_20 : Exa Z h0 s9 "com/example/graphbind/graphbind/PropertyType") (p_21 : Exa Z h0 s10 "com/example/graphbind/graphbind/PropertyType") (p_22 : s0 ≠ s9) (p_23 : s0 ≠ s10) (p_24 : s1 ≠ s9) (p_25 : s1 ≠ s10) (p_26 : s2 ≠ s9) (p_27 : s2 ≠ s10) (p_28 : s3 ≠ s9) (p_29 : s3 ≠ s10) (p_30 : s4 ≠ s9) (p_31 : s4 ≠ s10) (p_32 : s5 ≠ s9) (p_33 : s5 ≠ s10) (p_34 : s6 ≠ s9) (p_35 : s6 ≠ s10) (p_36 : s7 ≠ s9) (p_37 : s7 ≠ s10) (p_38 : s8 ≠ s9) (p_39 : s8 ≠ s10) (p_40 : s9 ≠ s10) :
    MetFree l x (head1 (Jvm.Cond.code x code maxLocals ret :: ws) room_1) (fun a_ U_ => a_ = #[(.int p1)] ∧ Z.Warmed39 U_.vm ∧ U_.heap = h0) (fun _ _ _ _ _ => True) (fun _ U_ o_ U1_ => ∃ v_ L_, o_ = .returned v_ ∧ Q0 Z p1 s0 s1 s2 s3 s4 s5 s6 s7 s8 s9 s10 h0 n0 v_ U1_.heap L_ ∧ FrameEnd U_ o_ U1_ L_ 0 0) := by
  refine MetFree.of_bodySF pn_rm0 hisR ?_
  intro p e s m args below meth c s₁ Bd hml0 hP hK
  obtain ⟨rfl, hZ, hh⟩ := hP
  have hx := Bd.exec
  have hby := Bd.bytes
  have hlk : meth.locks = false := Bd.notSynchronized
  have hml : c.maxLocals = 4 := hml0
  have hown : s.vm.findClass "com/example/graphbind/graphbind/PropertyTypeIsZonedPinLaw" = some m.cls := findClass_of_methodNamed Bd.named
  have hnm := (name_of_methodNamed Bd.named Bd.method).1
  have X0 : Stand p l e room_1 s m #[(.int p1)] below meth c s₁ [] 0 0 := Stand.of_body Bd
  have e0 : s₁.heap = h0 := by rw [← hh, Bd.state]; rfl
  have N0 := Fr.nil n0
  show own_Goes p e below s (Q0 Z p1 s0 s1 s2 s3 s4 s5 s6 s7 s8 s9 s10 h0 n0) 0 0 s₁ (entryFrame m #[(.int p1)] maxLocals)
  rw [ef_rm0 m p1]
  show own_Goes p e below s (Q0 Z p1 s0 s1 s2 s3 s4 s5 s6 s7 s8 s9 s10 h0 n0) 0 0 s₁ (mkF m 0 #[iv p1, .unset, .unset, .unset] [])
  refine own_st (fun _ kk_ => XS.iloadN X0.here hx rfl (hb hby at_0) rfl (X0.ldcInt hx hown (mvT hZ (hw _ (List.mem_of_getElem? (i := 0) rfl))) (g := (mkF m 1 #[iv p1, .unset, .unset, .unset] [(.int p1)])) rfl (hb hby at_1) _ (XS.iand X0.here hx rfl (hb hby at_3) rfl (XS.bipush X0.here hx rfl (hb hby at_4) (iremM X0 hx rfl (hb hby at_6) rfl (by decide) (XS.istoreN X0.here hx rfl (hb hby at_7) rfl (l' := #[iv p1, iv ((p1 &&& (2147483647 : Int32)) % (11 : Int32)), .unset, .unset]) rfl (XS.iloadN X0.here hx rfl (hb hby at_8) rfl kk_))))))) ?_
  show own_Goes p e below s (Q0 Z p1 s0 s1 s2 s3 s4 s5 s6 s7 s8 s9 s10 h0 n0) 0 0 s₁ (mkF m 9 #[iv p1, iv ((p1 &&& (2147483647 : Int32)) % (11 : Int32)), .unset, .unset] [(.int ((p1 &&& (2147483647 : Int32)) % (11 : Int32)))])
  obtain ⟨_, _, ⟨T1, L1, k1, n1⟩, -, X1, ⟨Lc1, hQ1, l1, y1, z1⟩, st1⟩ := Jvm.LawKit.callS X0 hx (y := (⟨"com/example/graphbind/graphbind/PropertyTypeIsZonedPinLaw", "pick", "(I)Lcom/example/graphbind/graphbind/PropertyType;"⟩ : MethodName)) hown (mvT hZ (hw _ (List.mem_of_getElem? (i := 1) rfl))) (mvT hZ (hw _ (List.mem_of_getElem? (i := 2) rfl))) (mvT hZ (hw _ (List.mem_of_getElem? (i := 3) rfl))) (mvT hZ (hw _ (List.mem_of_getElem? (i := 4) rfl))) (by decide) (backOf (W := 0) (rm1 l Z a0 hw [] (((p1 &&& (2147483647 : Int32)) % (11 : Int32))) (s0) (s1) (s2) (s3) (s4) (s5) (s6) (s7) (s8) (s9) (s10) h0 n0 Z0 p_0 p_1 p_2 p_3 p_4 p_5 p_6 p_7 p_8 p_9 p_10 p_11 p_12 p_13 p_14 p_15 p_16 p_17 p_18 p_19 p_20 p_21 p_22 p_23 p_24 p_25 p_26 p_27 p_28 p_29 p_30 p_31 p_32 p_33 p_34 p_35 p_36 p_37 p_38 p_39 p_40 (own_rng p1)) hZ (hw _ (List.mem_of_getElem? (i := 4) rfl)) (hw _ (List.mem_of_getElem? (i := 3) rfl)) (by decide) (by decide)) (g := (mkF m 9 #[iv p1, iv ((p1 &&& (2147483647 : Int32)) % (11 : Int32)), .unset, .unset] [(.int ((p1 &&& (2147483647 : Int32)) % (11 : Int32)))])) rfl (by rw [hml]; rfl) (argsL := [(.int ((p1 &&& (2147483647 : Int32)) % (11 : Int32)))]) (rest := []) (lenOf pd_0 rfl) rfl (by show 2 * 0 + _ ≤ _; exact Nat.le_of_eq rfl) (hb hby at_9) (fun _ _ => ⟨rfl, e0, (by decide : 0 + 0 ≤ _), (by decide : 0 + 0 ≤ _)⟩)
  dsimp only [Pt.U, Pt.locs, Pt.cells, Pt.slots] at X1 l1 y1 z1 st1 hQ1
  subst l1 y1 z1
  obtain ⟨x1_r, rfl, Nq1, eq1, u1_0, u1_1⟩ := hQ1
  have N1 := Fr.app N0 Nq1
  refine own_st st1 ?_
  show own_Goes p e below s (Q0 Z p1 s0 s1 s2 s3 s4 s5 s6 s7 s8 s9 s10 h0 n0) 0 0 T1 (mkF m 12 #[iv p1, iv ((p1 &&& (2147483647 : Int32)) % (11 : Int32)), .unset, .unset] [(.ref x1_r)])
  refine own_st (fun _ kk_ => XS.astoreN X1.here hx rfl (hb hby at_12) rfl rfl (l' := #[iv p1, iv ((p1 &&& (2147483647 : Int32)) % (11 : Int32)), rv x1_r, .unset]) rfl (XS.iloadN X1.here hx rfl (hb hby at_13) rfl (XS.bipush X1.here hx rfl (hb hby at_14) kk_))) ?_
  show own_Goes p e below s (Q0 Z p1 s0 s1 s2 s3 s4 s5 s6 s7 s8 s9 s10 h0 n0) 0 0 T1 (mkF m 16 #[iv p1, iv ((p1 &&& (2147483647 : Int32)) % (11 : Int32)), rv x1_r, .unset] [(.int (9 : Int32)), (.int ((p1 &&& (2147483647 : Int32)) % (11 : Int32)))])
  rcases Classical.em (((p1 &&& (2147483647 : Int32)) % (11 : Int32)) = (9 : Int32)) with q0 | q0
  · refine own_st (fun _ kk_ => XS.icmpYes X1.here hx rfl (pc0 := 16) (pc' := 25) rfl (hb hby at_16) rfl (XT.ii_eq_t q0) (by decide) (by decide) (XS.iconst X1.here hx rfl (hb hby at_25) (XS.goto X1.here hx rfl (pc0 := 26) (pc' := 30) rfl (hb hby at_26) (by decide) (by decide) (XS.istoreN X1.here hx rfl (hb hby at_30) rfl (l' := #[iv p1, iv ((p1 &&& (2147483647 : Int32)) % (11 : Int32)), rv x1_r, iv (1 : Int32)]) rfl (XS.aloadN X1.here hx rfl (hb hby at_31) rfl rfl kk_))))) ?_
    show own_Goes p e below s (Q0 Z p1 s0 s1 s2 s3 s4 s5 s6 s7 s8 s9 s10 h0 n0) 0 0 T1 (mkF m 32 #[iv p1, iv ((p1 &&& (2147483647 : Int32)) % (11 : Int32)), rv x1_r, iv (1 : Int32)] [(.ref x1_r)])
    obtain ⟨cq2, kq2, q2a, q2b, q2c⟩ := isOf hZ eq1 u1_0
    obtain ⟨_, _, ⟨T2, L2, k2, n2⟩, -, X2, ⟨Lc2, hQ2, l2, y2, z2⟩, st2⟩ := X1.virtualBack hx (y := (⟨"com/example/graphbind/graphbind/PropertyType", "isZoned", "()Z"⟩ : MethodName)) (z := (⟨"com/example/graphbind/graphbind/PropertyType", "isZoned", "()Z"⟩ : MethodName)) hown (mvT hZ (hw _ (List.mem_of_getElem? (i := 8) rfl))) (mvT hZ (hw _ (List.mem_of_getElem? (i := 9) rfl))) (notFace_of_selects (args := #[]) (mvT hZ (hw _ (List.mem_of_getElem? (i := 11) rfl)))) (mvT hZ (hw _ (List.mem_of_getElem? (i := 11) rfl))) (mvT hZ (hw _ (List.mem_of_getElem? (i := 10) rfl))) (by decide) (backOf (W := 0) (rm2 l Z a0 hw [] (x1_r) (s9) (s10) h0 n0 Z0 p_9 p_10) hZ (hw _ (List.mem_of_getElem? (i := 12) rfl)) (hw _ (List.mem_of_getElem? (i := 6) rfl)) (by decide) (by decide)) q2a q2c (g := (mkF m 32 #[iv p1, iv ((p1 &&& (2147483647 : Int32)) % (11 : Int32)), rv x1_r, iv (1 : Int32)] [(.ref x1_r)])) rfl (by rw [hml]; rfl) (Steps.refl _) (argsL := []) (rest := []) (lenOf pd_1 rfl) rfl (by show 2 * 0 + _ ≤ _; exact Nat.le_of_eq rfl) (hb hby at_32) (fun _ _ => ⟨rfl, eq1, (by decide : 0 + 0 ≤ _), (by decide : 0 + 0 ≤ _)⟩)
    dsimp only [Pt.U, Pt.locs, Pt.cells, Pt.slots] at X2 l2 y2 z2 st2 hQ2
    subst l2 y2 z2
    obtain ⟨rfl, Nq2, eq2⟩ := hQ2
    have N2 := Fr.app N1 Nq2
    refine own_st (fun _ kk_ => st2.trans kk_) ?_
    show own_Goes p e below s (Q0 Z p1 s0 s1 s2 s3 s4 s5 s6 s7 s8 s9 s10 h0 n0) 0 0 T2 (mkF m 35 #[iv p1, iv ((p1 &&& (2147483647 : Int32)) % (11 : Int32)), rv x1_r, iv (1 : Int32)] [(.int (own_b (x1_r = s9 ∨ x1_r = s10)))])
    refine own_st (fun _ kk_ => XS.iloadN X2.here hx rfl (hb hby at_35) rfl (XS.icmpNo X2.here hx rfl (hb hby at_36) rfl (XT.ii_ne_f (own_b1 (own_zy u1_1 (Or.inl q0)))) (XS.iconst X2.here hx rfl (hb hby at_39) (XS.goto X2.here hx rfl (pc0 := 40) (pc' := 44) rfl (hb hby at_40) (by decide) (by decide) kk_)))) ?_
    show own_Goes p e below s (Q0 Z p1 s0 s1 s2 s3 s4 s5 s6 s7 s8 s9 s10 h0 n0) 0 0 T2 (mkF m 44 #[iv p1, iv ((p1 &&& (2147483647 : Int32)) % (11 : Int32)), rv x1_r, iv (1 : Int32)] [(.int (1 : Int32))])
    refine own_retN X2 hx hlk (t := .boolean) Bd.returns (by simp) (hb hby at_44) (by decide) (by decide) ?_
    show Q0 Z p1 s0 s1 s2 s3 s4 s5 s6 s7 s8 s9 s10 h0 n0 (some (.int (nar .boolean (1 : Int32)))) T2.heap _
    rw [eq2]
    exact ⟨rfl, N2⟩
  · refine own_st (fun _ kk_ => XS.icmpNo X1.here hx rfl (hb hby at_16) rfl (XT.ii_eq_f q0) (XS.iloadN X1.here hx rfl (hb hby at_19) rfl (XS.bipush X1.here hx rfl (hb hby at_20) kk_))) ?_
    show own_Goes p e below s (Q0 Z p1 s0 s1 s2 s3 s4 s5 s6 s7 s8 s9 s10 h0 n0) 0 0 T1 (mkF m 22 #[iv p1, iv ((p1 &&& (2147483647 : Int32)) % (11 : Int32)), rv x1_r, .unset] [(.int (10 : Int32)), (.int ((p1 &&& (2147483647 : Int32)) % (11 : Int32)))])
    rcases Classical.em (((p1 &&& (2147483647 : Int32)) % (11 : Int32)) = (10 : Int32)) with q1 | q1
    · refine own_st (fun _ kk_ => XS.icmpNo X1.here hx rfl (hb hby at_22) rfl (XT.ii_ne_f q1) (XS.iconst X1.here hx rfl (hb hby at_25) (XS.goto X1.here hx rfl (pc0 := 26) (pc' := 30) rfl (hb hby at_26) (by decide) (by decide) (XS.istoreN X1.here hx rfl (hb hby at_30) rfl (l' := #[iv p1, iv ((p1 &&& (2147483647 : Int32)) % (11 : Int32)), rv x1_r, iv (1 : Int32)]) rfl (XS.aloadN X1.here hx rfl (hb hby at_31) rfl rfl kk_))))) ?_
      show own_Goes p e below s (Q0 Z p1 s0 s1 s2 s3 s4 s5 s6 s7 s8 s9 s10 h0 n0) 0 0 T1 (mkF m 32 #[iv p1, iv ((p1 &&& (2147483647 : Int32)) % (11 : Int32)), rv x1_r, iv (1 : Int32)] [(.ref x1_r)])
      obtain ⟨cq3, kq3, q3a, q3b, q3c⟩ := isOf hZ eq1 u1_0
      obtain ⟨_, _, ⟨T3, L3, k3, n3⟩, -, X3, ⟨Lc3, hQ3, l3, y3, z3⟩, st3⟩ := X1.virtualBack hx (y := (⟨"com/example/graphbind/graphbind/PropertyType", "isZoned", "()Z"⟩ : MethodName)) (z := (⟨"com/example/graphbind/graphbind/PropertyType", "isZoned", "()Z"⟩ : MethodName)) hown (mvT hZ (hw _ (List.mem_of_getElem? (i := 8) rfl))) (mvT hZ (hw _ (List.mem_of_getElem? (i := 9) rfl))) (notFace_of_selects (args := #[]) (mvT hZ (hw _ (List.mem_of_getElem? (i := 11) rfl)))) (mvT hZ (hw _ (List.mem_of_getElem? (i := 11) rfl))) (mvT hZ (hw _ (List.mem_of_getElem? (i := 10) rfl))) (by decide) (backOf (W := 0) (rm2 l Z a0 hw [] (x1_r) (s9) (s10) h0 n0 Z0 p_9 p_10) hZ (hw _ (List.mem_of_getElem? (i := 12) rfl)) (hw _ (List.mem_of_getElem? (i := 6) rfl)) (by decide) (by decide)) q3a q3c (g := (mkF m 32 #[iv p1, iv ((p1 &&& (2147483647 : Int32)) % (11 : Int32)), rv x1_r, iv (1 : Int32)] [(.ref x1_r)])) rfl (by rw [hml]; rfl) (Steps.refl _) (argsL := []) (rest := []) (lenOf pd_1 rfl) rfl (by show 2 * 0 + _ ≤ _; exact Nat.le_of_eq rfl) (hb hby at_32) (fun _ _ => ⟨rfl, eq1, (by decide : 0 + 0 ≤ _), (by decide : 0 + 0 ≤ _)⟩)
      dsimp only [Pt.U, Pt.locs, Pt.cells, Pt.slots] at X3 l3 y3 z3 st3 hQ3
      subst l3 y3 z3
      obtain ⟨rfl, Nq3, eq3⟩ := hQ3
      have N3 := Fr.app N1 Nq3
      refine own_st (fun _ kk_ => st3.trans kk_) ?_
      show own_Goes p e below s (Q0 Z p1 s0 s1 s2 s3 s4 s5 s6 s7 s8 s9 s10 h0 n0) 0 0 T3 (mkF m 35 #[iv p1, iv ((p1 &&& (2147483647 : Int32)) % (11 : Int32)), rv x1_r, iv (1 : Int32)] [(.int (own_b (x1_r = s9 ∨ x1_r = s10)))])
      refine own_st (fun _ kk_ => XS.iloadN X3.here hx rfl (hb hby at_35) rfl (XS.icmpNo X3.here hx rfl (hb hby at_36) rfl (XT.ii_ne_f (own_b1 (own_zy u1_1 (Or.inr q1)))) (XS.iconst X3.here hx rfl (hb hby at_39) (XS.goto X3.here hx rfl (pc0 := 40) (pc' := 44) rfl (hb hby at_40) (by decide) (by decide) kk_)))) ?_
      show own_Goes p e below s (Q0 Z p1 s0 s1 s2 s3 s4 s5 s6 s7 s8 s9 s10 h0 n0) 0 0 T3 (mkF m 44 #[iv p1, iv ((p1 &&& (2147483647 : Int32)) % (11 : Int32)), rv x1_r, iv (1 : Int32)] [(.int (1 : Int32))])
      refine own_retN X3 hx hlk (t := .boolean) Bd.returns (by simp) (hb hby at_44) (by decide) (by decide) ?_
      show Q0 Z p1 s0 s1 s2 s3 s4 s5 s6 s7 s8 s9 s10 h0 n0 (some (.int (nar .boolean (1 : Int32)))) T3.heap _
      rw [eq3]
      exact ⟨rfl, N3⟩
    · refine own_st (fun _ kk_ => XS.icmpYes X1.here hx rfl (pc0 := 22) (pc' := 29) rfl (hb hby at_22) rfl (XT.ii_ne_t q1) (by decide) (by decide) (XS.iconst X1.here hx rfl (hb hby at_29) (XS.istoreN X1.here hx rfl (hb hby at_30) rfl (l' := #[iv p1, iv ((p1 &&& (2147483647 : Int32)) % (11 : Int32)), rv x1_r, iv (0 : Int32)]) rfl (XS.aloadN X1.here hx rfl (hb hby at_31) rfl rfl kk_)))) ?_
      show own_Goes p e below s (Q0 Z p1 s0 s1 s2 s3 s4 s5 s6 s7 s8 s9 s10 h0 n0) 0 0 T1 (mkF m 32 #[iv p1, iv ((p1 &&& (2147483647 : Int32)) % (11 : Int32)), rv x1_r, iv (0 : Int32)] [(.ref x1_r)])
      obtain ⟨cq4, kq4, q4a, q4b, q4c⟩ := isOf hZ eq1 u1_0
      obtain ⟨_, _, ⟨T4, L4, k4, n4⟩, -, X4, ⟨Lc4, hQ4, l4, y4, z4⟩, st4⟩ := X1.virtualBack hx (y := (⟨"com/example/graphbind/graphbind/PropertyType", "isZoned", "()Z"⟩ : MethodName)) (z := (⟨"com/example/graphbind/graphbind/PropertyType", "isZoned", "()Z"⟩ : MethodName)) hown (mvT hZ (hw _ (List.mem_of_getElem? (i := 8) rfl))) (mvT hZ (hw _ (List.mem_of_getElem? (i := 9) rfl))) (notFace_of_selects (args := #[]) (mvT hZ (hw _ (List.mem_of_getElem? (i := 11) rfl)))) (mvT hZ (hw _ (List.mem_of_getElem? (i := 11) rfl))) (mvT hZ (hw _ (List.mem_of_getElem? (i := 10) rfl))) (by decide) (backOf (W := 0) (rm2 l Z a0 hw [] (x1_r) (s9) (s10) h0 n0 Z0 p_9 p_10) hZ (hw _ (List.mem_of_getElem? (i := 12) rfl)) (hw _ (List.mem_of_getElem? (i := 6) rfl)) (by decide) (by decide)) q4a q4c (g := (mkF m 32 #[iv p1, iv ((p1 &&& (2147483647 : Int32)) % (11 : Int32)), rv x1_r, iv (0 : Int32)] [(.ref x1_r)])) rfl (by rw [hml]; rfl) (Steps.refl _) (argsL := []) (rest := []) (lenOf pd_1 rfl) rfl (by show 2 * 0 + _ ≤ _; exact Nat.le_of_eq rfl) (hb hby at_32) (fun _ _ => ⟨rfl, eq1, (by decide : 0 + 0 ≤ _), (by decide : 0 + 0 ≤ _)⟩)
      dsimp only [Pt.U, Pt.locs, Pt.cells, Pt.slots] at X4 l4 y4 z4 st4 hQ4
      subst l4 y4 z4
      obtain ⟨rfl, Nq4, eq4⟩ := hQ4
      have N4 := Fr.app N1 Nq4
      refine own_st (fun _ kk_ => st4.trans kk_) ?_
      show own_Goes p e below s (Q0 Z p1 s0 s1 s2 s3 s4 s5 s6 s7 s8 s9 s10 h0 n0) 0 0 T4 (mkF m 35 #[iv p1, iv ((p1 &&& (2147483647 : Int32)) % (11 : Int32)), rv x1_r, iv (0 : Int32)] [(.int (own_b (x1_r = s9 ∨ x1_r = s10)))])
      refine own_st (fun _ kk_ => XS.iloadN X4.here hx rfl (hb hby at_35) rfl (XS.icmpNo X4.here hx rfl (hb hby at_36) rfl (XT.ii_ne_f (own_b0 (own_zn u1_1 q0 q1))) (XS.iconst X4.here hx rfl (hb hby at_39) (XS.goto X4.here hx rfl (pc0 := 40) (pc' := 44) rfl (hb hby at_40) (by decide) (by decide) kk_)))) ?_
      show own_Goes p e below s (Q0 Z p1 s0 s1 s2 s3 s4 s5 s6 s7 s8 s9 s10 h0 n0) 0 0 T4 (mkF m 44 #[iv p1, iv ((p1 &&& (2147483647 : Int32)) % (11 : Int32)), rv x1_r, iv (0 : Int32)] [(.int (1 : Int32))])
      refine own_retN X4 hx hlk (t := .boolean) Bd.returns (by simp) (hb hby at_44) (by decide) (by decide) ?_
      show Q0 Z p1 s0 s1 s2 s3 s4 s5 s6 s7 s8 s9 s10 h0 n0 (some (.int (nar .boolean (1 : Int32)))) T4.heap _
      rw [eq4]
      exact ⟨rfl, N4⟩
set_option maxRecDepth 65536 in
set_option maxHeartbeats 40000000 in
theorem comes_1 {Post : Tables → Env → Array Value → State → Outcome → State → Prop} (hpost : ∀ tb e args s v u, (limb_1_1.after args s (.returned v) u = true ∧ limb_1_2.after args s (.returned v) u = true ∧ True) → FrameEnd s (.returned v) u (Jvm.fieldLocs frame_1_writes args s ++ Jvm.arrayLocs frame_1_arrays args s ++ Jvm.staticLocs frame_1_statics s) 0 0 → Post tb e args s (.returned v) u) :
    ArmFor flags0 classFile x code maxLocals ret World_1 tables_1 room_1 Calls_1 rest_1 Pre_1 Post := by
  intro l hfl _ _ p e ha hc hk s m args below hf hA hF happ hP
  obtain ⟨hcalls, hrest, hpre⟩ := hP
  obtain ⟨-, -, -, hnamed, -, -, -, hat⟩ := (Spec.applies_iff hf).mp happ
  obtain ⟨hg, hn⟩ := and_e (Cond.before_iff.mp (show (Jvm.Cond.and given_1 narrow_1).before args s = true from hpre))
  obtain ⟨h1, g0⟩ := and_e hg
  obtain ⟨w0, rfl⟩ : ∃ w0 : Value, args = #[w0] := by
    have hs : args.size = 1 := by simpa [Cond.value, given_1] using h1
    obtain ⟨L⟩ := args
    match L, hs with
    | [w0], _ => exact ⟨w0, rfl⟩
  have hw := fun d (hd : d ∈ tables_1) => atoms_spec (ws := Jvm.Cond.code x code maxLocals ret :: tables_1) hat d (List.mem_cons_of_mem _ hd)
  have hfit : Fit s := fun {y c} hc i hi => by
    obtain ⟨ha, rfl⟩ := Array.getElem?_eq_some_iff.mp hc
    have q := List.all_eq_true.mp ((Array.all_eq_true_iff_forall_mem.mp hF) _ (Array.getElem_mem ha)) i (List.mem_range.mpr hi)
    simpa [Array.getElem?_eq_getElem hi] using q
  obtain ⟨i0, e0⟩ := is_v g0
  obtain rfl : w0 = (.int i0) := Option.some.inj e0
  obtain ⟨c0, r0⟩ := and_e hn
  obtain ⟨c1, r1⟩ := and_e r0
  obtain ⟨c2, r2⟩ := and_e r1
  obtain ⟨c3, r3⟩ := and_e r2
  obtain ⟨c4, r4⟩ := and_e r3
  obtain ⟨c5, r5⟩ := and_e r4
  obtain ⟨c6, r6⟩ := and_e r5
  obtain ⟨c7, r7⟩ := and_e r6
  obtain ⟨c8, r8⟩ := and_e r7
  obtain ⟨c9, r9⟩ := and_e r8
  obtain ⟨c10, r10⟩ := and_e r9
  obtain ⟨c11, r11⟩ := and_e r10
  obtain ⟨c12, r12⟩ := and_e r11
  obtain ⟨c13, r13⟩ := and_e r12
  obtain ⟨c14, r14⟩ := and_e r13
  obtain ⟨c15, r15⟩ := and_e r14
  obtain ⟨c16, r16⟩ := and_e r15
  obtain ⟨c17, r17⟩ := and_e r16
  obtain ⟨c18, r18⟩ := and_e r17
  obtain ⟨c19, r19⟩ := and_e r18
  obtain ⟨c20, r20⟩ := and_e r19
  have c21 := r20
  obtain ⟨s_BOOLEAN, ev_BOOLEAN⟩ := exa_v c0
  have Ex_BOOLEAN : Exa s s.heap s_BOOLEAN "com/example/graphbind/graphbind/PropertyType" := Exa.start ev_BOOLEAN c0
  have St_BOOLEAN : Sta s s.heap "com/example/graphbind/graphbind/PropertyType" "BOOLEAN" "Lcom/example/graphbind/graphbind/PropertyType;" (.ref s_BOOLEAN) := Sta.start ev_BOOLEAN (Or.inr ⟨(hw _ (List.mem_of_getElem? (i := 6) rfl)), (hw _ (List.mem_of_getElem? (i := 7) rfl))⟩)
  obtain ⟨s_TIME_WITH_TIMEZONE, ev_TIME_WITH_TIMEZONE⟩ := exa_v c1
  have Ex_TIME_WITH_TIMEZONE : Exa s s.heap s_TIME_WITH_TIMEZONE "com/example/graphbind/graphbind/PropertyType" := Exa.start ev_TIME_WITH_TIMEZONE c1
  have St_TIME_WITH_TIMEZONE : Sta s s.heap "com/example/graphbind/graphbind/PropertyType" "TIME_WITH_TIMEZONE" "Lcom/example/graphbind/graphbind/PropertyType;" (.ref s_TIME_WITH_TIMEZONE) := Sta.start ev_TIME_WITH_TIMEZONE (Or.inr ⟨(hw _ (List.mem_of_getElem? (i := 6) rfl)), (hw _ (List.mem_of_getElem? (i := 14) rfl))⟩)
  obtain ⟨s_TIMESTAMP_WITH_TIMEZONE, ev_TIMESTAMP_WITH_TIMEZONE⟩ := exa_v c4
  have Ex_TIMESTAMP_WITH_TIMEZONE : Exa s s.heap s_TIMESTAMP_WITH_TIMEZONE "com/example/graphbind/graphbind/PropertyType" := Exa.start ev_TIMESTAMP_WITH_TIMEZONE c4
  have St_TIMESTAMP_WITH_TIMEZONE : Sta s s.heap "com/example/graphbind/graphbind/PropertyType" "TIMESTAMP_WITH_TIMEZONE" "Lcom/example/graphbind/graphbind/PropertyType;" (.ref s_TIMESTAMP_WITH_TIMEZONE) := Sta.start ev_TIMESTAMP_WITH_TIMEZONE (Or.inr ⟨(hw _ (List.mem_of_getElem? (i := 6) rfl)), (hw _ (List.mem_of_getElem? (i := 16) rfl))⟩)
  obtain ⟨s_FLOAT, ev_FLOAT⟩ := exa_v c6
  have Ex_FLOAT : Exa s s.heap s_FLOAT "com/example/graphbind/graphbind/PropertyType" := Exa.start ev_FLOAT c6
  have St_FLOAT : Sta s s.heap "com/example/graphbind/graphbind/PropertyType" "FLOAT" "Lcom/example/graphbind/graphbind/PropertyType;" (.ref s_FLOAT) := Sta.start ev_FLOAT (Or.inr ⟨(hw _ (List.mem_of_getElem? (i := 6) rfl)), (hw _ (List.mem_of_getElem? (i := 18) rfl))⟩)
  obtain ⟨s_TIME, ev_TIME⟩ := exa_v c8
  have Ex_TIME : Exa s s.heap s_TIME "com/example/graphbind/graphbind/PropertyType" := Exa.start ev_TIME c8
  have St_TIME : Sta s s.heap "com/example/graphbind/graphbind/PropertyType" "TIME" "Lcom/example/graphbind/graphbind/PropertyType;" (.ref s_TIME) := Sta.start ev_TIME (Or.inr ⟨(hw _ (List.mem_of_getElem? (i := 6) rfl)), (hw _ (List.mem_of_getElem? (i := 20) rfl))⟩)
  obtain ⟨s_TIMESTAMP, ev_TIMESTAMP⟩ := exa_v c10
  have Ex_TIMESTAMP : Exa s s.heap s_TIMESTAMP "com/example/graphbind/graphbind/PropertyType" := Exa.start ev_TIMESTAMP c10
  have St_TIMESTAMP : Sta s s.heap "com/example/graphbind/graphbind/PropertyType" "TIMESTAMP" "Lcom/example/graphbind/graphbind/PropertyType;" (.ref s_TIMESTAMP) := Sta.start ev_TIMESTAMP (Or.inr ⟨(hw _ (List.mem_of_getElem? (i := 6) rfl)), (hw _ (List.mem_of_getElem? (i := 22) rfl))⟩)
  obtain ⟨s_LONG, ev_LONG⟩ := exa_v c12
  have Ex_LONG : Exa s s.heap s_LONG "com/example/graphbind/graphbind/PropertyType" := Exa.start ev_LONG c12
  have St_LONG : Sta s s.heap "com/example/graphbind/graphbind/PropertyType" "LONG" "Lcom/example/graphbind/graphbind/PropertyType;" (.ref s_LONG) := Sta.start ev_LONG (Or.inr ⟨(hw _ (List.mem_of_getElem? (i := 6) rfl)), (hw _ (List.mem_of_getElem? (i := 24) rfl))⟩)
  obtain ⟨s_INTEGER, ev_INTEGER⟩ := exa_v c14
  have Ex_INTEGER : Exa s s.heap s_INTEGER "com/example/graphbind/graphbind/PropertyType" := Exa.start ev_INTEGER c14
  have St_INTEGER : Sta s s.heap "com/example/graphbind/graphbind/PropertyType" "INTEGER" "Lcom/example/graphbind/graphbind/PropertyType;" (.ref s_INTEGER) := Sta.start ev_INTEGER (Or.inr ⟨(hw _ (List.mem_of_getElem? (i := 6) rfl)), (hw _ (List.mem_of_getElem? (i := 27) rfl))⟩)
  obtain ⟨s_STRING, ev_STRING⟩ := exa_v c16
  have Ex_STRING : Exa s s.heap s_STRING "com/example/graphbind/graphbind/PropertyType" := Exa.start ev_STRING c16
  have St_STRING : Sta s s.heap "com/example/graphbind/graphbind/PropertyType" "STRING" "Lcom/example/graphbind/graphbind/PropertyType;" (.ref s_STRING) := Sta.start ev_STRING (Or.inr ⟨(hw _ (List.mem_of_getElem? (i := 6) rfl)), (hw _ (List.mem_of_getElem? (i := 30) rfl))⟩)
  obtain ⟨s_LOCAL_DATE, ev_LOCAL_DATE⟩ := exa_v c18
  have Ex_LOCAL_DATE : Exa s s.heap s_LOCAL_DATE "com/example/graphbind/graphbind/PropertyType" := Exa.start ev_LOCAL_DATE c18
  have St_LOCAL_DATE : Sta s s.heap "com/example/graphbind/graphbind/PropertyType" "LOCAL_DATE" "Lcom/example/graphbind/graphbind/PropertyType;" (.ref s_LOCAL_DATE) := Sta.start ev_LOCAL_DATE (Or.inr ⟨(hw _ (List.mem_of_getElem? (i := 6) rfl)), (hw _ (List.mem_of_getElem? (i := 32) rfl))⟩)
  obtain ⟨s_DOUBLE, ev_DOUBLE⟩ := exa_v c20
  have Ex_DOUBLE : Exa s s.heap s_DOUBLE "com/example/graphbind/graphbind/PropertyType" := Exa.start ev_DOUBLE c20
  have St_DOUBLE : Sta s s.heap "com/example/graphbind/graphbind/PropertyType" "DOUBLE" "Lcom/example/graphbind/graphbind/PropertyType;" (.ref s_DOUBLE) := Sta.start ev_DOUBLE (Or.inr ⟨(hw _ (List.mem_of_getElem? (i := 6) rfl)), (hw _ (List.mem_of_getElem? (i := 34) rfl))⟩)
  have Or_BOOLEAN := own_ord ev_BOOLEAN c2
  have Or_TIME_WITH_TIMEZONE := own_ord ev_TIME_WITH_TIMEZONE c3
  have Or_TIMESTAMP_WITH_TIMEZONE := own_ord ev_TIMESTAMP_WITH_TIMEZONE c5
  have Or_FLOAT := own_ord ev_FLOAT c7
  have Or_TIME := own_ord ev_TIME c9
  have Or_TIMESTAMP := own_ord ev_TIMESTAMP c11
  have Or_LONG := own_ord ev_LONG c13
  have Or_INTEGER := own_ord ev_INTEGER c15
  have Or_STRING := own_ord ev_STRING c17
  have Or_LOCAL_DATE := own_ord ev_LOCAL_DATE c19
  have Or_DOUBLE := own_ord ev_DOUBLE c21
  obtain ⟨n, o, h1, h2, h3, _, L, rfl, ⟨rfl, N⟩, hq⟩ := rm0 l s _ hw tables_1 i0 s_BOOLEAN s_INTEGER s_LONG s_FLOAT s_DOUBLE s_STRING s_LOCAL_DATE s_TIME s_TIMESTAMP s_TIME_WITH_TIMEZONE s_TIMESTAMP_WITH_TIMEZONE s.heap s.heap.size (Nat.le_refl _) St_BOOLEAN St_INTEGER St_LONG St_FLOAT St_DOUBLE St_STRING St_LOCAL_DATE St_TIME St_TIMESTAMP St_TIME_WITH_TIMEZONE St_TIMESTAMP_WITH_TIMEZONE Ex_BOOLEAN Ex_INTEGER Ex_LONG Ex_FLOAT Ex_DOUBLE Ex_STRING Ex_LOCAL_DATE Ex_TIME Ex_TIMESTAMP Ex_TIME_WITH_TIMEZONE Ex_TIMESTAMP_WITH_TIMEZONE (Fld.ne Or_BOOLEAN Or_TIME_WITH_TIMEZONE (by decide)) (Fld.ne Or_BOOLEAN Or_TIMESTAMP_WITH_TIMEZONE (by decide)) (Fld.ne Or_INTEGER Or_TIME_WITH_TIMEZONE (by decide)) (Fld.ne Or_INTEGER Or_TIMESTAMP_WITH_TIMEZONE (by decide)) (Fld.ne Or_LONG Or_TIME_WITH_TIMEZONE (by decide)) (Fld.ne Or_LONG Or_TIMESTAMP_WITH_TIMEZONE (by decide)) (Fld.ne Or_FLOAT Or_TIME_WITH_TIMEZONE (by decide)) (Fld.ne Or_FLOAT Or_TIMESTAMP_WITH_TIMEZONE (by decide)) (Fld.ne Or_DOUBLE Or_TIME_WITH_TIMEZONE (by decide)) (Fld.ne Or_DOUBLE Or_TIMESTAMP_WITH_TIMEZONE (by decide)) (Fld.ne Or_STRING Or_TIME_WITH_TIMEZONE (by decide)) (Fld.ne Or_STRING Or_TIMESTAMP_WITH_TIMEZONE (by decide)) (Fld.ne Or_LOCAL_DATE Or_TIME_WITH_TIMEZONE (by decide)) (Fld.ne Or_LOCAL_DATE Or_TIMESTAMP_WITH_TIMEZONE (by decide)) (Fld.ne Or_TIME Or_TIME_WITH_TIMEZONE (by decide)) (Fld.ne Or_TIME Or_TIMESTAMP_WITH_TIMEZONE (by decide)) (Fld.ne Or_TIMESTAMP Or_TIME_WITH_TIMEZONE (by decide)) (Fld.ne Or_TIMESTAMP Or_TIMESTAMP_WITH_TIMEZONE (by decide)) (Fld.ne Or_TIME_WITH_TIMEZONE Or_TIMESTAMP_WITH_TIMEZONE (by decide)) p e ha hc hk s m _ below hf ((Spec.applies_iff_loose hf).mp happ).1 ⟨rfl, State.Warmed39.refl s, rfl⟩ trivial
  refine ⟨n, _, h1, h2, h3, hpost _ _ _ _ _ _ ⟨Cond.after_iff.mpr rfl, Cond.after_iff.mpr (eq_i res_at (Term.int_eval (1)) rfl), trivial⟩ ⟨hq.1, hq.2.1, (hq.2.2.sift fun y hy => Or.inr (N y hy)).mono (by decide) (by decide)⟩⟩
theorem main_1_1 : Claimed_1_1 := comes_1 fun _ _ _ _ _ _ h hF => ⟨h.1, hF⟩
theorem main_1_2 : Claimed_1_2 := comes_1 fun _ _ _ _ _ _ h hF => ⟨h.2.1, hF⟩
end Jvm.Pilot.@@N@@
namespace Jvm.Pilot.@@N@@
open Jvm Jvm.ClassFile Sem Op Lib Jvm.Free Jvm.Stand Jvm.Pilot.@@N@@.Jvm.D
/-! MADE BY PROGRAM (witnessworld.py) out of the Statement's table words and the real class files: 12 classes; the members and pool entries that the words name. The judged class is class 1, her method 2. -/
namespace start1
open Jvm.ClassFile
def u (s : String) : CpInfo := .utf8 (stringToUtf16 s)
/-- a pool by its gaps: so many unusable entries, then the entry; so many at the end -/
def gap : Nat → List CpInfo → List CpInfo
  | 0, r => r
  | n + 1, r => .unusable :: gap n r
def poolList (es : List (Nat × CpInfo)) (last : Nat) : List CpInfo := es.foldr (fun e r => gap e.1 (e.2 :: r)) (gap last [])
def pool (es : List (Nat × CpInfo)) (last : Nat) : Array CpInfo := ⟨poolList es last⟩
def fileOf (pool : Array CpInfo) (this : Nat) (attrs : Array Attribute := #[]) (ms : Array MethodInfo := #[]) (fl : Nat := 33) (sup : Nat := 0) (ifs : Array Nat := #[]) (fds : Array FieldInfo := #[]) : ClassFile where
  minorVersion := 0
  majorVersion := 65
  constantPool := pool
  accessFlags := fl
  thisClass := this
  superClass := sup
  interfaces := ifs
  fields := fds
  methods := ms
  attributes := attrs
def plain (name : String) (sup : Option ClassId) : Class where
  name := name
  kind := .ordinary
  loader := none
  accessFlags := 33
  super := sup
  interfaces := #[]
  cf := none
  fields := #[]
  methods := #[]
  instanceTypes := #[]
  staticTypes := #[]
  resolved := #[]
  callSites := []
  init := .initialized
  statics := none
  mirror := none

def pool0 : Array CpInfo := pool [(5, u "<init>"), (0, u "()V"), (1, .class_ 10), (1, u "java/lang/Object")] 113

def k0m0 : Method := { name := "<init>", desc := "()V", sig := { parameters := [], returnType := none }, accessFlags := 1, code := none }
/-- java/lang/Object -/
def k0 : Class := { plain "java/lang/Object" none with
  accessFlags := 33
  interfaces := #[]
  cf := some (fileOf pool0 8 #[] #[{ accessFlags := 1, nameIndex := 5, descriptorIndex := 6, attributes := #[] }] 33 0 #[] #[])
  fields := #[]
  methods := #[k0m0]
  instanceTypes := #[]
  staticTypes := #[]
  resolved := Array.replicate 124 none
  statics := none }

def pool1 : Array CpInfo := pool [(2, .class_ 4), (1, u "java/lang/Object"), (0, u "<init>"), (0, u "()V"), (0, .fieldref 8 9), (0, .class_ 10), (0, .nameAndType 11 12), (0, u "com/example/graphbind/graphbind/PropertyType"), (0, u "BOOLEAN"), (0, u "Lcom/example/graphbind/graphbind/PropertyType;"), (0, .fieldref 8 14), (0, .nameAndType 15 12), (0, u "INTEGER"), (0, .fieldref 8 17), (0, .nameAndType 18 12), (0, u "LONG"), (0, .fieldref 8 20), (0, .nameAndType 21 12), (0, u "FLOAT"), (0, .fieldref 8 23), (0, .nameAndType 24 12), (0, u "DOUBLE"), (0, .fieldref 8 26), (0, .nameAndType 27 12), (0, u "STRING"), (0, .fieldref 8 29), (0, .nameAndType 30 12), (0, u "LOCAL_DATE"), (0, .fieldref 8 32), (0, .nameAndType 33 12), (0, u "TIME"), (0, .fieldref 8 35), (0, .nameAndType 36 12), (0, u "TIMESTAMP"), (0, .fieldref 8 38), (0, .nameAndType 39 12), (0, u "TIME_WITH_TIMEZONE"), (0, .fieldref 8 41), (0, .nameAndType 42 12), (0, u "TIMESTAMP_WITH_TIMEZONE"), (0, .integer 2147483647), (0, .methodref 45 46), (0, .class_ 47), (0, .nameAndType 48 49), (0, u "com/example/graphbind/graphbind/PropertyTypeIsZonedPinLaw"), (0, u "pick"), (0, u "(I)Lcom/example/graphbind/graphbind/PropertyType;"), (0, .methodref 8 51), (0, .nameAndType 52 53), (0, u "isZoned"), (0, u "()Z"), (3, u "law"), (0, u "(I)Z")] 2

def k1m0 : Method := { name := "<init>", desc := "()V", sig := { parameters := [], returnType := none }, accessFlags := 1, code := none }
def k1c1 : Code := { maxStack := 2, maxLocals := 1, code := method_2_code, exceptionTable := #[], attributes := #[] }
def k1m1 : Method := { name := "pick", desc := "(I)Lcom/example/graphbind/graphbind/PropertyType;", sig := { parameters := [.int], returnType := some (.object "com/example/graphbind/graphbind/PropertyType") }, accessFlags := 10, code := some k1c1 }
def k1c2 : Code := { maxStack := 2, maxLocals := 4, code := code, exceptionTable := #[], attributes := #[] }
def k1m2 : Method := { name := "law", desc := "(I)Z", sig := { parameters := [.int], returnType := some .boolean }, accessFlags := 9, code := some k1c2 }
/-- com/example/graphbind/graphbind/PropertyTypeIsZonedPinLaw -/
def k1 : Class := { plain "com/example/graphbind/graphbind/PropertyTypeIsZonedPinLaw" (some 0) with
  accessFlags := 49
  interfaces := #[]
  cf := some (fileOf pool1 45 #[] #[{ accessFlags := 1, nameIndex := 5, descriptorIndex := 6, attributes := #[] }, { accessFlags := 10, nameIndex := 48, descriptorIndex := 49, attributes := #[] }, { accessFlags := 9, nameIndex := 57, descriptorIndex := 58, attributes := #[] }] 49 2 #[] #[])
  fields := #[]
  methods := #[k1m0, k1m1, k1m2]
  instanceTypes := #[]
  staticTypes := #[]
  resolved := Array.replicate 61 none
  statics := none }

def pool2 : Array CpInfo := pool [(1, .class_ 2), (0, u "java/lang/constant/Constable"), (0, .class_ 4), (0, u "java/lang/Object")] 6

/-- java/lang/constant/Constable -/
def k2 : Class := { plain "java/lang/constant/Constable" (some 0) with
  accessFlags := 1537
  interfaces := #[]
  cf := some (fileOf pool2 1 #[] #[] 1537 3 #[] #[])
  fields := #[]
  methods := #[]
  instanceTypes := #[]
  staticTypes := #[]
  resolved := Array.replicate 11 none
  statics := none }

def pool3 : Array CpInfo := pool [(1, .class_ 2), (0, u "java/lang/Comparable"), (0, .class_ 4), (0, u "java/lang/Object")] 7

/-- java/lang/Comparable -/
def k3 : Class := { plain "java/lang/Comparable" (some 0) with
  accessFlags := 1537
  interfaces := #[]
  cf := some (fileOf pool3 1 #[] #[] 1537 3 #[] #[])
  fields := #[]
  methods := #[]
  instanceTypes := #[]
  staticTypes := #[]
  resolved := Array.replicate 12 none
  statics := none }

def pool4 : Array CpInfo := pool [(1, .class_ 2), (0, u "java/io/Serializable"), (0, .class_ 4), (0, u "java/lang/Object")] 2

/-- java/io/Serializable -/
def k4 : Class := { plain "java/io/Serializable" (some 0) with
  accessFlags := 1537
  interfaces := #[]
  cf := some (fileOf pool4 1 #[] #[] 1537 3 #[] #[])
  fields := #[]
  methods := #[]
  instanceTypes := #[]
  staticTypes := #[]
  resolved := Array.replicate 7 none
  statics := none }

def pool5 : Array CpInfo := pool [(2, .class_ 4), (1, u "java/lang/Enum"), (0, u "name"), (0, u "Ljava/lang/String;"), (2, u "ordinal"), (0, u "I"), (1, .class_ 14), (1, u "java/lang/Object"), (4, u "hash"), (86, .class_ 108), (1, u "java/lang/Enum$EnumDesc"), (2, .class_ 112), (0, u "java/lang/constant/Constable"), (0, .class_ 114), (0, u "java/lang/Comparable"), (0, .class_ 116), (0, u "java/io/Serializable")] 87

/-- java/lang/Enum -/
def k5 : Class := { plain "java/lang/Enum" (some 0) with
  accessFlags := 1057
  interfaces := #[2, 3, 4]
  cf := some (fileOf pool5 2 #[.nestMembers #[106]] #[] 1057 12 #[111, 113, 115] #[{ accessFlags := 18, nameIndex := 5, descriptorIndex := 6, attributes := #[] }, { accessFlags := 18, nameIndex := 9, descriptorIndex := 10, attributes := #[] }, { accessFlags := 2, nameIndex := 19, descriptorIndex := 10, attributes := #[] }])
  fields := #[{ name := "name", type := (.object "java/lang/String"), accessFlags := 18, slot := 0, constantValue := 0 }, { name := "ordinal", type := .int, accessFlags := 18, slot := 1, constantValue := 0 }, { name := "hash", type := .int, accessFlags := 2, slot := 2, constantValue := 0 }]
  methods := #[]
  instanceTypes := #[(.object "java/lang/String"), .int, .int]
  staticTypes := #[]
  resolved := Array.replicate 204 none
  statics := none }

def pool6 : Array CpInfo := pool [(1, .class_ 2), (0, u "com/example/graphbind/graphbind/PropertyType"), (2, u "BOOLEAN"), (0, u "Lcom/example/graphbind/graphbind/PropertyType;"), (2, u "INTEGER"), (2, u "LONG"), (2, u "FLOAT"), (2, u "DOUBLE"), (2, u "STRING"), (2, u "LOCAL_DATE"), (2, u "TIME"), (2, u "TIMESTAMP"), (0, .fieldref 1 32), (0, .nameAndType 33 6), (0, u "TIME_WITH_TIMEZONE"), (0, .fieldref 1 35), (0, .nameAndType 36 6), (0, u "TIMESTAMP_WITH_TIMEZONE"), (2, u "$VALUES"), (0, u "[Lcom/example/graphbind/graphbind/PropertyType;"), (6, .class_ 49), (1, u "java/lang/Enum"), (8, u "word"), (0, u "Ljava/lang/String;"), (58, u "()Z"), (1, u "isZoned")] 5

def k6c0 : Code := { maxStack := 2, maxLocals := 1, code := prog_66_method_6_code, exceptionTable := #[], attributes := #[] }
def k6m0 : Method := { name := "isZoned", desc := "()Z", sig := { parameters := [], returnType := some .boolean }, accessFlags := 0, code := some k6c0 }
/-- com/example/graphbind/graphbind/PropertyType -/
def k6 : Class := { plain "com/example/graphbind/graphbind/PropertyType" (some 5) with
  accessFlags := 16433
  interfaces := #[]
  cf := some (fileOf pool6 1 #[] #[{ accessFlags := 0, nameIndex := 120, descriptorIndex := 118, attributes := #[] }] 16433 47 #[] #[{ accessFlags := 16409, nameIndex := 5, descriptorIndex := 6, attributes := #[] }, { accessFlags := 16409, nameIndex := 9, descriptorIndex := 6, attributes := #[] }, { accessFlags := 16409, nameIndex := 12, descriptorIndex := 6, attributes := #[] }, { accessFlags := 16409, nameIndex := 15, descriptorIndex := 6, attributes := #[] }, { accessFlags := 16409, nameIndex := 18, descriptorIndex := 6, attributes := #[] }, { accessFlags := 16409, nameIndex := 21, descriptorIndex := 6, attributes := #[] }, { accessFlags := 16409, nameIndex := 24, descriptorIndex := 6, attributes := #[] }, { accessFlags := 16409, nameIndex := 27, descriptorIndex := 6, attributes := #[] }, { accessFlags := 16409, nameIndex := 30, descriptorIndex := 6, attributes := #[] }, { accessFlags := 16409, nameIndex := 33, descriptorIndex := 6, attributes := #[] }, { accessFlags := 16409, nameIndex := 36, descriptorIndex := 6, attributes := #[] }, { accessFlags := 18, nameIndex := 58, descriptorIndex := 59, attributes := #[] }, { accessFlags := 4122, nameIndex := 39, descriptorIndex := 40, attributes := #[] }])
  fields := #[{ name := "BOOLEAN", type := (.object "com/example/graphbind/graphbind/PropertyType"), accessFlags := 16409, slot := 0, constantValue := 0 }, { name := "INTEGER", type := (.object "com/example/graphbind/graphbind/PropertyType"), accessFlags := 16409, slot := 1, constantValue := 0 }, { name := "LONG", type := (.object "com/example/graphbind/graphbind/PropertyType"), accessFlags := 16409, slot := 2, constantValue := 0 }, { name := "FLOAT", type := (.object "com/example/graphbind/graphbind/PropertyType"), accessFlags := 16409, slot := 3, constantValue := 0 }, { name := "DOUBLE", type := (.object "com/example/graphbind/graphbind/PropertyType"), accessFlags := 16409, slot := 4, constantValue := 0 }, { name := "STRING", type := (.object "com/example/graphbind/graphbind/PropertyType"), accessFlags := 16409, slot := 5, constantValue := 0 }, { name := "LOCAL_DATE", type := (.object "com/example/graphbind/graphbind/PropertyType"), accessFlags := 16409, slot := 6, constantValue := 0 }, { name := "TIME", type := (.object "com/example/graphbind/graphbind/PropertyType"), accessFlags := 16409, slot := 7, constantValue := 0 }, { name := "TIMESTAMP", type := (.object "com/example/graphbind/graphbind/PropertyType"), accessFlags := 16409, slot := 8, constantValue := 0 }, { name := "TIME_WITH_TIMEZONE", type := (.object "com/example/graphbind/graphbind/PropertyType"), accessFlags := 16409, slot := 9, constantValue := 0 }, { name := "TIMESTAMP_WITH_TIMEZONE", type := (.object "com/example/graphbind/graphbind/PropertyType"), accessFlags := 16409, slot := 10, constantValue := 0 }, { name := "word", type := (.object "java/lang/String"), accessFlags := 18, slot := 3, constantValue := 0 }, { name := "$VALUES", type := (.array (.object "com/example/graphbind/graphbind/PropertyType")), accessFlags := 4122, slot := 11, constantValue := 0 }]
  methods := #[k6m0]
  instanceTypes := #[(.object "java/lang/String"), .int, .int, (.object "java/lang/String")]
  staticTypes := #[(.object "com/example/graphbind/graphbind/PropertyType"), (.object "com/example/graphbind/graphbind/PropertyType"), (.object "com/example/graphbind/graphbind/PropertyType"), (.object "com/example/graphbind/graphbind/PropertyType"), (.object "com/example/graphbind/graphbind/PropertyType"), (.object "com/example/graphbind/graphbind/PropertyType"), (.object "com/example/graphbind/graphbind/PropertyType"), (.object "com/example/graphbind/graphbind/PropertyType"), (.object "com/example/graphbind/graphbind/PropertyType"), (.object "com/example/graphbind/graphbind/PropertyType"), (.object "com/example/graphbind/graphbind/PropertyType"), (.array (.object "com/example/graphbind/graphbind/PropertyType"))]
  resolved := Array.replicate 126 none
  statics := some 0 }

def pool7 : Array CpInfo := pool [(1, u "java/lang/Cloneable"), (0, .class_ 1), (0, u "java/lang/Object"), (0, .class_ 3)] 3

/-- java/lang/Cloneable -/
def k7 : Class := { plain "java/lang/Cloneable" (some 0) with
  accessFlags := 1537
  interfaces := #[]
  cf := some (fileOf pool7 2 #[] #[] 1537 4 #[] #[])
  fields := #[]
  methods := #[]
  instanceTypes := #[]
  staticTypes := #[]
  resolved := Array.replicate 8 none
  statics := none }

/-- the primitive byte -/
def k8 : Class := { plain "byte" none with kind := .primitive 'B', accessFlags := 0x411 }
/-- [B -/
def k9 : Class := { plain "[B" (some 0) with kind := .array 8 .byte, interfaces := #[7, 4], accessFlags := 1041 }

/-- the primitive int -/
def k10 : Class := { plain "int" none with kind := .primitive 'I', accessFlags := 0x411 }
/-- [I -/
def k11 : Class := { plain "[I" (some 0) with kind := .array 10 .int, interfaces := #[7, 4], accessFlags := 1041 }

def heap : Heap := #[{ cls := 6, slots := #[.ref 1, .ref 2, .ref 3, .ref 4, .ref 5, .ref 6, .ref 7, .ref 8, .ref 9, .ref 10, .ref 11, .null], vm := .statics 6 },
  { cls := 6, slots := #[.null, .int 0, .int 0, .null], vm := .none },
  { cls := 6, slots := #[.null, .int 1, .int 0, .null], vm := .none },
  { cls := 6, slots := #[.null, .int 2, .int 0, .null], vm := .none },
  { cls := 6, slots := #[.null, .int 3, .int 0, .null], vm := .none },
  { cls := 6, slots := #[.null, .int 4, .int 0, .null], vm := .none },
  { cls := 6, slots := #[.null, .int 5, .int 0, .null], vm := .none },
  { cls := 6, slots := #[.null, .int 6, .int 0, .null], vm := .none },
  { cls := 6, slots := #[.null, .int 7, .int 0, .null], vm := .none },
  { cls := 6, slots := #[.null, .int 8, .int 0, .null], vm := .none },
  { cls := 6, slots := #[.null, .int 9, .int 0, .null], vm := .none },
  { cls := 6, slots := #[.null, .int 10, .int 0, .null], vm := .none }]
def classes : Array Class := #[k0, k1, k2, k3, k4, k5, k6, k7, k8, k9, k10, k11]
def interned : List (Array UInt16 × Addr) := []
def slotsUsed : Nat := 56
def theMethod : MethodId := ⟨1, 2⟩
def args0 : Array Value := #[.int 5]
def aboutOver (below : List Frame) : State where
  vm := { classes := classes, interned := interned.toArray }
  heap := heap
  slotsUsed := slotsUsed
  threads := #[{ frames := .invoking theMethod args0 :: below }]
def below0 : List Frame := [.native { method := ⟨0, 0⟩, args := #[] }]
def about1 : State := aboutOver below0
def p0 : Program := .bare "" "" ""
def e0 : Env := launch0.env 0 0 0
theorem w_frames : about1.frames = Frame.invoking theMethod args0 :: below0 := rfl
set_option maxRecDepth 65536 in
theorem w_args : argsFit about1.vm theMethod args0 = true := by decide +kernel
set_option maxRecDepth 65536 in
theorem w_heap : heapFits about1 = true := by decide +kernel
set_option maxRecDepth 65536 in
theorem w_runnable : about1.curStatus? = some .runnable := by decide +kernel
set_option maxRecDepth 65536 in
theorem w_alone : about1.alone = true := by decide +kernel
set_option maxRecDepth 65536 in
theorem w_named : about1.methodNamed? x = some theMethod := by decide +kernel
set_option maxRecDepth 65536 in
theorem w_hears : about1.hears theMethod below0 = true := by decide +kernel
set_option maxRecDepth 65536 in
theorem w_ripe : about1.ripe theMethod args0 below0 = true := by decide +kernel
theorem w_running : about1.status = .running := rfl
set_option maxRecDepth 65536 in
theorem w_room : about1.hasRoom e0.platform room_1 = true :=
  launch0.hasRoom_least _ room_1 (by decide +kernel) (by decide +kernel) (by decide +kernel) (by decide +kernel) (by decide +kernel) (by decide +kernel)
theorem allAtoms_all (ts : List Jvm.Cond) (a : Array Jvm.Value) (st : Jvm.State) : (allAtoms ts).before a st = ts.all (fun c => c.before a st) := by
  induction ts with
  | nil => rfl
  | cons c t ih =>
    show (Jvm.Cond.and c (allAtoms t)).before a st = _
    rw [Jvm.Cond.before_and, ih, List.all_cons]
def words1 : List Jvm.Cond := Jvm.Cond.code x code maxLocals ret :: tables_1
/-- a 'code' word, met by the world's own term for the bytes: nothing is compared byte by byte -/
theorem code_word {y : MethodName} {bytes : ByteArray} {mx : Nat} {rt : Option FieldType} {a : Array Value} {s : State} {m : MethodId} {meth : Method} {c : Code} (h1 : s.methodNamed? y = some m) (h2 : s.vm.method? m = some meth) (h3 : meth.code = some c) (h4 : c.code = bytes)
    (h5 : (c.maxLocals == mx && c.exceptionTable.isEmpty && decide (c.maxStack ≤ mostOperands) && decide (meth.sig.returnType = rt) && !meth.locks && decide (parseMethodDescriptor y.desc = some meth.sig)) = true) : (Jvm.Cond.code y bytes mx rt).before a s = true := by
  simp only [Bool.and_eq_true, beq_iff_eq, Bool.not_eq_true', decide_eq_true_eq] at h5
  obtain ⟨⟨⟨⟨⟨g1, g2⟩, g3⟩, g4⟩, g5⟩, g6⟩ := h5
  simp [Cond.before, Cond.holds, Cond.value, h1, h2, h3, h4, g1, g2, g3, g4, g5, g6]
def isCode : Jvm.Cond → Bool
  | .code _ _ _ _ => true
  | _ => false
theorem all_split {L : List Jvm.Cond} {P : Jvm.Cond → Bool} (h1 : L.all (fun c => isCode c || P c) = true) (h2 : ∀ c ∈ L.filter isCode, P c = true) : L.all P = true := by
  refine List.all_eq_true.mpr fun c hc => ?_
  have h := List.all_eq_true.mp h1 c hc
  rcases Bool.eq_false_or_eq_true (isCode c) with hi | hi
  · exact h2 c (List.mem_filter.mpr ⟨hc, hi⟩)
  · simpa [hi] using h
set_option maxRecDepth 65536 in
theorem w_c0 : (Jvm.Cond.code x code maxLocals ret).before args0 about1 = true := code_word (m := ⟨1, 2⟩) (meth := k1m2) (c := k1c2) (by decide +kernel) rfl rfl rfl (by decide +kernel)
set_option maxRecDepth 65536 in
theorem w_c1 : (Jvm.Cond.code ({ cls := "com/example/graphbind/graphbind/PropertyTypeIsZonedPinLaw", name := "pick", desc := "(I)Lcom/example/graphbind/graphbind/PropertyType;" } : Jvm.MethodName) method_2_code (1 : Nat) (Option.some (Jvm.ClassFile.FieldType.object "com/example/graphbind/graphbind/PropertyType"))).before args0 about1 = true := code_word (m := ⟨1, 1⟩) (meth := k1m1) (c := k1c1) (by decide +kernel) rfl rfl rfl (by decide +kernel)
set_option maxRecDepth 65536 in
theorem w_c2 : (Jvm.Cond.code ({ cls := "com/example/graphbind/graphbind/PropertyType", name := "isZoned", desc := "()Z" } : Jvm.MethodName) prog_66_method_6_code (1 : Nat) (Option.some Jvm.ClassFile.FieldType.boolean)).before args0 about1 = true := code_word (m := ⟨6, 0⟩) (meth := k6m0) (c := k6c0) (by decide +kernel) rfl rfl rfl (by decide +kernel)
def codes1 : List Jvm.Cond := [Jvm.Cond.code x code maxLocals ret, Jvm.Cond.code ({ cls := "com/example/graphbind/graphbind/PropertyTypeIsZonedPinLaw", name := "pick", desc := "(I)Lcom/example/graphbind/graphbind/PropertyType;" } : Jvm.MethodName) method_2_code (1 : Nat) (Option.some (Jvm.ClassFile.FieldType.object "com/example/graphbind/graphbind/PropertyType")), Jvm.Cond.code ({ cls := "com/example/graphbind/graphbind/PropertyType", name := "isZoned", desc := "()Z" } : Jvm.MethodName) prog_66_method_6_code (1 : Nat) (Option.some Jvm.ClassFile.FieldType.boolean)]
set_option maxRecDepth 65536 in
theorem codes_eq : words1.filter isCode = codes1 := rfl
theorem w_codes : ∀ c ∈ words1.filter isCode, c.before args0 about1 = true := by
  rw [codes_eq]
  intro c hc
  simp only [codes1, List.mem_cons, List.not_mem_nil, or_false] at hc
  rcases hc with rfl | rfl | rfl
  · exact w_c0
  · exact w_c1
  · exact w_c2
set_option maxRecDepth 65536 in
theorem w_t1 : (words1.take 24).all (fun c => isCode c || c.before args0 about1) = true := by decide +kernel
set_option maxRecDepth 65536 in
theorem w_t2 : (words1.drop 24).all (fun c => isCode c || c.before args0 about1) = true := by decide +kernel
theorem w_tables : (allAtoms (Jvm.Cond.code x code maxLocals ret :: tables_1)).before args0 about1 = true := by
  rw [allAtoms_all]
  show words1.all (fun c => c.before args0 about1) = true
  refine all_split ?_ w_codes
  rw [← List.take_append_drop 24 words1, List.all_append, w_t1, w_t2]
  rfl
set_option maxRecDepth 65536 in
theorem w_case : (Jvm.Cond.and given_1 narrow_1).before args0 about1 = true := by decide +kernel
theorem w_applies : (headSpec (Jvm.Cond.code x code maxLocals ret :: tables_1) room_1).applies x e0.platform about1 = true :=
  (Spec.applies_iff w_frames).mpr ⟨w_running, w_runnable, w_alone, w_named, w_hears, w_ripe, w_room, w_tables⟩
theorem atStart : AtStart classFile x code maxLocals ret World_1 tables_1 room_1 Calls_1 rest_1 Pre_1 launch0 p0 e0 about1 theMethod args0 below0 :=
  ⟨lists_1, trivial, launch0.admits_env _ _ _, launch0.least_env, fairChoices_fair.cas, fairChoices_fair.clock, w_frames, w_args, w_heap, w_applies, trivial, trivial, w_case⟩
end start1
theorem witness_1 : WitnessClaimed_1 := ⟨start1.p0, start1.e0, start1.about1, start1.theMethod, start1.args0, start1.below0, start1.atStart⟩
end Jvm.Pilot.@@N@@
