import JvmDerived
import JvmDerived.Pilot.@@N@@Statement
import JvmDerived.Pilot.@@N@@Code
set_option linter.unusedVariables false
set_option linter.unusedSimpArgs false
namespace Jvm.RoadKit
open Sem ClassFile Op Lib Jvm.Stand Jvm.Free Jvm.LawKit
section New
variable {p : Program} {l : Launch} {e : Env} {R : Room} {s : State} {m : MethodId} {args : Array Value} {below : List Frame} {meth : Method} {c : Code} {T T' : State} {locs : List Loc} {cells slots : Nat} {Q : Option Value → Heap → List Loc → Prop} {cc ss : Nat} {g g' : JFrame} {pc : Nat} {Ls : Array Slot}
/-- from here the body comes to an end that meets Q -/
def own_Goes (p : Program) (e : Env) (below : List Frame) (s : State) (Q : Option Value → Heap → List Loc → Prop) (cc ss : Nat) (T : State) (g : JFrame) : Prop :=
  ∃ s₂ o, Steps p.tables e below (T.setTop g) s₂ ∧ s₂.status = .running ∧ Ended s₂ below o ∧ ∃ v L, o = .returned v ∧ Q v s₂.heap L ∧ FrameEnd s o s₂ L cc ss
theorem own_st (h : ∀ t, Steps p.tables e below (T'.setTop g') t → Steps p.tables e below (T.setTop g) t) (k : own_Goes p e below s Q cc ss T' g') : own_Goes p e below s Q cc ss T g := by
  obtain ⟨s₂, o, h1, r⟩ := k; exact ⟨s₂, o, h _ h1, r⟩
theorem own_end {v : Option Value} (X : Stand p l e R s m args below meth c T locs cells slots) (hlk : meth.locks = false) (hv : meth.sig.returnType = none → v = none) (hc : cells ≤ cc) (hs : slots ≤ ss) (hQ : Q v T.heap locs)
    (st : ∀ fs, (∀ (f : JFrame) (acts : List Action), f.method = m → f.locked = none → f.entered = [] → (doReturn e (T.setTop f) acts v).1 = T.setFrames fs) → Steps p.tables e below (T.setTop g) (T.setFrames fs)) : own_Goes p e below s Q cc ss T g := by
  obtain ⟨fs, hr, hrun, hended, hW, hsame⟩ := X.leave (v := v) hv hlk
  exact ⟨_, _, st fs hr, hrun, hended, _, _, rfl, hQ, ⟨_, rfl⟩, hW, hsame.mono hc hs⟩
theorem own_retN (X : Stand p l e R s m args below meth c T locs cells slots) (hx : p.tables.exec = Jvm.exec) (hlk : meth.locks = false) {t : FieldType} {z : Int32} {rest : List Value} (hret : meth.sig.returnType = some t) (ht : t = .boolean ∨ t = .byte ∨ t = .char ∨ t = .short) (hd : decode c.code pc = .ok (.ireturn, 1)) (hc : cells ≤ cc) (hs : slots ≤ ss) (hQ : Q (some (.int (nar t z))) T.heap locs) : own_Goes p e below s Q cc ss T (mkF m pc Ls (.int z :: rest)) :=
  own_end X hlk (fun h => by rw [hret] at h; cases h) hc hs hQ fun fs hr => retN X hx hret ht hd hr
theorem own_retI (X : Stand p l e R s m args below meth c T locs cells slots) (hx : p.tables.exec = Jvm.exec) (hlk : meth.locks = false) {z : Int32} {rest : List Value} (hret : meth.sig.returnType = some .int) (hd : decode c.code pc = .ok (.ireturn, 1)) (hc : cells ≤ cc) (hs : slots ≤ ss) (hQ : Q (some (.int z)) T.heap locs) : own_Goes p e below s Q cc ss T (mkF m pc Ls (.int z :: rest)) :=
  own_end X hlk (fun h => by rw [hret] at h; cases h) hc hs hQ fun fs hr => retOut X hx hret rfl (Or.inl ⟨rfl, Or.inl rfl, _, rfl⟩) hd hr
theorem own_retL (X : Stand p l e R s m args below meth c T locs cells slots) (hx : p.tables.exec = Jvm.exec) (hlk : meth.locks = false) {z : Int64} {rest : List Value} (hret : meth.sig.returnType = some .long) (hd : decode c.code pc = .ok (.lreturn, 1)) (hc : cells ≤ cc) (hs : slots ≤ ss) (hQ : Q (some (.long z)) T.heap locs) : own_Goes p e below s Q cc ss T (mkF m pc Ls (.long z :: rest)) :=
  own_end X hlk (fun h => by rw [hret] at h; cases h) hc hs hQ fun fs hr => retOut X hx hret rfl (Or.inr (Or.inl ⟨rfl, rfl, _, rfl⟩)) hd hr
theorem own_narR {t : FieldType} {w : Value} (hw : w.isRef = true) : narrow t w = w := by rcases ref_cases hw with rfl | ⟨a, rfl⟩ <;> cases t <;> rfl
theorem own_fitR {n : String} {w : Value} (hw : w.isRef = true) : fits (.object n) w = true := by rcases ref_cases hw with rfl | ⟨a, rfl⟩ <;> rfl
theorem own_retA (X : Stand p l e R s m args below meth c T locs cells slots) (hx : p.tables.exec = Jvm.exec) (hlk : meth.locks = false) {w : Value} {t : FieldType} {rest : List Value} (hw : w.isRef = true) (hret : meth.sig.returnType = some t) (ht : t.isReference = true) (hd : decode c.code pc = .ok (.areturn, 1)) (hc : cells ≤ cc) (hs : slots ≤ ss) (hQ : Q (some w) T.heap locs) : own_Goes p e below s Q cc ss T (mkF m pc Ls (w :: rest)) :=
  own_end X hlk (fun h => by rw [hret] at h; cases h) hc hs hQ fun fs hr => retOut X hx hret (own_narR hw) (Or.inr (Or.inr (Or.inr (Or.inr ⟨rfl, ht, hw⟩)))) hd hr
theorem own_ret0 (X : Stand p l e R s m args below meth c T locs cells slots) (hx : p.tables.exec = Jvm.exec) (hlk : meth.locks = false) (hret : meth.sig.returnType = none) (hd : decode c.code pc = .ok (.return_, 1)) (hc : cells ≤ cc) (hs : slots ≤ ss) (hQ : Q none T.heap locs) : own_Goes p e below s Q cc ss T (mkF m pc Ls []) :=
  own_end X hlk (fun _ => rfl) hc hs hQ fun fs hr => X.returnOut hx hret hd hr
theorem own_nsr {Z : State} {a0 : Array Value} {O K : String} {n : Nat} (w : (Cond.noSuperclass O).before a0 Z = true) (wk : (Cond.instantiable K n).before a0 Z = true) (hn : O ≠ K) : NS Z O K := by
  obtain ⟨c, k, h1, h2, h3, -, -⟩ := Cond.noSuperclass_spec w
  obtain ⟨t, kt, g1, -⟩ := Cond.instantiable_spec wk
  have ne := ids_ne h1 g1 hn
  refine ⟨c, t, h1, g1, fun fuel => ?_⟩
  cases fuel with
  | zero => rfl
  | succ f => simp [Vm.isSubclassAux, ne, h2, h3]
theorem own_nsn {Z : State} {a0 : Array Value} {C S K : String} {n : Nat} (w : (Cond.superclass C S).before a0 Z = true) (wk : (Cond.instantiable K n).before a0 Z = true) (q : NS Z C K) (hn : C ≠ K) : ∃ c t, Z.vm.findClass C = some c ∧ Z.vm.findClass K = some t ∧ Z.vm.assignable c t = false := by
  obtain ⟨c, t, h0, g0, n3⟩ := q
  obtain ⟨p, k, kp, h1, h2, h3, h4, h5, -, h7⟩ := Cond.superclass_spec h0 w
  obtain ⟨t', kt, g1, g2, g5, g6, -⟩ := Cond.instantiable_spec wk
  cases g0.symm.trans g1
  have g7 : kt.isInterface = false := by simp only [Bool.or_eq_false_iff] at g6; exact g6.1
  have ne := ids_ne h0 g0 hn
  refine ⟨c, t, h0, g0, ?_⟩
  show Z.vm.assignableAux (255 + 1) c t = false
  simp [Vm.assignableAux, ne, h2, g2, h5, g5, g7, Vm.isSubclass, n3]
theorem own_Sta_keep {Z : State} {h h' : Heap} {ws : List Addr} {C n d : String} {w : Value} (F : Sta Z h C n d w) (K : Keep h h' ws) (q : ∀ x ∈ ws, ∀ cell : Cell, h[x]? = some cell → cell.vm.isStatics = false) : Sta Z h' C n d w := by
  obtain ⟨cf, i, k, f, st, cell, h1, h2, h3, h4, h5, h6, h7⟩ := F
  exact ⟨cf, i, k, f, st, cell, h1, h2, h3, h4, K.2.1 st cell h5 (fun z => by rw [q st z cell h5] at h6; cases h6), h6, h7⟩
end New
end Jvm.RoadKit
namespace Jvm.Pilot.@@N@@
open Jvm Jvm.ClassFile Sem Op Lib Jvm.Free Jvm.Stand Jvm.LawKit Jvm.RoadKit Bundle Jvm.Pilot.@@N@@.Jvm.D
def own_b (P : Prop) [Decidable P] : Int32 := if P then 1 else 0
theorem own_bt {P : Prop} [Decidable P] (h : P) : (some (Value.int (nar .boolean 1)) : Option Value) = some (.int (own_b P)) := by rw [own_b, if_pos h]; rfl
theorem own_bf {P : Prop} [Decidable P] (h : ¬ P) : (some (Value.int (nar .boolean 0)) : Option Value) = some (.int (own_b P)) := by rw [own_b, if_neg h]; rfl
theorem own_b1 {P : Prop} [Decidable P] (h : P) : own_b P = 1 := if_pos h
theorem own_b0 {P : Prop} [Decidable P] (h : ¬ P) : own_b P = 0 := if_neg h
theorem own_bc {P P' : Prop} [Decidable P] [Decidable P'] (h : P ↔ P') : own_b P = own_b P' := by simp only [own_b, h]
theorem own_ord {args : Array Value} {s : State} {t : Term} {a : Addr} {C n d : String} {k : Int32} (et : t.eval args s none [] s = some (.ref a)) (h : (Jvm.Cond.eq (.field t C n d) (.int k)).value args s none s [] = some true) : Fld s s.heap a C n d (.int k) := by
  refine Fld.start ?_
  have e1 := fld_at (C := C) (n := n) (dd := d) et
  obtain ⟨x, y, h1, h2, h3, -⟩ := cmp_v (Or.inl h)
  rw [e1] at h1
  have h4 : y = .int k := (Option.some.inj h2).symm
  subst h4
  cases x <;> simp [Kin, Value.isRef] at h3
  rename_i z
  have q : (Jvm.Cond.eq (.field t C n d) (.int k)).value args s none s [] = some (decide (z = k)) := by simp [Cond.value, Term.eval, et, h1]
  rw [h1, gotT q h]
theorem own_fref {args : Array Value} {s : State} {t : Term} {a : Addr} {C n d K : String} (et : t.eval args s none [] s = some (.ref a)) (h : (Jvm.Cond.exactly (.field t C n d) K).value args s none s [] = some true) : ∃ k, Fld s s.heap a C n d (.ref k) := by
  obtain ⟨k, e⟩ := exa_v h
  exact ⟨k, Fld.start ((fld_at et).symm.trans e)⟩
theorem own_fnull {args : Array Value} {s : State} {t : Term} {a : Addr} {C n d : String} (et : t.eval args s none [] s = some (.ref a)) (h : (Jvm.Cond.eq (.field t C n d) .null).value args s none s [] = some true) : Fld s s.heap a C n d .null :=
  Fld.start ((fld_at et).symm.trans (null_v h))
abbrev own_nk (k : Int32) : Prop := k = 0 ∨ k = 1 ∨ k = 9 ∨ k = 15 ∨ k = 16
abbrev rRrm1 : Room := { frames := 0, cells := 0, slots := 0, locals := 0 }
theorem d1_0 : decode method_2_code 0 = .ok (.iload_n 0, 1) := by decide +kernel
theorem d1_1 : decode method_2_code 1 = .ok (.ifCond .ne 7, 3) := by decide +kernel
theorem d1_4 : decode method_2_code 4 = .ok (.getstatic 7, 3) := by decide +kernel
theorem d1_7 : decode method_2_code 7 = .ok (.areturn, 1) := by decide +kernel
theorem d1_8 : decode method_2_code 8 = .ok (.iload_n 0, 1) := by decide +kernel
theorem d1_9 : decode method_2_code 9 = .ok (.iconst 1, 1) := by decide +kernel
theorem d1_10 : decode method_2_code 10 = .ok (.if_icmp .ne 7, 3) := by decide +kernel
theorem d1_13 : decode method_2_code 13 = .ok (.getstatic 13, 3) := by decide +kernel
theorem d1_16 : decode method_2_code 16 = .ok (.areturn, 1) := by decide +kernel
theorem d1_17 : decode method_2_code 17 = .ok (.iload_n 0, 1) := by decide +kernel
theorem d1_18 : decode method_2_code 18 = .ok (.iconst 2, 1) := by decide +kernel
theorem d1_19 : decode method_2_code 19 = .ok (.if_icmp .ne 7, 3) := by decide +kernel
theorem d1_22 : decode method_2_code 22 = .ok (.getstatic 16, 3) := by decide +kernel
theorem d1_25 : decode method_2_code 25 = .ok (.areturn, 1) := by decide +kernel
theorem d1_26 : decode method_2_code 26 = .ok (.iload_n 0, 1) := by decide +kernel
theorem d1_27 : decode method_2_code 27 = .ok (.iconst 3, 1) := by decide +kernel
theorem d1_28 : decode method_2_code 28 = .ok (.if_icmp .ne 7, 3) := by decide +kernel
theorem d1_31 : decode method_2_code 31 = .ok (.getstatic 19, 3) := by decide +kernel
theorem d1_34 : decode method_2_code 34 = .ok (.areturn, 1) := by decide +kernel
theorem d1_35 : decode method_2_code 35 = .ok (.iload_n 0, 1) := by decide +kernel
theorem d1_36 : decode method_2_code 36 = .ok (.iconst 4, 1) := by decide +kernel
theorem d1_37 : decode method_2_code 37 = .ok (.if_icmp .ne 7, 3) := by decide +kernel
theorem d1_40 : decode method_2_code 40 = .ok (.getstatic 22, 3) := by decide +kernel
theorem d1_43 : decode method_2_code 43 = .ok (.areturn, 1) := by decide +kernel
theorem d1_44 : decode method_2_code 44 = .ok (.iload_n 0, 1) := by decide +kernel
theorem d1_45 : decode method_2_code 45 = .ok (.iconst 5, 1) := by decide +kernel
theorem d1_46 : decode method_2_code 46 = .ok (.if_icmp .ne 7, 3) := by decide +kernel
theorem d1_49 : decode method_2_code 49 = .ok (.getstatic 25, 3) := by decide +kernel
theorem d1_52 : decode method_2_code 52 = .ok (.areturn, 1) := by decide +kernel
theorem d1_53 : decode method_2_code 53 = .ok (.iload_n 0, 1) := by decide +kernel
theorem d1_54 : decode method_2_code 54 = .ok (.bipush 6, 2) := by decide +kernel
theorem d1_56 : decode method_2_code 56 = .ok (.if_icmp .ne 7, 3) := by decide +kernel
theorem d1_59 : decode method_2_code 59 = .ok (.getstatic 28, 3) := by decide +kernel
theorem d1_62 : decode method_2_code 62 = .ok (.areturn, 1) := by decide +kernel
theorem d1_63 : decode method_2_code 63 = .ok (.iload_n 0, 1) := by decide +kernel
theorem d1_64 : decode method_2_code 64 = .ok (.bipush 7, 2) := by decide +kernel
theorem d1_66 : decode method_2_code 66 = .ok (.if_icmp .ne 7, 3) := by decide +kernel
theorem d1_69 : decode method_2_code 69 = .ok (.getstatic 31, 3) := by decide +kernel
theorem d1_72 : decode method_2_code 72 = .ok (.areturn, 1) := by decide +kernel
theorem d1_73 : decode method_2_code 73 = .ok (.iload_n 0, 1) := by decide +kernel
theorem d1_74 : decode method_2_code 74 = .ok (.bipush 8, 2) := by decide +kernel
theorem d1_76 : decode method_2_code 76 = .ok (.if_icmp .ne 7, 3) := by decide +kernel
theorem d1_79 : decode method_2_code 79 = .ok (.getstatic 34, 3) := by decide +kernel
theorem d1_82 : decode method_2_code 82 = .ok (.areturn, 1) := by decide +kernel
theorem d1_83 : decode method_2_code 83 = .ok (.iload_n 0, 1) := by decide +kernel
theorem d1_84 : decode method_2_code 84 = .ok (.bipush 9, 2) := by decide +kernel
theorem d1_86 : decode method_2_code 86 = .ok (.if_icmp .ne 7, 3) := by decide +kernel
theorem d1_89 : decode method_2_code 89 = .ok (.getstatic 37, 3) := by decide +kernel
theorem d1_92 : decode method_2_code 92 = .ok (.areturn, 1) := by decide +kernel
theorem d1_93 : decode method_2_code 93 = .ok (.iload_n 0, 1) := by decide +kernel
theorem d1_94 : decode method_2_code 94 = .ok (.bipush 10, 2) := by decide +kernel
theorem d1_96 : decode method_2_code 96 = .ok (.if_icmp .ne 7, 3) := by decide +kernel
theorem d1_99 : decode method_2_code 99 = .ok (.getstatic 40, 3) := by decide +kernel
theorem d1_102 : decode method_2_code 102 = .ok (.areturn, 1) := by decide +kernel
theorem d1_103 : decode method_2_code 103 = .ok (.iload_n 0, 1) := by decide +kernel
theorem d1_104 : decode method_2_code 104 = .ok (.bipush 11, 2) := by decide +kernel
theorem d1_106 : decode method_2_code 106 = .ok (.if_icmp .ne 7, 3) := by decide +kernel
theorem d1_109 : decode method_2_code 109 = .ok (.getstatic 43, 3) := by decide +kernel
theorem d1_112 : decode method_2_code 112 = .ok (.areturn, 1) := by decide +kernel
theorem d1_113 : decode method_2_code 113 = .ok (.iload_n 0, 1) := by decide +kernel
theorem d1_114 : decode method_2_code 114 = .ok (.bipush 12, 2) := by decide +kernel
theorem d1_116 : decode method_2_code 116 = .ok (.if_icmp .ne 7, 3) := by decide +kernel
theorem d1_119 : decode method_2_code 119 = .ok (.getstatic 46, 3) := by decide +kernel
theorem d1_122 : decode method_2_code 122 = .ok (.areturn, 1) := by decide +kernel
theorem d1_123 : decode method_2_code 123 = .ok (.iload_n 0, 1) := by decide +kernel
theorem d1_124 : decode method_2_code 124 = .ok (.bipush 13, 2) := by decide +kernel
theorem d1_126 : decode method_2_code 126 = .ok (.if_icmp .ne 7, 3) := by decide +kernel
theorem d1_129 : decode method_2_code 129 = .ok (.getstatic 49, 3) := by decide +kernel
theorem d1_132 : decode method_2_code 132 = .ok (.areturn, 1) := by decide +kernel
theorem d1_133 : decode method_2_code 133 = .ok (.iload_n 0, 1) := by decide +kernel
theorem d1_134 : decode method_2_code 134 = .ok (.bipush 14, 2) := by decide +kernel
theorem d1_136 : decode method_2_code 136 = .ok (.if_icmp .ne 7, 3) := by decide +kernel
theorem d1_139 : decode method_2_code 139 = .ok (.getstatic 52, 3) := by decide +kernel
theorem d1_142 : decode method_2_code 142 = .ok (.areturn, 1) := by decide +kernel
theorem d1_143 : decode method_2_code 143 = .ok (.iload_n 0, 1) := by decide +kernel
theorem d1_144 : decode method_2_code 144 = .ok (.bipush 15, 2) := by decide +kernel
theorem d1_146 : decode method_2_code 146 = .ok (.if_icmp .ne 7, 3) := by decide +kernel
theorem d1_149 : decode method_2_code 149 = .ok (.getstatic 55, 3) := by decide +kernel
theorem d1_152 : decode method_2_code 152 = .ok (.areturn, 1) := by decide +kernel
theorem d1_153 : decode method_2_code 153 = .ok (.getstatic 58, 3) := by decide +kernel
theorem d1_156 : decode method_2_code 156 = .ok (.areturn, 1) := by decide +kernel
theorem pn_rm1 : plainFor (⟨"com/example/wirefold/wirefold/FieldTypeMapKeyablePinLaw", "pick", "(I)Lcom/example/wirefold/wirefold/FieldType;"⟩ : MethodName) = true := by first | exact plainFor_of_name (by first | (simp [plainName, overriddenIn]; done) | decide +kernel) | decide +kernel
theorem ef_rm1 (m : MethodId) (k : Int32) : entryFrame m #[(.int k)] 1 = (mkF m 0 #[iv k] []) := by first | (simp [entryFrame, mkF, argsToLocals, Value.category]; done) | rfl
def Q1 (Z : State) (k : Int32) (s0 : Addr) (s1 : Addr) (s2 : Addr) (s3 : Addr) (s4 : Addr) (s5 : Addr) (s6 : Addr) (s7 : Addr) (s8 : Addr) (s9 : Addr) (s10 : Addr) (s11 : Addr) (s12 : Addr) (s13 : Addr) (s14 : Addr) (s15 : Addr) (s16 : Addr) (t0 : Addr) (t1 : Addr) (t2 : Addr) (t3 : Addr) (t4 : Addr) (t5 : Addr) (t6 : Addr) (t7 : Addr) (t8 : Addr) (t9 : Addr) (t10 : Addr) (t11 : Addr) (t12 : Addr) (t13 : Addr) (t14 : Addr) (h0 : Heap) (n0 : Nat) (v_ : Option Value) (h_ : Heap) (L_ : List Loc) : Prop := ∃ r : Addr, ∃ kv : Value, (v_ = some (.ref r)) ∧ (Fr n0 L_) ∧ (h_ = h0) ∧ (Exa Z h0 r "com/example/wirefold/wirefold/FieldType") ∧ (Fld Z h0 r "com/example/wirefold/wirefold/FieldType" "keyword" "Ljava/lang/String;" kv) ∧ (kv.isRef = true) ∧ ((own_nk k ∧ (kv = .null ∨ r = s0 ∨ r = s1 ∨ r = s9)) ∨ (¬ own_nk k ∧ ¬ kv = .null ∧ r ≠ s0 ∧ r ≠ s1 ∧ r ≠ s9))
set_option maxRecDepth 65536 in
set_option maxHeartbeats 40000000 in
theorem rm1 (l : Launch) (Z : State) (a0 : Array Value) (hw : ∀ d ∈ tables_1, d.before a0 Z = true) (ws : List Jvm.Cond) (k : Int32) (s0 : Addr) (s1 : Addr) (s2 : Addr) (s3 : Addr) (s4 : Addr) (s5 : Addr) (s6 : Addr) (s7 : Addr) (s8 : Addr) (s9 : Addr) (s10 : Addr) (s11 : Addr) (s12 : Addr) (s13 : Addr) (s14 : Addr) (s15 : Addr) (s16 : Addr) (t0 : Addr) (t1 : Addr) (t2 : Addr) (t3 : Addr) (t4 : Addr) (t5 : Addr) (t6 : Addr) (t7 : Addr) (t8 : Addr) (t9 : Addr) (t10 : Addr) (t11 : Addr) (t12 : Addr) (t13 : Addr) (t14 : Addr) (h0 : Heap) (n0 : Nat) (Z0 : n0 ≤ h0.size) (p_0 : Sta Z h0 "com/example/wirefold/wirefold/FieldType" "DOUBLE" "Lcom/example/wirefold/wirefold/FieldType;" (.ref s0)) (p_1 : Sta Z h0 "com/example/wirefold/wirefold/FieldType" "FLOAT" "Lcom/example/wirefold/wirefold/FieldType;" (.ref s1)) (p_2 : Sta Z h0 "com/example/wirefold/wirefold/FieldType" "INT64" "Lcom/example/wirefold/wirefold/FieldType;" (.ref s2)) (p_3 : Sta Z h0 "com/example/wirefold/wirefold/FieldType" "UINT64" "Lcom/example/wirefold/wirefold/FieldType;" (.ref s3)) (p_4 : Sta Z h0 "com/example/wirefold/wirefold/FieldType" "INT32" "Lcom/example/wirefold/wirefold/FieldType;" (.ref s4)) (p_5 : Sta Z h0 "com/example/wirefold/wirefold/FieldType" "FIXED64" "Lcom/example/wirefold/wirefold/FieldType;" (.ref s5)) (p_6 : Sta Z h0 "com/example/wirefold/wirefold/FieldType" "FIXED32" "Lcom/example/wirefold/wirefold/FieldType;" (.ref s6)) (p_7 : Sta Z h0 "com/example/wirefold/wirefold/FieldType" "BOOL" "Lcom/example/wirefold/wirefold/FieldType;" (.ref s7)) (p_8 : Sta Z h0 "com/example/wirefold/wirefold/FieldType" "STRING" "Lcom/example/wirefold/wirefold/FieldType;" (.ref s8)) (p_9 : Sta Z h0 "com/example/wirefold/wirefold/FieldType" "BYTES" "Lcom/example/wirefold/wirefold/FieldType;" (.ref s9)) (p_10 : Sta Z h0 "com/example/wirefold/wirefold/FieldType" "UINT32" "Lcom/example/wirefold/wirefold/FieldType;" (.ref s10)) (p_11 : Sta Z h0 "com/example/wirefold/wirefold/FieldType" "SFIXED32" "Lcom/example/wirefold/wirefold/FieldType;" (.ref s11)) (p_12 : Sta Z h0 "com/example/wirefold/wirefold/FieldType" "SFIXED64" "Lcom/example/wirefold/wirefold/FieldType;" (.ref s12)) (p_13 : Sta Z h0 "com/example/wirefold/wirefold/FieldType" "SINT32" "Lcom/example/wirefold/wirefold/FieldType;" (.ref s13)) (p_14 : Sta Z h0 "com/example/wirefold/wirefold/FieldType" "SINT64" "Lcom/example/wirefold/wirefold/FieldType;" (.ref s14)) (p_15 : Sta Z h0 "com/example/wirefold/wirefold/FieldType" "MESSAGE" "Lcom/example/wirefold/wirefold/FieldType;" (.ref s15)) (p_16 : Sta Z h0 "com/example/wirefold/wirefold/FieldType" "ENUM" "Lcom/example/wirefold/wirefold/FieldType;" (.ref s16)) (p_17 : Exa Z h0 s0 "com/example/wirefold/wirefold/FieldType") (p_18 : Exa Z h0 s1 "com/example/wirefold/wirefold/FieldType") (p_19 : Exa Z h0 s2 "com/example/wirefold/wirefold/FieldType") (p_20 : Exa Z h0 s3 "com/example/wirefold/wirefold/FieldType") (p_21 : Exa Z h0 s4 "com/example/wirefold/wirefold/FieldType") (p_22 : Exa Z h0 s5 "com/example/wirefold/wirefold/FieldType") (p_23 : Exa Z h0 s6 "com/example/wirefold/wirefold/FieldType") (p_24 : Exa Z h0 s7 "com/example/wirefold/wirefold/FieldType") (p_25 : Exa Z h0 s8 "com/example/wirefold/wirefold/FieldType") (p_26 : Exa Z h0 s9 "com/example/wirefold/wirefold/FieldType") (p_27 : Exa Z h0 s10 "com/example/wirefold/wirefold/FieldType") (p_28 : Exa Z h0 s11 "com/example/wirefold/wirefold/FieldType") (p_29 : Exa Z h0 s12 "com/example/wirefold/wirefold/FieldType") (p_30 : Exa Z h0 s13 "com/example/wirefold/wirefold/FieldType") (p_31 : Exa Z h0 s14 "com/example/wirefold/wirefold/FieldType") (p_32 : Exa Z h0 s15 "com/example/wirefold/wirefold/FieldType") (p_33 : Exa Z h0 s16 "com/example/wirefold/wirefold/FieldType") (p_34 : Fld Z h0 s0 "com/example/wirefold/wirefold/FieldType" "keyword" "Ljava/lang/String;" (.ref t0)) (p_35 : Fld Z h0 s1 "com/example/wirefold/wirefold/FieldType" "keyword" "Ljava/lang/String;" (.ref t1)) (p_36 : Fld Z h0 s2 "com/example/wirefold/wirefold/FieldType" "keyword" "Ljava/lang/String;" (.ref t2)) (p_37 : Fld Z h0 s3 "com/example/wirefold/wirefold/FieldType" "keyword" "Ljava/lang/String;" (.ref t3)) (p_38 : Fld Z h0 s4 "com/example/wirefold/wirefold/FieldType" "keyword" "Ljava/lang/String;" (.ref t4)) (p_39 : Fld Z h0 s5 "com/example/wirefold/wirefold/FieldType" "keyword" "Ljava/lang/String;" (.ref t5)) (p_40 : Fld Z h0 s6 "com/example/wirefold/wirefold/FieldType" "keyword" "Ljava/lang/String;" (.ref t6)) (p_41 : Fld Z h0 s7 "com/example/wirefold/wirefold/FieldType" "keyword" "Ljava/lang/String;" (.ref t7)) (p_42 : Fld Z h0 s8 "com/example/wirefold/wirefold/FieldType" "keyword" "Ljava/lang/String;" (.ref t8)) (p_43 : Fld Z h0 s9 "com/example/wirefold/wirefold/FieldType" "keyword" "Ljava/lang/String;" (.ref t9)) (p_44 : Fld Z h0 s10 "com/example/wirefold/wirefold/FieldType" "keyword" "Ljava/lang/String;" (.ref t10)) (p_45 : Fld Z h0 s11 "com/example/wirefold/wirefold/FieldType" "keyword" "Ljava/lang/String;" (.ref t11)) (p_46 : Fld Z h0 s12 "com/example/wirefold/wirefold/FieldType" "keyword" "Ljava/lang/String;" (.ref t12)) (p_47 : Fld Z h0 s13 "com/example/wirefold/wirefold/FieldType" "keyword" "Ljava/lang/String;" (.ref t13)) (p_48 : Fld Z h0 s14 "com/example/wirefold/wirefold/FieldType" "keyword" "Ljava/lang/String;" (.ref t14)) (p_49 : Fld Z h0 s15 "com/example/wirefold/wirefold/FieldType" "keyword" "Ljava/lang/String;" .null) (p_50 : Fld Z h0 s16 "com/example/wirefold/wirefold/FieldType" "keyword" "Ljava/lang/String;" .null) (p_51 : s2 ≠ s0) (p_52 : s2 ≠ s1) (p_53 : s2 ≠ s9) (p_54 : s3 ≠ s0) (p_55 : s3 ≠ s1) (p_56 : s3 ≠ s9) (p_57 : s4 ≠ s0) (p_58 : s4 ≠ s1) (p_59 : s4 ≠ s9) (p_60 : s5 ≠ s0) (p_61 : s5 ≠ s1) (p_62 : s5 ≠ s9) (p_63 : s6 ≠ s0) (p_64 : s6 ≠ s1) (p_65 : s6 ≠ s9) (p_66 : s7 ≠ s0) (p_67 : s7 ≠ s1) (p_68 : s7 ≠ s9) (p_69 : s8 ≠ s0) (p_70 : s8 ≠ s1) (p_71 : s8 ≠ s9) (p_72 : s10 ≠ s0) (p_73 : s10 ≠ s1) (p_74 : s10 ≠ s9) (p_75 : s11 ≠ s0) (p_76 : s11 ≠ s1) (p_77 : s11 ≠ s9) (p_78 : s12 ≠ s0) (p_79 : s12 ≠ s1) (p_80 : s12 ≠ s9) (p_81 : s13 ≠ s0) (p_82 : s13 ≠ s1) (p_83 : s13 ≠ s9) (p_84 : s14 ≠ s0) (p_85 : s14 ≠ s1) (p_86 : s14 ≠ s9) (hk : 0 ≤ k.toInt ∧ k.toInt < 17) :
    MetFree l (⟨"com/example/wirefold/wirefold/FieldTypeMapKeyablePinLaw", "pick", "(I)Lcom/example/wirefold/wirefold/FieldType;"⟩ : MethodName) (head1 (Jvm.Cond.code (⟨"com/example/wirefold/wirefold/FieldTypeMapKeyablePinLaw", "pick", "(I)Lcom/example/wirefold/wirefold/FieldType;"⟩ : MethodName) method_2_code 1 (some (.object "com/example/wirefold/wirefold/FieldType")) :: ws) rRrm1) (fun a_ U_ => a_ = #[(.int k)] ∧ Z.Warmed39 U_.vm ∧ U_.heap = h0) (fun _ _ _ _ _ => True) (fun _ U_ o_ U1_ => ∃ v_ L_, o_ = .returned v_ ∧ Q1 Z k s0 s1 s2 s3 s4 s5 s6 s7 s8 s9 s10 s11 s12 s13 s14 s15 s16 t0 t1 t2 t3 t4 t5 t6 t7 t8 t9 t10 t11 t12 t13 t14 h0 n0 v_ U1_.heap L_ ∧ FrameEnd U_ o_ U1_ L_ rRrm1.cells rRrm1.slots) := by
  refine MetFree.of_bodySF pn_rm1 hisR ?_
  intro p e s m args below meth c s₁ Bd hml0 hP hK
  obtain ⟨rfl, hZ, hh⟩ := hP
  have hx := Bd.exec
  have hby := Bd.bytes
  have hlk : meth.locks = false := Bd.notSynchronized
  have hml : c.maxLocals = 1 := hml0
  have hown : s.vm.findClass "com/example/wirefold/wirefold/FieldTypeMapKeyablePinLaw" = some m.cls := findClass_of_methodNamed Bd.named
  have hnm := (name_of_methodNamed Bd.named Bd.method).1
  have X0 : Stand p l e rRrm1 s m #[(.int k)] below meth c s₁ [] 0 0 := Stand.of_body Bd
  have e0 : s₁.heap = h0 := by rw [← hh, Bd.state]; rfl
  have N0 := Fr.nil n0
  show own_Goes p e below s (Q1 Z k s0 s1 s2 s3 s4 s5 s6 s7 s8 s9 s10 s11 s12 s13 s14 s15 s16 t0 t1 t2 t3 t4 t5 t6 t7 t8 t9 t10 t11 t12 t13 t14 h0 n0) rRrm1.cells rRrm1.slots s₁ (entryFrame m #[(.int k)] 1)
  rw [ef_rm1 m k]
  show own_Goes p e below s (Q1 Z k s0 s1 s2 s3 s4 s5 s6 s7 s8 s9 s10 s11 s12 s13 s14 s15 s16 t0 t1 t2 t3 t4 t5 t6 t7 t8 t9 t10 t11 t12 t13 t14 h0 n0) rRrm1.cells rRrm1.slots s₁ (mkF m 0 #[iv k] [])
  refine own_st (fun _ kk_ => XS.iloadN X0.here hx rfl (hb hby d1_0) rfl kk_) ?_
  show own_Goes p e below s (Q1 Z k s0 s1 s2 s3 s4 s5 s6 s7 s8 s9 s10 s11 s12 s13 s14 s15 s16 t0 t1 t2 t3 t4 t5 t6 t7 t8 t9 t10 t11 t12 t13 t14 h0 n0) rRrm1.cells rRrm1.slots s₁ (mkF m 1 #[iv k] [(.int k)])
  rcases Classical.em (k = (0 : Int32)) with q0 | q0
  · refine own_st (fun _ kk_ => XS.ifNo X0.here hx rfl (hb hby d1_1) rfl (XT.i0_ne_f q0) kk_) ?_
    show own_Goes p e below s (Q1 Z k s0 s1 s2 s3 s4 s5 s6 s7 s8 s9 s10 s11 s12 s13 s14 s15 s16 t0 t1 t2 t3 t4 t5 t6 t7 t8 t9 t10 t11 t12 t13 t14 h0 n0) rRrm1.cells rRrm1.slots s₁ (mkF m 4 #[iv k] [])
    obtain ⟨T1, X1, e1, st1⟩ := getS2 X0 hx hZ hown (host := "") (Or.inl (hw _ (List.mem_of_getElem? (i := 5) rfl))) Via.refl e0 p_0 (g := (mkF m 4 #[iv k] [])) rfl (hb hby d1_4)
    refine own_st st1 ?_
    show own_Goes p e below s (Q1 Z k s0 s1 s2 s3 s4 s5 s6 s7 s8 s9 s10 s11 s12 s13 s14 s15 s16 t0 t1 t2 t3 t4 t5 t6 t7 t8 t9 t10 t11 t12 t13 t14 h0 n0) rRrm1.cells rRrm1.slots T1 (mkF m 7 #[iv k] [(.ref s0)])
    refine own_retA X1 hx hlk rfl Bd.returns rfl (hb hby d1_7) (by decide) (by decide) ?_
    show Q1 Z k s0 s1 s2 s3 s4 s5 s6 s7 s8 s9 s10 s11 s12 s13 s14 s15 s16 t0 t1 t2 t3 t4 t5 t6 t7 t8 t9 t10 t11 t12 t13 t14 h0 n0 (some (.ref s0)) T1.heap _
    rw [e1]
    exact ⟨s0, (.ref t0), rfl, N0, rfl, p_17, p_34, rfl, Or.inl ⟨by unfold own_nk; (revert hk q0; simp only [Int32.lt_iff_toInt_lt, Int32.le_iff_toInt_le, ← Int32.toInt_inj, Int32.reduceToInt, Int64.lt_iff_toInt_lt, Int64.le_iff_toInt_le, ← Int64.toInt_inj, Int64.reduceToInt]; omega), Or.inr (Or.inl rfl)⟩⟩
  · refine own_st (fun _ kk_ => XS.ifYes X0.here hx rfl (pc0 := 1) (pc' := 8) rfl (hb hby d1_1) rfl (XT.i0_ne_t q0) (by decide) (by decide) (XS.iloadN X0.here hx rfl (hb hby d1_8) rfl (XS.iconst X0.here hx rfl (hb hby d1_9) kk_))) ?_
    show own_Goes p e below s (Q1 Z k s0 s1 s2 s3 s4 s5 s6 s7 s8 s9 s10 s11 s12 s13 s14 s15 s16 t0 t1 t2 t3 t4 t5 t6 t7 t8 t9 t10 t11 t12 t13 t14 h0 n0) rRrm1.cells rRrm1.slots s₁ (mkF m 10 #[iv k] [(.int (1 : Int32)), (.int k)])
    rcases Classical.em (k = (1 : Int32)) with q1 | q1
    · refine own_st (fun _ kk_ => XS.icmpNo X0.here hx rfl (hb hby d1_10) rfl (XT.ii_ne_f q1) kk_) ?_
      show own_Goes p e below s (Q1 Z k s0 s1 s2 s3 s4 s5 s6 s7 s8 s9 s10 s11 s12 s13 s14 s15 s16 t0 t1 t2 t3 t4 t5 t6 t7 t8 t9 t10 t11 t12 t13 t14 h0 n0) rRrm1.cells rRrm1.slots s₁ (mkF m 13 #[iv k] [])
      obtain ⟨T2, X2, e2, st2⟩ := getS2 X0 hx hZ hown (host := "") (Or.inl (hw _ (List.mem_of_getElem? (i := 36) rfl))) Via.refl e0 p_1 (g := (mkF m 13 #[iv k] [])) rfl (hb hby d1_13)
      refine own_st st2 ?_
      show own_Goes p e below s (Q1 Z k s0 s1 s2 s3 s4 s5 s6 s7 s8 s9 s10 s11 s12 s13 s14 s15 s16 t0 t1 t2 t3 t4 t5 t6 t7 t8 t9 t10 t11 t12 t13 t14 h0 n0) rRrm1.cells rRrm1.slots T2 (mkF m 16 #[iv k] [(.ref s1)])
      refine own_retA X2 hx hlk rfl Bd.returns rfl (hb hby d1_16) (by decide) (by decide) ?_
      show Q1 Z k s0 s1 s2 s3 s4 s5 s6 s7 s8 s9 s10 s11 s12 s13 s14 s15 s16 t0 t1 t2 t3 t4 t5 t6 t7 t8 t9 t10 t11 t12 t13 t14 h0 n0 (some (.ref s1)) T2.heap _
      rw [e2]
      exact ⟨s1, (.ref t1), rfl, N0, rfl, p_18, p_35, rfl, Or.inl ⟨by unfold own_nk; (revert hk q0 q1; simp only [Int32.lt_iff_toInt_lt, Int32.le_iff_toInt_le, ← Int32.toInt_inj, Int32.reduceToInt, Int64.lt_iff_toInt_lt, Int64.le_iff_toInt_le, ← Int64.toInt_inj, Int64.reduceToInt]; omega), Or.inr (Or.inr (Or.inl rfl))⟩⟩
    · refine own_st (fun _ kk_ => XS.icmpYes X0.here hx rfl (pc0 := 10) (pc' := 17) rfl (hb hby d1_10) rfl (XT.ii_ne_t q1) (by decide) (by decide) (XS.iloadN X0.here hx rfl (hb hby d1_17) rfl (XS.iconst X0.here hx rfl (hb hby d1_18) kk_))) ?_
      show own_Goes p e below s (Q1 Z k s0 s1 s2 s3 s4 s5 s6 s7 s8 s9 s10 s11 s12 s13 s14 s15 s16 t0 t1 t2 t3 t4 t5 t6 t7 t8 t9 t10 t11 t12 t13 t14 h0 n0) rRrm1.cells rRrm1.slots s₁ (mkF m 19 #[iv k] [(.int (2 : Int32)), (.int k)])
      rcases Classical.em (k = (2 : Int32)) with q2 | q2
      · refine own_st (fun _ kk_ => XS.icmpNo X0.here hx rfl (hb hby d1_19) rfl (XT.ii_ne_f q2) kk_) ?_
        show own_Goes p e below s (Q1 Z k s0 s1 s2 s3 s4 s5 s6 s7 s8 s9 s10 s11 s12 s13 s14 s15 s16 t0 t1 t2 t3 t4 t5 t6 t7 t8 t9 t10 t11 t12 t13 t14 h0 n0) rRrm1.cells rRrm1.slots s₁ (mkF m 22 #[iv k] [])
        obtain ⟨T3, X3, e3, st3⟩ := getS2 X0 hx hZ hown (host := "") (Or.inl (hw _ (List.mem_of_getElem? (i := 32) rfl))) Via.refl e0 p_2 (g := (mkF m 22 #[iv k] [])) rfl (hb hby d1_22)
        refine own_st st3 ?_
        show own_Goes p e below s (Q1 Z k s0 s1 s2 s3 s4 s5 s6 s7 s8 s9 s10 s11 s12 s13 s14 s15 s16 t0 t1 t2 t3 t4 t5 t6 t7 t8 t9 t10 t11 t12 t13 t14 h0 n0) rRrm1.cells rRrm1.slots T3 (mkF m 25 #[iv k] [(.ref s2)])
        refine own_retA X3 hx hlk rfl Bd.returns rfl (hb hby d1_25) (by decide) (by decide) ?_
        show Q1 Z k s0 s1 s2 s3 s4 s5 s6 s7 s8 s9 s10 s11 s12 s13 s14 s15 s16 t0 t1 t2 t3 t4 t5 t6 t7 t8 t9 t10 t11 t12 t13 t14 h0 n0 (some (.ref s2)) T3.heap _
        rw [e3]
        exact ⟨s2, (.ref t2), rfl, N0, rfl, p_19, p_36, rfl, Or.inr ⟨by unfold own_nk; (revert hk q0 q1 q2; simp only [Int32.lt_iff_toInt_lt, Int32.le_iff_toInt_le, ← Int32.toInt_inj, Int32.reduceToInt, Int64.lt_iff_toInt_lt, Int64.le_iff_toInt_le, ← Int64.toInt_inj, Int64.reduceToInt]; omega), nofun, p_51, p_52, p_53⟩⟩
      · refine own_st (fun _ kk_ => XS.icmpYes X0.here hx rfl (pc0 := 19) (pc' := 26) rfl (hb hby d1_19) rfl (XT.ii_ne_t q2) (by decide) (by decide) (XS.iloadN X0.here hx rfl (hb hby d1_26) rfl (XS.iconst X0.here hx rfl (hb hby d1_27) kk_))) ?_
        show own_Goes p e below s (Q1 Z k s0 s1 s2 s3 s4 s5 s6 s7 s8 s9 s10 s11 s12 s13 s14 s15 s16 t0 t1 t2 t3 t4 t5 t6 t7 t8 t9 t10 t11 t12 t13 t14 h0 n0) rRrm1.cells rRrm1.slots s₁ (mkF m 28 #[iv k] [(.int (3 : Int32)), (.int k)])
        rcases Classical.em (k = (3 : Int32)) with q3 | q3
        · refine own_st (fun _ kk_ => XS.icmpNo X0.here hx rfl (hb hby d1_28) rfl (XT.ii_ne_f q3) kk_) ?_
          show own_Goes p e below s (Q1 Z k s0 s1 s2 s3 s4 s5 s6 s7 s8 s9 s10 s11 s12 s13 s14 s15 s16 t0 t1 t2 t3 t4 t5 t6 t7 t8 t9 t10 t11 t12 t13 t14 h0 n0) rRrm1.cells rRrm1.slots s₁ (mkF m 31 #[iv k] [])
          obtain ⟨T4, X4, e4, st4⟩ := getS2 X0 hx hZ hown (host := "") (Or.inl (hw _ (List.mem_of_getElem? (i := 21) rfl))) Via.refl e0 p_3 (g := (mkF m 31 #[iv k] [])) rfl (hb hby d1_31)
          refine own_st st4 ?_
          show own_Goes p e below s (Q1 Z k s0 s1 s2 s3 s4 s5 s6 s7 s8 s9 s10 s11 s12 s13 s14 s15 s16 t0 t1 t2 t3 t4 t5 t6 t7 t8 t9 t10 t11 t12 t13 t14 h0 n0) rRrm1.cells rRrm1.slots T4 (mkF m 34 #[iv k] [(.ref s3)])
          refine own_retA X4 hx hlk rfl Bd.returns rfl (hb hby d1_34) (by decide) (by decide) ?_
          show Q1 Z k s0 s1 s2 s3 s4 s5 s6 s7 s8 s9 s10 s11 s12 s13 s14 s15 s16 t0 t1 t2 t3 t4 t5 t6 t7 t8 t9 t10 t11 t12 t13 t14 h0 n0 (some (.ref s3)) T4.heap _
          rw [e4]
          exact ⟨s3, (.ref t3), rfl, N0, rfl, p_20, p_37, rfl, Or.inr ⟨by unfold own_nk; (revert hk q0 q1 q2 q3; simp only [Int32.lt_iff_toInt_lt, Int32.le_iff_toInt_le, ← Int32.toInt_inj, Int32.reduceToInt, Int64.lt_iff_toInt_lt, Int64.le_iff_toInt_le, ← Int64.toInt_inj, Int64.reduceToInt]; omega), nofun, p_54, p_55, p_56⟩⟩
        · refine own_st (fun _ kk_ => XS.icmpYes X0.here hx rfl (pc0 := 28) (pc' := 35) rfl (hb hby d1_28) rfl (XT.ii_ne_t q3) (by decide) (by decide) (XS.iloadN X0.here hx rfl (hb hby d1_35) rfl (XS.iconst X0.here hx rfl (hb hby d1_36) kk_))) ?_
          show own_Goes p e below s (Q1 Z k s0 s1 s2 s3 s4 s5 s6 s7 s8 s9 s10 s11 s12 s13 s14 s15 s16 t0 t1 t2 t3 t4 t5 t6 t7 t8 t9 t10 t11 t12 t13 t14 h0 n0) rRrm1.cells rRrm1.slots s₁ (mkF m 37 #[iv k] [(.int (4 : Int32)), (.int k)])
          rcases Classical.em (k = (4 : Int32)) with q4 | q4
          · refine own_st (fun _ kk_ => XS.icmpNo X0.here hx rfl (hb hby d1_37) rfl (XT.ii_ne_f q4) kk_) ?_
            show own_Goes p e below s (Q1 Z k s0 s1 s2 s3 s4 s5 s6 s7 s8 s9 s10 s11 s12 s13 s14 s15 s16 t0 t1 t2 t3 t4 t5 t6 t7 t8 t9 t10 t11 t12 t13 t14 h0 n0) rRrm1.cells rRrm1.slots s₁ (mkF m 40 #[iv k] [])
            obtain ⟨T5, X5, e5, st5⟩ := getS2 X0 hx hZ hown (host := "") (Or.inl (hw _ (List.mem_of_getElem? (i := 39) rfl))) Via.refl e0 p_4 (g := (mkF m 40 #[iv k] [])) rfl (hb hby d1_40)
            refine own_st st5 ?_
            show own_Goes p e below s (Q1 Z k s0 s1 s2 s3 s4 s5 s6 s7 s8 s9 s10 s11 s12 s13 s14 s15 s16 t0 t1 t2 t3 t4 t5 t6 t7 t8 t9 t10 t11 t12 t13 t14 h0 n0) rRrm1.cells rRrm1.slots T5 (mkF m 43 #[iv k] [(.ref s4)])
            refine own_retA X5 hx hlk rfl Bd.returns rfl (hb hby d1_43) (by decide) (by decide) ?_
            show Q1 Z k s0 s1 s2 s3 s4 s5 s6 s7 s8 s9 s10 s11 s12 s13 s14 s15 s16 t0 t1 t2 t3 t4 t5 t6 t7 t8 t9 t10 t11 t12 t13 t14 h0 n0 (some (.ref s4)) T5.heap _
            rw [e5]
            exact ⟨s4, (.ref t4), rfl, N0, rfl, p_21, p_38, rfl, Or.inr ⟨by unfold own_nk; (revert hk q0 q1 q2 q3 q4; simp only [Int32.lt_iff_toInt_lt, Int32.le_iff_toInt_le, ← Int32.toInt_inj, Int32.reduceToInt, Int64.lt_iff_toInt_lt, Int64.le_iff_toInt_le, ← Int64.toInt_inj, Int64.reduceToInt]; omega), nofun, p_57, p_58, p_59⟩⟩
          · refine own_st (fun _ kk_ => XS.icmpYes X0.here hx rfl (pc0 := 37) (pc' := 44) rfl (hb hby d1_37) rfl (XT.ii_ne_t q4) (by decide) (by decide) (XS.iloadN X0.here hx rfl (hb hby d1_44) rfl (XS.iconst X0.here hx rfl (hb hby d1_45) kk_))) ?_
            show own_Goes p e below s (Q1 Z k s0 s1 s2 s3 s4 s5 s6 s7 s8 s9 s10 s11 s12 s13 s14 s15 s16 t0 t1 t2 t3 t4 t5 t6 t7 t8 t9 t10 t11 t12 t13 t14 h0 n0) rRrm1.cells rRrm1.slots s₁ (mkF m 46 #[iv k] [(.int (5 : Int32)), (.int k)])
            rcases Classical.em (k = (5 : Int32)) with q5 | q5
            · refine own_st (fun _ kk_ => XS.icmpNo X0.here hx rfl (hb hby d1_46) rfl (XT.ii_ne_f q5) kk_) ?_
              show own_Goes p e below s (Q1 Z k s0 s1 s2 s3 s4 s5 s6 s7 s8 s9 s10 s11 s12 s13 s14 s15 s16 t0 t1 t2 t3 t4 t5 t6 t7 t8 t9 t10 t11 t12 t13 t14 h0 n0) rRrm1.cells rRrm1.slots s₁ (mkF m 49 #[iv k] [])
              obtain ⟨T6, X6, e6, st6⟩ := getS2 X0 hx hZ hown (host := "") (Or.inl (hw _ (List.mem_of_getElem? (i := 47) rfl))) Via.refl e0 p_5 (g := (mkF m 49 #[iv k] [])) rfl (hb hby d1_49)
              refine own_st st6 ?_
              show own_Goes p e below s (Q1 Z k s0 s1 s2 s3 s4 s5 s6 s7 s8 s9 s10 s11 s12 s13 s14 s15 s16 t0 t1 t2 t3 t4 t5 t6 t7 t8 t9 t10 t11 t12 t13 t14 h0 n0) rRrm1.cells rRrm1.slots T6 (mkF m 52 #[iv k] [(.ref s5)])
              refine own_retA X6 hx hlk rfl Bd.returns rfl (hb hby d1_52) (by decide) (by decide) ?_
              show Q1 Z k s0 s1 s2 s3 s4 s5 s6 s7 s8 s9 s10 s11 s12 s13 s14 s15 s16 t0 t1 t2 t3 t4 t5 t6 t7 t8 t9 t10 t11 t12 t13 t14 h0 n0 (some (.ref s5)) T6.heap _
              rw [e6]
              exact ⟨s5, (.ref t5), rfl, N0, rfl, p_22, p_39, rfl, Or.inr ⟨by unfold own_nk; (revert hk q0 q1 q2 q3 q4 q5; simp only [Int32.lt_iff_toInt_lt, Int32.le_iff_toInt_le, ← Int32.toInt_inj, Int32.reduceToInt, Int64.lt_iff_toInt_lt, Int64.le_iff_toInt_le, ← Int64.toInt_inj, Int64.reduceToInt]; omega), nofun, p_60, p_61, p_62⟩⟩
            · refine own_st (fun _ kk_ => XS.icmpYes X0.here hx rfl (pc0 := 46) (pc' := 53) rfl (hb hby d1_46) rfl (XT.ii_ne_t q5) (by decide) (by decide) (XS.iloadN X0.here hx rfl (hb hby d1_53) rfl (XS.bipush X0.here hx rfl (hb hby d1_54) kk_))) ?_
              show own_Goes p e below s (Q1 Z k s0 s1 s2 s3 s4 s5 s6 s7 s8 s9 s10 s11 s12 s13 s14 s15 s16 t0 t1 t2 t3 t4 t5 t6 t7 t8 t9 t10 t11 t12 t13 t14 h0 n0) rRrm1.cells rRrm1.slots s₁ (mkF m 56 #[iv k] [(.int (6 : Int32)), (.int k)])
              rcases Classical.em (k = (6 : Int32)) with q6 | q6
              · refine own_st (fun _ kk_ => XS.icmpNo X0.here hx rfl (hb hby d1_56) rfl (XT.ii_ne_f q6) kk_) ?_
                show own_Goes p e below s (Q1 Z k s0 s1 s2 s3 s4 s5 s6 s7 s8 s9 s10 s11 s12 s13 s14 s15 s16 t0 t1 t2 t3 t4 t5 t6 t7 t8 t9 t10 t11 t12 t13 t14 h0 n0) rRrm1.cells rRrm1.slots s₁ (mkF m 59 #[iv k] [])
                obtain ⟨T7, X7, e7, st7⟩ := getS2 X0 hx hZ hown (host := "") (Or.inl (hw _ (List.mem_of_getElem? (i := 28) rfl))) Via.refl e0 p_6 (g := (mkF m 59 #[iv k] [])) rfl (hb hby d1_59)
                refine own_st st7 ?_
                show own_Goes p e below s (Q1 Z k s0 s1 s2 s3 s4 s5 s6 s7 s8 s9 s10 s11 s12 s13 s14 s15 s16 t0 t1 t2 t3 t4 t5 t6 t7 t8 t9 t10 t11 t12 t13 t14 h0 n0) rRrm1.cells rRrm1.slots T7 (mkF m 62 #[iv k] [(.ref s6)])
                refine own_retA X7 hx hlk rfl Bd.returns rfl (hb hby d1_62) (by decide) (by decide) ?_
                show Q1 Z k s0 s1 s2 s3 s4 s5 s6 s7 s8 s9 s10 s11 s12 s13 s14 s15 s16 t0 t1 t2 t3 t4 t5 t6 t7 t8 t9 t10 t11 t12 t13 t14 h0 n0 (some (.ref s6)) T7.heap _
                rw [e7]
                exact ⟨s6, (.ref t6), rfl, N0, rfl, p_23, p_40, rfl, Or.inr ⟨by unfold own_nk; (revert hk q0 q1 q2 q3 q4 q5 q6; simp only [Int32.lt_iff_toInt_lt, Int32.le_iff_toInt_le, ← Int32.toInt_inj, Int32.reduceToInt, Int64.lt_iff_toInt_lt, Int64.le_iff_toInt_le, ← Int64.toInt_inj, Int64.reduceToInt]; omega), nofun, p_63, p_64, p_65⟩⟩
              · refine own_st (fun _ kk_ => XS.icmpYes X0.here hx rfl (pc0 := 56) (pc' := 63) rfl (hb hby d1_56) rfl (XT.ii_ne_t q6) (by decide) (by decide) (XS.iloadN X0.here hx rfl (hb hby d1_63) rfl (XS.bipush X0.here hx rfl (hb hby d1_64) kk_))) ?_
                show own_Goes p e below s (Q1 Z k s0 s1 s2 s3 s4 s5 s6 s7 s8 s9 s10 s11 s12 s13 s14 s15 s16 t0 t1 t2 t3 t4 t5 t6 t7 t8 t9 t10 t11 t12 t13 t14 h0 n0) rRrm1.cells rRrm1.slots s₁ (mkF m 66 #[iv k] [(.int (7 : Int32)), (.int k)])
                rcases Classical.em (k = (7 : Int32)) with q7 | q7
                · refine own_st (fun _ kk_ => XS.icmpNo X0.here hx rfl (hb hby d1_66) rfl (XT.ii_ne_f q7) kk_) ?_
                  show own_Goes p e below s (Q1 Z k s0 s1 s2 s3 s4 s5 s6 s7 s8 s9 s10 s11 s12 s13 s14 s15 s16 t0 t1 t2 t3 t4 t5 t6 t7 t8 t9 t10 t11 t12 t13 t14 h0 n0) rRrm1.cells rRrm1.slots s₁ (mkF m 69 #[iv k] [])
                  obtain ⟨T8, X8, e8, st8⟩ := getS2 X0 hx hZ hown (host := "") (Or.inl (hw _ (List.mem_of_getElem? (i := 30) rfl))) Via.refl e0 p_7 (g := (mkF m 69 #[iv k] [])) rfl (hb hby d1_69)
                  refine own_st st8 ?_
                  show own_Goes p e below s (Q1 Z k s0 s1 s2 s3 s4 s5 s6 s7 s8 s9 s10 s11 s12 s13 s14 s15 s16 t0 t1 t2 t3 t4 t5 t6 t7 t8 t9 t10 t11 t12 t13 t14 h0 n0) rRrm1.cells rRrm1.slots T8 (mkF m 72 #[iv k] [(.ref s7)])
                  refine own_retA X8 hx hlk rfl Bd.returns rfl (hb hby d1_72) (by decide) (by decide) ?_
                  show Q1 Z k s0 s1 s2 s3 s4 s5 s6 s7 s8 s9 s10 s11 s12 s13 s14 s15 s16 t0 t1 t2 t3 t4 t5 t6 t7 t8 t9 t10 t11 t12 t13 t14 h0 n0 (some (.ref s7)) T8.heap _
                  rw [e8]
                  exact ⟨s7, (.ref t7), rfl, N0, rfl, p_24, p_41, rfl, Or.inr ⟨by unfold own_nk; (revert hk q0 q1 q2 q3 q4 q5 q6 q7; simp only [Int32.lt_iff_toInt_lt, Int32.le_iff_toInt_le, ← Int32.toInt_inj, Int32.reduceToInt, Int64.lt_iff_toInt_lt, Int64.le_iff_toInt_le, ← Int64.toInt_inj, Int64.reduceToInt]; omega), nofun, p_66, p_67, p_68⟩⟩
                · refine own_st (fun _ kk_ => XS.icmpYes X0.here hx rfl (pc0 := 66) (pc' := 73) rfl (hb hby d1_66) rfl (XT.ii_ne_t q7) (by decide) (by decide) (XS.iloadN X0.here hx rfl (hb hby d1_73) rfl (XS.bipush X0.here hx rfl (hb hby d1_74) kk_))) ?_
                  show own_Goes p e below s (Q1 Z k s0 s1 s2 s3 s4 s5 s6 s7 s8 s9 s10 s11 s12 s13 s14 s15 s16 t0 t1 t2 t3 t4 t5 t6 t7 t8 t9 t10 t11 t12 t13 t14 h0 n0) rRrm1.cells rRrm1.slots s₁ (mkF m 76 #[iv k] [(.int (8 : Int32)), (.int k)])
                  rcases Classical.em (k = (8 : Int32)) with q8 | q8
                  · refine own_st (fun _ kk_ => XS.icmpNo X0.here hx rfl (hb hby d1_76) rfl (XT.ii_ne_f q8) kk_) ?_
                    show own_Goes p e below s (Q1 Z k s0 s1 s2 s3 s4 s5 s6 s7 s8 s9 s10 s11 s12 s13 s14 s15 s16 t0 t1 t2 t3 t4 t5 t6 t7 t8 t9 t10 t11 t12 t13 t14 h0 n0) rRrm1.cells rRrm1.slots s₁ (mkF m 79 #[iv k] [])
                    obtain ⟨T9, X9, e9, st9⟩ := getS2 X0 hx hZ hown (host := "") (Or.inl (hw _ (List.mem_of_getElem? (i := 25) rfl))) Via.refl e0 p_8 (g := (mkF m 79 #[iv k] [])) rfl (hb hby d1_79)
                    refine own_st st9 ?_
                    show own_Goes p e below s (Q1 Z k s0 s1 s2 s3 s4 s5 s6 s7 s8 s9 s10 s11 s12 s13 s14 s15 s16 t0 t1 t2 t3 t4 t5 t6 t7 t8 t9 t10 t11 t12 t13 t14 h0 n0) rRrm1.cells rRrm1.slots T9 (mkF m 82 #[iv k] [(.ref s8)])
                    refine own_retA X9 hx hlk rfl Bd.returns rfl (hb hby d1_82) (by decide) (by decide) ?_
                    show Q1 Z k s0 s1 s2 s3 s4 s5 s6 s7 s8 s9 s10 s11 s12 s13 s14 s15 s16 t0 t1 t2 t3 t4 t5 t6 t7 t8 t9 t10 t11 t12 t13 t14 h0 n0 (some (.ref s8)) T9.heap _
                    rw [e9]
                    exact ⟨s8, (.ref t8), rfl, N0, rfl, p_25, p_42, rfl, Or.inr ⟨by unfold own_nk; (revert hk q0 q1 q2 q3 q4 q5 q6 q7 q8; simp only [Int32.lt_iff_toInt_lt, Int32.le_iff_toInt_le, ← Int32.toInt_inj, Int32.reduceToInt, Int64.lt_iff_toInt_lt, Int64.le_iff_toInt_le, ← Int64.toInt_inj, Int64.reduceToInt]; omega), nofun, p_69, p_70, p_71⟩⟩
                  · refine own_st (fun _ kk_ => XS.icmpYes X0.here hx rfl (pc0 := 76) (pc' := 83) rfl (hb hby d1_76) rfl (XT.ii_ne_t q8) (by decide) (by decide) (XS.iloadN X0.here hx rfl (hb hby d1_83) rfl (XS.bipush X0.here hx rfl (hb hby d1_84) kk_))) ?_
                    show own_Goes p e below s (Q1 Z k s0 s1 s2 s3 s4 s5 s6 s7 s8 s9 s10 s11 s12 s13 s14 s15 s16 t0 t1 t2 t3 t4 t5 t6 t7 t8 t9 t10 t11 t12 t13 t14 h0 n0) rRrm1.cells rRrm1.slots s₁ (mkF m 86 #[iv k] [(.int (9 : Int32)), (.int k)])
                    rcases Classical.em (k = (9 : Int32)) with q9 | q9
                    · refine own_st (fun _ kk_ => XS.icmpNo X0.here hx rfl (hb hby d1_86) rfl (XT.ii_ne_f q9) kk_) ?_
                      show own_Goes p e below s (Q1 Z k s0 s1 s2 s3 s4 s5 s6 s7 s8 s9 s10 s11 s12 s13 s14 s15 s16 t0 t1 t2 t3 t4 t5 t6 t7 t8 t9 t10 t11 t12 t13 t14 h0 n0) rRrm1.cells rRrm1.slots s₁ (mkF m 89 #[iv k] [])
                      obtain ⟨T10, X10, e10, st10⟩ := getS2 X0 hx hZ hown (host := "") (Or.inl (hw _ (List.mem_of_getElem? (i := 27) rfl))) Via.refl e0 p_9 (g := (mkF m 89 #[iv k] [])) rfl (hb hby d1_89)
                      refine own_st st10 ?_
                      show own_Goes p e below s (Q1 Z k s0 s1 s2 s3 s4 s5 s6 s7 s8 s9 s10 s11 s12 s13 s14 s15 s16 t0 t1 t2 t3 t4 t5 t6 t7 t8 t9 t10 t11 t12 t13 t14 h0 n0) rRrm1.cells rRrm1.slots T10 (mkF m 92 #[iv k] [(.ref s9)])
                      refine own_retA X10 hx hlk rfl Bd.returns rfl (hb hby d1_92) (by decide) (by decide) ?_
                      show Q1 Z k s0 s1 s2 s3 s4 s5 s6 s7 s8 s9 s10 s11 s12 s13 s14 s15 s16 t0 t1 t2 t3 t4 t5 t6 t7 t8 t9 t10 t11 t12 t13 t14 h0 n0 (some (.ref s9)) T10.heap _
                      rw [e10]
                      exact ⟨s9, (.ref t9), rfl, N0, rfl, p_26, p_43, rfl, Or.inl ⟨by unfold own_nk; (revert hk q0 q1 q2 q3 q4 q5 q6 q7 q8 q9; simp only [Int32.lt_iff_toInt_lt, Int32.le_iff_toInt_le, ← Int32.toInt_inj, Int32.reduceToInt, Int64.lt_iff_toInt_lt, Int64.le_iff_toInt_le, ← Int64.toInt_inj, Int64.reduceToInt]; omega), Or.inr (Or.inr (Or.inr rfl))⟩⟩
                    · refine own_st (fun _ kk_ => XS.icmpYes X0.here hx rfl (pc0 := 86) (pc' := 93) rfl (hb hby d1_86) rfl (XT.ii_ne_t q9) (by decide) (by decide) (XS.iloadN X0.here hx rfl (hb hby d1_93) rfl (XS.bipush X0.here hx rfl (hb hby d1_94) kk_))) ?_
                      show own_Goes p e below s (Q1 Z k s0 s1 s2 s3 s4 s5 s6 s7 s8 s9 s10 s11 s12 s13 s14 s15 s16 t0 t1 t2 t3 t4 t5 t6 t7 t8 t9 t10 t11 t12 t13 t14 h0 n0) rRrm1.cells rRrm1.slots s₁ (mkF m 96 #[iv k] [(.int (10 : Int32)), (.int k)])
                      rcases Classical.em (k = (10 : Int32)) with q10 | q10
                      · refine own_st (fun _ kk_ => XS.icmpNo X0.here hx rfl (hb hby d1_96) rfl (XT.ii_ne_f q10) kk_) ?_
                        show own_Goes p e below s (Q1 Z k s0 s1 s2 s3 s4 s5 s6 s7 s8 s9 s10 s11 s12 s13 s14 s15 s16 t0 t1 t2 t3 t4 t5 t6 t7 t8 t9 t10 t11 t12 t13 t14 h0 n0) rRrm1.cells rRrm1.slots s₁ (mkF m 99 #[iv k] [])
                        obtain ⟨T11, X11, e11, st11⟩ := getS2 X0 hx hZ hown (host := "") (Or.inl (hw _ (List.mem_of_getElem? (i := 41) rfl))) Via.refl e0 p_10 (g := (mkF m 99 #[iv k] [])) rfl (hb hby d1_99)
                        refine own_st st11 ?_
                        show own_Goes p e below s (Q1 Z k s0 s1 s2 s3 s4 s5 s6 s7 s8 s9 s10 s11 s12 s13 s14 s15 s16 t0 t1 t2 t3 t4 t5 t6 t7 t8 t9 t10 t11 t12 t13 t14 h0 n0) rRrm1.cells rRrm1.slots T11 (mkF m 102 #[iv k] [(.ref s10)])
                        refine own_retA X11 hx hlk rfl Bd.returns rfl (hb hby d1_102) (by decide) (by decide) ?_
                        show Q1 Z k s0 s1 s2 s3 s4 s5 s6 s7 s8 s9 s10 s11 s12 s13 s14 s15 s16 t0 t1 t2 t3 t4 t5 t6 t7 t8 t9 t10 t11 t12 t13 t14 h0 n0 (some (.ref s10)) T11.heap _
                        rw [e11]
                        exact ⟨s10, (.ref t10), rfl, N0, rfl, p_27, p_44, rfl, Or.inr ⟨by unfold own_nk; (revert hk q0 q1 q2 q3 q4 q5 q6 q7 q8 q9 q10; simp only [Int32.lt_iff_toInt_lt, Int32.le_iff_toInt_le, ← Int32.toInt_inj, Int32.reduceToInt, Int64.lt_iff_toInt_lt, Int64.le_iff_toInt_le, ← Int64.toInt_inj, Int64.reduceToInt]; omega), nofun, p_72, p_73, p_74⟩⟩
                      · refine own_st (fun _ kk_ => XS.icmpYes X0.here hx rfl (pc0 := 96) (pc' := 103) rfl (hb hby d1_96) rfl (XT.ii_ne_t q10) (by decide) (by decide) (XS.iloadN X0.here hx rfl (hb hby d1_103) rfl (XS.bipush X0.here hx rfl (hb hby d1_104) kk_))) ?_
                        show own_Goes p e below s (Q1 Z k s0 s1 s2 s3 s4 s5 s6 s7 s8 s9 s10 s11 s12 s13 s14 s15 s16 t0 t1 t2 t3 t4 t5 t6 t7 t8 t9 t10 t11 t12 t13 t14 h0 n0) rRrm1.cells rRrm1.slots s₁ (mkF m 106 #[iv k] [(.int (11 : Int32)), (.int k)])
                        rcases Classical.em (k = (11 : Int32)) with q11 | q11
                        · refine own_st (fun _ kk_ => XS.icmpNo X0.here hx rfl (hb hby d1_106) rfl (XT.ii_ne_f q11) kk_) ?_
                          show own_Goes p e below s (Q1 Z k s0 s1 s2 s3 s4 s5 s6 s7 s8 s9 s10 s11 s12 s13 s14 s15 s16 t0 t1 t2 t3 t4 t5 t6 t7 t8 t9 t10 t11 t12 t13 t14 h0 n0) rRrm1.cells rRrm1.slots s₁ (mkF m 109 #[iv k] [])
                          obtain ⟨T12, X12, e12, st12⟩ := getS2 X0 hx hZ hown (host := "") (Or.inl (hw _ (List.mem_of_getElem? (i := 34) rfl))) Via.refl e0 p_11 (g := (mkF m 109 #[iv k] [])) rfl (hb hby d1_109)
                          refine own_st st12 ?_
                          show own_Goes p e below s (Q1 Z k s0 s1 s2 s3 s4 s5 s6 s7 s8 s9 s10 s11 s12 s13 s14 s15 s16 t0 t1 t2 t3 t4 t5 t6 t7 t8 t9 t10 t11 t12 t13 t14 h0 n0) rRrm1.cells rRrm1.slots T12 (mkF m 112 #[iv k] [(.ref s11)])
                          refine own_retA X12 hx hlk rfl Bd.returns rfl (hb hby d1_112) (by decide) (by decide) ?_
                          show Q1 Z k s0 s1 s2 s3 s4 s5 s6 s7 s8 s9 s10 s11 s12 s13 s14 s15 s16 t0 t1 t2 t3 t4 t5 t6 t7 t8 t9 t10 t11 t12 t13 t14 h0 n0 (some (.ref s11)) T12.heap _
                          rw [e12]
                          exact ⟨s11, (.ref t11), rfl, N0, rfl, p_28, p_45, rfl, Or.inr ⟨by unfold own_nk; (revert hk q0 q1 q2 q3 q4 q5 q6 q7 q8 q9 q10 q11; simp only [Int32.lt_iff_toInt_lt, Int32.le_iff_toInt_le, ← Int32.toInt_inj, Int32.reduceToInt, Int64.lt_iff_toInt_lt, Int64.le_iff_toInt_le, ← Int64.toInt_inj, Int64.reduceToInt]; omega), nofun, p_75, p_76, p_77⟩⟩
                        · refine own_st (fun _ kk_ => XS.icmpYes X0.here hx rfl (pc0 := 106) (pc' := 113) rfl (hb hby d1_106) rfl (XT.ii_ne_t q11) (by decide) (by decide) (XS.iloadN X0.here hx rfl (hb hby d1_113) rfl (XS.bipush X0.here hx rfl (hb hby d1_114) kk_))) ?_
                          show own_Goes p e below s (Q1 Z k s0 s1 s2 s3 s4 s5 s6 s7 s8 s9 s10 s11 s12 s13 s14 s15 s16 t0 t1 t2 t3 t4 t5 t6 t7 t8 t9 t10 t11 t12 t13 t14 h0 n0) rRrm1.cells rRrm1.slots s₁ (mkF m 116 #[iv k] [(.int (12 : Int32)), (.int k)])
                          rcases Classical.em (k = (12 : Int32)) with q12 | q12
                          · refine own_st (fun _ kk_ => XS.icmpNo X0.here hx rfl (hb hby d1_116) rfl (XT.ii_ne_f q12) kk_) ?_
                            show own_Goes p e below s (Q1 Z k s0 s1 s2 s3 s4 s5 s6 s7 s8 s9 s10 s11 s12 s13 s14 s15 s16 t0 t1 t2 t3 t4 t5 t6 t7 t8 t9 t10 t11 t12 t13 t14 h0 n0) rRrm1.cells rRrm1.slots s₁ (mkF m 119 #[iv k] [])
                            obtain ⟨T13, X13, e13, st13⟩ := getS2 X0 hx hZ hown (host := "") (Or.inl (hw _ (List.mem_of_getElem? (i := 51) rfl))) Via.refl e0 p_12 (g := (mkF m 119 #[iv k] [])) rfl (hb hby d1_119)
                            refine own_st st13 ?_
                            show own_Goes p e below s (Q1 Z k s0 s1 s2 s3 s4 s5 s6 s7 s8 s9 s10 s11 s12 s13 s14 s15 s16 t0 t1 t2 t3 t4 t5 t6 t7 t8 t9 t10 t11 t12 t13 t14 h0 n0) rRrm1.cells rRrm1.slots T13 (mkF m 122 #[iv k] [(.ref s12)])
                            refine own_retA X13 hx hlk rfl Bd.returns rfl (hb hby d1_122) (by decide) (by decide) ?_
                            show Q1 Z k s0 s1 s2 s3 s4 s5 s6 s7 s8 s9 s10 s11 s12 s13 s14 s15 s16 t0 t1 t2 t3 t4 t5 t6 t7 t8 t9 t10 t11 t12 t13 t14 h0 n0 (some (.ref s12)) T13.heap _
                            rw [e13]
                            exact ⟨s12, (.ref t12), rfl, N0, rfl, p_29, p_46, rfl, Or.inr ⟨by unfold own_nk; (revert hk q0 q1 q2 q3 q4 q5 q6 q7 q8 q9 q10 q11 q12; simp only [Int32.lt_iff_toInt_lt, Int32.le_iff_toInt_le, ← Int32.toInt_inj, Int32.reduceToInt, Int64.lt_iff_toInt_lt, Int64.le_iff_toInt_le, ← Int64.toInt_inj, Int64.reduceToInt]; omega), nofun, p_78, p_79, p_80⟩⟩
                          · refine own_st (fun _ kk_ => XS.icmpYes X0.here hx rfl (pc0 := 116) (pc' := 123) rfl (hb hby d1_116) rfl (XT.ii_ne_t q12) (by decide) (by decide) (XS.iloadN X0.here hx rfl (hb hby d1_123) rfl (XS.bipush X0.here hx rfl (hb hby d1_124) kk_))) ?_
                            show own_Goes p e below s (Q1 Z k s0 s1 s2 s3 s4 s5 s6 s7 s8 s9 s10 s11 s12 s13 s14 s15 s16 t0 t1 t2 t3 t4 t5 t6 t7 t8 t9 t10 t11 t12 t13 t14 h0 n0) rRrm1.cells rRrm1.slots s₁ (mkF m 126 #[iv k] [(.int (13 : Int32)), (.int k)])
                            rcases Classical.em (k = (13 : Int32)) with q13 | q13
                            · refine own_st (fun _ kk_ => XS.icmpNo X0.here hx rfl (hb hby d1_126) rfl (XT.ii_ne_f q13) kk_) ?_
                              show own_Goes p e below s (Q1 Z k s0 s1 s2 s3 s4 s5 s6 s7 s8 s9 s10 s11 s12 s13 s14 s15 s16 t0 t1 t2 t3 t4 t5 t6 t7 t8 t9 t10 t11 t12 t13 t14 h0 n0) rRrm1.cells rRrm1.slots s₁ (mkF m 129 #[iv k] [])
                              obtain ⟨T14, X14, e14, st14⟩ := getS2 X0 hx hZ hown (host := "") (Or.inl (hw _ (List.mem_of_getElem? (i := 37) rfl))) Via.refl e0 p_13 (g := (mkF m 129 #[iv k] [])) rfl (hb hby d1_129)
                              refine own_st st14 ?_
                              show own_Goes p e below s (Q1 Z k s0 s1 s2 s3 s4 s5 s6 s7 s8 s9 s10 s11 s12 s13 s14 s15 s16 t0 t1 t2 t3 t4 t5 t6 t7 t8 t9 t10 t11 t12 t13 t14 h0 n0) rRrm1.cells rRrm1.slots T14 (mkF m 132 #[iv k] [(.ref s13)])
                              refine own_retA X14 hx hlk rfl Bd.returns rfl (hb hby d1_132) (by decide) (by decide) ?_
                              show Q1 Z k s0 s1 s2 s3 s4 s5 s6 s7 s8 s9 s10 s11 s12 s13 s14 s15 s16 t0 t1 t2 t3 t4 t5 t6 t7 t8 t9 t10 t11 t12 t13 t14 h0 n0 (some (.ref s13)) T14.heap _
                              rw [e14]
                              exact ⟨s13, (.ref t13), rfl, N0, rfl, p_30, p_47, rfl, Or.inr ⟨by unfold own_nk; (revert hk q0 q1 q2 q3 q4 q5 q6 q7 q8 q9 q10 q11 q12 q13; simp only [Int32.lt_iff_toInt_lt, Int32.le_iff_toInt_le, ← Int32.toInt_inj, Int32.reduceToInt, Int64.lt_iff_toInt_lt, Int64.le_iff_toInt_le, ← Int64.toInt_inj, Int64.reduceToInt]; omega), nofun, p_81, p_82, p_83⟩⟩
                            · refine own_st (fun _ kk_ => XS.icmpYes X0.here hx rfl (pc0 := 126) (pc' := 133) rfl (hb hby d1_126) rfl (XT.ii_ne_t q13) (by decide) (by decide) (XS.iloadN X0.here hx rfl (hb hby d1_133) rfl (XS.bipush X0.here hx rfl (hb hby d1_134) kk_))) ?_
                              show own_Goes p e below s (Q1 Z k s0 s1 s2 s3 s4 s5 s6 s7 s8 s9 s10 s11 s12 s13 s14 s15 s16 t0 t1 t2 t3 t4 t5 t6 t7 t8 t9 t10 t11 t12 t13 t14 h0 n0) rRrm1.cells rRrm1.slots s₁ (mkF m 136 #[iv k] [(.int (14 : Int32)), (.int k)])
                              rcases Classical.em (k = (14 : Int32)) with q14 | q14
                              · refine own_st (fun _ kk_ => XS.icmpNo X0.here hx rfl (hb hby d1_136) rfl (XT.ii_ne_f q14) kk_) ?_
                                show own_Goes p e below s (Q1 Z k s0 s1 s2 s3 s4 s5 s6 s7 s8 s9 s10 s11 s12 s13 s14 s15 s16 t0 t1 t2 t3 t4 t5 t6 t7 t8 t9 t10 t11 t12 t13 t14 h0 n0) rRrm1.cells rRrm1.slots s₁ (mkF m 139 #[iv k] [])
                                obtain ⟨T15, X15, e15, st15⟩ := getS2 X0 hx hZ hown (host := "") (Or.inl (hw _ (List.mem_of_getElem? (i := 49) rfl))) Via.refl e0 p_14 (g := (mkF m 139 #[iv k] [])) rfl (hb hby d1_139)
                                refine own_st st15 ?_
                                show own_Goes p e below s (Q1 Z k s0 s1 s2 s3 s4 s5 s6 s7 s8 s9 s10 s11 s12 s13 s14 s15 s16 t0 t1 t2 t3 t4 t5 t6 t7 t8 t9 t10 t11 t12 t13 t14 h0 n0) rRrm1.cells rRrm1.slots T15 (mkF m 142 #[iv k] [(.ref s14)])
                                refine own_retA X15 hx hlk rfl Bd.returns rfl (hb hby d1_142) (by decide) (by decide) ?_
                                show Q1 Z k s0 s1 s2 s3 s4 s5 s6 s7 s8 s9 s10 s11 s12 s13 s14 s15 s16 t0 t1 t2 t3 t4 t5 t6 t7 t8 t9 t10 t11 t12 t13 t14 h0 n0 (some (.ref s14)) T15.heap _
                                rw [e15]
                                exact ⟨s14, (.ref t14), rfl, N0, rfl, p_31, p_48, rfl, Or.inr ⟨by unfold own_nk; (revert hk q0 q1 q2 q3 q4 q5 q6 q7 q8 q9 q10 q11 q12 q13 q14; simp only [Int32.lt_iff_toInt_lt, Int32.le_iff_toInt_le, ← Int32.toInt_inj, Int32.reduceToInt, Int64.lt_iff_toInt_lt, Int64.le_iff_toInt_le, ← Int64.toInt_inj, Int64.reduceToInt]; omega), nofun, p_84, p_85, p_86⟩⟩
                              · refine own_st (fun _ kk_ => XS.icmpYes X0.here hx rfl (pc0 := 136) (pc' := 143) rfl (hb hby d1_136) rfl (XT.ii_ne_t q14) (by decide) (by decide) (XS.iloadN X0.here hx rfl (hb hby d1_143) rfl (XS.bipush X0.here hx rfl (hb hby d1_144) kk_))) ?_
                                show own_Goes p e below s (Q1 Z k s0 s1 s2 s3 s4 s5 s6 s7 s8 s9 s10 s11 s12 s13 s14 s15 s16 t0 t1 t2 t3 t4 t5 t6 t7 t8 t9 t10 t11 t12 t13 t14 h0 n0) rRrm1.cells rRrm1.slots s₁ (mkF m 146 #[iv k] [(.int (15 : Int32)), (.int k)])
                                rcases Classical.em (k = (15 : Int32)) with q15 | q15
                                · refine own_st (fun _ kk_ => XS.icmpNo X0.here hx rfl (hb hby d1_146) rfl (XT.ii_ne_f q15) kk_) ?_
                                  show own_Goes p e below s (Q1 Z k s0 s1 s2 s3 s4 s5 s6 s7 s8 s9 s10 s11 s12 s13 s14 s15 s16 t0 t1 t2 t3 t4 t5 t6 t7 t8 t9 t10 t11 t12 t13 t14 h0 n0) rRrm1.cells rRrm1.slots s₁ (mkF m 149 #[iv k] [])
                                  obtain ⟨T16, X16, e16, st16⟩ := getS2 X0 hx hZ hown (host := "") (Or.inl (hw _ (List.mem_of_getElem? (i := 45) rfl))) Via.refl e0 p_15 (g := (mkF m 149 #[iv k] [])) rfl (hb hby d1_149)
                                  refine own_st st16 ?_
                                  show own_Goes p e below s (Q1 Z k s0 s1 s2 s3 s4 s5 s6 s7 s8 s9 s10 s11 s12 s13 s14 s15 s16 t0 t1 t2 t3 t4 t5 t6 t7 t8 t9 t10 t11 t12 t13 t14 h0 n0) rRrm1.cells rRrm1.slots T16 (mkF m 152 #[iv k] [(.ref s15)])
                                  refine own_retA X16 hx hlk rfl Bd.returns rfl (hb hby d1_152) (by decide) (by decide) ?_
                                  show Q1 Z k s0 s1 s2 s3 s4 s5 s6 s7 s8 s9 s10 s11 s12 s13 s14 s15 s16 t0 t1 t2 t3 t4 t5 t6 t7 t8 t9 t10 t11 t12 t13 t14 h0 n0 (some (.ref s15)) T16.heap _
                                  rw [e16]
                                  exact ⟨s15, .null, rfl, N0, rfl, p_32, p_49, rfl, Or.inl ⟨by unfold own_nk; (revert hk q0 q1 q2 q3 q4 q5 q6 q7 q8 q9 q10 q11 q12 q13 q14 q15; simp only [Int32.lt_iff_toInt_lt, Int32.le_iff_toInt_le, ← Int32.toInt_inj, Int32.reduceToInt, Int64.lt_iff_toInt_lt, Int64.le_iff_toInt_le, ← Int64.toInt_inj, Int64.reduceToInt]; omega), Or.inl rfl⟩⟩
                                · refine own_st (fun _ kk_ => XS.icmpYes X0.here hx rfl (pc0 := 146) (pc' := 153) rfl (hb hby d1_146) rfl (XT.ii_ne_t q15) (by decide) (by decide) kk_) ?_
                                  show own_Goes p e below s (Q1 Z k s0 s1 s2 s3 s4 s5 s6 s7 s8 s9 s10 s11 s12 s13 s14 s15 s16 t0 t1 t2 t3 t4 t5 t6 t7 t8 t9 t10 t11 t12 t13 t14 h0 n0) rRrm1.cells rRrm1.slots s₁ (mkF m 153 #[iv k] [])
                                  obtain ⟨T17, X17, e17, st17⟩ := getS2 X0 hx hZ hown (host := "") (Or.inl (hw _ (List.mem_of_getElem? (i := 43) rfl))) Via.refl e0 p_16 (g := (mkF m 153 #[iv k] [])) rfl (hb hby d1_153)
                                  refine own_st st17 ?_
                                  show own_Goes p e below s (Q1 Z k s0 s1 s2 s3 s4 s5 s6 s7 s8 s9 s10 s11 s12 s13 s14 s15 s16 t0 t1 t2 t3 t4 t5 t6 t7 t8 t9 t10 t11 t12 t13 t14 h0 n0) rRrm1.cells rRrm1.slots T17 (mkF m 156 #[iv k] [(.ref s16)])
                                  refine own_retA X17 hx hlk rfl Bd.returns rfl (hb hby d1_156) (by decide) (by decide) ?_
                                  show Q1 Z k s0 s1 s2 s3 s4 s5 s6 s7 s8 s9 s10 s11 s12 s13 s14 s15 s16 t0 t1 t2 t3 t4 t5 t6 t7 t8 t9 t10 t11 t12 t13 t14 h0 n0 (some (.ref s16)) T17.heap _
                                  rw [e17]
                                  exact ⟨s16, .null, rfl, N0, rfl, p_33, p_50, rfl, Or.inl ⟨by unfold own_nk; (revert hk q0 q1 q2 q3 q4 q5 q6 q7 q8 q9 q10 q11 q12 q13 q14 q15; simp only [Int32.lt_iff_toInt_lt, Int32.le_iff_toInt_le, ← Int32.toInt_inj, Int32.reduceToInt, Int64.lt_iff_toInt_lt, Int64.le_iff_toInt_le, ← Int64.toInt_inj, Int64.reduceToInt]; omega), Or.inl rfl⟩⟩
abbrev rRrm2 : Room := { frames := 0, cells := 0, slots := 0, locals := 0 }
theorem d2_0 : decode prog_4_method_8_code 0 = .ok (.aload_n 0, 1) := by decide +kernel
theorem d2_1 : decode prog_4_method_8_code 1 = .ok (.getfield 74, 3) := by decide +kernel
theorem d2_4 : decode prog_4_method_8_code 4 = .ok (.ifnull 28, 3) := by decide +kernel
theorem d2_7 : decode prog_4_method_8_code 7 = .ok (.aload_n 0, 1) := by decide +kernel
theorem d2_8 : decode prog_4_method_8_code 8 = .ok (.getstatic 7, 3) := by decide +kernel
theorem d2_11 : decode prog_4_method_8_code 11 = .ok (.if_acmp .eq 21, 3) := by decide +kernel
theorem d2_14 : decode prog_4_method_8_code 14 = .ok (.aload_n 0, 1) := by decide +kernel
theorem d2_15 : decode prog_4_method_8_code 15 = .ok (.getstatic 3, 3) := by decide +kernel
theorem d2_18 : decode prog_4_method_8_code 18 = .ok (.if_acmp .eq 14, 3) := by decide +kernel
theorem d2_21 : decode prog_4_method_8_code 21 = .ok (.aload_n 0, 1) := by decide +kernel
theorem d2_22 : decode prog_4_method_8_code 22 = .ok (.getstatic 31, 3) := by decide +kernel
theorem d2_25 : decode prog_4_method_8_code 25 = .ok (.if_acmp .eq 7, 3) := by decide +kernel
theorem d2_28 : decode prog_4_method_8_code 28 = .ok (.iconst 1, 1) := by decide +kernel
theorem d2_29 : decode prog_4_method_8_code 29 = .ok (.goto 4, 3) := by decide +kernel
theorem d2_32 : decode prog_4_method_8_code 32 = .ok (.iconst 0, 1) := by decide +kernel
theorem d2_33 : decode prog_4_method_8_code 33 = .ok (.ireturn, 1) := by decide +kernel
theorem pn_rm2 : plainFor (⟨"com/example/wirefold/wirefold/FieldType", "mapKeyable", "()Z"⟩ : MethodName) = true := by first | exact plainFor_of_name (by first | (simp [plainName, overriddenIn]; done) | decide +kernel) | decide +kernel
theorem ef_rm2 (m : MethodId) (r : Addr) : entryFrame m #[(.ref r)] 1 = (mkF m 0 #[rv r] []) := by first | (simp [entryFrame, mkF, argsToLocals, Value.category]; done) | rfl
def Q2 (Z : State) (r : Addr) (kv : Value) (s0 : Addr) (s1 : Addr) (s9 : Addr) (h0 : Heap) (n0 : Nat) (v_ : Option Value) (h_ : Heap) (L_ : List Loc) : Prop := (v_ = some (.int (own_b (¬ (kv = .null ∨ r = s0 ∨ r = s1 ∨ r = s9))))) ∧ (Fr n0 L_) ∧ (h_ = h0)
set_option maxRecDepth 65536 in
set_option maxHeartbeats 40000000 in
theorem rm2 (l : Launch) (Z : State) (a0 : Array Value) (hw : ∀ d ∈ tables_1, d.before a0 Z = true) (ws : List Jvm.Cond) (r : Addr) (kv : Value) (s0 : Addr) (s1 : Addr) (s9 : Addr) (h0 : Heap) (n0 : Nat) (Z0 : n0 ≤ h0.size) (p_0 : Fld Z h0 r "com/example/wirefold/wirefold/FieldType" "keyword" "Ljava/lang/String;" kv) (p_1 : Sta Z h0 "com/example/wirefold/wirefold/FieldType" "DOUBLE" "Lcom/example/wirefold/wirefold/FieldType;" (.ref s0)) (p_2 : Sta Z h0 "com/example/wirefold/wirefold/FieldType" "FLOAT" "Lcom/example/wirefold/wirefold/FieldType;" (.ref s1)) (p_3 : Sta Z h0 "com/example/wirefold/wirefold/FieldType" "BYTES" "Lcom/example/wirefold/wirefold/FieldType;" (.ref s9)) (kvr : kv.isRef = true) :
    MetFree l (⟨"com/example/wirefold/wirefold/FieldType", "mapKeyable", "()Z"⟩ : MethodName) (head1 (Jvm.Cond.code (⟨"com/example/wirefold/wirefold/FieldType", "mapKeyable", "()Z"⟩ : MethodName) prog_4_method_8_code 1 (some .boolean) :: ws) rRrm2) (fun a_ U_ => a_ = #[(.ref r)] ∧ Z.Warmed39 U_.vm ∧ U_.heap = h0) (fun _ _ _ _ _ => True) (fun _ U_ o_ U1_ => ∃ v_ L_, o_ = .returned v_ ∧ Q2 Z r kv s0 s1 s9 h0 n0 v_ U1_.heap L_ ∧ FrameEnd U_ o_ U1_ L_ rRrm2.cells rRrm2.slots) := by
  refine MetFree.of_bodySF pn_rm2 hisR ?_
  intro p e s m args below meth c s₁ Bd hml0 hP hK
  obtain ⟨rfl, hZ, hh⟩ := hP
  have hx := Bd.exec
  have hby := Bd.bytes
  have hlk : meth.locks = false := Bd.notSynchronized
  have hml : c.maxLocals = 1 := hml0
  have hown : s.vm.findClass "com/example/wirefold/wirefold/FieldType" = some m.cls := findClass_of_methodNamed Bd.named
  have hnm := (name_of_methodNamed Bd.named Bd.method).1
  have X0 : Stand p l e rRrm2 s m #[(.ref r)] below meth c s₁ [] 0 0 := Stand.of_body Bd
  have e0 : s₁.heap = h0 := by rw [← hh, Bd.state]; rfl
  have N0 := Fr.nil n0
  show own_Goes p e below s (Q2 Z r kv s0 s1 s9 h0 n0) rRrm2.cells rRrm2.slots s₁ (entryFrame m #[(.ref r)] 1)
  rw [ef_rm2 m r]
  show own_Goes p e below s (Q2 Z r kv s0 s1 s9 h0 n0) rRrm2.cells rRrm2.slots s₁ (mkF m 0 #[rv r] [])
  refine own_st (fun _ kk_ => XS.aloadN X0.here hx rfl (hb hby d2_0) rfl rfl kk_) ?_
  show own_Goes p e below s (Q2 Z r kv s0 s1 s9 h0 n0) rRrm2.cells rRrm2.slots s₁ (mkF m 1 #[rv r] [(.ref r)])
  obtain ⟨T1, X1, e1, st1⟩ := getF X0 hx hZ hown (host := "") (Or.inl (hw _ (List.mem_of_getElem? (i := 13) rfl))) Via.refl e0 p_0 (g := (mkF m 1 #[rv r] [(.ref r)])) rfl rfl (hb hby d2_1)
  refine own_st st1 ?_
  show own_Goes p e below s (Q2 Z r kv s0 s1 s9 h0 n0) rRrm2.cells rRrm2.slots T1 (mkF m 4 #[rv r] [kv])
  rcases Classical.em (kv = Value.null) with q0 | q0
  · refine own_st (fun _ kk_ => XT.nullYes X1.here hx rfl (pc0 := 4) (pc' := 32) rfl (hb hby d2_4) rfl q0 (by decide) (by decide) (XS.iconst X1.here hx rfl (hb hby d2_32) kk_)) ?_
    show own_Goes p e below s (Q2 Z r kv s0 s1 s9 h0 n0) rRrm2.cells rRrm2.slots T1 (mkF m 33 #[rv r] [(.int (0 : Int32))])
    refine own_retN X1 hx hlk (t := .boolean) Bd.returns (by simp) (hb hby d2_33) (by decide) (by decide) ?_
    show Q2 Z r kv s0 s1 s9 h0 n0 (some (.int (nar .boolean (0 : Int32)))) T1.heap _
    rw [e1]
    exact ⟨by exact own_bf (by simp [q0]), N0, rfl⟩
  · refine own_st (fun _ kk_ => XT.nullNo X1.here hx rfl (hb hby d2_4) rfl kvr q0 (XS.aloadN X1.here hx rfl (hb hby d2_7) rfl rfl kk_)) ?_
    show own_Goes p e below s (Q2 Z r kv s0 s1 s9 h0 n0) rRrm2.cells rRrm2.slots T1 (mkF m 8 #[rv r] [(.ref r)])
    obtain ⟨T2, X2, e2, st2⟩ := getS2 X1 hx hZ hown (host := "") (Or.inl (hw _ (List.mem_of_getElem? (i := 15) rfl))) Via.refl e1 p_2 (g := (mkF m 8 #[rv r] [(.ref r)])) rfl (hb hby d2_8)
    refine own_st st2 ?_
    show own_Goes p e below s (Q2 Z r kv s0 s1 s9 h0 n0) rRrm2.cells rRrm2.slots T2 (mkF m 11 #[rv r] [(.ref s1), (.ref r)])
    rcases Classical.em ((Value.ref r) = (Value.ref s1)) with q1 | q1
    · refine own_st (fun _ kk_ => XT.acmpYes X2.here hx rfl (pc0 := 11) (pc' := 32) rfl (hb hby d2_11) rfl rfl rfl (XT.aa_eq_t q1) (by decide) (by decide) (XS.iconst X2.here hx rfl (hb hby d2_32) kk_)) ?_
      show own_Goes p e below s (Q2 Z r kv s0 s1 s9 h0 n0) rRrm2.cells rRrm2.slots T2 (mkF m 33 #[rv r] [(.int (0 : Int32))])
      refine own_retN X2 hx hlk (t := .boolean) Bd.returns (by simp) (hb hby d2_33) (by decide) (by decide) ?_
      show Q2 Z r kv s0 s1 s9 h0 n0 (some (.int (nar .boolean (0 : Int32)))) T2.heap _
      rw [e2]
      exact ⟨by exact own_bf (by simp only [Value.ref.injEq] at q1; simp [q0, q1]), N0, rfl⟩
    · refine own_st (fun _ kk_ => XT.acmpNo X2.here hx rfl (hb hby d2_11) rfl rfl rfl (XT.aa_eq_f q1) (XS.aloadN X2.here hx rfl (hb hby d2_14) rfl rfl kk_)) ?_
      show own_Goes p e below s (Q2 Z r kv s0 s1 s9 h0 n0) rRrm2.cells rRrm2.slots T2 (mkF m 15 #[rv r] [(.ref r)])
      obtain ⟨T3, X3, e3, st3⟩ := getS2 X2 hx hZ hown (host := "") (Or.inl (hw _ (List.mem_of_getElem? (i := 17) rfl))) Via.refl e2 p_1 (g := (mkF m 15 #[rv r] [(.ref r)])) rfl (hb hby d2_15)
      refine own_st st3 ?_
      show own_Goes p e below s (Q2 Z r kv s0 s1 s9 h0 n0) rRrm2.cells rRrm2.slots T3 (mkF m 18 #[rv r] [(.ref s0), (.ref r)])
      rcases Classical.em ((Value.ref r) = (Value.ref s0)) with q2 | q2
      · refine own_st (fun _ kk_ => XT.acmpYes X3.here hx rfl (pc0 := 18) (pc' := 32) rfl (hb hby d2_18) rfl rfl rfl (XT.aa_eq_t q2) (by decide) (by decide) (XS.iconst X3.here hx rfl (hb hby d2_32) kk_)) ?_
        show own_Goes p e below s (Q2 Z r kv s0 s1 s9 h0 n0) rRrm2.cells rRrm2.slots T3 (mkF m 33 #[rv r] [(.int (0 : Int32))])
        refine own_retN X3 hx hlk (t := .boolean) Bd.returns (by simp) (hb hby d2_33) (by decide) (by decide) ?_
        show Q2 Z r kv s0 s1 s9 h0 n0 (some (.int (nar .boolean (0 : Int32)))) T3.heap _
        rw [e3]
        exact ⟨by exact own_bf (by simp only [Value.ref.injEq] at q1 q2; simp [q0, q1, q2]), N0, rfl⟩
      · refine own_st (fun _ kk_ => XT.acmpNo X3.here hx rfl (hb hby d2_18) rfl rfl rfl (XT.aa_eq_f q2) (XS.aloadN X3.here hx rfl (hb hby d2_21) rfl rfl kk_)) ?_
        show own_Goes p e below s (Q2 Z r kv s0 s1 s9 h0 n0) rRrm2.cells rRrm2.slots T3 (mkF m 22 #[rv r] [(.ref r)])
        obtain ⟨T4, X4, e4, st4⟩ := getS2 X3 hx hZ hown (host := "") (Or.inl (hw _ (List.mem_of_getElem? (i := 23) rfl))) Via.refl e3 p_3 (g := (mkF m 22 #[rv r] [(.ref r)])) rfl (hb hby d2_22)
        refine own_st st4 ?_
        show own_Goes p e below s (Q2 Z r kv s0 s1 s9 h0 n0) rRrm2.cells rRrm2.slots T4 (mkF m 25 #[rv r] [(.ref s9), (.ref r)])
        rcases Classical.em ((Value.ref r) = (Value.ref s9)) with q3 | q3
        · refine own_st (fun _ kk_ => XT.acmpYes X4.here hx rfl (pc0 := 25) (pc' := 32) rfl (hb hby d2_25) rfl rfl rfl (XT.aa_eq_t q3) (by decide) (by decide) (XS.iconst X4.here hx rfl (hb hby d2_32) kk_)) ?_
          show own_Goes p e below s (Q2 Z r kv s0 s1 s9 h0 n0) rRrm2.cells rRrm2.slots T4 (mkF m 33 #[rv r] [(.int (0 : Int32))])
          refine own_retN X4 hx hlk (t := .boolean) Bd.returns (by simp) (hb hby d2_33) (by decide) (by decide) ?_
          show Q2 Z r kv s0 s1 s9 h0 n0 (some (.int (nar .boolean (0 : Int32)))) T4.heap _
          rw [e4]
          exact ⟨by exact own_bf (by simp only [Value.ref.injEq] at q1 q2 q3; simp [q0, q1, q2, q3]), N0, rfl⟩
        · refine own_st (fun _ kk_ => XT.acmpNo X4.here hx rfl (hb hby d2_25) rfl rfl rfl (XT.aa_eq_f q3) (XS.iconst X4.here hx rfl (hb hby d2_28) (XS.goto X4.here hx rfl (pc0 := 29) (pc' := 33) rfl (hb hby d2_29) (by decide) (by decide) kk_))) ?_
          show own_Goes p e below s (Q2 Z r kv s0 s1 s9 h0 n0) rRrm2.cells rRrm2.slots T4 (mkF m 33 #[rv r] [(.int (1 : Int32))])
          refine own_retN X4 hx hlk (t := .boolean) Bd.returns (by simp) (hb hby d2_33) (by decide) (by decide) ?_
          show Q2 Z r kv s0 s1 s9 h0 n0 (some (.int (nar .boolean (1 : Int32)))) T4.heap _
          rw [e4]
          exact ⟨by exact own_bt (by simp only [Value.ref.injEq] at q1 q2 q3; simp [q0, q1, q2, q3]), N0, rfl⟩
abbrev rRrm3 : Room := { frames := 0, cells := 0, slots := 0, locals := 0 }
theorem d3_0 : decode method_3_code 0 = .ok (.iload_n 0, 1) := by decide +kernel
theorem d3_1 : decode method_3_code 1 = .ok (.ifCond .eq 26, 3) := by decide +kernel
theorem d3_4 : decode method_3_code 4 = .ok (.iload_n 0, 1) := by decide +kernel
theorem d3_5 : decode method_3_code 5 = .ok (.iconst 1, 1) := by decide +kernel
theorem d3_6 : decode method_3_code 6 = .ok (.if_icmp .eq 21, 3) := by decide +kernel
theorem d3_9 : decode method_3_code 9 = .ok (.iload_n 0, 1) := by decide +kernel
theorem d3_10 : decode method_3_code 10 = .ok (.bipush 9, 2) := by decide +kernel
theorem d3_12 : decode method_3_code 12 = .ok (.if_icmp .eq 15, 3) := by decide +kernel
theorem d3_15 : decode method_3_code 15 = .ok (.iload_n 0, 1) := by decide +kernel
theorem d3_16 : decode method_3_code 16 = .ok (.bipush 15, 2) := by decide +kernel
theorem d3_18 : decode method_3_code 18 = .ok (.if_icmp .eq 9, 3) := by decide +kernel
theorem d3_21 : decode method_3_code 21 = .ok (.iload_n 0, 1) := by decide +kernel
theorem d3_22 : decode method_3_code 22 = .ok (.bipush 16, 2) := by decide +kernel
theorem d3_24 : decode method_3_code 24 = .ok (.if_icmp .ne 7, 3) := by decide +kernel
theorem d3_27 : decode method_3_code 27 = .ok (.iconst 1, 1) := by decide +kernel
theorem d3_28 : decode method_3_code 28 = .ok (.goto 4, 3) := by decide +kernel
theorem d3_31 : decode method_3_code 31 = .ok (.iconst 0, 1) := by decide +kernel
theorem d3_32 : decode method_3_code 32 = .ok (.istore_n 1, 1) := by decide +kernel
theorem d3_33 : decode method_3_code 33 = .ok (.iload_n 1, 1) := by decide +kernel
theorem d3_34 : decode method_3_code 34 = .ok (.ifCond .ne 7, 3) := by decide +kernel
theorem d3_37 : decode method_3_code 37 = .ok (.iconst 1, 1) := by decide +kernel
theorem d3_38 : decode method_3_code 38 = .ok (.goto 4, 3) := by decide +kernel
theorem d3_41 : decode method_3_code 41 = .ok (.iconst 0, 1) := by decide +kernel
theorem d3_42 : decode method_3_code 42 = .ok (.ireturn, 1) := by decide +kernel
theorem pn_rm3 : plainFor (⟨"com/example/wirefold/wirefold/FieldTypeMapKeyablePinLaw", "expected", "(I)Z"⟩ : MethodName) = true := by first | exact plainFor_of_name (by first | (simp [plainName, overriddenIn]; done) | decide +kernel) | decide +kernel
theorem ef_rm3 (m : MethodId) (k : Int32) : entryFrame m #[(.int k)] 2 = (mkF m 0 #[iv k, .unset] []) := by first | (simp [entryFrame, mkF, argsToLocals, Value.category]; done) | rfl
def Q3 (Z : State) (k : Int32) (h0 : Heap) (n0 : Nat) (v_ : Option Value) (h_ : Heap) (L_ : List Loc) : Prop := (v_ = some (.int (own_b (¬ own_nk k)))) ∧ (Fr n0 L_) ∧ (h_ = h0)
set_option maxRecDepth 65536 in
set_option maxHeartbeats 40000000 in
theorem rm3 (l : Launch) (Z : State) (a0 : Array Value) (hw : ∀ d ∈ tables_1, d.before a0 Z = true) (ws : List Jvm.Cond) (k : Int32) (h0 : Heap) (n0 : Nat) (Z0 : n0 ≤ h0.size) :
    MetFree l (⟨"com/example/wirefold/wirefold/FieldTypeMapKeyablePinLaw", "expected", "(I)Z"⟩ : MethodName) (head1 (Jvm.Cond.code (⟨"com/example/wirefold/wirefold/FieldTypeMapKeyablePinLaw", "expected", "(I)Z"⟩ : MethodName) method_3_code 2 (some .boolean) :: ws) rRrm3) (fun a_ U_ => a_ = #[(.int k)] ∧ Z.Warmed39 U_.vm ∧ U_.heap = h0) (fun _ _ _ _ _ => True) (fun _ U_ o_ U1_ => ∃ v_ L_, o_ = .returned v_ ∧ Q3 Z k h0 n0 v_ U1_.heap L_ ∧ FrameEnd U_ o_ U1_ L_ rRrm3.cells rRrm3.slots) := by
  refine MetFree.of_bodySF pn_rm3 hisR ?_
  intro p e s m args below meth c s₁ Bd hml0 hP hK
  obtain ⟨rfl, hZ, hh⟩ := hP
  have hx := Bd.exec
  have hby := Bd.bytes
  have hlk : meth.locks = false := Bd.notSynchronized
  have hml : c.maxLocals = 2 := hml0
  have hown : s.vm.findClass "com/example/wirefold/wirefold/FieldTypeMapKeyablePinLaw" = some m.cls := findClass_of_methodNamed Bd.named
  have hnm := (name_of_methodNamed Bd.named Bd.method).1
  have X0 : Stand p l e rRrm3 s m #[(.int k)] below meth c s₁ [] 0 0 := Stand.of_body Bd
  have e0 : s₁.heap = h0 := by rw [← hh, Bd.state]; rfl
  have N0 := Fr.nil n0
  show own_Goes p e below s (Q3 Z k h0 n0) rRrm3.cells rRrm3.slots s₁ (entryFrame m #[(.int k)] 2)
  rw [ef_rm3 m k]
  show own_Goes p e below s (Q3 Z k h0 n0) rRrm3.cells rRrm3.slots s₁ (mkF m 0 #[iv k, .unset] [])
  refine own_st (fun _ kk_ => XS.iloadN X0.here hx rfl (hb hby d3_0) rfl kk_) ?_
  show own_Goes p e below s (Q3 Z k h0 n0) rRrm3.cells rRrm3.slots s₁ (mkF m 1 #[iv k, .unset] [(.int k)])
  rcases Classical.em (k = (0 : Int32)) with q0 | q0
  · refine own_st (fun _ kk_ => XS.ifYes X0.here hx rfl (pc0 := 1) (pc' := 27) rfl (hb hby d3_1) rfl (XT.i0_eq_t q0) (by decide) (by decide) (XS.iconst X0.here hx rfl (hb hby d3_27) (XS.goto X0.here hx rfl (pc0 := 28) (pc' := 32) rfl (hb hby d3_28) (by decide) (by decide) (XS.istoreN X0.here hx rfl (hb hby d3_32) rfl (l' := #[iv k, iv (1 : Int32)]) rfl (XS.iloadN X0.here hx rfl (hb hby d3_33) rfl (XS.ifYes X0.here hx rfl (pc0 := 34) (pc' := 41) rfl (hb hby d3_34) rfl (XT.i0_ne_t (by decide)) (by decide) (by decide) (XS.iconst X0.here hx rfl (hb hby d3_41) kk_))))))) ?_
    show own_Goes p e below s (Q3 Z k h0 n0) rRrm3.cells rRrm3.slots s₁ (mkF m 42 #[iv k, iv (1 : Int32)] [(.int (0 : Int32))])
    refine own_retN X0 hx hlk (t := .boolean) Bd.returns (by simp) (hb hby d3_42) (by decide) (by decide) ?_
    show Q3 Z k h0 n0 (some (.int (nar .boolean (0 : Int32)))) s₁.heap _
    rw [e0]
    exact ⟨by exact own_bf (by unfold own_nk; (revert q0; simp only [Int32.lt_iff_toInt_lt, Int32.le_iff_toInt_le, ← Int32.toInt_inj, Int32.reduceToInt, Int64.lt_iff_toInt_lt, Int64.le_iff_toInt_le, ← Int64.toInt_inj, Int64.reduceToInt]; omega)), N0, rfl⟩
  · refine own_st (fun _ kk_ => XS.ifNo X0.here hx rfl (hb hby d3_1) rfl (XT.i0_eq_f q0) (XS.iloadN X0.here hx rfl (hb hby d3_4) rfl (XS.iconst X0.here hx rfl (hb hby d3_5) kk_))) ?_
    show own_Goes p e below s (Q3 Z k h0 n0) rRrm3.cells rRrm3.slots s₁ (mkF m 6 #[iv k, .unset] [(.int (1 : Int32)), (.int k)])
    rcases Classical.em (k = (1 : Int32)) with q1 | q1
    · refine own_st (fun _ kk_ => XS.icmpYes X0.here hx rfl (pc0 := 6) (pc' := 27) rfl (hb hby d3_6) rfl (XT.ii_eq_t q1) (by decide) (by decide) (XS.iconst X0.here hx rfl (hb hby d3_27) (XS.goto X0.here hx rfl (pc0 := 28) (pc' := 32) rfl (hb hby d3_28) (by decide) (by decide) (XS.istoreN X0.here hx rfl (hb hby d3_32) rfl (l' := #[iv k, iv (1 : Int32)]) rfl (XS.iloadN X0.here hx rfl (hb hby d3_33) rfl (XS.ifYes X0.here hx rfl (pc0 := 34) (pc' := 41) rfl (hb hby d3_34) rfl (XT.i0_ne_t (by decide)) (by decide) (by decide) (XS.iconst X0.here hx rfl (hb hby d3_41) kk_))))))) ?_
      show own_Goes p e below s (Q3 Z k h0 n0) rRrm3.cells rRrm3.slots s₁ (mkF m 42 #[iv k, iv (1 : Int32)] [(.int (0 : Int32))])
      refine own_retN X0 hx hlk (t := .boolean) Bd.returns (by simp) (hb hby d3_42) (by decide) (by decide) ?_
      show Q3 Z k h0 n0 (some (.int (nar .boolean (0 : Int32)))) s₁.heap _
      rw [e0]
      exact ⟨by exact own_bf (by unfold own_nk; (revert q0 q1; simp only [Int32.lt_iff_toInt_lt, Int32.le_iff_toInt_le, ← Int32.toInt_inj, Int32.reduceToInt, Int64.lt_iff_toInt_lt, Int64.le_iff_toInt_le, ← Int64.toInt_inj, Int64.reduceToInt]; omega)), N0, rfl⟩
    · refine own_st (fun _ kk_ => XS.icmpNo X0.here hx rfl (hb hby d3_6) rfl (XT.ii_eq_f q1) (XS.iloadN X0.here hx rfl (hb hby d3_9) rfl (XS.bipush X0.here hx rfl (hb hby d3_10) kk_))) ?_
      show own_Goes p e below s (Q3 Z k h0 n0) rRrm3.cells rRrm3.slots s₁ (mkF m 12 #[iv k, .unset] [(.int (9 : Int32)), (.int k)])
      rcases Classical.em (k = (9 : Int32)) with q2 | q2
      · refine own_st (fun _ kk_ => XS.icmpYes X0.here hx rfl (pc0 := 12) (pc' := 27) rfl (hb hby d3_12) rfl (XT.ii_eq_t q2) (by decide) (by decide) (XS.iconst X0.here hx rfl (hb hby d3_27) (XS.goto X0.here hx rfl (pc0 := 28) (pc' := 32) rfl (hb hby d3_28) (by decide) (by decide) (XS.istoreN X0.here hx rfl (hb hby d3_32) rfl (l' := #[iv k, iv (1 : Int32)]) rfl (XS.iloadN X0.here hx rfl (hb hby d3_33) rfl (XS.ifYes X0.here hx rfl (pc0 := 34) (pc' := 41) rfl (hb hby d3_34) rfl (XT.i0_ne_t (by decide)) (by decide) (by decide) (XS.iconst X0.here hx rfl (hb hby d3_41) kk_))))))) ?_
        show own_Goes p e below s (Q3 Z k h0 n0) rRrm3.cells rRrm3.slots s₁ (mkF m 42 #[iv k, iv (1 : Int32)] [(.int (0 : Int32))])
        refine own_retN X0 hx hlk (t := .boolean) Bd.returns (by simp) (hb hby d3_42) (by decide) (by decide) ?_
        show Q3 Z k h0 n0 (some (.int (nar .boolean (0 : Int32)))) s₁.heap _
        rw [e0]
        exact ⟨by exact own_bf (by unfold own_nk; (revert q0 q1 q2; simp only [Int32.lt_iff_toInt_lt, Int32.le_iff_toInt_le, ← Int32.toInt_inj, Int32.reduceToInt, Int64.lt_iff_toInt_lt, Int64.le_iff_toInt_le, ← Int64.toInt_inj, Int64.reduceToInt]; omega)), N0, rfl⟩
      · refine own_st (fun _ kk_ => XS.icmpNo X0.here hx rfl (hb hby d3_12) rfl (XT.ii_eq_f q2) (XS.iloadN X0.here hx rfl (hb hby d3_15) rfl (XS.bipush X0.here hx rfl (hb hby d3_16) kk_))) ?_
        show own_Goes p e below s (Q3 Z k h0 n0) rRrm3.cells rRrm3.slots s₁ (mkF m 18 #[iv k, .unset] [(.int (15 : Int32)), (.int k)])
        rcases Classical.em (k = (15 : Int32)) with q3 | q3
        · refine own_st (fun _ kk_ => XS.icmpYes X0.here hx rfl (pc0 := 18) (pc' := 27) rfl (hb hby d3_18) rfl (XT.ii_eq_t q3) (by decide) (by decide) (XS.iconst X0.here hx rfl (hb hby d3_27) (XS.goto X0.here hx rfl (pc0 := 28) (pc' := 32) rfl (hb hby d3_28) (by decide) (by decide) (XS.istoreN X0.here hx rfl (hb hby d3_32) rfl (l' := #[iv k, iv (1 : Int32)]) rfl (XS.iloadN X0.here hx rfl (hb hby d3_33) rfl (XS.ifYes X0.here hx rfl (pc0 := 34) (pc' := 41) rfl (hb hby d3_34) rfl (XT.i0_ne_t (by decide)) (by decide) (by decide) (XS.iconst X0.here hx rfl (hb hby d3_41) kk_))))))) ?_
          show own_Goes p e below s (Q3 Z k h0 n0) rRrm3.cells rRrm3.slots s₁ (mkF m 42 #[iv k, iv (1 : Int32)] [(.int (0 : Int32))])
          refine own_retN X0 hx hlk (t := .boolean) Bd.returns (by simp) (hb hby d3_42) (by decide) (by decide) ?_
          show Q3 Z k h0 n0 (some (.int (nar .boolean (0 : Int32)))) s₁.heap _
          rw [e0]
          exact ⟨by exact own_bf (by unfold own_nk; (revert q0 q1 q2 q3; simp only [Int32.lt_iff_toInt_lt, Int32.le_iff_toInt_le, ← Int32.toInt_inj, Int32.reduceToInt, Int64.lt_iff_toInt_lt, Int64.le_iff_toInt_le, ← Int64.toInt_inj, Int64.reduceToInt]; omega)), N0, rfl⟩
        · refine own_st (fun _ kk_ => XS.icmpNo X0.here hx rfl (hb hby d3_18) rfl (XT.ii_eq_f q3) (XS.iloadN X0.here hx rfl (hb hby d3_21) rfl (XS.bipush X0.here hx rfl (hb hby d3_22) kk_))) ?_
          show own_Goes p e below s (Q3 Z k h0 n0) rRrm3.cells rRrm3.slots s₁ (mkF m 24 #[iv k, .unset] [(.int (16 : Int32)), (.int k)])
          rcases Classical.em (k = (16 : Int32)) with q4 | q4
          · refine own_st (fun _ kk_ => XS.icmpNo X0.here hx rfl (hb hby d3_24) rfl (XT.ii_ne_f q4) (XS.iconst X0.here hx rfl (hb hby d3_27) (XS.goto X0.here hx rfl (pc0 := 28) (pc' := 32) rfl (hb hby d3_28) (by decide) (by decide) (XS.istoreN X0.here hx rfl (hb hby d3_32) rfl (l' := #[iv k, iv (1 : Int32)]) rfl (XS.iloadN X0.here hx rfl (hb hby d3_33) rfl (XS.ifYes X0.here hx rfl (pc0 := 34) (pc' := 41) rfl (hb hby d3_34) rfl (XT.i0_ne_t (by decide)) (by decide) (by decide) (XS.iconst X0.here hx rfl (hb hby d3_41) kk_))))))) ?_
            show own_Goes p e below s (Q3 Z k h0 n0) rRrm3.cells rRrm3.slots s₁ (mkF m 42 #[iv k, iv (1 : Int32)] [(.int (0 : Int32))])
            refine own_retN X0 hx hlk (t := .boolean) Bd.returns (by simp) (hb hby d3_42) (by decide) (by decide) ?_
            show Q3 Z k h0 n0 (some (.int (nar .boolean (0 : Int32)))) s₁.heap _
            rw [e0]
            exact ⟨by exact own_bf (by unfold own_nk; (revert q0 q1 q2 q3 q4; simp only [Int32.lt_iff_toInt_lt, Int32.le_iff_toInt_le, ← Int32.toInt_inj, Int32.reduceToInt, Int64.lt_iff_toInt_lt, Int64.le_iff_toInt_le, ← Int64.toInt_inj, Int64.reduceToInt]; omega)), N0, rfl⟩
          · refine own_st (fun _ kk_ => XS.icmpYes X0.here hx rfl (pc0 := 24) (pc' := 31) rfl (hb hby d3_24) rfl (XT.ii_ne_t q4) (by decide) (by decide) (XS.iconst X0.here hx rfl (hb hby d3_31) (XS.istoreN X0.here hx rfl (hb hby d3_32) rfl (l' := #[iv k, iv (0 : Int32)]) rfl (XS.iloadN X0.here hx rfl (hb hby d3_33) rfl (XS.ifNo X0.here hx rfl (hb hby d3_34) rfl (XT.i0_ne_f (by decide)) (XS.iconst X0.here hx rfl (hb hby d3_37) (XS.goto X0.here hx rfl (pc0 := 38) (pc' := 42) rfl (hb hby d3_38) (by decide) (by decide) kk_))))))) ?_
            show own_Goes p e below s (Q3 Z k h0 n0) rRrm3.cells rRrm3.slots s₁ (mkF m 42 #[iv k, iv (0 : Int32)] [(.int (1 : Int32))])
            refine own_retN X0 hx hlk (t := .boolean) Bd.returns (by simp) (hb hby d3_42) (by decide) (by decide) ?_
            show Q3 Z k h0 n0 (some (.int (nar .boolean (1 : Int32)))) s₁.heap _
            rw [e0]
            exact ⟨by exact own_bt (by unfold own_nk; (revert q0 q1 q2 q3 q4; simp only [Int32.lt_iff_toInt_lt, Int32.le_iff_toInt_le, ← Int32.toInt_inj, Int32.reduceToInt, Int64.lt_iff_toInt_lt, Int64.le_iff_toInt_le, ← Int64.toInt_inj, Int64.reduceToInt]; omega)), N0, rfl⟩
theorem own_rng (p : Int32) : 0 ≤ ((p &&& 2147483647) % 17).toInt ∧ ((p &&& 2147483647) % 17).toInt < 17 := by
  have h1 := (c_and p 2147483647 (by decide)).1
  have h2 := (c_irem (p &&& 2147483647) 17 17 (by decide)).1 h1
  omega
theorem own_fin {k : Int32} {r s0 s1 s9 : Addr} {kv : Value} (fa : (own_nk k ∧ (kv = .null ∨ r = s0 ∨ r = s1 ∨ r = s9)) ∨ (¬ own_nk k ∧ ¬ kv = .null ∧ r ≠ s0 ∧ r ≠ s1 ∧ r ≠ s9)) : (¬ (kv = .null ∨ r = s0 ∨ r = s1 ∨ r = s9)) ↔ ¬ own_nk k := by
  rcases fa with ⟨u1, u2⟩ | ⟨u1, u2, u3, u4, u5⟩
  · exact ⟨fun q => absurd u2 q, fun q => absurd u1 q⟩
  · exact ⟨fun _ => u1, fun _ q => q.elim u2 fun q => q.elim u3 fun q => q.elim u4 u5⟩
theorem pd_0 : parseMethodDescriptor "(I)Lcom/example/wirefold/wirefold/FieldType;" = some ⟨[.int], some (.object "com/example/wirefold/wirefold/FieldType")⟩ := by decide +kernel
theorem pd_1 : parseMethodDescriptor "()Z" = some ⟨[], some .boolean⟩ := by decide +kernel
theorem pd_2 : parseMethodDescriptor "(I)Z" = some ⟨[.int], some .boolean⟩ := by decide +kernel
theorem pn_rm0 : plainFor x = true := by first | exact plainFor_of_name (by first | (simp [plainName, overriddenIn]; done) | decide +kernel) | decide +kernel
theorem ef_rm0 (m : MethodId) (p1 : Int32) : entryFrame m #[(.int p1)] maxLocals = (mkF m 0 #[iv p1, .unset, .unset] []) := by first | (simp [entryFrame, mkF, argsToLocals, Value.category, maxLocals]; done) | rfl
def Q0 (Z : State) (p1 : Int32) (s0 : Addr) (s1 : Addr) (s2 : Addr) (s3 : Addr) (s4 : Addr) (s5 : Addr) (s6 : Addr) (s7 : Addr) (s8 : Addr) (s9 : Addr) (s10 : Addr) (s11 : Addr) (s12 : Addr) (s13 : Addr) (s14 : Addr) (s15 : Addr) (s16 : Addr) (t0 : Addr) (t1 : Addr) (t2 : Addr) (t3 : Addr) (t4 : Addr) (t5 : Addr) (t6 : Addr) (t7 : Addr) (t8 : Addr) (t9 : Addr) (t10 : Addr) (t11 : Addr) (t12 : Addr) (t13 : Addr) (t14 : Addr) (h0 : Heap) (n0 : Nat) (v_ : Option Value) (h_ : Heap) (L_ : List Loc) : Prop := (v_ = some (.int (1 : Int32))) ∧ (Fr n0 L_)
set_option maxRecDepth 65536 in
set_option maxHeartbeats 40000000 in
theorem rm0 (l : Launch) (Z : State) (a0 : Array Value) (hw : ∀ d ∈ tables_1, d.before a0 Z = true) (ws : List Jvm.Cond) (p1 : Int32) (s0 : Addr) (s1 : Addr) (s2 : Addr) (s3 : Addr) (s4 : Addr) (s5 : Addr) (s6 : Addr) (s7 : Addr) (s8 : Addr) (s9 : Addr) (s10 : Addr) (s11 : Addr) (s12 : Addr) (s13 : Addr) (s14 : Addr) (s15 : Addr) (s16 : Addr) (t0 : Addr) (t1 : Addr) (t2 : Addr) (t3 : Addr) (t4 : Addr) (t5 : Addr) (t6 : Addr) (t7 : Addr) (t8 : Addr) (t9 : Addr) (t10 : Addr) (t11 : Addr) (t12 : Addr) (t13 : Addr) (t14 : Addr) (h0 : Heap) (n0 : Nat) (Z0 : n0 ≤ h0.size) (p_0 : Sta Z h0 "com/example/wirefold/wirefold/FieldType" "DOUBLE" "Lcom/example/wirefold/wirefold/FieldType;" (.ref s0)) (p_1 : Sta Z h0 "com/example/wirefold/wirefold/FieldType" "FLOAT" "Lcom/example/wirefold/wirefold/FieldType;" (.ref s1)) (p_2 : Sta Z h0 "com/example/wirefold/wirefold/FieldType" "INT64" "Lcom/example/wirefold/wirefold/FieldType;" (.ref s2)) (p_3 : Sta Z h0 "com/example/wirefold/wirefold/FieldType" "UINT64" "Lcom/example/wirefold/wirefold/FieldType;" (.ref s3)) (p_4 : Sta Z h0 "com/example/wirefold/wirefold/FieldType" "INT32" "Lcom/example/wirefold/wirefold/FieldType;" (.ref s4)) (p_5 : Sta Z h0 "com/example/wirefold/wirefold/FieldType" "FIXED64" "Lcom/example/wirefold/wirefold/FieldType;" (.ref s5)) (p_6 : Sta Z h0 "com/example/wirefold/wirefold/FieldType" "FIXED32" "Lcom/example/wirefold/wirefold/FieldType;" (.ref s6)) (p_7 : Sta Z h0 "com/example/wirefold/wirefold/FieldType" "BOOL" "Lcom/example/wirefold/wirefold/FieldType;" (.ref s7)) (p_8 : Sta Z h0 "com/example/wirefold/wirefold/FieldType" "STRING" "Lcom/example/wirefold/wirefold/FieldType;" (.ref s8)) (p_9 : Sta Z h0 "com/example/wirefold/wirefold/FieldType" "BYTES" "Lcom/example/wirefold/wirefold/FieldType;" (.ref s9)) (p_10 : Sta Z h0 "com/example/wirefold/wirefold/FieldType" "UINT32" "Lcom/example/wirefold/wirefold/FieldType;" (.ref s10)) (p_11 : Sta Z h0 "com/example/wirefold/wirefold/FieldType" "SFIXED32" "Lcom/example/wirefold/wirefold/FieldType;" (.ref s11)) (p_12 : Sta Z h0 "com/example/wirefold/wirefold/FieldType" "SFIXED64" "Lcom/example/wirefold/wirefold/FieldType;" (.ref s12)) (p_13 : Sta Z h0 "com/example/wirefold/wirefold/FieldType" "SINT32" "Lcom/example/wirefold/wirefold/FieldType;" (.ref s13)) (p_14 : Sta Z h0 "com/example/wirefold/wirefold/FieldType" "SINT64" "Lcom/example/wirefold/wirefold/FieldType;" (.ref s14)) (p_15 : Sta Z h0 "com/example/wirefold/wirefold/FieldType" "MESSAGE" "Lcom/example/wirefold/wirefold/FieldType;" (.ref s15)) (p_16 : Sta Z h0 "com/example/wirefold/wirefold/FieldType" "ENUM" "Lcom/example/wirefold/wirefold/FieldType;" (.ref s16)) (p_17 : Exa Z h0 s0 "com/example/wirefold/wirefold/FieldType") (p_18 : Exa Z h0 s1 "com/example/wirefold/wirefold/FieldType") (p_19 : Exa Z h0 s2 "com/example/wirefold/wirefold/FieldType") (p_20 : Exa Z h0 s3 "com/example/wirefold/wirefold/FieldType") (p_21 : Exa Z h0 s4 "com/example/wirefold/wirefold/FieldType") (p_22 : Exa Z h0 s5 "com/example/wirefold/wirefold/FieldType") (p_23 : Exa Z h0 s6 "com/example/wirefold/wirefold/FieldType") (p_24 : Exa Z h0 s7 "com/example/wirefold/wirefold/FieldType") (p_25 : Exa Z h0 s8 "com/example/wirefold/wirefold/FieldType") (p_26 : Exa Z h0 s9 "com/example/wirefold/wirefold/FieldType") (p_27 : Exa Z h0 s10 "com/example/wirefold/wirefold/FieldType") (p_28 : Exa Z h0 s11 "com/example/wirefold/wirefold/FieldType") (p_29 : Exa Z h0 s12 "com/example/wirefold/wirefold/FieldType") (p_30 : Exa Z h0 s13 "com/example/wirefold/wirefold/FieldType") (p_31 : Exa Z h0 s14 "com/example/wirefold/wirefold/FieldType") (p_32 : Exa Z h0 s15 "com/example/wirefold/wirefold/FieldType") (p_33 : Exa Z h0 s16 "com/example/wirefold/wirefold/FieldType") (p_34 : Fld Z h0 s0 "com/example/wirefold/wirefold/FieldType" "keyword" "Ljava/lang/String;" (.ref t0)) (p_35 : Fld Z h0 s1 "com/example/wirefold/wirefold/FieldType" "keyword" "Ljava/lang/String;" (.ref t1)) (p_36 : Fld Z h0 s2 "com/example/wirefold/wirefold/FieldType" "keyword" "Ljava/lang/String;" (.ref t2)) (p_37 : Fld Z h0 s3 "com/example/wirefold/wirefold/FieldType" "keyword" "Ljava/lang/String;" (.ref t3)) (p_38 : Fld Z h0 s4 "com/example/wirefold/wirefold/FieldType" "keyword" "Ljava/lang/String;" (.ref t4)) (p_39 : Fld Z h0 s5 "com/example/wirefold/wirefold/FieldType" "keyword" "Ljava/lang/String;" (.ref t5)) (p_40 : Fld Z h0 s6 "com/example/wirefold/wirefold/FieldType" "keyword" "Ljava/lang/String;" (.ref t6)) (p_41 : Fld Z h0 s7 "com/example/wirefold/wirefold/FieldType" "keyword" "Ljava/lang/String;" (.ref t7)) (p_42 : Fld Z h0 s8 "com/example/wirefold/wirefold/FieldType" "keyword" "Ljava/lang/String;" (.ref t8)) (p_43 : Fld Z h0 s9 "com/example/wirefold/wirefold/FieldType" "keyword" "Ljava/lang/String;" (.ref t9)) (p_44 : Fld Z h0 s10 "com/example/wirefold/wirefold/FieldType" "keyword" "Ljava/lang/String;" (.ref t10)) (p_45 : Fld Z h0 s11 "com/example/wirefold/wirefold/FieldType" "keyword" "Ljava/lang/String;" (.ref t11)) (p_46 : Fld Z h0 s12 "com/example/wirefold/wirefold/FieldType" "keyword" "Ljava/lang/String;" (.ref t12)) (p_47 : Fld Z h0 s13 "com/example/wirefold/wirefold/FieldType" "keyword" "Ljava/lang/String;" (.ref t13)) (p_48 : Fld Z h0 s14 "com/example/wirefold/wirefold/FieldType" "keyword" "Ljava/lang/String;" (.ref t14)) (p_49 : Fld Z h0 s15 "com/example/wirefold/wirefold/FieldType" "keyword" "Ljava/lang/String;" .null) (p_50 : Fld Z h0 s16 "com/example/wirefold/wirefold/FieldType" "keyword" "Ljava/lang/String;" .null) (p_51 : s2 ≠ s0) (p_52 : s2 ≠ s1) (p_53 : s2 ≠ s9) (p_54 : s3 ≠ s0) (p_55 : s3 ≠ s1) (p_56 : s3 ≠ s9) (p_57 : s4 ≠ s0) (p_58 : s4 ≠ s1) (p_59 : s4 ≠ s9) (p_60 : s5 ≠ s0) (p_61 : s5 ≠ s1) (p_62 : s5 ≠ s9) (p_63 : s6 ≠ s0) (p_64 : s6 ≠ s1) (p_65 : s6 ≠ s9) (p_66 : s7 ≠ s0) (p_67 : s7 ≠ s1) (p_68 : s7 ≠ s9) (p_69 : s8 ≠ s0) (p_70 : s8 ≠ s1) (p_71 : s8 ≠ s9) (p_72 : s10 ≠ s0) (p_73 : s10 ≠ s1) (p_74 : s10 ≠ s9) (p_75 : s11 ≠ s0) (p_76 : s11 ≠ s1) (p_77 : s11 ≠ s9) (p_78 : s12 ≠ s0) (p_79 : s12 ≠ s1) (p_80 : s12 ≠ s9) (p_81 : s13 ≠ s0) (p_82 : s13 ≠ s1) (p_83 : s13 ≠ s9) (p_84 : s14 ≠ s0) (p_85 : s14 ≠ s1) (p_86 : s14 ≠ s9) :
    MetFree l x (head1 (Jvm.Cond.code x code maxLocals ret :: ws) room_1) (fun a_ U_ => a_ = #[(.int p1)] ∧ Z.Warmed39 U_.vm ∧ U_.heap = h0) (fun _ _ _ _ _ => True) (fun _ U_ o_ U1_ => ∃ v_ L_, o_ = .returned v_ ∧ Q0 Z p1 s0 s1 s2 s3 s4 s5 s6 s7 s8 s9 s10 s11 s12 s13 s14 s15 s16 t0 t1 t2 t3 t4 t5 t6 t7 t8 t9 t10 t11 t12 t13 t14 h0 n0 v_ U1_.heap L_ ∧ FrameEnd U_ o_ U1_ L_ 0 0) := by
  refine MetFree.of_bodySF pn_rm0 hisR ?_
  intro p e s m args below meth c s₁ Bd hml0 hP hK
  obtain ⟨rfl, hZ, hh⟩ := hP
  have hx := Bd.exec
  have hby := Bd.bytes
  have hlk : meth.locks = false := Bd.notSynchronized
  have hml : c.maxLocals = 3 := hml0
  have hown : s.vm.findClass "com/example/wirefold/wirefold/FieldTypeMapKeyablePinLaw" = some m.cls := findClass_of_methodNamed Bd.named
  have hnm := (name_of_methodNamed Bd.named Bd.method).1
  have X0 : Stand p l e room_1 s m #[(.int p1)] below meth c s₁ [] 0 0 := Stand.of_body Bd
  have e0 : s₁.heap = h0 := by rw [← hh, Bd.state]; rfl
  have N0 := Fr.nil n0
  show own_Goes p e below s (Q0 Z p1 s0 s1 s2 s3 s4 s5 s6 s7 s8 s9 s10 s11 s12 s13 s14 s15 s16 t0 t1 t2 t3 t4 t5 t6 t7 t8 t9 t10 t11 t12 t13 t14 h0 n0) 0 0 s₁ (entryFrame m #[(.int p1)] maxLocals)
  rw [ef_rm0 m p1]
  show own_Goes p e below s (Q0 Z p1 s0 s1 s2 s3 s4 s5 s6 s7 s8 s9 s10 s11 s12 s13 s14 s15 s16 t0 t1 t2 t3 t4 t5 t6 t7 t8 t9 t10 t11 t12 t13 t14 h0 n0) 0 0 s₁ (mkF m 0 #[iv p1, .unset, .unset] [])
  refine own_st (fun _ kk_ => XS.iloadN X0.here hx rfl (hb hby at_0) rfl (X0.ldcInt hx hown (mvT hZ (hw _ (List.mem_of_getElem? (i := 0) rfl))) (g := (mkF m 1 #[iv p1, .unset, .unset] [(.int p1)])) rfl (hb hby at_1) _ (XS.iand X0.here hx rfl (hb hby at_3) rfl (XS.bipush X0.here hx rfl (hb hby at_4) (iremM X0 hx rfl (hb hby at_6) rfl (by decide) (XS.istoreN X0.here hx rfl (hb hby at_7) rfl (l' := #[iv p1, iv ((p1 &&& (2147483647 : Int32)) % (17 : Int32)), .unset]) rfl (XS.iloadN X0.here hx rfl (hb hby at_8) rfl kk_))))))) ?_
  show own_Goes p e below s (Q0 Z p1 s0 s1 s2 s3 s4 s5 s6 s7 s8 s9 s10 s11 s12 s13 s14 s15 s16 t0 t1 t2 t3 t4 t5 t6 t7 t8 t9 t10 t11 t12 t13 t14 h0 n0) 0 0 s₁ (mkF m 9 #[iv p1, iv ((p1 &&& (2147483647 : Int32)) % (17 : Int32)), .unset] [(.int ((p1 &&& (2147483647 : Int32)) % (17 : Int32)))])
  obtain ⟨_, _, ⟨T1, L1, k1, n1⟩, -, X1, ⟨Lc1, hQ1, l1, y1, z1⟩, st1⟩ := Jvm.LawKit.callS X0 hx (y := (⟨"com/example/wirefold/wirefold/FieldTypeMapKeyablePinLaw", "pick", "(I)Lcom/example/wirefold/wirefold/FieldType;"⟩ : MethodName)) hown (mvT hZ (hw _ (List.mem_of_getElem? (i := 1) rfl))) (mvT hZ (hw _ (List.mem_of_getElem? (i := 2) rfl))) (mvT hZ (hw _ (List.mem_of_getElem? (i := 3) rfl))) (mvT hZ (hw _ (List.mem_of_getElem? (i := 4) rfl))) (by decide) (backOf (W := 0) (rm1 l Z a0 hw [] (((p1 &&& (2147483647 : Int32)) % (17 : Int32))) (s0) (s1) (s2) (s3) (s4) (s5) (s6) (s7) (s8) (s9) (s10) (s11) (s12) (s13) (s14) (s15) (s16) (t0) (t1) (t2) (t3) (t4) (t5) (t6) (t7) (t8) (t9) (t10) (t11) (t12) (t13) (t14) h0 n0 Z0 p_0 p_1 p_2 p_3 p_4 p_5 p_6 p_7 p_8 p_9 p_10 p_11 p_12 p_13 p_14 p_15 p_16 p_17 p_18 p_19 p_20 p_21 p_22 p_23 p_24 p_25 p_26 p_27 p_28 p_29 p_30 p_31 p_32 p_33 p_34 p_35 p_36 p_37 p_38 p_39 p_40 p_41 p_42 p_43 p_44 p_45 p_46 p_47 p_48 p_49 p_50 p_51 p_52 p_53 p_54 p_55 p_56 p_57 p_58 p_59 p_60 p_61 p_62 p_63 p_64 p_65 p_66 p_67 p_68 p_69 p_70 p_71 p_72 p_73 p_74 p_75 p_76 p_77 p_78 p_79 p_80 p_81 p_82 p_83 p_84 p_85 p_86 (own_rng p1)) hZ (hw _ (List.mem_of_getElem? (i := 4) rfl)) (hw _ (List.mem_of_getElem? (i := 3) rfl)) (by decide) (by decide)) (g := (mkF m 9 #[iv p1, iv ((p1 &&& (2147483647 : Int32)) % (17 : Int32)), .unset] [(.int ((p1 &&& (2147483647 : Int32)) % (17 : Int32)))])) rfl (by rw [hml]; rfl) (argsL := [(.int ((p1 &&& (2147483647 : Int32)) % (17 : Int32)))]) (rest := []) (lenOf pd_0 rfl) rfl (by show 2 * 0 + _ ≤ _; exact Nat.le_of_eq rfl) (hb hby at_9) (fun _ _ => ⟨rfl, e0, (by decide : 0 + 0 ≤ _), (by decide : 0 + 0 ≤ _)⟩)
  dsimp only [Pt.U, Pt.locs, Pt.cells, Pt.slots] at X1 l1 y1 z1 st1 hQ1
  subst l1 y1 z1
  obtain ⟨x1_r, x1_kv, rfl, Nq1, eq1, u1_0, u1_1, u1_2, u1_3⟩ := hQ1
  have N1 := Fr.app N0 Nq1
  refine own_st st1 ?_
  show own_Goes p e below s (Q0 Z p1 s0 s1 s2 s3 s4 s5 s6 s7 s8 s9 s10 s11 s12 s13 s14 s15 s16 t0 t1 t2 t3 t4 t5 t6 t7 t8 t9 t10 t11 t12 t13 t14 h0 n0) 0 0 T1 (mkF m 12 #[iv p1, iv ((p1 &&& (2147483647 : Int32)) % (17 : Int32)), .unset] [(.ref x1_r)])
  refine own_st (fun _ kk_ => XS.astoreN X1.here hx rfl (hb hby at_12) rfl rfl (l' := #[iv p1, iv ((p1 &&& (2147483647 : Int32)) % (17 : Int32)), rv x1_r]) rfl (XS.aloadN X1.here hx rfl (hb hby at_13) rfl rfl kk_)) ?_
  show own_Goes p e below s (Q0 Z p1 s0 s1 s2 s3 s4 s5 s6 s7 s8 s9 s10 s11 s12 s13 s14 s15 s16 t0 t1 t2 t3 t4 t5 t6 t7 t8 t9 t10 t11 t12 t13 t14 h0 n0) 0 0 T1 (mkF m 14 #[iv p1, iv ((p1 &&& (2147483647 : Int32)) % (17 : Int32)), rv x1_r] [(.ref x1_r)])
  obtain ⟨cq2, kq2, q2a, q2b, q2c⟩ := isOf hZ eq1 u1_0
  obtain ⟨_, _, ⟨T2, L2, k2, n2⟩, -, X2, ⟨Lc2, hQ2, l2, y2, z2⟩, st2⟩ := X1.virtualBack hx (y := (⟨"com/example/wirefold/wirefold/FieldType", "mapKeyable", "()Z"⟩ : MethodName)) (z := (⟨"com/example/wirefold/wirefold/FieldType", "mapKeyable", "()Z"⟩ : MethodName)) hown (mvT hZ (hw _ (List.mem_of_getElem? (i := 8) rfl))) (mvT hZ (hw _ (List.mem_of_getElem? (i := 9) rfl))) (notFace_of_selects (args := #[]) (mvT hZ (hw _ (List.mem_of_getElem? (i := 11) rfl)))) (mvT hZ (hw _ (List.mem_of_getElem? (i := 11) rfl))) (mvT hZ (hw _ (List.mem_of_getElem? (i := 10) rfl))) (by decide) (backOf (W := 0) (rm2 l Z a0 hw [] (x1_r) x1_kv (s0) (s1) (s9) h0 n0 Z0 u1_1 p_0 p_1 p_9 u1_2) hZ (hw _ (List.mem_of_getElem? (i := 12) rfl)) (hw _ (List.mem_of_getElem? (i := 6) rfl)) (by decide) (by decide)) q2a q2c (g := (mkF m 14 #[iv p1, iv ((p1 &&& (2147483647 : Int32)) % (17 : Int32)), rv x1_r] [(.ref x1_r)])) rfl (by rw [hml]; rfl) (Steps.refl _) (argsL := []) (rest := []) (lenOf pd_1 rfl) rfl (by show 2 * 0 + _ ≤ _; exact Nat.le_of_eq rfl) (hb hby at_14) (fun _ _ => ⟨rfl, eq1, (by decide : 0 + 0 ≤ _), (by decide : 0 + 0 ≤ _)⟩)
  dsimp only [Pt.U, Pt.locs, Pt.cells, Pt.slots] at X2 l2 y2 z2 st2 hQ2
  subst l2 y2 z2
  obtain ⟨rfl, Nq2, eq2⟩ := hQ2
  have N2 := Fr.app N1 Nq2
  refine own_st (fun _ kk_ => st2.trans kk_) ?_
  show own_Goes p e below s (Q0 Z p1 s0 s1 s2 s3 s4 s5 s6 s7 s8 s9 s10 s11 s12 s13 s14 s15 s16 t0 t1 t2 t3 t4 t5 t6 t7 t8 t9 t10 t11 t12 t13 t14 h0 n0) 0 0 T2 (mkF m 17 #[iv p1, iv ((p1 &&& (2147483647 : Int32)) % (17 : Int32)), rv x1_r] [(.int (own_b (¬ (x1_kv = .null ∨ x1_r = s0 ∨ x1_r = s1 ∨ x1_r = s9))))])
  refine own_st (fun _ kk_ => XS.iloadN X2.here hx rfl (hb hby at_17) rfl kk_) ?_
  show own_Goes p e below s (Q0 Z p1 s0 s1 s2 s3 s4 s5 s6 s7 s8 s9 s10 s11 s12 s13 s14 s15 s16 t0 t1 t2 t3 t4 t5 t6 t7 t8 t9 t10 t11 t12 t13 t14 h0 n0) 0 0 T2 (mkF m 18 #[iv p1, iv ((p1 &&& (2147483647 : Int32)) % (17 : Int32)), rv x1_r] [(.int ((p1 &&& (2147483647 : Int32)) % (17 : Int32))), (.int (own_b (¬ (x1_kv = .null ∨ x1_r = s0 ∨ x1_r = s1 ∨ x1_r = s9))))])
  obtain ⟨_, _, ⟨T3, L3, k3, n3⟩, -, X3, ⟨Lc3, hQ3, l3, y3, z3⟩, st3⟩ := Jvm.LawKit.callS X2 hx (y := (⟨"com/example/wirefold/wirefold/FieldTypeMapKeyablePinLaw", "expected", "(I)Z"⟩ : MethodName)) hown (mvT hZ (hw _ (List.mem_of_getElem? (i := 18) rfl))) (mvT hZ (hw _ (List.mem_of_getElem? (i := 19) rfl))) (mvT hZ (hw _ (List.mem_of_getElem? (i := 3) rfl))) (mvT hZ (hw _ (List.mem_of_getElem? (i := 20) rfl))) (by decide) (backOf (W := 1) (rm3 l Z a0 hw [] (((p1 &&& (2147483647 : Int32)) % (17 : Int32))) h0 n0 Z0) hZ (hw _ (List.mem_of_getElem? (i := 20) rfl)) (hw _ (List.mem_of_getElem? (i := 3) rfl)) (by decide) (by decide)) (g := (mkF m 18 #[iv p1, iv ((p1 &&& (2147483647 : Int32)) % (17 : Int32)), rv x1_r] [(.int ((p1 &&& (2147483647 : Int32)) % (17 : Int32))), (.int (own_b (¬ (x1_kv = .null ∨ x1_r = s0 ∨ x1_r = s1 ∨ x1_r = s9))))])) rfl (by rw [hml]; rfl) (argsL := [(.int ((p1 &&& (2147483647 : Int32)) % (17 : Int32)))]) (rest := [(.int (own_b (¬ (x1_kv = .null ∨ x1_r = s0 ∨ x1_r = s1 ∨ x1_r = s9))))]) (lenOf pd_2 rfl) rfl (by show 2 * 0 + _ ≤ _; exact Nat.le_of_eq rfl) (hb hby at_18) (fun _ _ => ⟨rfl, eq2, (by decide : 0 + 0 ≤ _), (by decide : 0 + 0 ≤ _)⟩)
  dsimp only [Pt.U, Pt.locs, Pt.cells, Pt.slots] at X3 l3 y3 z3 st3 hQ3
  subst l3 y3 z3
  obtain ⟨rfl, Nq3, eq3⟩ := hQ3
  have N3 := Fr.app N2 Nq3
  refine own_st st3 ?_
  show own_Goes p e below s (Q0 Z p1 s0 s1 s2 s3 s4 s5 s6 s7 s8 s9 s10 s11 s12 s13 s14 s15 s16 t0 t1 t2 t3 t4 t5 t6 t7 t8 t9 t10 t11 t12 t13 t14 h0 n0) 0 0 T3 (mkF m 21 #[iv p1, iv ((p1 &&& (2147483647 : Int32)) % (17 : Int32)), rv x1_r] [(.int (own_b (¬ own_nk ((p1 &&& (2147483647 : Int32)) % (17 : Int32))))), (.int (own_b (¬ (x1_kv = .null ∨ x1_r = s0 ∨ x1_r = s1 ∨ x1_r = s9))))])
  refine own_st (fun _ kk_ => XS.icmpNo X3.here hx rfl (hb hby at_21) rfl (XT.ii_ne_f (own_bc (own_fin u1_3))) (XS.iconst X3.here hx rfl (hb hby at_24) (XS.goto X3.here hx rfl (pc0 := 25) (pc' := 29) rfl (hb hby at_25) (by decide) (by decide) kk_))) ?_
  show own_Goes p e below s (Q0 Z p1 s0 s1 s2 s3 s4 s5 s6 s7 s8 s9 s10 s11 s12 s13 s14 s15 s16 t0 t1 t2 t3 t4 t5 t6 t7 t8 t9 t10 t11 t12 t13 t14 h0 n0) 0 0 T3 (mkF m 29 #[iv p1, iv ((p1 &&& (2147483647 : Int32)) % (17 : Int32)), rv x1_r] [(.int (1 : Int32))])
  refine own_retN X3 hx hlk (t := .boolean) Bd.returns (by simp) (hb hby at_29) (by decide) (by decide) ?_
  show Q0 Z p1 s0 s1 s2 s3 s4 s5 s6 s7 s8 s9 s10 s11 s12 s13 s14 s15 s16 t0 t1 t2 t3 t4 t5 t6 t7 t8 t9 t10 t11 t12 t13 t14 h0 n0 (some (.int (nar .boolean (1 : Int32)))) T3.heap _
  rw [eq3]
  exact ⟨rfl, N3⟩
set_option maxRecDepth 65536 in
set_option maxHeartbeats 40000000 in
theorem comes_1 {Post : Tables → Env → Array Value → State → Outcome → State → Prop} (hpost : ∀ tb e args s v u, (limb_1_1.after args s (.returned v) u = true ∧ limb_1_2.after args s (.returned v) u = true ∧ True) → FrameEnd s (.returned v) u (Jvm.fieldLocs frame_1_writes args s ++ Jvm.arrayLocs frame_1_arrays args s ++ Jvm.staticLocs frame_1_statics s) 0 0 → Post tb e args s (.returned v) u) :
    ArmFor flags0 classFile x code maxLocals ret World_1 tables_1 room_1 Calls_1 rest_1 Pre_1 Post := by
  intro l hfl _ _ p e ha hc hk s m args below hf hA hF happ hP
  obtain ⟨hcalls, hrest, hpre⟩ := hP
  obtain ⟨-, -, -, hnamed, -, -, -, hat⟩ := (Spec.applies_iff hf).mp happ
  obtain ⟨hg, hn⟩ := and_e (Cond.before_iff.mp (show (Jvm.Cond.and given_1 narrow_1).before args s = true from hpre))
  obtain ⟨h1, g0⟩ := and_e hg
  obtain ⟨w0, rfl⟩ : ∃ w0 : Value, args = #[w0] := by
    have hs : args.size = 1 := by simpa [Cond.value, given_1] using h1
    obtain ⟨L⟩ := args
    match L, hs with
    | [w0], _ => exact ⟨w0, rfl⟩
  have hw := fun d (hd : d ∈ tables_1) => atoms_spec (ws := Jvm.Cond.code x code maxLocals ret :: tables_1) hat d (List.mem_cons_of_mem _ hd)
  have hfit : Fit s := fun {y c} hc i hi => by
    obtain ⟨ha, rfl⟩ := Array.getElem?_eq_some_iff.mp hc
    have q := List.all_eq_true.mp ((Array.all_eq_true_iff_forall_mem.mp hF) _ (Array.getElem_mem ha)) i (List.mem_range.mpr hi)
    simpa [Array.getElem?_eq_getElem hi] using q
  obtain ⟨i0, e0⟩ := is_v g0
  obtain rfl : w0 = (.int i0) := Option.some.inj e0
  obtain ⟨c0, r0⟩ := and_e hn
  obtain ⟨c1, r1⟩ := and_e r0
  obtain ⟨c2, r2⟩ := and_e r1
  obtain ⟨c3, r3⟩ := and_e r2
  obtain ⟨c4, r4⟩ := and_e r3
  obtain ⟨c5, r5⟩ := and_e r4
  obtain ⟨c6, r6⟩ := and_e r5
  obtain ⟨c7, r7⟩ := and_e r6
  obtain ⟨c8, r8⟩ := and_e r7
  obtain ⟨c9, r9⟩ := and_e r8
  obtain ⟨c10, r10⟩ := and_e r9
  obtain ⟨c11, r11⟩ := and_e r10
  obtain ⟨c12, r12⟩ := and_e r11
  obtain ⟨c13, r13⟩ := and_e r12
  obtain ⟨c14, r14⟩ := and_e r13
  obtain ⟨c15, r15⟩ := and_e r14
  obtain ⟨c16, r16⟩ := and_e r15
  obtain ⟨c17, r17⟩ := and_e r16
  obtain ⟨c18, r18⟩ := and_e r17
  obtain ⟨c19, r19⟩ := and_e r18
  obtain ⟨c20, r20⟩ := and_e r19
  obtain ⟨c21, r21⟩ := and_e r20
  obtain ⟨c22, r22⟩ := and_e r21
  obtain ⟨c23, r23⟩ := and_e r22
  obtain ⟨c24, r24⟩ := and_e r23
  obtain ⟨c25, r25⟩ := and_e r24
  obtain ⟨c26, r26⟩ := and_e r25
  obtain ⟨c27, r27⟩ := and_e r26
  obtain ⟨c28, r28⟩ := and_e r27
  obtain ⟨c29, r29⟩ := and_e r28
  obtain ⟨c30, r30⟩ := and_e r29
  obtain ⟨c31, r31⟩ := and_e r30
  obtain ⟨c32, r32⟩ := and_e r31
  obtain ⟨c33, r33⟩ := and_e r32
  obtain ⟨c34, r34⟩ := and_e r33
  obtain ⟨c35, r35⟩ := and_e r34
  obtain ⟨c36, r36⟩ := and_e r35
  obtain ⟨c37, r37⟩ := and_e r36
  obtain ⟨c38, r38⟩ := and_e r37
  obtain ⟨c39, r39⟩ := and_e r38
  obtain ⟨c40, r40⟩ := and_e r39
  obtain ⟨c41, r41⟩ := and_e r40
  obtain ⟨c42, r42⟩ := and_e r41
  obtain ⟨c43, r43⟩ := and_e r42
  obtain ⟨c44, r44⟩ := and_e r43
  obtain ⟨c45, r45⟩ := and_e r44
  obtain ⟨c46, r46⟩ := and_e r45
  obtain ⟨c47, r47⟩ := and_e r46
  have c48 := r47
  obtain ⟨s_DOUBLE, ev_DOUBLE⟩ := exa_v c0
  have Ex_DOUBLE : Exa s s.heap s_DOUBLE "com/example/wirefold/wirefold/FieldType" := Exa.start ev_DOUBLE c0
  have St_DOUBLE : Sta s s.heap "com/example/wirefold/wirefold/FieldType" "DOUBLE" "Lcom/example/wirefold/wirefold/FieldType;" (.ref s_DOUBLE) := Sta.start ev_DOUBLE (Or.inr ⟨(hw _ (List.mem_of_getElem? (i := 6) rfl)), (hw _ (List.mem_of_getElem? (i := 7) rfl))⟩)
  obtain ⟨s_FLOAT, ev_FLOAT⟩ := exa_v c2
  have Ex_FLOAT : Exa s s.heap s_FLOAT "com/example/wirefold/wirefold/FieldType" := Exa.start ev_FLOAT c2
  have St_FLOAT : Sta s s.heap "com/example/wirefold/wirefold/FieldType" "FLOAT" "Lcom/example/wirefold/wirefold/FieldType;" (.ref s_FLOAT) := Sta.start ev_FLOAT (Or.inr ⟨(hw _ (List.mem_of_getElem? (i := 6) rfl)), (hw _ (List.mem_of_getElem? (i := 16) rfl))⟩)
  obtain ⟨s_UINT64, ev_UINT64⟩ := exa_v c5
  have Ex_UINT64 : Exa s s.heap s_UINT64 "com/example/wirefold/wirefold/FieldType" := Exa.start ev_UINT64 c5
  have St_UINT64 : Sta s s.heap "com/example/wirefold/wirefold/FieldType" "UINT64" "Lcom/example/wirefold/wirefold/FieldType;" (.ref s_UINT64) := Sta.start ev_UINT64 (Or.inr ⟨(hw _ (List.mem_of_getElem? (i := 6) rfl)), (hw _ (List.mem_of_getElem? (i := 22) rfl))⟩)
  obtain ⟨s_BYTES, ev_BYTES⟩ := exa_v c8
  have Ex_BYTES : Exa s s.heap s_BYTES "com/example/wirefold/wirefold/FieldType" := Exa.start ev_BYTES c8
  have St_BYTES : Sta s s.heap "com/example/wirefold/wirefold/FieldType" "BYTES" "Lcom/example/wirefold/wirefold/FieldType;" (.ref s_BYTES) := Sta.start ev_BYTES (Or.inr ⟨(hw _ (List.mem_of_getElem? (i := 6) rfl)), (hw _ (List.mem_of_getElem? (i := 24) rfl))⟩)
  obtain ⟨s_STRING, ev_STRING⟩ := exa_v c10
  have Ex_STRING : Exa s s.heap s_STRING "com/example/wirefold/wirefold/FieldType" := Exa.start ev_STRING c10
  have St_STRING : Sta s s.heap "com/example/wirefold/wirefold/FieldType" "STRING" "Lcom/example/wirefold/wirefold/FieldType;" (.ref s_STRING) := Sta.start ev_STRING (Or.inr ⟨(hw _ (List.mem_of_getElem? (i := 6) rfl)), (hw _ (List.mem_of_getElem? (i := 26) rfl))⟩)
  obtain ⟨s_FIXED32, ev_FIXED32⟩ := exa_v c14
  have Ex_FIXED32 : Exa s s.heap s_FIXED32 "com/example/wirefold/wirefold/FieldType" := Exa.start ev_FIXED32 c14
  have St_FIXED32 : Sta s s.heap "com/example/wirefold/wirefold/FieldType" "FIXED32" "Lcom/example/wirefold/wirefold/FieldType;" (.ref s_FIXED32) := Sta.start ev_FIXED32 (Or.inr ⟨(hw _ (List.mem_of_getElem? (i := 6) rfl)), (hw _ (List.mem_of_getElem? (i := 29) rfl))⟩)
  obtain ⟨s_BOOL, ev_BOOL⟩ := exa_v c17
  have Ex_BOOL : Exa s s.heap s_BOOL "com/example/wirefold/wirefold/FieldType" := Exa.start ev_BOOL c17
  have St_BOOL : Sta s s.heap "com/example/wirefold/wirefold/FieldType" "BOOL" "Lcom/example/wirefold/wirefold/FieldType;" (.ref s_BOOL) := Sta.start ev_BOOL (Or.inr ⟨(hw _ (List.mem_of_getElem? (i := 6) rfl)), (hw _ (List.mem_of_getElem? (i := 31) rfl))⟩)
  obtain ⟨s_INT64, ev_INT64⟩ := exa_v c20
  have Ex_INT64 : Exa s s.heap s_INT64 "com/example/wirefold/wirefold/FieldType" := Exa.start ev_INT64 c20
  have St_INT64 : Sta s s.heap "com/example/wirefold/wirefold/FieldType" "INT64" "Lcom/example/wirefold/wirefold/FieldType;" (.ref s_INT64) := Sta.start ev_INT64 (Or.inr ⟨(hw _ (List.mem_of_getElem? (i := 6) rfl)), (hw _ (List.mem_of_getElem? (i := 33) rfl))⟩)
  obtain ⟨s_SFIXED32, ev_SFIXED32⟩ := exa_v c23
  have Ex_SFIXED32 : Exa s s.heap s_SFIXED32 "com/example/wirefold/wirefold/FieldType" := Exa.start ev_SFIXED32 c23
  have St_SFIXED32 : Sta s s.heap "com/example/wirefold/wirefold/FieldType" "SFIXED32" "Lcom/example/wirefold/wirefold/FieldType;" (.ref s_SFIXED32) := Sta.start ev_SFIXED32 (Or.inr ⟨(hw _ (List.mem_of_getElem? (i := 6) rfl)), (hw _ (List.mem_of_getElem? (i := 35) rfl))⟩)
  obtain ⟨s_SINT32, ev_SINT32⟩ := exa_v c27
  have Ex_SINT32 : Exa s s.heap s_SINT32 "com/example/wirefold/wirefold/FieldType" := Exa.start ev_SINT32 c27
  have St_SINT32 : Sta s s.heap "com/example/wirefold/wirefold/FieldType" "SINT32" "Lcom/example/wirefold/wirefold/FieldType;" (.ref s_SINT32) := Sta.start ev_SINT32 (Or.inr ⟨(hw _ (List.mem_of_getElem? (i := 6) rfl)), (hw _ (List.mem_of_getElem? (i := 38) rfl))⟩)
  obtain ⟨s_INT32, ev_INT32⟩ := exa_v c30
  have Ex_INT32 : Exa s s.heap s_INT32 "com/example/wirefold/wirefold/FieldType" := Exa.start ev_INT32 c30
  have St_INT32 : Sta s s.heap "com/example/wirefold/wirefold/FieldType" "INT32" "Lcom/example/wirefold/wirefold/FieldType;" (.ref s_INT32) := Sta.start ev_INT32 (Or.inr ⟨(hw _ (List.mem_of_getElem? (i := 6) rfl)), (hw _ (List.mem_of_getElem? (i := 40) rfl))⟩)
  obtain ⟨s_UINT32, ev_UINT32⟩ := exa_v c33
  have Ex_UINT32 : Exa s s.heap s_UINT32 "com/example/wirefold/wirefold/FieldType" := Exa.start ev_UINT32 c33
  have St_UINT32 : Sta s s.heap "com/example/wirefold/wirefold/FieldType" "UINT32" "Lcom/example/wirefold/wirefold/FieldType;" (.ref s_UINT32) := Sta.start ev_UINT32 (Or.inr ⟨(hw _ (List.mem_of_getElem? (i := 6) rfl)), (hw _ (List.mem_of_getElem? (i := 42) rfl))⟩)
  obtain ⟨s_ENUM, ev_ENUM⟩ := exa_v c36
  have Ex_ENUM : Exa s s.heap s_ENUM "com/example/wirefold/wirefold/FieldType" := Exa.start ev_ENUM c36
  have St_ENUM : Sta s s.heap "com/example/wirefold/wirefold/FieldType" "ENUM" "Lcom/example/wirefold/wirefold/FieldType;" (.ref s_ENUM) := Sta.start ev_ENUM (Or.inr ⟨(hw _ (List.mem_of_getElem? (i := 6) rfl)), (hw _ (List.mem_of_getElem? (i := 44) rfl))⟩)
  obtain ⟨s_MESSAGE, ev_MESSAGE⟩ := exa_v c38
  have Ex_MESSAGE : Exa s s.heap s_MESSAGE "com/example/wirefold/wirefold/FieldType" := Exa.start ev_MESSAGE c38
  have St_MESSAGE : Sta s s.heap "com/example/wirefold/wirefold/FieldType" "MESSAGE" "Lcom/example/wirefold/wirefold/FieldType;" (.ref s_MESSAGE) := Sta.start ev_MESSAGE (Or.inr ⟨(hw _ (List.mem_of_getElem? (i := 6) rfl)), (hw _ (List.mem_of_getElem? (i := 46) rfl))⟩)
  obtain ⟨s_FIXED64, ev_FIXED64⟩ := exa_v c40
  have Ex_FIXED64 : Exa s s.heap s_FIXED64 "com/example/wirefold/wirefold/FieldType" := Exa.start ev_FIXED64 c40
  have St_FIXED64 : Sta s s.heap "com/example/wirefold/wirefold/FieldType" "FIXED64" "Lcom/example/wirefold/wirefold/FieldType;" (.ref s_FIXED64) := Sta.start ev_FIXED64 (Or.inr ⟨(hw _ (List.mem_of_getElem? (i := 6) rfl)), (hw _ (List.mem_of_getElem? (i := 48) rfl))⟩)
  obtain ⟨s_SINT64, ev_SINT64⟩ := exa_v c43
  have Ex_SINT64 : Exa s s.heap s_SINT64 "com/example/wirefold/wirefold/FieldType" := Exa.start ev_SINT64 c43
  have St_SINT64 : Sta s s.heap "com/example/wirefold/wirefold/FieldType" "SINT64" "Lcom/example/wirefold/wirefold/FieldType;" (.ref s_SINT64) := Sta.start ev_SINT64 (Or.inr ⟨(hw _ (List.mem_of_getElem? (i := 6) rfl)), (hw _ (List.mem_of_getElem? (i := 50) rfl))⟩)
  obtain ⟨s_SFIXED64, ev_SFIXED64⟩ := exa_v c46
  have Ex_SFIXED64 : Exa s s.heap s_SFIXED64 "com/example/wirefold/wirefold/FieldType" := Exa.start ev_SFIXED64 c46
  have St_SFIXED64 : Sta s s.heap "com/example/wirefold/wirefold/FieldType" "SFIXED64" "Lcom/example/wirefold/wirefold/FieldType;" (.ref s_SFIXED64) := Sta.start ev_SFIXED64 (Or.inr ⟨(hw _ (List.mem_of_getElem? (i := 6) rfl)), (hw _ (List.mem_of_getElem? (i := 52) rfl))⟩)
  obtain ⟨kw_DOUBLE, Kw_DOUBLE⟩ := own_fref ev_DOUBLE c1
  have Or_DOUBLE := own_ord ev_DOUBLE c3
  have Or_FLOAT := own_ord ev_FLOAT c4
  obtain ⟨kw_UINT64, Kw_UINT64⟩ := own_fref ev_UINT64 c6
  have Or_UINT64 := own_ord ev_UINT64 c7
  have Or_BYTES := own_ord ev_BYTES c9
  obtain ⟨kw_STRING, Kw_STRING⟩ := own_fref ev_STRING c11
  have Or_STRING := own_ord ev_STRING c12
  obtain ⟨kw_BYTES, Kw_BYTES⟩ := own_fref ev_BYTES c13
  obtain ⟨kw_FIXED32, Kw_FIXED32⟩ := own_fref ev_FIXED32 c15
  have Or_FIXED32 := own_ord ev_FIXED32 c16
  obtain ⟨kw_BOOL, Kw_BOOL⟩ := own_fref ev_BOOL c18
  have Or_BOOL := own_ord ev_BOOL c19
  obtain ⟨kw_INT64, Kw_INT64⟩ := own_fref ev_INT64 c21
  have Or_INT64 := own_ord ev_INT64 c22
  obtain ⟨kw_SFIXED32, Kw_SFIXED32⟩ := own_fref ev_SFIXED32 c24
  have Or_SFIXED32 := own_ord ev_SFIXED32 c25
  obtain ⟨kw_FLOAT, Kw_FLOAT⟩ := own_fref ev_FLOAT c26
  obtain ⟨kw_SINT32, Kw_SINT32⟩ := own_fref ev_SINT32 c28
  have Or_SINT32 := own_ord ev_SINT32 c29
  obtain ⟨kw_INT32, Kw_INT32⟩ := own_fref ev_INT32 c31
  have Or_INT32 := own_ord ev_INT32 c32
  obtain ⟨kw_UINT32, Kw_UINT32⟩ := own_fref ev_UINT32 c34
  have Or_UINT32 := own_ord ev_UINT32 c35
  have Kw_ENUM := own_fnull ev_ENUM c37
  have Kw_MESSAGE := own_fnull ev_MESSAGE c39
  obtain ⟨kw_FIXED64, Kw_FIXED64⟩ := own_fref ev_FIXED64 c41
  have Or_FIXED64 := own_ord ev_FIXED64 c42
  obtain ⟨kw_SINT64, Kw_SINT64⟩ := own_fref ev_SINT64 c44
  have Or_SINT64 := own_ord ev_SINT64 c45
  obtain ⟨kw_SFIXED64, Kw_SFIXED64⟩ := own_fref ev_SFIXED64 c47
  have Or_SFIXED64 := own_ord ev_SFIXED64 c48
  obtain ⟨n, o, h1, h2, h3, _, L, rfl, ⟨rfl, N⟩, hq⟩ := rm0 l s _ hw tables_1 i0 s_DOUBLE s_FLOAT s_INT64 s_UINT64 s_INT32 s_FIXED64 s_FIXED32 s_BOOL s_STRING s_BYTES s_UINT32 s_SFIXED32 s_SFIXED64 s_SINT32 s_SINT64 s_MESSAGE s_ENUM kw_DOUBLE kw_FLOAT kw_INT64 kw_UINT64 kw_INT32 kw_FIXED64 kw_FIXED32 kw_BOOL kw_STRING kw_BYTES kw_UINT32 kw_SFIXED32 kw_SFIXED64 kw_SINT32 kw_SINT64 s.heap s.heap.size (Nat.le_refl _) St_DOUBLE St_FLOAT St_INT64 St_UINT64 St_INT32 St_FIXED64 St_FIXED32 St_BOOL St_STRING St_BYTES St_UINT32 St_SFIXED32 St_SFIXED64 St_SINT32 St_SINT64 St_MESSAGE St_ENUM Ex_DOUBLE Ex_FLOAT Ex_INT64 Ex_UINT64 Ex_INT32 Ex_FIXED64 Ex_FIXED32 Ex_BOOL Ex_STRING Ex_BYTES Ex_UINT32 Ex_SFIXED32 Ex_SFIXED64 Ex_SINT32 Ex_SINT64 Ex_MESSAGE Ex_ENUM Kw_DOUBLE Kw_FLOAT Kw_INT64 Kw_UINT64 Kw_INT32 Kw_FIXED64 Kw_FIXED32 Kw_BOOL Kw_STRING Kw_BYTES Kw_UINT32 Kw_SFIXED32 Kw_SFIXED64 Kw_SINT32 Kw_SINT64 Kw_MESSAGE Kw_ENUM (Fld.ne Or_INT64 Or_DOUBLE (by decide)) (Fld.ne Or_INT64 Or_FLOAT (by decide)) (Fld.ne Or_INT64 Or_BYTES (by decide)) (Fld.ne Or_UINT64 Or_DOUBLE (by decide)) (Fld.ne Or_UINT64 Or_FLOAT (by decide)) (Fld.ne Or_UINT64 Or_BYTES (by decide)) (Fld.ne Or_INT32 Or_DOUBLE (by decide)) (Fld.ne Or_INT32 Or_FLOAT (by decide)) (Fld.ne Or_INT32 Or_BYTES (by decide)) (Fld.ne Or_FIXED64 Or_DOUBLE (by decide)) (Fld.ne Or_FIXED64 Or_FLOAT (by decide)) (Fld.ne Or_FIXED64 Or_BYTES (by decide)) (Fld.ne Or_FIXED32 Or_DOUBLE (by decide)) (Fld.ne Or_FIXED32 Or_FLOAT (by decide)) (Fld.ne Or_FIXED32 Or_BYTES (by decide)) (Fld.ne Or_BOOL Or_DOUBLE (by decide)) (Fld.ne Or_BOOL Or_FLOAT (by decide)) (Fld.ne Or_BOOL Or_BYTES (by decide)) (Fld.ne Or_STRING Or_DOUBLE (by decide)) (Fld.ne Or_STRING Or_FLOAT (by decide)) (Fld.ne Or_STRING Or_BYTES (by decide)) (Fld.ne Or_UINT32 Or_DOUBLE (by decide)) (Fld.ne Or_UINT32 Or_FLOAT (by decide)) (Fld.ne Or_UINT32 Or_BYTES (by decide)) (Fld.ne Or_SFIXED32 Or_DOUBLE (by decide)) (Fld.ne Or_SFIXED32 Or_FLOAT (by decide)) (Fld.ne Or_SFIXED32 Or_BYTES (by decide)) (Fld.ne Or_SFIXED64 Or_DOUBLE (by decide)) (Fld.ne Or_SFIXED64 Or_FLOAT (by decide)) (Fld.ne Or_SFIXED64 Or_BYTES (by decide)) (Fld.ne Or_SINT32 Or_DOUBLE (by decide)) (Fld.ne Or_SINT32 Or_FLOAT (by decide)) (Fld.ne Or_SINT32 Or_BYTES (by decide)) (Fld.ne Or_SINT64 Or_DOUBLE (by decide)) (Fld.ne Or_SINT64 Or_FLOAT (by decide)) (Fld.ne Or_SINT64 Or_BYTES (by decide)) p e ha hc hk s m _ below hf ((Spec.applies_iff_loose hf).mp happ).1 ⟨rfl, State.Warmed39.refl s, rfl⟩ trivial
  refine ⟨n, _, h1, h2, h3, hpost _ _ _ _ _ _ ⟨Cond.after_iff.mpr rfl, Cond.after_iff.mpr (eq_i res_at (Term.int_eval (1)) rfl), trivial⟩ ⟨hq.1, hq.2.1, (hq.2.2.sift fun y hy => Or.inr (N y hy)).mono (by decide) (by decide)⟩⟩
theorem main_1_1 : Claimed_1_1 := comes_1 fun _ _ _ _ _ _ h hF => ⟨h.1, hF⟩
theorem main_1_2 : Claimed_1_2 := comes_1 fun _ _ _ _ _ _ h hF => ⟨h.2.1, hF⟩
end Jvm.Pilot.@@N@@
namespace Jvm.Pilot.@@N@@
open Jvm Jvm.ClassFile Sem Op Lib Jvm.Free Jvm.Stand Jvm.Pilot.@@N@@.Jvm.D
/-! MADE BY PROGRAM (witnessworld.py) out of the Statement's table words and the real class files: 15 classes; the members and pool entries that the words name. The judged class is class 1, her method 3. -/
namespace start1
open Jvm.ClassFile
def u (s : String) : CpInfo := .utf8 (stringToUtf16 s)
/-- a pool by its gaps: so many unusable entries, then the entry; so many at the end -/
def gap : Nat → List CpInfo → List CpInfo
  | 0, r => r
  | n + 1, r => .unusable :: gap n r
def poolList (es : List (Nat × CpInfo)) (last : Nat) : List CpInfo := es.foldr (fun e r => gap e.1 (e.2 :: r)) (gap last [])
def pool (es : List (Nat × CpInfo)) (last : Nat) : Array CpInfo := ⟨poolList es last⟩
def fileOf (pool : Array CpInfo) (this : Nat) (attrs : Array Attribute := #[]) (ms : Array MethodInfo := #[]) (fl : Nat := 33) (sup : Nat := 0) (ifs : Array Nat := #[]) (fds : Array FieldInfo := #[]) : ClassFile where
  minorVersion := 0
  majorVersion := 65
  constantPool := pool
  accessFlags := fl
  thisClass := this
  superClass := sup
  interfaces := ifs
  fields := fds
  methods := ms
  attributes := attrs
def plain (name : String) (sup : Option ClassId) : Class where
  name := name
  kind := .ordinary
  loader := none
  accessFlags := 33
  super := sup
  interfaces := #[]
  cf := none
  fields := #[]
  methods := #[]
  instanceTypes := #[]
  staticTypes := #[]
  resolved := #[]
  callSites := []
  init := .initialized
  statics := none
  mirror := none

def pool0 : Array CpInfo := pool [(5, u "<init>"), (0, u "()V"), (1, .class_ 10), (1, u "java/lang/Object")] 113

def k0m0 : Method := { name := "<init>", desc := "()V", sig := { parameters := [], returnType := none }, accessFlags := 1, code := none }
/-- java/lang/Object -/
def k0 : Class := { plain "java/lang/Object" none with
  accessFlags := 33
  interfaces := #[]
  cf := some (fileOf pool0 8 #[] #[{ accessFlags := 1, nameIndex := 5, descriptorIndex := 6, attributes := #[] }] 33 0 #[] #[])
  fields := #[]
  methods := #[k0m0]
  instanceTypes := #[]
  staticTypes := #[]
  resolved := Array.replicate 124 none
  statics := none }

def pool1 : Array CpInfo := pool [(2, .class_ 4), (1, u "java/lang/Object"), (0, u "<init>"), (0, u "()V"), (0, .fieldref 8 9), (0, .class_ 10), (0, .nameAndType 11 12), (0, u "com/example/wirefold/wirefold/FieldType"), (0, u "DOUBLE"), (0, u "Lcom/example/wirefold/wirefold/FieldType;"), (0, .fieldref 8 14), (0, .nameAndType 15 12), (0, u "FLOAT"), (0, .fieldref 8 17), (0, .nameAndType 18 12), (0, u "INT64"), (0, .fieldref 8 20), (0, .nameAndType 21 12), (0, u "UINT64"), (0, .fieldref 8 23), (0, .nameAndType 24 12), (0, u "INT32"), (0, .fieldref 8 26), (0, .nameAndType 27 12), (0, u "FIXED64"), (0, .fieldref 8 29), (0, .nameAndType 30 12), (0, u "FIXED32"), (0, .fieldref 8 32), (0, .nameAndType 33 12), (0, u "BOOL"), (0, .fieldref 8 35), (0, .nameAndType 36 12), (0, u "STRING"), (0, .fieldref 8 38), (0, .nameAndType 39 12), (0, u "BYTES"), (0, .fieldref 8 41), (0, .nameAndType 42 12), (0, u "UINT32"), (0, .fieldref 8 44), (0, .nameAndType 45 12), (0, u "SFIXED32"), (0, .fieldref 8 47), (0, .nameAndType 48 12), (0, u "SFIXED64"), (0, .fieldref 8 50), (0, .nameAndType 51 12), (0, u "SINT32"), (0, .fieldref 8 53), (0, .nameAndType 54 12), (0, u "SINT64"), (0, .fieldref 8 56), (0, .nameAndType 57 12), (0, u "MESSAGE"), (0, .fieldref 8 59), (0, .nameAndType 60 12), (0, u "ENUM"), (0, .integer 2147483647), (0, .methodref 63 64), (0, .class_ 65), (0, .nameAndType 66 67), (0, u "com/example/wirefold/wirefold/FieldTypeMapKeyablePinLaw"), (0, u "pick"), (0, u "(I)Lcom/example/wirefold/wirefold/FieldType;"), (0, .methodref 8 69), (0, .nameAndType 70 71), (0, u "mapKeyable"), (0, u "()Z"), (0, .methodref 63 73), (0, .nameAndType 74 75), (0, u "expected"), (0, u "(I)Z"), (3, u "law")] 2

def k1m0 : Method := { name := "<init>", desc := "()V", sig := { parameters := [], returnType := none }, accessFlags := 2, code := none }
def k1c1 : Code := { maxStack := 2, maxLocals := 1, code := method_2_code, exceptionTable := #[], attributes := #[] }
def k1m1 : Method := { name := "pick", desc := "(I)Lcom/example/wirefold/wirefold/FieldType;", sig := { parameters := [.int], returnType := some (.object "com/example/wirefold/wirefold/FieldType") }, accessFlags := 10, code := some k1c1 }
def k1c2 : Code := { maxStack := 2, maxLocals := 2, code := method_3_code, exceptionTable := #[], attributes := #[] }
def k1m2 : Method := { name := "expected", desc := "(I)Z", sig := { parameters := [.int], returnType := some .boolean }, accessFlags := 10, code := some k1c2 }
def k1c3 : Code := { maxStack := 2, maxLocals := 3, code := code, exceptionTable := #[], attributes := #[] }
def k1m3 : Method := { name := "law", desc := "(I)Z", sig := { parameters := [.int], returnType := some .boolean }, accessFlags := 9, code := some k1c3 }
/-- com/example/wirefold/wirefold/FieldTypeMapKeyablePinLaw -/
def k1 : Class := { plain "com/example/wirefold/wirefold/FieldTypeMapKeyablePinLaw" (some 0) with
  accessFlags := 49
  interfaces := #[]
  cf := some (fileOf pool1 63 #[] #[{ accessFlags := 2, nameIndex := 5, descriptorIndex := 6, attributes := #[] }, { accessFlags := 10, nameIndex := 66, descriptorIndex := 67, attributes := #[] }, { accessFlags := 10, nameIndex := 74, descriptorIndex := 75, attributes := #[] }, { accessFlags := 9, nameIndex := 79, descriptorIndex := 75, attributes := #[] }] 49 2 #[] #[])
  fields := #[]
  methods := #[k1m0, k1m1, k1m2, k1m3]
  instanceTypes := #[]
  staticTypes := #[]
  resolved := Array.replicate 82 none
  statics := none }

def pool2 : Array CpInfo := pool [(1, .class_ 2), (0, u "java/lang/constant/Constable"), (0, .class_ 4), (0, u "java/lang/Object")] 6

/-- java/lang/constant/Constable -/
def k2 : Class := { plain "java/lang/constant/Constable" (some 0) with
  accessFlags := 1537
  interfaces := #[]
  cf := some (fileOf pool2 1 #[] #[] 1537 3 #[] #[])
  fields := #[]
  methods := #[]
  instanceTypes := #[]
  staticTypes := #[]
  resolved := Array.replicate 11 none
  statics := none }

def pool3 : Array CpInfo := pool [(1, .class_ 2), (0, u "java/lang/Comparable"), (0, .class_ 4), (0, u "java/lang/Object")] 7

/-- java/lang/Comparable -/
def k3 : Class := { plain "java/lang/Comparable" (some 0) with
  accessFlags := 1537
  interfaces := #[]
  cf := some (fileOf pool3 1 #[] #[] 1537 3 #[] #[])
  fields := #[]
  methods := #[]
  instanceTypes := #[]
  staticTypes := #[]
  resolved := Array.replicate 12 none
  statics := none }

def pool4 : Array CpInfo := pool [(1, .class_ 2), (0, u "java/io/Serializable"), (0, .class_ 4), (0, u "java/lang/Object")] 2

/-- java/io/Serializable -/
def k4 : Class := { plain "java/io/Serializable" (some 0) with
  accessFlags := 1537
  interfaces := #[]
  cf := some (fileOf pool4 1 #[] #[] 1537 3 #[] #[])
  fields := #[]
  methods := #[]
  instanceTypes := #[]
  staticTypes := #[]
  resolved := Array.replicate 7 none
  statics := none }

def pool5 : Array CpInfo := pool [(2, .class_ 4), (1, u "java/lang/Enum"), (0, u "name"), (0, u "Ljava/lang/String;"), (2, u "ordinal"), (0, u "I"), (1, .class_ 14), (1, u "java/lang/Object"), (4, u "hash"), (86, .class_ 108), (1, u "java/lang/Enum$EnumDesc"), (2, .class_ 112), (0, u "java/lang/constant/Constable"), (0, .class_ 114), (0, u "java/lang/Comparable"), (0, .class_ 116), (0, u "java/io/Serializable")] 87

/-- java/lang/Enum -/
def k5 : Class := { plain "java/lang/Enum" (some 0) with
  accessFlags := 1057
  interfaces := #[2, 3, 4]
  cf := some (fileOf pool5 2 #[.nestMembers #[106]] #[] 1057 12 #[111, 113, 115] #[{ accessFlags := 18, nameIndex := 5, descriptorIndex := 6, attributes := #[] }, { accessFlags := 18, nameIndex := 9, descriptorIndex := 10, attributes := #[] }, { accessFlags := 2, nameIndex := 19, descriptorIndex := 10, attributes := #[] }])
  fields := #[{ name := "name", type := (.object "java/lang/String"), accessFlags := 18, slot := 0, constantValue := 0 }, { name := "ordinal", type := .int, accessFlags := 18, slot := 1, constantValue := 0 }, { name := "hash", type := .int, accessFlags := 2, slot := 2, constantValue := 0 }]
  methods := #[]
  instanceTypes := #[(.object "java/lang/String"), .int, .int]
  staticTypes := #[]
  resolved := Array.replicate 204 none
  statics := none }

def pool6 : Array CpInfo := pool [(1, .class_ 2), (0, u "com/example/wirefold/wirefold/FieldType"), (0, .fieldref 1 4), (0, .nameAndType 5 6), (0, u "DOUBLE"), (0, u "Lcom/example/wirefold/wirefold/FieldType;"), (0, .fieldref 1 8), (0, .nameAndType 9 6), (0, u "FLOAT"), (2, u "INT64"), (2, u "UINT64"), (2, u "INT32"), (2, u "FIXED64"), (2, u "FIXED32"), (2, u "BOOL"), (2, u "STRING"), (0, .fieldref 1 32), (0, .nameAndType 33 6), (0, u "BYTES"), (2, u "UINT32"), (2, u "SFIXED32"), (2, u "SFIXED64"), (2, u "SINT32"), (2, u "SINT64"), (2, u "MESSAGE"), (2, u "ENUM"), (2, u "$VALUES"), (0, u "[Lcom/example/wirefold/wirefold/FieldType;"), (6, .class_ 67), (1, u "java/lang/Enum"), (6, .fieldref 1 75), (0, .nameAndType 76 77), (0, u "keyword"), (0, u "Ljava/lang/String;"), (2, u "wireType"), (0, u "Lcom/example/wirefold/wirefold/WireType;"), (2, u "javaClass"), (0, u "Ljava/lang/Class;"), (96, u "()Z"), (87, u "mapKeyable")] 33

def k6c0 : Code := { maxStack := 2, maxLocals := 1, code := prog_4_method_8_code, exceptionTable := #[], attributes := #[] }
def k6m0 : Method := { name := "mapKeyable", desc := "()Z", sig := { parameters := [], returnType := some .boolean }, accessFlags := 0, code := some k6c0 }
/-- com/example/wirefold/wirefold/FieldType -/
def k6 : Class := { plain "com/example/wirefold/wirefold/FieldType" (some 5) with
  accessFlags := 16432
  interfaces := #[]
  cf := some (fileOf pool6 1 #[] #[{ accessFlags := 0, nameIndex := 270, descriptorIndex := 182, attributes := #[] }] 16432 65 #[] #[{ accessFlags := 16409, nameIndex := 5, descriptorIndex := 6, attributes := #[] }, { accessFlags := 16409, nameIndex := 9, descriptorIndex := 6, attributes := #[] }, { accessFlags := 16409, nameIndex := 12, descriptorIndex := 6, attributes := #[] }, { accessFlags := 16409, nameIndex := 15, descriptorIndex := 6, attributes := #[] }, { accessFlags := 16409, nameIndex := 18, descriptorIndex := 6, attributes := #[] }, { accessFlags := 16409, nameIndex := 21, descriptorIndex := 6, attributes := #[] }, { accessFlags := 16409, nameIndex := 24, descriptorIndex := 6, attributes := #[] }, { accessFlags := 16409, nameIndex := 27, descriptorIndex := 6, attributes := #[] }, { accessFlags := 16409, nameIndex := 30, descriptorIndex := 6, attributes := #[] }, { accessFlags := 16409, nameIndex := 33, descriptorIndex := 6, attributes := #[] }, { accessFlags := 16409, nameIndex := 36, descriptorIndex := 6, attributes := #[] }, { accessFlags := 16409, nameIndex := 39, descriptorIndex := 6, attributes := #[] }, { accessFlags := 16409, nameIndex := 42, descriptorIndex := 6, attributes := #[] }, { accessFlags := 16409, nameIndex := 45, descriptorIndex := 6, attributes := #[] }, { accessFlags := 16409, nameIndex := 48, descriptorIndex := 6, attributes := #[] }, { accessFlags := 16409, nameIndex := 51, descriptorIndex := 6, attributes := #[] }, { accessFlags := 16409, nameIndex := 54, descriptorIndex := 6, attributes := #[] }, { accessFlags := 18, nameIndex := 76, descriptorIndex := 77, attributes := #[] }, { accessFlags := 18, nameIndex := 80, descriptorIndex := 81, attributes := #[] }, { accessFlags := 18, nameIndex := 84, descriptorIndex := 85, attributes := #[] }, { accessFlags := 4122, nameIndex := 57, descriptorIndex := 58, attributes := #[] }])
  fields := #[{ name := "DOUBLE", type := (.object "com/example/wirefold/wirefold/FieldType"), accessFlags := 16409, slot := 0, constantValue := 0 }, { name := "FLOAT", type := (.object "com/example/wirefold/wirefold/FieldType"), accessFlags := 16409, slot := 1, constantValue := 0 }, { name := "INT64", type := (.object "com/example/wirefold/wirefold/FieldType"), accessFlags := 16409, slot := 2, constantValue := 0 }, { name := "UINT64", type := (.object "com/example/wirefold/wirefold/FieldType"), accessFlags := 16409, slot := 3, constantValue := 0 }, { name := "INT32", type := (.object "com/example/wirefold/wirefold/FieldType"), accessFlags := 16409, slot := 4, constantValue := 0 }, { name := "FIXED64", type := (.object "com/example/wirefold/wirefold/FieldType"), accessFlags := 16409, slot := 5, constantValue := 0 }, { name := "FIXED32", type := (.object "com/example/wirefold/wirefold/FieldType"), accessFlags := 16409, slot := 6, constantValue := 0 }, { name := "BOOL", type := (.object "com/example/wirefold/wirefold/FieldType"), accessFlags := 16409, slot := 7, constantValue := 0 }, { name := "STRING", type := (.object "com/example/wirefold/wirefold/FieldType"), accessFlags := 16409, slot := 8, constantValue := 0 }, { name := "BYTES", type := (.object "com/example/wirefold/wirefold/FieldType"), accessFlags := 16409, slot := 9, constantValue := 0 }, { name := "UINT32", type := (.object "com/example/wirefold/wirefold/FieldType"), accessFlags := 16409, slot := 10, constantValue := 0 }, { name := "SFIXED32", type := (.object "com/example/wirefold/wirefold/FieldType"), accessFlags := 16409, slot := 11, constantValue := 0 }, { name := "SFIXED64", type := (.object "com/example/wirefold/wirefold/FieldType"), accessFlags := 16409, slot := 12, constantValue := 0 }, { name := "SINT32", type := (.object "com/example/wirefold/wirefold/FieldType"), accessFlags := 16409, slot := 13, constantValue := 0 }, { name := "SINT64", type := (.object "com/example/wirefold/wirefold/FieldType"), accessFlags := 16409, slot := 14, constantValue := 0 }, { name := "MESSAGE", type := (.object "com/example/wirefold/wirefold/FieldType"), accessFlags := 16409, slot := 15, constantValue := 0 }, { name := "ENUM", type := (.object "com/example/wirefold/wirefold/FieldType"), accessFlags := 16409, slot := 16, constantValue := 0 }, { name := "keyword", type := (.object "java/lang/String"), accessFlags := 18, slot := 3, constantValue := 0 }, { name := "wireType", type := (.object "com/example/wirefold/wirefold/WireType"), accessFlags := 18, slot := 4, constantValue := 0 }, { name := "javaClass", type := (.object "java/lang/Class"), accessFlags := 18, slot := 5, constantValue := 0 }, { name := "$VALUES", type := (.array (.object "com/example/wirefold/wirefold/FieldType")), accessFlags := 4122, slot := 17, constantValue := 0 }]
  methods := #[k6m0]
  instanceTypes := #[(.object "java/lang/String"), .int, .int, (.object "java/lang/String"), (.object "com/example/wirefold/wirefold/WireType"), (.object "java/lang/Class")]
  staticTypes := #[(.object "com/example/wirefold/wirefold/FieldType"), (.object "com/example/wirefold/wirefold/FieldType"), (.object "com/example/wirefold/wirefold/FieldType"), (.object "com/example/wirefold/wirefold/FieldType"), (.object "com/example/wirefold/wirefold/FieldType"), (.object "com/example/wirefold/wirefold/FieldType"), (.object "com/example/wirefold/wirefold/FieldType"), (.object "com/example/wirefold/wirefold/FieldType"), (.object "com/example/wirefold/wirefold/FieldType"), (.object "com/example/wirefold/wirefold/FieldType"), (.object "com/example/wirefold/wirefold/FieldType"), (.object "com/example/wirefold/wirefold/FieldType"), (.object "com/example/wirefold/wirefold/FieldType"), (.object "com/example/wirefold/wirefold/FieldType"), (.object "com/example/wirefold/wirefold/FieldType"), (.object "com/example/wirefold/wirefold/FieldType"), (.object "com/example/wirefold/wirefold/FieldType"), (.array (.object "com/example/wirefold/wirefold/FieldType"))]
  resolved := Array.replicate 304 none
  statics := some 0 }

def pool7 : Array CpInfo := pool [(2, .class_ 4), (1, u "java/lang/CharSequence"), (42, .class_ 48), (0, u "java/lang/CharSequence$1CodePointIterator"), (10, .class_ 60), (0, u "java/lang/CharSequence$1CharIterator"), (5, .class_ 67), (0, u "java/lang/Object")] 63

/-- java/lang/CharSequence -/
def k7 : Class := { plain "java/lang/CharSequence" (some 0) with
  accessFlags := 1537
  interfaces := #[]
  cf := some (fileOf pool7 2 #[.nestMembers #[47, 59]] #[] 1537 66 #[] #[])
  fields := #[]
  methods := #[]
  instanceTypes := #[]
  staticTypes := #[]
  resolved := Array.replicate 131 none
  statics := none }

def pool8 : Array CpInfo := pool [(1, .class_ 2), (0, u "java/lang/constant/ConstantDesc"), (0, .class_ 4), (0, u "java/lang/Object")] 32

/-- java/lang/constant/ConstantDesc -/
def k8 : Class := { plain "java/lang/constant/ConstantDesc" (some 0) with
  accessFlags := 1537
  interfaces := #[]
  cf := some (fileOf pool8 1 #[] #[] 1537 3 #[] #[])
  fields := #[]
  methods := #[]
  instanceTypes := #[]
  staticTypes := #[]
  resolved := Array.replicate 37 none
  statics := none }

def pool9 : Array CpInfo := pool [(2, .class_ 4), (1, u "java/lang/Object"), (0, u "<init>"), (0, u "()V"), (3, .class_ 12), (1, u "java/lang/String"), (0, u "value"), (0, u "[B"), (2, u "coder"), (0, u "B"), (2, u "hash"), (0, u "I"), (2, u "hashIsZero"), (0, u "Z"), (13, u "COMPACT_STRINGS"), (534, .class_ 576), (0, u "java/lang/CharSequence"), (22, u "CASE_INSENSITIVE_ORDER"), (0, u "Ljava/util/Comparator;"), (500, u "serialPersistentFields"), (0, u "[Ljava/io/ObjectStreamField;"), (0, .class_ 1104), (0, u "java/lang/String$CaseInsensitiveComparator"), (1, .class_ 1107), (0, u "java/io/Serializable"), (0, .class_ 1109), (0, u "java/lang/Comparable"), (0, .class_ 1111), (0, u "java/lang/constant/Constable"), (0, .class_ 1113), (0, u "java/lang/constant/ConstantDesc"), (2, u "serialVersionUID"), (0, u "J"), (3, u "REPL"), (0, u "C"), (2, u "LATIN1"), (1, u "UTF16")] 323

def k9m0 : Method := { name := "<init>", desc := "()V", sig := { parameters := [], returnType := none }, accessFlags := 1, code := none }
/-- java/lang/String -/
def k9 : Class := { plain "java/lang/String" (some 0) with
  accessFlags := 49
  interfaces := #[4, 3, 7, 2, 8]
  cf := some (fileOf pool9 10 #[.nestMembers #[1103]] #[{ accessFlags := 1, nameIndex := 5, descriptorIndex := 6, attributes := #[] }] 49 2 #[1106, 1108, 575, 1110, 1112] #[{ accessFlags := 18, nameIndex := 13, descriptorIndex := 14, attributes := #[] }, { accessFlags := 18, nameIndex := 17, descriptorIndex := 18, attributes := #[] }, { accessFlags := 2, nameIndex := 21, descriptorIndex := 22, attributes := #[] }, { accessFlags := 2, nameIndex := 25, descriptorIndex := 26, attributes := #[] }, { accessFlags := 26, nameIndex := 1116, descriptorIndex := 1117, attributes := #[] }, { accessFlags := 24, nameIndex := 40, descriptorIndex := 26, attributes := #[] }, { accessFlags := 26, nameIndex := 1101, descriptorIndex := 1102, attributes := #[] }, { accessFlags := 26, nameIndex := 1121, descriptorIndex := 1122, attributes := #[] }, { accessFlags := 25, nameIndex := 599, descriptorIndex := 600, attributes := #[] }, { accessFlags := 24, nameIndex := 1125, descriptorIndex := 18, attributes := #[] }, { accessFlags := 24, nameIndex := 1127, descriptorIndex := 18, attributes := #[] }])
  fields := #[{ name := "value", type := (.array .byte), accessFlags := 18, slot := 0, constantValue := 0 }, { name := "coder", type := .byte, accessFlags := 18, slot := 1, constantValue := 0 }, { name := "hash", type := .int, accessFlags := 2, slot := 2, constantValue := 0 }, { name := "hashIsZero", type := .boolean, accessFlags := 2, slot := 3, constantValue := 0 }, { name := "serialVersionUID", type := .long, accessFlags := 26, slot := 0, constantValue := 0 }, { name := "COMPACT_STRINGS", type := .boolean, accessFlags := 24, slot := 1, constantValue := 0 }, { name := "serialPersistentFields", type := (.array (.object "java/io/ObjectStreamField")), accessFlags := 26, slot := 2, constantValue := 0 }, { name := "REPL", type := .char, accessFlags := 26, slot := 3, constantValue := 0 }, { name := "CASE_INSENSITIVE_ORDER", type := (.object "java/util/Comparator"), accessFlags := 25, slot := 4, constantValue := 0 }, { name := "LATIN1", type := .byte, accessFlags := 24, slot := 5, constantValue := 0 }, { name := "UTF16", type := .byte, accessFlags := 24, slot := 6, constantValue := 0 }]
  methods := #[k9m0]
  instanceTypes := #[(.array .byte), .byte, .int, .boolean]
  staticTypes := #[.long, .boolean, (.array (.object "java/io/ObjectStreamField")), .char, (.object "java/util/Comparator"), .byte, .byte]
  resolved := Array.replicate 1451 none
  statics := none }

def pool10 : Array CpInfo := pool [(1, u "java/lang/Cloneable"), (0, .class_ 1), (0, u "java/lang/Object"), (0, .class_ 3)] 3

/-- java/lang/Cloneable -/
def k10 : Class := { plain "java/lang/Cloneable" (some 0) with
  accessFlags := 1537
  interfaces := #[]
  cf := some (fileOf pool10 2 #[] #[] 1537 4 #[] #[])
  fields := #[]
  methods := #[]
  instanceTypes := #[]
  staticTypes := #[]
  resolved := Array.replicate 8 none
  statics := none }

/-- the primitive byte -/
def k11 : Class := { plain "byte" none with kind := .primitive 'B', accessFlags := 0x411 }
/-- [B -/
def k12 : Class := { plain "[B" (some 0) with kind := .array 11 .byte, interfaces := #[10, 4], accessFlags := 1041 }

/-- the primitive int -/
def k13 : Class := { plain "int" none with kind := .primitive 'I', accessFlags := 0x411 }
/-- [I -/
def k14 : Class := { plain "[I" (some 0) with kind := .array 13 .int, interfaces := #[10, 4], accessFlags := 1041 }

def heap : Heap := #[{ cls := 6, slots := #[.ref 1, .ref 2, .ref 3, .ref 4, .ref 5, .ref 6, .ref 7, .ref 8, .ref 9, .ref 10, .ref 11, .ref 12, .ref 13, .ref 14, .ref 15, .ref 16, .ref 17, .null], vm := .statics 6 },
  { cls := 6, slots := #[.null, .int 0, .int 0, .ref 18, .null, .null], vm := .none },
  { cls := 6, slots := #[.null, .int 1, .int 0, .ref 18, .null, .null], vm := .none },
  { cls := 6, slots := #[.null, .int 2, .int 0, .ref 18, .null, .null], vm := .none },
  { cls := 6, slots := #[.null, .int 3, .int 0, .ref 18, .null, .null], vm := .none },
  { cls := 6, slots := #[.null, .int 4, .int 0, .ref 18, .null, .null], vm := .none },
  { cls := 6, slots := #[.null, .int 5, .int 0, .ref 18, .null, .null], vm := .none },
  { cls := 6, slots := #[.null, .int 6, .int 0, .ref 18, .null, .null], vm := .none },
  { cls := 6, slots := #[.null, .int 7, .int 0, .ref 18, .null, .null], vm := .none },
  { cls := 6, slots := #[.null, .int 8, .int 0, .ref 18, .null, .null], vm := .none },
  { cls := 6, slots := #[.null, .int 9, .int 0, .ref 18, .null, .null], vm := .none },
  { cls := 6, slots := #[.null, .int 10, .int 0, .ref 18, .null, .null], vm := .none },
  { cls := 6, slots := #[.null, .int 11, .int 0, .ref 18, .null, .null], vm := .none },
  { cls := 6, slots := #[.null, .int 12, .int 0, .ref 18, .null, .null], vm := .none },
  { cls := 6, slots := #[.null, .int 13, .int 0, .ref 18, .null, .null], vm := .none },
  { cls := 6, slots := #[.null, .int 14, .int 0, .ref 18, .null, .null], vm := .none },
  { cls := 6, slots := #[.null, .int 15, .int 0, .null, .null, .null], vm := .none },
  { cls := 6, slots := #[.null, .int 16, .int 0, .null, .null, .null], vm := .none },
  { cls := 9, slots := #[.null, .int 0, .int 0, .int 0], vm := .none }]
def classes : Array Class := #[k0, k1, k2, k3, k4, k5, k6, k7, k8, k9, k10, k11, k12, k13, k14]
def interned : List (Array UInt16 × Addr) := []
def slotsUsed : Nat := 124
def theMethod : MethodId := ⟨1, 3⟩
def args0 : Array Value := #[.int 5]
def aboutOver (below : List Frame) : State where
  vm := { classes := classes, interned := interned.toArray }
  heap := heap
  slotsUsed := slotsUsed
  threads := #[{ frames := .invoking theMethod args0 :: below }]
def below0 : List Frame := [.native { method := ⟨0, 0⟩, args := #[] }]
def about1 : State := aboutOver below0
def p0 : Program := .bare "" "" ""
def e0 : Env := launch0.env 0 0 0
theorem w_frames : about1.frames = Frame.invoking theMethod args0 :: below0 := rfl
set_option maxRecDepth 65536 in
theorem w_args : argsFit about1.vm theMethod args0 = true := by decide +kernel
set_option maxRecDepth 65536 in
theorem w_heap : heapFits about1 = true := by decide +kernel
set_option maxRecDepth 65536 in
theorem w_runnable : about1.curStatus? = some .runnable := by decide +kernel
set_option maxRecDepth 65536 in
theorem w_alone : about1.alone = true := by decide +kernel
set_option maxRecDepth 65536 in
theorem w_named : about1.methodNamed? x = some theMethod := by decide +kernel
set_option maxRecDepth 65536 in
theorem w_hears : about1.hears theMethod below0 = true := by decide +kernel
set_option maxRecDepth 65536 in
theorem w_ripe : about1.ripe theMethod args0 below0 = true := by decide +kernel
theorem w_running : about1.status = .running := rfl
set_option maxRecDepth 65536 in
theorem w_room : about1.hasRoom e0.platform room_1 = true :=
  launch0.hasRoom_least _ room_1 (by decide +kernel) (by decide +kernel) (by decide +kernel) (by decide +kernel) (by decide +kernel) (by decide +kernel)
theorem allAtoms_all (ts : List Jvm.Cond) (a : Array Jvm.Value) (st : Jvm.State) : (allAtoms ts).before a st = ts.all (fun c => c.before a st) := by
  induction ts with
  | nil => rfl
  | cons c t ih =>
    show (Jvm.Cond.and c (allAtoms t)).before a st = _
    rw [Jvm.Cond.before_and, ih, List.all_cons]
def words1 : List Jvm.Cond := Jvm.Cond.code x code maxLocals ret :: tables_1
/-- a 'code' word, met by the world's own term for the bytes: nothing is compared byte by byte -/
theorem code_word {y : MethodName} {bytes : ByteArray} {mx : Nat} {rt : Option FieldType} {a : Array Value} {s : State} {m : MethodId} {meth : Method} {c : Code} (h1 : s.methodNamed? y = some m) (h2 : s.vm.method? m = some meth) (h3 : meth.code = some c) (h4 : c.code = bytes)
    (h5 : (c.maxLocals == mx && c.exceptionTable.isEmpty && decide (c.maxStack ≤ mostOperands) && decide (meth.sig.returnType = rt) && !meth.locks && decide (parseMethodDescriptor y.desc = some meth.sig)) = true) : (Jvm.Cond.code y bytes mx rt).before a s = true := by
  simp only [Bool.and_eq_true, beq_iff_eq, Bool.not_eq_true', decide_eq_true_eq] at h5
  obtain ⟨⟨⟨⟨⟨g1, g2⟩, g3⟩, g4⟩, g5⟩, g6⟩ := h5
  simp [Cond.before, Cond.holds, Cond.value, h1, h2, h3, h4, g1, g2, g3, g4, g5, g6]
def isCode : Jvm.Cond → Bool
  | .code _ _ _ _ => true
  | _ => false
theorem all_split {L : List Jvm.Cond} {P : Jvm.Cond → Bool} (h1 : L.all (fun c => isCode c || P c) = true) (h2 : ∀ c ∈ L.filter isCode, P c = true) : L.all P = true := by
  refine List.all_eq_true.mpr fun c hc => ?_
  have h := List.all_eq_true.mp h1 c hc
  rcases Bool.eq_false_or_eq_true (isCode c) with hi | hi
  · exact h2 c (List.mem_filter.mpr ⟨hc, hi⟩)
  · simpa [hi] using h
set_option maxRecDepth 65536 in
theorem w_c0 : (Jvm.Cond.code x code maxLocals ret).before args0 about1 = true := code_word (m := ⟨1, 3⟩) (meth := k1m3) (c := k1c3) (by decide +kernel) rfl rfl rfl (by decide +kernel)
set_option maxRecDepth 65536 in
theorem w_c1 : (Jvm.Cond.code ({ cls := "com/example/wirefold/wirefold/FieldTypeMapKeyablePinLaw", name := "pick", desc := "(I)Lcom/example/wirefold/wirefold/FieldType;" } : Jvm.MethodName) method_2_code (1 : Nat) (Option.some (Jvm.ClassFile.FieldType.object "com/example/wirefold/wirefold/FieldType"))).before args0 about1 = true := code_word (m := ⟨1, 1⟩) (meth := k1m1) (c := k1c1) (by decide +kernel) rfl rfl rfl (by decide +kernel)
set_option maxRecDepth 65536 in
theorem w_c2 : (Jvm.Cond.code ({ cls := "com/example/wirefold/wirefold/FieldType", name := "mapKeyable", desc := "()Z" } : Jvm.MethodName) prog_4_method_8_code (1 : Nat) (Option.some Jvm.ClassFile.FieldType.boolean)).before args0 about1 = true := code_word (m := ⟨6, 0⟩) (meth := k6m0) (c := k6c0) (by decide +kernel) rfl rfl rfl (by decide +kernel)
set_option maxRecDepth 65536 in
theorem w_c3 : (Jvm.Cond.code ({ cls := "com/example/wirefold/wirefold/FieldTypeMapKeyablePinLaw", name := "expected", desc := "(I)Z" } : Jvm.MethodName) method_3_code (2 : Nat) (Option.some Jvm.ClassFile.FieldType.boolean)).before args0 about1 = true := code_word (m := ⟨1, 2⟩) (meth := k1m2) (c := k1c2) (by decide +kernel) rfl rfl rfl (by decide +kernel)
def codes1 : List Jvm.Cond := [Jvm.Cond.code x code maxLocals ret, Jvm.Cond.code ({ cls := "com/example/wirefold/wirefold/FieldTypeMapKeyablePinLaw", name := "pick", desc := "(I)Lcom/example/wirefold/wirefold/FieldType;" } : Jvm.MethodName) method_2_code (1 : Nat) (Option.some (Jvm.ClassFile.FieldType.object "com/example/wirefold/wirefold/FieldType")), Jvm.Cond.code ({ cls := "com/example/wirefold/wirefold/FieldType", name := "mapKeyable", desc := "()Z" } : Jvm.MethodName) prog_4_method_8_code (1 : Nat) (Option.some Jvm.ClassFile.FieldType.boolean), Jvm.Cond.code ({ cls := "com/example/wirefold/wirefold/FieldTypeMapKeyablePinLaw", name := "expected", desc := "(I)Z" } : Jvm.MethodName) method_3_code (2 : Nat) (Option.some Jvm.ClassFile.FieldType.boolean)]
set_option maxRecDepth 65536 in
theorem codes_eq : words1.filter isCode = codes1 := rfl
theorem w_codes : ∀ c ∈ words1.filter isCode, c.before args0 about1 = true := by
  rw [codes_eq]
  intro c hc
  simp only [codes1, List.mem_cons, List.not_mem_nil, or_false] at hc
  rcases hc with rfl | rfl | rfl | rfl
  · exact w_c0
  · exact w_c1
  · exact w_c2
  · exact w_c3
set_option maxRecDepth 65536 in
theorem w_t1 : (words1.take 24).all (fun c => isCode c || c.before args0 about1) = true := by decide +kernel
set_option maxRecDepth 65536 in
theorem w_t2 : ((words1.drop 24).take 24).all (fun c => isCode c || c.before args0 about1) = true := by decide +kernel
set_option maxRecDepth 65536 in
theorem w_t3 : ((words1.drop 24).drop 24).all (fun c => isCode c || c.before args0 about1) = true := by decide +kernel
theorem w_tables : (allAtoms (Jvm.Cond.code x code maxLocals ret :: tables_1)).before args0 about1 = true := by
  rw [allAtoms_all]
  show words1.all (fun c => c.before args0 about1) = true
  refine all_split ?_ w_codes
  rw [← List.take_append_drop 24 words1, List.all_append, w_t1, ← List.take_append_drop 24 (words1.drop 24), List.all_append, w_t2, w_t3]
  rfl
set_option maxRecDepth 65536 in
theorem w_case : (Jvm.Cond.and given_1 narrow_1).before args0 about1 = true := by decide +kernel
theorem w_applies : (headSpec (Jvm.Cond.code x code maxLocals ret :: tables_1) room_1).applies x e0.platform about1 = true :=
  (Spec.applies_iff w_frames).mpr ⟨w_running, w_runnable, w_alone, w_named, w_hears, w_ripe, w_room, w_tables⟩
theorem atStart : AtStart classFile x code maxLocals ret World_1 tables_1 room_1 Calls_1 rest_1 Pre_1 launch0 p0 e0 about1 theMethod args0 below0 :=
  ⟨lists_1, trivial, launch0.admits_env _ _ _, launch0.least_env, fairChoices_fair.cas, fairChoices_fair.clock, w_frames, w_args, w_heap, w_applies, trivial, trivial, w_case⟩
end start1
theorem witness_1 : WitnessClaimed_1 := ⟨start1.p0, start1.e0, start1.about1, start1.theMethod, start1.args0, start1.below0, start1.atStart⟩
end Jvm.Pilot.@@N@@
