import JvmDerived
import JvmDerived.Pilot.@@N@@Statement
import JvmDerived.Pilot.@@N@@Code
set_option linter.unusedVariables false
set_option linter.unusedSimpArgs false
namespace Jvm.RoadKit
open Sem ClassFile Op Lib Jvm.Stand Jvm.Free Jvm.LawKit
section New
variable {p : Program} {l : Launch} {e : Env} {R : Room} {s : State} {m : MethodId} {args : Array Value} {below : List Frame} {meth : Method} {c : Code} {T T' : State} {locs : List Loc} {cells slots : Nat} {Q : Option Value → Heap → List Loc → Prop} {cc ss : Nat} {g g' : JFrame} {pc : Nat} {Ls : Array Slot}
/-- from here the body comes to an end that meets Q -/
def own_Goes (p : Program) (e : Env) (below : List Frame) (s : State) (Q : Option Value → Heap → List Loc → Prop) (cc ss : Nat) (T : State) (g : JFrame) : Prop :=
  ∃ s₂ o, Steps p.tables e below (T.setTop g) s₂ ∧ s₂.status = .running ∧ Ended s₂ below o ∧ ∃ v L, o = .returned v ∧ Q v s₂.heap L ∧ FrameEnd s o s₂ L cc ss
theorem own_st (h : ∀ t, Steps p.tables e below (T'.setTop g') t → Steps p.tables e below (T.setTop g) t) (k : own_Goes p e below s Q cc ss T' g') : own_Goes p e below s Q cc ss T g := by
  obtain ⟨s₂, o, h1, r⟩ := k; exact ⟨s₂, o, h _ h1, r⟩
theorem own_end {v : Option Value} (X : Stand p l e R s m args below meth c T locs cells slots) (hlk : meth.locks = false) (hv : meth.sig.returnType = none → v = none) (hc : cells ≤ cc) (hs : slots ≤ ss) (hQ : Q v T.heap locs)
    (st : ∀ fs, (∀ (f : JFrame) (acts : List Action), f.method = m → f.locked = none → f.entered = [] → (doReturn e (T.setTop f) acts v).1 = T.setFrames fs) → Steps p.tables e below (T.setTop g) (T.setFrames fs)) : own_Goes p e below s Q cc ss T g := by
  obtain ⟨fs, hr, hrun, hended, hW, hsame⟩ := X.leave (v := v) hv hlk
  exact ⟨_, _, st fs hr, hrun, hended, _, _, rfl, hQ, ⟨_, rfl⟩, hW, hsame.mono hc hs⟩
theorem own_retN (X : Stand p l e R s m args below meth c T locs cells slots) (hx : p.tables.exec = Jvm.exec) (hlk : meth.locks = false) {t : FieldType} {z : Int32} {rest : List Value} (hret : meth.sig.returnType = some t) (ht : t = .boolean ∨ t = .byte ∨ t = .char ∨ t = .short) (hd : decode c.code pc = .ok (.ireturn, 1)) (hc : cells ≤ cc) (hs : slots ≤ ss) (hQ : Q (some (.int (nar t z))) T.heap locs) : own_Goes p e below s Q cc ss T (mkF m pc Ls (.int z :: rest)) :=
  own_end X hlk (fun h => by rw [hret] at h; cases h) hc hs hQ fun fs hr => retN X hx hret ht hd hr
theorem own_retI (X : Stand p l e R s m args below meth c T locs cells slots) (hx : p.tables.exec = Jvm.exec) (hlk : meth.locks = false) {z : Int32} {rest : List Value} (hret : meth.sig.returnType = some .int) (hd : decode c.code pc = .ok (.ireturn, 1)) (hc : cells ≤ cc) (hs : slots ≤ ss) (hQ : Q (some (.int z)) T.heap locs) : own_Goes p e below s Q cc ss T (mkF m pc Ls (.int z :: rest)) :=
  own_end X hlk (fun h => by rw [hret] at h; cases h) hc hs hQ fun fs hr => retOut X hx hret rfl (Or.inl ⟨rfl, Or.inl rfl, _, rfl⟩) hd hr
theorem own_retL (X : Stand p l e R s m args below meth c T locs cells slots) (hx : p.tables.exec = Jvm.exec) (hlk : meth.locks = false) {z : Int64} {rest : List Value} (hret : meth.sig.returnType = some .long) (hd : decode c.code pc = .ok (.lreturn, 1)) (hc : cells ≤ cc) (hs : slots ≤ ss) (hQ : Q (some (.long z)) T.heap locs) : own_Goes p e below s Q cc ss T (mkF m pc Ls (.long z :: rest)) :=
  own_end X hlk (fun h => by rw [hret] at h; cases h) hc hs hQ fun fs hr => retOut X hx hret rfl (Or.inr (Or.inl ⟨rfl, rfl, _, rfl⟩)) hd hr
theorem own_narR {t : FieldType} {w : Value} (hw : w.isRef = true) : narrow t w = w := by rcases ref_cases hw with rfl | ⟨a, rfl⟩ <;> cases t <;> rfl
theorem own_fitR {n : String} {w : Value} (hw : w.isRef = true) : fits (.object n) w = true := by rcases ref_cases hw with rfl | ⟨a, rfl⟩ <;> rfl
theorem own_retA (X : Stand p l e R s m args below meth c T locs cells slots) (hx : p.tables.exec = Jvm.exec) (hlk : meth.locks = false) {w : Value} {t : FieldType} {rest : List Value} (hw : w.isRef = true) (hret : meth.sig.returnType = some t) (ht : t.isReference = true) (hd : decode c.code pc = .ok (.areturn, 1)) (hc : cells ≤ cc) (hs : slots ≤ ss) (hQ : Q (some w) T.heap locs) : own_Goes p e below s Q cc ss T (mkF m pc Ls (w :: rest)) :=
  own_end X hlk (fun h => by rw [hret] at h; cases h) hc hs hQ fun fs hr => retOut X hx hret (own_narR hw) (Or.inr (Or.inr (Or.inr (Or.inr ⟨rfl, ht, hw⟩)))) hd hr
theorem own_ret0 (X : Stand p l e R s m args below meth c T locs cells slots) (hx : p.tables.exec = Jvm.exec) (hlk : meth.locks = false) (hret : meth.sig.returnType = none) (hd : decode c.code pc = .ok (.return_, 1)) (hc : cells ≤ cc) (hs : slots ≤ ss) (hQ : Q none T.heap locs) : own_Goes p e below s Q cc ss T (mkF m pc Ls []) :=
  own_end X hlk (fun _ => rfl) hc hs hQ fun fs hr => X.returnOut hx hret hd hr
def own_GoesW (p : Program) (e : Env) (below : List Frame) (s : State) (Q : Option Value → Heap → List Loc → Prop) (cc ss : Nat) (T : State) (g : JFrame) : Prop :=
  ∃ s₂ o, Steps p.tables e below (T.setTop g) s₂ ∧ s₂.status = .running ∧ Ended s₂ below o ∧ ∃ v L, o = .returned v ∧ Q v s₂.heap L ∧ ReturnedEndW s o s₂ L cc ss
theorem own_stW (h : ∀ t, Steps p.tables e below (T'.setTop g') t → Steps p.tables e below (T.setTop g) t) (k : own_GoesW p e below s Q cc ss T' g') : own_GoesW p e below s Q cc ss T g := by
  obtain ⟨s₂, o, h1, r⟩ := k; exact ⟨s₂, o, h _ h1, r⟩
theorem own_endW {v : Option Value} {vm₁ : Vm} {k0 : Nat} (X : Stand p l e R (s.setVm vm₁) m args below meth c T locs cells slots) (hlk : meth.locks = false) (hS : s.Since vm₁ k0) (hk : k0 ≤ T.heap.size) (hv : meth.sig.returnType = none → v = none) (hc : cells ≤ cc) (hs : slots ≤ ss) (hQ : Q v T.heap locs)
    (st : ∀ fs, (∀ (f : JFrame) (acts : List Action), f.method = m → f.locked = none → f.entered = [] → (doReturn e (T.setTop f) acts v).1 = T.setFrames fs) → Steps p.tables e below (T.setTop g) (T.setFrames fs)) : own_GoesW p e below s Q cc ss T g := by
  obtain ⟨fs, hr, hrun, hended, h1, h2, h3, h4⟩ := X.leaveW hS hk (v := v) hv hlk
  exact ⟨_, _, st fs hr, hrun, hended, _, _, rfl, hQ, h1, h2, h3, h4.mono hc hs⟩
theorem own_retNW {vm₁ : Vm} {k0 : Nat} (X : Stand p l e R (s.setVm vm₁) m args below meth c T locs cells slots) (hx : p.tables.exec = Jvm.exec) (hlk : meth.locks = false) (hS : s.Since vm₁ k0) (hk : k0 ≤ T.heap.size) {t : FieldType} {z : Int32} {rest : List Value} (hret : meth.sig.returnType = some t) (ht : t = .boolean ∨ t = .byte ∨ t = .char ∨ t = .short) (hd : decode c.code pc = .ok (.ireturn, 1)) (hc : cells ≤ cc) (hs : slots ≤ ss) (hQ : Q (some (.int (nar t z))) T.heap locs) : own_GoesW p e below s Q cc ss T (mkF m pc Ls (.int z :: rest)) :=
  own_endW X hlk hS hk (fun h => by rw [hret] at h; cases h) hc hs hQ fun fs hr => retN X hx hret ht hd hr
def own_GoesH (p : Program) (e : Env) (below : List Frame) (s Z : State) (EL : List (String × Nat)) (Q : Option Value → Heap → List Loc → Prop) (cc ss : Nat) (T : State) (g : JFrame) : Prop :=
  ∃ s₂ o, Steps p.tables e below (T.setTop g) s₂ ∧ s₂.status = .running ∧ Ended s₂ below o ∧ ∃ v L, o = .returned v ∧ Q v s₂.heap L ∧ CHr Z EL s.vm s.heap s₂.vm s₂.heap ∧ ReturnedEndW s o s₂ L cc ss
theorem own_stH {Z : State} {EL : List (String × Nat)} (h : ∀ t, Steps p.tables e below (T'.setTop g') t → Steps p.tables e below (T.setTop g) t) (k : own_GoesH p e below s Z EL Q cc ss T' g') : own_GoesH p e below s Z EL Q cc ss T g := by
  obtain ⟨s₂, o, h1, r⟩ := k; exact ⟨s₂, o, h _ h1, r⟩
theorem own_endH {Z : State} {EL : List (String × Nat)} {a0 : Array Value} {h h0 : Heap} {v : Option Value} {vm₁ : Vm} {k0 : Nat} (X : Stand p l e R (s.setVm vm₁) m args below meth c T locs cells slots) (hlk : meth.locks = false) (hS : s.Since vm₁ k0) (hk : k0 ≤ T.heap.size) (hZ : Z.Warmed39 vm₁) (hEL : EW Z a0 EL) (hh : s.heap = h0) (eT : T.heap = h) (hC : CHr Z EL s.vm h0 vm₁ h) (hv : meth.sig.returnType = none → v = none) (hc : cells ≤ cc) (hs : slots ≤ ss) (hQ : Q v T.heap locs)
    (st : ∀ fs, (∀ (f : JFrame) (acts : List Action), f.method = m → f.locked = none → f.entered = [] → (doReturn e (T.setTop f) acts v).1 = T.setFrames fs) → Steps p.tables e below (T.setTop g) (T.setFrames fs)) : own_GoesH p e below s Z EL Q cc ss T g := by
  obtain ⟨fs, hr, hrun, hended, h1, h2, h3, h4⟩ := X.leaveW hS hk (v := v) hv hlk
  subst eT hh
  have C := CHv.at X hZ hEL hC.1
  exact ⟨_, _, st fs hr, hrun, hended, _, _, rfl, hQ, hC.trans C, h1, h2, h3, h4.mono hc hs⟩
theorem own_sn {Z : State} {EL : List (String × Nat)} {vm : Vm} {h : Heap} : ∀ x ∈ ([] : List Addr), x < h.size ∧ Safe Z EL vm h x := fun _ q => nomatch q
theorem own_ss {Z : State} {EL : List (String × Nat)} {vm : Vm} {h : Heap} {y : Addr} {L : List Addr} (q : y < h.size) (n : Safe Z EL vm h y) (r : ∀ x ∈ L, x < h.size ∧ Safe Z EL vm h x) : ∀ x ∈ y :: L, x < h.size ∧ Safe Z EL vm h x := fun x z => (List.mem_cons.mp z).elim (fun u => u ▸ ⟨q, n⟩) (r x)
/-- a callee that may load the constants, that keeps what they say, and that is told which of its objects are none of them -/
theorem own_backH {Z : State} {EL : List (String × Nat)} {a0 : Array Value} {h : Heap} {vm0 : Vm} {y : MethodName} {bytes : ByteArray} {maxL : Nat} {ret : Option FieldType} {rm : Room} {len W : Nat} {as' : Array Value} {sl : List Addr} {Qc : Option Value → Heap → List Loc → Prop}
    (hM : MetFree l y (head1 [Cond.code y bytes maxL ret] rm) (fun a U => a = as' ∧ Z.Warmed39 U.vm ∧ U.heap = h ∧ CHv Z EL U.vm h ∧ ∀ x ∈ sl, Safe Z EL U.vm h x) (fun _ _ _ _ _ => True) (fun _ U o U' => ∃ v L, o = .returned v ∧ Qc v U'.heap L ∧ CHr Z EL U.vm U.heap U'.vm U'.heap ∧ ReturnedEndW U o U' L rm.cells rm.slots))
    (hZ : Z.Warmed39 vm0) (wc : (Cond.code y bytes maxL ret).before a0 Z = true) (wz : (Cond.initialized y.cls).before a0 Z = true) (hf : rm.frames + 1 ≤ R.frames) (hl : W + (maxL + 11) + rm.locals ≤ R.locals) (hEL : EW Z a0 EL) (H : CHv Z EL vm0 h) (hs : ∀ x ∈ sl, x < h.size ∧ Safe Z EL vm0 h x) :
    BackS l R p e below (s.setVm vm0) args y len W (fun A a => a = as' ∧ A.U.heap = h ∧ A.cells + rm.cells ≤ R.cells ∧ A.slots + rm.slots ≤ R.slots)
      (fun A _ v B => ∃ L, Qc v B.U.heap L ∧ B.locs = A.locs ++ L ∧ B.cells = A.cells + rm.cells ∧ B.slots = A.slots + rm.slots ∧ CHr Z EL vm0 h B.U.vm B.U.heap) := by
  refine BackS.of_freeW (bytes := bytes) (maxL := maxL) (ret := ret) (E := fun _ first o t L k n => k = rm.cells ∧ n = rm.slots ∧ (∃ v, o = .returned v ∧ Qc v t.heap L) ∧ CHr Z EL first.vm first.heap t.vm t.heap) hM hf hl ?_ ?_ (fun _ _ _ _ _ _ _ _ _ => trivial) ?_ ?_
  · intro m meth c A a Y hp
    have hU : Z.Warmed39 A.U.vm := wtrans (s := s.setVm vm0) hZ Y.warmed
    exact ⟨by show (Cond.and _ .tt).before a A.U = true; rw [Cond.before_and, mv hU wc]; rfl, mv hU wc, mv hU wz, hp.2.2.1, hp.2.2.2⟩
  · intro m meth c A a g mk Y hp
    have C := CHv.at Y hZ hEL H
    exact ⟨hp.1, wtrans (s := s.setVm vm0) hZ Y.warmed, hp.2.1, C.1, fun x hx => C.safe (hs x hx).1 (hs x hx).2⟩
  · rintro _ _ _ _ ⟨v, L, h1, h2, h3, h4⟩
    exact ⟨L, _, _, h4, rfl, rfl, ⟨v, h1, h2⟩, h3⟩
  · rintro m meth c A a g mk v t L k n Y hp _ _ ⟨e1, e2, ⟨v', e3, e4⟩, e5⟩
    cases e3; subst e1 e2
    refine ⟨L, e4, rfl, rfl, rfl, (CHv.at Y hZ hEL H).trans ?_⟩
    rw [← hp.2.1]; exact e5
theorem own_nsr {Z : State} {a0 : Array Value} {O K : String} {n : Nat} (w : (Cond.noSuperclass O).before a0 Z = true) (wk : (Cond.instantiable K n).before a0 Z = true) (hn : O ≠ K) : NS Z O K := by
  obtain ⟨c, k, h1, h2, h3, -, -⟩ := Cond.noSuperclass_spec w
  obtain ⟨t, kt, g1, -⟩ := Cond.instantiable_spec wk
  have ne := ids_ne h1 g1 hn
  refine ⟨c, t, h1, g1, fun fuel => ?_⟩
  cases fuel with
  | zero => rfl
  | succ f => simp [Vm.isSubclassAux, ne, h2, h3]
theorem own_nsn {Z : State} {a0 : Array Value} {C S K : String} {n : Nat} (w : (Cond.superclass C S).before a0 Z = true) (wk : (Cond.instantiable K n).before a0 Z = true) (q : NS Z C K) (hn : C ≠ K) : ∃ c t, Z.vm.findClass C = some c ∧ Z.vm.findClass K = some t ∧ Z.vm.assignable c t = false := by
  obtain ⟨c, t, h0, g0, n3⟩ := q
  obtain ⟨p, k, kp, h1, h2, h3, h4, h5, -, h7⟩ := Cond.superclass_spec h0 w
  obtain ⟨t', kt, g1, g2, g5, g6, -⟩ := Cond.instantiable_spec wk
  cases g0.symm.trans g1
  have g7 : kt.isInterface = false := by simp only [Bool.or_eq_false_iff] at g6; exact g6.1
  have ne := ids_ne h0 g0 hn
  refine ⟨c, t, h0, g0, ?_⟩
  show Z.vm.assignableAux (255 + 1) c t = false
  simp [Vm.assignableAux, ne, h2, g2, h5, g5, g7, Vm.isSubclass, n3]
theorem own_Sta_keep {Z : State} {h h' : Heap} {ws : List Addr} {C n d : String} {w : Value} (F : Sta Z h C n d w) (K : Keep h h' ws) (q : ∀ x ∈ ws, ∀ cell : Cell, h[x]? = some cell → cell.vm.isStatics = false) : Sta Z h' C n d w := by
  obtain ⟨cf, i, k, f, st, cell, h1, h2, h3, h4, h5, h6, h7⟩ := F
  exact ⟨cf, i, k, f, st, cell, h1, h2, h3, h4, K.2.1 st cell h5 (fun z => by rw [q st z cell h5] at h6; cases h6), h6, h7⟩
end New
end Jvm.RoadKit
namespace Jvm.Pilot.@@N@@
open Jvm Jvm.ClassFile Sem Op Lib Jvm.Free Jvm.Stand Jvm.LawKit Jvm.RoadKit Bundle Jvm.Pilot.@@N@@.Jvm.D
theorem own_w {a0 : Array Value} {Z : State} (hw : ∀ d ∈ tables_1, d.before a0 Z = true) (i : Nat) {d : Jvm.Cond} (h : tables_1[i]? = some d) : d.before a0 Z = true := hw _ (List.mem_of_getElem? h)
abbrev yy0 : MethodName := ⟨"java/lang/Math", "min", "(II)I"⟩
abbrev yy1 : MethodName := ⟨"java/lang/StringUTF16", "compress", "([CI[BII)I"⟩
abbrev yy2 : MethodName := ⟨"java/lang/StringUTF16", "compress", "([CII)[B"⟩
abbrev yy3 : MethodName := ⟨"java/lang/StringUTF16", "coderFromArrayLen", "([BI)B"⟩
abbrev yy4 : MethodName := ⟨"java/lang/String", "<init>", "([CIILjava/lang/Void;)V"⟩
abbrev yy5 : MethodName := ⟨"java/lang/String", "<init>", "([C)V"⟩
abbrev yy6 : MethodName := ⟨"java/lang/StringLatin1", "canEncode", "(C)Z"⟩
abbrev yy7 : MethodName := ⟨"java/lang/StringLatin1", "toBytes", "(C)[B"⟩
abbrev yy8 : MethodName := ⟨"java/lang/String", "<init>", "([BB)V"⟩
abbrev yy9 : MethodName := ⟨"java/lang/String", "valueOf", "(C)Ljava/lang/String;"⟩
abbrev yy10 : MethodName := ⟨"com/example/majra/majra/lang/RefusalEqualsPinLaw", "text", "(ICC)Ljava/lang/String;"⟩
abbrev yy11 : MethodName := ⟨"com/example/majra/majra/lang/Command$Refusal", "<init>", "(IILjava/lang/String;)V"⟩
abbrev yy12 : MethodName := ⟨"java/lang/StringLatin1", "equals", "([B[B)Z"⟩
abbrev yy13 : MethodName := ⟨"java/lang/String", "equals", "(Ljava/lang/Object;)Z"⟩
abbrev yy14 : MethodName := ⟨"com/example/majra/majra/lang/Command$Refusal", "equals", "(Ljava/lang/Object;)Z"⟩
def own_b (P : Prop) [Decidable P] : Int32 := if P then 1 else 0
theorem own_bt {P : Prop} [Decidable P] (h : P) : (some (Value.int (nar .boolean 1)) : Option Value) = some (.int (own_b P)) := by rw [own_b, if_pos h]; rfl
theorem own_bf {P : Prop} [Decidable P] (h : ¬ P) : (some (Value.int (nar .boolean 0)) : Option Value) = some (.int (own_b P)) := by rw [own_b, if_neg h]; rfl
theorem own_b1 {P : Prop} [Decidable P] (h : P) : own_b P = 1 := if_pos h
theorem own_b0 {P : Prop} [Decidable P] (h : ¬ P) : own_b P = 0 := if_neg h
theorem own_bc {P P' : Prop} [Decidable P] [Decidable P'] (h : P ↔ P') : own_b P = own_b P' := by simp only [own_b, h]
def own_by (c : Int32) : Int32 := c.toInt8.toInt32
def own_in (c : Int32) : Prop := 0 ≤ c.toInt ∧ c.toInt ≤ 255
theorem own_narc {c : Int32} (h : own_in c) : nar .char c = c := by
  have h2 := c_i2c c; unfold own_in at h
  refine Int32.toInt_inj.mp ?_
  show (c.toUInt32.toUInt16.toUInt32.toInt32).toInt = _
  omega
theorem own_narb (c : Int32) : nar .byte (own_by c) = own_by c := by
  have h := c_i2b c; have h2 := c_i2b (c.toInt8.toInt32)
  refine Int32.toInt_inj.mp ?_
  show ((c.toInt8.toInt32).toInt8.toInt32).toInt = (c.toInt8.toInt32).toInt
  omega
theorem own_byc {c : Int32} (h : own_in c) : nar .byte ((nar .char c).toInt8.toInt32) = own_by c := by rw [own_narc h]; exact own_narb c
theorem own_byi {a b : Int32} (ha : own_in a) (hb : own_in b) : own_by a = own_by b ↔ a = b := by
  have h1 := c_i2b a; have h2 := c_i2b b; unfold own_in at ha hb
  refine ⟨fun q => Int32.toInt_inj.mp ?_, fun q => by rw [q]⟩
  have q2 := congrArg Int32.toInt q; unfold own_by at q2; omega
theorem own_255 {c : Int32} (h : own_in c) : ¬ (255 : Int32) < nar .char c := by
  rw [own_narc h]; unfold own_in at h; simp only [Int32.lt_iff_toInt_lt, Int32.reduceToInt]; omega
def own_min (a b : Int32) : Int32 := if b < a then b else a
theorem own_len (x : Int32) : own_min (x &&& 3) 2 = 0 ∨ own_min (x &&& 3) 2 = 1 ∨ own_min (x &&& 3) 2 = 2 := by
  have h := c_and x 3 (by decide); simp only [Int32.reduceToInt] at h
  unfold own_min; simp only [Int32.lt_iff_toInt_lt, Int32.reduceToInt]
  split
  · exact Or.inr (Or.inr rfl)
  · simp only [← Int32.toInt_inj, Int32.reduceToInt]; omega
theorem own_inc (x : Int64) : own_in ((x &&& 255).toInt32.toUInt32.toUInt16.toUInt32.toInt32) := by
  have h1 := c_maskL x 255 8 (by decide) (by decide); have h2 := c_l2i (x &&& 255); have h3 := c_i2c (x &&& 255).toInt32; have := rng32 (x &&& 255).toInt32
  unfold own_in; omega
abbrev rRrm1 : Room := { frames := 0, cells := 0, slots := 0, locals := 0 }
theorem d1_0 : decode jdk_29_method_69_code 0 = .ok (.iload_n 0, 1) := by decide +kernel
theorem d1_1 : decode jdk_29_method_69_code 1 = .ok (.iload_n 1, 1) := by decide +kernel
theorem d1_2 : decode jdk_29_method_69_code 2 = .ok (.if_icmp .gt 7, 3) := by decide +kernel
theorem d1_5 : decode jdk_29_method_69_code 5 = .ok (.iload_n 0, 1) := by decide +kernel
theorem d1_6 : decode jdk_29_method_69_code 6 = .ok (.goto 4, 3) := by decide +kernel
theorem d1_9 : decode jdk_29_method_69_code 9 = .ok (.iload_n 1, 1) := by decide +kernel
theorem d1_10 : decode jdk_29_method_69_code 10 = .ok (.ireturn, 1) := by decide +kernel
theorem pn_rm1 : plainFor yy0 = true := by first | exact plainFor_of_name (by first | (simp [plainName, overriddenIn]; done) | decide +kernel) | decide +kernel
theorem ef_rm1 (m : MethodId) (a9 : Int32) (b9 : Int32) : entryFrame m #[(.int a9), (.int b9)] 2 = (mkF m 0 #[iv a9, iv b9] []) := by first | (simp [entryFrame, mkF, argsToLocals, Value.category]; done) | rfl
def Q1 (Z : State) (a9 : Int32) (b9 : Int32) (h0 : Heap) (n0 : Nat) (v_ : Option Value) (h_ : Heap) (L_ : List Loc) : Prop := (v_ = some (.int (own_min a9 b9))) ∧ (Fr n0 L_) ∧ (h_ = h0)
set_option maxRecDepth 65536 in
set_option maxHeartbeats 40000000 in
theorem rm1 (l : Launch) (Z : State) (a0 : Array Value) (hw : ∀ d ∈ tables_1, d.before a0 Z = true) (ws : List Jvm.Cond) (a9 : Int32) (b9 : Int32) (h0 : Heap) (n0 : Nat) (Z0 : n0 ≤ h0.size) :
    MetFree l yy0 (head1 (Jvm.Cond.code yy0 jdk_29_method_69_code 2 (some .int) :: ws) rRrm1) (fun a_ U_ => a_ = #[(.int a9), (.int b9)] ∧ Z.Warmed39 U_.vm ∧ U_.heap = h0) (fun _ _ _ _ _ => True) (fun _ U_ o_ U1_ => ∃ v_ L_, o_ = .returned v_ ∧ Q1 Z a9 b9 h0 n0 v_ U1_.heap L_ ∧ FrameEnd U_ o_ U1_ L_ rRrm1.cells rRrm1.slots) := by
  refine MetFree.of_bodySF pn_rm1 hisR ?_
  intro p e s m args below meth c s₁ Bd hml0 hP hK
  obtain ⟨rfl, hZ, hh⟩ := hP
  have hx := Bd.exec
  have hby := Bd.bytes
  have hlk : meth.locks = false := Bd.notSynchronized
  have hml : c.maxLocals = 2 := hml0
  have hown : s.vm.findClass "java/lang/Math" = some m.cls := findClass_of_methodNamed Bd.named
  have hnm := (name_of_methodNamed Bd.named Bd.method).1
  have X0 : Stand p l e rRrm1 s m #[(.int a9), (.int b9)] below meth c s₁ [] 0 0 := Stand.of_body Bd
  have e0 : s₁.heap = h0 := by rw [← hh, Bd.state]; rfl
  have N0 := Fr.nil n0
  show own_Goes p e below s (Q1 Z a9 b9 h0 n0) rRrm1.cells rRrm1.slots s₁ (entryFrame m #[(.int a9), (.int b9)] 2)
  rw [ef_rm1 m a9 b9]
  show own_Goes p e below s (Q1 Z a9 b9 h0 n0) rRrm1.cells rRrm1.slots s₁ (mkF m 0 #[iv a9, iv b9] [])
  refine own_st (fun _ kk_ => XS.iloadN X0.here hx rfl (hb hby d1_0) rfl (XS.iloadN X0.here hx rfl (hb hby d1_1) rfl kk_)) ?_
  show own_Goes _ _ _ _ _ _ _ s₁ (mkF m 2 #[iv a9, iv b9] [(.int b9), (.int a9)])
  rcases Classical.em (b9 < a9) with q | q
  · refine own_st (fun _ kk_ => XS.icmpYes X0.here hx rfl (pc0 := 2) (pc' := 9) rfl (hb hby d1_2) rfl (XT.ii_gt_t q) (by decide) (by decide) (XS.iloadN X0.here hx rfl (hb hby d1_9) rfl kk_)) ?_
    show own_Goes _ _ _ _ _ _ _ s₁ (mkF m 10 #[iv a9, iv b9] [(.int b9)])
    refine own_retI X0 hx hlk Bd.returns (hb hby d1_10) (by decide) (by decide) ?_
    show Q1 Z a9 b9 h0 n0 (some (.int b9)) s₁.heap _
    rw [e0]
    exact ⟨by exact congrArg (fun z => some (Value.int z)) (if_pos q).symm, N0, rfl⟩
  · refine own_st (fun _ kk_ => XS.icmpNo X0.here hx rfl (hb hby d1_2) rfl (XT.ii_gt_f q) (XS.iloadN X0.here hx rfl (hb hby d1_5) rfl (XS.goto X0.here hx rfl (pc0 := 6) (pc' := 10) rfl (hb hby d1_6) (by decide) (by decide) kk_))) ?_
    show own_Goes _ _ _ _ _ _ _ s₁ (mkF m 10 #[iv a9, iv b9] [(.int a9)])
    refine own_retI X0 hx hlk Bd.returns (hb hby d1_10) (by decide) (by decide) ?_
    show Q1 Z a9 b9 h0 n0 (some (.int a9)) s₁.heap _
    rw [e0]
    exact ⟨by exact congrArg (fun z => some (Value.int z)) (if_neg q).symm, N0, rfl⟩
abbrev rRrmCp2 : Room := { frames := 0, cells := 0, slots := 0, locals := 0 }
theorem d10_0 : decode jdk_52_method_21_code 0 = .ok (.iconst 0, 1) := by decide +kernel
theorem d10_1 : decode jdk_52_method_21_code 1 = .ok (.istore 5, 2) := by decide +kernel
theorem d10_3 : decode jdk_52_method_21_code 3 = .ok (.iload 5, 2) := by decide +kernel
theorem d10_5 : decode jdk_52_method_21_code 5 = .ok (.iload 4, 2) := by decide +kernel
theorem d10_7 : decode jdk_52_method_21_code 7 = .ok (.if_icmp .ge 37, 3) := by decide +kernel
theorem d10_10 : decode jdk_52_method_21_code 10 = .ok (.aload_n 0, 1) := by decide +kernel
theorem d10_11 : decode jdk_52_method_21_code 11 = .ok (.iload_n 1, 1) := by decide +kernel
theorem d10_12 : decode jdk_52_method_21_code 12 = .ok (.caload, 1) := by decide +kernel
theorem d10_13 : decode jdk_52_method_21_code 13 = .ok (.istore 6, 2) := by decide +kernel
theorem d10_15 : decode jdk_52_method_21_code 15 = .ok (.iload 6, 2) := by decide +kernel
theorem d10_17 : decode jdk_52_method_21_code 17 = .ok (.sipush 255, 3) := by decide +kernel
theorem d10_20 : decode jdk_52_method_21_code 20 = .ok (.if_icmp .le 6, 3) := by decide +kernel
theorem d10_26 : decode jdk_52_method_21_code 26 = .ok (.aload_n 2, 1) := by decide +kernel
theorem d10_27 : decode jdk_52_method_21_code 27 = .ok (.iload_n 3, 1) := by decide +kernel
theorem d10_28 : decode jdk_52_method_21_code 28 = .ok (.iload 6, 2) := by decide +kernel
theorem d10_30 : decode jdk_52_method_21_code 30 = .ok (.i2b, 1) := by decide +kernel
theorem d10_31 : decode jdk_52_method_21_code 31 = .ok (.bastore, 1) := by decide +kernel
theorem d10_32 : decode jdk_52_method_21_code 32 = .ok (.iinc 1 1, 3) := by decide +kernel
theorem d10_35 : decode jdk_52_method_21_code 35 = .ok (.iinc 3 1, 3) := by decide +kernel
theorem d10_38 : decode jdk_52_method_21_code 38 = .ok (.iinc 5 1, 3) := by decide +kernel
theorem d10_41 : decode jdk_52_method_21_code 41 = .ok (.goto (-38), 3) := by decide +kernel
theorem d10_44 : decode jdk_52_method_21_code 44 = .ok (.iload 4, 2) := by decide +kernel
theorem d10_46 : decode jdk_52_method_21_code 46 = .ok (.ireturn, 1) := by decide +kernel
theorem pn_rmCp2 : plainFor yy1 = true := by first | exact plainFor_of_name (by first | (simp [plainName, overriddenIn]; done) | decide +kernel) | decide +kernel
theorem ef_rmCp2 (m : MethodId) (ca : Addr) (d : Addr) : entryFrame m #[(.ref ca), (.int (0 : Int32)), (.ref d), (.int (0 : Int32)), (.int (2 : Int32))] 7 = (mkF m 0 #[rv ca, iv (0 : Int32), rv d, iv (0 : Int32), iv (2 : Int32), .unset, .unset] []) := by first | (simp [entryFrame, mkF, argsToLocals, Value.category]; done) | rfl
def QCp2 (Z : State) (ca : Addr) (d : Addr) (c0 : Int32) (c1 : Int32) (kc : ClassId) (kd : ClassId) (h0 : Heap) (n0 : Nat) (v_ : Option Value) (h_ : Heap) (L_ : List Loc) : Prop := (v_ = some (.int (2 : Int32))) ∧ (Fr n0 L_) ∧ (Keep h0 h_ [d]) ∧ (Arv Z h_ d kd .byte (2 : Int32) [(.int (own_by c0)), (.int (own_by c1))] (.int (0 : Int32)))
set_option maxRecDepth 65536 in
set_option maxHeartbeats 40000000 in
theorem rmCp2 (l : Launch) (Z : State) (a0 : Array Value) (hw : ∀ d ∈ tables_1, d.before a0 Z = true) (ws : List Jvm.Cond) (ca : Addr) (d : Addr) (c0 : Int32) (c1 : Int32) (kc : ClassId) (kd : ClassId) (h0 : Heap) (n0 : Nat) (Z0 : n0 ≤ h0.size) (p_0 : Arv Z h0 ca kc .char (2 : Int32) [(.int (nar .char c0)), (.int (nar .char c1))] (.int (0 : Int32))) (p_1 : Arv Z h0 d kd .byte (2 : Int32) [(.int (0 : Int32)), (.int (0 : Int32))] (.int (0 : Int32))) (p_2 : n0 ≤ d) (p_3 : ca ≠ d) (hi0 : own_in c0) (hi1 : own_in c1) :
    MetFree l yy1 (head1 (Jvm.Cond.code yy1 jdk_52_method_21_code 7 (some .int) :: ws) rRrmCp2) (fun a_ U_ => a_ = #[(.ref ca), (.int (0 : Int32)), (.ref d), (.int (0 : Int32)), (.int (2 : Int32))] ∧ Z.Warmed39 U_.vm ∧ U_.heap = h0) (fun _ _ _ _ _ => True) (fun _ U_ o_ U1_ => ∃ v_ L_, o_ = .returned v_ ∧ QCp2 Z ca d c0 c1 kc kd h0 n0 v_ U1_.heap L_ ∧ FrameEnd U_ o_ U1_ L_ rRrmCp2.cells rRrmCp2.slots) := by
  refine MetFree.of_bodySF pn_rmCp2 hisR ?_
  intro p e s m args below meth c s₁ Bd hml0 hP hK
  obtain ⟨rfl, hZ, hh⟩ := hP
  have hx := Bd.exec
  have hby := Bd.bytes
  have hlk : meth.locks = false := Bd.notSynchronized
  have hml : c.maxLocals = 7 := hml0
  have hown : s.vm.findClass "java/lang/StringUTF16" = some m.cls := findClass_of_methodNamed Bd.named
  have hnm := (name_of_methodNamed Bd.named Bd.method).1
  have X0 : Stand p l e rRrmCp2 s m #[(.ref ca), (.int (0 : Int32)), (.ref d), (.int (0 : Int32)), (.int (2 : Int32))] below meth c s₁ [] 0 0 := Stand.of_body Bd
  have e0 : s₁.heap = h0 := by rw [← hh, Bd.state]; rfl
  have N0 := Fr.nil n0
  show own_Goes p e below s (QCp2 Z ca d c0 c1 kc kd h0 n0) rRrmCp2.cells rRrmCp2.slots s₁ (entryFrame m #[(.ref ca), (.int (0 : Int32)), (.ref d), (.int (0 : Int32)), (.int (2 : Int32))] 7)
  rw [ef_rmCp2 m ca d]
  show own_Goes p e below s (QCp2 Z ca d c0 c1 kc kd h0 n0) rRrmCp2.cells rRrmCp2.slots s₁ (mkF m 0 #[rv ca, iv (0 : Int32), rv d, iv (0 : Int32), iv (2 : Int32), .unset, .unset] [])
  refine own_st (fun _ kk_ => XS.iconst X0.here hx rfl (hb hby d10_0) (XS.istore X0.here hx rfl (hb hby d10_1) rfl (l' := #[rv ca, iv (0 : Int32), rv d, iv (0 : Int32), iv (2 : Int32), iv (0 : Int32), .unset]) rfl (XS.iload X0.here hx rfl (hb hby d10_3) rfl (XS.iload X0.here hx rfl (hb hby d10_5) rfl (XS.icmpNo X0.here hx rfl (hb hby d10_7) rfl (XT.ii_ge_f (by decide)) (XS.aloadN X0.here hx rfl (hb hby d10_10) rfl rfl (XS.iloadN X0.here hx rfl (hb hby d10_11) rfl kk_))))))) ?_
  show own_Goes _ _ _ _ _ _ _ s₁ (mkF m 12 #[rv ca, iv (0 : Int32), rv d, iv (0 : Int32), iv (2 : Int32), iv (0 : Int32), .unset] [(.int (0 : Int32)), (.ref ca)])
  obtain ⟨cl1, Ar1, q1, Sz1, Nn1, Hh1, Gg1⟩ := id p_0
  refine own_st (fun _ kk_ => X0.caload hx (j := (0 : Int32)) (v := (.int (nar .char c0))) (by rw [e0]; exact Ar1.1) (State.isArrayOf_alike hZ.alike Ar1.2.1) Ar1.2.2 (inb_of Sz1 ⟨by decide, by decide⟩) (Hh1.at (inb_of Sz1 ⟨by decide, by decide⟩) rfl) (g := (mkF m 12 #[rv ca, iv (0 : Int32), rv d, iv (0 : Int32), iv (2 : Int32), iv (0 : Int32), .unset] [(.int (0 : Int32)), (.ref ca)])) rfl rfl (hb hby d10_12) _ kk_) ?_
  show own_Goes _ _ _ _ _ _ _ s₁ (mkF m 13 #[rv ca, iv (0 : Int32), rv d, iv (0 : Int32), iv (2 : Int32), iv (0 : Int32), .unset] [(.int (nar .char c0))])
  refine own_st (fun _ kk_ => XS.istore X0.here hx rfl (hb hby d10_13) rfl (l' := #[rv ca, iv (0 : Int32), rv d, iv (0 : Int32), iv (2 : Int32), iv (0 : Int32), iv (nar .char c0)]) rfl (XS.iload X0.here hx rfl (hb hby d10_15) rfl (XS.sipush X0.here hx rfl (hb hby d10_17) (XS.icmpYes X0.here hx rfl (pc0 := 20) (pc' := 26) rfl (hb hby d10_20) rfl (XT.ii_le_t (own_255 hi0)) (by decide) (by decide) (XS.aloadN X0.here hx rfl (hb hby d10_26) rfl rfl (XS.iloadN X0.here hx rfl (hb hby d10_27) rfl (XS.iload X0.here hx rfl (hb hby d10_28) rfl (XS.i2b X0.here hx rfl (hb hby d10_30) rfl kk_)))))))) ?_
  show own_Goes _ _ _ _ _ _ _ s₁ (mkF m 31 #[rv ca, iv (0 : Int32), rv d, iv (0 : Int32), iv (2 : Int32), iv (0 : Int32), iv (nar .char c0)] [(.int ((nar .char c0).toInt8.toInt32)), (.int (0 : Int32)), (.ref d)])
  obtain ⟨cl2, Ar2, q2, Sz2, Nn2, Hh2, Gg2⟩ := id p_1
  obtain ⟨T2, h2, X2, e2, W2, st2⟩ := stB X0 hx hZ e0 Ar2 (j := (0 : Int32)) (inb_of Sz2 ⟨by decide, by decide⟩) (g := (mkF m 31 #[rv ca, iv (0 : Int32), rv d, iv (0 : Int32), iv (2 : Int32), iv (0 : Int32), iv (nar .char c0)] [(.int ((nar .char c0).toInt8.toInt32)), (.int (0 : Int32)), (.ref d)])) rfl rfl (hb hby d10_31)
  have V2 : Arv Z h2 d kd .byte (2 : Int32) [(.int (nar .byte ((nar .char c0).toInt8.toInt32))), (.int (0 : Int32))] (.int (0 : Int32)) := Arv.set Ar2 q2 Sz2 Nn2 Hh2 Gg2 (fits_nar_byte _) W2 0 rfl (Nat.le_of_ble_eq_true rfl)
  have f2_0 := p_0.other W2 p_3
  have Zs2 : n0 ≤ h2.size := Nat.le_trans Z0 (Nat.le_of_eq W2.size.symm)
  have K2 := (Keep.refl h0 [d]).wr W2 (Or.inl (List.mem_of_getElem? (i := 0) rfl))
  have N2 := Fr.snoc X2 N0 p_2
  refine own_st st2 ?_
  show own_Goes _ _ _ _ _ _ _ T2 (mkF m 32 #[rv ca, iv (0 : Int32), rv d, iv (0 : Int32), iv (2 : Int32), iv (0 : Int32), iv (nar .char c0)] [])
  refine own_st (fun _ kk_ => XS.iinc X2.here hx rfl (hb hby d10_32) rfl (l' := #[rv ca, iv (1 : Int32), rv d, iv (0 : Int32), iv (2 : Int32), iv (0 : Int32), iv (nar .char c0)]) rfl (XS.iinc X2.here hx rfl (hb hby d10_35) rfl (l' := #[rv ca, iv (1 : Int32), rv d, iv (1 : Int32), iv (2 : Int32), iv (0 : Int32), iv (nar .char c0)]) rfl (XS.iinc X2.here hx rfl (hb hby d10_38) rfl (l' := #[rv ca, iv (1 : Int32), rv d, iv (1 : Int32), iv (2 : Int32), iv (1 : Int32), iv (nar .char c0)]) rfl (XS.goto X2.here hx rfl (pc0 := 41) (pc' := 3) rfl (hb hby d10_41) (by decide) (by decide) (XS.iload X2.here hx rfl (hb hby d10_3) rfl (XS.iload X2.here hx rfl (hb hby d10_5) rfl (XS.icmpNo X2.here hx rfl (hb hby d10_7) rfl (XT.ii_ge_f (by decide)) (XS.aloadN X2.here hx rfl (hb hby d10_10) rfl rfl kk_)))))))) ?_
  show own_Goes _ _ _ _ _ _ _ T2 (mkF m 11 #[rv ca, iv (1 : Int32), rv d, iv (1 : Int32), iv (2 : Int32), iv (1 : Int32), iv (nar .char c0)] [(.ref ca)])
  refine own_st (fun _ kk_ => XS.iloadN X2.here hx rfl (hb hby d10_11) rfl kk_) ?_
  show own_Goes _ _ _ _ _ _ _ T2 (mkF m 12 #[rv ca, iv (1 : Int32), rv d, iv (1 : Int32), iv (2 : Int32), iv (1 : Int32), iv (nar .char c0)] [(.int (1 : Int32)), (.ref ca)])
  obtain ⟨cl3, Ar3, q3, Sz3, Nn3, Hh3, Gg3⟩ := id f2_0
  refine own_st (fun _ kk_ => X2.caload hx (j := (1 : Int32)) (v := (.int (nar .char c1))) (by rw [e2]; exact Ar3.1) (State.isArrayOf_alike hZ.alike Ar3.2.1) Ar3.2.2 (inb_of Sz3 ⟨by decide, by decide⟩) (Hh3.at (inb_of Sz3 ⟨by decide, by decide⟩) rfl) (g := (mkF m 12 #[rv ca, iv (1 : Int32), rv d, iv (1 : Int32), iv (2 : Int32), iv (1 : Int32), iv (nar .char c0)] [(.int (1 : Int32)), (.ref ca)])) rfl rfl (hb hby d10_12) _ kk_) ?_
  show own_Goes _ _ _ _ _ _ _ T2 (mkF m 13 #[rv ca, iv (1 : Int32), rv d, iv (1 : Int32), iv (2 : Int32), iv (1 : Int32), iv (nar .char c0)] [(.int (nar .char c1))])
  refine own_st (fun _ kk_ => XS.istore X2.here hx rfl (hb hby d10_13) rfl (l' := #[rv ca, iv (1 : Int32), rv d, iv (1 : Int32), iv (2 : Int32), iv (1 : Int32), iv (nar .char c1)]) rfl (XS.iload X2.here hx rfl (hb hby d10_15) rfl (XS.sipush X2.here hx rfl (hb hby d10_17) (XS.icmpYes X2.here hx rfl (pc0 := 20) (pc' := 26) rfl (hb hby d10_20) rfl (XT.ii_le_t (own_255 hi1)) (by decide) (by decide) (XS.aloadN X2.here hx rfl (hb hby d10_26) rfl rfl (XS.iloadN X2.here hx rfl (hb hby d10_27) rfl (XS.iload X2.here hx rfl (hb hby d10_28) rfl (XS.i2b X2.here hx rfl (hb hby d10_30) rfl kk_)))))))) ?_
  show own_Goes _ _ _ _ _ _ _ T2 (mkF m 31 #[rv ca, iv (1 : Int32), rv d, iv (1 : Int32), iv (2 : Int32), iv (1 : Int32), iv (nar .char c1)] [(.int ((nar .char c1).toInt8.toInt32)), (.int (1 : Int32)), (.ref d)])
  obtain ⟨cl4, Ar4, q4, Sz4, Nn4, Hh4, Gg4⟩ := id V2
  obtain ⟨T4, h4, X4, e4, W4, st4⟩ := stB X2 hx hZ e2 Ar4 (j := (1 : Int32)) (inb_of Sz4 ⟨by decide, by decide⟩) (g := (mkF m 31 #[rv ca, iv (1 : Int32), rv d, iv (1 : Int32), iv (2 : Int32), iv (1 : Int32), iv (nar .char c1)] [(.int ((nar .char c1).toInt8.toInt32)), (.int (1 : Int32)), (.ref d)])) rfl rfl (hb hby d10_31)
  have V4 : Arv Z h4 d kd .byte (2 : Int32) [(.int (nar .byte ((nar .char c0).toInt8.toInt32))), (.int (nar .byte ((nar .char c1).toInt8.toInt32)))] (.int (0 : Int32)) := Arv.set Ar4 q4 Sz4 Nn4 Hh4 Gg4 (fits_nar_byte _) W4 1 rfl (Nat.le_of_ble_eq_true rfl)
  have f4_0 := f2_0.other W4 p_3
  have Zs4 : n0 ≤ h4.size := Nat.le_trans Zs2 (Nat.le_of_eq W4.size.symm)
  have K4 := K2.wr W4 (Or.inl (List.mem_of_getElem? (i := 0) rfl))
  have N4 := Fr.snoc X4 N2 p_2
  refine own_st st4 ?_
  show own_Goes _ _ _ _ _ _ _ T4 (mkF m 32 #[rv ca, iv (1 : Int32), rv d, iv (1 : Int32), iv (2 : Int32), iv (1 : Int32), iv (nar .char c1)] [])
  refine own_st (fun _ kk_ => XS.iinc X4.here hx rfl (hb hby d10_32) rfl (l' := #[rv ca, iv (2 : Int32), rv d, iv (1 : Int32), iv (2 : Int32), iv (1 : Int32), iv (nar .char c1)]) rfl (XS.iinc X4.here hx rfl (hb hby d10_35) rfl (l' := #[rv ca, iv (2 : Int32), rv d, iv (2 : Int32), iv (2 : Int32), iv (1 : Int32), iv (nar .char c1)]) rfl (XS.iinc X4.here hx rfl (hb hby d10_38) rfl (l' := #[rv ca, iv (2 : Int32), rv d, iv (2 : Int32), iv (2 : Int32), iv (2 : Int32), iv (nar .char c1)]) rfl (XS.goto X4.here hx rfl (pc0 := 41) (pc' := 3) rfl (hb hby d10_41) (by decide) (by decide) (XS.iload X4.here hx rfl (hb hby d10_3) rfl (XS.iload X4.here hx rfl (hb hby d10_5) rfl (XS.icmpYes X4.here hx rfl (pc0 := 7) (pc' := 44) rfl (hb hby d10_7) rfl (XT.ii_ge_t (by decide)) (by decide) (by decide) (XS.iload X4.here hx rfl (hb hby d10_44) rfl kk_)))))))) ?_
  show own_Goes _ _ _ _ _ _ _ T4 (mkF m 46 #[rv ca, iv (2 : Int32), rv d, iv (2 : Int32), iv (2 : Int32), iv (2 : Int32), iv (nar .char c1)] [(.int (2 : Int32))])
  refine own_retI X4 hx hlk Bd.returns (hb hby d10_46) (by decide) (by decide) ?_
  show QCp2 Z ca d c0 c1 kc kd h0 n0 (some (.int (2 : Int32))) T4.heap _
  rw [e4]
  exact ⟨rfl, N4, K4, (by have z := V4; rw [own_byc hi0, own_byc hi1] at z; exact z)⟩
abbrev rRrmCq2 : Room := { frames := 1, cells := 1, slots := 2, locals := 18 }
theorem d9_0 : decode jdk_52_method_16_code 0 = .ok (.iload_n 2, 1) := by decide +kernel
theorem d9_1 : decode jdk_52_method_16_code 1 = .ok (.newarray .byte, 2) := by decide +kernel
theorem d9_3 : decode jdk_52_method_16_code 3 = .ok (.astore_n 3, 1) := by decide +kernel
theorem d9_4 : decode jdk_52_method_16_code 4 = .ok (.aload_n 0, 1) := by decide +kernel
theorem d9_5 : decode jdk_52_method_16_code 5 = .ok (.iload_n 1, 1) := by decide +kernel
theorem d9_6 : decode jdk_52_method_16_code 6 = .ok (.aload_n 3, 1) := by decide +kernel
theorem d9_7 : decode jdk_52_method_16_code 7 = .ok (.iconst 0, 1) := by decide +kernel
theorem d9_8 : decode jdk_52_method_16_code 8 = .ok (.iload_n 2, 1) := by decide +kernel
theorem d9_9 : decode jdk_52_method_16_code 9 = .ok (.invokestatic 115, 3) := by decide +kernel
theorem d9_12 : decode jdk_52_method_16_code 12 = .ok (.istore 4, 2) := by decide +kernel
theorem d9_14 : decode jdk_52_method_16_code 14 = .ok (.iload 4, 2) := by decide +kernel
theorem d9_16 : decode jdk_52_method_16_code 16 = .ok (.iload_n 2, 1) := by decide +kernel
theorem d9_17 : decode jdk_52_method_16_code 17 = .ok (.if_icmp .eq 40, 3) := by decide +kernel
theorem d9_57 : decode jdk_52_method_16_code 57 = .ok (.aload_n 3, 1) := by decide +kernel
theorem d9_58 : decode jdk_52_method_16_code 58 = .ok (.areturn, 1) := by decide +kernel
theorem pd_0 : parseMethodDescriptor "([CI[BII)I" = some ⟨[(.array .char), .int, (.array .byte), .int, .int], some .int⟩ := by decide +kernel
theorem pn_rmCq2 : plainFor yy2 = true := by first | exact plainFor_of_name (by first | (simp [plainName, overriddenIn]; done) | decide +kernel) | decide +kernel
theorem ef_rmCq2 (m : MethodId) (ca : Addr) : entryFrame m #[(.ref ca), (.int (0 : Int32)), (.int (2 : Int32))] 6 = (mkF m 0 #[rv ca, iv (0 : Int32), iv (2 : Int32), .unset, .unset, .unset] []) := by first | (simp [entryFrame, mkF, argsToLocals, Value.category]; done) | rfl
def QCq2 (Z : State) (ca : Addr) (c0 : Int32) (c1 : Int32) (kc : ClassId) (h0 : Heap) (n0 : Nat) (v_ : Option Value) (h_ : Heap) (L_ : List Loc) : Prop := ∃ d : Addr, ∃ kd : ClassId, (v_ = some (.ref d)) ∧ (Fr n0 L_) ∧ (Keep h0 h_ []) ∧ (h0.size ≤ d) ∧ (Arv Z h_ d kd .byte (2 : Int32) [(.int (own_by c0)), (.int (own_by c1))] (.int (0 : Int32)))
set_option maxRecDepth 65536 in
set_option maxHeartbeats 40000000 in
theorem rmCq2 (l : Launch) (Z : State) (a0 : Array Value) (hw : ∀ d ∈ tables_1, d.before a0 Z = true) (ws : List Jvm.Cond) (ca : Addr) (c0 : Int32) (c1 : Int32) (kc : ClassId) (h0 : Heap) (n0 : Nat) (Z0 : n0 ≤ h0.size) (p_0 : Arv Z h0 ca kc .char (2 : Int32) [(.int (nar .char c0)), (.int (nar .char c1))] (.int (0 : Int32))) (hi0 : own_in c0) (hi1 : own_in c1) :
    MetFree l yy2 (head1 (Jvm.Cond.code yy2 jdk_52_method_16_code 6 (some (.array .byte)) :: ws) rRrmCq2) (fun a_ U_ => a_ = #[(.ref ca), (.int (0 : Int32)), (.int (2 : Int32))] ∧ Z.Warmed39 U_.vm ∧ U_.heap = h0) (fun _ _ _ _ _ => True) (fun _ U_ o_ U1_ => ∃ v_ L_, o_ = .returned v_ ∧ QCq2 Z ca c0 c1 kc h0 n0 v_ U1_.heap L_ ∧ FrameEnd U_ o_ U1_ L_ rRrmCq2.cells rRrmCq2.slots) := by
  refine MetFree.of_bodySF pn_rmCq2 hisR ?_
  intro p e s m args below meth c s₁ Bd hml0 hP hK
  obtain ⟨rfl, hZ, hh⟩ := hP
  have hx := Bd.exec
  have hby := Bd.bytes
  have hlk : meth.locks = false := Bd.notSynchronized
  have hml : c.maxLocals = 6 := hml0
  have hown : s.vm.findClass "java/lang/StringUTF16" = some m.cls := findClass_of_methodNamed Bd.named
  have hnm := (name_of_methodNamed Bd.named Bd.method).1
  have X0 : Stand p l e rRrmCq2 s m #[(.ref ca), (.int (0 : Int32)), (.int (2 : Int32))] below meth c s₁ [] 0 0 := Stand.of_body Bd
  have e0 : s₁.heap = h0 := by rw [← hh, Bd.state]; rfl
  have N0 := Fr.nil n0
  show own_Goes p e below s (QCq2 Z ca c0 c1 kc h0 n0) rRrmCq2.cells rRrmCq2.slots s₁ (entryFrame m #[(.ref ca), (.int (0 : Int32)), (.int (2 : Int32))] 6)
  rw [ef_rmCq2 m ca]
  show own_Goes p e below s (QCq2 Z ca c0 c1 kc h0 n0) rRrmCq2.cells rRrmCq2.slots s₁ (mkF m 0 #[rv ca, iv (0 : Int32), iv (2 : Int32), .unset, .unset, .unset] [])
  refine own_st (fun _ kk_ => XS.iloadN X0.here hx rfl (hb hby d9_0) rfl kk_) ?_
  show own_Goes _ _ _ _ _ _ _ s₁ (mkF m 1 #[rv ca, iv (0 : Int32), iv (2 : Int32), .unset, .unset, .unset] [(.int (2 : Int32))])
  obtain ⟨T1, h1, k1, X1, e1, E1, A1, st1⟩ := newP X0 hx hZ (own_w hw 24 rfl) e0 (g := (mkF m 1 #[rv ca, iv (0 : Int32), iv (2 : Int32), .unset, .unset, .unset] [(.int (2 : Int32))])) rfl (hb hby d9_1) rfl (by decide) (cap := 2) (by decide) (by decide) (by decide) (by decide)
  obtain ⟨b1, gx1⟩ : ∃ z, z = h0.size := ⟨_, rfl⟩
  rw [← gx1] at A1 st1
  have ne1_ca : ca ≠ b1 := Nat.ne_of_lt (Nat.lt_of_lt_of_eq p_0.lt gx1.symm)
  have gg1 : n0 ≤ b1 := Nat.le_trans Z0 (Nat.le_of_eq gx1.symm)
  have sz1 : h0.size ≤ b1 := Nat.le_trans (Keep.refl h0 []).1 (Nat.le_of_eq gx1.symm)
  have f1_0 := p_0.ext E1
  have Zs1 : n0 ≤ h1.size := Nat.le_trans Z0 E1.1
  have K1 := (Keep.refl h0 []).ext E1
  have V1 : Arv Z h1 b1 k1 .byte (2 : Int32) [(.int (0 : Int32)), (.int (0 : Int32))] (.int (0 : Int32)) := (Arv.new A1 (by decide)).pad (pad_rep [] (.int (0 : Int32)) 2)
  refine own_st st1 ?_
  show own_Goes _ _ _ _ _ _ _ T1 (mkF m 3 #[rv ca, iv (0 : Int32), iv (2 : Int32), .unset, .unset, .unset] [(.ref b1)])
  refine own_st (fun _ kk_ => XS.astoreN X1.here hx rfl (hb hby d9_3) rfl rfl (l' := #[rv ca, iv (0 : Int32), iv (2 : Int32), rv b1, .unset, .unset]) rfl (XS.aloadN X1.here hx rfl (hb hby d9_4) rfl rfl (XS.iloadN X1.here hx rfl (hb hby d9_5) rfl (XS.aloadN X1.here hx rfl (hb hby d9_6) rfl rfl (XS.iconst X1.here hx rfl (hb hby d9_7) (XS.iloadN X1.here hx rfl (hb hby d9_8) rfl kk_)))))) ?_
  show own_Goes _ _ _ _ _ _ _ T1 (mkF m 9 #[rv ca, iv (0 : Int32), iv (2 : Int32), rv b1, .unset, .unset] [(.int (2 : Int32)), (.int (0 : Int32)), (.ref b1), (.int (0 : Int32)), (.ref ca)])
  obtain ⟨_, _, ⟨T2, L2, k2, n2⟩, -, X2, ⟨Lc2, hQ2, l2, y2, z2⟩, st2⟩ := Jvm.LawKit.callS X1 hx (y := yy1) hown (mvT hZ (own_w hw 63 rfl)) (mvT hZ (own_w hw 64 rfl)) (mvT hZ (own_w hw 61 rfl)) (mvT hZ (own_w hw 65 rfl)) (by decide) (backOf (W := 0) (rmCp2 l Z a0 hw [] (ca) (b1) (c0) (c1) (kc) (k1) h1 n0 Zs1 f1_0 V1 gg1 ne1_ca (by assumption) (by assumption)) hZ (own_w hw 65 rfl) (own_w hw 61 rfl) (by decide) (by decide)) (g := (mkF m 9 #[rv ca, iv (0 : Int32), iv (2 : Int32), rv b1, .unset, .unset] [(.int (2 : Int32)), (.int (0 : Int32)), (.ref b1), (.int (0 : Int32)), (.ref ca)])) rfl (by rw [hml]; rfl) (argsL := [(.ref ca), (.int (0 : Int32)), (.ref b1), (.int (0 : Int32)), (.int (2 : Int32))]) (rest := []) (lenOf pd_0 rfl) rfl (by show 2 * 0 + _ ≤ _; exact Nat.le_of_eq rfl) (hb hby d9_9) (fun _ _ => ⟨rfl, e1, (by decide : 1 + 0 ≤ _), (by decide : 2 + 0 ≤ _)⟩)
  dsimp only [Pt.U, Pt.locs, Pt.cells, Pt.slots] at X2 l2 y2 z2 st2 hQ2
  subst l2 y2 z2
  obtain ⟨rfl, Nq2, Kq2, u2_0⟩ := hQ2
  have N2 := Fr.app N0 Nq2
  have f2_0 := f1_0.keep Kq2 (ninS ne1_ca nin0)
  have Zs2 : n0 ≤ T2.heap.size := Nat.le_trans Zs1 Kq2.1
  have K2 := K1.trans Kq2 (allS (Or.inr sz1) all0)
  refine own_st st2 ?_
  show own_Goes _ _ _ _ _ _ _ T2 (mkF m 12 #[rv ca, iv (0 : Int32), iv (2 : Int32), rv b1, .unset, .unset] [(.int (2 : Int32))])
  refine own_st (fun _ kk_ => XS.istore X2.here hx rfl (hb hby d9_12) rfl (l' := #[rv ca, iv (0 : Int32), iv (2 : Int32), rv b1, iv (2 : Int32), .unset]) rfl (XS.iload X2.here hx rfl (hb hby d9_14) rfl (XS.iloadN X2.here hx rfl (hb hby d9_16) rfl (XS.icmpYes X2.here hx rfl (pc0 := 17) (pc' := 57) rfl (hb hby d9_17) rfl (XT.ii_eq_t (by decide)) (by decide) (by decide) (XS.aloadN X2.here hx rfl (hb hby d9_57) rfl rfl kk_))))) ?_
  show own_Goes _ _ _ _ _ _ _ T2 (mkF m 58 #[rv ca, iv (0 : Int32), iv (2 : Int32), rv b1, iv (2 : Int32), .unset] [(.ref b1)])
  refine own_retA X2 hx hlk rfl Bd.returns rfl (hb hby d9_58) (by decide) (by decide) ?_
  show QCq2 Z ca c0 c1 kc h0 n0 (some (.ref b1)) T2.heap _
  exact ⟨b1, k1, rfl, N2, K2, sz1, u2_0⟩
abbrev rRrmCl2 : Room := { frames := 0, cells := 0, slots := 0, locals := 0 }
theorem d11_0 : decode jdk_52_method_15_code 0 = .ok (.iload_n 1, 1) := by decide +kernel
theorem d11_1 : decode jdk_52_method_15_code 1 = .ok (.aload_n 0, 1) := by decide +kernel
theorem d11_2 : decode jdk_52_method_15_code 2 = .ok (.arraylength, 1) := by decide +kernel
theorem d11_3 : decode jdk_52_method_15_code 3 = .ok (.isub, 1) := by decide +kernel
theorem d11_4 : decode jdk_52_method_15_code 4 = .ok (.bipush 31, 2) := by decide +kernel
theorem d11_6 : decode jdk_52_method_15_code 6 = .ok (.iushr, 1) := by decide +kernel
theorem d11_7 : decode jdk_52_method_15_code 7 = .ok (.i2b, 1) := by decide +kernel
theorem d11_8 : decode jdk_52_method_15_code 8 = .ok (.ireturn, 1) := by decide +kernel
theorem pn_rmCl2 : plainFor yy3 = true := by first | exact plainFor_of_name (by first | (simp [plainName, overriddenIn]; done) | decide +kernel) | decide +kernel
theorem ef_rmCl2 (m : MethodId) (d : Addr) : entryFrame m #[(.ref d), (.int (2 : Int32))] 2 = (mkF m 0 #[rv d, iv (2 : Int32)] []) := by first | (simp [entryFrame, mkF, argsToLocals, Value.category]; done) | rfl
def QCl2 (Z : State) (d : Addr) (c0 : Int32) (c1 : Int32) (kd : ClassId) (h0 : Heap) (n0 : Nat) (v_ : Option Value) (h_ : Heap) (L_ : List Loc) : Prop := (v_ = some (.int (0 : Int32))) ∧ (Fr n0 L_) ∧ (h_ = h0)
set_option maxRecDepth 65536 in
set_option maxHeartbeats 40000000 in
theorem rmCl2 (l : Launch) (Z : State) (a0 : Array Value) (hw : ∀ d ∈ tables_1, d.before a0 Z = true) (ws : List Jvm.Cond) (d : Addr) (c0 : Int32) (c1 : Int32) (kd : ClassId) (h0 : Heap) (n0 : Nat) (Z0 : n0 ≤ h0.size) (p_0 : Arv Z h0 d kd .byte (2 : Int32) [(.int (own_by c0)), (.int (own_by c1))] (.int (0 : Int32))) :
    MetFree l yy3 (head1 (Jvm.Cond.code yy3 jdk_52_method_15_code 2 (some .byte) :: ws) rRrmCl2) (fun a_ U_ => a_ = #[(.ref d), (.int (2 : Int32))] ∧ Z.Warmed39 U_.vm ∧ U_.heap = h0) (fun _ _ _ _ _ => True) (fun _ U_ o_ U1_ => ∃ v_ L_, o_ = .returned v_ ∧ QCl2 Z d c0 c1 kd h0 n0 v_ U1_.heap L_ ∧ FrameEnd U_ o_ U1_ L_ rRrmCl2.cells rRrmCl2.slots) := by
  refine MetFree.of_bodySF pn_rmCl2 hisR ?_
  intro p e s m args below meth c s₁ Bd hml0 hP hK
  obtain ⟨rfl, hZ, hh⟩ := hP
  have hx := Bd.exec
  have hby := Bd.bytes
  have hlk : meth.locks = false := Bd.notSynchronized
  have hml : c.maxLocals = 2 := hml0
  have hown : s.vm.findClass "java/lang/StringUTF16" = some m.cls := findClass_of_methodNamed Bd.named
  have hnm := (name_of_methodNamed Bd.named Bd.method).1
  have X0 : Stand p l e rRrmCl2 s m #[(.ref d), (.int (2 : Int32))] below meth c s₁ [] 0 0 := Stand.of_body Bd
  have e0 : s₁.heap = h0 := by rw [← hh, Bd.state]; rfl
  have N0 := Fr.nil n0
  show own_Goes p e below s (QCl2 Z d c0 c1 kd h0 n0) rRrmCl2.cells rRrmCl2.slots s₁ (entryFrame m #[(.ref d), (.int (2 : Int32))] 2)
  rw [ef_rmCl2 m d]
  show own_Goes p e below s (QCl2 Z d c0 c1 kd h0 n0) rRrmCl2.cells rRrmCl2.slots s₁ (mkF m 0 #[rv d, iv (2 : Int32)] [])
  refine own_st (fun _ kk_ => XS.iloadN X0.here hx rfl (hb hby d11_0) rfl (XS.aloadN X0.here hx rfl (hb hby d11_1) rfl rfl kk_)) ?_
  show own_Goes _ _ _ _ _ _ _ s₁ (mkF m 2 #[rv d, iv (2 : Int32)] [(.ref d), (.int (2 : Int32))])
  obtain ⟨cl1, Ar1, -, Sz1, Nn1, -, -⟩ := id p_0
  refine own_st (fun _ kk_ => X0.arraylength hx (by rw [e0]; exact Ar1.1) (State.isArrayOf_alike hZ.alike Ar1.2.1) (g := (mkF m 2 #[rv d, iv (2 : Int32)] [(.ref d), (.int (2 : Int32))])) rfl rfl (hb hby d11_2) _ kk_) ?_
  rw [len_of Sz1 Nn1]
  show own_Goes _ _ _ _ _ _ _ s₁ (mkF m 3 #[rv d, iv (2 : Int32)] [(.int (2 : Int32)), (.int (2 : Int32))])
  refine own_st (fun _ kk_ => XS.isub X0.here hx rfl (hb hby d11_3) rfl (XS.bipush X0.here hx rfl (hb hby d11_4) (XS.iushr X0.here hx rfl (hb hby d11_6) rfl (XS.i2b X0.here hx rfl (hb hby d11_7) rfl kk_)))) ?_
  show own_Goes _ _ _ _ _ _ _ s₁ (mkF m 8 #[rv d, iv (2 : Int32)] [(.int ((((0 : Int32).toUInt32 >>> ((31 : Int32) &&& 31).toUInt32).toInt32).toInt8.toInt32))])
  refine own_retN X0 hx hlk (t := .byte) Bd.returns (by simp) (hb hby d11_8) (by decide) (by decide) ?_
  show QCl2 Z d c0 c1 kd h0 n0 (some (.int (nar .byte ((((0 : Int32).toUInt32 >>> ((31 : Int32) &&& 31).toUInt32).toInt32).toInt8.toInt32)))) s₁.heap _
  rw [e0]
  exact ⟨by decide, N0, rfl⟩
abbrev rRrmCv2 : Room := { frames := 2, cells := 1, slots := 2, locals := 35 }
theorem d4_0 : decode jdk_42_method_149_code 0 = .ok (.aload_n 0, 1) := by decide +kernel
theorem d4_1 : decode jdk_42_method_149_code 1 = .ok (.invokespecial 1, 3) := by decide +kernel
theorem d4_4 : decode jdk_42_method_149_code 4 = .ok (.iload_n 3, 1) := by decide +kernel
theorem d4_5 : decode jdk_42_method_149_code 5 = .ok (.ifCond .ne 22, 3) := by decide +kernel
theorem d4_27 : decode jdk_42_method_149_code 27 = .ok (.getstatic 38, 3) := by decide +kernel
theorem d4_30 : decode jdk_42_method_149_code 30 = .ok (.ifCond .eq 28, 3) := by decide +kernel
theorem d4_33 : decode jdk_42_method_149_code 33 = .ok (.aload_n 1, 1) := by decide +kernel
theorem d4_34 : decode jdk_42_method_149_code 34 = .ok (.iload_n 2, 1) := by decide +kernel
theorem d4_35 : decode jdk_42_method_149_code 35 = .ok (.iload_n 3, 1) := by decide +kernel
theorem d4_36 : decode jdk_42_method_149_code 36 = .ok (.invokestatic 177, 3) := by decide +kernel
theorem d4_39 : decode jdk_42_method_149_code 39 = .ok (.astore 5, 2) := by decide +kernel
theorem d4_41 : decode jdk_42_method_149_code 41 = .ok (.aload_n 0, 1) := by decide +kernel
theorem d4_42 : decode jdk_42_method_149_code 42 = .ok (.aload 5, 2) := by decide +kernel
theorem d4_44 : decode jdk_42_method_149_code 44 = .ok (.iload_n 3, 1) := by decide +kernel
theorem d4_45 : decode jdk_42_method_149_code 45 = .ok (.invokestatic 47, 3) := by decide +kernel
theorem d4_48 : decode jdk_42_method_149_code 48 = .ok (.putfield 15, 3) := by decide +kernel
theorem d4_51 : decode jdk_42_method_149_code 51 = .ok (.aload_n 0, 1) := by decide +kernel
theorem d4_52 : decode jdk_42_method_149_code 52 = .ok (.aload 5, 2) := by decide +kernel
theorem d4_54 : decode jdk_42_method_149_code 54 = .ok (.putfield 9, 3) := by decide +kernel
theorem d4_57 : decode jdk_42_method_149_code 57 = .ok (.return_, 1) := by decide +kernel
theorem pd_1 : parseMethodDescriptor "([CII)[B" = some ⟨[(.array .char), .int, .int], some (.array .byte)⟩ := by decide +kernel
theorem pd_2 : parseMethodDescriptor "([BI)B" = some ⟨[(.array .byte), .int], some .byte⟩ := by decide +kernel
theorem pn_rmCv2 : plainFor yy4 = true := by first | exact plainFor_of_name (by first | (simp [plainName, overriddenIn]; done) | decide +kernel) | decide +kernel
theorem ef_rmCv2 (m : MethodId) (s9 : Addr) (ca : Addr) : entryFrame m #[(.ref s9), (.ref ca), (.int (0 : Int32)), (.int (2 : Int32)), .null] 6 = (mkF m 0 #[rv s9, rv ca, iv (0 : Int32), iv (2 : Int32), .val .null, .unset] []) := by first | (simp [entryFrame, mkF, argsToLocals, Value.category]; done) | rfl
def QCv2 (Z : State) (s9 : Addr) (ca : Addr) (c0 : Int32) (c1 : Int32) (kc : ClassId) (cs : Int32) (h0 : Heap) (n0 : Nat) (v_ : Option Value) (h_ : Heap) (L_ : List Loc) : Prop := ∃ d : Addr, ∃ kd : ClassId, (v_ = none) ∧ (Fr n0 L_) ∧ (Keep h0 h_ [s9]) ∧ (h0.size ≤ d) ∧ (Fld Z h_ s9 "java/lang/String" "coder" "B" (.int (0 : Int32))) ∧ (Fld Z h_ s9 "java/lang/String" "value" "[B" (.ref d)) ∧ (Arv Z h_ d kd .byte (2 : Int32) [(.int (own_by c0)), (.int (own_by c1))] (.int (0 : Int32)))
set_option maxRecDepth 65536 in
set_option maxHeartbeats 40000000 in
theorem rmCv2 (l : Launch) (Z : State) (a0 : Array Value) (hw : ∀ d ∈ tables_1, d.before a0 Z = true) (ws : List Jvm.Cond) (s9 : Addr) (ca : Addr) (c0 : Int32) (c1 : Int32) (kc : ClassId) (cs : Int32) (h0 : Heap) (n0 : Nat) (Z0 : n0 ≤ h0.size) (p_0 : Exa Z h0 s9 "java/lang/String") (p_1 : Fld Z h0 s9 "java/lang/String" "value" "[B" .null) (p_2 : Fld Z h0 s9 "java/lang/String" "coder" "B" (.int (0 : Int32))) (p_3 : n0 ≤ s9) (p_4 : Arv Z h0 ca kc .char (2 : Int32) [(.int (nar .char c0)), (.int (nar .char c1))] (.int (0 : Int32))) (p_5 : Sta Z h0 "java/lang/String" "COMPACT_STRINGS" "Z" (.int cs)) (hcs : ¬ cs = (0 : Int32)) (hi0 : own_in c0) (hi1 : own_in c1) :
    MetFree l yy4 (head1 (Jvm.Cond.code yy4 jdk_42_method_149_code 6 none :: ws) rRrmCv2) (fun a_ U_ => a_ = #[(.ref s9), (.ref ca), (.int (0 : Int32)), (.int (2 : Int32)), .null] ∧ Z.Warmed39 U_.vm ∧ U_.heap = h0) (fun _ _ _ _ _ => True) (fun _ U_ o_ U1_ => ∃ v_ L_, o_ = .returned v_ ∧ QCv2 Z s9 ca c0 c1 kc cs h0 n0 v_ U1_.heap L_ ∧ FrameEnd U_ o_ U1_ L_ rRrmCv2.cells rRrmCv2.slots) := by
  refine MetFree.of_bodySF pn_rmCv2 hisR ?_
  intro p e s m args below meth c s₁ Bd hml0 hP hK
  obtain ⟨rfl, hZ, hh⟩ := hP
  have hx := Bd.exec
  have hby := Bd.bytes
  have hlk : meth.locks = false := Bd.notSynchronized
  have hml : c.maxLocals = 6 := hml0
  have hown : s.vm.findClass "java/lang/String" = some m.cls := findClass_of_methodNamed Bd.named
  have hnm := (name_of_methodNamed Bd.named Bd.method).1
  have X0 : Stand p l e rRrmCv2 s m #[(.ref s9), (.ref ca), (.int (0 : Int32)), (.int (2 : Int32)), .null] below meth c s₁ [] 0 0 := Stand.of_body Bd
  have e0 : s₁.heap = h0 := by rw [← hh, Bd.state]; rfl
  have N0 := Fr.nil n0
  show own_Goes p e below s (QCv2 Z s9 ca c0 c1 kc cs h0 n0) rRrmCv2.cells rRrmCv2.slots s₁ (entryFrame m #[(.ref s9), (.ref ca), (.int (0 : Int32)), (.int (2 : Int32)), .null] 6)
  rw [ef_rmCv2 m s9 ca]
  show own_Goes p e below s (QCv2 Z s9 ca c0 c1 kc cs h0 n0) rRrmCv2.cells rRrmCv2.slots s₁ (mkF m 0 #[rv s9, rv ca, iv (0 : Int32), iv (2 : Int32), .val .null, .unset] [])
  refine own_st (fun _ kk_ => XS.aloadN X0.here hx rfl (hb hby d4_0) rfl rfl kk_) ?_
  show own_Goes _ _ _ _ _ _ _ s₁ (mkF m 1 #[rv s9, rv ca, iv (0 : Int32), iv (2 : Int32), .val .null, .unset] [(.ref s9)])
  obtain ⟨T1, X1, e1, st1⟩ := initO X0 hx hZ hown (own_w hw 20 rfl) (own_w hw 21 rfl) (own_w hw 22 rfl) e0 (g := (mkF m 1 #[rv s9, rv ca, iv (0 : Int32), iv (2 : Int32), .val .null, .unset] [(.ref s9)])) rfl (by rw [hml]; rfl) rfl (hb hby d4_1) (by decide) (W := 0) (by show 2 * 0 + _ ≤ _; exact Nat.le_of_eq rfl) (by decide)
  refine own_st st1 ?_
  show own_Goes _ _ _ _ _ _ _ T1 (mkF m 4 #[rv s9, rv ca, iv (0 : Int32), iv (2 : Int32), .val .null, .unset] [])
  refine own_st (fun _ kk_ => XS.iloadN X1.here hx rfl (hb hby d4_4) rfl (XS.ifYes X1.here hx rfl (pc0 := 5) (pc' := 27) rfl (hb hby d4_5) rfl (XT.i0_ne_t (by decide)) (by decide) (by decide) kk_)) ?_
  show own_Goes _ _ _ _ _ _ _ T1 (mkF m 27 #[rv s9, rv ca, iv (0 : Int32), iv (2 : Int32), .val .null, .unset] [])
  obtain ⟨T2, X2, e2, st2⟩ := getS2 X1 hx hZ hown (host := "") (Or.inl (own_w hw 58 rfl)) Via.refl e1 p_5 (g := (mkF m 27 #[rv s9, rv ca, iv (0 : Int32), iv (2 : Int32), .val .null, .unset] [])) rfl (hb hby d4_27)
  refine own_st st2 ?_
  show own_Goes _ _ _ _ _ _ _ T2 (mkF m 30 #[rv s9, rv ca, iv (0 : Int32), iv (2 : Int32), .val .null, .unset] [(.int cs)])
  refine own_st (fun _ kk_ => XS.ifNo X2.here hx rfl (hb hby d4_30) rfl (XT.i0_eq_f hcs) (XS.aloadN X2.here hx rfl (hb hby d4_33) rfl rfl (XS.iloadN X2.here hx rfl (hb hby d4_34) rfl (XS.iloadN X2.here hx rfl (hb hby d4_35) rfl kk_)))) ?_
  show own_Goes _ _ _ _ _ _ _ T2 (mkF m 36 #[rv s9, rv ca, iv (0 : Int32), iv (2 : Int32), .val .null, .unset] [(.int (2 : Int32)), (.int (0 : Int32)), (.ref ca)])
  obtain ⟨_, _, ⟨T3, L3, k3, n3⟩, -, X3, ⟨Lc3, hQ3, l3, y3, z3⟩, st3⟩ := Jvm.LawKit.callS X2 hx (y := yy2) hown (mvT hZ (own_w hw 59 rfl)) (mvT hZ (own_w hw 60 rfl)) (mvT hZ (own_w hw 61 rfl)) (mvT hZ (own_w hw 62 rfl)) (by decide) (backOf (W := 0) (rmCq2 l Z a0 hw [] (ca) (c0) (c1) (kc) h0 n0 Z0 p_4 (by assumption) (by assumption)) hZ (own_w hw 62 rfl) (own_w hw 61 rfl) (by decide) (by decide)) (g := (mkF m 36 #[rv s9, rv ca, iv (0 : Int32), iv (2 : Int32), .val .null, .unset] [(.int (2 : Int32)), (.int (0 : Int32)), (.ref ca)])) rfl (by rw [hml]; rfl) (argsL := [(.ref ca), (.int (0 : Int32)), (.int (2 : Int32))]) (rest := []) (lenOf pd_1 rfl) rfl (by show 2 * 0 + _ ≤ _; exact Nat.le_of_eq rfl) (hb hby d4_36) (fun _ _ => ⟨rfl, e2, (by decide : 0 + 1 ≤ _), (by decide : 0 + 2 ≤ _)⟩)
  dsimp only [Pt.U, Pt.locs, Pt.cells, Pt.slots] at X3 l3 y3 z3 st3 hQ3
  subst l3 y3 z3
  obtain ⟨x3_d, x3_kd, rfl, Nq3, Kq3, u3_0, u3_1⟩ := hQ3
  have N3 := Fr.app N0 Nq3
  have f3_0 := p_0.keep Kq3
  have f3_1 := p_1.keep Kq3 nin0
  have f3_2 := p_2.keep Kq3 nin0
  have f3_3 := p_4.keep Kq3 nin0
  have f3_4 := own_Sta_keep p_5 Kq3 ns0
  have Zs3 : n0 ≤ T3.heap.size := Nat.le_trans Z0 Kq3.1
  have K3 := (Keep.refl h0 [s9]).trans Kq3 all0
  have ne3_s9 : s9 ≠ x3_d := Nat.ne_of_lt (Nat.lt_of_lt_of_le p_0.lt u3_0)
  have ne3_ca : ca ≠ x3_d := Nat.ne_of_lt (Nat.lt_of_lt_of_le p_4.lt u3_0)
  have sz3_d : h0.size ≤ x3_d := Nat.le_trans (Keep.refl h0 [s9]).1 u3_0
  have gg3_d : n0 ≤ x3_d := Nat.le_trans Z0 u3_0
  refine own_st st3 ?_
  show own_Goes _ _ _ _ _ _ _ T3 (mkF m 39 #[rv s9, rv ca, iv (0 : Int32), iv (2 : Int32), .val .null, .unset] [(.ref x3_d)])
  refine own_st (fun _ kk_ => XS.astore X3.here hx rfl (hb hby d4_39) rfl rfl (l' := #[rv s9, rv ca, iv (0 : Int32), iv (2 : Int32), .val .null, rv x3_d]) rfl (XS.aloadN X3.here hx rfl (hb hby d4_41) rfl rfl (XS.aload X3.here hx rfl (hb hby d4_42) rfl rfl (XS.iloadN X3.here hx rfl (hb hby d4_44) rfl kk_)))) ?_
  show own_Goes _ _ _ _ _ _ _ T3 (mkF m 45 #[rv s9, rv ca, iv (0 : Int32), iv (2 : Int32), .val .null, rv x3_d] [(.int (2 : Int32)), (.ref x3_d), (.ref s9)])
  obtain ⟨_, _, ⟨T4, L4, k4, n4⟩, -, X4, ⟨Lc4, hQ4, l4, y4, z4⟩, st4⟩ := Jvm.LawKit.callS X3 hx (y := yy3) hown (mvT hZ (own_w hw 66 rfl)) (mvT hZ (own_w hw 67 rfl)) (mvT hZ (own_w hw 61 rfl)) (mvT hZ (own_w hw 68 rfl)) (by decide) (backOf (W := 1) (rmCl2 l Z a0 hw [] (x3_d) (c0) (c1) (x3_kd) T3.heap n0 Zs3 u3_1) hZ (own_w hw 68 rfl) (own_w hw 61 rfl) (by decide) (by decide)) (g := (mkF m 45 #[rv s9, rv ca, iv (0 : Int32), iv (2 : Int32), .val .null, rv x3_d] [(.int (2 : Int32)), (.ref x3_d), (.ref s9)])) rfl (by rw [hml]; rfl) (argsL := [(.ref x3_d), (.int (2 : Int32))]) (rest := [(.ref s9)]) (lenOf pd_2 rfl) rfl (by show 2 * 0 + _ ≤ _; exact Nat.le_of_eq rfl) (hb hby d4_45) (fun _ _ => ⟨rfl, rfl, (by decide : 1 + 0 ≤ _), (by decide : 2 + 0 ≤ _)⟩)
  dsimp only [Pt.U, Pt.locs, Pt.cells, Pt.slots] at X4 l4 y4 z4 st4 hQ4
  subst l4 y4 z4
  obtain ⟨rfl, Nq4, eq4⟩ := hQ4
  have N4 := Fr.app N3 Nq4
  refine own_st st4 ?_
  show own_Goes _ _ _ _ _ _ _ T4 (mkF m 48 #[rv s9, rv ca, iv (0 : Int32), iv (2 : Int32), .val .null, rv x3_d] [(.int (0 : Int32)), (.ref s9)])
  obtain ⟨T5, h5, X5, e5, W5, st5⟩ := putFN X4 hx hZ hown (own_w hw 30 rfl) Via.refl eq4 f3_2 f3_0 (Or.inr ⟨(own_w hw 26 rfl), rfl, hnm⟩) (own_w hw 10 rfl) (ty := .byte) (v' := (.int (nar .byte (0 : Int32)))) (by decide) rfl (fits_nar_byte _) (g := (mkF m 48 #[rv s9, rv ca, iv (0 : Int32), iv (2 : Int32), .val .null, rv x3_d] [(.int (0 : Int32)), (.ref s9)])) rfl rfl (hb hby d4_48)
  have fw5 : Fld Z h5 s9 "java/lang/String" "coder" "B" (.int (nar .byte (0 : Int32))) := f3_2.same W5
  have f5_0 := f3_0.wr W5
  have f5_1 := f3_1.other W5 (Or.inr (slot_ne (Or.inr (own_w hw 25 rfl)) (Or.inr (own_w hw 26 rfl)) (by decide) (t := (.array .byte)) (t' := .byte) (by decide) (by decide)))
  have f5_4 := f3_4.wr W5
  have f5_5 := u3_1.other W5 (Ne.symm ne3_s9)
  have Zs5 : n0 ≤ h5.size := Nat.le_trans Zs3 (Nat.le_of_eq W5.size.symm)
  have K5 := K3.wr W5 (Or.inl (List.mem_of_getElem? (i := 0) rfl))
  have N5 := Fr.snoc X5 N4 p_3
  refine own_st st5 ?_
  show own_Goes _ _ _ _ _ _ _ T5 (mkF m 51 #[rv s9, rv ca, iv (0 : Int32), iv (2 : Int32), .val .null, rv x3_d] [])
  refine own_st (fun _ kk_ => XS.aloadN X5.here hx rfl (hb hby d4_51) rfl rfl (XS.aload X5.here hx rfl (hb hby d4_52) rfl rfl kk_)) ?_
  show own_Goes _ _ _ _ _ _ _ T5 (mkF m 54 #[rv s9, rv ca, iv (0 : Int32), iv (2 : Int32), .val .null, rv x3_d] [(.ref x3_d), (.ref s9)])
  obtain ⟨T6, h6, X6, e6, W6, st6⟩ := putF X5 hx hZ hown (host := "") (Or.inl (own_w hw 29 rfl)) Via.refl e5 f5_1 f5_0 (Or.inr ⟨(own_w hw 25 rfl), rfl, hnm⟩) (own_w hw 10 rfl) (ty := (.array .byte)) (by decide) rfl rfl (g := (mkF m 54 #[rv s9, rv ca, iv (0 : Int32), iv (2 : Int32), .val .null, rv x3_d] [(.ref x3_d), (.ref s9)])) rfl rfl (hb hby d4_54)
  have fw6 : Fld Z h6 s9 "java/lang/String" "value" "[B" (.ref x3_d) := f5_1.same W6
  have f6_0 := f5_0.wr W6
  have f6_2 := f5_4.wr W6
  have f6_3 := f5_5.other W6 (Ne.symm ne3_s9)
  have f6_4 := fw5.other W6 (Or.inr (slot_ne (Or.inr (own_w hw 26 rfl)) (Or.inr (own_w hw 25 rfl)) (by decide) (t := .byte) (t' := (.array .byte)) (by decide) (by decide)))
  have Zs6 : n0 ≤ h6.size := Nat.le_trans Zs5 (Nat.le_of_eq W6.size.symm)
  have K6 := K5.wr W6 (Or.inl (List.mem_of_getElem? (i := 0) rfl))
  have N6 := Fr.snoc X6 N5 p_3
  refine own_st st6 ?_
  show own_Goes _ _ _ _ _ _ _ T6 (mkF m 57 #[rv s9, rv ca, iv (0 : Int32), iv (2 : Int32), .val .null, rv x3_d] [])
  refine own_ret0 X6 hx hlk Bd.returns (hb hby d4_57) (by decide) (by decide) ?_
  show QCv2 Z s9 ca c0 c1 kc cs h0 n0 none T6.heap _
  rw [e6]
  exact ⟨x3_d, x3_kd, rfl, N6, K6, sz3_d, f6_4, fw6, f6_3⟩
abbrev rRrmCs2 : Room := { frames := 3, cells := 1, slots := 2, locals := 52 }
theorem d3_0 : decode jdk_42_method_3_code 0 = .ok (.aload_n 0, 1) := by decide +kernel
theorem d3_1 : decode jdk_42_method_3_code 1 = .ok (.aload_n 1, 1) := by decide +kernel
theorem d3_2 : decode jdk_42_method_3_code 2 = .ok (.iconst 0, 1) := by decide +kernel
theorem d3_3 : decode jdk_42_method_3_code 3 = .ok (.aload_n 1, 1) := by decide +kernel
theorem d3_4 : decode jdk_42_method_3_code 4 = .ok (.arraylength, 1) := by decide +kernel
theorem d3_5 : decode jdk_42_method_3_code 5 = .ok (.aconst_null, 1) := by decide +kernel
theorem d3_6 : decode jdk_42_method_3_code 6 = .ok (.invokespecial 27, 3) := by decide +kernel
theorem d3_9 : decode jdk_42_method_3_code 9 = .ok (.return_, 1) := by decide +kernel
theorem pd_3 : parseMethodDescriptor "([CIILjava/lang/Void;)V" = some ⟨[(.array .char), .int, .int, (.object "java/lang/Void")], none⟩ := by decide +kernel
theorem pn_rmCs2 : plainFor yy5 = true := by first | exact plainFor_of_name (by first | (simp [plainName, overriddenIn]; done) | decide +kernel) | decide +kernel
theorem ef_rmCs2 (m : MethodId) (s9 : Addr) (ca : Addr) : entryFrame m #[(.ref s9), (.ref ca)] 2 = (mkF m 0 #[rv s9, rv ca] []) := by first | (simp [entryFrame, mkF, argsToLocals, Value.category]; done) | rfl
def QCs2 (Z : State) (s9 : Addr) (ca : Addr) (c0 : Int32) (c1 : Int32) (kc : ClassId) (cs : Int32) (h0 : Heap) (n0 : Nat) (v_ : Option Value) (h_ : Heap) (L_ : List Loc) : Prop := ∃ d : Addr, ∃ kd : ClassId, (v_ = none) ∧ (Fr n0 L_) ∧ (Keep h0 h_ [s9]) ∧ (h0.size ≤ d) ∧ (Fld Z h_ s9 "java/lang/String" "coder" "B" (.int (0 : Int32))) ∧ (Fld Z h_ s9 "java/lang/String" "value" "[B" (.ref d)) ∧ (Arv Z h_ d kd .byte (2 : Int32) [(.int (own_by c0)), (.int (own_by c1))] (.int (0 : Int32)))
set_option maxRecDepth 65536 in
set_option maxHeartbeats 40000000 in
theorem rmCs2 (l : Launch) (Z : State) (a0 : Array Value) (hw : ∀ d ∈ tables_1, d.before a0 Z = true) (ws : List Jvm.Cond) (s9 : Addr) (ca : Addr) (c0 : Int32) (c1 : Int32) (kc : ClassId) (cs : Int32) (h0 : Heap) (n0 : Nat) (Z0 : n0 ≤ h0.size) (p_0 : Exa Z h0 s9 "java/lang/String") (p_1 : Fld Z h0 s9 "java/lang/String" "value" "[B" .null) (p_2 : Fld Z h0 s9 "java/lang/String" "coder" "B" (.int (0 : Int32))) (p_3 : n0 ≤ s9) (p_4 : Arv Z h0 ca kc .char (2 : Int32) [(.int (nar .char c0)), (.int (nar .char c1))] (.int (0 : Int32))) (p_5 : Sta Z h0 "java/lang/String" "COMPACT_STRINGS" "Z" (.int cs)) (hcs : ¬ cs = (0 : Int32)) (hi0 : own_in c0) (hi1 : own_in c1) :
    MetFree l yy5 (head1 (Jvm.Cond.code yy5 jdk_42_method_3_code 2 none :: ws) rRrmCs2) (fun a_ U_ => a_ = #[(.ref s9), (.ref ca)] ∧ Z.Warmed39 U_.vm ∧ U_.heap = h0) (fun _ _ _ _ _ => True) (fun _ U_ o_ U1_ => ∃ v_ L_, o_ = .returned v_ ∧ QCs2 Z s9 ca c0 c1 kc cs h0 n0 v_ U1_.heap L_ ∧ FrameEnd U_ o_ U1_ L_ rRrmCs2.cells rRrmCs2.slots) := by
  refine MetFree.of_bodySF pn_rmCs2 hisR ?_
  intro p e s m args below meth c s₁ Bd hml0 hP hK
  obtain ⟨rfl, hZ, hh⟩ := hP
  have hx := Bd.exec
  have hby := Bd.bytes
  have hlk : meth.locks = false := Bd.notSynchronized
  have hml : c.maxLocals = 2 := hml0
  have hown : s.vm.findClass "java/lang/String" = some m.cls := findClass_of_methodNamed Bd.named
  have hnm := (name_of_methodNamed Bd.named Bd.method).1
  have X0 : Stand p l e rRrmCs2 s m #[(.ref s9), (.ref ca)] below meth c s₁ [] 0 0 := Stand.of_body Bd
  have e0 : s₁.heap = h0 := by rw [← hh, Bd.state]; rfl
  have N0 := Fr.nil n0
  show own_Goes p e below s (QCs2 Z s9 ca c0 c1 kc cs h0 n0) rRrmCs2.cells rRrmCs2.slots s₁ (entryFrame m #[(.ref s9), (.ref ca)] 2)
  rw [ef_rmCs2 m s9 ca]
  show own_Goes p e below s (QCs2 Z s9 ca c0 c1 kc cs h0 n0) rRrmCs2.cells rRrmCs2.slots s₁ (mkF m 0 #[rv s9, rv ca] [])
  refine own_st (fun _ kk_ => XS.aloadN X0.here hx rfl (hb hby d3_0) rfl rfl (XS.aloadN X0.here hx rfl (hb hby d3_1) rfl rfl (XS.iconst X0.here hx rfl (hb hby d3_2) (XS.aloadN X0.here hx rfl (hb hby d3_3) rfl rfl kk_)))) ?_
  show own_Goes _ _ _ _ _ _ _ s₁ (mkF m 4 #[rv s9, rv ca] [(.ref ca), (.int (0 : Int32)), (.ref ca), (.ref s9)])
  obtain ⟨cl1, Ar1, -, Sz1, Nn1, -, -⟩ := id p_4
  refine own_st (fun _ kk_ => X0.arraylength hx (by rw [e0]; exact Ar1.1) (State.isArrayOf_alike hZ.alike Ar1.2.1) (g := (mkF m 4 #[rv s9, rv ca] [(.ref ca), (.int (0 : Int32)), (.ref ca), (.ref s9)])) rfl rfl (hb hby d3_4) _ kk_) ?_
  rw [len_of Sz1 Nn1]
  show own_Goes _ _ _ _ _ _ _ s₁ (mkF m 5 #[rv s9, rv ca] [(.int (2 : Int32)), (.int (0 : Int32)), (.ref ca), (.ref s9)])
  refine own_st (fun _ kk_ => XS.aconstNull X0.here hx rfl (hb hby d3_5) kk_) ?_
  show own_Goes _ _ _ _ _ _ _ s₁ (mkF m 6 #[rv s9, rv ca] [.null, (.int (2 : Int32)), (.int (0 : Int32)), (.ref ca), (.ref s9)])
  obtain ⟨_, _, ⟨T2, L2, k2, n2⟩, -, X2, ⟨Lc2, hQ2, l2, y2, z2⟩, st2⟩ := X0.specialBack hx (y := yy4) rfl hown (mvT hZ (own_w hw 16 rfl)) (mvT hZ (own_w hw 17 rfl)) (mvT hZ (own_w hw 19 rfl)) (by decide) (backOf (W := 0) (rmCv2 l Z a0 hw [] (s9) (ca) (c0) (c1) (kc) (cs) h0 n0 Z0 p_0 p_1 p_2 p_3 p_4 p_5 (by assumption) (by assumption) (by assumption)) hZ (own_w hw 19 rfl) (own_w hw 11 rfl) (by decide) (by decide)) (g := (mkF m 6 #[rv s9, rv ca] [.null, (.int (2 : Int32)), (.int (0 : Int32)), (.ref ca), (.ref s9)])) rfl (by rw [hml]; rfl) (Steps.refl _) (a := s9) (argsL := [(.ref ca), (.int (0 : Int32)), (.int (2 : Int32)), .null]) (rest := []) (lenOf pd_3 rfl) rfl (by show 2 * 0 + _ ≤ _; exact Nat.le_of_eq rfl) (hb hby d3_6) (fun _ _ => ⟨rfl, e0, (by decide : 0 + 1 ≤ _), (by decide : 0 + 2 ≤ _)⟩)
  dsimp only [Pt.U, Pt.locs, Pt.cells, Pt.slots] at X2 l2 y2 z2 st2 hQ2
  subst l2 y2 z2
  obtain ⟨x2_d, x2_kd, rfl, Nq2, Kq2, u2_0, u2_1, u2_2, u2_3⟩ := hQ2
  have N2 := Fr.app N0 Nq2
  have f2_0 := p_0.keep Kq2
  have f2_4 := own_Sta_keep p_5 Kq2 (nsS p_0.nostat ns0)
  have Zs2 : n0 ≤ T2.heap.size := Nat.le_trans Z0 Kq2.1
  have K2 := (Keep.refl h0 [s9]).trans Kq2 (allS (Or.inl (List.mem_of_getElem? (i := 0) rfl)) all0)
  have ne2_s9 : s9 ≠ x2_d := Nat.ne_of_lt (Nat.lt_of_lt_of_le p_0.lt u2_0)
  have ne2_ca : ca ≠ x2_d := Nat.ne_of_lt (Nat.lt_of_lt_of_le p_4.lt u2_0)
  have sz2_d : h0.size ≤ x2_d := Nat.le_trans (Keep.refl h0 [s9]).1 u2_0
  have gg2_d : n0 ≤ x2_d := Nat.le_trans Z0 u2_0
  refine own_st (fun _ kk_ => st2.trans kk_) ?_
  show own_Goes _ _ _ _ _ _ _ T2 (mkF m 9 #[rv s9, rv ca] [])
  refine own_ret0 X2 hx hlk Bd.returns (hb hby d3_9) (by decide) (by decide) ?_
  show QCs2 Z s9 ca c0 c1 kc cs h0 n0 none T2.heap _
  exact ⟨x2_d, x2_kd, rfl, N2, K2, sz2_d, u2_1, u2_2, u2_3⟩
abbrev rRrmCv0 : Room := { frames := 1, cells := 4, slots := 8, locals := 12 }
theorem d4_8 : decode jdk_42_method_149_code 8 = .ok (.aload_n 0, 1) := by decide +kernel
theorem d4_9 : decode jdk_42_method_149_code 9 = .ok (.ldc 7, 2) := by decide +kernel
theorem d4_11 : decode jdk_42_method_149_code 11 = .ok (.getfield 9, 3) := by decide +kernel
theorem d4_14 : decode jdk_42_method_149_code 14 = .ok (.putfield 9, 3) := by decide +kernel
theorem d4_17 : decode jdk_42_method_149_code 17 = .ok (.aload_n 0, 1) := by decide +kernel
theorem d4_18 : decode jdk_42_method_149_code 18 = .ok (.ldc 7, 2) := by decide +kernel
theorem d4_20 : decode jdk_42_method_149_code 20 = .ok (.getfield 15, 3) := by decide +kernel
theorem d4_23 : decode jdk_42_method_149_code 23 = .ok (.putfield 15, 3) := by decide +kernel
theorem d4_26 : decode jdk_42_method_149_code 26 = .ok (.return_, 1) := by decide +kernel
theorem pn_rmCv0 : plainFor yy4 = true := by first | exact plainFor_of_name (by first | (simp [plainName, overriddenIn]; done) | decide +kernel) | decide +kernel
theorem ef_rmCv0 (m : MethodId) (s9 : Addr) (ca : Addr) : entryFrame m #[(.ref s9), (.ref ca), (.int (0 : Int32)), (.int (0 : Int32)), .null] 6 = (mkF m 0 #[rv s9, rv ca, iv (0 : Int32), iv (0 : Int32), .val .null, .unset] []) := by first | (simp [entryFrame, mkF, argsToLocals, Value.category]; done) | rfl
def QCv0 (Z : State) (s9 : Addr) (ca : Addr) (kc : ClassId) (h0 : Heap) (n0 : Nat) (v_ : Option Value) (h_ : Heap) (L_ : List Loc) : Prop := ∃ d : Addr, ∃ kd : ClassId, (v_ = none) ∧ (Fr n0 L_) ∧ (Keep h0 h_ [s9]) ∧ (Fld Z h_ s9 "java/lang/String" "coder" "B" (.int (0 : Int32))) ∧ (Fld Z h_ s9 "java/lang/String" "value" "[B" (.ref d)) ∧ (Arv Z h_ d kd .byte (0 : Int32) [] (.int (0 : Int32)))
set_option maxRecDepth 65536 in
set_option maxHeartbeats 40000000 in
theorem rmCv0 (l : Launch) (Z : State) (a0 : Array Value) (hw : ∀ d ∈ tables_1, d.before a0 Z = true) (ws : List Jvm.Cond) (hEL : EW Z a0 consts_1) (s9 : Addr) (ca : Addr) (kc : ClassId) (h0 : Heap) (n0 : Nat) (Z0 : n0 ≤ h0.size) (p_0 : Exa Z h0 s9 "java/lang/String") (p_1 : Fld Z h0 s9 "java/lang/String" "value" "[B" .null) (p_2 : Fld Z h0 s9 "java/lang/String" "coder" "B" (.int (0 : Int32))) (p_3 : n0 ≤ s9) (p_4 : Arv Z h0 ca kc .char (0 : Int32) [] (.int (0 : Int32))) :
    MetFree l yy4 (head1 (Jvm.Cond.code yy4 jdk_42_method_149_code 6 none :: ws) rRrmCv0) (fun a_ U_ => a_ = #[(.ref s9), (.ref ca), (.int (0 : Int32)), (.int (0 : Int32)), .null] ∧ Z.Warmed39 U_.vm ∧ U_.heap = h0 ∧ CHv Z consts_1 U_.vm h0 ∧ ∀ x_ ∈ ([s9] : List Addr), Safe Z consts_1 U_.vm h0 x_) (fun _ _ _ _ _ => True) (fun _ U_ o_ U1_ => ∃ v_ L_, o_ = .returned v_ ∧ QCv0 Z s9 ca kc h0 n0 v_ U1_.heap L_ ∧ CHr Z consts_1 U_.vm U_.heap U1_.vm U1_.heap ∧ ReturnedEndW U_ o_ U1_ L_ rRrmCv0.cells rRrmCv0.slots) := by
  refine MetFree.of_bodySF pn_rmCv0 hisR ?_
  intro p e s m args below meth c s₁ Bd hml0 hP hK
  obtain ⟨rfl, hZ, hh, hCH, hSf⟩ := hP
  have hx := Bd.exec
  have hby := Bd.bytes
  have hlk : meth.locks = false := Bd.notSynchronized
  have hml : c.maxLocals = 6 := hml0
  have hown : s.vm.findClass "java/lang/String" = some m.cls := findClass_of_methodNamed Bd.named
  have hnm := (name_of_methodNamed Bd.named Bd.method).1
  have X0 : Stand p l e rRrmCv0 (s.setVm s.vm) m #[(.ref s9), (.ref ca), (.int (0 : Int32)), (.int (0 : Int32)), .null] below meth c s₁ [] 0 0 := Stand.of_body Bd
  have e0 : s₁.heap = h0 := by rw [← hh, Bd.state]; rfl
  have N0 := Fr.nil n0
  have hS0 : s.Since s.vm n0 := (State.WarmedH.refl s).since n0
  have wS : ∀ d ∈ Bundle.stringAtoms, d.before a0 Z = true := by
    intro d hd
    simp only [Bundle.stringAtoms, List.mem_cons, List.not_mem_nil, or_false] at hd
    rcases hd with rfl | rfl | rfl | rfl | rfl | rfl | rfl
    · exact (own_w hw 11 rfl)
    · exact (own_w hw 10 rfl)
    · exact (own_w hw 24 rfl)
    · exact (own_w hw 25 rfl)
    · exact (own_w hw 26 rfl)
    · exact (own_w hw 27 rfl)
    · exact (own_w hw 28 rfl)
  have C0 := CHr.refl hCH
  have sf_s9 := hSf s9 (List.mem_of_getElem? (i := 0) rfl)
  show own_GoesH p e below s Z consts_1 (QCv0 Z s9 ca kc h0 n0) rRrmCv0.cells rRrmCv0.slots s₁ (entryFrame m #[(.ref s9), (.ref ca), (.int (0 : Int32)), (.int (0 : Int32)), .null] 6)
  rw [ef_rmCv0 m s9 ca]
  show own_GoesH p e below s Z consts_1 (QCv0 Z s9 ca kc h0 n0) rRrmCv0.cells rRrmCv0.slots s₁ (mkF m 0 #[rv s9, rv ca, iv (0 : Int32), iv (0 : Int32), .val .null, .unset] [])
  refine own_stH (fun _ kk_ => XS.aloadN X0.here hx rfl (hb hby d4_0) rfl rfl kk_) ?_
  show own_GoesH _ _ _ _ _ _ _ _ _ s₁ (mkF m 1 #[rv s9, rv ca, iv (0 : Int32), iv (0 : Int32), .val .null, .unset] [(.ref s9)])
  obtain ⟨T1, X1, e1, st1⟩ := initO X0 hx hZ hown (own_w hw 20 rfl) (own_w hw 21 rfl) (own_w hw 22 rfl) e0 (g := (mkF m 1 #[rv s9, rv ca, iv (0 : Int32), iv (0 : Int32), .val .null, .unset] [(.ref s9)])) rfl (by rw [hml]; rfl) rfl (hb hby d4_1) (by decide) (W := 0) (by show 2 * 0 + _ ≤ _; exact Nat.le_of_eq rfl) (by decide)
  refine own_stH st1 ?_
  show own_GoesH _ _ _ _ _ _ _ _ _ T1 (mkF m 4 #[rv s9, rv ca, iv (0 : Int32), iv (0 : Int32), .val .null, .unset] [])
  refine own_stH (fun _ kk_ => XS.iloadN X1.here hx rfl (hb hby d4_4) rfl (XS.ifNo X1.here hx rfl (hb hby d4_5) rfl (XT.i0_ne_f (by decide)) (XS.aloadN X1.here hx rfl (hb hby d4_8) rfl rfl kk_))) ?_
  show own_GoesH _ _ _ _ _ _ _ _ _ T1 (mkF m 9 #[rv s9, rv ca, iv (0 : Int32), iv (0 : Int32), .val .null, .unset] [(.ref s9)])
  obtain ⟨b2, T2, h2, k2, d2, kc2, X2, e2, E2, hS2, Ka2, hZ, hown, Ex2, Fc2, Fv2, Av2, -, -, hC2, -, hsa2, st2⟩ := ldcCH X1 hx hZ hown (own_w hw 23 rfl) wS e1 hS0 Z0 hEL (List.mem_of_getElem? (i := 0) rfl) C0.1 (vs := []) (z := (0 : Int32)) ⟨by decide, by decide⟩ (by decide) (by decide) (g := (mkF m 9 #[rv s9, rv ca, iv (0 : Int32), iv (0 : Int32), .val .null, .unset] [(.ref s9)])) rfl (hb hby d4_9) (n := 0) (by decide) (by decide) (by decide) (by decide)
  have f2_0 := p_0.ext E2
  have f2_1 := p_1.ext E2
  have f2_2 := p_2.ext E2
  have f2_3 := p_4.ext E2
  have f2_4 := CHr.safe hC2 p_0.lt sf_s9
  have C2 := C0.trans hC2
  have Zs2 : n0 ≤ h2.size := Nat.le_trans Z0 E2.1
  have K2 := (Keep.refl h0 [s9]).ext E2
  have Ks2 := Nat.le_trans Z0 E2.1
  have nl2_s9 := hsa2 s9 f2_4
  have nl2_ca := hsa2 ca (Safe.arv hZ.alike f2_3 (by decide))
  refine own_stH st2 ?_
  show own_GoesH _ _ _ _ _ _ _ _ _ T2 (mkF m 11 #[rv s9, rv ca, iv (0 : Int32), iv (0 : Int32), .val .null, .unset] [(.ref b2), (.ref s9)])
  obtain ⟨T3, X3, e3, st3⟩ := getF X2 hx hZ hown (host := "") (Or.inl (own_w hw 29 rfl)) Via.refl e2 Fv2 (g := (mkF m 11 #[rv s9, rv ca, iv (0 : Int32), iv (0 : Int32), .val .null, .unset] [(.ref b2), (.ref s9)])) rfl rfl (hb hby d4_11)
  refine own_stH st3 ?_
  show own_GoesH _ _ _ _ _ _ _ _ _ T3 (mkF m 14 #[rv s9, rv ca, iv (0 : Int32), iv (0 : Int32), .val .null, .unset] [(.ref d2), (.ref s9)])
  obtain ⟨T4, h4, X4, e4, W4, st4⟩ := putF X3 hx hZ hown (host := "") (Or.inl (own_w hw 29 rfl)) Via.refl e3 f2_1 f2_0 (Or.inr ⟨(own_w hw 25 rfl), rfl, hnm⟩) (own_w hw 10 rfl) (ty := (.array .byte)) (by decide) rfl rfl (g := (mkF m 14 #[rv s9, rv ca, iv (0 : Int32), iv (0 : Int32), .val .null, .unset] [(.ref d2), (.ref s9)])) rfl rfl (hb hby d4_14)
  have fw4 : Fld Z h4 s9 "java/lang/String" "value" "[B" (.ref d2) := f2_1.same W4
  have f4_0 := f2_0.wr W4
  have f4_2 := f2_2.other W4 (Or.inr (slot_ne (Or.inr (own_w hw 26 rfl)) (Or.inr (own_w hw 25 rfl)) (by decide) (t := .byte) (t' := (.array .byte)) (by decide) (by decide)))
  have f4_4 := Safe.wr W4 f2_4 C2.1 f2_4
  have f4_5 := Ex2.wr W4
  have f4_6 := Fc2.other W4 (Or.inl (Ne.symm nl2_s9.1))
  have f4_7 := Fv2.other W4 (Or.inl (Ne.symm nl2_s9.1))
  have f4_8 := Av2.other W4 (Ne.symm nl2_s9.2)
  have C4 := C2.trans (CHr.wr W4 f2_4 C2.1)
  have Zs4 : n0 ≤ h4.size := Nat.le_trans Zs2 (Nat.le_of_eq W4.size.symm)
  have K4 := K2.wr W4 (Or.inl (List.mem_of_getElem? (i := 0) rfl))
  have Ks4 := Nat.le_trans Ka2 (Nat.le_of_eq W4.size.symm)
  have N4 := Fr.snoc X4 N0 p_3
  refine own_stH st4 ?_
  show own_GoesH _ _ _ _ _ _ _ _ _ T4 (mkF m 17 #[rv s9, rv ca, iv (0 : Int32), iv (0 : Int32), .val .null, .unset] [])
  refine own_stH (fun _ kk_ => XS.aloadN X4.here hx rfl (hb hby d4_17) rfl rfl kk_) ?_
  show own_GoesH _ _ _ _ _ _ _ _ _ T4 (mkF m 18 #[rv s9, rv ca, iv (0 : Int32), iv (0 : Int32), .val .null, .unset] [(.ref s9)])
  obtain ⟨b5, T5, h5, k5, d5, kc5, X5, e5, E5, hS5, Ka5, hZ, hown, Ex5, Fc5, Fv5, Av5, -, -, hC5, -, hsa5, st5⟩ := ldcCH X4 hx hZ hown (own_w hw 23 rfl) wS e4 hS2 Ks4 hEL (List.mem_of_getElem? (i := 0) rfl) C4.1 (vs := []) (z := (0 : Int32)) ⟨by decide, by decide⟩ (by decide) (by decide) (g := (mkF m 18 #[rv s9, rv ca, iv (0 : Int32), iv (0 : Int32), .val .null, .unset] [(.ref s9)])) rfl (hb hby d4_18) (n := 0) (by decide) (by decide) (by decide) (by decide)
  have f5_0 := f4_0.ext E5
  have f5_1 := f4_2.ext E5
  have f5_2 := CHr.safe hC5 f4_0.lt f4_4
  have f5_3 := f4_5.ext E5
  have f5_4 := f4_6.ext E5
  have f5_5 := f4_7.ext E5
  have f5_6 := f4_8.ext E5
  have f5_7 := fw4.ext E5
  have C5 := C4.trans hC5
  have Zs5 : n0 ≤ h5.size := Nat.le_trans Zs4 E5.1
  have K5 := K4.ext E5
  have Ks5 := Nat.le_trans Ks4 E5.1
  have nl5_s9 := hsa5 s9 f5_2
  refine own_stH st5 ?_
  show own_GoesH _ _ _ _ _ _ _ _ _ T5 (mkF m 20 #[rv s9, rv ca, iv (0 : Int32), iv (0 : Int32), .val .null, .unset] [(.ref b5), (.ref s9)])
  obtain ⟨T6, X6, e6, st6⟩ := getF X5 hx hZ hown (host := "") (Or.inl (own_w hw 30 rfl)) Via.refl e5 Fc5 (g := (mkF m 20 #[rv s9, rv ca, iv (0 : Int32), iv (0 : Int32), .val .null, .unset] [(.ref b5), (.ref s9)])) rfl rfl (hb hby d4_20)
  refine own_stH st6 ?_
  show own_GoesH _ _ _ _ _ _ _ _ _ T6 (mkF m 23 #[rv s9, rv ca, iv (0 : Int32), iv (0 : Int32), .val .null, .unset] [(.int (0 : Int32)), (.ref s9)])
  obtain ⟨T7, h7, X7, e7, W7, st7⟩ := putFN X6 hx hZ hown (own_w hw 30 rfl) Via.refl e6 f5_1 f5_0 (Or.inr ⟨(own_w hw 26 rfl), rfl, hnm⟩) (own_w hw 10 rfl) (ty := .byte) (v' := (.int (nar .byte (0 : Int32)))) (by decide) rfl (fits_nar_byte _) (g := (mkF m 23 #[rv s9, rv ca, iv (0 : Int32), iv (0 : Int32), .val .null, .unset] [(.int (0 : Int32)), (.ref s9)])) rfl rfl (hb hby d4_23)
  have fw7 : Fld Z h7 s9 "java/lang/String" "coder" "B" (.int (nar .byte (0 : Int32))) := f5_1.same W7
  have f7_0 := f5_0.wr W7
  have f7_2 := Safe.wr W7 f5_2 C5.1 f5_2
  have f7_3 := f5_3.wr W7
  have f7_4 := f5_4.other W7 (Or.inl (Ne.symm nl2_s9.1))
  have f7_5 := f5_5.other W7 (Or.inl (Ne.symm nl2_s9.1))
  have f7_6 := f5_6.other W7 (Ne.symm nl2_s9.2)
  have f7_7 := f5_7.other W7 (Or.inr (slot_ne (Or.inr (own_w hw 25 rfl)) (Or.inr (own_w hw 26 rfl)) (by decide) (t := (.array .byte)) (t' := .byte) (by decide) (by decide)))
  have f7_8 := Ex5.wr W7
  have f7_9 := Fc5.other W7 (Or.inl (Ne.symm nl5_s9.1))
  have f7_10 := Fv5.other W7 (Or.inl (Ne.symm nl5_s9.1))
  have f7_11 := Av5.other W7 (Ne.symm nl5_s9.2)
  have C7 := C5.trans (CHr.wr W7 f5_2 C5.1)
  have Zs7 : n0 ≤ h7.size := Nat.le_trans Zs5 (Nat.le_of_eq W7.size.symm)
  have K7 := K5.wr W7 (Or.inl (List.mem_of_getElem? (i := 0) rfl))
  have Ks7 := Nat.le_trans Ka5 (Nat.le_of_eq W7.size.symm)
  have N7 := Fr.snoc X7 N4 p_3
  refine own_stH st7 ?_
  show own_GoesH _ _ _ _ _ _ _ _ _ T7 (mkF m 26 #[rv s9, rv ca, iv (0 : Int32), iv (0 : Int32), .val .null, .unset] [])
  refine own_endH (v := none) X7 hlk hS5 (by rw [e7]; exact Ks7) hZ hEL hh e7 C7 (fun _ => rfl) (by decide) (by decide) ?_ (fun fs hr => X7.returnOut hx Bd.returns (hb hby d4_26) hr)
  show QCv0 Z s9 ca kc h0 n0 none T7.heap _
  rw [e7]
  exact ⟨d2, kc2, rfl, N7, K7, fw7, f7_7, f7_6⟩
abbrev rRrmCs0 : Room := { frames := 2, cells := 4, slots := 8, locals := 29 }
theorem pn_rmCs0 : plainFor yy5 = true := by first | exact plainFor_of_name (by first | (simp [plainName, overriddenIn]; done) | decide +kernel) | decide +kernel
theorem ef_rmCs0 (m : MethodId) (s9 : Addr) (ca : Addr) : entryFrame m #[(.ref s9), (.ref ca)] 2 = (mkF m 0 #[rv s9, rv ca] []) := by first | (simp [entryFrame, mkF, argsToLocals, Value.category]; done) | rfl
def QCs0 (Z : State) (s9 : Addr) (ca : Addr) (kc : ClassId) (h0 : Heap) (n0 : Nat) (v_ : Option Value) (h_ : Heap) (L_ : List Loc) : Prop := ∃ d : Addr, ∃ kd : ClassId, (v_ = none) ∧ (Fr n0 L_) ∧ (Keep h0 h_ [s9]) ∧ (Fld Z h_ s9 "java/lang/String" "coder" "B" (.int (0 : Int32))) ∧ (Fld Z h_ s9 "java/lang/String" "value" "[B" (.ref d)) ∧ (Arv Z h_ d kd .byte (0 : Int32) [] (.int (0 : Int32)))
set_option maxRecDepth 65536 in
set_option maxHeartbeats 40000000 in
theorem rmCs0 (l : Launch) (Z : State) (a0 : Array Value) (hw : ∀ d ∈ tables_1, d.before a0 Z = true) (ws : List Jvm.Cond) (hEL : EW Z a0 consts_1) (s9 : Addr) (ca : Addr) (kc : ClassId) (h0 : Heap) (n0 : Nat) (Z0 : n0 ≤ h0.size) (p_0 : Exa Z h0 s9 "java/lang/String") (p_1 : Fld Z h0 s9 "java/lang/String" "value" "[B" .null) (p_2 : Fld Z h0 s9 "java/lang/String" "coder" "B" (.int (0 : Int32))) (p_3 : n0 ≤ s9) (p_4 : Arv Z h0 ca kc .char (0 : Int32) [] (.int (0 : Int32))) :
    MetFree l yy5 (head1 (Jvm.Cond.code yy5 jdk_42_method_3_code 2 none :: ws) rRrmCs0) (fun a_ U_ => a_ = #[(.ref s9), (.ref ca)] ∧ Z.Warmed39 U_.vm ∧ U_.heap = h0 ∧ CHv Z consts_1 U_.vm h0 ∧ ∀ x_ ∈ ([s9] : List Addr), Safe Z consts_1 U_.vm h0 x_) (fun _ _ _ _ _ => True) (fun _ U_ o_ U1_ => ∃ v_ L_, o_ = .returned v_ ∧ QCs0 Z s9 ca kc h0 n0 v_ U1_.heap L_ ∧ CHr Z consts_1 U_.vm U_.heap U1_.vm U1_.heap ∧ ReturnedEndW U_ o_ U1_ L_ rRrmCs0.cells rRrmCs0.slots) := by
  refine MetFree.of_bodySF pn_rmCs0 hisR ?_
  intro p e s m args below meth c s₁ Bd hml0 hP hK
  obtain ⟨rfl, hZ, hh, hCH, hSf⟩ := hP
  have hx := Bd.exec
  have hby := Bd.bytes
  have hlk : meth.locks = false := Bd.notSynchronized
  have hml : c.maxLocals = 2 := hml0
  have hown : s.vm.findClass "java/lang/String" = some m.cls := findClass_of_methodNamed Bd.named
  have hnm := (name_of_methodNamed Bd.named Bd.method).1
  have X0 : Stand p l e rRrmCs0 (s.setVm s.vm) m #[(.ref s9), (.ref ca)] below meth c s₁ [] 0 0 := Stand.of_body Bd
  have e0 : s₁.heap = h0 := by rw [← hh, Bd.state]; rfl
  have N0 := Fr.nil n0
  have hS0 : s.Since s.vm n0 := (State.WarmedH.refl s).since n0
  have wS : ∀ d ∈ Bundle.stringAtoms, d.before a0 Z = true := by
    intro d hd
    simp only [Bundle.stringAtoms, List.mem_cons, List.not_mem_nil, or_false] at hd
    rcases hd with rfl | rfl | rfl | rfl | rfl | rfl | rfl
    · exact (own_w hw 11 rfl)
    · exact (own_w hw 10 rfl)
    · exact (own_w hw 24 rfl)
    · exact (own_w hw 25 rfl)
    · exact (own_w hw 26 rfl)
    · exact (own_w hw 27 rfl)
    · exact (own_w hw 28 rfl)
  have C0 := CHr.refl hCH
  have sf_s9 := hSf s9 (List.mem_of_getElem? (i := 0) rfl)
  show own_GoesH p e below s Z consts_1 (QCs0 Z s9 ca kc h0 n0) rRrmCs0.cells rRrmCs0.slots s₁ (entryFrame m #[(.ref s9), (.ref ca)] 2)
  rw [ef_rmCs0 m s9 ca]
  show own_GoesH p e below s Z consts_1 (QCs0 Z s9 ca kc h0 n0) rRrmCs0.cells rRrmCs0.slots s₁ (mkF m 0 #[rv s9, rv ca] [])
  refine own_stH (fun _ kk_ => XS.aloadN X0.here hx rfl (hb hby d3_0) rfl rfl (XS.aloadN X0.here hx rfl (hb hby d3_1) rfl rfl (XS.iconst X0.here hx rfl (hb hby d3_2) (XS.aloadN X0.here hx rfl (hb hby d3_3) rfl rfl kk_)))) ?_
  show own_GoesH _ _ _ _ _ _ _ _ _ s₁ (mkF m 4 #[rv s9, rv ca] [(.ref ca), (.int (0 : Int32)), (.ref ca), (.ref s9)])
  obtain ⟨cl1, Ar1, -, Sz1, Nn1, -, -⟩ := id p_4
  refine own_stH (fun _ kk_ => X0.arraylength hx (by rw [e0]; exact Ar1.1) (State.isArrayOf_alike hZ.alike Ar1.2.1) (g := (mkF m 4 #[rv s9, rv ca] [(.ref ca), (.int (0 : Int32)), (.ref ca), (.ref s9)])) rfl rfl (hb hby d3_4) _ kk_) ?_
  rw [len_of Sz1 Nn1]
  show own_GoesH _ _ _ _ _ _ _ _ _ s₁ (mkF m 5 #[rv s9, rv ca] [(.int (0 : Int32)), (.int (0 : Int32)), (.ref ca), (.ref s9)])
  refine own_stH (fun _ kk_ => XS.aconstNull X0.here hx rfl (hb hby d3_5) kk_) ?_
  show own_GoesH _ _ _ _ _ _ _ _ _ s₁ (mkF m 6 #[rv s9, rv ca] [.null, (.int (0 : Int32)), (.int (0 : Int32)), (.ref ca), (.ref s9)])
  obtain ⟨_, _, ⟨T2, L2, k2, n2⟩, -, X2, hSn2, hgn2, ⟨Lc2, hQ2, l2, y2, z2, hC2⟩, st2⟩ := X0.specialBackS hx (y := yy4) rfl hown (mvT hZ (own_w hw 16 rfl)) (mvT hZ (own_w hw 17 rfl)) (mvT hZ (own_w hw 19 rfl)) (by decide) (own_backH (sl := [s9]) (W := 0) (rmCv0 l Z a0 hw [] hEL (s9) (ca) (kc) h0 n0 Z0 p_0 p_1 p_2 p_3 p_4) hZ (own_w hw 19 rfl) (own_w hw 11 rfl) (by decide) (by decide) hEL C0.1 (own_ss p_0.lt sf_s9 own_sn)) (g := (mkF m 6 #[rv s9, rv ca] [.null, (.int (0 : Int32)), (.int (0 : Int32)), (.ref ca), (.ref s9)])) rfl (by rw [hml]; rfl) (Steps.refl _) (a := s9) (argsL := [(.ref ca), (.int (0 : Int32)), (.int (0 : Int32)), .null]) (rest := []) (lenOf pd_3 rfl) rfl (by show 2 * 0 + _ ≤ _; exact Nat.le_of_eq rfl) (hb hby d3_6) (fun _ _ => ⟨rfl, e0, (by decide : 0 + 4 ≤ _), (by decide : 0 + 8 ≤ _)⟩)
  dsimp only [Pt.U, Pt.locs, Pt.cells, Pt.slots] at X2 l2 y2 z2 st2 hQ2 hSn2 hgn2 hC2
  subst l2 y2 z2
  have X2 : Stand p l e rRrmCs0 (s.setVm T2.vm) m _ below meth c T2 _ _ _ := X2
  have hS2 := foldS hS0 (by rw [e0]; exact Z0) hSn2 hgn2
  have hown : (s.setVm T2.vm).vm.findClass "java/lang/String" = some m.cls := by rw [show (s.setVm T2.vm).vm = T2.vm from rfl, hSn2.1.alike.findClass]; exact hown
  obtain ⟨x2_d, x2_kd, rfl, Nq2, Kq2, u2_0, u2_1, u2_2⟩ := hQ2
  have N2 := Fr.app N0 Nq2
  have hZ : Z.Warmed39 (s.setVm T2.vm).vm := State.Warmed39.trans (t := (s.setVm s.vm)) hZ hSn2.1
  have f2_0 := p_0.keep Kq2
  have f2_4 := CHr.safe hC2 p_0.lt sf_s9
  have C2 := C0.trans hC2
  have Ks2 := Nat.le_trans Z0 Kq2.1
  have Zs2 : n0 ≤ T2.heap.size := Nat.le_trans Z0 Kq2.1
  have K2 := (Keep.refl h0 [s9]).trans Kq2 (allS (Or.inl (List.mem_of_getElem? (i := 0) rfl)) all0)
  refine own_stH (fun _ kk_ => st2.trans kk_) ?_
  show own_GoesH _ _ _ _ _ _ _ _ _ T2 (mkF m 9 #[rv s9, rv ca] [])
  refine own_endH (v := none) X2 hlk hS2 (Nat.le_refl T2.heap.size) hZ hEL hh rfl C2 (fun _ => rfl) (by decide) (by decide) ?_ (fun fs hr => X2.returnOut hx Bd.returns (hb hby d3_9) hr)
  show QCs0 Z s9 ca kc h0 n0 none T2.heap _
  exact ⟨x2_d, x2_kd, rfl, N2, K2, u2_0, u2_1, u2_2⟩
theorem own_ce {c : Int32} (h : own_in c) : ¬ (255 : Int32) < c := by
  unfold own_in at h; simp only [Int32.lt_iff_toInt_lt, Int32.reduceToInt]; omega
abbrev rRrm13 : Room := { frames := 0, cells := 0, slots := 0, locals := 0 }
theorem d13_0 : decode jdk_43_method_3_code 0 = .ok (.iload_n 0, 1) := by decide +kernel
theorem d13_1 : decode jdk_43_method_3_code 1 = .ok (.sipush 255, 3) := by decide +kernel
theorem d13_4 : decode jdk_43_method_3_code 4 = .ok (.if_icmp .gt 7, 3) := by decide +kernel
theorem d13_7 : decode jdk_43_method_3_code 7 = .ok (.iconst 1, 1) := by decide +kernel
theorem d13_8 : decode jdk_43_method_3_code 8 = .ok (.goto 4, 3) := by decide +kernel
theorem d13_12 : decode jdk_43_method_3_code 12 = .ok (.ireturn, 1) := by decide +kernel
theorem pn_rm13 : plainFor yy6 = true := by first | exact plainFor_of_name (by first | (simp [plainName, overriddenIn]; done) | decide +kernel) | decide +kernel
theorem ef_rm13 (m : MethodId) (c0 : Int32) : entryFrame m #[(.int c0)] 1 = (mkF m 0 #[iv c0] []) := by first | (simp [entryFrame, mkF, argsToLocals, Value.category]; done) | rfl
def Q13 (Z : State) (c0 : Int32) (h0 : Heap) (n0 : Nat) (v_ : Option Value) (h_ : Heap) (L_ : List Loc) : Prop := (v_ = some (.int (1 : Int32))) ∧ (Fr n0 L_) ∧ (h_ = h0)
set_option maxRecDepth 65536 in
set_option maxHeartbeats 40000000 in
theorem rm13 (l : Launch) (Z : State) (a0 : Array Value) (hw : ∀ d ∈ tables_1, d.before a0 Z = true) (ws : List Jvm.Cond) (c0 : Int32) (h0 : Heap) (n0 : Nat) (Z0 : n0 ≤ h0.size) (hi0 : own_in c0) :
    MetFree l yy6 (head1 (Jvm.Cond.code yy6 jdk_43_method_3_code 1 (some .boolean) :: ws) rRrm13) (fun a_ U_ => a_ = #[(.int c0)] ∧ Z.Warmed39 U_.vm ∧ U_.heap = h0) (fun _ _ _ _ _ => True) (fun _ U_ o_ U1_ => ∃ v_ L_, o_ = .returned v_ ∧ Q13 Z c0 h0 n0 v_ U1_.heap L_ ∧ FrameEnd U_ o_ U1_ L_ rRrm13.cells rRrm13.slots) := by
  refine MetFree.of_bodySF pn_rm13 hisR ?_
  intro p e s m args below meth c s₁ Bd hml0 hP hK
  obtain ⟨rfl, hZ, hh⟩ := hP
  have hx := Bd.exec
  have hby := Bd.bytes
  have hlk : meth.locks = false := Bd.notSynchronized
  have hml : c.maxLocals = 1 := hml0
  have hown : s.vm.findClass "java/lang/StringLatin1" = some m.cls := findClass_of_methodNamed Bd.named
  have hnm := (name_of_methodNamed Bd.named Bd.method).1
  have X0 : Stand p l e rRrm13 s m #[(.int c0)] below meth c s₁ [] 0 0 := Stand.of_body Bd
  have e0 : s₁.heap = h0 := by rw [← hh, Bd.state]; rfl
  have N0 := Fr.nil n0
  show own_Goes p e below s (Q13 Z c0 h0 n0) rRrm13.cells rRrm13.slots s₁ (entryFrame m #[(.int c0)] 1)
  rw [ef_rm13 m c0]
  show own_Goes p e below s (Q13 Z c0 h0 n0) rRrm13.cells rRrm13.slots s₁ (mkF m 0 #[iv c0] [])
  refine own_st (fun _ kk_ => XS.iloadN X0.here hx rfl (hb hby d13_0) rfl (XS.sipush X0.here hx rfl (hb hby d13_1) (XS.icmpNo X0.here hx rfl (hb hby d13_4) rfl (XT.ii_gt_f (own_ce hi0)) (XS.iconst X0.here hx rfl (hb hby d13_7) (XS.goto X0.here hx rfl (pc0 := 8) (pc' := 12) rfl (hb hby d13_8) (by decide) (by decide) kk_))))) ?_
  show own_Goes _ _ _ _ _ _ _ s₁ (mkF m 12 #[iv c0] [(.int (1 : Int32))])
  refine own_retN X0 hx hlk (t := .boolean) Bd.returns (by simp) (hb hby d13_12) (by decide) (by decide) ?_
  show Q13 Z c0 h0 n0 (some (.int (nar .boolean (1 : Int32)))) s₁.heap _
  rw [e0]
  exact ⟨rfl, N0, rfl⟩
abbrev rRrm14 : Room := { frames := 0, cells := 1, slots := 1, locals := 0 }
theorem d14_0 : decode jdk_43_method_46_code 0 = .ok (.iconst 1, 1) := by decide +kernel
theorem d14_1 : decode jdk_43_method_46_code 1 = .ok (.newarray .byte, 2) := by decide +kernel
theorem d14_3 : decode jdk_43_method_46_code 3 = .ok (.dup, 1) := by decide +kernel
theorem d14_4 : decode jdk_43_method_46_code 4 = .ok (.iconst 0, 1) := by decide +kernel
theorem d14_5 : decode jdk_43_method_46_code 5 = .ok (.iload_n 0, 1) := by decide +kernel
theorem d14_6 : decode jdk_43_method_46_code 6 = .ok (.i2b, 1) := by decide +kernel
theorem d14_7 : decode jdk_43_method_46_code 7 = .ok (.bastore, 1) := by decide +kernel
theorem d14_8 : decode jdk_43_method_46_code 8 = .ok (.areturn, 1) := by decide +kernel
theorem pn_rm14 : plainFor yy7 = true := by first | exact plainFor_of_name (by first | (simp [plainName, overriddenIn]; done) | decide +kernel) | decide +kernel
theorem ef_rm14 (m : MethodId) (c0 : Int32) : entryFrame m #[(.int c0)] 1 = (mkF m 0 #[iv c0] []) := by first | (simp [entryFrame, mkF, argsToLocals, Value.category]; done) | rfl
def Q14 (Z : State) (c0 : Int32) (h0 : Heap) (n0 : Nat) (v_ : Option Value) (h_ : Heap) (L_ : List Loc) : Prop := ∃ d : Addr, ∃ kd : ClassId, (v_ = some (.ref d)) ∧ (Fr n0 L_) ∧ (Keep h0 h_ []) ∧ (h0.size ≤ d) ∧ (Arv Z h_ d kd .byte (1 : Int32) [(.int (own_by c0))] (.int (0 : Int32)))
set_option maxRecDepth 65536 in
set_option maxHeartbeats 40000000 in
theorem rm14 (l : Launch) (Z : State) (a0 : Array Value) (hw : ∀ d ∈ tables_1, d.before a0 Z = true) (ws : List Jvm.Cond) (c0 : Int32) (h0 : Heap) (n0 : Nat) (Z0 : n0 ≤ h0.size) :
    MetFree l yy7 (head1 (Jvm.Cond.code yy7 jdk_43_method_46_code 1 (some (.array .byte)) :: ws) rRrm14) (fun a_ U_ => a_ = #[(.int c0)] ∧ Z.Warmed39 U_.vm ∧ U_.heap = h0) (fun _ _ _ _ _ => True) (fun _ U_ o_ U1_ => ∃ v_ L_, o_ = .returned v_ ∧ Q14 Z c0 h0 n0 v_ U1_.heap L_ ∧ FrameEnd U_ o_ U1_ L_ rRrm14.cells rRrm14.slots) := by
  refine MetFree.of_bodySF pn_rm14 hisR ?_
  intro p e s m args below meth c s₁ Bd hml0 hP hK
  obtain ⟨rfl, hZ, hh⟩ := hP
  have hx := Bd.exec
  have hby := Bd.bytes
  have hlk : meth.locks = false := Bd.notSynchronized
  have hml : c.maxLocals = 1 := hml0
  have hown : s.vm.findClass "java/lang/StringLatin1" = some m.cls := findClass_of_methodNamed Bd.named
  have hnm := (name_of_methodNamed Bd.named Bd.method).1
  have X0 : Stand p l e rRrm14 s m #[(.int c0)] below meth c s₁ [] 0 0 := Stand.of_body Bd
  have e0 : s₁.heap = h0 := by rw [← hh, Bd.state]; rfl
  have N0 := Fr.nil n0
  show own_Goes p e below s (Q14 Z c0 h0 n0) rRrm14.cells rRrm14.slots s₁ (entryFrame m #[(.int c0)] 1)
  rw [ef_rm14 m c0]
  show own_Goes p e below s (Q14 Z c0 h0 n0) rRrm14.cells rRrm14.slots s₁ (mkF m 0 #[iv c0] [])
  refine own_st (fun _ kk_ => XS.iconst X0.here hx rfl (hb hby d14_0) kk_) ?_
  show own_Goes _ _ _ _ _ _ _ s₁ (mkF m 1 #[iv c0] [(.int (1 : Int32))])
  obtain ⟨T1, h1, k1, X1, e1, E1, A1, st1⟩ := newP X0 hx hZ (own_w hw 24 rfl) e0 (g := (mkF m 1 #[iv c0] [(.int (1 : Int32))])) rfl (hb hby d14_1) rfl (by decide) (cap := 1) (by decide) (by decide) (by decide) (by decide)
  obtain ⟨b1, gx1⟩ : ∃ z, z = h0.size := ⟨_, rfl⟩
  rw [← gx1] at A1 st1
  have gg1 : n0 ≤ b1 := Nat.le_trans Z0 (Nat.le_of_eq gx1.symm)
  have sz1 : h0.size ≤ b1 := Nat.le_trans (Keep.refl h0 []).1 (Nat.le_of_eq gx1.symm)
  have Zs1 : n0 ≤ h1.size := Nat.le_trans Z0 E1.1
  have K1 := (Keep.refl h0 []).ext E1
  have V1 : Arv Z h1 b1 k1 .byte (1 : Int32) [(.int (0 : Int32))] (.int (0 : Int32)) := (Arv.new A1 (by decide)).pad (pad_rep [] (.int (0 : Int32)) 1)
  refine own_st st1 ?_
  show own_Goes _ _ _ _ _ _ _ T1 (mkF m 3 #[iv c0] [(.ref b1)])
  refine own_st (fun _ kk_ => XS.dup X1.here hx rfl (hb hby d14_3) rfl rfl (XS.iconst X1.here hx rfl (hb hby d14_4) (XS.iloadN X1.here hx rfl (hb hby d14_5) rfl (XS.i2b X1.here hx rfl (hb hby d14_6) rfl kk_)))) ?_
  show own_Goes _ _ _ _ _ _ _ T1 (mkF m 7 #[iv c0] [(.int (c0.toInt8.toInt32)), (.int (0 : Int32)), (.ref b1), (.ref b1)])
  obtain ⟨cl2, Ar2, q2, Sz2, Nn2, Hh2, Gg2⟩ := id V1
  obtain ⟨T2, h2, X2, e2, W2, st2⟩ := stB X1 hx hZ e1 Ar2 (j := (0 : Int32)) (inb_of Sz2 ⟨by decide, by decide⟩) (g := (mkF m 7 #[iv c0] [(.int (c0.toInt8.toInt32)), (.int (0 : Int32)), (.ref b1), (.ref b1)])) rfl rfl (hb hby d14_7)
  have V2 : Arv Z h2 b1 k1 .byte (1 : Int32) [(.int (nar .byte (c0.toInt8.toInt32)))] (.int (0 : Int32)) := Arv.set Ar2 q2 Sz2 Nn2 Hh2 Gg2 (fits_nar_byte _) W2 0 rfl (Nat.le_of_ble_eq_true rfl)
  have Zs2 : n0 ≤ h2.size := Nat.le_trans Zs1 (Nat.le_of_eq W2.size.symm)
  have K2 := K1.wr W2 (Or.inr sz1)
  have N2 := Fr.snoc X2 N0 gg1
  refine own_st st2 ?_
  show own_Goes _ _ _ _ _ _ _ T2 (mkF m 8 #[iv c0] [(.ref b1)])
  refine own_retA X2 hx hlk rfl Bd.returns rfl (hb hby d14_8) (by decide) (by decide) ?_
  show Q14 Z c0 h0 n0 (some (.ref b1)) T2.heap _
  rw [e2]
  exact ⟨b1, k1, rfl, N2, K2, sz1, (by have z := V2; rw [show nar .byte (c0.toInt8.toInt32) = own_by c0 from own_narb c0] at z; exact z)⟩
abbrev rRrm15 : Room := { frames := 1, cells := 0, slots := 0, locals := 12 }
theorem d15_0 : decode jdk_42_method_151_code 0 = .ok (.aload_n 0, 1) := by decide +kernel
theorem d15_1 : decode jdk_42_method_151_code 1 = .ok (.invokespecial 1, 3) := by decide +kernel
theorem d15_4 : decode jdk_42_method_151_code 4 = .ok (.aload_n 0, 1) := by decide +kernel
theorem d15_5 : decode jdk_42_method_151_code 5 = .ok (.aload_n 1, 1) := by decide +kernel
theorem d15_6 : decode jdk_42_method_151_code 6 = .ok (.putfield 9, 3) := by decide +kernel
theorem d15_9 : decode jdk_42_method_151_code 9 = .ok (.aload_n 0, 1) := by decide +kernel
theorem d15_10 : decode jdk_42_method_151_code 10 = .ok (.iload_n 2, 1) := by decide +kernel
theorem d15_11 : decode jdk_42_method_151_code 11 = .ok (.putfield 15, 3) := by decide +kernel
theorem d15_14 : decode jdk_42_method_151_code 14 = .ok (.return_, 1) := by decide +kernel
theorem pn_rm15 : plainFor yy8 = true := by first | exact plainFor_of_name (by first | (simp [plainName, overriddenIn]; done) | decide +kernel) | decide +kernel
theorem ef_rm15 (m : MethodId) (s9 : Addr) (d : Addr) : entryFrame m #[(.ref s9), (.ref d), (.int (0 : Int32))] 3 = (mkF m 0 #[rv s9, rv d, iv (0 : Int32)] []) := by first | (simp [entryFrame, mkF, argsToLocals, Value.category]; done) | rfl
def Q15 (Z : State) (s9 : Addr) (d : Addr) (h0 : Heap) (n0 : Nat) (v_ : Option Value) (h_ : Heap) (L_ : List Loc) : Prop := (v_ = none) ∧ (Fr n0 L_) ∧ (Keep h0 h_ [s9]) ∧ (Fld Z h_ s9 "java/lang/String" "coder" "B" (.int (0 : Int32))) ∧ (Fld Z h_ s9 "java/lang/String" "value" "[B" (.ref d))
set_option maxRecDepth 65536 in
set_option maxHeartbeats 40000000 in
theorem rm15 (l : Launch) (Z : State) (a0 : Array Value) (hw : ∀ d ∈ tables_1, d.before a0 Z = true) (ws : List Jvm.Cond) (s9 : Addr) (d : Addr) (h0 : Heap) (n0 : Nat) (Z0 : n0 ≤ h0.size) (p_0 : Exa Z h0 s9 "java/lang/String") (p_1 : Fld Z h0 s9 "java/lang/String" "value" "[B" .null) (p_2 : Fld Z h0 s9 "java/lang/String" "coder" "B" (.int (0 : Int32))) (p_3 : n0 ≤ s9) :
    MetFree l yy8 (head1 (Jvm.Cond.code yy8 jdk_42_method_151_code 3 none :: ws) rRrm15) (fun a_ U_ => a_ = #[(.ref s9), (.ref d), (.int (0 : Int32))] ∧ Z.Warmed39 U_.vm ∧ U_.heap = h0) (fun _ _ _ _ _ => True) (fun _ U_ o_ U1_ => ∃ v_ L_, o_ = .returned v_ ∧ Q15 Z s9 d h0 n0 v_ U1_.heap L_ ∧ FrameEnd U_ o_ U1_ L_ rRrm15.cells rRrm15.slots) := by
  refine MetFree.of_bodySF pn_rm15 hisR ?_
  intro p e s m args below meth c s₁ Bd hml0 hP hK
  obtain ⟨rfl, hZ, hh⟩ := hP
  have hx := Bd.exec
  have hby := Bd.bytes
  have hlk : meth.locks = false := Bd.notSynchronized
  have hml : c.maxLocals = 3 := hml0
  have hown : s.vm.findClass "java/lang/String" = some m.cls := findClass_of_methodNamed Bd.named
  have hnm := (name_of_methodNamed Bd.named Bd.method).1
  have X0 : Stand p l e rRrm15 s m #[(.ref s9), (.ref d), (.int (0 : Int32))] below meth c s₁ [] 0 0 := Stand.of_body Bd
  have e0 : s₁.heap = h0 := by rw [← hh, Bd.state]; rfl
  have N0 := Fr.nil n0
  show own_Goes p e below s (Q15 Z s9 d h0 n0) rRrm15.cells rRrm15.slots s₁ (entryFrame m #[(.ref s9), (.ref d), (.int (0 : Int32))] 3)
  rw [ef_rm15 m s9 d]
  show own_Goes p e below s (Q15 Z s9 d h0 n0) rRrm15.cells rRrm15.slots s₁ (mkF m 0 #[rv s9, rv d, iv (0 : Int32)] [])
  refine own_st (fun _ kk_ => XS.aloadN X0.here hx rfl (hb hby d15_0) rfl rfl kk_) ?_
  show own_Goes _ _ _ _ _ _ _ s₁ (mkF m 1 #[rv s9, rv d, iv (0 : Int32)] [(.ref s9)])
  obtain ⟨T1, X1, e1, st1⟩ := initO X0 hx hZ hown (own_w hw 20 rfl) (own_w hw 21 rfl) (own_w hw 22 rfl) e0 (g := (mkF m 1 #[rv s9, rv d, iv (0 : Int32)] [(.ref s9)])) rfl (by rw [hml]; rfl) rfl (hb hby d15_1) (by decide) (W := 0) (by show 2 * 0 + _ ≤ _; exact Nat.le_of_eq rfl) (by decide)
  refine own_st st1 ?_
  show own_Goes _ _ _ _ _ _ _ T1 (mkF m 4 #[rv s9, rv d, iv (0 : Int32)] [])
  refine own_st (fun _ kk_ => XS.aloadN X1.here hx rfl (hb hby d15_4) rfl rfl (XS.aloadN X1.here hx rfl (hb hby d15_5) rfl rfl kk_)) ?_
  show own_Goes _ _ _ _ _ _ _ T1 (mkF m 6 #[rv s9, rv d, iv (0 : Int32)] [(.ref d), (.ref s9)])
  obtain ⟨T2, h2, X2, e2, W2, st2⟩ := putF X1 hx hZ hown (host := "") (Or.inl (own_w hw 29 rfl)) Via.refl e1 p_1 p_0 (Or.inr ⟨(own_w hw 25 rfl), rfl, hnm⟩) (own_w hw 10 rfl) (ty := (.array .byte)) (by decide) rfl rfl (g := (mkF m 6 #[rv s9, rv d, iv (0 : Int32)] [(.ref d), (.ref s9)])) rfl rfl (hb hby d15_6)
  have fw2 : Fld Z h2 s9 "java/lang/String" "value" "[B" (.ref d) := p_1.same W2
  have f2_0 := p_0.wr W2
  have f2_2 := p_2.other W2 (Or.inr (slot_ne (Or.inr (own_w hw 26 rfl)) (Or.inr (own_w hw 25 rfl)) (by decide) (t := .byte) (t' := (.array .byte)) (by decide) (by decide)))
  have Zs2 : n0 ≤ h2.size := Nat.le_trans Z0 (Nat.le_of_eq W2.size.symm)
  have K2 := (Keep.refl h0 [s9]).wr W2 (Or.inl (List.mem_of_getElem? (i := 0) rfl))
  have N2 := Fr.snoc X2 N0 p_3
  refine own_st st2 ?_
  show own_Goes _ _ _ _ _ _ _ T2 (mkF m 9 #[rv s9, rv d, iv (0 : Int32)] [])
  refine own_st (fun _ kk_ => XS.aloadN X2.here hx rfl (hb hby d15_9) rfl rfl (XS.iloadN X2.here hx rfl (hb hby d15_10) rfl kk_)) ?_
  show own_Goes _ _ _ _ _ _ _ T2 (mkF m 11 #[rv s9, rv d, iv (0 : Int32)] [(.int (0 : Int32)), (.ref s9)])
  obtain ⟨T3, h3, X3, e3, W3, st3⟩ := putFN X2 hx hZ hown (own_w hw 30 rfl) Via.refl e2 f2_2 f2_0 (Or.inr ⟨(own_w hw 26 rfl), rfl, hnm⟩) (own_w hw 10 rfl) (ty := .byte) (v' := (.int (nar .byte (0 : Int32)))) (by decide) rfl (fits_nar_byte _) (g := (mkF m 11 #[rv s9, rv d, iv (0 : Int32)] [(.int (0 : Int32)), (.ref s9)])) rfl rfl (hb hby d15_11)
  have fw3 : Fld Z h3 s9 "java/lang/String" "coder" "B" (.int (nar .byte (0 : Int32))) := f2_2.same W3
  have f3_0 := f2_0.wr W3
  have f3_2 := fw2.other W3 (Or.inr (slot_ne (Or.inr (own_w hw 25 rfl)) (Or.inr (own_w hw 26 rfl)) (by decide) (t := (.array .byte)) (t' := .byte) (by decide) (by decide)))
  have Zs3 : n0 ≤ h3.size := Nat.le_trans Zs2 (Nat.le_of_eq W3.size.symm)
  have K3 := K2.wr W3 (Or.inl (List.mem_of_getElem? (i := 0) rfl))
  have N3 := Fr.snoc X3 N2 p_3
  refine own_st st3 ?_
  show own_Goes _ _ _ _ _ _ _ T3 (mkF m 14 #[rv s9, rv d, iv (0 : Int32)] [])
  refine own_ret0 X3 hx hlk Bd.returns (hb hby d15_14) (by decide) (by decide) ?_
  show Q15 Z s9 d h0 n0 none T3.heap _
  rw [e3]
  exact ⟨rfl, N3, K3, fw3, f3_2⟩
abbrev rRrm12 : Room := { frames := 2, cells := 2, slots := 5, locals := 27 }
theorem d12_0 : decode jdk_42_method_139_code 0 = .ok (.getstatic 38, 3) := by decide +kernel
theorem d12_3 : decode jdk_42_method_139_code 3 = .ok (.ifCond .eq 23, 3) := by decide +kernel
theorem d12_6 : decode jdk_42_method_139_code 6 = .ok (.iload_n 0, 1) := by decide +kernel
theorem d12_7 : decode jdk_42_method_139_code 7 = .ok (.invokestatic 1015, 3) := by decide +kernel
theorem d12_10 : decode jdk_42_method_139_code 10 = .ok (.ifCond .eq 16, 3) := by decide +kernel
theorem d12_13 : decode jdk_42_method_139_code 13 = .ok (.new 10, 3) := by decide +kernel
theorem d12_16 : decode jdk_42_method_139_code 16 = .ok (.dup, 1) := by decide +kernel
theorem d12_17 : decode jdk_42_method_139_code 17 = .ok (.iload_n 0, 1) := by decide +kernel
theorem d12_18 : decode jdk_42_method_139_code 18 = .ok (.invokestatic 1018, 3) := by decide +kernel
theorem d12_21 : decode jdk_42_method_139_code 21 = .ok (.iconst 0, 1) := by decide +kernel
theorem d12_22 : decode jdk_42_method_139_code 22 = .ok (.invokespecial 209, 3) := by decide +kernel
theorem d12_25 : decode jdk_42_method_139_code 25 = .ok (.areturn, 1) := by decide +kernel
theorem pd_4 : parseMethodDescriptor "(C)Z" = some ⟨[.char], some .boolean⟩ := by decide +kernel
theorem pd_5 : parseMethodDescriptor "(C)[B" = some ⟨[.char], some (.array .byte)⟩ := by decide +kernel
theorem pd_6 : parseMethodDescriptor "([BB)V" = some ⟨[(.array .byte), .byte], none⟩ := by decide +kernel
theorem pn_rm12 : plainFor yy9 = true := by first | exact plainFor_of_name (by first | (simp [plainName, overriddenIn]; done) | decide +kernel) | decide +kernel
theorem ef_rm12 (m : MethodId) (c0 : Int32) : entryFrame m #[(.int c0)] 1 = (mkF m 0 #[iv c0] []) := by first | (simp [entryFrame, mkF, argsToLocals, Value.category]; done) | rfl
def Q12 (Z : State) (c0 : Int32) (cs : Int32) (h0 : Heap) (n0 : Nat) (v_ : Option Value) (h_ : Heap) (L_ : List Loc) : Prop := ∃ y : Addr, ∃ d : Addr, ∃ kd : ClassId, (v_ = some (.ref y)) ∧ (Fr n0 L_) ∧ (Keep h0 h_ []) ∧ (h0.size ≤ y) ∧ (Exa Z h_ y "java/lang/String") ∧ (Fld Z h_ y "java/lang/String" "coder" "B" (.int (0 : Int32))) ∧ (Fld Z h_ y "java/lang/String" "value" "[B" (.ref d)) ∧ (Arv Z h_ d kd .byte (1 : Int32) [(.int (own_by c0))] (.int (0 : Int32)))
set_option maxRecDepth 65536 in
set_option maxHeartbeats 40000000 in
theorem rm12 (l : Launch) (Z : State) (a0 : Array Value) (hw : ∀ d ∈ tables_1, d.before a0 Z = true) (ws : List Jvm.Cond) (c0 : Int32) (cs : Int32) (h0 : Heap) (n0 : Nat) (Z0 : n0 ≤ h0.size) (p_0 : Sta Z h0 "java/lang/String" "COMPACT_STRINGS" "Z" (.int cs)) (hcs : ¬ cs = (0 : Int32)) (hi0 : own_in c0) :
    MetFree l yy9 (head1 (Jvm.Cond.code yy9 jdk_42_method_139_code 1 (some (.object "java/lang/String")) :: ws) rRrm12) (fun a_ U_ => a_ = #[(.int c0)] ∧ Z.Warmed39 U_.vm ∧ U_.heap = h0) (fun _ _ _ _ _ => True) (fun _ U_ o_ U1_ => ∃ v_ L_, o_ = .returned v_ ∧ Q12 Z c0 cs h0 n0 v_ U1_.heap L_ ∧ FrameEnd U_ o_ U1_ L_ rRrm12.cells rRrm12.slots) := by
  refine MetFree.of_bodySF pn_rm12 hisR ?_
  intro p e s m args below meth c s₁ Bd hml0 hP hK
  obtain ⟨rfl, hZ, hh⟩ := hP
  have hx := Bd.exec
  have hby := Bd.bytes
  have hlk : meth.locks = false := Bd.notSynchronized
  have hml : c.maxLocals = 1 := hml0
  have hown : s.vm.findClass "java/lang/String" = some m.cls := findClass_of_methodNamed Bd.named
  have hnm := (name_of_methodNamed Bd.named Bd.method).1
  have X0 : Stand p l e rRrm12 s m #[(.int c0)] below meth c s₁ [] 0 0 := Stand.of_body Bd
  have e0 : s₁.heap = h0 := by rw [← hh, Bd.state]; rfl
  have N0 := Fr.nil n0
  show own_Goes p e below s (Q12 Z c0 cs h0 n0) rRrm12.cells rRrm12.slots s₁ (entryFrame m #[(.int c0)] 1)
  rw [ef_rm12 m c0]
  show own_Goes p e below s (Q12 Z c0 cs h0 n0) rRrm12.cells rRrm12.slots s₁ (mkF m 0 #[iv c0] [])
  obtain ⟨T1, X1, e1, st1⟩ := getS2 X0 hx hZ hown (host := "") (Or.inl (own_w hw 58 rfl)) Via.refl e0 p_0 (g := (mkF m 0 #[iv c0] [])) rfl (hb hby d12_0)
  refine own_st st1 ?_
  show own_Goes _ _ _ _ _ _ _ T1 (mkF m 3 #[iv c0] [(.int cs)])
  refine own_st (fun _ kk_ => XS.ifNo X1.here hx rfl (hb hby d12_3) rfl (XT.i0_eq_f hcs) (XS.iloadN X1.here hx rfl (hb hby d12_6) rfl kk_)) ?_
  show own_Goes _ _ _ _ _ _ _ T1 (mkF m 7 #[iv c0] [(.int c0)])
  obtain ⟨_, _, ⟨T2, L2, k2, n2⟩, -, X2, ⟨Lc2, hQ2, l2, y2, z2⟩, st2⟩ := Jvm.LawKit.callS X1 hx (y := yy6) hown (mvT hZ (own_w hw 72 rfl)) (mvT hZ (own_w hw 73 rfl)) (mvT hZ (own_w hw 74 rfl)) (mvT hZ (own_w hw 75 rfl)) (by decide) (backOf (W := 0) (rm13 l Z a0 hw [] (c0) h0 n0 Z0 (by assumption)) hZ (own_w hw 75 rfl) (own_w hw 74 rfl) (by decide) (by decide)) (g := (mkF m 7 #[iv c0] [(.int c0)])) rfl (by rw [hml]; rfl) (argsL := [(.int c0)]) (rest := []) (lenOf pd_4 rfl) rfl (by show 2 * 0 + _ ≤ _; exact Nat.le_of_eq rfl) (hb hby d12_7) (fun _ _ => ⟨rfl, e1, (by decide : 0 + 0 ≤ _), (by decide : 0 + 0 ≤ _)⟩)
  dsimp only [Pt.U, Pt.locs, Pt.cells, Pt.slots] at X2 l2 y2 z2 st2 hQ2
  subst l2 y2 z2
  obtain ⟨rfl, Nq2, eq2⟩ := hQ2
  have N2 := Fr.app N0 Nq2
  refine own_st st2 ?_
  show own_Goes _ _ _ _ _ _ _ T2 (mkF m 10 #[iv c0] [(.int (1 : Int32))])
  refine own_st (fun _ kk_ => XS.ifNo X2.here hx rfl (hb hby d12_10) rfl (XT.i0_eq_f (by decide)) kk_) ?_
  show own_Goes _ _ _ _ _ _ _ T2 (mkF m 13 #[iv c0] [])
  obtain ⟨T3, h3, X3, e3, E3, A3, D3, -, st3⟩ := newO X2 hx hZ hown (own_w hw 76 rfl) (own_w hw 10 rfl) (own_w hw 11 rfl) eq2 (g := (mkF m 13 #[iv c0] [])) rfl (hb hby d12_13) (by decide) (by decide)
  obtain ⟨b3, gx3⟩ : ∃ z, z = h0.size := ⟨_, rfl⟩
  rw [← gx3] at A3 D3 st3
  have gg3 : n0 ≤ b3 := Nat.le_trans Z0 (Nat.le_of_eq gx3.symm)
  have sz3 : h0.size ≤ b3 := Nat.le_trans (Keep.refl h0 []).1 (Nat.le_of_eq gx3.symm)
  have f3_0 := p_0.ext E3
  have Zs3 : n0 ≤ h3.size := Nat.le_trans Z0 E3.1
  have K3 := (Keep.refl h0 []).ext E3
  have fn3_value : Fld Z h3 b3 "java/lang/String" "value" "[B" .null := D3 (Or.inr (own_w hw 25 rfl)) (ty := (.array .byte)) (by decide)
  have fn3_coder : Fld Z h3 b3 "java/lang/String" "coder" "B" (.int (0 : Int32)) := D3 (Or.inr (own_w hw 26 rfl)) (ty := .byte) (by decide)
  refine own_st st3 ?_
  show own_Goes _ _ _ _ _ _ _ T3 (mkF m 16 #[iv c0] [(.ref b3)])
  refine own_st (fun _ kk_ => XS.dup X3.here hx rfl (hb hby d12_16) rfl rfl (XS.iloadN X3.here hx rfl (hb hby d12_17) rfl kk_)) ?_
  show own_Goes _ _ _ _ _ _ _ T3 (mkF m 18 #[iv c0] [(.int c0), (.ref b3), (.ref b3)])
  obtain ⟨_, _, ⟨T4, L4, k4, n4⟩, -, X4, ⟨Lc4, hQ4, l4, y4, z4⟩, st4⟩ := Jvm.LawKit.callS X3 hx (y := yy7) hown (mvT hZ (own_w hw 77 rfl)) (mvT hZ (own_w hw 78 rfl)) (mvT hZ (own_w hw 74 rfl)) (mvT hZ (own_w hw 79 rfl)) (by decide) (backOf (W := 2) (rm14 l Z a0 hw [] (c0) h3 n0 Zs3) hZ (own_w hw 79 rfl) (own_w hw 74 rfl) (by decide) (by decide)) (g := (mkF m 18 #[iv c0] [(.int c0), (.ref b3), (.ref b3)])) rfl (by rw [hml]; rfl) (argsL := [(.int c0)]) (rest := [(.ref b3), (.ref b3)]) (lenOf pd_5 rfl) rfl (by show 2 * 0 + _ ≤ _; exact Nat.le_of_eq rfl) (hb hby d12_18) (fun _ _ => ⟨rfl, e3, (by decide : 1 + 1 ≤ _), (by decide : 4 + 1 ≤ _)⟩)
  dsimp only [Pt.U, Pt.locs, Pt.cells, Pt.slots] at X4 l4 y4 z4 st4 hQ4
  subst l4 y4 z4
  obtain ⟨x4_d, x4_kd, rfl, Nq4, Kq4, u4_0, u4_1⟩ := hQ4
  have N4 := Fr.app N2 Nq4
  have f4_0 := own_Sta_keep f3_0 Kq4 ns0
  have f4_1 := A3.keep Kq4
  have f4_2 := fn3_value.keep Kq4 nin0
  have f4_3 := fn3_coder.keep Kq4 nin0
  have Zs4 : n0 ≤ T4.heap.size := Nat.le_trans Zs3 Kq4.1
  have K4 := K3.trans Kq4 all0
  have ne4_b3 : b3 ≠ x4_d := Nat.ne_of_lt (Nat.lt_of_lt_of_le A3.lt u4_0)
  have sz4_d : h0.size ≤ x4_d := Nat.le_trans K3.1 u4_0
  have gg4_d : n0 ≤ x4_d := Nat.le_trans Zs3 u4_0
  refine own_st st4 ?_
  show own_Goes _ _ _ _ _ _ _ T4 (mkF m 21 #[iv c0] [(.ref x4_d), (.ref b3), (.ref b3)])
  refine own_st (fun _ kk_ => XS.iconst X4.here hx rfl (hb hby d12_21) kk_) ?_
  show own_Goes _ _ _ _ _ _ _ T4 (mkF m 22 #[iv c0] [(.int (0 : Int32)), (.ref x4_d), (.ref b3), (.ref b3)])
  obtain ⟨_, _, ⟨T5, L5, k5, n5⟩, -, X5, ⟨Lc5, hQ5, l5, y5, z5⟩, st5⟩ := X4.specialBack hx (y := yy8) rfl hown (mvT hZ (own_w hw 80 rfl)) (mvT hZ (own_w hw 81 rfl)) (mvT hZ (own_w hw 82 rfl)) (by decide) (backOf (W := 1) (rm15 l Z a0 hw [] (b3) (x4_d) T4.heap n0 Zs4 f4_1 f4_2 f4_3 gg3) hZ (own_w hw 82 rfl) (own_w hw 11 rfl) (by decide) (by decide)) (g := (mkF m 22 #[iv c0] [(.int (0 : Int32)), (.ref x4_d), (.ref b3), (.ref b3)])) rfl (by rw [hml]; rfl) (Steps.refl _) (a := b3) (argsL := [(.ref x4_d), (.int (0 : Int32))]) (rest := [(.ref b3)]) (lenOf pd_6 rfl) rfl (by show 2 * 0 + _ ≤ _; exact Nat.le_of_eq rfl) (hb hby d12_22) (fun _ _ => ⟨rfl, rfl, (by decide : 2 + 0 ≤ _), (by decide : 5 + 0 ≤ _)⟩)
  dsimp only [Pt.U, Pt.locs, Pt.cells, Pt.slots] at X5 l5 y5 z5 st5 hQ5
  subst l5 y5 z5
  obtain ⟨rfl, Nq5, Kq5, u5_0, u5_1⟩ := hQ5
  have N5 := Fr.app N4 Nq5
  have f5_0 := own_Sta_keep f4_0 Kq5 (nsS f4_1.nostat ns0)
  have f5_1 := f4_1.keep Kq5
  have f5_4 := u4_1.keep Kq5 (ninS (Ne.symm ne4_b3) nin0)
  have Zs5 : n0 ≤ T5.heap.size := Nat.le_trans Zs4 Kq5.1
  have K5 := K4.trans Kq5 (allS (Or.inr sz3) all0)
  refine own_st (fun _ kk_ => st5.trans kk_) ?_
  show own_Goes _ _ _ _ _ _ _ T5 (mkF m 25 #[iv c0] [(.ref b3)])
  refine own_retA X5 hx hlk rfl Bd.returns rfl (hb hby d12_25) (by decide) (by decide) ?_
  show Q12 Z c0 cs h0 n0 (some (.ref b3)) T5.heap _
  exact ⟨b3, x4_d, x4_kd, rfl, N5, K5, sz3, f5_1, u5_0, u5_1, f5_4⟩
abbrev rRrm2_0 : Room := { frames := 3, cells := 6, slots := 12, locals := 43 }
theorem d2_0 : decode method_2_code 0 = .ok (.iload_n 0, 1) := by decide +kernel
theorem d2_1 : decode method_2_code 1 = .ok (.ifCond .ne 14, 3) := by decide +kernel
theorem d2_4 : decode method_2_code 4 = .ok (.new 7, 3) := by decide +kernel
theorem d2_7 : decode method_2_code 7 = .ok (.dup, 1) := by decide +kernel
theorem d2_8 : decode method_2_code 8 = .ok (.iconst 0, 1) := by decide +kernel
theorem d2_9 : decode method_2_code 9 = .ok (.newarray .char, 2) := by decide +kernel
theorem d2_11 : decode method_2_code 11 = .ok (.invokespecial 9, 3) := by decide +kernel
theorem d2_14 : decode method_2_code 14 = .ok (.areturn, 1) := by decide +kernel
theorem pd_7 : parseMethodDescriptor "([C)V" = some ⟨[(.array .char)], none⟩ := by decide +kernel
theorem pn_rm2_0 : plainFor yy10 = true := by first | exact plainFor_of_name (by first | (simp [plainName, overriddenIn]; done) | decide +kernel) | decide +kernel
theorem ef_rm2_0 (m : MethodId) (c0 : Int32) (c1 : Int32) : entryFrame m #[(.int (0 : Int32)), (.int c0), (.int c1)] 3 = (mkF m 0 #[iv (0 : Int32), iv c0, iv c1] []) := by first | (simp [entryFrame, mkF, argsToLocals, Value.category]; done) | rfl
def Q2_0 (Z : State) (c0 : Int32) (c1 : Int32) (cs : Int32) (h0 : Heap) (n0 : Nat) (v_ : Option Value) (h_ : Heap) (L_ : List Loc) : Prop := ∃ y : Addr, ∃ d : Addr, ∃ kd : ClassId, (v_ = some (.ref y)) ∧ (Fr n0 L_) ∧ (Keep h0 h_ []) ∧ (h0.size ≤ y) ∧ (Exa Z h_ y "java/lang/String") ∧ (Fld Z h_ y "java/lang/String" "coder" "B" (.int (0 : Int32))) ∧ (Fld Z h_ y "java/lang/String" "value" "[B" (.ref d)) ∧ (Arv Z h_ d kd .byte (0 : Int32) [] (.int (0 : Int32)))
set_option maxRecDepth 65536 in
set_option maxHeartbeats 40000000 in
theorem rm2_0 (l : Launch) (Z : State) (a0 : Array Value) (hw : ∀ d ∈ tables_1, d.before a0 Z = true) (ws : List Jvm.Cond) (hEL : EW Z a0 consts_1) (c0 : Int32) (c1 : Int32) (cs : Int32) (h0 : Heap) (n0 : Nat) (Z0 : n0 ≤ h0.size) (p_0 : Sta Z h0 "java/lang/String" "COMPACT_STRINGS" "Z" (.int cs)) (hcs : ¬ cs = (0 : Int32)) :
    MetFree l yy10 (head1 (Jvm.Cond.code yy10 method_2_code 3 (some (.object "java/lang/String")) :: ws) rRrm2_0) (fun a_ U_ => a_ = #[(.int (0 : Int32)), (.int c0), (.int c1)] ∧ Z.Warmed39 U_.vm ∧ U_.heap = h0 ∧ CHv Z consts_1 U_.vm h0 ∧ ∀ x_ ∈ ([] : List Addr), Safe Z consts_1 U_.vm h0 x_) (fun _ _ _ _ _ => True) (fun _ U_ o_ U1_ => ∃ v_ L_, o_ = .returned v_ ∧ Q2_0 Z c0 c1 cs h0 n0 v_ U1_.heap L_ ∧ CHr Z consts_1 U_.vm U_.heap U1_.vm U1_.heap ∧ ReturnedEndW U_ o_ U1_ L_ rRrm2_0.cells rRrm2_0.slots) := by
  refine MetFree.of_bodySF pn_rm2_0 hisR ?_
  intro p e s m args below meth c s₁ Bd hml0 hP hK
  obtain ⟨rfl, hZ, hh, hCH, hSf⟩ := hP
  have hx := Bd.exec
  have hby := Bd.bytes
  have hlk : meth.locks = false := Bd.notSynchronized
  have hml : c.maxLocals = 3 := hml0
  have hown : s.vm.findClass "com/example/majra/majra/lang/RefusalEqualsPinLaw" = some m.cls := findClass_of_methodNamed Bd.named
  have hnm := (name_of_methodNamed Bd.named Bd.method).1
  have X0 : Stand p l e rRrm2_0 (s.setVm s.vm) m #[(.int (0 : Int32)), (.int c0), (.int c1)] below meth c s₁ [] 0 0 := Stand.of_body Bd
  have e0 : s₁.heap = h0 := by rw [← hh, Bd.state]; rfl
  have N0 := Fr.nil n0
  have hS0 : s.Since s.vm n0 := (State.WarmedH.refl s).since n0
  have wS : ∀ d ∈ Bundle.stringAtoms, d.before a0 Z = true := by
    intro d hd
    simp only [Bundle.stringAtoms, List.mem_cons, List.not_mem_nil, or_false] at hd
    rcases hd with rfl | rfl | rfl | rfl | rfl | rfl | rfl
    · exact (own_w hw 11 rfl)
    · exact (own_w hw 10 rfl)
    · exact (own_w hw 24 rfl)
    · exact (own_w hw 25 rfl)
    · exact (own_w hw 26 rfl)
    · exact (own_w hw 27 rfl)
    · exact (own_w hw 28 rfl)
  have C0 := CHr.refl hCH
  show own_GoesH p e below s Z consts_1 (Q2_0 Z c0 c1 cs h0 n0) rRrm2_0.cells rRrm2_0.slots s₁ (entryFrame m #[(.int (0 : Int32)), (.int c0), (.int c1)] 3)
  rw [ef_rm2_0 m c0 c1]
  show own_GoesH p e below s Z consts_1 (Q2_0 Z c0 c1 cs h0 n0) rRrm2_0.cells rRrm2_0.slots s₁ (mkF m 0 #[iv (0 : Int32), iv c0, iv c1] [])
  refine own_stH (fun _ kk_ => XS.iloadN X0.here hx rfl (hb hby d2_0) rfl (XS.ifNo X0.here hx rfl (hb hby d2_1) rfl (XT.i0_ne_f (by decide)) kk_)) ?_
  show own_GoesH _ _ _ _ _ _ _ _ _ s₁ (mkF m 4 #[iv (0 : Int32), iv c0, iv c1] [])
  obtain ⟨T1, h1, X1, e1, E1, A1, D1, -, st1⟩ := newO X0 hx hZ hown (own_w hw 9 rfl) (own_w hw 10 rfl) (own_w hw 11 rfl) e0 (g := (mkF m 4 #[iv (0 : Int32), iv c0, iv c1] [])) rfl (hb hby d2_4) (by decide) (by decide)
  obtain ⟨b1, gx1⟩ : ∃ z, z = h0.size := ⟨_, rfl⟩
  rw [← gx1] at A1 D1 st1
  have gg1 : n0 ≤ b1 := Nat.le_trans Z0 (Nat.le_of_eq gx1.symm)
  have sz1 : h0.size ≤ b1 := Nat.le_trans (Keep.refl h0 []).1 (Nat.le_of_eq gx1.symm)
  have f1_0 := p_0.ext E1
  have C1 := C0.trans (CHr.ext E1 C0.1)
  have Zs1 : n0 ≤ h1.size := Nat.le_trans Z0 E1.1
  have K1 := (Keep.refl h0 []).ext E1
  have Ks1 := Nat.le_trans Z0 E1.1
  have sf1 := Safe.ext E1 C0.1 (Safe.new (x := b1) (Nat.le_of_eq gx1.symm))
  have fn1_value : Fld Z h1 b1 "java/lang/String" "value" "[B" .null := D1 (Or.inr (own_w hw 25 rfl)) (ty := (.array .byte)) (by decide)
  have fn1_coder : Fld Z h1 b1 "java/lang/String" "coder" "B" (.int (0 : Int32)) := D1 (Or.inr (own_w hw 26 rfl)) (ty := .byte) (by decide)
  refine own_stH st1 ?_
  show own_GoesH _ _ _ _ _ _ _ _ _ T1 (mkF m 7 #[iv (0 : Int32), iv c0, iv c1] [(.ref b1)])
  refine own_stH (fun _ kk_ => XS.dup X1.here hx rfl (hb hby d2_7) rfl rfl (XS.iconst X1.here hx rfl (hb hby d2_8) kk_)) ?_
  show own_GoesH _ _ _ _ _ _ _ _ _ T1 (mkF m 9 #[iv (0 : Int32), iv c0, iv c1] [(.int (0 : Int32)), (.ref b1), (.ref b1)])
  obtain ⟨T2, h2, k2, X2, e2, E2, A2, st2⟩ := newP X1 hx hZ (own_w hw 12 rfl) e1 (g := (mkF m 9 #[iv (0 : Int32), iv c0, iv c1] [(.int (0 : Int32)), (.ref b1), (.ref b1)])) rfl (hb hby d2_9) rfl (by decide) (cap := 0) (by decide) (by decide) (by decide) (by decide)
  obtain ⟨b2, gx2⟩ : ∃ z, z = h1.size := ⟨_, rfl⟩
  rw [← gx2] at A2 st2
  have ne2_b1 : b1 ≠ b2 := Nat.ne_of_lt (Nat.lt_of_lt_of_eq A1.lt gx2.symm)
  have gg2 : n0 ≤ b2 := Nat.le_trans Zs1 (Nat.le_of_eq gx2.symm)
  have sz2 : h0.size ≤ b2 := Nat.le_trans K1.1 (Nat.le_of_eq gx2.symm)
  have f2_0 := f1_0.ext E2
  have f2_1 := Safe.ext E2 C1.1 sf1
  have f2_2 := A1.ext E2
  have f2_3 := fn1_value.ext E2
  have f2_4 := fn1_coder.ext E2
  have C2 := C1.trans (CHr.ext E2 C1.1)
  have Zs2 : n0 ≤ h2.size := Nat.le_trans Zs1 E2.1
  have K2 := K1.ext E2
  have Ks2 := Nat.le_trans Ks1 E2.1
  have V2 : Arv Z h2 b2 k2 .char (0 : Int32) [] (.int (0 : Int32)) := Arv.new A2 (by decide)
  refine own_stH st2 ?_
  show own_GoesH _ _ _ _ _ _ _ _ _ T2 (mkF m 11 #[iv (0 : Int32), iv c0, iv c1] [(.ref b2), (.ref b1), (.ref b1)])
  obtain ⟨_, _, ⟨T3, L3, k3, n3⟩, -, X3, hSn3, hgn3, ⟨Lc3, hQ3, l3, y3, z3, hC3⟩, st3⟩ := X2.specialBackS hx (y := yy5) rfl hown (mvT hZ (own_w hw 13 rfl)) (mvT hZ (own_w hw 14 rfl)) (mvT hZ (own_w hw 15 rfl)) (by decide) (own_backH (sl := [b1]) (W := 1) (rmCs0 l Z a0 hw [] hEL (b1) (b2) (k2) h2 n0 Zs2 f2_2 f2_3 f2_4 gg1 V2) hZ (own_w hw 15 rfl) (own_w hw 11 rfl) (by decide) (by decide) hEL C2.1 (own_ss f2_2.lt f2_1 own_sn)) (g := (mkF m 11 #[iv (0 : Int32), iv c0, iv c1] [(.ref b2), (.ref b1), (.ref b1)])) rfl (by rw [hml]; rfl) (Steps.refl _) (a := b1) (argsL := [(.ref b2)]) (rest := [(.ref b1)]) (lenOf pd_7 rfl) rfl (by show 2 * 0 + _ ≤ _; exact Nat.le_of_eq rfl) (hb hby d2_11) (fun _ _ => ⟨rfl, e2, (by decide : 2 + 4 ≤ _), (by decide : 4 + 8 ≤ _)⟩)
  dsimp only [Pt.U, Pt.locs, Pt.cells, Pt.slots] at X3 l3 y3 z3 st3 hQ3 hSn3 hgn3 hC3
  subst l3 y3 z3
  have X3 : Stand p l e rRrm2_0 (s.setVm T3.vm) m _ below meth c T3 _ _ _ := X3
  have hS3 := foldS hS0 (by rw [e2]; exact Ks2) hSn3 hgn3
  have hown : (s.setVm T3.vm).vm.findClass "com/example/majra/majra/lang/RefusalEqualsPinLaw" = some m.cls := by rw [show (s.setVm T3.vm).vm = T3.vm from rfl, hSn3.1.alike.findClass]; exact hown
  obtain ⟨x3_d, x3_kd, rfl, Nq3, Kq3, u3_0, u3_1, u3_2⟩ := hQ3
  have N3 := Fr.app N0 Nq3
  have hZ : Z.Warmed39 (s.setVm T3.vm).vm := State.Warmed39.trans (t := (s.setVm s.vm)) hZ hSn3.1
  have f3_0 := own_Sta_keep f2_0 Kq3 (nsS f2_2.nostat ns0)
  have f3_1 := CHr.safe hC3 f2_2.lt f2_1
  have f3_2 := f2_2.keep Kq3
  have f3_5 := V2.keep Kq3 (ninS (Ne.symm ne2_b1) nin0)
  have C3 := C2.trans hC3
  have Ks3 := Nat.le_trans Ks2 Kq3.1
  have Zs3 : n0 ≤ T3.heap.size := Nat.le_trans Zs2 Kq3.1
  have K3 := K2.trans Kq3 (allS (Or.inr sz1) all0)
  refine own_stH (fun _ kk_ => st3.trans kk_) ?_
  show own_GoesH _ _ _ _ _ _ _ _ _ T3 (mkF m 14 #[iv (0 : Int32), iv c0, iv c1] [(.ref b1)])
  refine own_endH (v := (some (.ref b1))) X3 hlk hS3 (Nat.le_refl T3.heap.size) hZ hEL hh rfl C3 (fun h => by rw [Bd.returns] at h; cases h) (by decide) (by decide) ?_ (fun fs hr => retOut X3 hx Bd.returns (own_narR rfl) (Or.inr (Or.inr (Or.inr (Or.inr ⟨rfl, rfl, rfl⟩)))) (hb hby d2_14) hr)
  show Q2_0 Z c0 c1 cs h0 n0 (some (.ref b1)) T3.heap _
  exact ⟨b1, x3_d, x3_kd, rfl, N3, K3, sz1, f3_2, u3_0, u3_1, u3_2⟩
abbrev rRrm2_1 : Room := { frames := 3, cells := 2, slots := 5, locals := 39 }
theorem d2_15 : decode method_2_code 15 = .ok (.iload_n 0, 1) := by decide +kernel
theorem d2_16 : decode method_2_code 16 = .ok (.iconst 1, 1) := by decide +kernel
theorem d2_17 : decode method_2_code 17 = .ok (.if_icmp .ne 8, 3) := by decide +kernel
theorem d2_20 : decode method_2_code 20 = .ok (.iload_n 1, 1) := by decide +kernel
theorem d2_21 : decode method_2_code 21 = .ok (.invokestatic 12, 3) := by decide +kernel
theorem d2_24 : decode method_2_code 24 = .ok (.areturn, 1) := by decide +kernel
theorem pd_8 : parseMethodDescriptor "(C)Ljava/lang/String;" = some ⟨[.char], some (.object "java/lang/String")⟩ := by decide +kernel
theorem pn_rm2_1 : plainFor yy10 = true := by first | exact plainFor_of_name (by first | (simp [plainName, overriddenIn]; done) | decide +kernel) | decide +kernel
theorem ef_rm2_1 (m : MethodId) (c0 : Int32) (c1 : Int32) : entryFrame m #[(.int (1 : Int32)), (.int c0), (.int c1)] 3 = (mkF m 0 #[iv (1 : Int32), iv c0, iv c1] []) := by first | (simp [entryFrame, mkF, argsToLocals, Value.category]; done) | rfl
def Q2_1 (Z : State) (c0 : Int32) (c1 : Int32) (cs : Int32) (h0 : Heap) (n0 : Nat) (v_ : Option Value) (h_ : Heap) (L_ : List Loc) : Prop := ∃ y : Addr, ∃ d : Addr, ∃ kd : ClassId, (v_ = some (.ref y)) ∧ (Fr n0 L_) ∧ (Keep h0 h_ []) ∧ (h0.size ≤ y) ∧ (Exa Z h_ y "java/lang/String") ∧ (Fld Z h_ y "java/lang/String" "coder" "B" (.int (0 : Int32))) ∧ (Fld Z h_ y "java/lang/String" "value" "[B" (.ref d)) ∧ (Arv Z h_ d kd .byte (1 : Int32) [(.int (own_by c0))] (.int (0 : Int32)))
set_option maxRecDepth 65536 in
set_option maxHeartbeats 40000000 in
theorem rm2_1 (l : Launch) (Z : State) (a0 : Array Value) (hw : ∀ d ∈ tables_1, d.before a0 Z = true) (ws : List Jvm.Cond) (c0 : Int32) (c1 : Int32) (cs : Int32) (h0 : Heap) (n0 : Nat) (Z0 : n0 ≤ h0.size) (p_0 : Sta Z h0 "java/lang/String" "COMPACT_STRINGS" "Z" (.int cs)) (hcs : ¬ cs = (0 : Int32)) (hi0 : own_in c0) :
    MetFree l yy10 (head1 (Jvm.Cond.code yy10 method_2_code 3 (some (.object "java/lang/String")) :: ws) rRrm2_1) (fun a_ U_ => a_ = #[(.int (1 : Int32)), (.int c0), (.int c1)] ∧ Z.Warmed39 U_.vm ∧ U_.heap = h0) (fun _ _ _ _ _ => True) (fun _ U_ o_ U1_ => ∃ v_ L_, o_ = .returned v_ ∧ Q2_1 Z c0 c1 cs h0 n0 v_ U1_.heap L_ ∧ FrameEnd U_ o_ U1_ L_ rRrm2_1.cells rRrm2_1.slots) := by
  refine MetFree.of_bodySF pn_rm2_1 hisR ?_
  intro p e s m args below meth c s₁ Bd hml0 hP hK
  obtain ⟨rfl, hZ, hh⟩ := hP
  have hx := Bd.exec
  have hby := Bd.bytes
  have hlk : meth.locks = false := Bd.notSynchronized
  have hml : c.maxLocals = 3 := hml0
  have hown : s.vm.findClass "com/example/majra/majra/lang/RefusalEqualsPinLaw" = some m.cls := findClass_of_methodNamed Bd.named
  have hnm := (name_of_methodNamed Bd.named Bd.method).1
  have X0 : Stand p l e rRrm2_1 s m #[(.int (1 : Int32)), (.int c0), (.int c1)] below meth c s₁ [] 0 0 := Stand.of_body Bd
  have e0 : s₁.heap = h0 := by rw [← hh, Bd.state]; rfl
  have N0 := Fr.nil n0
  show own_Goes p e below s (Q2_1 Z c0 c1 cs h0 n0) rRrm2_1.cells rRrm2_1.slots s₁ (entryFrame m #[(.int (1 : Int32)), (.int c0), (.int c1)] 3)
  rw [ef_rm2_1 m c0 c1]
  show own_Goes p e below s (Q2_1 Z c0 c1 cs h0 n0) rRrm2_1.cells rRrm2_1.slots s₁ (mkF m 0 #[iv (1 : Int32), iv c0, iv c1] [])
  refine own_st (fun _ kk_ => XS.iloadN X0.here hx rfl (hb hby d2_0) rfl (XS.ifYes X0.here hx rfl (pc0 := 1) (pc' := 15) rfl (hb hby d2_1) rfl (XT.i0_ne_t (by decide)) (by decide) (by decide) (XS.iloadN X0.here hx rfl (hb hby d2_15) rfl (XS.iconst X0.here hx rfl (hb hby d2_16) (XS.icmpNo X0.here hx rfl (hb hby d2_17) rfl (XT.ii_ne_f (by decide)) (XS.iloadN X0.here hx rfl (hb hby d2_20) rfl kk_)))))) ?_
  show own_Goes _ _ _ _ _ _ _ s₁ (mkF m 21 #[iv (1 : Int32), iv c0, iv c1] [(.int c0)])
  obtain ⟨_, _, ⟨T1, L1, k1, n1⟩, -, X1, ⟨Lc1, hQ1, l1, y1, z1⟩, st1⟩ := Jvm.LawKit.callS X0 hx (y := yy9) hown (mvT hZ (own_w hw 69 rfl)) (mvT hZ (own_w hw 70 rfl)) (mvT hZ (own_w hw 11 rfl)) (mvT hZ (own_w hw 71 rfl)) (by decide) (backOf (W := 0) (rm12 l Z a0 hw [] (c0) (cs) h0 n0 Z0 p_0 (by assumption) (by assumption)) hZ (own_w hw 71 rfl) (own_w hw 11 rfl) (by decide) (by decide)) (g := (mkF m 21 #[iv (1 : Int32), iv c0, iv c1] [(.int c0)])) rfl (by rw [hml]; rfl) (argsL := [(.int c0)]) (rest := []) (lenOf pd_8 rfl) rfl (by show 2 * 0 + _ ≤ _; exact Nat.le_of_eq rfl) (hb hby d2_21) (fun _ _ => ⟨rfl, e0, (by decide : 0 + 2 ≤ _), (by decide : 0 + 5 ≤ _)⟩)
  dsimp only [Pt.U, Pt.locs, Pt.cells, Pt.slots] at X1 l1 y1 z1 st1 hQ1
  subst l1 y1 z1
  obtain ⟨x1_y, x1_d, x1_kd, rfl, Nq1, Kq1, u1_0, u1_1, u1_2, u1_3, u1_4⟩ := hQ1
  have N1 := Fr.app N0 Nq1
  have f1_0 := own_Sta_keep p_0 Kq1 ns0
  have Zs1 : n0 ≤ T1.heap.size := Nat.le_trans Z0 Kq1.1
  have K1 := (Keep.refl h0 []).trans Kq1 all0
  have sz1_y : h0.size ≤ x1_y := Nat.le_trans (Keep.refl h0 []).1 u1_0
  have gg1_y : n0 ≤ x1_y := Nat.le_trans Z0 u1_0
  refine own_st st1 ?_
  show own_Goes _ _ _ _ _ _ _ T1 (mkF m 24 #[iv (1 : Int32), iv c0, iv c1] [(.ref x1_y)])
  refine own_retA X1 hx hlk rfl Bd.returns rfl (hb hby d2_24) (by decide) (by decide) ?_
  show Q2_1 Z c0 c1 cs h0 n0 (some (.ref x1_y)) T1.heap _
  exact ⟨x1_y, x1_d, x1_kd, rfl, N1, K1, sz1_y, u1_1, u1_2, u1_3, u1_4⟩
abbrev rRrm2_2 : Room := { frames := 4, cells := 3, slots := 8, locals := 66 }
theorem d2_25 : decode method_2_code 25 = .ok (.new 7, 3) := by decide +kernel
theorem d2_28 : decode method_2_code 28 = .ok (.dup, 1) := by decide +kernel
theorem d2_29 : decode method_2_code 29 = .ok (.iconst 2, 1) := by decide +kernel
theorem d2_30 : decode method_2_code 30 = .ok (.newarray .char, 2) := by decide +kernel
theorem d2_32 : decode method_2_code 32 = .ok (.dup, 1) := by decide +kernel
theorem d2_33 : decode method_2_code 33 = .ok (.iconst 0, 1) := by decide +kernel
theorem d2_34 : decode method_2_code 34 = .ok (.iload_n 1, 1) := by decide +kernel
theorem d2_35 : decode method_2_code 35 = .ok (.castore, 1) := by decide +kernel
theorem d2_36 : decode method_2_code 36 = .ok (.dup, 1) := by decide +kernel
theorem d2_37 : decode method_2_code 37 = .ok (.iconst 1, 1) := by decide +kernel
theorem d2_38 : decode method_2_code 38 = .ok (.iload_n 2, 1) := by decide +kernel
theorem d2_39 : decode method_2_code 39 = .ok (.castore, 1) := by decide +kernel
theorem d2_40 : decode method_2_code 40 = .ok (.invokespecial 9, 3) := by decide +kernel
theorem d2_43 : decode method_2_code 43 = .ok (.areturn, 1) := by decide +kernel
theorem pn_rm2_2 : plainFor yy10 = true := by first | exact plainFor_of_name (by first | (simp [plainName, overriddenIn]; done) | decide +kernel) | decide +kernel
theorem ef_rm2_2 (m : MethodId) (c0 : Int32) (c1 : Int32) : entryFrame m #[(.int (2 : Int32)), (.int c0), (.int c1)] 3 = (mkF m 0 #[iv (2 : Int32), iv c0, iv c1] []) := by first | (simp [entryFrame, mkF, argsToLocals, Value.category]; done) | rfl
def Q2_2 (Z : State) (c0 : Int32) (c1 : Int32) (cs : Int32) (h0 : Heap) (n0 : Nat) (v_ : Option Value) (h_ : Heap) (L_ : List Loc) : Prop := ∃ y : Addr, ∃ d : Addr, ∃ kd : ClassId, (v_ = some (.ref y)) ∧ (Fr n0 L_) ∧ (Keep h0 h_ []) ∧ (h0.size ≤ y) ∧ (Exa Z h_ y "java/lang/String") ∧ (Fld Z h_ y "java/lang/String" "coder" "B" (.int (0 : Int32))) ∧ (Fld Z h_ y "java/lang/String" "value" "[B" (.ref d)) ∧ (Arv Z h_ d kd .byte (2 : Int32) [(.int (own_by c0)), (.int (own_by c1))] (.int (0 : Int32)))
set_option maxRecDepth 65536 in
set_option maxHeartbeats 40000000 in
theorem rm2_2 (l : Launch) (Z : State) (a0 : Array Value) (hw : ∀ d ∈ tables_1, d.before a0 Z = true) (ws : List Jvm.Cond) (c0 : Int32) (c1 : Int32) (cs : Int32) (h0 : Heap) (n0 : Nat) (Z0 : n0 ≤ h0.size) (p_0 : Sta Z h0 "java/lang/String" "COMPACT_STRINGS" "Z" (.int cs)) (hcs : ¬ cs = (0 : Int32)) (hi0 : own_in c0) (hi1 : own_in c1) :
    MetFree l yy10 (head1 (Jvm.Cond.code yy10 method_2_code 3 (some (.object "java/lang/String")) :: ws) rRrm2_2) (fun a_ U_ => a_ = #[(.int (2 : Int32)), (.int c0), (.int c1)] ∧ Z.Warmed39 U_.vm ∧ U_.heap = h0) (fun _ _ _ _ _ => True) (fun _ U_ o_ U1_ => ∃ v_ L_, o_ = .returned v_ ∧ Q2_2 Z c0 c1 cs h0 n0 v_ U1_.heap L_ ∧ FrameEnd U_ o_ U1_ L_ rRrm2_2.cells rRrm2_2.slots) := by
  refine MetFree.of_bodySF pn_rm2_2 hisR ?_
  intro p e s m args below meth c s₁ Bd hml0 hP hK
  obtain ⟨rfl, hZ, hh⟩ := hP
  have hx := Bd.exec
  have hby := Bd.bytes
  have hlk : meth.locks = false := Bd.notSynchronized
  have hml : c.maxLocals = 3 := hml0
  have hown : s.vm.findClass "com/example/majra/majra/lang/RefusalEqualsPinLaw" = some m.cls := findClass_of_methodNamed Bd.named
  have hnm := (name_of_methodNamed Bd.named Bd.method).1
  have X0 : Stand p l e rRrm2_2 s m #[(.int (2 : Int32)), (.int c0), (.int c1)] below meth c s₁ [] 0 0 := Stand.of_body Bd
  have e0 : s₁.heap = h0 := by rw [← hh, Bd.state]; rfl
  have N0 := Fr.nil n0
  show own_Goes p e below s (Q2_2 Z c0 c1 cs h0 n0) rRrm2_2.cells rRrm2_2.slots s₁ (entryFrame m #[(.int (2 : Int32)), (.int c0), (.int c1)] 3)
  rw [ef_rm2_2 m c0 c1]
  show own_Goes p e below s (Q2_2 Z c0 c1 cs h0 n0) rRrm2_2.cells rRrm2_2.slots s₁ (mkF m 0 #[iv (2 : Int32), iv c0, iv c1] [])
  refine own_st (fun _ kk_ => XS.iloadN X0.here hx rfl (hb hby d2_0) rfl (XS.ifYes X0.here hx rfl (pc0 := 1) (pc' := 15) rfl (hb hby d2_1) rfl (XT.i0_ne_t (by decide)) (by decide) (by decide) (XS.iloadN X0.here hx rfl (hb hby d2_15) rfl (XS.iconst X0.here hx rfl (hb hby d2_16) (XS.icmpYes X0.here hx rfl (pc0 := 17) (pc' := 25) rfl (hb hby d2_17) rfl (XT.ii_ne_t (by decide)) (by decide) (by decide) kk_))))) ?_
  show own_Goes _ _ _ _ _ _ _ s₁ (mkF m 25 #[iv (2 : Int32), iv c0, iv c1] [])
  obtain ⟨T1, h1, X1, e1, E1, A1, D1, -, st1⟩ := newO X0 hx hZ hown (own_w hw 9 rfl) (own_w hw 10 rfl) (own_w hw 11 rfl) e0 (g := (mkF m 25 #[iv (2 : Int32), iv c0, iv c1] [])) rfl (hb hby d2_25) (by decide) (by decide)
  obtain ⟨b1, gx1⟩ : ∃ z, z = h0.size := ⟨_, rfl⟩
  rw [← gx1] at A1 D1 st1
  have gg1 : n0 ≤ b1 := Nat.le_trans Z0 (Nat.le_of_eq gx1.symm)
  have sz1 : h0.size ≤ b1 := Nat.le_trans (Keep.refl h0 []).1 (Nat.le_of_eq gx1.symm)
  have f1_0 := p_0.ext E1
  have Zs1 : n0 ≤ h1.size := Nat.le_trans Z0 E1.1
  have K1 := (Keep.refl h0 []).ext E1
  have fn1_value : Fld Z h1 b1 "java/lang/String" "value" "[B" .null := D1 (Or.inr (own_w hw 25 rfl)) (ty := (.array .byte)) (by decide)
  have fn1_coder : Fld Z h1 b1 "java/lang/String" "coder" "B" (.int (0 : Int32)) := D1 (Or.inr (own_w hw 26 rfl)) (ty := .byte) (by decide)
  refine own_st st1 ?_
  show own_Goes _ _ _ _ _ _ _ T1 (mkF m 28 #[iv (2 : Int32), iv c0, iv c1] [(.ref b1)])
  refine own_st (fun _ kk_ => XS.dup X1.here hx rfl (hb hby d2_28) rfl rfl (XS.iconst X1.here hx rfl (hb hby d2_29) kk_)) ?_
  show own_Goes _ _ _ _ _ _ _ T1 (mkF m 30 #[iv (2 : Int32), iv c0, iv c1] [(.int (2 : Int32)), (.ref b1), (.ref b1)])
  obtain ⟨T2, h2, k2, X2, e2, E2, A2, st2⟩ := newP X1 hx hZ (own_w hw 12 rfl) e1 (g := (mkF m 30 #[iv (2 : Int32), iv c0, iv c1] [(.int (2 : Int32)), (.ref b1), (.ref b1)])) rfl (hb hby d2_30) rfl (by decide) (cap := 2) (by decide) (by decide) (by decide) (by decide)
  obtain ⟨b2, gx2⟩ : ∃ z, z = h1.size := ⟨_, rfl⟩
  rw [← gx2] at A2 st2
  have ne2_b1 : b1 ≠ b2 := Nat.ne_of_lt (Nat.lt_of_lt_of_eq A1.lt gx2.symm)
  have gg2 : n0 ≤ b2 := Nat.le_trans Zs1 (Nat.le_of_eq gx2.symm)
  have sz2 : h0.size ≤ b2 := Nat.le_trans K1.1 (Nat.le_of_eq gx2.symm)
  have f2_0 := f1_0.ext E2
  have f2_1 := A1.ext E2
  have f2_2 := fn1_value.ext E2
  have f2_3 := fn1_coder.ext E2
  have Zs2 : n0 ≤ h2.size := Nat.le_trans Zs1 E2.1
  have K2 := K1.ext E2
  have V2 : Arv Z h2 b2 k2 .char (2 : Int32) [(.int (0 : Int32)), (.int (0 : Int32))] (.int (0 : Int32)) := (Arv.new A2 (by decide)).pad (pad_rep [] (.int (0 : Int32)) 2)
  refine own_st st2 ?_
  show own_Goes _ _ _ _ _ _ _ T2 (mkF m 32 #[iv (2 : Int32), iv c0, iv c1] [(.ref b2), (.ref b1), (.ref b1)])
  refine own_st (fun _ kk_ => XS.dup X2.here hx rfl (hb hby d2_32) rfl rfl (XS.iconst X2.here hx rfl (hb hby d2_33) (XS.iloadN X2.here hx rfl (hb hby d2_34) rfl kk_))) ?_
  show own_Goes _ _ _ _ _ _ _ T2 (mkF m 35 #[iv (2 : Int32), iv c0, iv c1] [(.int c0), (.int (0 : Int32)), (.ref b2), (.ref b2), (.ref b1), (.ref b1)])
  obtain ⟨cl3, Ar3, q3, Sz3, Nn3, Hh3, Gg3⟩ := id V2
  obtain ⟨T3, h3, X3, e3, W3, st3⟩ := stC X2 hx hZ e2 Ar3 (j := (0 : Int32)) (inb_of Sz3 ⟨by decide, by decide⟩) (g := (mkF m 35 #[iv (2 : Int32), iv c0, iv c1] [(.int c0), (.int (0 : Int32)), (.ref b2), (.ref b2), (.ref b1), (.ref b1)])) rfl rfl (hb hby d2_35)
  have V3 : Arv Z h3 b2 k2 .char (2 : Int32) [(.int (nar .char c0)), (.int (0 : Int32))] (.int (0 : Int32)) := Arv.set Ar3 q3 Sz3 Nn3 Hh3 Gg3 (fits_nar_char _) W3 0 rfl (Nat.le_of_ble_eq_true rfl)
  have f3_0 := f2_0.wr W3
  have f3_1 := f2_1.wr W3
  have f3_2 := f2_2.other W3 (Or.inl ne2_b1)
  have f3_3 := f2_3.other W3 (Or.inl ne2_b1)
  have Zs3 : n0 ≤ h3.size := Nat.le_trans Zs2 (Nat.le_of_eq W3.size.symm)
  have K3 := K2.wr W3 (Or.inr sz2)
  have N3 := Fr.snoc X3 N0 gg2
  refine own_st st3 ?_
  show own_Goes _ _ _ _ _ _ _ T3 (mkF m 36 #[iv (2 : Int32), iv c0, iv c1] [(.ref b2), (.ref b1), (.ref b1)])
  refine own_st (fun _ kk_ => XS.dup X3.here hx rfl (hb hby d2_36) rfl rfl (XS.iconst X3.here hx rfl (hb hby d2_37) (XS.iloadN X3.here hx rfl (hb hby d2_38) rfl kk_))) ?_
  show own_Goes _ _ _ _ _ _ _ T3 (mkF m 39 #[iv (2 : Int32), iv c0, iv c1] [(.int c1), (.int (1 : Int32)), (.ref b2), (.ref b2), (.ref b1), (.ref b1)])
  obtain ⟨cl4, Ar4, q4, Sz4, Nn4, Hh4, Gg4⟩ := id V3
  obtain ⟨T4, h4, X4, e4, W4, st4⟩ := stC X3 hx hZ e3 Ar4 (j := (1 : Int32)) (inb_of Sz4 ⟨by decide, by decide⟩) (g := (mkF m 39 #[iv (2 : Int32), iv c0, iv c1] [(.int c1), (.int (1 : Int32)), (.ref b2), (.ref b2), (.ref b1), (.ref b1)])) rfl rfl (hb hby d2_39)
  have V4 : Arv Z h4 b2 k2 .char (2 : Int32) [(.int (nar .char c0)), (.int (nar .char c1))] (.int (0 : Int32)) := Arv.set Ar4 q4 Sz4 Nn4 Hh4 Gg4 (fits_nar_char _) W4 1 rfl (Nat.le_of_ble_eq_true rfl)
  have f4_0 := f3_0.wr W4
  have f4_1 := f3_1.wr W4
  have f4_2 := f3_2.other W4 (Or.inl ne2_b1)
  have f4_3 := f3_3.other W4 (Or.inl ne2_b1)
  have Zs4 : n0 ≤ h4.size := Nat.le_trans Zs3 (Nat.le_of_eq W4.size.symm)
  have K4 := K3.wr W4 (Or.inr sz2)
  have N4 := Fr.snoc X4 N3 gg2
  refine own_st st4 ?_
  show own_Goes _ _ _ _ _ _ _ T4 (mkF m 40 #[iv (2 : Int32), iv c0, iv c1] [(.ref b2), (.ref b1), (.ref b1)])
  obtain ⟨_, _, ⟨T5, L5, k5, n5⟩, -, X5, ⟨Lc5, hQ5, l5, y5, z5⟩, st5⟩ := X4.specialBack hx (y := yy5) rfl hown (mvT hZ (own_w hw 13 rfl)) (mvT hZ (own_w hw 14 rfl)) (mvT hZ (own_w hw 15 rfl)) (by decide) (backOf (W := 1) (rmCs2 l Z a0 hw [] (b1) (b2) (c0) (c1) (k2) (cs) h4 n0 Zs4 f4_1 f4_2 f4_3 gg1 V4 f4_0 (by assumption) (by assumption) (by assumption)) hZ (own_w hw 15 rfl) (own_w hw 11 rfl) (by decide) (by decide)) (g := (mkF m 40 #[iv (2 : Int32), iv c0, iv c1] [(.ref b2), (.ref b1), (.ref b1)])) rfl (by rw [hml]; rfl) (Steps.refl _) (a := b1) (argsL := [(.ref b2)]) (rest := [(.ref b1)]) (lenOf pd_7 rfl) rfl (by show 2 * 0 + _ ≤ _; exact Nat.le_of_eq rfl) (hb hby d2_40) (fun _ _ => ⟨rfl, e4, (by decide : 2 + 1 ≤ _), (by decide : 6 + 2 ≤ _)⟩)
  dsimp only [Pt.U, Pt.locs, Pt.cells, Pt.slots] at X5 l5 y5 z5 st5 hQ5
  subst l5 y5 z5
  obtain ⟨x5_d, x5_kd, rfl, Nq5, Kq5, u5_0, u5_1, u5_2, u5_3⟩ := hQ5
  have N5 := Fr.app N4 Nq5
  have f5_0 := own_Sta_keep f4_0 Kq5 (nsS f4_1.nostat ns0)
  have f5_1 := f4_1.keep Kq5
  have f5_4 := V4.keep Kq5 (ninS (Ne.symm ne2_b1) nin0)
  have Zs5 : n0 ≤ T5.heap.size := Nat.le_trans Zs4 Kq5.1
  have K5 := K4.trans Kq5 (allS (Or.inr sz1) all0)
  have ne5_b1 : b1 ≠ x5_d := Nat.ne_of_lt (Nat.lt_of_lt_of_le f4_1.lt u5_0)
  have ne5_b2 : b2 ≠ x5_d := Nat.ne_of_lt (Nat.lt_of_lt_of_le V4.lt u5_0)
  have sz5_d : h0.size ≤ x5_d := Nat.le_trans K4.1 u5_0
  have gg5_d : n0 ≤ x5_d := Nat.le_trans Zs4 u5_0
  refine own_st (fun _ kk_ => st5.trans kk_) ?_
  show own_Goes _ _ _ _ _ _ _ T5 (mkF m 43 #[iv (2 : Int32), iv c0, iv c1] [(.ref b1)])
  refine own_retA X5 hx hlk rfl Bd.returns rfl (hb hby d2_43) (by decide) (by decide) ?_
  show Q2_2 Z c0 c1 cs h0 n0 (some (.ref b1)) T5.heap _
  exact ⟨b1, x5_d, x5_kd, rfl, N5, K5, sz1, f5_1, u5_1, u5_2, u5_3⟩
abbrev rRrm6 : Room := { frames := 1, cells := 0, slots := 0, locals := 12 }
theorem d6_0 : decode prog_31_method_1_code 0 = .ok (.aload_n 0, 1) := by decide +kernel
theorem d6_1 : decode prog_31_method_1_code 1 = .ok (.invokespecial 1, 3) := by decide +kernel
theorem d6_4 : decode prog_31_method_1_code 4 = .ok (.aload_n 0, 1) := by decide +kernel
theorem d6_5 : decode prog_31_method_1_code 5 = .ok (.iload_n 1, 1) := by decide +kernel
theorem d6_6 : decode prog_31_method_1_code 6 = .ok (.putfield 7, 3) := by decide +kernel
theorem d6_9 : decode prog_31_method_1_code 9 = .ok (.aload_n 0, 1) := by decide +kernel
theorem d6_10 : decode prog_31_method_1_code 10 = .ok (.iload_n 2, 1) := by decide +kernel
theorem d6_11 : decode prog_31_method_1_code 11 = .ok (.putfield 13, 3) := by decide +kernel
theorem d6_14 : decode prog_31_method_1_code 14 = .ok (.aload_n 0, 1) := by decide +kernel
theorem d6_15 : decode prog_31_method_1_code 15 = .ok (.aload_n 3, 1) := by decide +kernel
theorem d6_16 : decode prog_31_method_1_code 16 = .ok (.putfield 16, 3) := by decide +kernel
theorem d6_19 : decode prog_31_method_1_code 19 = .ok (.return_, 1) := by decide +kernel
theorem pn_rm6 : plainFor yy11 = true := by first | exact plainFor_of_name (by first | (simp [plainName, overriddenIn]; done) | decide +kernel) | decide +kernel
theorem ef_rm6 (m : MethodId) (a : Addr) (li : Int32) (co : Int32) (me : Addr) : entryFrame m #[(.ref a), (.int li), (.int co), (.ref me)] 4 = (mkF m 0 #[rv a, iv li, iv co, rv me] []) := by first | (simp [entryFrame, mkF, argsToLocals, Value.category]; done) | rfl
def Q6 (Z : State) (a : Addr) (li : Int32) (co : Int32) (me : Addr) (h0 : Heap) (n0 : Nat) (v_ : Option Value) (h_ : Heap) (L_ : List Loc) : Prop := (v_ = none) ∧ (Fr n0 L_) ∧ (Keep h0 h_ [a]) ∧ (Fld Z h_ a "com/example/majra/majra/lang/Command$Refusal" "line" "I" (.int li)) ∧ (Fld Z h_ a "com/example/majra/majra/lang/Command$Refusal" "column" "I" (.int co)) ∧ (Fld Z h_ a "com/example/majra/majra/lang/Command$Refusal" "message" "Ljava/lang/String;" (.ref me))
set_option maxRecDepth 65536 in
set_option maxHeartbeats 40000000 in
theorem rm6 (l : Launch) (Z : State) (a0 : Array Value) (hw : ∀ d ∈ tables_1, d.before a0 Z = true) (ws : List Jvm.Cond) (a : Addr) (li : Int32) (co : Int32) (me : Addr) (h0 : Heap) (n0 : Nat) (Z0 : n0 ≤ h0.size) (p_0 : Exa Z h0 a "com/example/majra/majra/lang/Command$Refusal") (p_1 : Fld Z h0 a "com/example/majra/majra/lang/Command$Refusal" "line" "I" (.int (0 : Int32))) (p_2 : Fld Z h0 a "com/example/majra/majra/lang/Command$Refusal" "column" "I" (.int (0 : Int32))) (p_3 : Fld Z h0 a "com/example/majra/majra/lang/Command$Refusal" "message" "Ljava/lang/String;" .null) (p_4 : n0 ≤ a) :
    MetFree l yy11 (head1 (Jvm.Cond.code yy11 prog_31_method_1_code 4 none :: ws) rRrm6) (fun a_ U_ => a_ = #[(.ref a), (.int li), (.int co), (.ref me)] ∧ Z.Warmed39 U_.vm ∧ U_.heap = h0) (fun _ _ _ _ _ => True) (fun _ U_ o_ U1_ => ∃ v_ L_, o_ = .returned v_ ∧ Q6 Z a li co me h0 n0 v_ U1_.heap L_ ∧ FrameEnd U_ o_ U1_ L_ rRrm6.cells rRrm6.slots) := by
  refine MetFree.of_bodySF pn_rm6 hisR ?_
  intro p e s m args below meth c s₁ Bd hml0 hP hK
  obtain ⟨rfl, hZ, hh⟩ := hP
  have hx := Bd.exec
  have hby := Bd.bytes
  have hlk : meth.locks = false := Bd.notSynchronized
  have hml : c.maxLocals = 4 := hml0
  have hown : s.vm.findClass "com/example/majra/majra/lang/Command$Refusal" = some m.cls := findClass_of_methodNamed Bd.named
  have hnm := (name_of_methodNamed Bd.named Bd.method).1
  have X0 : Stand p l e rRrm6 s m #[(.ref a), (.int li), (.int co), (.ref me)] below meth c s₁ [] 0 0 := Stand.of_body Bd
  have e0 : s₁.heap = h0 := by rw [← hh, Bd.state]; rfl
  have N0 := Fr.nil n0
  show own_Goes p e below s (Q6 Z a li co me h0 n0) rRrm6.cells rRrm6.slots s₁ (entryFrame m #[(.ref a), (.int li), (.int co), (.ref me)] 4)
  rw [ef_rm6 m a li co me]
  show own_Goes p e below s (Q6 Z a li co me h0 n0) rRrm6.cells rRrm6.slots s₁ (mkF m 0 #[rv a, iv li, iv co, rv me] [])
  refine own_st (fun _ kk_ => XS.aloadN X0.here hx rfl (hb hby d6_0) rfl rfl kk_) ?_
  show own_Goes _ _ _ _ _ _ _ s₁ (mkF m 1 #[rv a, iv li, iv co, rv me] [(.ref a)])
  obtain ⟨T1, X1, e1, st1⟩ := initO X0 hx hZ hown (own_w hw 37 rfl) (own_w hw 21 rfl) (own_w hw 22 rfl) e0 (g := (mkF m 1 #[rv a, iv li, iv co, rv me] [(.ref a)])) rfl (by rw [hml]; rfl) rfl (hb hby d6_1) (by decide) (W := 0) (by show 2 * 0 + _ ≤ _; exact Nat.le_of_eq rfl) (by decide)
  refine own_st st1 ?_
  show own_Goes _ _ _ _ _ _ _ T1 (mkF m 4 #[rv a, iv li, iv co, rv me] [])
  refine own_st (fun _ kk_ => XS.aloadN X1.here hx rfl (hb hby d6_4) rfl rfl (XS.iloadN X1.here hx rfl (hb hby d6_5) rfl kk_)) ?_
  show own_Goes _ _ _ _ _ _ _ T1 (mkF m 6 #[rv a, iv li, iv co, rv me] [(.int li), (.ref a)])
  obtain ⟨T2, h2, X2, e2, W2, st2⟩ := putF X1 hx hZ hown (host := "") (Or.inl (own_w hw 38 rfl)) Via.refl e1 p_1 p_0 (Or.inr ⟨(own_w hw 39 rfl), rfl, hnm⟩) (own_w hw 32 rfl) (ty := .int) (by decide) rfl rfl (g := (mkF m 6 #[rv a, iv li, iv co, rv me] [(.int li), (.ref a)])) rfl rfl (hb hby d6_6)
  have fw2 : Fld Z h2 a "com/example/majra/majra/lang/Command$Refusal" "line" "I" (.int li) := p_1.same W2
  have f2_0 := p_0.wr W2
  have f2_2 := p_2.other W2 (Or.inr (slot_ne (Or.inr (own_w hw 41 rfl)) (Or.inr (own_w hw 39 rfl)) (by decide) (t := .int) (t' := .int) (by decide) (by decide)))
  have f2_3 := p_3.other W2 (Or.inr (slot_ne (Or.inr (own_w hw 43 rfl)) (Or.inr (own_w hw 39 rfl)) (by decide) (t := (.object "java/lang/String")) (t' := .int) (by decide) (by decide)))
  have Zs2 : n0 ≤ h2.size := Nat.le_trans Z0 (Nat.le_of_eq W2.size.symm)
  have K2 := (Keep.refl h0 [a]).wr W2 (Or.inl (List.mem_of_getElem? (i := 0) rfl))
  have N2 := Fr.snoc X2 N0 p_4
  refine own_st st2 ?_
  show own_Goes _ _ _ _ _ _ _ T2 (mkF m 9 #[rv a, iv li, iv co, rv me] [])
  refine own_st (fun _ kk_ => XS.aloadN X2.here hx rfl (hb hby d6_9) rfl rfl (XS.iloadN X2.here hx rfl (hb hby d6_10) rfl kk_)) ?_
  show own_Goes _ _ _ _ _ _ _ T2 (mkF m 11 #[rv a, iv li, iv co, rv me] [(.int co), (.ref a)])
  obtain ⟨T3, h3, X3, e3, W3, st3⟩ := putF X2 hx hZ hown (host := "") (Or.inl (own_w hw 40 rfl)) Via.refl e2 f2_2 f2_0 (Or.inr ⟨(own_w hw 41 rfl), rfl, hnm⟩) (own_w hw 32 rfl) (ty := .int) (by decide) rfl rfl (g := (mkF m 11 #[rv a, iv li, iv co, rv me] [(.int co), (.ref a)])) rfl rfl (hb hby d6_11)
  have fw3 : Fld Z h3 a "com/example/majra/majra/lang/Command$Refusal" "column" "I" (.int co) := f2_2.same W3
  have f3_0 := f2_0.wr W3
  have f3_2 := f2_3.other W3 (Or.inr (slot_ne (Or.inr (own_w hw 43 rfl)) (Or.inr (own_w hw 41 rfl)) (by decide) (t := (.object "java/lang/String")) (t' := .int) (by decide) (by decide)))
  have f3_3 := fw2.other W3 (Or.inr (slot_ne (Or.inr (own_w hw 39 rfl)) (Or.inr (own_w hw 41 rfl)) (by decide) (t := .int) (t' := .int) (by decide) (by decide)))
  have Zs3 : n0 ≤ h3.size := Nat.le_trans Zs2 (Nat.le_of_eq W3.size.symm)
  have K3 := K2.wr W3 (Or.inl (List.mem_of_getElem? (i := 0) rfl))
  have N3 := Fr.snoc X3 N2 p_4
  refine own_st st3 ?_
  show own_Goes _ _ _ _ _ _ _ T3 (mkF m 14 #[rv a, iv li, iv co, rv me] [])
  refine own_st (fun _ kk_ => XS.aloadN X3.here hx rfl (hb hby d6_14) rfl rfl (XS.aloadN X3.here hx rfl (hb hby d6_15) rfl rfl kk_)) ?_
  show own_Goes _ _ _ _ _ _ _ T3 (mkF m 16 #[rv a, iv li, iv co, rv me] [(.ref me), (.ref a)])
  obtain ⟨T4, h4, X4, e4, W4, st4⟩ := putF X3 hx hZ hown (host := "") (Or.inl (own_w hw 42 rfl)) Via.refl e3 f3_2 f3_0 (Or.inr ⟨(own_w hw 43 rfl), rfl, hnm⟩) (own_w hw 32 rfl) (ty := (.object "java/lang/String")) (by decide) rfl rfl (g := (mkF m 16 #[rv a, iv li, iv co, rv me] [(.ref me), (.ref a)])) rfl rfl (hb hby d6_16)
  have fw4 : Fld Z h4 a "com/example/majra/majra/lang/Command$Refusal" "message" "Ljava/lang/String;" (.ref me) := f3_2.same W4
  have f4_0 := f3_0.wr W4
  have f4_2 := f3_3.other W4 (Or.inr (slot_ne (Or.inr (own_w hw 39 rfl)) (Or.inr (own_w hw 43 rfl)) (by decide) (t := .int) (t' := (.object "java/lang/String")) (by decide) (by decide)))
  have f4_3 := fw3.other W4 (Or.inr (slot_ne (Or.inr (own_w hw 41 rfl)) (Or.inr (own_w hw 43 rfl)) (by decide) (t := .int) (t' := (.object "java/lang/String")) (by decide) (by decide)))
  have Zs4 : n0 ≤ h4.size := Nat.le_trans Zs3 (Nat.le_of_eq W4.size.symm)
  have K4 := K3.wr W4 (Or.inl (List.mem_of_getElem? (i := 0) rfl))
  have N4 := Fr.snoc X4 N3 p_4
  refine own_st st4 ?_
  show own_Goes _ _ _ _ _ _ _ T4 (mkF m 19 #[rv a, iv li, iv co, rv me] [])
  refine own_ret0 X4 hx hlk Bd.returns (hb hby d6_19) (by decide) (by decide) ?_
  show Q6 Z a li co me h0 n0 none T4.heap _
  rw [e4]
  exact ⟨rfl, N4, K4, f4_2, f4_3, fw4⟩
abbrev rRrmLe0_0 : Room := { frames := 0, cells := 0, slots := 0, locals := 0 }
theorem d16_0 : decode jdk_43_method_13_code 0 = .ok (.aload_n 0, 1) := by decide +kernel
theorem d16_1 : decode jdk_43_method_13_code 1 = .ok (.arraylength, 1) := by decide +kernel
theorem d16_2 : decode jdk_43_method_13_code 2 = .ok (.aload_n 1, 1) := by decide +kernel
theorem d16_3 : decode jdk_43_method_13_code 3 = .ok (.arraylength, 1) := by decide +kernel
theorem d16_4 : decode jdk_43_method_13_code 4 = .ok (.if_icmp .ne 30, 3) := by decide +kernel
theorem d16_7 : decode jdk_43_method_13_code 7 = .ok (.iconst 0, 1) := by decide +kernel
theorem d16_8 : decode jdk_43_method_13_code 8 = .ok (.istore_n 2, 1) := by decide +kernel
theorem d16_9 : decode jdk_43_method_13_code 9 = .ok (.iload_n 2, 1) := by decide +kernel
theorem d16_10 : decode jdk_43_method_13_code 10 = .ok (.aload_n 0, 1) := by decide +kernel
theorem d16_11 : decode jdk_43_method_13_code 11 = .ok (.arraylength, 1) := by decide +kernel
theorem d16_12 : decode jdk_43_method_13_code 12 = .ok (.if_icmp .ge 20, 3) := by decide +kernel
theorem d16_32 : decode jdk_43_method_13_code 32 = .ok (.iconst 1, 1) := by decide +kernel
theorem d16_33 : decode jdk_43_method_13_code 33 = .ok (.ireturn, 1) := by decide +kernel
theorem pn_rmLe0_0 : plainFor yy12 = true := by first | exact plainFor_of_name (by first | (simp [plainName, overriddenIn]; done) | decide +kernel) | decide +kernel
theorem ef_rmLe0_0 (m : MethodId) (d : Addr) (d2 : Addr) : entryFrame m #[(.ref d), (.ref d2)] 3 = (mkF m 0 #[rv d, rv d2, .unset] []) := by first | (simp [entryFrame, mkF, argsToLocals, Value.category]; done) | rfl
def QLe0_0 (Z : State) (d : Addr) (d2 : Addr) (kd : ClassId) (kd2 : ClassId) (h0 : Heap) (n0 : Nat) (v_ : Option Value) (h_ : Heap) (L_ : List Loc) : Prop := (v_ = some (.int (own_b (True)))) ∧ (Fr n0 L_) ∧ (h_ = h0)
set_option maxRecDepth 65536 in
set_option maxHeartbeats 40000000 in
theorem rmLe0_0 (l : Launch) (Z : State) (a0 : Array Value) (hw : ∀ d ∈ tables_1, d.before a0 Z = true) (ws : List Jvm.Cond) (d : Addr) (d2 : Addr) (kd : ClassId) (kd2 : ClassId) (h0 : Heap) (n0 : Nat) (Z0 : n0 ≤ h0.size) (p_0 : Arv Z h0 d kd .byte (0 : Int32) [] (.int (0 : Int32))) (p_1 : Arv Z h0 d2 kd2 .byte (0 : Int32) [] (.int (0 : Int32))) :
    MetFree l yy12 (head1 (Jvm.Cond.code yy12 jdk_43_method_13_code 3 (some .boolean) :: ws) rRrmLe0_0) (fun a_ U_ => a_ = #[(.ref d), (.ref d2)] ∧ Z.Warmed39 U_.vm ∧ U_.heap = h0) (fun _ _ _ _ _ => True) (fun _ U_ o_ U1_ => ∃ v_ L_, o_ = .returned v_ ∧ QLe0_0 Z d d2 kd kd2 h0 n0 v_ U1_.heap L_ ∧ FrameEnd U_ o_ U1_ L_ rRrmLe0_0.cells rRrmLe0_0.slots) := by
  refine MetFree.of_bodySF pn_rmLe0_0 hisR ?_
  intro p e s m args below meth c s₁ Bd hml0 hP hK
  obtain ⟨rfl, hZ, hh⟩ := hP
  have hx := Bd.exec
  have hby := Bd.bytes
  have hlk : meth.locks = false := Bd.notSynchronized
  have hml : c.maxLocals = 3 := hml0
  have hown : s.vm.findClass "java/lang/StringLatin1" = some m.cls := findClass_of_methodNamed Bd.named
  have hnm := (name_of_methodNamed Bd.named Bd.method).1
  have X0 : Stand p l e rRrmLe0_0 s m #[(.ref d), (.ref d2)] below meth c s₁ [] 0 0 := Stand.of_body Bd
  have e0 : s₁.heap = h0 := by rw [← hh, Bd.state]; rfl
  have N0 := Fr.nil n0
  show own_Goes p e below s (QLe0_0 Z d d2 kd kd2 h0 n0) rRrmLe0_0.cells rRrmLe0_0.slots s₁ (entryFrame m #[(.ref d), (.ref d2)] 3)
  rw [ef_rmLe0_0 m d d2]
  show own_Goes p e below s (QLe0_0 Z d d2 kd kd2 h0 n0) rRrmLe0_0.cells rRrmLe0_0.slots s₁ (mkF m 0 #[rv d, rv d2, .unset] [])
  refine own_st (fun _ kk_ => XS.aloadN X0.here hx rfl (hb hby d16_0) rfl rfl kk_) ?_
  show own_Goes _ _ _ _ _ _ _ s₁ (mkF m 1 #[rv d, rv d2, .unset] [(.ref d)])
  obtain ⟨cl1, Ar1, -, Sz1, Nn1, -, -⟩ := id p_0
  refine own_st (fun _ kk_ => X0.arraylength hx (by rw [e0]; exact Ar1.1) (State.isArrayOf_alike hZ.alike Ar1.2.1) (g := (mkF m 1 #[rv d, rv d2, .unset] [(.ref d)])) rfl rfl (hb hby d16_1) _ kk_) ?_
  rw [len_of Sz1 Nn1]
  show own_Goes _ _ _ _ _ _ _ s₁ (mkF m 2 #[rv d, rv d2, .unset] [(.int (0 : Int32))])
  refine own_st (fun _ kk_ => XS.aloadN X0.here hx rfl (hb hby d16_2) rfl rfl kk_) ?_
  show own_Goes _ _ _ _ _ _ _ s₁ (mkF m 3 #[rv d, rv d2, .unset] [(.ref d2), (.int (0 : Int32))])
  obtain ⟨cl2, Ar2, -, Sz2, Nn2, -, -⟩ := id p_1
  refine own_st (fun _ kk_ => X0.arraylength hx (by rw [e0]; exact Ar2.1) (State.isArrayOf_alike hZ.alike Ar2.2.1) (g := (mkF m 3 #[rv d, rv d2, .unset] [(.ref d2), (.int (0 : Int32))])) rfl rfl (hb hby d16_3) _ kk_) ?_
  rw [len_of Sz2 Nn2]
  show own_Goes _ _ _ _ _ _ _ s₁ (mkF m 4 #[rv d, rv d2, .unset] [(.int (0 : Int32)), (.int (0 : Int32))])
  refine own_st (fun _ kk_ => XS.icmpNo X0.here hx rfl (hb hby d16_4) rfl (XT.ii_ne_f (by decide)) (XS.iconst X0.here hx rfl (hb hby d16_7) (XS.istoreN X0.here hx rfl (hb hby d16_8) rfl (l' := #[rv d, rv d2, iv (0 : Int32)]) rfl (XS.iloadN X0.here hx rfl (hb hby d16_9) rfl (XS.aloadN X0.here hx rfl (hb hby d16_10) rfl rfl kk_))))) ?_
  show own_Goes _ _ _ _ _ _ _ s₁ (mkF m 11 #[rv d, rv d2, iv (0 : Int32)] [(.ref d), (.int (0 : Int32))])
  obtain ⟨cl3, Ar3, -, Sz3, Nn3, -, -⟩ := id p_0
  refine own_st (fun _ kk_ => X0.arraylength hx (by rw [e0]; exact Ar3.1) (State.isArrayOf_alike hZ.alike Ar3.2.1) (g := (mkF m 11 #[rv d, rv d2, iv (0 : Int32)] [(.ref d), (.int (0 : Int32))])) rfl rfl (hb hby d16_11) _ kk_) ?_
  rw [len_of Sz3 Nn3]
  show own_Goes _ _ _ _ _ _ _ s₁ (mkF m 12 #[rv d, rv d2, iv (0 : Int32)] [(.int (0 : Int32)), (.int (0 : Int32))])
  refine own_st (fun _ kk_ => XS.icmpYes X0.here hx rfl (pc0 := 12) (pc' := 32) rfl (hb hby d16_12) rfl (XT.ii_ge_t (by decide)) (by decide) (by decide) (XS.iconst X0.here hx rfl (hb hby d16_32) kk_)) ?_
  show own_Goes _ _ _ _ _ _ _ s₁ (mkF m 33 #[rv d, rv d2, iv (0 : Int32)] [(.int (1 : Int32))])
  refine own_retN X0 hx hlk (t := .boolean) Bd.returns (by simp) (hb hby d16_33) (by decide) (by decide) ?_
  show QLe0_0 Z d d2 kd kd2 h0 n0 (some (.int (nar .boolean (1 : Int32)))) s₁.heap _
  rw [e0]
  exact ⟨by exact own_bt trivial, N0, rfl⟩
abbrev rRrmSe0_0 : Room := { frames := 1, cells := 0, slots := 0, locals := 14 }
theorem d8_0 : decode jdk_42_method_66_code 0 = .ok (.aload_n 0, 1) := by decide +kernel
theorem d8_1 : decode jdk_42_method_66_code 1 = .ok (.aload_n 1, 1) := by decide +kernel
theorem d8_2 : decode jdk_42_method_66_code 2 = .ok (.if_acmp .ne 5, 3) := by decide +kernel
theorem d8_7 : decode jdk_42_method_66_code 7 = .ok (.aload_n 1, 1) := by decide +kernel
theorem d8_8 : decode jdk_42_method_66_code 8 = .ok (.instanceof 10, 3) := by decide +kernel
theorem d8_11 : decode jdk_42_method_66_code 11 = .ok (.ifCond .eq 43, 3) := by decide +kernel
theorem d8_14 : decode jdk_42_method_66_code 14 = .ok (.aload_n 1, 1) := by decide +kernel
theorem d8_15 : decode jdk_42_method_66_code 15 = .ok (.checkcast 10, 3) := by decide +kernel
theorem d8_18 : decode jdk_42_method_66_code 18 = .ok (.astore_n 2, 1) := by decide +kernel
theorem d8_19 : decode jdk_42_method_66_code 19 = .ok (.getstatic 38, 3) := by decide +kernel
theorem d8_22 : decode jdk_42_method_66_code 22 = .ok (.ifCond .eq 14, 3) := by decide +kernel
theorem d8_25 : decode jdk_42_method_66_code 25 = .ok (.aload_n 0, 1) := by decide +kernel
theorem d8_26 : decode jdk_42_method_66_code 26 = .ok (.getfield 15, 3) := by decide +kernel
theorem d8_29 : decode jdk_42_method_66_code 29 = .ok (.aload_n 2, 1) := by decide +kernel
theorem d8_30 : decode jdk_42_method_66_code 30 = .ok (.getfield 15, 3) := by decide +kernel
theorem d8_33 : decode jdk_42_method_66_code 33 = .ok (.if_icmp .ne 21, 3) := by decide +kernel
theorem d8_36 : decode jdk_42_method_66_code 36 = .ok (.aload_n 0, 1) := by decide +kernel
theorem d8_37 : decode jdk_42_method_66_code 37 = .ok (.getfield 9, 3) := by decide +kernel
theorem d8_40 : decode jdk_42_method_66_code 40 = .ok (.aload_n 2, 1) := by decide +kernel
theorem d8_41 : decode jdk_42_method_66_code 41 = .ok (.getfield 9, 3) := by decide +kernel
theorem d8_44 : decode jdk_42_method_66_code 44 = .ok (.invokestatic 541, 3) := by decide +kernel
theorem d8_47 : decode jdk_42_method_66_code 47 = .ok (.ifCond .eq 7, 3) := by decide +kernel
theorem d8_50 : decode jdk_42_method_66_code 50 = .ok (.iconst 1, 1) := by decide +kernel
theorem d8_51 : decode jdk_42_method_66_code 51 = .ok (.goto 4, 3) := by decide +kernel
theorem d8_54 : decode jdk_42_method_66_code 54 = .ok (.iconst 0, 1) := by decide +kernel
theorem d8_55 : decode jdk_42_method_66_code 55 = .ok (.ireturn, 1) := by decide +kernel
theorem pd_9 : parseMethodDescriptor "([B[B)Z" = some ⟨[(.array .byte), (.array .byte)], some .boolean⟩ := by decide +kernel
theorem pn_rmSe0_0 : plainFor yy13 = true := by first | exact plainFor_of_name (by first | (simp [plainName, overriddenIn]; done) | decide +kernel) | decide +kernel
theorem ef_rmSe0_0 (m : MethodId) (a : Addr) (o : Addr) : entryFrame m #[(.ref a), (.ref o)] 3 = (mkF m 0 #[rv a, rv o, .unset] []) := by first | (simp [entryFrame, mkF, argsToLocals, Value.category]; done) | rfl
def QSe0_0 (Z : State) (a : Addr) (o : Addr) (d : Addr) (d2 : Addr) (kd : ClassId) (kd2 : ClassId) (cs : Int32) (h0 : Heap) (n0 : Nat) (v_ : Option Value) (h_ : Heap) (L_ : List Loc) : Prop := (v_ = some (.int (own_b (True)))) ∧ (Fr n0 L_) ∧ (h_ = h0)
set_option maxRecDepth 65536 in
set_option maxHeartbeats 40000000 in
theorem rmSe0_0 (l : Launch) (Z : State) (a0 : Array Value) (hw : ∀ d ∈ tables_1, d.before a0 Z = true) (ws : List Jvm.Cond) (a : Addr) (o : Addr) (d : Addr) (d2 : Addr) (kd : ClassId) (kd2 : ClassId) (cs : Int32) (h0 : Heap) (n0 : Nat) (Z0 : n0 ≤ h0.size) (p_0 : Exa Z h0 a "java/lang/String") (p_1 : Fld Z h0 a "java/lang/String" "coder" "B" (.int (0 : Int32))) (p_2 : Fld Z h0 a "java/lang/String" "value" "[B" (.ref d)) (p_3 : Exa Z h0 o "java/lang/String") (p_4 : Fld Z h0 o "java/lang/String" "coder" "B" (.int (0 : Int32))) (p_5 : Fld Z h0 o "java/lang/String" "value" "[B" (.ref d2)) (p_6 : Arv Z h0 d kd .byte (0 : Int32) [] (.int (0 : Int32))) (p_7 : Arv Z h0 d2 kd2 .byte (0 : Int32) [] (.int (0 : Int32))) (p_8 : Sta Z h0 "java/lang/String" "COMPACT_STRINGS" "Z" (.int cs)) (hcs : ¬ cs = (0 : Int32)) (p_10 : a ≠ o) :
    MetFree l yy13 (head1 (Jvm.Cond.code yy13 jdk_42_method_66_code 3 (some .boolean) :: ws) rRrmSe0_0) (fun a_ U_ => a_ = #[(.ref a), (.ref o)] ∧ Z.Warmed39 U_.vm ∧ U_.heap = h0) (fun _ _ _ _ _ => True) (fun _ U_ o_ U1_ => ∃ v_ L_, o_ = .returned v_ ∧ QSe0_0 Z a o d d2 kd kd2 cs h0 n0 v_ U1_.heap L_ ∧ FrameEnd U_ o_ U1_ L_ rRrmSe0_0.cells rRrmSe0_0.slots) := by
  refine MetFree.of_bodySF pn_rmSe0_0 hisR ?_
  intro p e s m args below meth c s₁ Bd hml0 hP hK
  obtain ⟨rfl, hZ, hh⟩ := hP
  have hx := Bd.exec
  have hby := Bd.bytes
  have hlk : meth.locks = false := Bd.notSynchronized
  have hml : c.maxLocals = 3 := hml0
  have hown : s.vm.findClass "java/lang/String" = some m.cls := findClass_of_methodNamed Bd.named
  have hnm := (name_of_methodNamed Bd.named Bd.method).1
  have X0 : Stand p l e rRrmSe0_0 s m #[(.ref a), (.ref o)] below meth c s₁ [] 0 0 := Stand.of_body Bd
  have e0 : s₁.heap = h0 := by rw [← hh, Bd.state]; rfl
  have N0 := Fr.nil n0
  show own_Goes p e below s (QSe0_0 Z a o d d2 kd kd2 cs h0 n0) rRrmSe0_0.cells rRrmSe0_0.slots s₁ (entryFrame m #[(.ref a), (.ref o)] 3)
  rw [ef_rmSe0_0 m a o]
  show own_Goes p e below s (QSe0_0 Z a o d d2 kd kd2 cs h0 n0) rRrmSe0_0.cells rRrmSe0_0.slots s₁ (mkF m 0 #[rv a, rv o, .unset] [])
  refine own_st (fun _ kk_ => XS.aloadN X0.here hx rfl (hb hby d8_0) rfl rfl (XS.aloadN X0.here hx rfl (hb hby d8_1) rfl rfl (XT.acmpYes X0.here hx rfl (pc0 := 2) (pc' := 7) rfl (hb hby d8_2) rfl rfl rfl (XT.aa_ne_t (fun q => p_10 (Value.ref.inj q))) (by decide) (by decide) (XS.aloadN X0.here hx rfl (hb hby d8_7) rfl rfl kk_)))) ?_
  show own_Goes _ _ _ _ _ _ _ s₁ (mkF m 8 #[rv a, rv o, .unset] [(.ref o)])
  obtain ⟨T1, X1, e1, st1⟩ := instY X0 hx hZ hown (own_w hw 76 rfl) e0 (Ins.self p_3) (g := (mkF m 8 #[rv a, rv o, .unset] [(.ref o)])) rfl rfl (hb hby d8_8)
  refine own_st st1 ?_
  show own_Goes _ _ _ _ _ _ _ T1 (mkF m 11 #[rv a, rv o, .unset] [(.int (1 : Int32))])
  refine own_st (fun _ kk_ => XS.ifNo X1.here hx rfl (hb hby d8_11) rfl (XT.i0_eq_f (by decide)) (XS.aloadN X1.here hx rfl (hb hby d8_14) rfl rfl kk_)) ?_
  show own_Goes _ _ _ _ _ _ _ T1 (mkF m 15 #[rv a, rv o, .unset] [(.ref o)])
  obtain ⟨T2, X2, e2, st2⟩ := castY X1 hx hZ hown (own_w hw 76 rfl) e1 (Ins.self p_3) (g := (mkF m 15 #[rv a, rv o, .unset] [(.ref o)])) rfl rfl (hb hby d8_15)
  refine own_st st2 ?_
  show own_Goes _ _ _ _ _ _ _ T2 (mkF m 18 #[rv a, rv o, .unset] [(.ref o)])
  refine own_st (fun _ kk_ => XS.astoreN X2.here hx rfl (hb hby d8_18) rfl rfl (l' := #[rv a, rv o, rv o]) rfl kk_) ?_
  show own_Goes _ _ _ _ _ _ _ T2 (mkF m 19 #[rv a, rv o, rv o] [])
  obtain ⟨T3, X3, e3, st3⟩ := getS2 X2 hx hZ hown (host := "") (Or.inl (own_w hw 58 rfl)) Via.refl e2 p_8 (g := (mkF m 19 #[rv a, rv o, rv o] [])) rfl (hb hby d8_19)
  refine own_st st3 ?_
  show own_Goes _ _ _ _ _ _ _ T3 (mkF m 22 #[rv a, rv o, rv o] [(.int cs)])
  refine own_st (fun _ kk_ => XS.ifNo X3.here hx rfl (hb hby d8_22) rfl (XT.i0_eq_f hcs) (XS.aloadN X3.here hx rfl (hb hby d8_25) rfl rfl kk_)) ?_
  show own_Goes _ _ _ _ _ _ _ T3 (mkF m 26 #[rv a, rv o, rv o] [(.ref a)])
  obtain ⟨T4, X4, e4, st4⟩ := getF X3 hx hZ hown (host := "") (Or.inl (own_w hw 30 rfl)) Via.refl e3 p_1 (g := (mkF m 26 #[rv a, rv o, rv o] [(.ref a)])) rfl rfl (hb hby d8_26)
  refine own_st st4 ?_
  show own_Goes _ _ _ _ _ _ _ T4 (mkF m 29 #[rv a, rv o, rv o] [(.int (0 : Int32))])
  refine own_st (fun _ kk_ => XS.aloadN X4.here hx rfl (hb hby d8_29) rfl rfl kk_) ?_
  show own_Goes _ _ _ _ _ _ _ T4 (mkF m 30 #[rv a, rv o, rv o] [(.ref o), (.int (0 : Int32))])
  obtain ⟨T5, X5, e5, st5⟩ := getF X4 hx hZ hown (host := "") (Or.inl (own_w hw 30 rfl)) Via.refl e4 p_4 (g := (mkF m 30 #[rv a, rv o, rv o] [(.ref o), (.int (0 : Int32))])) rfl rfl (hb hby d8_30)
  refine own_st st5 ?_
  show own_Goes _ _ _ _ _ _ _ T5 (mkF m 33 #[rv a, rv o, rv o] [(.int (0 : Int32)), (.int (0 : Int32))])
  refine own_st (fun _ kk_ => XS.icmpNo X5.here hx rfl (hb hby d8_33) rfl (XT.ii_ne_f (by decide)) (XS.aloadN X5.here hx rfl (hb hby d8_36) rfl rfl kk_)) ?_
  show own_Goes _ _ _ _ _ _ _ T5 (mkF m 37 #[rv a, rv o, rv o] [(.ref a)])
  obtain ⟨T6, X6, e6, st6⟩ := getF X5 hx hZ hown (host := "") (Or.inl (own_w hw 29 rfl)) Via.refl e5 p_2 (g := (mkF m 37 #[rv a, rv o, rv o] [(.ref a)])) rfl rfl (hb hby d8_37)
  refine own_st st6 ?_
  show own_Goes _ _ _ _ _ _ _ T6 (mkF m 40 #[rv a, rv o, rv o] [(.ref d)])
  refine own_st (fun _ kk_ => XS.aloadN X6.here hx rfl (hb hby d8_40) rfl rfl kk_) ?_
  show own_Goes _ _ _ _ _ _ _ T6 (mkF m 41 #[rv a, rv o, rv o] [(.ref o), (.ref d)])
  obtain ⟨T7, X7, e7, st7⟩ := getF X6 hx hZ hown (host := "") (Or.inl (own_w hw 29 rfl)) Via.refl e6 p_5 (g := (mkF m 41 #[rv a, rv o, rv o] [(.ref o), (.ref d)])) rfl rfl (hb hby d8_41)
  refine own_st st7 ?_
  show own_Goes _ _ _ _ _ _ _ T7 (mkF m 44 #[rv a, rv o, rv o] [(.ref d2), (.ref d)])
  obtain ⟨_, _, ⟨T8, L8, k8, n8⟩, -, X8, ⟨Lc8, hQ8, l8, y8, z8⟩, st8⟩ := Jvm.LawKit.callS X7 hx (y := yy12) hown (mvT hZ (own_w hw 83 rfl)) (mvT hZ (own_w hw 84 rfl)) (mvT hZ (own_w hw 74 rfl)) (mvT hZ (own_w hw 85 rfl)) (by decide) (backOf (W := 0) (rmLe0_0 l Z a0 hw [] (d) (d2) (kd) (kd2) h0 n0 Z0 p_6 p_7) hZ (own_w hw 85 rfl) (own_w hw 74 rfl) (by decide) (by decide)) (g := (mkF m 44 #[rv a, rv o, rv o] [(.ref d2), (.ref d)])) rfl (by rw [hml]; rfl) (argsL := [(.ref d), (.ref d2)]) (rest := []) (lenOf pd_9 rfl) rfl (by show 2 * 0 + _ ≤ _; exact Nat.le_of_eq rfl) (hb hby d8_44) (fun _ _ => ⟨rfl, e7, (by decide : 0 + 0 ≤ _), (by decide : 0 + 0 ≤ _)⟩)
  dsimp only [Pt.U, Pt.locs, Pt.cells, Pt.slots] at X8 l8 y8 z8 st8 hQ8
  subst l8 y8 z8
  obtain ⟨rfl, Nq8, eq8⟩ := hQ8
  have N8 := Fr.app N0 Nq8
  refine own_st st8 ?_
  show own_Goes _ _ _ _ _ _ _ T8 (mkF m 47 #[rv a, rv o, rv o] [(.int (own_b (True)))])
  rcases Classical.em (True) with hM | hM
  · refine own_st (fun _ kk_ => XS.ifNo X8.here hx rfl (hb hby d8_47) rfl (XT.i0_eq_f (by rw [own_b1 hM]; decide)) (XS.iconst X8.here hx rfl (hb hby d8_50) (XS.goto X8.here hx rfl (pc0 := 51) (pc' := 55) rfl (hb hby d8_51) (by decide) (by decide) kk_))) ?_
    show own_Goes _ _ _ _ _ _ _ T8 (mkF m 55 #[rv a, rv o, rv o] [(.int (1 : Int32))])
    refine own_retN X8 hx hlk (t := .boolean) Bd.returns (by simp) (hb hby d8_55) (by decide) (by decide) ?_
    show QSe0_0 Z a o d d2 kd kd2 cs h0 n0 (some (.int (nar .boolean (1 : Int32)))) T8.heap _
    rw [eq8]
    exact ⟨by exact own_bt hM, N8, rfl⟩
  · refine own_st (fun _ kk_ => XS.ifYes X8.here hx rfl (pc0 := 47) (pc' := 54) rfl (hb hby d8_47) rfl (XT.i0_eq_t (own_b0 hM)) (by decide) (by decide) (XS.iconst X8.here hx rfl (hb hby d8_54) kk_)) ?_
    show own_Goes _ _ _ _ _ _ _ T8 (mkF m 55 #[rv a, rv o, rv o] [(.int (0 : Int32))])
    refine own_retN X8 hx hlk (t := .boolean) Bd.returns (by simp) (hb hby d8_55) (by decide) (by decide) ?_
    show QSe0_0 Z a o d d2 kd kd2 cs h0 n0 (some (.int (nar .boolean (0 : Int32)))) T8.heap _
    rw [eq8]
    exact ⟨by exact own_bf hM, N8, rfl⟩
abbrev rRrmLe0_1 : Room := { frames := 0, cells := 0, slots := 0, locals := 0 }
theorem d16_34 : decode jdk_43_method_13_code 34 = .ok (.iconst 0, 1) := by decide +kernel
theorem d16_35 : decode jdk_43_method_13_code 35 = .ok (.ireturn, 1) := by decide +kernel
theorem pn_rmLe0_1 : plainFor yy12 = true := by first | exact plainFor_of_name (by first | (simp [plainName, overriddenIn]; done) | decide +kernel) | decide +kernel
theorem ef_rmLe0_1 (m : MethodId) (d : Addr) (d2 : Addr) : entryFrame m #[(.ref d), (.ref d2)] 3 = (mkF m 0 #[rv d, rv d2, .unset] []) := by first | (simp [entryFrame, mkF, argsToLocals, Value.category]; done) | rfl
def QLe0_1 (Z : State) (d : Addr) (d2 : Addr) (y0 : Int32) (kd : ClassId) (kd2 : ClassId) (h0 : Heap) (n0 : Nat) (v_ : Option Value) (h_ : Heap) (L_ : List Loc) : Prop := (v_ = some (.int (own_b (False)))) ∧ (Fr n0 L_) ∧ (h_ = h0)
set_option maxRecDepth 65536 in
set_option maxHeartbeats 40000000 in
theorem rmLe0_1 (l : Launch) (Z : State) (a0 : Array Value) (hw : ∀ d ∈ tables_1, d.before a0 Z = true) (ws : List Jvm.Cond) (d : Addr) (d2 : Addr) (y0 : Int32) (kd : ClassId) (kd2 : ClassId) (h0 : Heap) (n0 : Nat) (Z0 : n0 ≤ h0.size) (p_0 : Arv Z h0 d kd .byte (0 : Int32) [] (.int (0 : Int32))) (p_1 : Arv Z h0 d2 kd2 .byte (1 : Int32) [(.int y0)] (.int (0 : Int32))) :
    MetFree l yy12 (head1 (Jvm.Cond.code yy12 jdk_43_method_13_code 3 (some .boolean) :: ws) rRrmLe0_1) (fun a_ U_ => a_ = #[(.ref d), (.ref d2)] ∧ Z.Warmed39 U_.vm ∧ U_.heap = h0) (fun _ _ _ _ _ => True) (fun _ U_ o_ U1_ => ∃ v_ L_, o_ = .returned v_ ∧ QLe0_1 Z d d2 y0 kd kd2 h0 n0 v_ U1_.heap L_ ∧ FrameEnd U_ o_ U1_ L_ rRrmLe0_1.cells rRrmLe0_1.slots) := by
  refine MetFree.of_bodySF pn_rmLe0_1 hisR ?_
  intro p e s m args below meth c s₁ Bd hml0 hP hK
  obtain ⟨rfl, hZ, hh⟩ := hP
  have hx := Bd.exec
  have hby := Bd.bytes
  have hlk : meth.locks = false := Bd.notSynchronized
  have hml : c.maxLocals = 3 := hml0
  have hown : s.vm.findClass "java/lang/StringLatin1" = some m.cls := findClass_of_methodNamed Bd.named
  have hnm := (name_of_methodNamed Bd.named Bd.method).1
  have X0 : Stand p l e rRrmLe0_1 s m #[(.ref d), (.ref d2)] below meth c s₁ [] 0 0 := Stand.of_body Bd
  have e0 : s₁.heap = h0 := by rw [← hh, Bd.state]; rfl
  have N0 := Fr.nil n0
  show own_Goes p e below s (QLe0_1 Z d d2 y0 kd kd2 h0 n0) rRrmLe0_1.cells rRrmLe0_1.slots s₁ (entryFrame m #[(.ref d), (.ref d2)] 3)
  rw [ef_rmLe0_1 m d d2]
  show own_Goes p e below s (QLe0_1 Z d d2 y0 kd kd2 h0 n0) rRrmLe0_1.cells rRrmLe0_1.slots s₁ (mkF m 0 #[rv d, rv d2, .unset] [])
  refine own_st (fun _ kk_ => XS.aloadN X0.here hx rfl (hb hby d16_0) rfl rfl kk_) ?_
  show own_Goes _ _ _ _ _ _ _ s₁ (mkF m 1 #[rv d, rv d2, .unset] [(.ref d)])
  obtain ⟨cl1, Ar1, -, Sz1, Nn1, -, -⟩ := id p_0
  refine own_st (fun _ kk_ => X0.arraylength hx (by rw [e0]; exact Ar1.1) (State.isArrayOf_alike hZ.alike Ar1.2.1) (g := (mkF m 1 #[rv d, rv d2, .unset] [(.ref d)])) rfl rfl (hb hby d16_1) _ kk_) ?_
  rw [len_of Sz1 Nn1]
  show own_Goes _ _ _ _ _ _ _ s₁ (mkF m 2 #[rv d, rv d2, .unset] [(.int (0 : Int32))])
  refine own_st (fun _ kk_ => XS.aloadN X0.here hx rfl (hb hby d16_2) rfl rfl kk_) ?_
  show own_Goes _ _ _ _ _ _ _ s₁ (mkF m 3 #[rv d, rv d2, .unset] [(.ref d2), (.int (0 : Int32))])
  obtain ⟨cl2, Ar2, -, Sz2, Nn2, -, -⟩ := id p_1
  refine own_st (fun _ kk_ => X0.arraylength hx (by rw [e0]; exact Ar2.1) (State.isArrayOf_alike hZ.alike Ar2.2.1) (g := (mkF m 3 #[rv d, rv d2, .unset] [(.ref d2), (.int (0 : Int32))])) rfl rfl (hb hby d16_3) _ kk_) ?_
  rw [len_of Sz2 Nn2]
  show own_Goes _ _ _ _ _ _ _ s₁ (mkF m 4 #[rv d, rv d2, .unset] [(.int (1 : Int32)), (.int (0 : Int32))])
  refine own_st (fun _ kk_ => XS.icmpYes X0.here hx rfl (pc0 := 4) (pc' := 34) rfl (hb hby d16_4) rfl (XT.ii_ne_t (by decide)) (by decide) (by decide) (XS.iconst X0.here hx rfl (hb hby d16_34) kk_)) ?_
  show own_Goes _ _ _ _ _ _ _ s₁ (mkF m 35 #[rv d, rv d2, .unset] [(.int (0 : Int32))])
  refine own_retN X0 hx hlk (t := .boolean) Bd.returns (by simp) (hb hby d16_35) (by decide) (by decide) ?_
  show QLe0_1 Z d d2 y0 kd kd2 h0 n0 (some (.int (nar .boolean (0 : Int32)))) s₁.heap _
  rw [e0]
  exact ⟨by exact own_bf not_false, N0, rfl⟩
abbrev rRrmSe0_1 : Room := { frames := 1, cells := 0, slots := 0, locals := 14 }
theorem pn_rmSe0_1 : plainFor yy13 = true := by first | exact plainFor_of_name (by first | (simp [plainName, overriddenIn]; done) | decide +kernel) | decide +kernel
theorem ef_rmSe0_1 (m : MethodId) (a : Addr) (o : Addr) : entryFrame m #[(.ref a), (.ref o)] 3 = (mkF m 0 #[rv a, rv o, .unset] []) := by first | (simp [entryFrame, mkF, argsToLocals, Value.category]; done) | rfl
def QSe0_1 (Z : State) (a : Addr) (o : Addr) (y0 : Int32) (d : Addr) (d2 : Addr) (kd : ClassId) (kd2 : ClassId) (cs : Int32) (h0 : Heap) (n0 : Nat) (v_ : Option Value) (h_ : Heap) (L_ : List Loc) : Prop := (v_ = some (.int (own_b (False)))) ∧ (Fr n0 L_) ∧ (h_ = h0)
set_option maxRecDepth 65536 in
set_option maxHeartbeats 40000000 in
theorem rmSe0_1 (l : Launch) (Z : State) (a0 : Array Value) (hw : ∀ d ∈ tables_1, d.before a0 Z = true) (ws : List Jvm.Cond) (a : Addr) (o : Addr) (y0 : Int32) (d : Addr) (d2 : Addr) (kd : ClassId) (kd2 : ClassId) (cs : Int32) (h0 : Heap) (n0 : Nat) (Z0 : n0 ≤ h0.size) (p_0 : Exa Z h0 a "java/lang/String") (p_1 : Fld Z h0 a "java/lang/String" "coder" "B" (.int (0 : Int32))) (p_2 : Fld Z h0 a "java/lang/String" "value" "[B" (.ref d)) (p_3 : Exa Z h0 o "java/lang/String") (p_4 : Fld Z h0 o "java/lang/String" "coder" "B" (.int (0 : Int32))) (p_5 : Fld Z h0 o "java/lang/String" "value" "[B" (.ref d2)) (p_6 : Arv Z h0 d kd .byte (0 : Int32) [] (.int (0 : Int32))) (p_7 : Arv Z h0 d2 kd2 .byte (1 : Int32) [(.int y0)] (.int (0 : Int32))) (p_8 : Sta Z h0 "java/lang/String" "COMPACT_STRINGS" "Z" (.int cs)) (hcs : ¬ cs = (0 : Int32)) (p_10 : a ≠ o) :
    MetFree l yy13 (head1 (Jvm.Cond.code yy13 jdk_42_method_66_code 3 (some .boolean) :: ws) rRrmSe0_1) (fun a_ U_ => a_ = #[(.ref a), (.ref o)] ∧ Z.Warmed39 U_.vm ∧ U_.heap = h0) (fun _ _ _ _ _ => True) (fun _ U_ o_ U1_ => ∃ v_ L_, o_ = .returned v_ ∧ QSe0_1 Z a o y0 d d2 kd kd2 cs h0 n0 v_ U1_.heap L_ ∧ FrameEnd U_ o_ U1_ L_ rRrmSe0_1.cells rRrmSe0_1.slots) := by
  refine MetFree.of_bodySF pn_rmSe0_1 hisR ?_
  intro p e s m args below meth c s₁ Bd hml0 hP hK
  obtain ⟨rfl, hZ, hh⟩ := hP
  have hx := Bd.exec
  have hby := Bd.bytes
  have hlk : meth.locks = false := Bd.notSynchronized
  have hml : c.maxLocals = 3 := hml0
  have hown : s.vm.findClass "java/lang/String" = some m.cls := findClass_of_methodNamed Bd.named
  have hnm := (name_of_methodNamed Bd.named Bd.method).1
  have X0 : Stand p l e rRrmSe0_1 s m #[(.ref a), (.ref o)] below meth c s₁ [] 0 0 := Stand.of_body Bd
  have e0 : s₁.heap = h0 := by rw [← hh, Bd.state]; rfl
  have N0 := Fr.nil n0
  show own_Goes p e below s (QSe0_1 Z a o y0 d d2 kd kd2 cs h0 n0) rRrmSe0_1.cells rRrmSe0_1.slots s₁ (entryFrame m #[(.ref a), (.ref o)] 3)
  rw [ef_rmSe0_1 m a o]
  show own_Goes p e below s (QSe0_1 Z a o y0 d d2 kd kd2 cs h0 n0) rRrmSe0_1.cells rRrmSe0_1.slots s₁ (mkF m 0 #[rv a, rv o, .unset] [])
  refine own_st (fun _ kk_ => XS.aloadN X0.here hx rfl (hb hby d8_0) rfl rfl (XS.aloadN X0.here hx rfl (hb hby d8_1) rfl rfl (XT.acmpYes X0.here hx rfl (pc0 := 2) (pc' := 7) rfl (hb hby d8_2) rfl rfl rfl (XT.aa_ne_t (fun q => p_10 (Value.ref.inj q))) (by decide) (by decide) (XS.aloadN X0.here hx rfl (hb hby d8_7) rfl rfl kk_)))) ?_
  show own_Goes _ _ _ _ _ _ _ s₁ (mkF m 8 #[rv a, rv o, .unset] [(.ref o)])
  obtain ⟨T1, X1, e1, st1⟩ := instY X0 hx hZ hown (own_w hw 76 rfl) e0 (Ins.self p_3) (g := (mkF m 8 #[rv a, rv o, .unset] [(.ref o)])) rfl rfl (hb hby d8_8)
  refine own_st st1 ?_
  show own_Goes _ _ _ _ _ _ _ T1 (mkF m 11 #[rv a, rv o, .unset] [(.int (1 : Int32))])
  refine own_st (fun _ kk_ => XS.ifNo X1.here hx rfl (hb hby d8_11) rfl (XT.i0_eq_f (by decide)) (XS.aloadN X1.here hx rfl (hb hby d8_14) rfl rfl kk_)) ?_
  show own_Goes _ _ _ _ _ _ _ T1 (mkF m 15 #[rv a, rv o, .unset] [(.ref o)])
  obtain ⟨T2, X2, e2, st2⟩ := castY X1 hx hZ hown (own_w hw 76 rfl) e1 (Ins.self p_3) (g := (mkF m 15 #[rv a, rv o, .unset] [(.ref o)])) rfl rfl (hb hby d8_15)
  refine own_st st2 ?_
  show own_Goes _ _ _ _ _ _ _ T2 (mkF m 18 #[rv a, rv o, .unset] [(.ref o)])
  refine own_st (fun _ kk_ => XS.astoreN X2.here hx rfl (hb hby d8_18) rfl rfl (l' := #[rv a, rv o, rv o]) rfl kk_) ?_
  show own_Goes _ _ _ _ _ _ _ T2 (mkF m 19 #[rv a, rv o, rv o] [])
  obtain ⟨T3, X3, e3, st3⟩ := getS2 X2 hx hZ hown (host := "") (Or.inl (own_w hw 58 rfl)) Via.refl e2 p_8 (g := (mkF m 19 #[rv a, rv o, rv o] [])) rfl (hb hby d8_19)
  refine own_st st3 ?_
  show own_Goes _ _ _ _ _ _ _ T3 (mkF m 22 #[rv a, rv o, rv o] [(.int cs)])
  refine own_st (fun _ kk_ => XS.ifNo X3.here hx rfl (hb hby d8_22) rfl (XT.i0_eq_f hcs) (XS.aloadN X3.here hx rfl (hb hby d8_25) rfl rfl kk_)) ?_
  show own_Goes _ _ _ _ _ _ _ T3 (mkF m 26 #[rv a, rv o, rv o] [(.ref a)])
  obtain ⟨T4, X4, e4, st4⟩ := getF X3 hx hZ hown (host := "") (Or.inl (own_w hw 30 rfl)) Via.refl e3 p_1 (g := (mkF m 26 #[rv a, rv o, rv o] [(.ref a)])) rfl rfl (hb hby d8_26)
  refine own_st st4 ?_
  show own_Goes _ _ _ _ _ _ _ T4 (mkF m 29 #[rv a, rv o, rv o] [(.int (0 : Int32))])
  refine own_st (fun _ kk_ => XS.aloadN X4.here hx rfl (hb hby d8_29) rfl rfl kk_) ?_
  show own_Goes _ _ _ _ _ _ _ T4 (mkF m 30 #[rv a, rv o, rv o] [(.ref o), (.int (0 : Int32))])
  obtain ⟨T5, X5, e5, st5⟩ := getF X4 hx hZ hown (host := "") (Or.inl (own_w hw 30 rfl)) Via.refl e4 p_4 (g := (mkF m 30 #[rv a, rv o, rv o] [(.ref o), (.int (0 : Int32))])) rfl rfl (hb hby d8_30)
  refine own_st st5 ?_
  show own_Goes _ _ _ _ _ _ _ T5 (mkF m 33 #[rv a, rv o, rv o] [(.int (0 : Int32)), (.int (0 : Int32))])
  refine own_st (fun _ kk_ => XS.icmpNo X5.here hx rfl (hb hby d8_33) rfl (XT.ii_ne_f (by decide)) (XS.aloadN X5.here hx rfl (hb hby d8_36) rfl rfl kk_)) ?_
  show own_Goes _ _ _ _ _ _ _ T5 (mkF m 37 #[rv a, rv o, rv o] [(.ref a)])
  obtain ⟨T6, X6, e6, st6⟩ := getF X5 hx hZ hown (host := "") (Or.inl (own_w hw 29 rfl)) Via.refl e5 p_2 (g := (mkF m 37 #[rv a, rv o, rv o] [(.ref a)])) rfl rfl (hb hby d8_37)
  refine own_st st6 ?_
  show own_Goes _ _ _ _ _ _ _ T6 (mkF m 40 #[rv a, rv o, rv o] [(.ref d)])
  refine own_st (fun _ kk_ => XS.aloadN X6.here hx rfl (hb hby d8_40) rfl rfl kk_) ?_
  show own_Goes _ _ _ _ _ _ _ T6 (mkF m 41 #[rv a, rv o, rv o] [(.ref o), (.ref d)])
  obtain ⟨T7, X7, e7, st7⟩ := getF X6 hx hZ hown (host := "") (Or.inl (own_w hw 29 rfl)) Via.refl e6 p_5 (g := (mkF m 41 #[rv a, rv o, rv o] [(.ref o), (.ref d)])) rfl rfl (hb hby d8_41)
  refine own_st st7 ?_
  show own_Goes _ _ _ _ _ _ _ T7 (mkF m 44 #[rv a, rv o, rv o] [(.ref d2), (.ref d)])
  obtain ⟨_, _, ⟨T8, L8, k8, n8⟩, -, X8, ⟨Lc8, hQ8, l8, y8, z8⟩, st8⟩ := Jvm.LawKit.callS X7 hx (y := yy12) hown (mvT hZ (own_w hw 83 rfl)) (mvT hZ (own_w hw 84 rfl)) (mvT hZ (own_w hw 74 rfl)) (mvT hZ (own_w hw 85 rfl)) (by decide) (backOf (W := 0) (rmLe0_1 l Z a0 hw [] (d) (d2) (y0) (kd) (kd2) h0 n0 Z0 p_6 p_7) hZ (own_w hw 85 rfl) (own_w hw 74 rfl) (by decide) (by decide)) (g := (mkF m 44 #[rv a, rv o, rv o] [(.ref d2), (.ref d)])) rfl (by rw [hml]; rfl) (argsL := [(.ref d), (.ref d2)]) (rest := []) (lenOf pd_9 rfl) rfl (by show 2 * 0 + _ ≤ _; exact Nat.le_of_eq rfl) (hb hby d8_44) (fun _ _ => ⟨rfl, e7, (by decide : 0 + 0 ≤ _), (by decide : 0 + 0 ≤ _)⟩)
  dsimp only [Pt.U, Pt.locs, Pt.cells, Pt.slots] at X8 l8 y8 z8 st8 hQ8
  subst l8 y8 z8
  obtain ⟨rfl, Nq8, eq8⟩ := hQ8
  have N8 := Fr.app N0 Nq8
  refine own_st st8 ?_
  show own_Goes _ _ _ _ _ _ _ T8 (mkF m 47 #[rv a, rv o, rv o] [(.int (own_b (False)))])
  rcases Classical.em (False) with hM | hM
  · refine own_st (fun _ kk_ => XS.ifNo X8.here hx rfl (hb hby d8_47) rfl (XT.i0_eq_f (by rw [own_b1 hM]; decide)) (XS.iconst X8.here hx rfl (hb hby d8_50) (XS.goto X8.here hx rfl (pc0 := 51) (pc' := 55) rfl (hb hby d8_51) (by decide) (by decide) kk_))) ?_
    show own_Goes _ _ _ _ _ _ _ T8 (mkF m 55 #[rv a, rv o, rv o] [(.int (1 : Int32))])
    refine own_retN X8 hx hlk (t := .boolean) Bd.returns (by simp) (hb hby d8_55) (by decide) (by decide) ?_
    show QSe0_1 Z a o y0 d d2 kd kd2 cs h0 n0 (some (.int (nar .boolean (1 : Int32)))) T8.heap _
    rw [eq8]
    exact ⟨by exact own_bt hM, N8, rfl⟩
  · refine own_st (fun _ kk_ => XS.ifYes X8.here hx rfl (pc0 := 47) (pc' := 54) rfl (hb hby d8_47) rfl (XT.i0_eq_t (own_b0 hM)) (by decide) (by decide) (XS.iconst X8.here hx rfl (hb hby d8_54) kk_)) ?_
    show own_Goes _ _ _ _ _ _ _ T8 (mkF m 55 #[rv a, rv o, rv o] [(.int (0 : Int32))])
    refine own_retN X8 hx hlk (t := .boolean) Bd.returns (by simp) (hb hby d8_55) (by decide) (by decide) ?_
    show QSe0_1 Z a o y0 d d2 kd kd2 cs h0 n0 (some (.int (nar .boolean (0 : Int32)))) T8.heap _
    rw [eq8]
    exact ⟨by exact own_bf hM, N8, rfl⟩
abbrev rRrmLe0_2 : Room := { frames := 0, cells := 0, slots := 0, locals := 0 }
theorem pn_rmLe0_2 : plainFor yy12 = true := by first | exact plainFor_of_name (by first | (simp [plainName, overriddenIn]; done) | decide +kernel) | decide +kernel
theorem ef_rmLe0_2 (m : MethodId) (d : Addr) (d2 : Addr) : entryFrame m #[(.ref d), (.ref d2)] 3 = (mkF m 0 #[rv d, rv d2, .unset] []) := by first | (simp [entryFrame, mkF, argsToLocals, Value.category]; done) | rfl
def QLe0_2 (Z : State) (d : Addr) (d2 : Addr) (y0 : Int32) (y1 : Int32) (kd : ClassId) (kd2 : ClassId) (h0 : Heap) (n0 : Nat) (v_ : Option Value) (h_ : Heap) (L_ : List Loc) : Prop := (v_ = some (.int (own_b (False)))) ∧ (Fr n0 L_) ∧ (h_ = h0)
set_option maxRecDepth 65536 in
set_option maxHeartbeats 40000000 in
theorem rmLe0_2 (l : Launch) (Z : State) (a0 : Array Value) (hw : ∀ d ∈ tables_1, d.before a0 Z = true) (ws : List Jvm.Cond) (d : Addr) (d2 : Addr) (y0 : Int32) (y1 : Int32) (kd : ClassId) (kd2 : ClassId) (h0 : Heap) (n0 : Nat) (Z0 : n0 ≤ h0.size) (p_0 : Arv Z h0 d kd .byte (0 : Int32) [] (.int (0 : Int32))) (p_1 : Arv Z h0 d2 kd2 .byte (2 : Int32) [(.int y0), (.int y1)] (.int (0 : Int32))) :
    MetFree l yy12 (head1 (Jvm.Cond.code yy12 jdk_43_method_13_code 3 (some .boolean) :: ws) rRrmLe0_2) (fun a_ U_ => a_ = #[(.ref d), (.ref d2)] ∧ Z.Warmed39 U_.vm ∧ U_.heap = h0) (fun _ _ _ _ _ => True) (fun _ U_ o_ U1_ => ∃ v_ L_, o_ = .returned v_ ∧ QLe0_2 Z d d2 y0 y1 kd kd2 h0 n0 v_ U1_.heap L_ ∧ FrameEnd U_ o_ U1_ L_ rRrmLe0_2.cells rRrmLe0_2.slots) := by
  refine MetFree.of_bodySF pn_rmLe0_2 hisR ?_
  intro p e s m args below meth c s₁ Bd hml0 hP hK
  obtain ⟨rfl, hZ, hh⟩ := hP
  have hx := Bd.exec
  have hby := Bd.bytes
  have hlk : meth.locks = false := Bd.notSynchronized
  have hml : c.maxLocals = 3 := hml0
  have hown : s.vm.findClass "java/lang/StringLatin1" = some m.cls := findClass_of_methodNamed Bd.named
  have hnm := (name_of_methodNamed Bd.named Bd.method).1
  have X0 : Stand p l e rRrmLe0_2 s m #[(.ref d), (.ref d2)] below meth c s₁ [] 0 0 := Stand.of_body Bd
  have e0 : s₁.heap = h0 := by rw [← hh, Bd.state]; rfl
  have N0 := Fr.nil n0
  show own_Goes p e below s (QLe0_2 Z d d2 y0 y1 kd kd2 h0 n0) rRrmLe0_2.cells rRrmLe0_2.slots s₁ (entryFrame m #[(.ref d), (.ref d2)] 3)
  rw [ef_rmLe0_2 m d d2]
  show own_Goes p e below s (QLe0_2 Z d d2 y0 y1 kd kd2 h0 n0) rRrmLe0_2.cells rRrmLe0_2.slots s₁ (mkF m 0 #[rv d, rv d2, .unset] [])
  refine own_st (fun _ kk_ => XS.aloadN X0.here hx rfl (hb hby d16_0) rfl rfl kk_) ?_
  show own_Goes _ _ _ _ _ _ _ s₁ (mkF m 1 #[rv d, rv d2, .unset] [(.ref d)])
  obtain ⟨cl1, Ar1, -, Sz1, Nn1, -, -⟩ := id p_0
  refine own_st (fun _ kk_ => X0.arraylength hx (by rw [e0]; exact Ar1.1) (State.isArrayOf_alike hZ.alike Ar1.2.1) (g := (mkF m 1 #[rv d, rv d2, .unset] [(.ref d)])) rfl rfl (hb hby d16_1) _ kk_) ?_
  rw [len_of Sz1 Nn1]
  show own_Goes _ _ _ _ _ _ _ s₁ (mkF m 2 #[rv d, rv d2, .unset] [(.int (0 : Int32))])
  refine own_st (fun _ kk_ => XS.aloadN X0.here hx rfl (hb hby d16_2) rfl rfl kk_) ?_
  show own_Goes _ _ _ _ _ _ _ s₁ (mkF m 3 #[rv d, rv d2, .unset] [(.ref d2), (.int (0 : Int32))])
  obtain ⟨cl2, Ar2, -, Sz2, Nn2, -, -⟩ := id p_1
  refine own_st (fun _ kk_ => X0.arraylength hx (by rw [e0]; exact Ar2.1) (State.isArrayOf_alike hZ.alike Ar2.2.1) (g := (mkF m 3 #[rv d, rv d2, .unset] [(.ref d2), (.int (0 : Int32))])) rfl rfl (hb hby d16_3) _ kk_) ?_
  rw [len_of Sz2 Nn2]
  show own_Goes _ _ _ _ _ _ _ s₁ (mkF m 4 #[rv d, rv d2, .unset] [(.int (2 : Int32)), (.int (0 : Int32))])
  refine own_st (fun _ kk_ => XS.icmpYes X0.here hx rfl (pc0 := 4) (pc' := 34) rfl (hb hby d16_4) rfl (XT.ii_ne_t (by decide)) (by decide) (by decide) (XS.iconst X0.here hx rfl (hb hby d16_34) kk_)) ?_
  show own_Goes _ _ _ _ _ _ _ s₁ (mkF m 35 #[rv d, rv d2, .unset] [(.int (0 : Int32))])
  refine own_retN X0 hx hlk (t := .boolean) Bd.returns (by simp) (hb hby d16_35) (by decide) (by decide) ?_
  show QLe0_2 Z d d2 y0 y1 kd kd2 h0 n0 (some (.int (nar .boolean (0 : Int32)))) s₁.heap _
  rw [e0]
  exact ⟨by exact own_bf not_false, N0, rfl⟩
abbrev rRrmSe0_2 : Room := { frames := 1, cells := 0, slots := 0, locals := 14 }
theorem pn_rmSe0_2 : plainFor yy13 = true := by first | exact plainFor_of_name (by first | (simp [plainName, overriddenIn]; done) | decide +kernel) | decide +kernel
theorem ef_rmSe0_2 (m : MethodId) (a : Addr) (o : Addr) : entryFrame m #[(.ref a), (.ref o)] 3 = (mkF m 0 #[rv a, rv o, .unset] []) := by first | (simp [entryFrame, mkF, argsToLocals, Value.category]; done) | rfl
def QSe0_2 (Z : State) (a : Addr) (o : Addr) (y0 : Int32) (y1 : Int32) (d : Addr) (d2 : Addr) (kd : ClassId) (kd2 : ClassId) (cs : Int32) (h0 : Heap) (n0 : Nat) (v_ : Option Value) (h_ : Heap) (L_ : List Loc) : Prop := (v_ = some (.int (own_b (False)))) ∧ (Fr n0 L_) ∧ (h_ = h0)
set_option maxRecDepth 65536 in
set_option maxHeartbeats 40000000 in
theorem rmSe0_2 (l : Launch) (Z : State) (a0 : Array Value) (hw : ∀ d ∈ tables_1, d.before a0 Z = true) (ws : List Jvm.Cond) (a : Addr) (o : Addr) (y0 : Int32) (y1 : Int32) (d : Addr) (d2 : Addr) (kd : ClassId) (kd2 : ClassId) (cs : Int32) (h0 : Heap) (n0 : Nat) (Z0 : n0 ≤ h0.size) (p_0 : Exa Z h0 a "java/lang/String") (p_1 : Fld Z h0 a "java/lang/String" "coder" "B" (.int (0 : Int32))) (p_2 : Fld Z h0 a "java/lang/String" "value" "[B" (.ref d)) (p_3 : Exa Z h0 o "java/lang/String") (p_4 : Fld Z h0 o "java/lang/String" "coder" "B" (.int (0 : Int32))) (p_5 : Fld Z h0 o "java/lang/String" "value" "[B" (.ref d2)) (p_6 : Arv Z h0 d kd .byte (0 : Int32) [] (.int (0 : Int32))) (p_7 : Arv Z h0 d2 kd2 .byte (2 : Int32) [(.int y0), (.int y1)] (.int (0 : Int32))) (p_8 : Sta Z h0 "java/lang/String" "COMPACT_STRINGS" "Z" (.int cs)) (hcs : ¬ cs = (0 : Int32)) (p_10 : a ≠ o) :
    MetFree l yy13 (head1 (Jvm.Cond.code yy13 jdk_42_method_66_code 3 (some .boolean) :: ws) rRrmSe0_2) (fun a_ U_ => a_ = #[(.ref a), (.ref o)] ∧ Z.Warmed39 U_.vm ∧ U_.heap = h0) (fun _ _ _ _ _ => True) (fun _ U_ o_ U1_ => ∃ v_ L_, o_ = .returned v_ ∧ QSe0_2 Z a o y0 y1 d d2 kd kd2 cs h0 n0 v_ U1_.heap L_ ∧ FrameEnd U_ o_ U1_ L_ rRrmSe0_2.cells rRrmSe0_2.slots) := by
  refine MetFree.of_bodySF pn_rmSe0_2 hisR ?_
  intro p e s m args below meth c s₁ Bd hml0 hP hK
  obtain ⟨rfl, hZ, hh⟩ := hP
  have hx := Bd.exec
  have hby := Bd.bytes
  have hlk : meth.locks = false := Bd.notSynchronized
  have hml : c.maxLocals = 3 := hml0
  have hown : s.vm.findClass "java/lang/String" = some m.cls := findClass_of_methodNamed Bd.named
  have hnm := (name_of_methodNamed Bd.named Bd.method).1
  have X0 : Stand p l e rRrmSe0_2 s m #[(.ref a), (.ref o)] below meth c s₁ [] 0 0 := Stand.of_body Bd
  have e0 : s₁.heap = h0 := by rw [← hh, Bd.state]; rfl
  have N0 := Fr.nil n0
  show own_Goes p e below s (QSe0_2 Z a o y0 y1 d d2 kd kd2 cs h0 n0) rRrmSe0_2.cells rRrmSe0_2.slots s₁ (entryFrame m #[(.ref a), (.ref o)] 3)
  rw [ef_rmSe0_2 m a o]
  show own_Goes p e below s (QSe0_2 Z a o y0 y1 d d2 kd kd2 cs h0 n0) rRrmSe0_2.cells rRrmSe0_2.slots s₁ (mkF m 0 #[rv a, rv o, .unset] [])
  refine own_st (fun _ kk_ => XS.aloadN X0.here hx rfl (hb hby d8_0) rfl rfl (XS.aloadN X0.here hx rfl (hb hby d8_1) rfl rfl (XT.acmpYes X0.here hx rfl (pc0 := 2) (pc' := 7) rfl (hb hby d8_2) rfl rfl rfl (XT.aa_ne_t (fun q => p_10 (Value.ref.inj q))) (by decide) (by decide) (XS.aloadN X0.here hx rfl (hb hby d8_7) rfl rfl kk_)))) ?_
  show own_Goes _ _ _ _ _ _ _ s₁ (mkF m 8 #[rv a, rv o, .unset] [(.ref o)])
  obtain ⟨T1, X1, e1, st1⟩ := instY X0 hx hZ hown (own_w hw 76 rfl) e0 (Ins.self p_3) (g := (mkF m 8 #[rv a, rv o, .unset] [(.ref o)])) rfl rfl (hb hby d8_8)
  refine own_st st1 ?_
  show own_Goes _ _ _ _ _ _ _ T1 (mkF m 11 #[rv a, rv o, .unset] [(.int (1 : Int32))])
  refine own_st (fun _ kk_ => XS.ifNo X1.here hx rfl (hb hby d8_11) rfl (XT.i0_eq_f (by decide)) (XS.aloadN X1.here hx rfl (hb hby d8_14) rfl rfl kk_)) ?_
  show own_Goes _ _ _ _ _ _ _ T1 (mkF m 15 #[rv a, rv o, .unset] [(.ref o)])
  obtain ⟨T2, X2, e2, st2⟩ := castY X1 hx hZ hown (own_w hw 76 rfl) e1 (Ins.self p_3) (g := (mkF m 15 #[rv a, rv o, .unset] [(.ref o)])) rfl rfl (hb hby d8_15)
  refine own_st st2 ?_
  show own_Goes _ _ _ _ _ _ _ T2 (mkF m 18 #[rv a, rv o, .unset] [(.ref o)])
  refine own_st (fun _ kk_ => XS.astoreN X2.here hx rfl (hb hby d8_18) rfl rfl (l' := #[rv a, rv o, rv o]) rfl kk_) ?_
  show own_Goes _ _ _ _ _ _ _ T2 (mkF m 19 #[rv a, rv o, rv o] [])
  obtain ⟨T3, X3, e3, st3⟩ := getS2 X2 hx hZ hown (host := "") (Or.inl (own_w hw 58 rfl)) Via.refl e2 p_8 (g := (mkF m 19 #[rv a, rv o, rv o] [])) rfl (hb hby d8_19)
  refine own_st st3 ?_
  show own_Goes _ _ _ _ _ _ _ T3 (mkF m 22 #[rv a, rv o, rv o] [(.int cs)])
  refine own_st (fun _ kk_ => XS.ifNo X3.here hx rfl (hb hby d8_22) rfl (XT.i0_eq_f hcs) (XS.aloadN X3.here hx rfl (hb hby d8_25) rfl rfl kk_)) ?_
  show own_Goes _ _ _ _ _ _ _ T3 (mkF m 26 #[rv a, rv o, rv o] [(.ref a)])
  obtain ⟨T4, X4, e4, st4⟩ := getF X3 hx hZ hown (host := "") (Or.inl (own_w hw 30 rfl)) Via.refl e3 p_1 (g := (mkF m 26 #[rv a, rv o, rv o] [(.ref a)])) rfl rfl (hb hby d8_26)
  refine own_st st4 ?_
  show own_Goes _ _ _ _ _ _ _ T4 (mkF m 29 #[rv a, rv o, rv o] [(.int (0 : Int32))])
  refine own_st (fun _ kk_ => XS.aloadN X4.here hx rfl (hb hby d8_29) rfl rfl kk_) ?_
  show own_Goes _ _ _ _ _ _ _ T4 (mkF m 30 #[rv a, rv o, rv o] [(.ref o), (.int (0 : Int32))])
  obtain ⟨T5, X5, e5, st5⟩ := getF X4 hx hZ hown (host := "") (Or.inl (own_w hw 30 rfl)) Via.refl e4 p_4 (g := (mkF m 30 #[rv a, rv o, rv o] [(.ref o), (.int (0 : Int32))])) rfl rfl (hb hby d8_30)
  refine own_st st5 ?_
  show own_Goes _ _ _ _ _ _ _ T5 (mkF m 33 #[rv a, rv o, rv o] [(.int (0 : Int32)), (.int (0 : Int32))])
  refine own_st (fun _ kk_ => XS.icmpNo X5.here hx rfl (hb hby d8_33) rfl (XT.ii_ne_f (by decide)) (XS.aloadN X5.here hx rfl (hb hby d8_36) rfl rfl kk_)) ?_
  show own_Goes _ _ _ _ _ _ _ T5 (mkF m 37 #[rv a, rv o, rv o] [(.ref a)])
  obtain ⟨T6, X6, e6, st6⟩ := getF X5 hx hZ hown (host := "") (Or.inl (own_w hw 29 rfl)) Via.refl e5 p_2 (g := (mkF m 37 #[rv a, rv o, rv o] [(.ref a)])) rfl rfl (hb hby d8_37)
  refine own_st st6 ?_
  show own_Goes _ _ _ _ _ _ _ T6 (mkF m 40 #[rv a, rv o, rv o] [(.ref d)])
  refine own_st (fun _ kk_ => XS.aloadN X6.here hx rfl (hb hby d8_40) rfl rfl kk_) ?_
  show own_Goes _ _ _ _ _ _ _ T6 (mkF m 41 #[rv a, rv o, rv o] [(.ref o), (.ref d)])
  obtain ⟨T7, X7, e7, st7⟩ := getF X6 hx hZ hown (host := "") (Or.inl (own_w hw 29 rfl)) Via.refl e6 p_5 (g := (mkF m 41 #[rv a, rv o, rv o] [(.ref o), (.ref d)])) rfl rfl (hb hby d8_41)
  refine own_st st7 ?_
  show own_Goes _ _ _ _ _ _ _ T7 (mkF m 44 #[rv a, rv o, rv o] [(.ref d2), (.ref d)])
  obtain ⟨_, _, ⟨T8, L8, k8, n8⟩, -, X8, ⟨Lc8, hQ8, l8, y8, z8⟩, st8⟩ := Jvm.LawKit.callS X7 hx (y := yy12) hown (mvT hZ (own_w hw 83 rfl)) (mvT hZ (own_w hw 84 rfl)) (mvT hZ (own_w hw 74 rfl)) (mvT hZ (own_w hw 85 rfl)) (by decide) (backOf (W := 0) (rmLe0_2 l Z a0 hw [] (d) (d2) (y0) (y1) (kd) (kd2) h0 n0 Z0 p_6 p_7) hZ (own_w hw 85 rfl) (own_w hw 74 rfl) (by decide) (by decide)) (g := (mkF m 44 #[rv a, rv o, rv o] [(.ref d2), (.ref d)])) rfl (by rw [hml]; rfl) (argsL := [(.ref d), (.ref d2)]) (rest := []) (lenOf pd_9 rfl) rfl (by show 2 * 0 + _ ≤ _; exact Nat.le_of_eq rfl) (hb hby d8_44) (fun _ _ => ⟨rfl, e7, (by decide : 0 + 0 ≤ _), (by decide : 0 + 0 ≤ _)⟩)
  dsimp only [Pt.U, Pt.locs, Pt.cells, Pt.slots] at X8 l8 y8 z8 st8 hQ8
  subst l8 y8 z8
  obtain ⟨rfl, Nq8, eq8⟩ := hQ8
  have N8 := Fr.app N0 Nq8
  refine own_st st8 ?_
  show own_Goes _ _ _ _ _ _ _ T8 (mkF m 47 #[rv a, rv o, rv o] [(.int (own_b (False)))])
  rcases Classical.em (False) with hM | hM
  · refine own_st (fun _ kk_ => XS.ifNo X8.here hx rfl (hb hby d8_47) rfl (XT.i0_eq_f (by rw [own_b1 hM]; decide)) (XS.iconst X8.here hx rfl (hb hby d8_50) (XS.goto X8.here hx rfl (pc0 := 51) (pc' := 55) rfl (hb hby d8_51) (by decide) (by decide) kk_))) ?_
    show own_Goes _ _ _ _ _ _ _ T8 (mkF m 55 #[rv a, rv o, rv o] [(.int (1 : Int32))])
    refine own_retN X8 hx hlk (t := .boolean) Bd.returns (by simp) (hb hby d8_55) (by decide) (by decide) ?_
    show QSe0_2 Z a o y0 y1 d d2 kd kd2 cs h0 n0 (some (.int (nar .boolean (1 : Int32)))) T8.heap _
    rw [eq8]
    exact ⟨by exact own_bt hM, N8, rfl⟩
  · refine own_st (fun _ kk_ => XS.ifYes X8.here hx rfl (pc0 := 47) (pc' := 54) rfl (hb hby d8_47) rfl (XT.i0_eq_t (own_b0 hM)) (by decide) (by decide) (XS.iconst X8.here hx rfl (hb hby d8_54) kk_)) ?_
    show own_Goes _ _ _ _ _ _ _ T8 (mkF m 55 #[rv a, rv o, rv o] [(.int (0 : Int32))])
    refine own_retN X8 hx hlk (t := .boolean) Bd.returns (by simp) (hb hby d8_55) (by decide) (by decide) ?_
    show QSe0_2 Z a o y0 y1 d d2 kd kd2 cs h0 n0 (some (.int (nar .boolean (0 : Int32)))) T8.heap _
    rw [eq8]
    exact ⟨by exact own_bf hM, N8, rfl⟩
abbrev rRrmLe1_0 : Room := { frames := 0, cells := 0, slots := 0, locals := 0 }
theorem pn_rmLe1_0 : plainFor yy12 = true := by first | exact plainFor_of_name (by first | (simp [plainName, overriddenIn]; done) | decide +kernel) | decide +kernel
theorem ef_rmLe1_0 (m : MethodId) (d : Addr) (d2 : Addr) : entryFrame m #[(.ref d), (.ref d2)] 3 = (mkF m 0 #[rv d, rv d2, .unset] []) := by first | (simp [entryFrame, mkF, argsToLocals, Value.category]; done) | rfl
def QLe1_0 (Z : State) (d : Addr) (d2 : Addr) (x0 : Int32) (kd : ClassId) (kd2 : ClassId) (h0 : Heap) (n0 : Nat) (v_ : Option Value) (h_ : Heap) (L_ : List Loc) : Prop := (v_ = some (.int (own_b (False)))) ∧ (Fr n0 L_) ∧ (h_ = h0)
set_option maxRecDepth 65536 in
set_option maxHeartbeats 40000000 in
theorem rmLe1_0 (l : Launch) (Z : State) (a0 : Array Value) (hw : ∀ d ∈ tables_1, d.before a0 Z = true) (ws : List Jvm.Cond) (d : Addr) (d2 : Addr) (x0 : Int32) (kd : ClassId) (kd2 : ClassId) (h0 : Heap) (n0 : Nat) (Z0 : n0 ≤ h0.size) (p_0 : Arv Z h0 d kd .byte (1 : Int32) [(.int x0)] (.int (0 : Int32))) (p_1 : Arv Z h0 d2 kd2 .byte (0 : Int32) [] (.int (0 : Int32))) :
    MetFree l yy12 (head1 (Jvm.Cond.code yy12 jdk_43_method_13_code 3 (some .boolean) :: ws) rRrmLe1_0) (fun a_ U_ => a_ = #[(.ref d), (.ref d2)] ∧ Z.Warmed39 U_.vm ∧ U_.heap = h0) (fun _ _ _ _ _ => True) (fun _ U_ o_ U1_ => ∃ v_ L_, o_ = .returned v_ ∧ QLe1_0 Z d d2 x0 kd kd2 h0 n0 v_ U1_.heap L_ ∧ FrameEnd U_ o_ U1_ L_ rRrmLe1_0.cells rRrmLe1_0.slots) := by
  refine MetFree.of_bodySF pn_rmLe1_0 hisR ?_
  intro p e s m args below meth c s₁ Bd hml0 hP hK
  obtain ⟨rfl, hZ, hh⟩ := hP
  have hx := Bd.exec
  have hby := Bd.bytes
  have hlk : meth.locks = false := Bd.notSynchronized
  have hml : c.maxLocals = 3 := hml0
  have hown : s.vm.findClass "java/lang/StringLatin1" = some m.cls := findClass_of_methodNamed Bd.named
  have hnm := (name_of_methodNamed Bd.named Bd.method).1
  have X0 : Stand p l e rRrmLe1_0 s m #[(.ref d), (.ref d2)] below meth c s₁ [] 0 0 := Stand.of_body Bd
  have e0 : s₁.heap = h0 := by rw [← hh, Bd.state]; rfl
  have N0 := Fr.nil n0
  show own_Goes p e below s (QLe1_0 Z d d2 x0 kd kd2 h0 n0) rRrmLe1_0.cells rRrmLe1_0.slots s₁ (entryFrame m #[(.ref d), (.ref d2)] 3)
  rw [ef_rmLe1_0 m d d2]
  show own_Goes p e below s (QLe1_0 Z d d2 x0 kd kd2 h0 n0) rRrmLe1_0.cells rRrmLe1_0.slots s₁ (mkF m 0 #[rv d, rv d2, .unset] [])
  refine own_st (fun _ kk_ => XS.aloadN X0.here hx rfl (hb hby d16_0) rfl rfl kk_) ?_
  show own_Goes _ _ _ _ _ _ _ s₁ (mkF m 1 #[rv d, rv d2, .unset] [(.ref d)])
  obtain ⟨cl1, Ar1, -, Sz1, Nn1, -, -⟩ := id p_0
  refine own_st (fun _ kk_ => X0.arraylength hx (by rw [e0]; exact Ar1.1) (State.isArrayOf_alike hZ.alike Ar1.2.1) (g := (mkF m 1 #[rv d, rv d2, .unset] [(.ref d)])) rfl rfl (hb hby d16_1) _ kk_) ?_
  rw [len_of Sz1 Nn1]
  show own_Goes _ _ _ _ _ _ _ s₁ (mkF m 2 #[rv d, rv d2, .unset] [(.int (1 : Int32))])
  refine own_st (fun _ kk_ => XS.aloadN X0.here hx rfl (hb hby d16_2) rfl rfl kk_) ?_
  show own_Goes _ _ _ _ _ _ _ s₁ (mkF m 3 #[rv d, rv d2, .unset] [(.ref d2), (.int (1 : Int32))])
  obtain ⟨cl2, Ar2, -, Sz2, Nn2, -, -⟩ := id p_1
  refine own_st (fun _ kk_ => X0.arraylength hx (by rw [e0]; exact Ar2.1) (State.isArrayOf_alike hZ.alike Ar2.2.1) (g := (mkF m 3 #[rv d, rv d2, .unset] [(.ref d2), (.int (1 : Int32))])) rfl rfl (hb hby d16_3) _ kk_) ?_
  rw [len_of Sz2 Nn2]
  show own_Goes _ _ _ _ _ _ _ s₁ (mkF m 4 #[rv d, rv d2, .unset] [(.int (0 : Int32)), (.int (1 : Int32))])
  refine own_st (fun _ kk_ => XS.icmpYes X0.here hx rfl (pc0 := 4) (pc' := 34) rfl (hb hby d16_4) rfl (XT.ii_ne_t (by decide)) (by decide) (by decide) (XS.iconst X0.here hx rfl (hb hby d16_34) kk_)) ?_
  show own_Goes _ _ _ _ _ _ _ s₁ (mkF m 35 #[rv d, rv d2, .unset] [(.int (0 : Int32))])
  refine own_retN X0 hx hlk (t := .boolean) Bd.returns (by simp) (hb hby d16_35) (by decide) (by decide) ?_
  show QLe1_0 Z d d2 x0 kd kd2 h0 n0 (some (.int (nar .boolean (0 : Int32)))) s₁.heap _
  rw [e0]
  exact ⟨by exact own_bf not_false, N0, rfl⟩
abbrev rRrmSe1_0 : Room := { frames := 1, cells := 0, slots := 0, locals := 14 }
theorem pn_rmSe1_0 : plainFor yy13 = true := by first | exact plainFor_of_name (by first | (simp [plainName, overriddenIn]; done) | decide +kernel) | decide +kernel
theorem ef_rmSe1_0 (m : MethodId) (a : Addr) (o : Addr) : entryFrame m #[(.ref a), (.ref o)] 3 = (mkF m 0 #[rv a, rv o, .unset] []) := by first | (simp [entryFrame, mkF, argsToLocals, Value.category]; done) | rfl
def QSe1_0 (Z : State) (a : Addr) (o : Addr) (x0 : Int32) (d : Addr) (d2 : Addr) (kd : ClassId) (kd2 : ClassId) (cs : Int32) (h0 : Heap) (n0 : Nat) (v_ : Option Value) (h_ : Heap) (L_ : List Loc) : Prop := (v_ = some (.int (own_b (False)))) ∧ (Fr n0 L_) ∧ (h_ = h0)
set_option maxRecDepth 65536 in
set_option maxHeartbeats 40000000 in
theorem rmSe1_0 (l : Launch) (Z : State) (a0 : Array Value) (hw : ∀ d ∈ tables_1, d.before a0 Z = true) (ws : List Jvm.Cond) (a : Addr) (o : Addr) (x0 : Int32) (d : Addr) (d2 : Addr) (kd : ClassId) (kd2 : ClassId) (cs : Int32) (h0 : Heap) (n0 : Nat) (Z0 : n0 ≤ h0.size) (p_0 : Exa Z h0 a "java/lang/String") (p_1 : Fld Z h0 a "java/lang/String" "coder" "B" (.int (0 : Int32))) (p_2 : Fld Z h0 a "java/lang/String" "value" "[B" (.ref d)) (p_3 : Exa Z h0 o "java/lang/String") (p_4 : Fld Z h0 o "java/lang/String" "coder" "B" (.int (0 : Int32))) (p_5 : Fld Z h0 o "java/lang/String" "value" "[B" (.ref d2)) (p_6 : Arv Z h0 d kd .byte (1 : Int32) [(.int x0)] (.int (0 : Int32))) (p_7 : Arv Z h0 d2 kd2 .byte (0 : Int32) [] (.int (0 : Int32))) (p_8 : Sta Z h0 "java/lang/String" "COMPACT_STRINGS" "Z" (.int cs)) (hcs : ¬ cs = (0 : Int32)) (p_10 : a ≠ o) :
    MetFree l yy13 (head1 (Jvm.Cond.code yy13 jdk_42_method_66_code 3 (some .boolean) :: ws) rRrmSe1_0) (fun a_ U_ => a_ = #[(.ref a), (.ref o)] ∧ Z.Warmed39 U_.vm ∧ U_.heap = h0) (fun _ _ _ _ _ => True) (fun _ U_ o_ U1_ => ∃ v_ L_, o_ = .returned v_ ∧ QSe1_0 Z a o x0 d d2 kd kd2 cs h0 n0 v_ U1_.heap L_ ∧ FrameEnd U_ o_ U1_ L_ rRrmSe1_0.cells rRrmSe1_0.slots) := by
  refine MetFree.of_bodySF pn_rmSe1_0 hisR ?_
  intro p e s m args below meth c s₁ Bd hml0 hP hK
  obtain ⟨rfl, hZ, hh⟩ := hP
  have hx := Bd.exec
  have hby := Bd.bytes
  have hlk : meth.locks = false := Bd.notSynchronized
  have hml : c.maxLocals = 3 := hml0
  have hown : s.vm.findClass "java/lang/String" = some m.cls := findClass_of_methodNamed Bd.named
  have hnm := (name_of_methodNamed Bd.named Bd.method).1
  have X0 : Stand p l e rRrmSe1_0 s m #[(.ref a), (.ref o)] below meth c s₁ [] 0 0 := Stand.of_body Bd
  have e0 : s₁.heap = h0 := by rw [← hh, Bd.state]; rfl
  have N0 := Fr.nil n0
  show own_Goes p e below s (QSe1_0 Z a o x0 d d2 kd kd2 cs h0 n0) rRrmSe1_0.cells rRrmSe1_0.slots s₁ (entryFrame m #[(.ref a), (.ref o)] 3)
  rw [ef_rmSe1_0 m a o]
  show own_Goes p e below s (QSe1_0 Z a o x0 d d2 kd kd2 cs h0 n0) rRrmSe1_0.cells rRrmSe1_0.slots s₁ (mkF m 0 #[rv a, rv o, .unset] [])
  refine own_st (fun _ kk_ => XS.aloadN X0.here hx rfl (hb hby d8_0) rfl rfl (XS.aloadN X0.here hx rfl (hb hby d8_1) rfl rfl (XT.acmpYes X0.here hx rfl (pc0 := 2) (pc' := 7) rfl (hb hby d8_2) rfl rfl rfl (XT.aa_ne_t (fun q => p_10 (Value.ref.inj q))) (by decide) (by decide) (XS.aloadN X0.here hx rfl (hb hby d8_7) rfl rfl kk_)))) ?_
  show own_Goes _ _ _ _ _ _ _ s₁ (mkF m 8 #[rv a, rv o, .unset] [(.ref o)])
  obtain ⟨T1, X1, e1, st1⟩ := instY X0 hx hZ hown (own_w hw 76 rfl) e0 (Ins.self p_3) (g := (mkF m 8 #[rv a, rv o, .unset] [(.ref o)])) rfl rfl (hb hby d8_8)
  refine own_st st1 ?_
  show own_Goes _ _ _ _ _ _ _ T1 (mkF m 11 #[rv a, rv o, .unset] [(.int (1 : Int32))])
  refine own_st (fun _ kk_ => XS.ifNo X1.here hx rfl (hb hby d8_11) rfl (XT.i0_eq_f (by decide)) (XS.aloadN X1.here hx rfl (hb hby d8_14) rfl rfl kk_)) ?_
  show own_Goes _ _ _ _ _ _ _ T1 (mkF m 15 #[rv a, rv o, .unset] [(.ref o)])
  obtain ⟨T2, X2, e2, st2⟩ := castY X1 hx hZ hown (own_w hw 76 rfl) e1 (Ins.self p_3) (g := (mkF m 15 #[rv a, rv o, .unset] [(.ref o)])) rfl rfl (hb hby d8_15)
  refine own_st st2 ?_
  show own_Goes _ _ _ _ _ _ _ T2 (mkF m 18 #[rv a, rv o, .unset] [(.ref o)])
  refine own_st (fun _ kk_ => XS.astoreN X2.here hx rfl (hb hby d8_18) rfl rfl (l' := #[rv a, rv o, rv o]) rfl kk_) ?_
  show own_Goes _ _ _ _ _ _ _ T2 (mkF m 19 #[rv a, rv o, rv o] [])
  obtain ⟨T3, X3, e3, st3⟩ := getS2 X2 hx hZ hown (host := "") (Or.inl (own_w hw 58 rfl)) Via.refl e2 p_8 (g := (mkF m 19 #[rv a, rv o, rv o] [])) rfl (hb hby d8_19)
  refine own_st st3 ?_
  show own_Goes _ _ _ _ _ _ _ T3 (mkF m 22 #[rv a, rv o, rv o] [(.int cs)])
  refine own_st (fun _ kk_ => XS.ifNo X3.here hx rfl (hb hby d8_22) rfl (XT.i0_eq_f hcs) (XS.aloadN X3.here hx rfl (hb hby d8_25) rfl rfl kk_)) ?_
  show own_Goes _ _ _ _ _ _ _ T3 (mkF m 26 #[rv a, rv o, rv o] [(.ref a)])
  obtain ⟨T4, X4, e4, st4⟩ := getF X3 hx hZ hown (host := "") (Or.inl (own_w hw 30 rfl)) Via.refl e3 p_1 (g := (mkF m 26 #[rv a, rv o, rv o] [(.ref a)])) rfl rfl (hb hby d8_26)
  refine own_st st4 ?_
  show own_Goes _ _ _ _ _ _ _ T4 (mkF m 29 #[rv a, rv o, rv o] [(.int (0 : Int32))])
  refine own_st (fun _ kk_ => XS.aloadN X4.here hx rfl (hb hby d8_29) rfl rfl kk_) ?_
  show own_Goes _ _ _ _ _ _ _ T4 (mkF m 30 #[rv a, rv o, rv o] [(.ref o), (.int (0 : Int32))])
  obtain ⟨T5, X5, e5, st5⟩ := getF X4 hx hZ hown (host := "") (Or.inl (own_w hw 30 rfl)) Via.refl e4 p_4 (g := (mkF m 30 #[rv a, rv o, rv o] [(.ref o), (.int (0 : Int32))])) rfl rfl (hb hby d8_30)
  refine own_st st5 ?_
  show own_Goes _ _ _ _ _ _ _ T5 (mkF m 33 #[rv a, rv o, rv o] [(.int (0 : Int32)), (.int (0 : Int32))])
  refine own_st (fun _ kk_ => XS.icmpNo X5.here hx rfl (hb hby d8_33) rfl (XT.ii_ne_f (by decide)) (XS.aloadN X5.here hx rfl (hb hby d8_36) rfl rfl kk_)) ?_
  show own_Goes _ _ _ _ _ _ _ T5 (mkF m 37 #[rv a, rv o, rv o] [(.ref a)])
  obtain ⟨T6, X6, e6, st6⟩ := getF X5 hx hZ hown (host := "") (Or.inl (own_w hw 29 rfl)) Via.refl e5 p_2 (g := (mkF m 37 #[rv a, rv o, rv o] [(.ref a)])) rfl rfl (hb hby d8_37)
  refine own_st st6 ?_
  show own_Goes _ _ _ _ _ _ _ T6 (mkF m 40 #[rv a, rv o, rv o] [(.ref d)])
  refine own_st (fun _ kk_ => XS.aloadN X6.here hx rfl (hb hby d8_40) rfl rfl kk_) ?_
  show own_Goes _ _ _ _ _ _ _ T6 (mkF m 41 #[rv a, rv o, rv o] [(.ref o), (.ref d)])
  obtain ⟨T7, X7, e7, st7⟩ := getF X6 hx hZ hown (host := "") (Or.inl (own_w hw 29 rfl)) Via.refl e6 p_5 (g := (mkF m 41 #[rv a, rv o, rv o] [(.ref o), (.ref d)])) rfl rfl (hb hby d8_41)
  refine own_st st7 ?_
  show own_Goes _ _ _ _ _ _ _ T7 (mkF m 44 #[rv a, rv o, rv o] [(.ref d2), (.ref d)])
  obtain ⟨_, _, ⟨T8, L8, k8, n8⟩, -, X8, ⟨Lc8, hQ8, l8, y8, z8⟩, st8⟩ := Jvm.LawKit.callS X7 hx (y := yy12) hown (mvT hZ (own_w hw 83 rfl)) (mvT hZ (own_w hw 84 rfl)) (mvT hZ (own_w hw 74 rfl)) (mvT hZ (own_w hw 85 rfl)) (by decide) (backOf (W := 0) (rmLe1_0 l Z a0 hw [] (d) (d2) (x0) (kd) (kd2) h0 n0 Z0 p_6 p_7) hZ (own_w hw 85 rfl) (own_w hw 74 rfl) (by decide) (by decide)) (g := (mkF m 44 #[rv a, rv o, rv o] [(.ref d2), (.ref d)])) rfl (by rw [hml]; rfl) (argsL := [(.ref d), (.ref d2)]) (rest := []) (lenOf pd_9 rfl) rfl (by show 2 * 0 + _ ≤ _; exact Nat.le_of_eq rfl) (hb hby d8_44) (fun _ _ => ⟨rfl, e7, (by decide : 0 + 0 ≤ _), (by decide : 0 + 0 ≤ _)⟩)
  dsimp only [Pt.U, Pt.locs, Pt.cells, Pt.slots] at X8 l8 y8 z8 st8 hQ8
  subst l8 y8 z8
  obtain ⟨rfl, Nq8, eq8⟩ := hQ8
  have N8 := Fr.app N0 Nq8
  refine own_st st8 ?_
  show own_Goes _ _ _ _ _ _ _ T8 (mkF m 47 #[rv a, rv o, rv o] [(.int (own_b (False)))])
  rcases Classical.em (False) with hM | hM
  · refine own_st (fun _ kk_ => XS.ifNo X8.here hx rfl (hb hby d8_47) rfl (XT.i0_eq_f (by rw [own_b1 hM]; decide)) (XS.iconst X8.here hx rfl (hb hby d8_50) (XS.goto X8.here hx rfl (pc0 := 51) (pc' := 55) rfl (hb hby d8_51) (by decide) (by decide) kk_))) ?_
    show own_Goes _ _ _ _ _ _ _ T8 (mkF m 55 #[rv a, rv o, rv o] [(.int (1 : Int32))])
    refine own_retN X8 hx hlk (t := .boolean) Bd.returns (by simp) (hb hby d8_55) (by decide) (by decide) ?_
    show QSe1_0 Z a o x0 d d2 kd kd2 cs h0 n0 (some (.int (nar .boolean (1 : Int32)))) T8.heap _
    rw [eq8]
    exact ⟨by exact own_bt hM, N8, rfl⟩
  · refine own_st (fun _ kk_ => XS.ifYes X8.here hx rfl (pc0 := 47) (pc' := 54) rfl (hb hby d8_47) rfl (XT.i0_eq_t (own_b0 hM)) (by decide) (by decide) (XS.iconst X8.here hx rfl (hb hby d8_54) kk_)) ?_
    show own_Goes _ _ _ _ _ _ _ T8 (mkF m 55 #[rv a, rv o, rv o] [(.int (0 : Int32))])
    refine own_retN X8 hx hlk (t := .boolean) Bd.returns (by simp) (hb hby d8_55) (by decide) (by decide) ?_
    show QSe1_0 Z a o x0 d d2 kd kd2 cs h0 n0 (some (.int (nar .boolean (0 : Int32)))) T8.heap _
    rw [eq8]
    exact ⟨by exact own_bf hM, N8, rfl⟩
abbrev rRrmLe1_1 : Room := { frames := 0, cells := 0, slots := 0, locals := 0 }
theorem d16_15 : decode jdk_43_method_13_code 15 = .ok (.aload_n 0, 1) := by decide +kernel
theorem d16_16 : decode jdk_43_method_13_code 16 = .ok (.iload_n 2, 1) := by decide +kernel
theorem d16_17 : decode jdk_43_method_13_code 17 = .ok (.baload, 1) := by decide +kernel
theorem d16_18 : decode jdk_43_method_13_code 18 = .ok (.aload_n 1, 1) := by decide +kernel
theorem d16_19 : decode jdk_43_method_13_code 19 = .ok (.iload_n 2, 1) := by decide +kernel
theorem d16_20 : decode jdk_43_method_13_code 20 = .ok (.baload, 1) := by decide +kernel
theorem d16_21 : decode jdk_43_method_13_code 21 = .ok (.if_icmp .eq 5, 3) := by decide +kernel
theorem d16_24 : decode jdk_43_method_13_code 24 = .ok (.iconst 0, 1) := by decide +kernel
theorem d16_25 : decode jdk_43_method_13_code 25 = .ok (.ireturn, 1) := by decide +kernel
theorem d16_26 : decode jdk_43_method_13_code 26 = .ok (.iinc 2 1, 3) := by decide +kernel
theorem d16_29 : decode jdk_43_method_13_code 29 = .ok (.goto (-20), 3) := by decide +kernel
theorem pn_rmLe1_1 : plainFor yy12 = true := by first | exact plainFor_of_name (by first | (simp [plainName, overriddenIn]; done) | decide +kernel) | decide +kernel
theorem ef_rmLe1_1 (m : MethodId) (d : Addr) (d2 : Addr) : entryFrame m #[(.ref d), (.ref d2)] 3 = (mkF m 0 #[rv d, rv d2, .unset] []) := by first | (simp [entryFrame, mkF, argsToLocals, Value.category]; done) | rfl
def QLe1_1 (Z : State) (d : Addr) (d2 : Addr) (x0 : Int32) (y0 : Int32) (kd : ClassId) (kd2 : ClassId) (h0 : Heap) (n0 : Nat) (v_ : Option Value) (h_ : Heap) (L_ : List Loc) : Prop := (v_ = some (.int (own_b (x0 = y0)))) ∧ (Fr n0 L_) ∧ (h_ = h0)
set_option maxRecDepth 65536 in
set_option maxHeartbeats 40000000 in
theorem rmLe1_1 (l : Launch) (Z : State) (a0 : Array Value) (hw : ∀ d ∈ tables_1, d.before a0 Z = true) (ws : List Jvm.Cond) (d : Addr) (d2 : Addr) (x0 : Int32) (y0 : Int32) (kd : ClassId) (kd2 : ClassId) (h0 : Heap) (n0 : Nat) (Z0 : n0 ≤ h0.size) (p_0 : Arv Z h0 d kd .byte (1 : Int32) [(.int x0)] (.int (0 : Int32))) (p_1 : Arv Z h0 d2 kd2 .byte (1 : Int32) [(.int y0)] (.int (0 : Int32))) :
    MetFree l yy12 (head1 (Jvm.Cond.code yy12 jdk_43_method_13_code 3 (some .boolean) :: ws) rRrmLe1_1) (fun a_ U_ => a_ = #[(.ref d), (.ref d2)] ∧ Z.Warmed39 U_.vm ∧ U_.heap = h0) (fun _ _ _ _ _ => True) (fun _ U_ o_ U1_ => ∃ v_ L_, o_ = .returned v_ ∧ QLe1_1 Z d d2 x0 y0 kd kd2 h0 n0 v_ U1_.heap L_ ∧ FrameEnd U_ o_ U1_ L_ rRrmLe1_1.cells rRrmLe1_1.slots) := by
  refine MetFree.of_bodySF pn_rmLe1_1 hisR ?_
  intro p e s m args below meth c s₁ Bd hml0 hP hK
  obtain ⟨rfl, hZ, hh⟩ := hP
  have hx := Bd.exec
  have hby := Bd.bytes
  have hlk : meth.locks = false := Bd.notSynchronized
  have hml : c.maxLocals = 3 := hml0
  have hown : s.vm.findClass "java/lang/StringLatin1" = some m.cls := findClass_of_methodNamed Bd.named
  have hnm := (name_of_methodNamed Bd.named Bd.method).1
  have X0 : Stand p l e rRrmLe1_1 s m #[(.ref d), (.ref d2)] below meth c s₁ [] 0 0 := Stand.of_body Bd
  have e0 : s₁.heap = h0 := by rw [← hh, Bd.state]; rfl
  have N0 := Fr.nil n0
  show own_Goes p e below s (QLe1_1 Z d d2 x0 y0 kd kd2 h0 n0) rRrmLe1_1.cells rRrmLe1_1.slots s₁ (entryFrame m #[(.ref d), (.ref d2)] 3)
  rw [ef_rmLe1_1 m d d2]
  show own_Goes p e below s (QLe1_1 Z d d2 x0 y0 kd kd2 h0 n0) rRrmLe1_1.cells rRrmLe1_1.slots s₁ (mkF m 0 #[rv d, rv d2, .unset] [])
  refine own_st (fun _ kk_ => XS.aloadN X0.here hx rfl (hb hby d16_0) rfl rfl kk_) ?_
  show own_Goes _ _ _ _ _ _ _ s₁ (mkF m 1 #[rv d, rv d2, .unset] [(.ref d)])
  obtain ⟨cl1, Ar1, -, Sz1, Nn1, -, -⟩ := id p_0
  refine own_st (fun _ kk_ => X0.arraylength hx (by rw [e0]; exact Ar1.1) (State.isArrayOf_alike hZ.alike Ar1.2.1) (g := (mkF m 1 #[rv d, rv d2, .unset] [(.ref d)])) rfl rfl (hb hby d16_1) _ kk_) ?_
  rw [len_of Sz1 Nn1]
  show own_Goes _ _ _ _ _ _ _ s₁ (mkF m 2 #[rv d, rv d2, .unset] [(.int (1 : Int32))])
  refine own_st (fun _ kk_ => XS.aloadN X0.here hx rfl (hb hby d16_2) rfl rfl kk_) ?_
  show own_Goes _ _ _ _ _ _ _ s₁ (mkF m 3 #[rv d, rv d2, .unset] [(.ref d2), (.int (1 : Int32))])
  obtain ⟨cl2, Ar2, -, Sz2, Nn2, -, -⟩ := id p_1
  refine own_st (fun _ kk_ => X0.arraylength hx (by rw [e0]; exact Ar2.1) (State.isArrayOf_alike hZ.alike Ar2.2.1) (g := (mkF m 3 #[rv d, rv d2, .unset] [(.ref d2), (.int (1 : Int32))])) rfl rfl (hb hby d16_3) _ kk_) ?_
  rw [len_of Sz2 Nn2]
  show own_Goes _ _ _ _ _ _ _ s₁ (mkF m 4 #[rv d, rv d2, .unset] [(.int (1 : Int32)), (.int (1 : Int32))])
  refine own_st (fun _ kk_ => XS.icmpNo X0.here hx rfl (hb hby d16_4) rfl (XT.ii_ne_f (by decide)) (XS.iconst X0.here hx rfl (hb hby d16_7) (XS.istoreN X0.here hx rfl (hb hby d16_8) rfl (l' := #[rv d, rv d2, iv (0 : Int32)]) rfl (XS.iloadN X0.here hx rfl (hb hby d16_9) rfl (XS.aloadN X0.here hx rfl (hb hby d16_10) rfl rfl kk_))))) ?_
  show own_Goes _ _ _ _ _ _ _ s₁ (mkF m 11 #[rv d, rv d2, iv (0 : Int32)] [(.ref d), (.int (0 : Int32))])
  obtain ⟨cl3, Ar3, -, Sz3, Nn3, -, -⟩ := id p_0
  refine own_st (fun _ kk_ => X0.arraylength hx (by rw [e0]; exact Ar3.1) (State.isArrayOf_alike hZ.alike Ar3.2.1) (g := (mkF m 11 #[rv d, rv d2, iv (0 : Int32)] [(.ref d), (.int (0 : Int32))])) rfl rfl (hb hby d16_11) _ kk_) ?_
  rw [len_of Sz3 Nn3]
  show own_Goes _ _ _ _ _ _ _ s₁ (mkF m 12 #[rv d, rv d2, iv (0 : Int32)] [(.int (1 : Int32)), (.int (0 : Int32))])
  refine own_st (fun _ kk_ => XS.icmpNo X0.here hx rfl (hb hby d16_12) rfl (XT.ii_ge_f (by decide)) (XS.aloadN X0.here hx rfl (hb hby d16_15) rfl rfl (XS.iloadN X0.here hx rfl (hb hby d16_16) rfl kk_))) ?_
  show own_Goes _ _ _ _ _ _ _ s₁ (mkF m 17 #[rv d, rv d2, iv (0 : Int32)] [(.int (0 : Int32)), (.ref d)])
  obtain ⟨cl4, Ar4, q4, Sz4, Nn4, Hh4, Gg4⟩ := id p_0
  refine own_st (fun _ kk_ => X0.baloadBytes hx (j := (0 : Int32)) (v := (.int x0)) (by rw [e0]; exact Ar4.1) (State.isArrayOf_alike hZ.alike Ar4.2.1) Ar4.2.2 (inb_of Sz4 ⟨by decide, by decide⟩) (Hh4.at (inb_of Sz4 ⟨by decide, by decide⟩) rfl) (g := (mkF m 17 #[rv d, rv d2, iv (0 : Int32)] [(.int (0 : Int32)), (.ref d)])) rfl rfl (hb hby d16_17) _ kk_) ?_
  show own_Goes _ _ _ _ _ _ _ s₁ (mkF m 18 #[rv d, rv d2, iv (0 : Int32)] [(.int x0)])
  refine own_st (fun _ kk_ => XS.aloadN X0.here hx rfl (hb hby d16_18) rfl rfl (XS.iloadN X0.here hx rfl (hb hby d16_19) rfl kk_)) ?_
  show own_Goes _ _ _ _ _ _ _ s₁ (mkF m 20 #[rv d, rv d2, iv (0 : Int32)] [(.int (0 : Int32)), (.ref d2), (.int x0)])
  obtain ⟨cl5, Ar5, q5, Sz5, Nn5, Hh5, Gg5⟩ := id p_1
  refine own_st (fun _ kk_ => X0.baloadBytes hx (j := (0 : Int32)) (v := (.int y0)) (by rw [e0]; exact Ar5.1) (State.isArrayOf_alike hZ.alike Ar5.2.1) Ar5.2.2 (inb_of Sz5 ⟨by decide, by decide⟩) (Hh5.at (inb_of Sz5 ⟨by decide, by decide⟩) rfl) (g := (mkF m 20 #[rv d, rv d2, iv (0 : Int32)] [(.int (0 : Int32)), (.ref d2), (.int x0)])) rfl rfl (hb hby d16_20) _ kk_) ?_
  show own_Goes _ _ _ _ _ _ _ s₁ (mkF m 21 #[rv d, rv d2, iv (0 : Int32)] [(.int y0), (.int x0)])
  rcases Classical.em (x0 = y0) with q0 | q0
  · refine own_st (fun _ kk_ => XS.icmpYes X0.here hx rfl (pc0 := 21) (pc' := 26) rfl (hb hby d16_21) rfl (XT.ii_eq_t q0) (by decide) (by decide) (XS.iinc X0.here hx rfl (hb hby d16_26) rfl (l' := #[rv d, rv d2, iv (1 : Int32)]) rfl (XS.goto X0.here hx rfl (pc0 := 29) (pc' := 9) rfl (hb hby d16_29) (by decide) (by decide) (XS.iloadN X0.here hx rfl (hb hby d16_9) rfl (XS.aloadN X0.here hx rfl (hb hby d16_10) rfl rfl kk_))))) ?_
    show own_Goes _ _ _ _ _ _ _ s₁ (mkF m 11 #[rv d, rv d2, iv (1 : Int32)] [(.ref d), (.int (1 : Int32))])
    obtain ⟨cl6, Ar6, -, Sz6, Nn6, -, -⟩ := id p_0
    refine own_st (fun _ kk_ => X0.arraylength hx (by rw [e0]; exact Ar6.1) (State.isArrayOf_alike hZ.alike Ar6.2.1) (g := (mkF m 11 #[rv d, rv d2, iv (1 : Int32)] [(.ref d), (.int (1 : Int32))])) rfl rfl (hb hby d16_11) _ kk_) ?_
    rw [len_of Sz6 Nn6]
    show own_Goes _ _ _ _ _ _ _ s₁ (mkF m 12 #[rv d, rv d2, iv (1 : Int32)] [(.int (1 : Int32)), (.int (1 : Int32))])
    refine own_st (fun _ kk_ => XS.icmpYes X0.here hx rfl (pc0 := 12) (pc' := 32) rfl (hb hby d16_12) rfl (XT.ii_ge_t (by decide)) (by decide) (by decide) (XS.iconst X0.here hx rfl (hb hby d16_32) kk_)) ?_
    show own_Goes _ _ _ _ _ _ _ s₁ (mkF m 33 #[rv d, rv d2, iv (1 : Int32)] [(.int (1 : Int32))])
    refine own_retN X0 hx hlk (t := .boolean) Bd.returns (by simp) (hb hby d16_33) (by decide) (by decide) ?_
    show QLe1_1 Z d d2 x0 y0 kd kd2 h0 n0 (some (.int (nar .boolean (1 : Int32)))) s₁.heap _
    rw [e0]
    exact ⟨by exact own_bt q0, N0, rfl⟩
  · refine own_st (fun _ kk_ => XS.icmpNo X0.here hx rfl (hb hby d16_21) rfl (XT.ii_eq_f q0) (XS.iconst X0.here hx rfl (hb hby d16_24) kk_)) ?_
    show own_Goes _ _ _ _ _ _ _ s₁ (mkF m 25 #[rv d, rv d2, iv (0 : Int32)] [(.int (0 : Int32))])
    refine own_retN X0 hx hlk (t := .boolean) Bd.returns (by simp) (hb hby d16_25) (by decide) (by decide) ?_
    show QLe1_1 Z d d2 x0 y0 kd kd2 h0 n0 (some (.int (nar .boolean (0 : Int32)))) s₁.heap _
    rw [e0]
    exact ⟨by exact own_bf (fun k => q0 k), N0, rfl⟩
abbrev rRrmSe1_1 : Room := { frames := 1, cells := 0, slots := 0, locals := 14 }
theorem pn_rmSe1_1 : plainFor yy13 = true := by first | exact plainFor_of_name (by first | (simp [plainName, overriddenIn]; done) | decide +kernel) | decide +kernel
theorem ef_rmSe1_1 (m : MethodId) (a : Addr) (o : Addr) : entryFrame m #[(.ref a), (.ref o)] 3 = (mkF m 0 #[rv a, rv o, .unset] []) := by first | (simp [entryFrame, mkF, argsToLocals, Value.category]; done) | rfl
def QSe1_1 (Z : State) (a : Addr) (o : Addr) (x0 : Int32) (y0 : Int32) (d : Addr) (d2 : Addr) (kd : ClassId) (kd2 : ClassId) (cs : Int32) (h0 : Heap) (n0 : Nat) (v_ : Option Value) (h_ : Heap) (L_ : List Loc) : Prop := (v_ = some (.int (own_b (x0 = y0)))) ∧ (Fr n0 L_) ∧ (h_ = h0)
set_option maxRecDepth 65536 in
set_option maxHeartbeats 40000000 in
theorem rmSe1_1 (l : Launch) (Z : State) (a0 : Array Value) (hw : ∀ d ∈ tables_1, d.before a0 Z = true) (ws : List Jvm.Cond) (a : Addr) (o : Addr) (x0 : Int32) (y0 : Int32) (d : Addr) (d2 : Addr) (kd : ClassId) (kd2 : ClassId) (cs : Int32) (h0 : Heap) (n0 : Nat) (Z0 : n0 ≤ h0.size) (p_0 : Exa Z h0 a "java/lang/String") (p_1 : Fld Z h0 a "java/lang/String" "coder" "B" (.int (0 : Int32))) (p_2 : Fld Z h0 a "java/lang/String" "value" "[B" (.ref d)) (p_3 : Exa Z h0 o "java/lang/String") (p_4 : Fld Z h0 o "java/lang/String" "coder" "B" (.int (0 : Int32))) (p_5 : Fld Z h0 o "java/lang/String" "value" "[B" (.ref d2)) (p_6 : Arv Z h0 d kd .byte (1 : Int32) [(.int x0)] (.int (0 : Int32))) (p_7 : Arv Z h0 d2 kd2 .byte (1 : Int32) [(.int y0)] (.int (0 : Int32))) (p_8 : Sta Z h0 "java/lang/String" "COMPACT_STRINGS" "Z" (.int cs)) (hcs : ¬ cs = (0 : Int32)) (p_10 : a ≠ o) :
    MetFree l yy13 (head1 (Jvm.Cond.code yy13 jdk_42_method_66_code 3 (some .boolean) :: ws) rRrmSe1_1) (fun a_ U_ => a_ = #[(.ref a), (.ref o)] ∧ Z.Warmed39 U_.vm ∧ U_.heap = h0) (fun _ _ _ _ _ => True) (fun _ U_ o_ U1_ => ∃ v_ L_, o_ = .returned v_ ∧ QSe1_1 Z a o x0 y0 d d2 kd kd2 cs h0 n0 v_ U1_.heap L_ ∧ FrameEnd U_ o_ U1_ L_ rRrmSe1_1.cells rRrmSe1_1.slots) := by
  refine MetFree.of_bodySF pn_rmSe1_1 hisR ?_
  intro p e s m args below meth c s₁ Bd hml0 hP hK
  obtain ⟨rfl, hZ, hh⟩ := hP
  have hx := Bd.exec
  have hby := Bd.bytes
  have hlk : meth.locks = false := Bd.notSynchronized
  have hml : c.maxLocals = 3 := hml0
  have hown : s.vm.findClass "java/lang/String" = some m.cls := findClass_of_methodNamed Bd.named
  have hnm := (name_of_methodNamed Bd.named Bd.method).1
  have X0 : Stand p l e rRrmSe1_1 s m #[(.ref a), (.ref o)] below meth c s₁ [] 0 0 := Stand.of_body Bd
  have e0 : s₁.heap = h0 := by rw [← hh, Bd.state]; rfl
  have N0 := Fr.nil n0
  show own_Goes p e below s (QSe1_1 Z a o x0 y0 d d2 kd kd2 cs h0 n0) rRrmSe1_1.cells rRrmSe1_1.slots s₁ (entryFrame m #[(.ref a), (.ref o)] 3)
  rw [ef_rmSe1_1 m a o]
  show own_Goes p e below s (QSe1_1 Z a o x0 y0 d d2 kd kd2 cs h0 n0) rRrmSe1_1.cells rRrmSe1_1.slots s₁ (mkF m 0 #[rv a, rv o, .unset] [])
  refine own_st (fun _ kk_ => XS.aloadN X0.here hx rfl (hb hby d8_0) rfl rfl (XS.aloadN X0.here hx rfl (hb hby d8_1) rfl rfl (XT.acmpYes X0.here hx rfl (pc0 := 2) (pc' := 7) rfl (hb hby d8_2) rfl rfl rfl (XT.aa_ne_t (fun q => p_10 (Value.ref.inj q))) (by decide) (by decide) (XS.aloadN X0.here hx rfl (hb hby d8_7) rfl rfl kk_)))) ?_
  show own_Goes _ _ _ _ _ _ _ s₁ (mkF m 8 #[rv a, rv o, .unset] [(.ref o)])
  obtain ⟨T1, X1, e1, st1⟩ := instY X0 hx hZ hown (own_w hw 76 rfl) e0 (Ins.self p_3) (g := (mkF m 8 #[rv a, rv o, .unset] [(.ref o)])) rfl rfl (hb hby d8_8)
  refine own_st st1 ?_
  show own_Goes _ _ _ _ _ _ _ T1 (mkF m 11 #[rv a, rv o, .unset] [(.int (1 : Int32))])
  refine own_st (fun _ kk_ => XS.ifNo X1.here hx rfl (hb hby d8_11) rfl (XT.i0_eq_f (by decide)) (XS.aloadN X1.here hx rfl (hb hby d8_14) rfl rfl kk_)) ?_
  show own_Goes _ _ _ _ _ _ _ T1 (mkF m 15 #[rv a, rv o, .unset] [(.ref o)])
  obtain ⟨T2, X2, e2, st2⟩ := castY X1 hx hZ hown (own_w hw 76 rfl) e1 (Ins.self p_3) (g := (mkF m 15 #[rv a, rv o, .unset] [(.ref o)])) rfl rfl (hb hby d8_15)
  refine own_st st2 ?_
  show own_Goes _ _ _ _ _ _ _ T2 (mkF m 18 #[rv a, rv o, .unset] [(.ref o)])
  refine own_st (fun _ kk_ => XS.astoreN X2.here hx rfl (hb hby d8_18) rfl rfl (l' := #[rv a, rv o, rv o]) rfl kk_) ?_
  show own_Goes _ _ _ _ _ _ _ T2 (mkF m 19 #[rv a, rv o, rv o] [])
  obtain ⟨T3, X3, e3, st3⟩ := getS2 X2 hx hZ hown (host := "") (Or.inl (own_w hw 58 rfl)) Via.refl e2 p_8 (g := (mkF m 19 #[rv a, rv o, rv o] [])) rfl (hb hby d8_19)
  refine own_st st3 ?_
  show own_Goes _ _ _ _ _ _ _ T3 (mkF m 22 #[rv a, rv o, rv o] [(.int cs)])
  refine own_st (fun _ kk_ => XS.ifNo X3.here hx rfl (hb hby d8_22) rfl (XT.i0_eq_f hcs) (XS.aloadN X3.here hx rfl (hb hby d8_25) rfl rfl kk_)) ?_
  show own_Goes _ _ _ _ _ _ _ T3 (mkF m 26 #[rv a, rv o, rv o] [(.ref a)])
  obtain ⟨T4, X4, e4, st4⟩ := getF X3 hx hZ hown (host := "") (Or.inl (own_w hw 30 rfl)) Via.refl e3 p_1 (g := (mkF m 26 #[rv a, rv o, rv o] [(.ref a)])) rfl rfl (hb hby d8_26)
  refine own_st st4 ?_
  show own_Goes _ _ _ _ _ _ _ T4 (mkF m 29 #[rv a, rv o, rv o] [(.int (0 : Int32))])
  refine own_st (fun _ kk_ => XS.aloadN X4.here hx rfl (hb hby d8_29) rfl rfl kk_) ?_
  show own_Goes _ _ _ _ _ _ _ T4 (mkF m 30 #[rv a, rv o, rv o] [(.ref o), (.int (0 : Int32))])
  obtain ⟨T5, X5, e5, st5⟩ := getF X4 hx hZ hown (host := "") (Or.inl (own_w hw 30 rfl)) Via.refl e4 p_4 (g := (mkF m 30 #[rv a, rv o, rv o] [(.ref o), (.int (0 : Int32))])) rfl rfl (hb hby d8_30)
  refine own_st st5 ?_
  show own_Goes _ _ _ _ _ _ _ T5 (mkF m 33 #[rv a, rv o, rv o] [(.int (0 : Int32)), (.int (0 : Int32))])
  refine own_st (fun _ kk_ => XS.icmpNo X5.here hx rfl (hb hby d8_33) rfl (XT.ii_ne_f (by decide)) (XS.aloadN X5.here hx rfl (hb hby d8_36) rfl rfl kk_)) ?_
  show own_Goes _ _ _ _ _ _ _ T5 (mkF m 37 #[rv a, rv o, rv o] [(.ref a)])
  obtain ⟨T6, X6, e6, st6⟩ := getF X5 hx hZ hown (host := "") (Or.inl (own_w hw 29 rfl)) Via.refl e5 p_2 (g := (mkF m 37 #[rv a, rv o, rv o] [(.ref a)])) rfl rfl (hb hby d8_37)
  refine own_st st6 ?_
  show own_Goes _ _ _ _ _ _ _ T6 (mkF m 40 #[rv a, rv o, rv o] [(.ref d)])
  refine own_st (fun _ kk_ => XS.aloadN X6.here hx rfl (hb hby d8_40) rfl rfl kk_) ?_
  show own_Goes _ _ _ _ _ _ _ T6 (mkF m 41 #[rv a, rv o, rv o] [(.ref o), (.ref d)])
  obtain ⟨T7, X7, e7, st7⟩ := getF X6 hx hZ hown (host := "") (Or.inl (own_w hw 29 rfl)) Via.refl e6 p_5 (g := (mkF m 41 #[rv a, rv o, rv o] [(.ref o), (.ref d)])) rfl rfl (hb hby d8_41)
  refine own_st st7 ?_
  show own_Goes _ _ _ _ _ _ _ T7 (mkF m 44 #[rv a, rv o, rv o] [(.ref d2), (.ref d)])
  obtain ⟨_, _, ⟨T8, L8, k8, n8⟩, -, X8, ⟨Lc8, hQ8, l8, y8, z8⟩, st8⟩ := Jvm.LawKit.callS X7 hx (y := yy12) hown (mvT hZ (own_w hw 83 rfl)) (mvT hZ (own_w hw 84 rfl)) (mvT hZ (own_w hw 74 rfl)) (mvT hZ (own_w hw 85 rfl)) (by decide) (backOf (W := 0) (rmLe1_1 l Z a0 hw [] (d) (d2) (x0) (y0) (kd) (kd2) h0 n0 Z0 p_6 p_7) hZ (own_w hw 85 rfl) (own_w hw 74 rfl) (by decide) (by decide)) (g := (mkF m 44 #[rv a, rv o, rv o] [(.ref d2), (.ref d)])) rfl (by rw [hml]; rfl) (argsL := [(.ref d), (.ref d2)]) (rest := []) (lenOf pd_9 rfl) rfl (by show 2 * 0 + _ ≤ _; exact Nat.le_of_eq rfl) (hb hby d8_44) (fun _ _ => ⟨rfl, e7, (by decide : 0 + 0 ≤ _), (by decide : 0 + 0 ≤ _)⟩)
  dsimp only [Pt.U, Pt.locs, Pt.cells, Pt.slots] at X8 l8 y8 z8 st8 hQ8
  subst l8 y8 z8
  obtain ⟨rfl, Nq8, eq8⟩ := hQ8
  have N8 := Fr.app N0 Nq8
  refine own_st st8 ?_
  show own_Goes _ _ _ _ _ _ _ T8 (mkF m 47 #[rv a, rv o, rv o] [(.int (own_b (x0 = y0)))])
  rcases Classical.em (x0 = y0) with hM | hM
  · refine own_st (fun _ kk_ => XS.ifNo X8.here hx rfl (hb hby d8_47) rfl (XT.i0_eq_f (by rw [own_b1 hM]; decide)) (XS.iconst X8.here hx rfl (hb hby d8_50) (XS.goto X8.here hx rfl (pc0 := 51) (pc' := 55) rfl (hb hby d8_51) (by decide) (by decide) kk_))) ?_
    show own_Goes _ _ _ _ _ _ _ T8 (mkF m 55 #[rv a, rv o, rv o] [(.int (1 : Int32))])
    refine own_retN X8 hx hlk (t := .boolean) Bd.returns (by simp) (hb hby d8_55) (by decide) (by decide) ?_
    show QSe1_1 Z a o x0 y0 d d2 kd kd2 cs h0 n0 (some (.int (nar .boolean (1 : Int32)))) T8.heap _
    rw [eq8]
    exact ⟨by exact own_bt hM, N8, rfl⟩
  · refine own_st (fun _ kk_ => XS.ifYes X8.here hx rfl (pc0 := 47) (pc' := 54) rfl (hb hby d8_47) rfl (XT.i0_eq_t (own_b0 hM)) (by decide) (by decide) (XS.iconst X8.here hx rfl (hb hby d8_54) kk_)) ?_
    show own_Goes _ _ _ _ _ _ _ T8 (mkF m 55 #[rv a, rv o, rv o] [(.int (0 : Int32))])
    refine own_retN X8 hx hlk (t := .boolean) Bd.returns (by simp) (hb hby d8_55) (by decide) (by decide) ?_
    show QSe1_1 Z a o x0 y0 d d2 kd kd2 cs h0 n0 (some (.int (nar .boolean (0 : Int32)))) T8.heap _
    rw [eq8]
    exact ⟨by exact own_bf hM, N8, rfl⟩
abbrev rRrmLe1_2 : Room := { frames := 0, cells := 0, slots := 0, locals := 0 }
theorem pn_rmLe1_2 : plainFor yy12 = true := by first | exact plainFor_of_name (by first | (simp [plainName, overriddenIn]; done) | decide +kernel) | decide +kernel
theorem ef_rmLe1_2 (m : MethodId) (d : Addr) (d2 : Addr) : entryFrame m #[(.ref d), (.ref d2)] 3 = (mkF m 0 #[rv d, rv d2, .unset] []) := by first | (simp [entryFrame, mkF, argsToLocals, Value.category]; done) | rfl
def QLe1_2 (Z : State) (d : Addr) (d2 : Addr) (x0 : Int32) (y0 : Int32) (y1 : Int32) (kd : ClassId) (kd2 : ClassId) (h0 : Heap) (n0 : Nat) (v_ : Option Value) (h_ : Heap) (L_ : List Loc) : Prop := (v_ = some (.int (own_b (False)))) ∧ (Fr n0 L_) ∧ (h_ = h0)
set_option maxRecDepth 65536 in
set_option maxHeartbeats 40000000 in
theorem rmLe1_2 (l : Launch) (Z : State) (a0 : Array Value) (hw : ∀ d ∈ tables_1, d.before a0 Z = true) (ws : List Jvm.Cond) (d : Addr) (d2 : Addr) (x0 : Int32) (y0 : Int32) (y1 : Int32) (kd : ClassId) (kd2 : ClassId) (h0 : Heap) (n0 : Nat) (Z0 : n0 ≤ h0.size) (p_0 : Arv Z h0 d kd .byte (1 : Int32) [(.int x0)] (.int (0 : Int32))) (p_1 : Arv Z h0 d2 kd2 .byte (2 : Int32) [(.int y0), (.int y1)] (.int (0 : Int32))) :
    MetFree l yy12 (head1 (Jvm.Cond.code yy12 jdk_43_method_13_code 3 (some .boolean) :: ws) rRrmLe1_2) (fun a_ U_ => a_ = #[(.ref d), (.ref d2)] ∧ Z.Warmed39 U_.vm ∧ U_.heap = h0) (fun _ _ _ _ _ => True) (fun _ U_ o_ U1_ => ∃ v_ L_, o_ = .returned v_ ∧ QLe1_2 Z d d2 x0 y0 y1 kd kd2 h0 n0 v_ U1_.heap L_ ∧ FrameEnd U_ o_ U1_ L_ rRrmLe1_2.cells rRrmLe1_2.slots) := by
  refine MetFree.of_bodySF pn_rmLe1_2 hisR ?_
  intro p e s m args below meth c s₁ Bd hml0 hP hK
  obtain ⟨rfl, hZ, hh⟩ := hP
  have hx := Bd.exec
  have hby := Bd.bytes
  have hlk : meth.locks = false := Bd.notSynchronized
  have hml : c.maxLocals = 3 := hml0
  have hown : s.vm.findClass "java/lang/StringLatin1" = some m.cls := findClass_of_methodNamed Bd.named
  have hnm := (name_of_methodNamed Bd.named Bd.method).1
  have X0 : Stand p l e rRrmLe1_2 s m #[(.ref d), (.ref d2)] below meth c s₁ [] 0 0 := Stand.of_body Bd
  have e0 : s₁.heap = h0 := by rw [← hh, Bd.state]; rfl
  have N0 := Fr.nil n0
  show own_Goes p e below s (QLe1_2 Z d d2 x0 y0 y1 kd kd2 h0 n0) rRrmLe1_2.cells rRrmLe1_2.slots s₁ (entryFrame m #[(.ref d), (.ref d2)] 3)
  rw [ef_rmLe1_2 m d d2]
  show own_Goes p e below s (QLe1_2 Z d d2 x0 y0 y1 kd kd2 h0 n0) rRrmLe1_2.cells rRrmLe1_2.slots s₁ (mkF m 0 #[rv d, rv d2, .unset] [])
  refine own_st (fun _ kk_ => XS.aloadN X0.here hx rfl (hb hby d16_0) rfl rfl kk_) ?_
  show own_Goes _ _ _ _ _ _ _ s₁ (mkF m 1 #[rv d, rv d2, .unset] [(.ref d)])
  obtain ⟨cl1, Ar1, -, Sz1, Nn1, -, -⟩ := id p_0
  refine own_st (fun _ kk_ => X0.arraylength hx (by rw [e0]; exact Ar1.1) (State.isArrayOf_alike hZ.alike Ar1.2.1) (g := (mkF m 1 #[rv d, rv d2, .unset] [(.ref d)])) rfl rfl (hb hby d16_1) _ kk_) ?_
  rw [len_of Sz1 Nn1]
  show own_Goes _ _ _ _ _ _ _ s₁ (mkF m 2 #[rv d, rv d2, .unset] [(.int (1 : Int32))])
  refine own_st (fun _ kk_ => XS.aloadN X0.here hx rfl (hb hby d16_2) rfl rfl kk_) ?_
  show own_Goes _ _ _ _ _ _ _ s₁ (mkF m 3 #[rv d, rv d2, .unset] [(.ref d2), (.int (1 : Int32))])
  obtain ⟨cl2, Ar2, -, Sz2, Nn2, -, -⟩ := id p_1
  refine own_st (fun _ kk_ => X0.arraylength hx (by rw [e0]; exact Ar2.1) (State.isArrayOf_alike hZ.alike Ar2.2.1) (g := (mkF m 3 #[rv d, rv d2, .unset] [(.ref d2), (.int (1 : Int32))])) rfl rfl (hb hby d16_3) _ kk_) ?_
  rw [len_of Sz2 Nn2]
  show own_Goes _ _ _ _ _ _ _ s₁ (mkF m 4 #[rv d, rv d2, .unset] [(.int (2 : Int32)), (.int (1 : Int32))])
  refine own_st (fun _ kk_ => XS.icmpYes X0.here hx rfl (pc0 := 4) (pc' := 34) rfl (hb hby d16_4) rfl (XT.ii_ne_t (by decide)) (by decide) (by decide) (XS.iconst X0.here hx rfl (hb hby d16_34) kk_)) ?_
  show own_Goes _ _ _ _ _ _ _ s₁ (mkF m 35 #[rv d, rv d2, .unset] [(.int (0 : Int32))])
  refine own_retN X0 hx hlk (t := .boolean) Bd.returns (by simp) (hb hby d16_35) (by decide) (by decide) ?_
  show QLe1_2 Z d d2 x0 y0 y1 kd kd2 h0 n0 (some (.int (nar .boolean (0 : Int32)))) s₁.heap _
  rw [e0]
  exact ⟨by exact own_bf not_false, N0, rfl⟩
abbrev rRrmSe1_2 : Room := { frames := 1, cells := 0, slots := 0, locals := 14 }
theorem pn_rmSe1_2 : plainFor yy13 = true := by first | exact plainFor_of_name (by first | (simp [plainName, overriddenIn]; done) | decide +kernel) | decide +kernel
theorem ef_rmSe1_2 (m : MethodId) (a : Addr) (o : Addr) : entryFrame m #[(.ref a), (.ref o)] 3 = (mkF m 0 #[rv a, rv o, .unset] []) := by first | (simp [entryFrame, mkF, argsToLocals, Value.category]; done) | rfl
def QSe1_2 (Z : State) (a : Addr) (o : Addr) (x0 : Int32) (y0 : Int32) (y1 : Int32) (d : Addr) (d2 : Addr) (kd : ClassId) (kd2 : ClassId) (cs : Int32) (h0 : Heap) (n0 : Nat) (v_ : Option Value) (h_ : Heap) (L_ : List Loc) : Prop := (v_ = some (.int (own_b (False)))) ∧ (Fr n0 L_) ∧ (h_ = h0)
set_option maxRecDepth 65536 in
set_option maxHeartbeats 40000000 in
theorem rmSe1_2 (l : Launch) (Z : State) (a0 : Array Value) (hw : ∀ d ∈ tables_1, d.before a0 Z = true) (ws : List Jvm.Cond) (a : Addr) (o : Addr) (x0 : Int32) (y0 : Int32) (y1 : Int32) (d : Addr) (d2 : Addr) (kd : ClassId) (kd2 : ClassId) (cs : Int32) (h0 : Heap) (n0 : Nat) (Z0 : n0 ≤ h0.size) (p_0 : Exa Z h0 a "java/lang/String") (p_1 : Fld Z h0 a "java/lang/String" "coder" "B" (.int (0 : Int32))) (p_2 : Fld Z h0 a "java/lang/String" "value" "[B" (.ref d)) (p_3 : Exa Z h0 o "java/lang/String") (p_4 : Fld Z h0 o "java/lang/String" "coder" "B" (.int (0 : Int32))) (p_5 : Fld Z h0 o "java/lang/String" "value" "[B" (.ref d2)) (p_6 : Arv Z h0 d kd .byte (1 : Int32) [(.int x0)] (.int (0 : Int32))) (p_7 : Arv Z h0 d2 kd2 .byte (2 : Int32) [(.int y0), (.int y1)] (.int (0 : Int32))) (p_8 : Sta Z h0 "java/lang/String" "COMPACT_STRINGS" "Z" (.int cs)) (hcs : ¬ cs = (0 : Int32)) (p_10 : a ≠ o) :
    MetFree l yy13 (head1 (Jvm.Cond.code yy13 jdk_42_method_66_code 3 (some .boolean) :: ws) rRrmSe1_2) (fun a_ U_ => a_ = #[(.ref a), (.ref o)] ∧ Z.Warmed39 U_.vm ∧ U_.heap = h0) (fun _ _ _ _ _ => True) (fun _ U_ o_ U1_ => ∃ v_ L_, o_ = .returned v_ ∧ QSe1_2 Z a o x0 y0 y1 d d2 kd kd2 cs h0 n0 v_ U1_.heap L_ ∧ FrameEnd U_ o_ U1_ L_ rRrmSe1_2.cells rRrmSe1_2.slots) := by
  refine MetFree.of_bodySF pn_rmSe1_2 hisR ?_
  intro p e s m args below meth c s₁ Bd hml0 hP hK
  obtain ⟨rfl, hZ, hh⟩ := hP
  have hx := Bd.exec
  have hby := Bd.bytes
  have hlk : meth.locks = false := Bd.notSynchronized
  have hml : c.maxLocals = 3 := hml0
  have hown : s.vm.findClass "java/lang/String" = some m.cls := findClass_of_methodNamed Bd.named
  have hnm := (name_of_methodNamed Bd.named Bd.method).1
  have X0 : Stand p l e rRrmSe1_2 s m #[(.ref a), (.ref o)] below meth c s₁ [] 0 0 := Stand.of_body Bd
  have e0 : s₁.heap = h0 := by rw [← hh, Bd.state]; rfl
  have N0 := Fr.nil n0
  show own_Goes p e below s (QSe1_2 Z a o x0 y0 y1 d d2 kd kd2 cs h0 n0) rRrmSe1_2.cells rRrmSe1_2.slots s₁ (entryFrame m #[(.ref a), (.ref o)] 3)
  rw [ef_rmSe1_2 m a o]
  show own_Goes p e below s (QSe1_2 Z a o x0 y0 y1 d d2 kd kd2 cs h0 n0) rRrmSe1_2.cells rRrmSe1_2.slots s₁ (mkF m 0 #[rv a, rv o, .unset] [])
  refine own_st (fun _ kk_ => XS.aloadN X0.here hx rfl (hb hby d8_0) rfl rfl (XS.aloadN X0.here hx rfl (hb hby d8_1) rfl rfl (XT.acmpYes X0.here hx rfl (pc0 := 2) (pc' := 7) rfl (hb hby d8_2) rfl rfl rfl (XT.aa_ne_t (fun q => p_10 (Value.ref.inj q))) (by decide) (by decide) (XS.aloadN X0.here hx rfl (hb hby d8_7) rfl rfl kk_)))) ?_
  show own_Goes _ _ _ _ _ _ _ s₁ (mkF m 8 #[rv a, rv o, .unset] [(.ref o)])
  obtain ⟨T1, X1, e1, st1⟩ := instY X0 hx hZ hown (own_w hw 76 rfl) e0 (Ins.self p_3) (g := (mkF m 8 #[rv a, rv o, .unset] [(.ref o)])) rfl rfl (hb hby d8_8)
  refine own_st st1 ?_
  show own_Goes _ _ _ _ _ _ _ T1 (mkF m 11 #[rv a, rv o, .unset] [(.int (1 : Int32))])
  refine own_st (fun _ kk_ => XS.ifNo X1.here hx rfl (hb hby d8_11) rfl (XT.i0_eq_f (by decide)) (XS.aloadN X1.here hx rfl (hb hby d8_14) rfl rfl kk_)) ?_
  show own_Goes _ _ _ _ _ _ _ T1 (mkF m 15 #[rv a, rv o, .unset] [(.ref o)])
  obtain ⟨T2, X2, e2, st2⟩ := castY X1 hx hZ hown (own_w hw 76 rfl) e1 (Ins.self p_3) (g := (mkF m 15 #[rv a, rv o, .unset] [(.ref o)])) rfl rfl (hb hby d8_15)
  refine own_st st2 ?_
  show own_Goes _ _ _ _ _ _ _ T2 (mkF m 18 #[rv a, rv o, .unset] [(.ref o)])
  refine own_st (fun _ kk_ => XS.astoreN X2.here hx rfl (hb hby d8_18) rfl rfl (l' := #[rv a, rv o, rv o]) rfl kk_) ?_
  show own_Goes _ _ _ _ _ _ _ T2 (mkF m 19 #[rv a, rv o, rv o] [])
  obtain ⟨T3, X3, e3, st3⟩ := getS2 X2 hx hZ hown (host := "") (Or.inl (own_w hw 58 rfl)) Via.refl e2 p_8 (g := (mkF m 19 #[rv a, rv o, rv o] [])) rfl (hb hby d8_19)
  refine own_st st3 ?_
  show own_Goes _ _ _ _ _ _ _ T3 (mkF m 22 #[rv a, rv o, rv o] [(.int cs)])
  refine own_st (fun _ kk_ => XS.ifNo X3.here hx rfl (hb hby d8_22) rfl (XT.i0_eq_f hcs) (XS.aloadN X3.here hx rfl (hb hby d8_25) rfl rfl kk_)) ?_
  show own_Goes _ _ _ _ _ _ _ T3 (mkF m 26 #[rv a, rv o, rv o] [(.ref a)])
  obtain ⟨T4, X4, e4, st4⟩ := getF X3 hx hZ hown (host := "") (Or.inl (own_w hw 30 rfl)) Via.refl e3 p_1 (g := (mkF m 26 #[rv a, rv o, rv o] [(.ref a)])) rfl rfl (hb hby d8_26)
  refine own_st st4 ?_
  show own_Goes _ _ _ _ _ _ _ T4 (mkF m 29 #[rv a, rv o, rv o] [(.int (0 : Int32))])
  refine own_st (fun _ kk_ => XS.aloadN X4.here hx rfl (hb hby d8_29) rfl rfl kk_) ?_
  show own_Goes _ _ _ _ _ _ _ T4 (mkF m 30 #[rv a, rv o, rv o] [(.ref o), (.int (0 : Int32))])
  obtain ⟨T5, X5, e5, st5⟩ := getF X4 hx hZ hown (host := "") (Or.inl (own_w hw 30 rfl)) Via.refl e4 p_4 (g := (mkF m 30 #[rv a, rv o, rv o] [(.ref o), (.int (0 : Int32))])) rfl rfl (hb hby d8_30)
  refine own_st st5 ?_
  show own_Goes _ _ _ _ _ _ _ T5 (mkF m 33 #[rv a, rv o, rv o] [(.int (0 : Int32)), (.int (0 : Int32))])
  refine own_st (fun _ kk_ => XS.icmpNo X5.here hx rfl (hb hby d8_33) rfl (XT.ii_ne_f (by decide)) (XS.aloadN X5.here hx rfl (hb hby d8_36) rfl rfl kk_)) ?_
  show own_Goes _ _ _ _ _ _ _ T5 (mkF m 37 #[rv a, rv o, rv o] [(.ref a)])
  obtain ⟨T6, X6, e6, st6⟩ := getF X5 hx hZ hown (host := "") (Or.inl (own_w hw 29 rfl)) Via.refl e5 p_2 (g := (mkF m 37 #[rv a, rv o, rv o] [(.ref a)])) rfl rfl (hb hby d8_37)
  refine own_st st6 ?_
  show own_Goes _ _ _ _ _ _ _ T6 (mkF m 40 #[rv a, rv o, rv o] [(.ref d)])
  refine own_st (fun _ kk_ => XS.aloadN X6.here hx rfl (hb hby d8_40) rfl rfl kk_) ?_
  show own_Goes _ _ _ _ _ _ _ T6 (mkF m 41 #[rv a, rv o, rv o] [(.ref o), (.ref d)])
  obtain ⟨T7, X7, e7, st7⟩ := getF X6 hx hZ hown (host := "") (Or.inl (own_w hw 29 rfl)) Via.refl e6 p_5 (g := (mkF m 41 #[rv a, rv o, rv o] [(.ref o), (.ref d)])) rfl rfl (hb hby d8_41)
  refine own_st st7 ?_
  show own_Goes _ _ _ _ _ _ _ T7 (mkF m 44 #[rv a, rv o, rv o] [(.ref d2), (.ref d)])
  obtain ⟨_, _, ⟨T8, L8, k8, n8⟩, -, X8, ⟨Lc8, hQ8, l8, y8, z8⟩, st8⟩ := Jvm.LawKit.callS X7 hx (y := yy12) hown (mvT hZ (own_w hw 83 rfl)) (mvT hZ (own_w hw 84 rfl)) (mvT hZ (own_w hw 74 rfl)) (mvT hZ (own_w hw 85 rfl)) (by decide) (backOf (W := 0) (rmLe1_2 l Z a0 hw [] (d) (d2) (x0) (y0) (y1) (kd) (kd2) h0 n0 Z0 p_6 p_7) hZ (own_w hw 85 rfl) (own_w hw 74 rfl) (by decide) (by decide)) (g := (mkF m 44 #[rv a, rv o, rv o] [(.ref d2), (.ref d)])) rfl (by rw [hml]; rfl) (argsL := [(.ref d), (.ref d2)]) (rest := []) (lenOf pd_9 rfl) rfl (by show 2 * 0 + _ ≤ _; exact Nat.le_of_eq rfl) (hb hby d8_44) (fun _ _ => ⟨rfl, e7, (by decide : 0 + 0 ≤ _), (by decide : 0 + 0 ≤ _)⟩)
  dsimp only [Pt.U, Pt.locs, Pt.cells, Pt.slots] at X8 l8 y8 z8 st8 hQ8
  subst l8 y8 z8
  obtain ⟨rfl, Nq8, eq8⟩ := hQ8
  have N8 := Fr.app N0 Nq8
  refine own_st st8 ?_
  show own_Goes _ _ _ _ _ _ _ T8 (mkF m 47 #[rv a, rv o, rv o] [(.int (own_b (False)))])
  rcases Classical.em (False) with hM | hM
  · refine own_st (fun _ kk_ => XS.ifNo X8.here hx rfl (hb hby d8_47) rfl (XT.i0_eq_f (by rw [own_b1 hM]; decide)) (XS.iconst X8.here hx rfl (hb hby d8_50) (XS.goto X8.here hx rfl (pc0 := 51) (pc' := 55) rfl (hb hby d8_51) (by decide) (by decide) kk_))) ?_
    show own_Goes _ _ _ _ _ _ _ T8 (mkF m 55 #[rv a, rv o, rv o] [(.int (1 : Int32))])
    refine own_retN X8 hx hlk (t := .boolean) Bd.returns (by simp) (hb hby d8_55) (by decide) (by decide) ?_
    show QSe1_2 Z a o x0 y0 y1 d d2 kd kd2 cs h0 n0 (some (.int (nar .boolean (1 : Int32)))) T8.heap _
    rw [eq8]
    exact ⟨by exact own_bt hM, N8, rfl⟩
  · refine own_st (fun _ kk_ => XS.ifYes X8.here hx rfl (pc0 := 47) (pc' := 54) rfl (hb hby d8_47) rfl (XT.i0_eq_t (own_b0 hM)) (by decide) (by decide) (XS.iconst X8.here hx rfl (hb hby d8_54) kk_)) ?_
    show own_Goes _ _ _ _ _ _ _ T8 (mkF m 55 #[rv a, rv o, rv o] [(.int (0 : Int32))])
    refine own_retN X8 hx hlk (t := .boolean) Bd.returns (by simp) (hb hby d8_55) (by decide) (by decide) ?_
    show QSe1_2 Z a o x0 y0 y1 d d2 kd kd2 cs h0 n0 (some (.int (nar .boolean (0 : Int32)))) T8.heap _
    rw [eq8]
    exact ⟨by exact own_bf hM, N8, rfl⟩
abbrev rRrmLe2_0 : Room := { frames := 0, cells := 0, slots := 0, locals := 0 }
theorem pn_rmLe2_0 : plainFor yy12 = true := by first | exact plainFor_of_name (by first | (simp [plainName, overriddenIn]; done) | decide +kernel) | decide +kernel
theorem ef_rmLe2_0 (m : MethodId) (d : Addr) (d2 : Addr) : entryFrame m #[(.ref d), (.ref d2)] 3 = (mkF m 0 #[rv d, rv d2, .unset] []) := by first | (simp [entryFrame, mkF, argsToLocals, Value.category]; done) | rfl
def QLe2_0 (Z : State) (d : Addr) (d2 : Addr) (x0 : Int32) (x1 : Int32) (kd : ClassId) (kd2 : ClassId) (h0 : Heap) (n0 : Nat) (v_ : Option Value) (h_ : Heap) (L_ : List Loc) : Prop := (v_ = some (.int (own_b (False)))) ∧ (Fr n0 L_) ∧ (h_ = h0)
set_option maxRecDepth 65536 in
set_option maxHeartbeats 40000000 in
theorem rmLe2_0 (l : Launch) (Z : State) (a0 : Array Value) (hw : ∀ d ∈ tables_1, d.before a0 Z = true) (ws : List Jvm.Cond) (d : Addr) (d2 : Addr) (x0 : Int32) (x1 : Int32) (kd : ClassId) (kd2 : ClassId) (h0 : Heap) (n0 : Nat) (Z0 : n0 ≤ h0.size) (p_0 : Arv Z h0 d kd .byte (2 : Int32) [(.int x0), (.int x1)] (.int (0 : Int32))) (p_1 : Arv Z h0 d2 kd2 .byte (0 : Int32) [] (.int (0 : Int32))) :
    MetFree l yy12 (head1 (Jvm.Cond.code yy12 jdk_43_method_13_code 3 (some .boolean) :: ws) rRrmLe2_0) (fun a_ U_ => a_ = #[(.ref d), (.ref d2)] ∧ Z.Warmed39 U_.vm ∧ U_.heap = h0) (fun _ _ _ _ _ => True) (fun _ U_ o_ U1_ => ∃ v_ L_, o_ = .returned v_ ∧ QLe2_0 Z d d2 x0 x1 kd kd2 h0 n0 v_ U1_.heap L_ ∧ FrameEnd U_ o_ U1_ L_ rRrmLe2_0.cells rRrmLe2_0.slots) := by
  refine MetFree.of_bodySF pn_rmLe2_0 hisR ?_
  intro p e s m args below meth c s₁ Bd hml0 hP hK
  obtain ⟨rfl, hZ, hh⟩ := hP
  have hx := Bd.exec
  have hby := Bd.bytes
  have hlk : meth.locks = false := Bd.notSynchronized
  have hml : c.maxLocals = 3 := hml0
  have hown : s.vm.findClass "java/lang/StringLatin1" = some m.cls := findClass_of_methodNamed Bd.named
  have hnm := (name_of_methodNamed Bd.named Bd.method).1
  have X0 : Stand p l e rRrmLe2_0 s m #[(.ref d), (.ref d2)] below meth c s₁ [] 0 0 := Stand.of_body Bd
  have e0 : s₁.heap = h0 := by rw [← hh, Bd.state]; rfl
  have N0 := Fr.nil n0
  show own_Goes p e below s (QLe2_0 Z d d2 x0 x1 kd kd2 h0 n0) rRrmLe2_0.cells rRrmLe2_0.slots s₁ (entryFrame m #[(.ref d), (.ref d2)] 3)
  rw [ef_rmLe2_0 m d d2]
  show own_Goes p e below s (QLe2_0 Z d d2 x0 x1 kd kd2 h0 n0) rRrmLe2_0.cells rRrmLe2_0.slots s₁ (mkF m 0 #[rv d, rv d2, .unset] [])
  refine own_st (fun _ kk_ => XS.aloadN X0.here hx rfl (hb hby d16_0) rfl rfl kk_) ?_
  show own_Goes _ _ _ _ _ _ _ s₁ (mkF m 1 #[rv d, rv d2, .unset] [(.ref d)])
  obtain ⟨cl1, Ar1, -, Sz1, Nn1, -, -⟩ := id p_0
  refine own_st (fun _ kk_ => X0.arraylength hx (by rw [e0]; exact Ar1.1) (State.isArrayOf_alike hZ.alike Ar1.2.1) (g := (mkF m 1 #[rv d, rv d2, .unset] [(.ref d)])) rfl rfl (hb hby d16_1) _ kk_) ?_
  rw [len_of Sz1 Nn1]
  show own_Goes _ _ _ _ _ _ _ s₁ (mkF m 2 #[rv d, rv d2, .unset] [(.int (2 : Int32))])
  refine own_st (fun _ kk_ => XS.aloadN X0.here hx rfl (hb hby d16_2) rfl rfl kk_) ?_
  show own_Goes _ _ _ _ _ _ _ s₁ (mkF m 3 #[rv d, rv d2, .unset] [(.ref d2), (.int (2 : Int32))])
  obtain ⟨cl2, Ar2, -, Sz2, Nn2, -, -⟩ := id p_1
  refine own_st (fun _ kk_ => X0.arraylength hx (by rw [e0]; exact Ar2.1) (State.isArrayOf_alike hZ.alike Ar2.2.1) (g := (mkF m 3 #[rv d, rv d2, .unset] [(.ref d2), (.int (2 : Int32))])) rfl rfl (hb hby d16_3) _ kk_) ?_
  rw [len_of Sz2 Nn2]
  show own_Goes _ _ _ _ _ _ _ s₁ (mkF m 4 #[rv d, rv d2, .unset] [(.int (0 : Int32)), (.int (2 : Int32))])
  refine own_st (fun _ kk_ => XS.icmpYes X0.here hx rfl (pc0 := 4) (pc' := 34) rfl (hb hby d16_4) rfl (XT.ii_ne_t (by decide)) (by decide) (by decide) (XS.iconst X0.here hx rfl (hb hby d16_34) kk_)) ?_
  show own_Goes _ _ _ _ _ _ _ s₁ (mkF m 35 #[rv d, rv d2, .unset] [(.int (0 : Int32))])
  refine own_retN X0 hx hlk (t := .boolean) Bd.returns (by simp) (hb hby d16_35) (by decide) (by decide) ?_
  show QLe2_0 Z d d2 x0 x1 kd kd2 h0 n0 (some (.int (nar .boolean (0 : Int32)))) s₁.heap _
  rw [e0]
  exact ⟨by exact own_bf not_false, N0, rfl⟩
abbrev rRrmSe2_0 : Room := { frames := 1, cells := 0, slots := 0, locals := 14 }
theorem pn_rmSe2_0 : plainFor yy13 = true := by first | exact plainFor_of_name (by first | (simp [plainName, overriddenIn]; done) | decide +kernel) | decide +kernel
theorem ef_rmSe2_0 (m : MethodId) (a : Addr) (o : Addr) : entryFrame m #[(.ref a), (.ref o)] 3 = (mkF m 0 #[rv a, rv o, .unset] []) := by first | (simp [entryFrame, mkF, argsToLocals, Value.category]; done) | rfl
def QSe2_0 (Z : State) (a : Addr) (o : Addr) (x0 : Int32) (x1 : Int32) (d : Addr) (d2 : Addr) (kd : ClassId) (kd2 : ClassId) (cs : Int32) (h0 : Heap) (n0 : Nat) (v_ : Option Value) (h_ : Heap) (L_ : List Loc) : Prop := (v_ = some (.int (own_b (False)))) ∧ (Fr n0 L_) ∧ (h_ = h0)
set_option maxRecDepth 65536 in
set_option maxHeartbeats 40000000 in
theorem rmSe2_0 (l : Launch) (Z : State) (a0 : Array Value) (hw : ∀ d ∈ tables_1, d.before a0 Z = true) (ws : List Jvm.Cond) (a : Addr) (o : Addr) (x0 : Int32) (x1 : Int32) (d : Addr) (d2 : Addr) (kd : ClassId) (kd2 : ClassId) (cs : Int32) (h0 : Heap) (n0 : Nat) (Z0 : n0 ≤ h0.size) (p_0 : Exa Z h0 a "java/lang/String") (p_1 : Fld Z h0 a "java/lang/String" "coder" "B" (.int (0 : Int32))) (p_2 : Fld Z h0 a "java/lang/String" "value" "[B" (.ref d)) (p_3 : Exa Z h0 o "java/lang/String") (p_4 : Fld Z h0 o "java/lang/String" "coder" "B" (.int (0 : Int32))) (p_5 : Fld Z h0 o "java/lang/String" "value" "[B" (.ref d2)) (p_6 : Arv Z h0 d kd .byte (2 : Int32) [(.int x0), (.int x1)] (.int (0 : Int32))) (p_7 : Arv Z h0 d2 kd2 .byte (0 : Int32) [] (.int (0 : Int32))) (p_8 : Sta Z h0 "java/lang/String" "COMPACT_STRINGS" "Z" (.int cs)) (hcs : ¬ cs = (0 : Int32)) (p_10 : a ≠ o) :
    MetFree l yy13 (head1 (Jvm.Cond.code yy13 jdk_42_method_66_code 3 (some .boolean) :: ws) rRrmSe2_0) (fun a_ U_ => a_ = #[(.ref a), (.ref o)] ∧ Z.Warmed39 U_.vm ∧ U_.heap = h0) (fun _ _ _ _ _ => True) (fun _ U_ o_ U1_ => ∃ v_ L_, o_ = .returned v_ ∧ QSe2_0 Z a o x0 x1 d d2 kd kd2 cs h0 n0 v_ U1_.heap L_ ∧ FrameEnd U_ o_ U1_ L_ rRrmSe2_0.cells rRrmSe2_0.slots) := by
  refine MetFree.of_bodySF pn_rmSe2_0 hisR ?_
  intro p e s m args below meth c s₁ Bd hml0 hP hK
  obtain ⟨rfl, hZ, hh⟩ := hP
  have hx := Bd.exec
  have hby := Bd.bytes
  have hlk : meth.locks = false := Bd.notSynchronized
  have hml : c.maxLocals = 3 := hml0
  have hown : s.vm.findClass "java/lang/String" = some m.cls := findClass_of_methodNamed Bd.named
  have hnm := (name_of_methodNamed Bd.named Bd.method).1
  have X0 : Stand p l e rRrmSe2_0 s m #[(.ref a), (.ref o)] below meth c s₁ [] 0 0 := Stand.of_body Bd
  have e0 : s₁.heap = h0 := by rw [← hh, Bd.state]; rfl
  have N0 := Fr.nil n0
  show own_Goes p e below s (QSe2_0 Z a o x0 x1 d d2 kd kd2 cs h0 n0) rRrmSe2_0.cells rRrmSe2_0.slots s₁ (entryFrame m #[(.ref a), (.ref o)] 3)
  rw [ef_rmSe2_0 m a o]
  show own_Goes p e below s (QSe2_0 Z a o x0 x1 d d2 kd kd2 cs h0 n0) rRrmSe2_0.cells rRrmSe2_0.slots s₁ (mkF m 0 #[rv a, rv o, .unset] [])
  refine own_st (fun _ kk_ => XS.aloadN X0.here hx rfl (hb hby d8_0) rfl rfl (XS.aloadN X0.here hx rfl (hb hby d8_1) rfl rfl (XT.acmpYes X0.here hx rfl (pc0 := 2) (pc' := 7) rfl (hb hby d8_2) rfl rfl rfl (XT.aa_ne_t (fun q => p_10 (Value.ref.inj q))) (by decide) (by decide) (XS.aloadN X0.here hx rfl (hb hby d8_7) rfl rfl kk_)))) ?_
  show own_Goes _ _ _ _ _ _ _ s₁ (mkF m 8 #[rv a, rv o, .unset] [(.ref o)])
  obtain ⟨T1, X1, e1, st1⟩ := instY X0 hx hZ hown (own_w hw 76 rfl) e0 (Ins.self p_3) (g := (mkF m 8 #[rv a, rv o, .unset] [(.ref o)])) rfl rfl (hb hby d8_8)
  refine own_st st1 ?_
  show own_Goes _ _ _ _ _ _ _ T1 (mkF m 11 #[rv a, rv o, .unset] [(.int (1 : Int32))])
  refine own_st (fun _ kk_ => XS.ifNo X1.here hx rfl (hb hby d8_11) rfl (XT.i0_eq_f (by decide)) (XS.aloadN X1.here hx rfl (hb hby d8_14) rfl rfl kk_)) ?_
  show own_Goes _ _ _ _ _ _ _ T1 (mkF m 15 #[rv a, rv o, .unset] [(.ref o)])
  obtain ⟨T2, X2, e2, st2⟩ := castY X1 hx hZ hown (own_w hw 76 rfl) e1 (Ins.self p_3) (g := (mkF m 15 #[rv a, rv o, .unset] [(.ref o)])) rfl rfl (hb hby d8_15)
  refine own_st st2 ?_
  show own_Goes _ _ _ _ _ _ _ T2 (mkF m 18 #[rv a, rv o, .unset] [(.ref o)])
  refine own_st (fun _ kk_ => XS.astoreN X2.here hx rfl (hb hby d8_18) rfl rfl (l' := #[rv a, rv o, rv o]) rfl kk_) ?_
  show own_Goes _ _ _ _ _ _ _ T2 (mkF m 19 #[rv a, rv o, rv o] [])
  obtain ⟨T3, X3, e3, st3⟩ := getS2 X2 hx hZ hown (host := "") (Or.inl (own_w hw 58 rfl)) Via.refl e2 p_8 (g := (mkF m 19 #[rv a, rv o, rv o] [])) rfl (hb hby d8_19)
  refine own_st st3 ?_
  show own_Goes _ _ _ _ _ _ _ T3 (mkF m 22 #[rv a, rv o, rv o] [(.int cs)])
  refine own_st (fun _ kk_ => XS.ifNo X3.here hx rfl (hb hby d8_22) rfl (XT.i0_eq_f hcs) (XS.aloadN X3.here hx rfl (hb hby d8_25) rfl rfl kk_)) ?_
  show own_Goes _ _ _ _ _ _ _ T3 (mkF m 26 #[rv a, rv o, rv o] [(.ref a)])
  obtain ⟨T4, X4, e4, st4⟩ := getF X3 hx hZ hown (host := "") (Or.inl (own_w hw 30 rfl)) Via.refl e3 p_1 (g := (mkF m 26 #[rv a, rv o, rv o] [(.ref a)])) rfl rfl (hb hby d8_26)
  refine own_st st4 ?_
  show own_Goes _ _ _ _ _ _ _ T4 (mkF m 29 #[rv a, rv o, rv o] [(.int (0 : Int32))])
  refine own_st (fun _ kk_ => XS.aloadN X4.here hx rfl (hb hby d8_29) rfl rfl kk_) ?_
  show own_Goes _ _ _ _ _ _ _ T4 (mkF m 30 #[rv a, rv o, rv o] [(.ref o), (.int (0 : Int32))])
  obtain ⟨T5, X5, e5, st5⟩ := getF X4 hx hZ hown (host := "") (Or.inl (own_w hw 30 rfl)) Via.refl e4 p_4 (g := (mkF m 30 #[rv a, rv o, rv o] [(.ref o), (.int (0 : Int32))])) rfl rfl (hb hby d8_30)
  refine own_st st5 ?_
  show own_Goes _ _ _ _ _ _ _ T5 (mkF m 33 #[rv a, rv o, rv o] [(.int (0 : Int32)), (.int (0 : Int32))])
  refine own_st (fun _ kk_ => XS.icmpNo X5.here hx rfl (hb hby d8_33) rfl (XT.ii_ne_f (by decide)) (XS.aloadN X5.here hx rfl (hb hby d8_36) rfl rfl kk_)) ?_
  show own_Goes _ _ _ _ _ _ _ T5 (mkF m 37 #[rv a, rv o, rv o] [(.ref a)])
  obtain ⟨T6, X6, e6, st6⟩ := getF X5 hx hZ hown (host := "") (Or.inl (own_w hw 29 rfl)) Via.refl e5 p_2 (g := (mkF m 37 #[rv a, rv o, rv o] [(.ref a)])) rfl rfl (hb hby d8_37)
  refine own_st st6 ?_
  show own_Goes _ _ _ _ _ _ _ T6 (mkF m 40 #[rv a, rv o, rv o] [(.ref d)])
  refine own_st (fun _ kk_ => XS.aloadN X6.here hx rfl (hb hby d8_40) rfl rfl kk_) ?_
  show own_Goes _ _ _ _ _ _ _ T6 (mkF m 41 #[rv a, rv o, rv o] [(.ref o), (.ref d)])
  obtain ⟨T7, X7, e7, st7⟩ := getF X6 hx hZ hown (host := "") (Or.inl (own_w hw 29 rfl)) Via.refl e6 p_5 (g := (mkF m 41 #[rv a, rv o, rv o] [(.ref o), (.ref d)])) rfl rfl (hb hby d8_41)
  refine own_st st7 ?_
  show own_Goes _ _ _ _ _ _ _ T7 (mkF m 44 #[rv a, rv o, rv o] [(.ref d2), (.ref d)])
  obtain ⟨_, _, ⟨T8, L8, k8, n8⟩, -, X8, ⟨Lc8, hQ8, l8, y8, z8⟩, st8⟩ := Jvm.LawKit.callS X7 hx (y := yy12) hown (mvT hZ (own_w hw 83 rfl)) (mvT hZ (own_w hw 84 rfl)) (mvT hZ (own_w hw 74 rfl)) (mvT hZ (own_w hw 85 rfl)) (by decide) (backOf (W := 0) (rmLe2_0 l Z a0 hw [] (d) (d2) (x0) (x1) (kd) (kd2) h0 n0 Z0 p_6 p_7) hZ (own_w hw 85 rfl) (own_w hw 74 rfl) (by decide) (by decide)) (g := (mkF m 44 #[rv a, rv o, rv o] [(.ref d2), (.ref d)])) rfl (by rw [hml]; rfl) (argsL := [(.ref d), (.ref d2)]) (rest := []) (lenOf pd_9 rfl) rfl (by show 2 * 0 + _ ≤ _; exact Nat.le_of_eq rfl) (hb hby d8_44) (fun _ _ => ⟨rfl, e7, (by decide : 0 + 0 ≤ _), (by decide : 0 + 0 ≤ _)⟩)
  dsimp only [Pt.U, Pt.locs, Pt.cells, Pt.slots] at X8 l8 y8 z8 st8 hQ8
  subst l8 y8 z8
  obtain ⟨rfl, Nq8, eq8⟩ := hQ8
  have N8 := Fr.app N0 Nq8
  refine own_st st8 ?_
  show own_Goes _ _ _ _ _ _ _ T8 (mkF m 47 #[rv a, rv o, rv o] [(.int (own_b (False)))])
  rcases Classical.em (False) with hM | hM
  · refine own_st (fun _ kk_ => XS.ifNo X8.here hx rfl (hb hby d8_47) rfl (XT.i0_eq_f (by rw [own_b1 hM]; decide)) (XS.iconst X8.here hx rfl (hb hby d8_50) (XS.goto X8.here hx rfl (pc0 := 51) (pc' := 55) rfl (hb hby d8_51) (by decide) (by decide) kk_))) ?_
    show own_Goes _ _ _ _ _ _ _ T8 (mkF m 55 #[rv a, rv o, rv o] [(.int (1 : Int32))])
    refine own_retN X8 hx hlk (t := .boolean) Bd.returns (by simp) (hb hby d8_55) (by decide) (by decide) ?_
    show QSe2_0 Z a o x0 x1 d d2 kd kd2 cs h0 n0 (some (.int (nar .boolean (1 : Int32)))) T8.heap _
    rw [eq8]
    exact ⟨by exact own_bt hM, N8, rfl⟩
  · refine own_st (fun _ kk_ => XS.ifYes X8.here hx rfl (pc0 := 47) (pc' := 54) rfl (hb hby d8_47) rfl (XT.i0_eq_t (own_b0 hM)) (by decide) (by decide) (XS.iconst X8.here hx rfl (hb hby d8_54) kk_)) ?_
    show own_Goes _ _ _ _ _ _ _ T8 (mkF m 55 #[rv a, rv o, rv o] [(.int (0 : Int32))])
    refine own_retN X8 hx hlk (t := .boolean) Bd.returns (by simp) (hb hby d8_55) (by decide) (by decide) ?_
    show QSe2_0 Z a o x0 x1 d d2 kd kd2 cs h0 n0 (some (.int (nar .boolean (0 : Int32)))) T8.heap _
    rw [eq8]
    exact ⟨by exact own_bf hM, N8, rfl⟩
abbrev rRrmLe2_1 : Room := { frames := 0, cells := 0, slots := 0, locals := 0 }
theorem pn_rmLe2_1 : plainFor yy12 = true := by first | exact plainFor_of_name (by first | (simp [plainName, overriddenIn]; done) | decide +kernel) | decide +kernel
theorem ef_rmLe2_1 (m : MethodId) (d : Addr) (d2 : Addr) : entryFrame m #[(.ref d), (.ref d2)] 3 = (mkF m 0 #[rv d, rv d2, .unset] []) := by first | (simp [entryFrame, mkF, argsToLocals, Value.category]; done) | rfl
def QLe2_1 (Z : State) (d : Addr) (d2 : Addr) (x0 : Int32) (x1 : Int32) (y0 : Int32) (kd : ClassId) (kd2 : ClassId) (h0 : Heap) (n0 : Nat) (v_ : Option Value) (h_ : Heap) (L_ : List Loc) : Prop := (v_ = some (.int (own_b (False)))) ∧ (Fr n0 L_) ∧ (h_ = h0)
set_option maxRecDepth 65536 in
set_option maxHeartbeats 40000000 in
theorem rmLe2_1 (l : Launch) (Z : State) (a0 : Array Value) (hw : ∀ d ∈ tables_1, d.before a0 Z = true) (ws : List Jvm.Cond) (d : Addr) (d2 : Addr) (x0 : Int32) (x1 : Int32) (y0 : Int32) (kd : ClassId) (kd2 : ClassId) (h0 : Heap) (n0 : Nat) (Z0 : n0 ≤ h0.size) (p_0 : Arv Z h0 d kd .byte (2 : Int32) [(.int x0), (.int x1)] (.int (0 : Int32))) (p_1 : Arv Z h0 d2 kd2 .byte (1 : Int32) [(.int y0)] (.int (0 : Int32))) :
    MetFree l yy12 (head1 (Jvm.Cond.code yy12 jdk_43_method_13_code 3 (some .boolean) :: ws) rRrmLe2_1) (fun a_ U_ => a_ = #[(.ref d), (.ref d2)] ∧ Z.Warmed39 U_.vm ∧ U_.heap = h0) (fun _ _ _ _ _ => True) (fun _ U_ o_ U1_ => ∃ v_ L_, o_ = .returned v_ ∧ QLe2_1 Z d d2 x0 x1 y0 kd kd2 h0 n0 v_ U1_.heap L_ ∧ FrameEnd U_ o_ U1_ L_ rRrmLe2_1.cells rRrmLe2_1.slots) := by
  refine MetFree.of_bodySF pn_rmLe2_1 hisR ?_
  intro p e s m args below meth c s₁ Bd hml0 hP hK
  obtain ⟨rfl, hZ, hh⟩ := hP
  have hx := Bd.exec
  have hby := Bd.bytes
  have hlk : meth.locks = false := Bd.notSynchronized
  have hml : c.maxLocals = 3 := hml0
  have hown : s.vm.findClass "java/lang/StringLatin1" = some m.cls := findClass_of_methodNamed Bd.named
  have hnm := (name_of_methodNamed Bd.named Bd.method).1
  have X0 : Stand p l e rRrmLe2_1 s m #[(.ref d), (.ref d2)] below meth c s₁ [] 0 0 := Stand.of_body Bd
  have e0 : s₁.heap = h0 := by rw [← hh, Bd.state]; rfl
  have N0 := Fr.nil n0
  show own_Goes p e below s (QLe2_1 Z d d2 x0 x1 y0 kd kd2 h0 n0) rRrmLe2_1.cells rRrmLe2_1.slots s₁ (entryFrame m #[(.ref d), (.ref d2)] 3)
  rw [ef_rmLe2_1 m d d2]
  show own_Goes p e below s (QLe2_1 Z d d2 x0 x1 y0 kd kd2 h0 n0) rRrmLe2_1.cells rRrmLe2_1.slots s₁ (mkF m 0 #[rv d, rv d2, .unset] [])
  refine own_st (fun _ kk_ => XS.aloadN X0.here hx rfl (hb hby d16_0) rfl rfl kk_) ?_
  show own_Goes _ _ _ _ _ _ _ s₁ (mkF m 1 #[rv d, rv d2, .unset] [(.ref d)])
  obtain ⟨cl1, Ar1, -, Sz1, Nn1, -, -⟩ := id p_0
  refine own_st (fun _ kk_ => X0.arraylength hx (by rw [e0]; exact Ar1.1) (State.isArrayOf_alike hZ.alike Ar1.2.1) (g := (mkF m 1 #[rv d, rv d2, .unset] [(.ref d)])) rfl rfl (hb hby d16_1) _ kk_) ?_
  rw [len_of Sz1 Nn1]
  show own_Goes _ _ _ _ _ _ _ s₁ (mkF m 2 #[rv d, rv d2, .unset] [(.int (2 : Int32))])
  refine own_st (fun _ kk_ => XS.aloadN X0.here hx rfl (hb hby d16_2) rfl rfl kk_) ?_
  show own_Goes _ _ _ _ _ _ _ s₁ (mkF m 3 #[rv d, rv d2, .unset] [(.ref d2), (.int (2 : Int32))])
  obtain ⟨cl2, Ar2, -, Sz2, Nn2, -, -⟩ := id p_1
  refine own_st (fun _ kk_ => X0.arraylength hx (by rw [e0]; exact Ar2.1) (State.isArrayOf_alike hZ.alike Ar2.2.1) (g := (mkF m 3 #[rv d, rv d2, .unset] [(.ref d2), (.int (2 : Int32))])) rfl rfl (hb hby d16_3) _ kk_) ?_
  rw [len_of Sz2 Nn2]
  show own_Goes _ _ _ _ _ _ _ s₁ (mkF m 4 #[rv d, rv d2, .unset] [(.int (1 : Int32)), (.int (2 : Int32))])
  refine own_st (fun _ kk_ => XS.icmpYes X0.here hx rfl (pc0 := 4) (pc' := 34) rfl (hb hby d16_4) rfl (XT.ii_ne_t (by decide)) (by decide) (by decide) (XS.iconst X0.here hx rfl (hb hby d16_34) kk_)) ?_
  show own_Goes _ _ _ _ _ _ _ s₁ (mkF m 35 #[rv d, rv d2, .unset] [(.int (0 : Int32))])
  refine own_retN X0 hx hlk (t := .boolean) Bd.returns (by simp) (hb hby d16_35) (by decide) (by decide) ?_
  show QLe2_1 Z d d2 x0 x1 y0 kd kd2 h0 n0 (some (.int (nar .boolean (0 : Int32)))) s₁.heap _
  rw [e0]
  exact ⟨by exact own_bf not_false, N0, rfl⟩
abbrev rRrmSe2_1 : Room := { frames := 1, cells := 0, slots := 0, locals := 14 }
theorem pn_rmSe2_1 : plainFor yy13 = true := by first | exact plainFor_of_name (by first | (simp [plainName, overriddenIn]; done) | decide +kernel) | decide +kernel
theorem ef_rmSe2_1 (m : MethodId) (a : Addr) (o : Addr) : entryFrame m #[(.ref a), (.ref o)] 3 = (mkF m 0 #[rv a, rv o, .unset] []) := by first | (simp [entryFrame, mkF, argsToLocals, Value.category]; done) | rfl
def QSe2_1 (Z : State) (a : Addr) (o : Addr) (x0 : Int32) (x1 : Int32) (y0 : Int32) (d : Addr) (d2 : Addr) (kd : ClassId) (kd2 : ClassId) (cs : Int32) (h0 : Heap) (n0 : Nat) (v_ : Option Value) (h_ : Heap) (L_ : List Loc) : Prop := (v_ = some (.int (own_b (False)))) ∧ (Fr n0 L_) ∧ (h_ = h0)
set_option maxRecDepth 65536 in
set_option maxHeartbeats 40000000 in
theorem rmSe2_1 (l : Launch) (Z : State) (a0 : Array Value) (hw : ∀ d ∈ tables_1, d.before a0 Z = true) (ws : List Jvm.Cond) (a : Addr) (o : Addr) (x0 : Int32) (x1 : Int32) (y0 : Int32) (d : Addr) (d2 : Addr) (kd : ClassId) (kd2 : ClassId) (cs : Int32) (h0 : Heap) (n0 : Nat) (Z0 : n0 ≤ h0.size) (p_0 : Exa Z h0 a "java/lang/String") (p_1 : Fld Z h0 a "java/lang/String" "coder" "B" (.int (0 : Int32))) (p_2 : Fld Z h0 a "java/lang/String" "value" "[B" (.ref d)) (p_3 : Exa Z h0 o "java/lang/String") (p_4 : Fld Z h0 o "java/lang/String" "coder" "B" (.int (0 : Int32))) (p_5 : Fld Z h0 o "java/lang/String" "value" "[B" (.ref d2)) (p_6 : Arv Z h0 d kd .byte (2 : Int32) [(.int x0), (.int x1)] (.int (0 : Int32))) (p_7 : Arv Z h0 d2 kd2 .byte (1 : Int32) [(.int y0)] (.int (0 : Int32))) (p_8 : Sta Z h0 "java/lang/String" "COMPACT_STRINGS" "Z" (.int cs)) (hcs : ¬ cs = (0 : Int32)) (p_10 : a ≠ o) :
    MetFree l yy13 (head1 (Jvm.Cond.code yy13 jdk_42_method_66_code 3 (some .boolean) :: ws) rRrmSe2_1) (fun a_ U_ => a_ = #[(.ref a), (.ref o)] ∧ Z.Warmed39 U_.vm ∧ U_.heap = h0) (fun _ _ _ _ _ => True) (fun _ U_ o_ U1_ => ∃ v_ L_, o_ = .returned v_ ∧ QSe2_1 Z a o x0 x1 y0 d d2 kd kd2 cs h0 n0 v_ U1_.heap L_ ∧ FrameEnd U_ o_ U1_ L_ rRrmSe2_1.cells rRrmSe2_1.slots) := by
  refine MetFree.of_bodySF pn_rmSe2_1 hisR ?_
  intro p e s m args below meth c s₁ Bd hml0 hP hK
  obtain ⟨rfl, hZ, hh⟩ := hP
  have hx := Bd.exec
  have hby := Bd.bytes
  have hlk : meth.locks = false := Bd.notSynchronized
  have hml : c.maxLocals = 3 := hml0
  have hown : s.vm.findClass "java/lang/String" = some m.cls := findClass_of_methodNamed Bd.named
  have hnm := (name_of_methodNamed Bd.named Bd.method).1
  have X0 : Stand p l e rRrmSe2_1 s m #[(.ref a), (.ref o)] below meth c s₁ [] 0 0 := Stand.of_body Bd
  have e0 : s₁.heap = h0 := by rw [← hh, Bd.state]; rfl
  have N0 := Fr.nil n0
  show own_Goes p e below s (QSe2_1 Z a o x0 x1 y0 d d2 kd kd2 cs h0 n0) rRrmSe2_1.cells rRrmSe2_1.slots s₁ (entryFrame m #[(.ref a), (.ref o)] 3)
  rw [ef_rmSe2_1 m a o]
  show own_Goes p e below s (QSe2_1 Z a o x0 x1 y0 d d2 kd kd2 cs h0 n0) rRrmSe2_1.cells rRrmSe2_1.slots s₁ (mkF m 0 #[rv a, rv o, .unset] [])
  refine own_st (fun _ kk_ => XS.aloadN X0.here hx rfl (hb hby d8_0) rfl rfl (XS.aloadN X0.here hx rfl (hb hby d8_1) rfl rfl (XT.acmpYes X0.here hx rfl (pc0 := 2) (pc' := 7) rfl (hb hby d8_2) rfl rfl rfl (XT.aa_ne_t (fun q => p_10 (Value.ref.inj q))) (by decide) (by decide) (XS.aloadN X0.here hx rfl (hb hby d8_7) rfl rfl kk_)))) ?_
  show own_Goes _ _ _ _ _ _ _ s₁ (mkF m 8 #[rv a, rv o, .unset] [(.ref o)])
  obtain ⟨T1, X1, e1, st1⟩ := instY X0 hx hZ hown (own_w hw 76 rfl) e0 (Ins.self p_3) (g := (mkF m 8 #[rv a, rv o, .unset] [(.ref o)])) rfl rfl (hb hby d8_8)
  refine own_st st1 ?_
  show own_Goes _ _ _ _ _ _ _ T1 (mkF m 11 #[rv a, rv o, .unset] [(.int (1 : Int32))])
  refine own_st (fun _ kk_ => XS.ifNo X1.here hx rfl (hb hby d8_11) rfl (XT.i0_eq_f (by decide)) (XS.aloadN X1.here hx rfl (hb hby d8_14) rfl rfl kk_)) ?_
  show own_Goes _ _ _ _ _ _ _ T1 (mkF m 15 #[rv a, rv o, .unset] [(.ref o)])
  obtain ⟨T2, X2, e2, st2⟩ := castY X1 hx hZ hown (own_w hw 76 rfl) e1 (Ins.self p_3) (g := (mkF m 15 #[rv a, rv o, .unset] [(.ref o)])) rfl rfl (hb hby d8_15)
  refine own_st st2 ?_
  show own_Goes _ _ _ _ _ _ _ T2 (mkF m 18 #[rv a, rv o, .unset] [(.ref o)])
  refine own_st (fun _ kk_ => XS.astoreN X2.here hx rfl (hb hby d8_18) rfl rfl (l' := #[rv a, rv o, rv o]) rfl kk_) ?_
  show own_Goes _ _ _ _ _ _ _ T2 (mkF m 19 #[rv a, rv o, rv o] [])
  obtain ⟨T3, X3, e3, st3⟩ := getS2 X2 hx hZ hown (host := "") (Or.inl (own_w hw 58 rfl)) Via.refl e2 p_8 (g := (mkF m 19 #[rv a, rv o, rv o] [])) rfl (hb hby d8_19)
  refine own_st st3 ?_
  show own_Goes _ _ _ _ _ _ _ T3 (mkF m 22 #[rv a, rv o, rv o] [(.int cs)])
  refine own_st (fun _ kk_ => XS.ifNo X3.here hx rfl (hb hby d8_22) rfl (XT.i0_eq_f hcs) (XS.aloadN X3.here hx rfl (hb hby d8_25) rfl rfl kk_)) ?_
  show own_Goes _ _ _ _ _ _ _ T3 (mkF m 26 #[rv a, rv o, rv o] [(.ref a)])
  obtain ⟨T4, X4, e4, st4⟩ := getF X3 hx hZ hown (host := "") (Or.inl (own_w hw 30 rfl)) Via.refl e3 p_1 (g := (mkF m 26 #[rv a, rv o, rv o] [(.ref a)])) rfl rfl (hb hby d8_26)
  refine own_st st4 ?_
  show own_Goes _ _ _ _ _ _ _ T4 (mkF m 29 #[rv a, rv o, rv o] [(.int (0 : Int32))])
  refine own_st (fun _ kk_ => XS.aloadN X4.here hx rfl (hb hby d8_29) rfl rfl kk_) ?_
  show own_Goes _ _ _ _ _ _ _ T4 (mkF m 30 #[rv a, rv o, rv o] [(.ref o), (.int (0 : Int32))])
  obtain ⟨T5, X5, e5, st5⟩ := getF X4 hx hZ hown (host := "") (Or.inl (own_w hw 30 rfl)) Via.refl e4 p_4 (g := (mkF m 30 #[rv a, rv o, rv o] [(.ref o), (.int (0 : Int32))])) rfl rfl (hb hby d8_30)
  refine own_st st5 ?_
  show own_Goes _ _ _ _ _ _ _ T5 (mkF m 33 #[rv a, rv o, rv o] [(.int (0 : Int32)), (.int (0 : Int32))])
  refine own_st (fun _ kk_ => XS.icmpNo X5.here hx rfl (hb hby d8_33) rfl (XT.ii_ne_f (by decide)) (XS.aloadN X5.here hx rfl (hb hby d8_36) rfl rfl kk_)) ?_
  show own_Goes _ _ _ _ _ _ _ T5 (mkF m 37 #[rv a, rv o, rv o] [(.ref a)])
  obtain ⟨T6, X6, e6, st6⟩ := getF X5 hx hZ hown (host := "") (Or.inl (own_w hw 29 rfl)) Via.refl e5 p_2 (g := (mkF m 37 #[rv a, rv o, rv o] [(.ref a)])) rfl rfl (hb hby d8_37)
  refine own_st st6 ?_
  show own_Goes _ _ _ _ _ _ _ T6 (mkF m 40 #[rv a, rv o, rv o] [(.ref d)])
  refine own_st (fun _ kk_ => XS.aloadN X6.here hx rfl (hb hby d8_40) rfl rfl kk_) ?_
  show own_Goes _ _ _ _ _ _ _ T6 (mkF m 41 #[rv a, rv o, rv o] [(.ref o), (.ref d)])
  obtain ⟨T7, X7, e7, st7⟩ := getF X6 hx hZ hown (host := "") (Or.inl (own_w hw 29 rfl)) Via.refl e6 p_5 (g := (mkF m 41 #[rv a, rv o, rv o] [(.ref o), (.ref d)])) rfl rfl (hb hby d8_41)
  refine own_st st7 ?_
  show own_Goes _ _ _ _ _ _ _ T7 (mkF m 44 #[rv a, rv o, rv o] [(.ref d2), (.ref d)])
  obtain ⟨_, _, ⟨T8, L8, k8, n8⟩, -, X8, ⟨Lc8, hQ8, l8, y8, z8⟩, st8⟩ := Jvm.LawKit.callS X7 hx (y := yy12) hown (mvT hZ (own_w hw 83 rfl)) (mvT hZ (own_w hw 84 rfl)) (mvT hZ (own_w hw 74 rfl)) (mvT hZ (own_w hw 85 rfl)) (by decide) (backOf (W := 0) (rmLe2_1 l Z a0 hw [] (d) (d2) (x0) (x1) (y0) (kd) (kd2) h0 n0 Z0 p_6 p_7) hZ (own_w hw 85 rfl) (own_w hw 74 rfl) (by decide) (by decide)) (g := (mkF m 44 #[rv a, rv o, rv o] [(.ref d2), (.ref d)])) rfl (by rw [hml]; rfl) (argsL := [(.ref d), (.ref d2)]) (rest := []) (lenOf pd_9 rfl) rfl (by show 2 * 0 + _ ≤ _; exact Nat.le_of_eq rfl) (hb hby d8_44) (fun _ _ => ⟨rfl, e7, (by decide : 0 + 0 ≤ _), (by decide : 0 + 0 ≤ _)⟩)
  dsimp only [Pt.U, Pt.locs, Pt.cells, Pt.slots] at X8 l8 y8 z8 st8 hQ8
  subst l8 y8 z8
  obtain ⟨rfl, Nq8, eq8⟩ := hQ8
  have N8 := Fr.app N0 Nq8
  refine own_st st8 ?_
  show own_Goes _ _ _ _ _ _ _ T8 (mkF m 47 #[rv a, rv o, rv o] [(.int (own_b (False)))])
  rcases Classical.em (False) with hM | hM
  · refine own_st (fun _ kk_ => XS.ifNo X8.here hx rfl (hb hby d8_47) rfl (XT.i0_eq_f (by rw [own_b1 hM]; decide)) (XS.iconst X8.here hx rfl (hb hby d8_50) (XS.goto X8.here hx rfl (pc0 := 51) (pc' := 55) rfl (hb hby d8_51) (by decide) (by decide) kk_))) ?_
    show own_Goes _ _ _ _ _ _ _ T8 (mkF m 55 #[rv a, rv o, rv o] [(.int (1 : Int32))])
    refine own_retN X8 hx hlk (t := .boolean) Bd.returns (by simp) (hb hby d8_55) (by decide) (by decide) ?_
    show QSe2_1 Z a o x0 x1 y0 d d2 kd kd2 cs h0 n0 (some (.int (nar .boolean (1 : Int32)))) T8.heap _
    rw [eq8]
    exact ⟨by exact own_bt hM, N8, rfl⟩
  · refine own_st (fun _ kk_ => XS.ifYes X8.here hx rfl (pc0 := 47) (pc' := 54) rfl (hb hby d8_47) rfl (XT.i0_eq_t (own_b0 hM)) (by decide) (by decide) (XS.iconst X8.here hx rfl (hb hby d8_54) kk_)) ?_
    show own_Goes _ _ _ _ _ _ _ T8 (mkF m 55 #[rv a, rv o, rv o] [(.int (0 : Int32))])
    refine own_retN X8 hx hlk (t := .boolean) Bd.returns (by simp) (hb hby d8_55) (by decide) (by decide) ?_
    show QSe2_1 Z a o x0 x1 y0 d d2 kd kd2 cs h0 n0 (some (.int (nar .boolean (0 : Int32)))) T8.heap _
    rw [eq8]
    exact ⟨by exact own_bf hM, N8, rfl⟩
abbrev rRrmLe2_2 : Room := { frames := 0, cells := 0, slots := 0, locals := 0 }
theorem pn_rmLe2_2 : plainFor yy12 = true := by first | exact plainFor_of_name (by first | (simp [plainName, overriddenIn]; done) | decide +kernel) | decide +kernel
theorem ef_rmLe2_2 (m : MethodId) (d : Addr) (d2 : Addr) : entryFrame m #[(.ref d), (.ref d2)] 3 = (mkF m 0 #[rv d, rv d2, .unset] []) := by first | (simp [entryFrame, mkF, argsToLocals, Value.category]; done) | rfl
def QLe2_2 (Z : State) (d : Addr) (d2 : Addr) (x0 : Int32) (x1 : Int32) (y0 : Int32) (y1 : Int32) (kd : ClassId) (kd2 : ClassId) (h0 : Heap) (n0 : Nat) (v_ : Option Value) (h_ : Heap) (L_ : List Loc) : Prop := (v_ = some (.int (own_b (x0 = y0 ∧ x1 = y1)))) ∧ (Fr n0 L_) ∧ (h_ = h0)
set_option maxRecDepth 65536 in
set_option maxHeartbeats 40000000 in
theorem rmLe2_2 (l : Launch) (Z : State) (a0 : Array Value) (hw : ∀ d ∈ tables_1, d.before a0 Z = true) (ws : List Jvm.Cond) (d : Addr) (d2 : Addr) (x0 : Int32) (x1 : Int32) (y0 : Int32) (y1 : Int32) (kd : ClassId) (kd2 : ClassId) (h0 : Heap) (n0 : Nat) (Z0 : n0 ≤ h0.size) (p_0 : Arv Z h0 d kd .byte (2 : Int32) [(.int x0), (.int x1)] (.int (0 : Int32))) (p_1 : Arv Z h0 d2 kd2 .byte (2 : Int32) [(.int y0), (.int y1)] (.int (0 : Int32))) :
    MetFree l yy12 (head1 (Jvm.Cond.code yy12 jdk_43_method_13_code 3 (some .boolean) :: ws) rRrmLe2_2) (fun a_ U_ => a_ = #[(.ref d), (.ref d2)] ∧ Z.Warmed39 U_.vm ∧ U_.heap = h0) (fun _ _ _ _ _ => True) (fun _ U_ o_ U1_ => ∃ v_ L_, o_ = .returned v_ ∧ QLe2_2 Z d d2 x0 x1 y0 y1 kd kd2 h0 n0 v_ U1_.heap L_ ∧ FrameEnd U_ o_ U1_ L_ rRrmLe2_2.cells rRrmLe2_2.slots) := by
  refine MetFree.of_bodySF pn_rmLe2_2 hisR ?_
  intro p e s m args below meth c s₁ Bd hml0 hP hK
  obtain ⟨rfl, hZ, hh⟩ := hP
  have hx := Bd.exec
  have hby := Bd.bytes
  have hlk : meth.locks = false := Bd.notSynchronized
  have hml : c.maxLocals = 3 := hml0
  have hown : s.vm.findClass "java/lang/StringLatin1" = some m.cls := findClass_of_methodNamed Bd.named
  have hnm := (name_of_methodNamed Bd.named Bd.method).1
  have X0 : Stand p l e rRrmLe2_2 s m #[(.ref d), (.ref d2)] below meth c s₁ [] 0 0 := Stand.of_body Bd
  have e0 : s₁.heap = h0 := by rw [← hh, Bd.state]; rfl
  have N0 := Fr.nil n0
  show own_Goes p e below s (QLe2_2 Z d d2 x0 x1 y0 y1 kd kd2 h0 n0) rRrmLe2_2.cells rRrmLe2_2.slots s₁ (entryFrame m #[(.ref d), (.ref d2)] 3)
  rw [ef_rmLe2_2 m d d2]
  show own_Goes p e below s (QLe2_2 Z d d2 x0 x1 y0 y1 kd kd2 h0 n0) rRrmLe2_2.cells rRrmLe2_2.slots s₁ (mkF m 0 #[rv d, rv d2, .unset] [])
  refine own_st (fun _ kk_ => XS.aloadN X0.here hx rfl (hb hby d16_0) rfl rfl kk_) ?_
  show own_Goes _ _ _ _ _ _ _ s₁ (mkF m 1 #[rv d, rv d2, .unset] [(.ref d)])
  obtain ⟨cl1, Ar1, -, Sz1, Nn1, -, -⟩ := id p_0
  refine own_st (fun _ kk_ => X0.arraylength hx (by rw [e0]; exact Ar1.1) (State.isArrayOf_alike hZ.alike Ar1.2.1) (g := (mkF m 1 #[rv d, rv d2, .unset] [(.ref d)])) rfl rfl (hb hby d16_1) _ kk_) ?_
  rw [len_of Sz1 Nn1]
  show own_Goes _ _ _ _ _ _ _ s₁ (mkF m 2 #[rv d, rv d2, .unset] [(.int (2 : Int32))])
  refine own_st (fun _ kk_ => XS.aloadN X0.here hx rfl (hb hby d16_2) rfl rfl kk_) ?_
  show own_Goes _ _ _ _ _ _ _ s₁ (mkF m 3 #[rv d, rv d2, .unset] [(.ref d2), (.int (2 : Int32))])
  obtain ⟨cl2, Ar2, -, Sz2, Nn2, -, -⟩ := id p_1
  refine own_st (fun _ kk_ => X0.arraylength hx (by rw [e0]; exact Ar2.1) (State.isArrayOf_alike hZ.alike Ar2.2.1) (g := (mkF m 3 #[rv d, rv d2, .unset] [(.ref d2), (.int (2 : Int32))])) rfl rfl (hb hby d16_3) _ kk_) ?_
  rw [len_of Sz2 Nn2]
  show own_Goes _ _ _ _ _ _ _ s₁ (mkF m 4 #[rv d, rv d2, .unset] [(.int (2 : Int32)), (.int (2 : Int32))])
  refine own_st (fun _ kk_ => XS.icmpNo X0.here hx rfl (hb hby d16_4) rfl (XT.ii_ne_f (by decide)) (XS.iconst X0.here hx rfl (hb hby d16_7) (XS.istoreN X0.here hx rfl (hb hby d16_8) rfl (l' := #[rv d, rv d2, iv (0 : Int32)]) rfl (XS.iloadN X0.here hx rfl (hb hby d16_9) rfl (XS.aloadN X0.here hx rfl (hb hby d16_10) rfl rfl kk_))))) ?_
  show own_Goes _ _ _ _ _ _ _ s₁ (mkF m 11 #[rv d, rv d2, iv (0 : Int32)] [(.ref d), (.int (0 : Int32))])
  obtain ⟨cl3, Ar3, -, Sz3, Nn3, -, -⟩ := id p_0
  refine own_st (fun _ kk_ => X0.arraylength hx (by rw [e0]; exact Ar3.1) (State.isArrayOf_alike hZ.alike Ar3.2.1) (g := (mkF m 11 #[rv d, rv d2, iv (0 : Int32)] [(.ref d), (.int (0 : Int32))])) rfl rfl (hb hby d16_11) _ kk_) ?_
  rw [len_of Sz3 Nn3]
  show own_Goes _ _ _ _ _ _ _ s₁ (mkF m 12 #[rv d, rv d2, iv (0 : Int32)] [(.int (2 : Int32)), (.int (0 : Int32))])
  refine own_st (fun _ kk_ => XS.icmpNo X0.here hx rfl (hb hby d16_12) rfl (XT.ii_ge_f (by decide)) (XS.aloadN X0.here hx rfl (hb hby d16_15) rfl rfl (XS.iloadN X0.here hx rfl (hb hby d16_16) rfl kk_))) ?_
  show own_Goes _ _ _ _ _ _ _ s₁ (mkF m 17 #[rv d, rv d2, iv (0 : Int32)] [(.int (0 : Int32)), (.ref d)])
  obtain ⟨cl4, Ar4, q4, Sz4, Nn4, Hh4, Gg4⟩ := id p_0
  refine own_st (fun _ kk_ => X0.baloadBytes hx (j := (0 : Int32)) (v := (.int x0)) (by rw [e0]; exact Ar4.1) (State.isArrayOf_alike hZ.alike Ar4.2.1) Ar4.2.2 (inb_of Sz4 ⟨by decide, by decide⟩) (Hh4.at (inb_of Sz4 ⟨by decide, by decide⟩) rfl) (g := (mkF m 17 #[rv d, rv d2, iv (0 : Int32)] [(.int (0 : Int32)), (.ref d)])) rfl rfl (hb hby d16_17) _ kk_) ?_
  show own_Goes _ _ _ _ _ _ _ s₁ (mkF m 18 #[rv d, rv d2, iv (0 : Int32)] [(.int x0)])
  refine own_st (fun _ kk_ => XS.aloadN X0.here hx rfl (hb hby d16_18) rfl rfl (XS.iloadN X0.here hx rfl (hb hby d16_19) rfl kk_)) ?_
  show own_Goes _ _ _ _ _ _ _ s₁ (mkF m 20 #[rv d, rv d2, iv (0 : Int32)] [(.int (0 : Int32)), (.ref d2), (.int x0)])
  obtain ⟨cl5, Ar5, q5, Sz5, Nn5, Hh5, Gg5⟩ := id p_1
  refine own_st (fun _ kk_ => X0.baloadBytes hx (j := (0 : Int32)) (v := (.int y0)) (by rw [e0]; exact Ar5.1) (State.isArrayOf_alike hZ.alike Ar5.2.1) Ar5.2.2 (inb_of Sz5 ⟨by decide, by decide⟩) (Hh5.at (inb_of Sz5 ⟨by decide, by decide⟩) rfl) (g := (mkF m 20 #[rv d, rv d2, iv (0 : Int32)] [(.int (0 : Int32)), (.ref d2), (.int x0)])) rfl rfl (hb hby d16_20) _ kk_) ?_
  show own_Goes _ _ _ _ _ _ _ s₁ (mkF m 21 #[rv d, rv d2, iv (0 : Int32)] [(.int y0), (.int x0)])
  rcases Classical.em (x0 = y0) with q0 | q0
  · refine own_st (fun _ kk_ => XS.icmpYes X0.here hx rfl (pc0 := 21) (pc' := 26) rfl (hb hby d16_21) rfl (XT.ii_eq_t q0) (by decide) (by decide) (XS.iinc X0.here hx rfl (hb hby d16_26) rfl (l' := #[rv d, rv d2, iv (1 : Int32)]) rfl (XS.goto X0.here hx rfl (pc0 := 29) (pc' := 9) rfl (hb hby d16_29) (by decide) (by decide) (XS.iloadN X0.here hx rfl (hb hby d16_9) rfl (XS.aloadN X0.here hx rfl (hb hby d16_10) rfl rfl kk_))))) ?_
    show own_Goes _ _ _ _ _ _ _ s₁ (mkF m 11 #[rv d, rv d2, iv (1 : Int32)] [(.ref d), (.int (1 : Int32))])
    obtain ⟨cl6, Ar6, -, Sz6, Nn6, -, -⟩ := id p_0
    refine own_st (fun _ kk_ => X0.arraylength hx (by rw [e0]; exact Ar6.1) (State.isArrayOf_alike hZ.alike Ar6.2.1) (g := (mkF m 11 #[rv d, rv d2, iv (1 : Int32)] [(.ref d), (.int (1 : Int32))])) rfl rfl (hb hby d16_11) _ kk_) ?_
    rw [len_of Sz6 Nn6]
    show own_Goes _ _ _ _ _ _ _ s₁ (mkF m 12 #[rv d, rv d2, iv (1 : Int32)] [(.int (2 : Int32)), (.int (1 : Int32))])
    refine own_st (fun _ kk_ => XS.icmpNo X0.here hx rfl (hb hby d16_12) rfl (XT.ii_ge_f (by decide)) (XS.aloadN X0.here hx rfl (hb hby d16_15) rfl rfl (XS.iloadN X0.here hx rfl (hb hby d16_16) rfl kk_))) ?_
    show own_Goes _ _ _ _ _ _ _ s₁ (mkF m 17 #[rv d, rv d2, iv (1 : Int32)] [(.int (1 : Int32)), (.ref d)])
    obtain ⟨cl7, Ar7, q7, Sz7, Nn7, Hh7, Gg7⟩ := id p_0
    refine own_st (fun _ kk_ => X0.baloadBytes hx (j := (1 : Int32)) (v := (.int x1)) (by rw [e0]; exact Ar7.1) (State.isArrayOf_alike hZ.alike Ar7.2.1) Ar7.2.2 (inb_of Sz7 ⟨by decide, by decide⟩) (Hh7.at (inb_of Sz7 ⟨by decide, by decide⟩) rfl) (g := (mkF m 17 #[rv d, rv d2, iv (1 : Int32)] [(.int (1 : Int32)), (.ref d)])) rfl rfl (hb hby d16_17) _ kk_) ?_
    show own_Goes _ _ _ _ _ _ _ s₁ (mkF m 18 #[rv d, rv d2, iv (1 : Int32)] [(.int x1)])
    refine own_st (fun _ kk_ => XS.aloadN X0.here hx rfl (hb hby d16_18) rfl rfl (XS.iloadN X0.here hx rfl (hb hby d16_19) rfl kk_)) ?_
    show own_Goes _ _ _ _ _ _ _ s₁ (mkF m 20 #[rv d, rv d2, iv (1 : Int32)] [(.int (1 : Int32)), (.ref d2), (.int x1)])
    obtain ⟨cl8, Ar8, q8, Sz8, Nn8, Hh8, Gg8⟩ := id p_1
    refine own_st (fun _ kk_ => X0.baloadBytes hx (j := (1 : Int32)) (v := (.int y1)) (by rw [e0]; exact Ar8.1) (State.isArrayOf_alike hZ.alike Ar8.2.1) Ar8.2.2 (inb_of Sz8 ⟨by decide, by decide⟩) (Hh8.at (inb_of Sz8 ⟨by decide, by decide⟩) rfl) (g := (mkF m 20 #[rv d, rv d2, iv (1 : Int32)] [(.int (1 : Int32)), (.ref d2), (.int x1)])) rfl rfl (hb hby d16_20) _ kk_) ?_
    show own_Goes _ _ _ _ _ _ _ s₁ (mkF m 21 #[rv d, rv d2, iv (1 : Int32)] [(.int y1), (.int x1)])
    rcases Classical.em (x1 = y1) with q1 | q1
    · refine own_st (fun _ kk_ => XS.icmpYes X0.here hx rfl (pc0 := 21) (pc' := 26) rfl (hb hby d16_21) rfl (XT.ii_eq_t q1) (by decide) (by decide) (XS.iinc X0.here hx rfl (hb hby d16_26) rfl (l' := #[rv d, rv d2, iv (2 : Int32)]) rfl (XS.goto X0.here hx rfl (pc0 := 29) (pc' := 9) rfl (hb hby d16_29) (by decide) (by decide) (XS.iloadN X0.here hx rfl (hb hby d16_9) rfl (XS.aloadN X0.here hx rfl (hb hby d16_10) rfl rfl kk_))))) ?_
      show own_Goes _ _ _ _ _ _ _ s₁ (mkF m 11 #[rv d, rv d2, iv (2 : Int32)] [(.ref d), (.int (2 : Int32))])
      obtain ⟨cl9, Ar9, -, Sz9, Nn9, -, -⟩ := id p_0
      refine own_st (fun _ kk_ => X0.arraylength hx (by rw [e0]; exact Ar9.1) (State.isArrayOf_alike hZ.alike Ar9.2.1) (g := (mkF m 11 #[rv d, rv d2, iv (2 : Int32)] [(.ref d), (.int (2 : Int32))])) rfl rfl (hb hby d16_11) _ kk_) ?_
      rw [len_of Sz9 Nn9]
      show own_Goes _ _ _ _ _ _ _ s₁ (mkF m 12 #[rv d, rv d2, iv (2 : Int32)] [(.int (2 : Int32)), (.int (2 : Int32))])
      refine own_st (fun _ kk_ => XS.icmpYes X0.here hx rfl (pc0 := 12) (pc' := 32) rfl (hb hby d16_12) rfl (XT.ii_ge_t (by decide)) (by decide) (by decide) (XS.iconst X0.here hx rfl (hb hby d16_32) kk_)) ?_
      show own_Goes _ _ _ _ _ _ _ s₁ (mkF m 33 #[rv d, rv d2, iv (2 : Int32)] [(.int (1 : Int32))])
      refine own_retN X0 hx hlk (t := .boolean) Bd.returns (by simp) (hb hby d16_33) (by decide) (by decide) ?_
      show QLe2_2 Z d d2 x0 x1 y0 y1 kd kd2 h0 n0 (some (.int (nar .boolean (1 : Int32)))) s₁.heap _
      rw [e0]
      exact ⟨by exact own_bt ⟨q0, q1⟩, N0, rfl⟩
    · refine own_st (fun _ kk_ => XS.icmpNo X0.here hx rfl (hb hby d16_21) rfl (XT.ii_eq_f q1) (XS.iconst X0.here hx rfl (hb hby d16_24) kk_)) ?_
      show own_Goes _ _ _ _ _ _ _ s₁ (mkF m 25 #[rv d, rv d2, iv (1 : Int32)] [(.int (0 : Int32))])
      refine own_retN X0 hx hlk (t := .boolean) Bd.returns (by simp) (hb hby d16_25) (by decide) (by decide) ?_
      show QLe2_2 Z d d2 x0 x1 y0 y1 kd kd2 h0 n0 (some (.int (nar .boolean (0 : Int32)))) s₁.heap _
      rw [e0]
      exact ⟨by exact own_bf (fun k => q1 k.2), N0, rfl⟩
  · refine own_st (fun _ kk_ => XS.icmpNo X0.here hx rfl (hb hby d16_21) rfl (XT.ii_eq_f q0) (XS.iconst X0.here hx rfl (hb hby d16_24) kk_)) ?_
    show own_Goes _ _ _ _ _ _ _ s₁ (mkF m 25 #[rv d, rv d2, iv (0 : Int32)] [(.int (0 : Int32))])
    refine own_retN X0 hx hlk (t := .boolean) Bd.returns (by simp) (hb hby d16_25) (by decide) (by decide) ?_
    show QLe2_2 Z d d2 x0 x1 y0 y1 kd kd2 h0 n0 (some (.int (nar .boolean (0 : Int32)))) s₁.heap _
    rw [e0]
    exact ⟨by exact own_bf (fun k => q0 k.1), N0, rfl⟩
abbrev rRrmSe2_2 : Room := { frames := 1, cells := 0, slots := 0, locals := 14 }
theorem pn_rmSe2_2 : plainFor yy13 = true := by first | exact plainFor_of_name (by first | (simp [plainName, overriddenIn]; done) | decide +kernel) | decide +kernel
theorem ef_rmSe2_2 (m : MethodId) (a : Addr) (o : Addr) : entryFrame m #[(.ref a), (.ref o)] 3 = (mkF m 0 #[rv a, rv o, .unset] []) := by first | (simp [entryFrame, mkF, argsToLocals, Value.category]; done) | rfl
def QSe2_2 (Z : State) (a : Addr) (o : Addr) (x0 : Int32) (x1 : Int32) (y0 : Int32) (y1 : Int32) (d : Addr) (d2 : Addr) (kd : ClassId) (kd2 : ClassId) (cs : Int32) (h0 : Heap) (n0 : Nat) (v_ : Option Value) (h_ : Heap) (L_ : List Loc) : Prop := (v_ = some (.int (own_b (x0 = y0 ∧ x1 = y1)))) ∧ (Fr n0 L_) ∧ (h_ = h0)
set_option maxRecDepth 65536 in
set_option maxHeartbeats 40000000 in
theorem rmSe2_2 (l : Launch) (Z : State) (a0 : Array Value) (hw : ∀ d ∈ tables_1, d.before a0 Z = true) (ws : List Jvm.Cond) (a : Addr) (o : Addr) (x0 : Int32) (x1 : Int32) (y0 : Int32) (y1 : Int32) (d : Addr) (d2 : Addr) (kd : ClassId) (kd2 : ClassId) (cs : Int32) (h0 : Heap) (n0 : Nat) (Z0 : n0 ≤ h0.size) (p_0 : Exa Z h0 a "java/lang/String") (p_1 : Fld Z h0 a "java/lang/String" "coder" "B" (.int (0 : Int32))) (p_2 : Fld Z h0 a "java/lang/String" "value" "[B" (.ref d)) (p_3 : Exa Z h0 o "java/lang/String") (p_4 : Fld Z h0 o "java/lang/String" "coder" "B" (.int (0 : Int32))) (p_5 : Fld Z h0 o "java/lang/String" "value" "[B" (.ref d2)) (p_6 : Arv Z h0 d kd .byte (2 : Int32) [(.int x0), (.int x1)] (.int (0 : Int32))) (p_7 : Arv Z h0 d2 kd2 .byte (2 : Int32) [(.int y0), (.int y1)] (.int (0 : Int32))) (p_8 : Sta Z h0 "java/lang/String" "COMPACT_STRINGS" "Z" (.int cs)) (hcs : ¬ cs = (0 : Int32)) (p_10 : a ≠ o) :
    MetFree l yy13 (head1 (Jvm.Cond.code yy13 jdk_42_method_66_code 3 (some .boolean) :: ws) rRrmSe2_2) (fun a_ U_ => a_ = #[(.ref a), (.ref o)] ∧ Z.Warmed39 U_.vm ∧ U_.heap = h0) (fun _ _ _ _ _ => True) (fun _ U_ o_ U1_ => ∃ v_ L_, o_ = .returned v_ ∧ QSe2_2 Z a o x0 x1 y0 y1 d d2 kd kd2 cs h0 n0 v_ U1_.heap L_ ∧ FrameEnd U_ o_ U1_ L_ rRrmSe2_2.cells rRrmSe2_2.slots) := by
  refine MetFree.of_bodySF pn_rmSe2_2 hisR ?_
  intro p e s m args below meth c s₁ Bd hml0 hP hK
  obtain ⟨rfl, hZ, hh⟩ := hP
  have hx := Bd.exec
  have hby := Bd.bytes
  have hlk : meth.locks = false := Bd.notSynchronized
  have hml : c.maxLocals = 3 := hml0
  have hown : s.vm.findClass "java/lang/String" = some m.cls := findClass_of_methodNamed Bd.named
  have hnm := (name_of_methodNamed Bd.named Bd.method).1
  have X0 : Stand p l e rRrmSe2_2 s m #[(.ref a), (.ref o)] below meth c s₁ [] 0 0 := Stand.of_body Bd
  have e0 : s₁.heap = h0 := by rw [← hh, Bd.state]; rfl
  have N0 := Fr.nil n0
  show own_Goes p e below s (QSe2_2 Z a o x0 x1 y0 y1 d d2 kd kd2 cs h0 n0) rRrmSe2_2.cells rRrmSe2_2.slots s₁ (entryFrame m #[(.ref a), (.ref o)] 3)
  rw [ef_rmSe2_2 m a o]
  show own_Goes p e below s (QSe2_2 Z a o x0 x1 y0 y1 d d2 kd kd2 cs h0 n0) rRrmSe2_2.cells rRrmSe2_2.slots s₁ (mkF m 0 #[rv a, rv o, .unset] [])
  refine own_st (fun _ kk_ => XS.aloadN X0.here hx rfl (hb hby d8_0) rfl rfl (XS.aloadN X0.here hx rfl (hb hby d8_1) rfl rfl (XT.acmpYes X0.here hx rfl (pc0 := 2) (pc' := 7) rfl (hb hby d8_2) rfl rfl rfl (XT.aa_ne_t (fun q => p_10 (Value.ref.inj q))) (by decide) (by decide) (XS.aloadN X0.here hx rfl (hb hby d8_7) rfl rfl kk_)))) ?_
  show own_Goes _ _ _ _ _ _ _ s₁ (mkF m 8 #[rv a, rv o, .unset] [(.ref o)])
  obtain ⟨T1, X1, e1, st1⟩ := instY X0 hx hZ hown (own_w hw 76 rfl) e0 (Ins.self p_3) (g := (mkF m 8 #[rv a, rv o, .unset] [(.ref o)])) rfl rfl (hb hby d8_8)
  refine own_st st1 ?_
  show own_Goes _ _ _ _ _ _ _ T1 (mkF m 11 #[rv a, rv o, .unset] [(.int (1 : Int32))])
  refine own_st (fun _ kk_ => XS.ifNo X1.here hx rfl (hb hby d8_11) rfl (XT.i0_eq_f (by decide)) (XS.aloadN X1.here hx rfl (hb hby d8_14) rfl rfl kk_)) ?_
  show own_Goes _ _ _ _ _ _ _ T1 (mkF m 15 #[rv a, rv o, .unset] [(.ref o)])
  obtain ⟨T2, X2, e2, st2⟩ := castY X1 hx hZ hown (own_w hw 76 rfl) e1 (Ins.self p_3) (g := (mkF m 15 #[rv a, rv o, .unset] [(.ref o)])) rfl rfl (hb hby d8_15)
  refine own_st st2 ?_
  show own_Goes _ _ _ _ _ _ _ T2 (mkF m 18 #[rv a, rv o, .unset] [(.ref o)])
  refine own_st (fun _ kk_ => XS.astoreN X2.here hx rfl (hb hby d8_18) rfl rfl (l' := #[rv a, rv o, rv o]) rfl kk_) ?_
  show own_Goes _ _ _ _ _ _ _ T2 (mkF m 19 #[rv a, rv o, rv o] [])
  obtain ⟨T3, X3, e3, st3⟩ := getS2 X2 hx hZ hown (host := "") (Or.inl (own_w hw 58 rfl)) Via.refl e2 p_8 (g := (mkF m 19 #[rv a, rv o, rv o] [])) rfl (hb hby d8_19)
  refine own_st st3 ?_
  show own_Goes _ _ _ _ _ _ _ T3 (mkF m 22 #[rv a, rv o, rv o] [(.int cs)])
  refine own_st (fun _ kk_ => XS.ifNo X3.here hx rfl (hb hby d8_22) rfl (XT.i0_eq_f hcs) (XS.aloadN X3.here hx rfl (hb hby d8_25) rfl rfl kk_)) ?_
  show own_Goes _ _ _ _ _ _ _ T3 (mkF m 26 #[rv a, rv o, rv o] [(.ref a)])
  obtain ⟨T4, X4, e4, st4⟩ := getF X3 hx hZ hown (host := "") (Or.inl (own_w hw 30 rfl)) Via.refl e3 p_1 (g := (mkF m 26 #[rv a, rv o, rv o] [(.ref a)])) rfl rfl (hb hby d8_26)
  refine own_st st4 ?_
  show own_Goes _ _ _ _ _ _ _ T4 (mkF m 29 #[rv a, rv o, rv o] [(.int (0 : Int32))])
  refine own_st (fun _ kk_ => XS.aloadN X4.here hx rfl (hb hby d8_29) rfl rfl kk_) ?_
  show own_Goes _ _ _ _ _ _ _ T4 (mkF m 30 #[rv a, rv o, rv o] [(.ref o), (.int (0 : Int32))])
  obtain ⟨T5, X5, e5, st5⟩ := getF X4 hx hZ hown (host := "") (Or.inl (own_w hw 30 rfl)) Via.refl e4 p_4 (g := (mkF m 30 #[rv a, rv o, rv o] [(.ref o), (.int (0 : Int32))])) rfl rfl (hb hby d8_30)
  refine own_st st5 ?_
  show own_Goes _ _ _ _ _ _ _ T5 (mkF m 33 #[rv a, rv o, rv o] [(.int (0 : Int32)), (.int (0 : Int32))])
  refine own_st (fun _ kk_ => XS.icmpNo X5.here hx rfl (hb hby d8_33) rfl (XT.ii_ne_f (by decide)) (XS.aloadN X5.here hx rfl (hb hby d8_36) rfl rfl kk_)) ?_
  show own_Goes _ _ _ _ _ _ _ T5 (mkF m 37 #[rv a, rv o, rv o] [(.ref a)])
  obtain ⟨T6, X6, e6, st6⟩ := getF X5 hx hZ hown (host := "") (Or.inl (own_w hw 29 rfl)) Via.refl e5 p_2 (g := (mkF m 37 #[rv a, rv o, rv o] [(.ref a)])) rfl rfl (hb hby d8_37)
  refine own_st st6 ?_
  show own_Goes _ _ _ _ _ _ _ T6 (mkF m 40 #[rv a, rv o, rv o] [(.ref d)])
  refine own_st (fun _ kk_ => XS.aloadN X6.here hx rfl (hb hby d8_40) rfl rfl kk_) ?_
  show own_Goes _ _ _ _ _ _ _ T6 (mkF m 41 #[rv a, rv o, rv o] [(.ref o), (.ref d)])
  obtain ⟨T7, X7, e7, st7⟩ := getF X6 hx hZ hown (host := "") (Or.inl (own_w hw 29 rfl)) Via.refl e6 p_5 (g := (mkF m 41 #[rv a, rv o, rv o] [(.ref o), (.ref d)])) rfl rfl (hb hby d8_41)
  refine own_st st7 ?_
  show own_Goes _ _ _ _ _ _ _ T7 (mkF m 44 #[rv a, rv o, rv o] [(.ref d2), (.ref d)])
  obtain ⟨_, _, ⟨T8, L8, k8, n8⟩, -, X8, ⟨Lc8, hQ8, l8, y8, z8⟩, st8⟩ := Jvm.LawKit.callS X7 hx (y := yy12) hown (mvT hZ (own_w hw 83 rfl)) (mvT hZ (own_w hw 84 rfl)) (mvT hZ (own_w hw 74 rfl)) (mvT hZ (own_w hw 85 rfl)) (by decide) (backOf (W := 0) (rmLe2_2 l Z a0 hw [] (d) (d2) (x0) (x1) (y0) (y1) (kd) (kd2) h0 n0 Z0 p_6 p_7) hZ (own_w hw 85 rfl) (own_w hw 74 rfl) (by decide) (by decide)) (g := (mkF m 44 #[rv a, rv o, rv o] [(.ref d2), (.ref d)])) rfl (by rw [hml]; rfl) (argsL := [(.ref d), (.ref d2)]) (rest := []) (lenOf pd_9 rfl) rfl (by show 2 * 0 + _ ≤ _; exact Nat.le_of_eq rfl) (hb hby d8_44) (fun _ _ => ⟨rfl, e7, (by decide : 0 + 0 ≤ _), (by decide : 0 + 0 ≤ _)⟩)
  dsimp only [Pt.U, Pt.locs, Pt.cells, Pt.slots] at X8 l8 y8 z8 st8 hQ8
  subst l8 y8 z8
  obtain ⟨rfl, Nq8, eq8⟩ := hQ8
  have N8 := Fr.app N0 Nq8
  refine own_st st8 ?_
  show own_Goes _ _ _ _ _ _ _ T8 (mkF m 47 #[rv a, rv o, rv o] [(.int (own_b (x0 = y0 ∧ x1 = y1)))])
  rcases Classical.em (x0 = y0 ∧ x1 = y1) with hM | hM
  · refine own_st (fun _ kk_ => XS.ifNo X8.here hx rfl (hb hby d8_47) rfl (XT.i0_eq_f (by rw [own_b1 hM]; decide)) (XS.iconst X8.here hx rfl (hb hby d8_50) (XS.goto X8.here hx rfl (pc0 := 51) (pc' := 55) rfl (hb hby d8_51) (by decide) (by decide) kk_))) ?_
    show own_Goes _ _ _ _ _ _ _ T8 (mkF m 55 #[rv a, rv o, rv o] [(.int (1 : Int32))])
    refine own_retN X8 hx hlk (t := .boolean) Bd.returns (by simp) (hb hby d8_55) (by decide) (by decide) ?_
    show QSe2_2 Z a o x0 x1 y0 y1 d d2 kd kd2 cs h0 n0 (some (.int (nar .boolean (1 : Int32)))) T8.heap _
    rw [eq8]
    exact ⟨by exact own_bt hM, N8, rfl⟩
  · refine own_st (fun _ kk_ => XS.ifYes X8.here hx rfl (pc0 := 47) (pc' := 54) rfl (hb hby d8_47) rfl (XT.i0_eq_t (own_b0 hM)) (by decide) (by decide) (XS.iconst X8.here hx rfl (hb hby d8_54) kk_)) ?_
    show own_Goes _ _ _ _ _ _ _ T8 (mkF m 55 #[rv a, rv o, rv o] [(.int (0 : Int32))])
    refine own_retN X8 hx hlk (t := .boolean) Bd.returns (by simp) (hb hby d8_55) (by decide) (by decide) ?_
    show QSe2_2 Z a o x0 x1 y0 y1 d d2 kd kd2 cs h0 n0 (some (.int (nar .boolean (0 : Int32)))) T8.heap _
    rw [eq8]
    exact ⟨by exact own_bf hM, N8, rfl⟩
abbrev rRrm7_0_0 : Room := { frames := 2, cells := 0, slots := 0, locals := 28 }
theorem d7_0 : decode prog_31_method_5_code 0 = .ok (.aload_n 1, 1) := by decide +kernel
theorem d7_1 : decode prog_31_method_5_code 1 = .ok (.instanceof 8, 3) := by decide +kernel
theorem d7_4 : decode prog_31_method_5_code 4 = .ok (.ifCond .eq 48, 3) := by decide +kernel
theorem d7_7 : decode prog_31_method_5_code 7 = .ok (.aload_n 1, 1) := by decide +kernel
theorem d7_8 : decode prog_31_method_5_code 8 = .ok (.checkcast 8, 3) := by decide +kernel
theorem d7_11 : decode prog_31_method_5_code 11 = .ok (.astore_n 2, 1) := by decide +kernel
theorem d7_12 : decode prog_31_method_5_code 12 = .ok (.aload_n 0, 1) := by decide +kernel
theorem d7_13 : decode prog_31_method_5_code 13 = .ok (.getfield 7, 3) := by decide +kernel
theorem d7_16 : decode prog_31_method_5_code 16 = .ok (.aload_n 2, 1) := by decide +kernel
theorem d7_17 : decode prog_31_method_5_code 17 = .ok (.getfield 7, 3) := by decide +kernel
theorem d7_20 : decode prog_31_method_5_code 20 = .ok (.if_icmp .ne 32, 3) := by decide +kernel
theorem d7_23 : decode prog_31_method_5_code 23 = .ok (.aload_n 0, 1) := by decide +kernel
theorem d7_24 : decode prog_31_method_5_code 24 = .ok (.getfield 13, 3) := by decide +kernel
theorem d7_27 : decode prog_31_method_5_code 27 = .ok (.aload_n 2, 1) := by decide +kernel
theorem d7_28 : decode prog_31_method_5_code 28 = .ok (.getfield 13, 3) := by decide +kernel
theorem d7_31 : decode prog_31_method_5_code 31 = .ok (.if_icmp .ne 21, 3) := by decide +kernel
theorem d7_34 : decode prog_31_method_5_code 34 = .ok (.aload_n 0, 1) := by decide +kernel
theorem d7_35 : decode prog_31_method_5_code 35 = .ok (.getfield 16, 3) := by decide +kernel
theorem d7_38 : decode prog_31_method_5_code 38 = .ok (.aload_n 2, 1) := by decide +kernel
theorem d7_39 : decode prog_31_method_5_code 39 = .ok (.getfield 16, 3) := by decide +kernel
theorem d7_42 : decode prog_31_method_5_code 42 = .ok (.invokevirtual 20, 3) := by decide +kernel
theorem d7_45 : decode prog_31_method_5_code 45 = .ok (.ifCond .eq 7, 3) := by decide +kernel
theorem d7_48 : decode prog_31_method_5_code 48 = .ok (.iconst 1, 1) := by decide +kernel
theorem d7_49 : decode prog_31_method_5_code 49 = .ok (.goto 4, 3) := by decide +kernel
theorem d7_52 : decode prog_31_method_5_code 52 = .ok (.iconst 0, 1) := by decide +kernel
theorem d7_53 : decode prog_31_method_5_code 53 = .ok (.ireturn, 1) := by decide +kernel
theorem pd_10 : parseMethodDescriptor "(Ljava/lang/Object;)Z" = some ⟨[(.object "java/lang/Object")], some .boolean⟩ := by decide +kernel
theorem pn_rm7_0_0 : plainFor yy14 = true := by first | exact plainFor_of_name (by first | (simp [plainName, overriddenIn]; done) | decide +kernel) | decide +kernel
theorem ef_rm7_0_0 (m : MethodId) (a : Addr) (o : Addr) : entryFrame m #[(.ref a), (.ref o)] 3 = (mkF m 0 #[rv a, rv o, .unset] []) := by first | (simp [entryFrame, mkF, argsToLocals, Value.category]; done) | rfl
def Q7_0_0 (Z : State) (a : Addr) (o : Addr) (la : Int32) (ca : Int32) (lo : Int32) (co : Int32) (ma : Addr) (mo : Addr) (d : Addr) (d2 : Addr) (kd : ClassId) (kd2 : ClassId) (cs : Int32) (h0 : Heap) (n0 : Nat) (v_ : Option Value) (h_ : Heap) (L_ : List Loc) : Prop := (v_ = some (.int (own_b (la = lo ∧ ca = co ∧ (True))))) ∧ (Fr n0 L_) ∧ (h_ = h0)
set_option maxRecDepth 65536 in
set_option maxHeartbeats 40000000 in
theorem rm7_0_0 (l : Launch) (Z : State) (a0 : Array Value) (hw : ∀ d ∈ tables_1, d.before a0 Z = true) (ws : List Jvm.Cond) (a : Addr) (o : Addr) (la : Int32) (ca : Int32) (lo : Int32) (co : Int32) (ma : Addr) (mo : Addr) (d : Addr) (d2 : Addr) (kd : ClassId) (kd2 : ClassId) (cs : Int32) (h0 : Heap) (n0 : Nat) (Z0 : n0 ≤ h0.size) (p_0 : Fld Z h0 a "com/example/majra/majra/lang/Command$Refusal" "line" "I" (.int la)) (p_1 : Fld Z h0 a "com/example/majra/majra/lang/Command$Refusal" "column" "I" (.int ca)) (p_2 : Fld Z h0 a "com/example/majra/majra/lang/Command$Refusal" "message" "Ljava/lang/String;" (.ref ma)) (p_3 : Exa Z h0 o "com/example/majra/majra/lang/Command$Refusal") (p_4 : Fld Z h0 o "com/example/majra/majra/lang/Command$Refusal" "line" "I" (.int lo)) (p_5 : Fld Z h0 o "com/example/majra/majra/lang/Command$Refusal" "column" "I" (.int co)) (p_6 : Fld Z h0 o "com/example/majra/majra/lang/Command$Refusal" "message" "Ljava/lang/String;" (.ref mo)) (p_7 : Exa Z h0 ma "java/lang/String") (p_8 : Fld Z h0 ma "java/lang/String" "coder" "B" (.int (0 : Int32))) (p_9 : Fld Z h0 ma "java/lang/String" "value" "[B" (.ref d)) (p_10 : Exa Z h0 mo "java/lang/String") (p_11 : Fld Z h0 mo "java/lang/String" "coder" "B" (.int (0 : Int32))) (p_12 : Fld Z h0 mo "java/lang/String" "value" "[B" (.ref d2)) (p_13 : Arv Z h0 d kd .byte (0 : Int32) [] (.int (0 : Int32))) (p_14 : Arv Z h0 d2 kd2 .byte (0 : Int32) [] (.int (0 : Int32))) (p_15 : Sta Z h0 "java/lang/String" "COMPACT_STRINGS" "Z" (.int cs)) (hcs : ¬ cs = (0 : Int32)) (p_17 : ma ≠ mo) :
    MetFree l yy14 (head1 (Jvm.Cond.code yy14 prog_31_method_5_code 3 (some .boolean) :: ws) rRrm7_0_0) (fun a_ U_ => a_ = #[(.ref a), (.ref o)] ∧ Z.Warmed39 U_.vm ∧ U_.heap = h0) (fun _ _ _ _ _ => True) (fun _ U_ o_ U1_ => ∃ v_ L_, o_ = .returned v_ ∧ Q7_0_0 Z a o la ca lo co ma mo d d2 kd kd2 cs h0 n0 v_ U1_.heap L_ ∧ FrameEnd U_ o_ U1_ L_ rRrm7_0_0.cells rRrm7_0_0.slots) := by
  refine MetFree.of_bodySF pn_rm7_0_0 hisR ?_
  intro p e s m args below meth c s₁ Bd hml0 hP hK
  obtain ⟨rfl, hZ, hh⟩ := hP
  have hx := Bd.exec
  have hby := Bd.bytes
  have hlk : meth.locks = false := Bd.notSynchronized
  have hml : c.maxLocals = 3 := hml0
  have hown : s.vm.findClass "com/example/majra/majra/lang/Command$Refusal" = some m.cls := findClass_of_methodNamed Bd.named
  have hnm := (name_of_methodNamed Bd.named Bd.method).1
  have X0 : Stand p l e rRrm7_0_0 s m #[(.ref a), (.ref o)] below meth c s₁ [] 0 0 := Stand.of_body Bd
  have e0 : s₁.heap = h0 := by rw [← hh, Bd.state]; rfl
  have N0 := Fr.nil n0
  show own_Goes p e below s (Q7_0_0 Z a o la ca lo co ma mo d d2 kd kd2 cs h0 n0) rRrm7_0_0.cells rRrm7_0_0.slots s₁ (entryFrame m #[(.ref a), (.ref o)] 3)
  rw [ef_rm7_0_0 m a o]
  show own_Goes p e below s (Q7_0_0 Z a o la ca lo co ma mo d d2 kd kd2 cs h0 n0) rRrm7_0_0.cells rRrm7_0_0.slots s₁ (mkF m 0 #[rv a, rv o, .unset] [])
  refine own_st (fun _ kk_ => XS.aloadN X0.here hx rfl (hb hby d7_0) rfl rfl kk_) ?_
  show own_Goes _ _ _ _ _ _ _ s₁ (mkF m 1 #[rv a, rv o, .unset] [(.ref o)])
  obtain ⟨T1, X1, e1, st1⟩ := instY X0 hx hZ hown (own_w hw 49 rfl) e0 (Ins.self p_3) (g := (mkF m 1 #[rv a, rv o, .unset] [(.ref o)])) rfl rfl (hb hby d7_1)
  refine own_st st1 ?_
  show own_Goes _ _ _ _ _ _ _ T1 (mkF m 4 #[rv a, rv o, .unset] [(.int (1 : Int32))])
  refine own_st (fun _ kk_ => XS.ifNo X1.here hx rfl (hb hby d7_4) rfl (XT.i0_eq_f (by decide)) (XS.aloadN X1.here hx rfl (hb hby d7_7) rfl rfl kk_)) ?_
  show own_Goes _ _ _ _ _ _ _ T1 (mkF m 8 #[rv a, rv o, .unset] [(.ref o)])
  obtain ⟨T2, X2, e2, st2⟩ := castY X1 hx hZ hown (own_w hw 49 rfl) e1 (Ins.self p_3) (g := (mkF m 8 #[rv a, rv o, .unset] [(.ref o)])) rfl rfl (hb hby d7_8)
  refine own_st st2 ?_
  show own_Goes _ _ _ _ _ _ _ T2 (mkF m 11 #[rv a, rv o, .unset] [(.ref o)])
  refine own_st (fun _ kk_ => XS.astoreN X2.here hx rfl (hb hby d7_11) rfl rfl (l' := #[rv a, rv o, rv o]) rfl (XS.aloadN X2.here hx rfl (hb hby d7_12) rfl rfl kk_)) ?_
  show own_Goes _ _ _ _ _ _ _ T2 (mkF m 13 #[rv a, rv o, rv o] [(.ref a)])
  obtain ⟨T3, X3, e3, st3⟩ := getF X2 hx hZ hown (host := "") (Or.inl (own_w hw 38 rfl)) Via.refl e2 p_0 (g := (mkF m 13 #[rv a, rv o, rv o] [(.ref a)])) rfl rfl (hb hby d7_13)
  refine own_st st3 ?_
  show own_Goes _ _ _ _ _ _ _ T3 (mkF m 16 #[rv a, rv o, rv o] [(.int la)])
  refine own_st (fun _ kk_ => XS.aloadN X3.here hx rfl (hb hby d7_16) rfl rfl kk_) ?_
  show own_Goes _ _ _ _ _ _ _ T3 (mkF m 17 #[rv a, rv o, rv o] [(.ref o), (.int la)])
  obtain ⟨T4, X4, e4, st4⟩ := getF X3 hx hZ hown (host := "") (Or.inl (own_w hw 38 rfl)) Via.refl e3 p_4 (g := (mkF m 17 #[rv a, rv o, rv o] [(.ref o), (.int la)])) rfl rfl (hb hby d7_17)
  refine own_st st4 ?_
  show own_Goes _ _ _ _ _ _ _ T4 (mkF m 20 #[rv a, rv o, rv o] [(.int lo), (.int la)])
  rcases Classical.em (la = lo) with ql | ql
  · refine own_st (fun _ kk_ => XS.icmpNo X4.here hx rfl (hb hby d7_20) rfl (XT.ii_ne_f ql) (XS.aloadN X4.here hx rfl (hb hby d7_23) rfl rfl kk_)) ?_
    show own_Goes _ _ _ _ _ _ _ T4 (mkF m 24 #[rv a, rv o, rv o] [(.ref a)])
    obtain ⟨T5, X5, e5, st5⟩ := getF X4 hx hZ hown (host := "") (Or.inl (own_w hw 40 rfl)) Via.refl e4 p_1 (g := (mkF m 24 #[rv a, rv o, rv o] [(.ref a)])) rfl rfl (hb hby d7_24)
    refine own_st st5 ?_
    show own_Goes _ _ _ _ _ _ _ T5 (mkF m 27 #[rv a, rv o, rv o] [(.int ca)])
    refine own_st (fun _ kk_ => XS.aloadN X5.here hx rfl (hb hby d7_27) rfl rfl kk_) ?_
    show own_Goes _ _ _ _ _ _ _ T5 (mkF m 28 #[rv a, rv o, rv o] [(.ref o), (.int ca)])
    obtain ⟨T6, X6, e6, st6⟩ := getF X5 hx hZ hown (host := "") (Or.inl (own_w hw 40 rfl)) Via.refl e5 p_5 (g := (mkF m 28 #[rv a, rv o, rv o] [(.ref o), (.int ca)])) rfl rfl (hb hby d7_28)
    refine own_st st6 ?_
    show own_Goes _ _ _ _ _ _ _ T6 (mkF m 31 #[rv a, rv o, rv o] [(.int co), (.int ca)])
    rcases Classical.em (ca = co) with qc | qc
    · refine own_st (fun _ kk_ => XS.icmpNo X6.here hx rfl (hb hby d7_31) rfl (XT.ii_ne_f qc) (XS.aloadN X6.here hx rfl (hb hby d7_34) rfl rfl kk_)) ?_
      show own_Goes _ _ _ _ _ _ _ T6 (mkF m 35 #[rv a, rv o, rv o] [(.ref a)])
      obtain ⟨T7, X7, e7, st7⟩ := getF X6 hx hZ hown (host := "") (Or.inl (own_w hw 42 rfl)) Via.refl e6 p_2 (g := (mkF m 35 #[rv a, rv o, rv o] [(.ref a)])) rfl rfl (hb hby d7_35)
      refine own_st st7 ?_
      show own_Goes _ _ _ _ _ _ _ T7 (mkF m 38 #[rv a, rv o, rv o] [(.ref ma)])
      refine own_st (fun _ kk_ => XS.aloadN X7.here hx rfl (hb hby d7_38) rfl rfl kk_) ?_
      show own_Goes _ _ _ _ _ _ _ T7 (mkF m 39 #[rv a, rv o, rv o] [(.ref o), (.ref ma)])
      obtain ⟨T8, X8, e8, st8⟩ := getF X7 hx hZ hown (host := "") (Or.inl (own_w hw 42 rfl)) Via.refl e7 p_6 (g := (mkF m 39 #[rv a, rv o, rv o] [(.ref o), (.ref ma)])) rfl rfl (hb hby d7_39)
      refine own_st st8 ?_
      show own_Goes _ _ _ _ _ _ _ T8 (mkF m 42 #[rv a, rv o, rv o] [(.ref mo), (.ref ma)])
      obtain ⟨cq9, kq9, q9a, q9b, q9c⟩ := isOf hZ e8 p_7
      obtain ⟨_, _, ⟨T9, L9, k9, n9⟩, -, X9, ⟨Lc9, hQ9, l9, y9, z9⟩, st9⟩ := X8.virtualBack hx (y := yy13) (z := yy13) hown (mvT hZ (own_w hw 51 rfl)) (mvT hZ (own_w hw 52 rfl)) (notFace_of_selects (args := #[]) (mvT hZ (own_w hw 54 rfl))) (mvT hZ (own_w hw 54 rfl)) (mvT hZ (own_w hw 53 rfl)) (by decide) (backOf (W := 0) (rmSe0_0 l Z a0 hw [] (ma) (mo) (d) (d2) (kd) (kd2) (cs) h0 n0 Z0 p_7 p_8 p_9 p_10 p_11 p_12 p_13 p_14 p_15 (by assumption) p_17) hZ (own_w hw 55 rfl) (own_w hw 11 rfl) (by decide) (by decide)) q9a q9c (g := (mkF m 42 #[rv a, rv o, rv o] [(.ref mo), (.ref ma)])) rfl (by rw [hml]; rfl) (Steps.refl _) (argsL := [(.ref mo)]) (rest := []) (lenOf pd_10 rfl) rfl (by show 2 * 0 + _ ≤ _; exact Nat.le_of_eq rfl) (hb hby d7_42) (fun _ _ => ⟨rfl, e8, (by decide : 0 + 0 ≤ _), (by decide : 0 + 0 ≤ _)⟩)
      dsimp only [Pt.U, Pt.locs, Pt.cells, Pt.slots] at X9 l9 y9 z9 st9 hQ9
      subst l9 y9 z9
      obtain ⟨rfl, Nq9, eq9⟩ := hQ9
      have N9 := Fr.app N0 Nq9
      refine own_st (fun _ kk_ => st9.trans kk_) ?_
      show own_Goes _ _ _ _ _ _ _ T9 (mkF m 45 #[rv a, rv o, rv o] [(.int (own_b (True)))])
      rcases Classical.em (True) with hM | hM
      · refine own_st (fun _ kk_ => XS.ifNo X9.here hx rfl (hb hby d7_45) rfl (XT.i0_eq_f (by rw [own_b1 hM]; decide)) (XS.iconst X9.here hx rfl (hb hby d7_48) (XS.goto X9.here hx rfl (pc0 := 49) (pc' := 53) rfl (hb hby d7_49) (by decide) (by decide) kk_))) ?_
        show own_Goes _ _ _ _ _ _ _ T9 (mkF m 53 #[rv a, rv o, rv o] [(.int (1 : Int32))])
        refine own_retN X9 hx hlk (t := .boolean) Bd.returns (by simp) (hb hby d7_53) (by decide) (by decide) ?_
        show Q7_0_0 Z a o la ca lo co ma mo d d2 kd kd2 cs h0 n0 (some (.int (nar .boolean (1 : Int32)))) T9.heap _
        rw [eq9]
        exact ⟨by exact own_bt ⟨ql, qc, hM⟩, N9, rfl⟩
      · refine own_st (fun _ kk_ => XS.ifYes X9.here hx rfl (pc0 := 45) (pc' := 52) rfl (hb hby d7_45) rfl (XT.i0_eq_t (own_b0 hM)) (by decide) (by decide) (XS.iconst X9.here hx rfl (hb hby d7_52) kk_)) ?_
        show own_Goes _ _ _ _ _ _ _ T9 (mkF m 53 #[rv a, rv o, rv o] [(.int (0 : Int32))])
        refine own_retN X9 hx hlk (t := .boolean) Bd.returns (by simp) (hb hby d7_53) (by decide) (by decide) ?_
        show Q7_0_0 Z a o la ca lo co ma mo d d2 kd kd2 cs h0 n0 (some (.int (nar .boolean (0 : Int32)))) T9.heap _
        rw [eq9]
        exact ⟨by exact own_bf (fun k => hM k.2.2), N9, rfl⟩
    · refine own_st (fun _ kk_ => XS.icmpYes X6.here hx rfl (pc0 := 31) (pc' := 52) rfl (hb hby d7_31) rfl (XT.ii_ne_t qc) (by decide) (by decide) (XS.iconst X6.here hx rfl (hb hby d7_52) kk_)) ?_
      show own_Goes _ _ _ _ _ _ _ T6 (mkF m 53 #[rv a, rv o, rv o] [(.int (0 : Int32))])
      refine own_retN X6 hx hlk (t := .boolean) Bd.returns (by simp) (hb hby d7_53) (by decide) (by decide) ?_
      show Q7_0_0 Z a o la ca lo co ma mo d d2 kd kd2 cs h0 n0 (some (.int (nar .boolean (0 : Int32)))) T6.heap _
      rw [e6]
      exact ⟨by exact own_bf (fun k => qc k.2.1), N0, rfl⟩
  · refine own_st (fun _ kk_ => XS.icmpYes X4.here hx rfl (pc0 := 20) (pc' := 52) rfl (hb hby d7_20) rfl (XT.ii_ne_t ql) (by decide) (by decide) (XS.iconst X4.here hx rfl (hb hby d7_52) kk_)) ?_
    show own_Goes _ _ _ _ _ _ _ T4 (mkF m 53 #[rv a, rv o, rv o] [(.int (0 : Int32))])
    refine own_retN X4 hx hlk (t := .boolean) Bd.returns (by simp) (hb hby d7_53) (by decide) (by decide) ?_
    show Q7_0_0 Z a o la ca lo co ma mo d d2 kd kd2 cs h0 n0 (some (.int (nar .boolean (0 : Int32)))) T4.heap _
    rw [e4]
    exact ⟨by exact own_bf (fun k => ql k.1), N0, rfl⟩
abbrev rRrm7_0_1 : Room := { frames := 2, cells := 0, slots := 0, locals := 28 }
theorem pn_rm7_0_1 : plainFor yy14 = true := by first | exact plainFor_of_name (by first | (simp [plainName, overriddenIn]; done) | decide +kernel) | decide +kernel
theorem ef_rm7_0_1 (m : MethodId) (a : Addr) (o : Addr) : entryFrame m #[(.ref a), (.ref o)] 3 = (mkF m 0 #[rv a, rv o, .unset] []) := by first | (simp [entryFrame, mkF, argsToLocals, Value.category]; done) | rfl
def Q7_0_1 (Z : State) (a : Addr) (o : Addr) (la : Int32) (ca : Int32) (lo : Int32) (co : Int32) (ma : Addr) (mo : Addr) (y0 : Int32) (d : Addr) (d2 : Addr) (kd : ClassId) (kd2 : ClassId) (cs : Int32) (h0 : Heap) (n0 : Nat) (v_ : Option Value) (h_ : Heap) (L_ : List Loc) : Prop := (v_ = some (.int (own_b (la = lo ∧ ca = co ∧ (False))))) ∧ (Fr n0 L_) ∧ (h_ = h0)
set_option maxRecDepth 65536 in
set_option maxHeartbeats 40000000 in
theorem rm7_0_1 (l : Launch) (Z : State) (a0 : Array Value) (hw : ∀ d ∈ tables_1, d.before a0 Z = true) (ws : List Jvm.Cond) (a : Addr) (o : Addr) (la : Int32) (ca : Int32) (lo : Int32) (co : Int32) (ma : Addr) (mo : Addr) (y0 : Int32) (d : Addr) (d2 : Addr) (kd : ClassId) (kd2 : ClassId) (cs : Int32) (h0 : Heap) (n0 : Nat) (Z0 : n0 ≤ h0.size) (p_0 : Fld Z h0 a "com/example/majra/majra/lang/Command$Refusal" "line" "I" (.int la)) (p_1 : Fld Z h0 a "com/example/majra/majra/lang/Command$Refusal" "column" "I" (.int ca)) (p_2 : Fld Z h0 a "com/example/majra/majra/lang/Command$Refusal" "message" "Ljava/lang/String;" (.ref ma)) (p_3 : Exa Z h0 o "com/example/majra/majra/lang/Command$Refusal") (p_4 : Fld Z h0 o "com/example/majra/majra/lang/Command$Refusal" "line" "I" (.int lo)) (p_5 : Fld Z h0 o "com/example/majra/majra/lang/Command$Refusal" "column" "I" (.int co)) (p_6 : Fld Z h0 o "com/example/majra/majra/lang/Command$Refusal" "message" "Ljava/lang/String;" (.ref mo)) (p_7 : Exa Z h0 ma "java/lang/String") (p_8 : Fld Z h0 ma "java/lang/String" "coder" "B" (.int (0 : Int32))) (p_9 : Fld Z h0 ma "java/lang/String" "value" "[B" (.ref d)) (p_10 : Exa Z h0 mo "java/lang/String") (p_11 : Fld Z h0 mo "java/lang/String" "coder" "B" (.int (0 : Int32))) (p_12 : Fld Z h0 mo "java/lang/String" "value" "[B" (.ref d2)) (p_13 : Arv Z h0 d kd .byte (0 : Int32) [] (.int (0 : Int32))) (p_14 : Arv Z h0 d2 kd2 .byte (1 : Int32) [(.int y0)] (.int (0 : Int32))) (p_15 : Sta Z h0 "java/lang/String" "COMPACT_STRINGS" "Z" (.int cs)) (hcs : ¬ cs = (0 : Int32)) (p_17 : ma ≠ mo) :
    MetFree l yy14 (head1 (Jvm.Cond.code yy14 prog_31_method_5_code 3 (some .boolean) :: ws) rRrm7_0_1) (fun a_ U_ => a_ = #[(.ref a), (.ref o)] ∧ Z.Warmed39 U_.vm ∧ U_.heap = h0) (fun _ _ _ _ _ => True) (fun _ U_ o_ U1_ => ∃ v_ L_, o_ = .returned v_ ∧ Q7_0_1 Z a o la ca lo co ma mo y0 d d2 kd kd2 cs h0 n0 v_ U1_.heap L_ ∧ FrameEnd U_ o_ U1_ L_ rRrm7_0_1.cells rRrm7_0_1.slots) := by
  refine MetFree.of_bodySF pn_rm7_0_1 hisR ?_
  intro p e s m args below meth c s₁ Bd hml0 hP hK
  obtain ⟨rfl, hZ, hh⟩ := hP
  have hx := Bd.exec
  have hby := Bd.bytes
  have hlk : meth.locks = false := Bd.notSynchronized
  have hml : c.maxLocals = 3 := hml0
  have hown : s.vm.findClass "com/example/majra/majra/lang/Command$Refusal" = some m.cls := findClass_of_methodNamed Bd.named
  have hnm := (name_of_methodNamed Bd.named Bd.method).1
  have X0 : Stand p l e rRrm7_0_1 s m #[(.ref a), (.ref o)] below meth c s₁ [] 0 0 := Stand.of_body Bd
  have e0 : s₁.heap = h0 := by rw [← hh, Bd.state]; rfl
  have N0 := Fr.nil n0
  show own_Goes p e below s (Q7_0_1 Z a o la ca lo co ma mo y0 d d2 kd kd2 cs h0 n0) rRrm7_0_1.cells rRrm7_0_1.slots s₁ (entryFrame m #[(.ref a), (.ref o)] 3)
  rw [ef_rm7_0_1 m a o]
  show own_Goes p e below s (Q7_0_1 Z a o la ca lo co ma mo y0 d d2 kd kd2 cs h0 n0) rRrm7_0_1.cells rRrm7_0_1.slots s₁ (mkF m 0 #[rv a, rv o, .unset] [])
  refine own_st (fun _ kk_ => XS.aloadN X0.here hx rfl (hb hby d7_0) rfl rfl kk_) ?_
  show own_Goes _ _ _ _ _ _ _ s₁ (mkF m 1 #[rv a, rv o, .unset] [(.ref o)])
  obtain ⟨T1, X1, e1, st1⟩ := instY X0 hx hZ hown (own_w hw 49 rfl) e0 (Ins.self p_3) (g := (mkF m 1 #[rv a, rv o, .unset] [(.ref o)])) rfl rfl (hb hby d7_1)
  refine own_st st1 ?_
  show own_Goes _ _ _ _ _ _ _ T1 (mkF m 4 #[rv a, rv o, .unset] [(.int (1 : Int32))])
  refine own_st (fun _ kk_ => XS.ifNo X1.here hx rfl (hb hby d7_4) rfl (XT.i0_eq_f (by decide)) (XS.aloadN X1.here hx rfl (hb hby d7_7) rfl rfl kk_)) ?_
  show own_Goes _ _ _ _ _ _ _ T1 (mkF m 8 #[rv a, rv o, .unset] [(.ref o)])
  obtain ⟨T2, X2, e2, st2⟩ := castY X1 hx hZ hown (own_w hw 49 rfl) e1 (Ins.self p_3) (g := (mkF m 8 #[rv a, rv o, .unset] [(.ref o)])) rfl rfl (hb hby d7_8)
  refine own_st st2 ?_
  show own_Goes _ _ _ _ _ _ _ T2 (mkF m 11 #[rv a, rv o, .unset] [(.ref o)])
  refine own_st (fun _ kk_ => XS.astoreN X2.here hx rfl (hb hby d7_11) rfl rfl (l' := #[rv a, rv o, rv o]) rfl (XS.aloadN X2.here hx rfl (hb hby d7_12) rfl rfl kk_)) ?_
  show own_Goes _ _ _ _ _ _ _ T2 (mkF m 13 #[rv a, rv o, rv o] [(.ref a)])
  obtain ⟨T3, X3, e3, st3⟩ := getF X2 hx hZ hown (host := "") (Or.inl (own_w hw 38 rfl)) Via.refl e2 p_0 (g := (mkF m 13 #[rv a, rv o, rv o] [(.ref a)])) rfl rfl (hb hby d7_13)
  refine own_st st3 ?_
  show own_Goes _ _ _ _ _ _ _ T3 (mkF m 16 #[rv a, rv o, rv o] [(.int la)])
  refine own_st (fun _ kk_ => XS.aloadN X3.here hx rfl (hb hby d7_16) rfl rfl kk_) ?_
  show own_Goes _ _ _ _ _ _ _ T3 (mkF m 17 #[rv a, rv o, rv o] [(.ref o), (.int la)])
  obtain ⟨T4, X4, e4, st4⟩ := getF X3 hx hZ hown (host := "") (Or.inl (own_w hw 38 rfl)) Via.refl e3 p_4 (g := (mkF m 17 #[rv a, rv o, rv o] [(.ref o), (.int la)])) rfl rfl (hb hby d7_17)
  refine own_st st4 ?_
  show own_Goes _ _ _ _ _ _ _ T4 (mkF m 20 #[rv a, rv o, rv o] [(.int lo), (.int la)])
  rcases Classical.em (la = lo) with ql | ql
  · refine own_st (fun _ kk_ => XS.icmpNo X4.here hx rfl (hb hby d7_20) rfl (XT.ii_ne_f ql) (XS.aloadN X4.here hx rfl (hb hby d7_23) rfl rfl kk_)) ?_
    show own_Goes _ _ _ _ _ _ _ T4 (mkF m 24 #[rv a, rv o, rv o] [(.ref a)])
    obtain ⟨T5, X5, e5, st5⟩ := getF X4 hx hZ hown (host := "") (Or.inl (own_w hw 40 rfl)) Via.refl e4 p_1 (g := (mkF m 24 #[rv a, rv o, rv o] [(.ref a)])) rfl rfl (hb hby d7_24)
    refine own_st st5 ?_
    show own_Goes _ _ _ _ _ _ _ T5 (mkF m 27 #[rv a, rv o, rv o] [(.int ca)])
    refine own_st (fun _ kk_ => XS.aloadN X5.here hx rfl (hb hby d7_27) rfl rfl kk_) ?_
    show own_Goes _ _ _ _ _ _ _ T5 (mkF m 28 #[rv a, rv o, rv o] [(.ref o), (.int ca)])
    obtain ⟨T6, X6, e6, st6⟩ := getF X5 hx hZ hown (host := "") (Or.inl (own_w hw 40 rfl)) Via.refl e5 p_5 (g := (mkF m 28 #[rv a, rv o, rv o] [(.ref o), (.int ca)])) rfl rfl (hb hby d7_28)
    refine own_st st6 ?_
    show own_Goes _ _ _ _ _ _ _ T6 (mkF m 31 #[rv a, rv o, rv o] [(.int co), (.int ca)])
    rcases Classical.em (ca = co) with qc | qc
    · refine own_st (fun _ kk_ => XS.icmpNo X6.here hx rfl (hb hby d7_31) rfl (XT.ii_ne_f qc) (XS.aloadN X6.here hx rfl (hb hby d7_34) rfl rfl kk_)) ?_
      show own_Goes _ _ _ _ _ _ _ T6 (mkF m 35 #[rv a, rv o, rv o] [(.ref a)])
      obtain ⟨T7, X7, e7, st7⟩ := getF X6 hx hZ hown (host := "") (Or.inl (own_w hw 42 rfl)) Via.refl e6 p_2 (g := (mkF m 35 #[rv a, rv o, rv o] [(.ref a)])) rfl rfl (hb hby d7_35)
      refine own_st st7 ?_
      show own_Goes _ _ _ _ _ _ _ T7 (mkF m 38 #[rv a, rv o, rv o] [(.ref ma)])
      refine own_st (fun _ kk_ => XS.aloadN X7.here hx rfl (hb hby d7_38) rfl rfl kk_) ?_
      show own_Goes _ _ _ _ _ _ _ T7 (mkF m 39 #[rv a, rv o, rv o] [(.ref o), (.ref ma)])
      obtain ⟨T8, X8, e8, st8⟩ := getF X7 hx hZ hown (host := "") (Or.inl (own_w hw 42 rfl)) Via.refl e7 p_6 (g := (mkF m 39 #[rv a, rv o, rv o] [(.ref o), (.ref ma)])) rfl rfl (hb hby d7_39)
      refine own_st st8 ?_
      show own_Goes _ _ _ _ _ _ _ T8 (mkF m 42 #[rv a, rv o, rv o] [(.ref mo), (.ref ma)])
      obtain ⟨cq9, kq9, q9a, q9b, q9c⟩ := isOf hZ e8 p_7
      obtain ⟨_, _, ⟨T9, L9, k9, n9⟩, -, X9, ⟨Lc9, hQ9, l9, y9, z9⟩, st9⟩ := X8.virtualBack hx (y := yy13) (z := yy13) hown (mvT hZ (own_w hw 51 rfl)) (mvT hZ (own_w hw 52 rfl)) (notFace_of_selects (args := #[]) (mvT hZ (own_w hw 54 rfl))) (mvT hZ (own_w hw 54 rfl)) (mvT hZ (own_w hw 53 rfl)) (by decide) (backOf (W := 0) (rmSe0_1 l Z a0 hw [] (ma) (mo) (y0) (d) (d2) (kd) (kd2) (cs) h0 n0 Z0 p_7 p_8 p_9 p_10 p_11 p_12 p_13 p_14 p_15 (by assumption) p_17) hZ (own_w hw 55 rfl) (own_w hw 11 rfl) (by decide) (by decide)) q9a q9c (g := (mkF m 42 #[rv a, rv o, rv o] [(.ref mo), (.ref ma)])) rfl (by rw [hml]; rfl) (Steps.refl _) (argsL := [(.ref mo)]) (rest := []) (lenOf pd_10 rfl) rfl (by show 2 * 0 + _ ≤ _; exact Nat.le_of_eq rfl) (hb hby d7_42) (fun _ _ => ⟨rfl, e8, (by decide : 0 + 0 ≤ _), (by decide : 0 + 0 ≤ _)⟩)
      dsimp only [Pt.U, Pt.locs, Pt.cells, Pt.slots] at X9 l9 y9 z9 st9 hQ9
      subst l9 y9 z9
      obtain ⟨rfl, Nq9, eq9⟩ := hQ9
      have N9 := Fr.app N0 Nq9
      refine own_st (fun _ kk_ => st9.trans kk_) ?_
      show own_Goes _ _ _ _ _ _ _ T9 (mkF m 45 #[rv a, rv o, rv o] [(.int (own_b (False)))])
      rcases Classical.em (False) with hM | hM
      · refine own_st (fun _ kk_ => XS.ifNo X9.here hx rfl (hb hby d7_45) rfl (XT.i0_eq_f (by rw [own_b1 hM]; decide)) (XS.iconst X9.here hx rfl (hb hby d7_48) (XS.goto X9.here hx rfl (pc0 := 49) (pc' := 53) rfl (hb hby d7_49) (by decide) (by decide) kk_))) ?_
        show own_Goes _ _ _ _ _ _ _ T9 (mkF m 53 #[rv a, rv o, rv o] [(.int (1 : Int32))])
        refine own_retN X9 hx hlk (t := .boolean) Bd.returns (by simp) (hb hby d7_53) (by decide) (by decide) ?_
        show Q7_0_1 Z a o la ca lo co ma mo y0 d d2 kd kd2 cs h0 n0 (some (.int (nar .boolean (1 : Int32)))) T9.heap _
        rw [eq9]
        exact ⟨by exact own_bt ⟨ql, qc, hM⟩, N9, rfl⟩
      · refine own_st (fun _ kk_ => XS.ifYes X9.here hx rfl (pc0 := 45) (pc' := 52) rfl (hb hby d7_45) rfl (XT.i0_eq_t (own_b0 hM)) (by decide) (by decide) (XS.iconst X9.here hx rfl (hb hby d7_52) kk_)) ?_
        show own_Goes _ _ _ _ _ _ _ T9 (mkF m 53 #[rv a, rv o, rv o] [(.int (0 : Int32))])
        refine own_retN X9 hx hlk (t := .boolean) Bd.returns (by simp) (hb hby d7_53) (by decide) (by decide) ?_
        show Q7_0_1 Z a o la ca lo co ma mo y0 d d2 kd kd2 cs h0 n0 (some (.int (nar .boolean (0 : Int32)))) T9.heap _
        rw [eq9]
        exact ⟨by exact own_bf (fun k => hM k.2.2), N9, rfl⟩
    · refine own_st (fun _ kk_ => XS.icmpYes X6.here hx rfl (pc0 := 31) (pc' := 52) rfl (hb hby d7_31) rfl (XT.ii_ne_t qc) (by decide) (by decide) (XS.iconst X6.here hx rfl (hb hby d7_52) kk_)) ?_
      show own_Goes _ _ _ _ _ _ _ T6 (mkF m 53 #[rv a, rv o, rv o] [(.int (0 : Int32))])
      refine own_retN X6 hx hlk (t := .boolean) Bd.returns (by simp) (hb hby d7_53) (by decide) (by decide) ?_
      show Q7_0_1 Z a o la ca lo co ma mo y0 d d2 kd kd2 cs h0 n0 (some (.int (nar .boolean (0 : Int32)))) T6.heap _
      rw [e6]
      exact ⟨by exact own_bf (fun k => qc k.2.1), N0, rfl⟩
  · refine own_st (fun _ kk_ => XS.icmpYes X4.here hx rfl (pc0 := 20) (pc' := 52) rfl (hb hby d7_20) rfl (XT.ii_ne_t ql) (by decide) (by decide) (XS.iconst X4.here hx rfl (hb hby d7_52) kk_)) ?_
    show own_Goes _ _ _ _ _ _ _ T4 (mkF m 53 #[rv a, rv o, rv o] [(.int (0 : Int32))])
    refine own_retN X4 hx hlk (t := .boolean) Bd.returns (by simp) (hb hby d7_53) (by decide) (by decide) ?_
    show Q7_0_1 Z a o la ca lo co ma mo y0 d d2 kd kd2 cs h0 n0 (some (.int (nar .boolean (0 : Int32)))) T4.heap _
    rw [e4]
    exact ⟨by exact own_bf (fun k => ql k.1), N0, rfl⟩
abbrev rRrm7_0_2 : Room := { frames := 2, cells := 0, slots := 0, locals := 28 }
theorem pn_rm7_0_2 : plainFor yy14 = true := by first | exact plainFor_of_name (by first | (simp [plainName, overriddenIn]; done) | decide +kernel) | decide +kernel
theorem ef_rm7_0_2 (m : MethodId) (a : Addr) (o : Addr) : entryFrame m #[(.ref a), (.ref o)] 3 = (mkF m 0 #[rv a, rv o, .unset] []) := by first | (simp [entryFrame, mkF, argsToLocals, Value.category]; done) | rfl
def Q7_0_2 (Z : State) (a : Addr) (o : Addr) (la : Int32) (ca : Int32) (lo : Int32) (co : Int32) (ma : Addr) (mo : Addr) (y0 : Int32) (y1 : Int32) (d : Addr) (d2 : Addr) (kd : ClassId) (kd2 : ClassId) (cs : Int32) (h0 : Heap) (n0 : Nat) (v_ : Option Value) (h_ : Heap) (L_ : List Loc) : Prop := (v_ = some (.int (own_b (la = lo ∧ ca = co ∧ (False))))) ∧ (Fr n0 L_) ∧ (h_ = h0)
set_option maxRecDepth 65536 in
set_option maxHeartbeats 40000000 in
theorem rm7_0_2 (l : Launch) (Z : State) (a0 : Array Value) (hw : ∀ d ∈ tables_1, d.before a0 Z = true) (ws : List Jvm.Cond) (a : Addr) (o : Addr) (la : Int32) (ca : Int32) (lo : Int32) (co : Int32) (ma : Addr) (mo : Addr) (y0 : Int32) (y1 : Int32) (d : Addr) (d2 : Addr) (kd : ClassId) (kd2 : ClassId) (cs : Int32) (h0 : Heap) (n0 : Nat) (Z0 : n0 ≤ h0.size) (p_0 : Fld Z h0 a "com/example/majra/majra/lang/Command$Refusal" "line" "I" (.int la)) (p_1 : Fld Z h0 a "com/example/majra/majra/lang/Command$Refusal" "column" "I" (.int ca)) (p_2 : Fld Z h0 a "com/example/majra/majra/lang/Command$Refusal" "message" "Ljava/lang/String;" (.ref ma)) (p_3 : Exa Z h0 o "com/example/majra/majra/lang/Command$Refusal") (p_4 : Fld Z h0 o "com/example/majra/majra/lang/Command$Refusal" "line" "I" (.int lo)) (p_5 : Fld Z h0 o "com/example/majra/majra/lang/Command$Refusal" "column" "I" (.int co)) (p_6 : Fld Z h0 o "com/example/majra/majra/lang/Command$Refusal" "message" "Ljava/lang/String;" (.ref mo)) (p_7 : Exa Z h0 ma "java/lang/String") (p_8 : Fld Z h0 ma "java/lang/String" "coder" "B" (.int (0 : Int32))) (p_9 : Fld Z h0 ma "java/lang/String" "value" "[B" (.ref d)) (p_10 : Exa Z h0 mo "java/lang/String") (p_11 : Fld Z h0 mo "java/lang/String" "coder" "B" (.int (0 : Int32))) (p_12 : Fld Z h0 mo "java/lang/String" "value" "[B" (.ref d2)) (p_13 : Arv Z h0 d kd .byte (0 : Int32) [] (.int (0 : Int32))) (p_14 : Arv Z h0 d2 kd2 .byte (2 : Int32) [(.int y0), (.int y1)] (.int (0 : Int32))) (p_15 : Sta Z h0 "java/lang/String" "COMPACT_STRINGS" "Z" (.int cs)) (hcs : ¬ cs = (0 : Int32)) (p_17 : ma ≠ mo) :
    MetFree l yy14 (head1 (Jvm.Cond.code yy14 prog_31_method_5_code 3 (some .boolean) :: ws) rRrm7_0_2) (fun a_ U_ => a_ = #[(.ref a), (.ref o)] ∧ Z.Warmed39 U_.vm ∧ U_.heap = h0) (fun _ _ _ _ _ => True) (fun _ U_ o_ U1_ => ∃ v_ L_, o_ = .returned v_ ∧ Q7_0_2 Z a o la ca lo co ma mo y0 y1 d d2 kd kd2 cs h0 n0 v_ U1_.heap L_ ∧ FrameEnd U_ o_ U1_ L_ rRrm7_0_2.cells rRrm7_0_2.slots) := by
  refine MetFree.of_bodySF pn_rm7_0_2 hisR ?_
  intro p e s m args below meth c s₁ Bd hml0 hP hK
  obtain ⟨rfl, hZ, hh⟩ := hP
  have hx := Bd.exec
  have hby := Bd.bytes
  have hlk : meth.locks = false := Bd.notSynchronized
  have hml : c.maxLocals = 3 := hml0
  have hown : s.vm.findClass "com/example/majra/majra/lang/Command$Refusal" = some m.cls := findClass_of_methodNamed Bd.named
  have hnm := (name_of_methodNamed Bd.named Bd.method).1
  have X0 : Stand p l e rRrm7_0_2 s m #[(.ref a), (.ref o)] below meth c s₁ [] 0 0 := Stand.of_body Bd
  have e0 : s₁.heap = h0 := by rw [← hh, Bd.state]; rfl
  have N0 := Fr.nil n0
  show own_Goes p e below s (Q7_0_2 Z a o la ca lo co ma mo y0 y1 d d2 kd kd2 cs h0 n0) rRrm7_0_2.cells rRrm7_0_2.slots s₁ (entryFrame m #[(.ref a), (.ref o)] 3)
  rw [ef_rm7_0_2 m a o]
  show own_Goes p e below s (Q7_0_2 Z a o la ca lo co ma mo y0 y1 d d2 kd kd2 cs h0 n0) rRrm7_0_2.cells rRrm7_0_2.slots s₁ (mkF m 0 #[rv a, rv o, .unset] [])
  refine own_st (fun _ kk_ => XS.aloadN X0.here hx rfl (hb hby d7_0) rfl rfl kk_) ?_
  show own_Goes _ _ _ _ _ _ _ s₁ (mkF m 1 #[rv a, rv o, .unset] [(.ref o)])
  obtain ⟨T1, X1, e1, st1⟩ := instY X0 hx hZ hown (own_w hw 49 rfl) e0 (Ins.self p_3) (g := (mkF m 1 #[rv a, rv o, .unset] [(.ref o)])) rfl rfl (hb hby d7_1)
  refine own_st st1 ?_
  show own_Goes _ _ _ _ _ _ _ T1 (mkF m 4 #[rv a, rv o, .unset] [(.int (1 : Int32))])
  refine own_st (fun _ kk_ => XS.ifNo X1.here hx rfl (hb hby d7_4) rfl (XT.i0_eq_f (by decide)) (XS.aloadN X1.here hx rfl (hb hby d7_7) rfl rfl kk_)) ?_
  show own_Goes _ _ _ _ _ _ _ T1 (mkF m 8 #[rv a, rv o, .unset] [(.ref o)])
  obtain ⟨T2, X2, e2, st2⟩ := castY X1 hx hZ hown (own_w hw 49 rfl) e1 (Ins.self p_3) (g := (mkF m 8 #[rv a, rv o, .unset] [(.ref o)])) rfl rfl (hb hby d7_8)
  refine own_st st2 ?_
  show own_Goes _ _ _ _ _ _ _ T2 (mkF m 11 #[rv a, rv o, .unset] [(.ref o)])
  refine own_st (fun _ kk_ => XS.astoreN X2.here hx rfl (hb hby d7_11) rfl rfl (l' := #[rv a, rv o, rv o]) rfl (XS.aloadN X2.here hx rfl (hb hby d7_12) rfl rfl kk_)) ?_
  show own_Goes _ _ _ _ _ _ _ T2 (mkF m 13 #[rv a, rv o, rv o] [(.ref a)])
  obtain ⟨T3, X3, e3, st3⟩ := getF X2 hx hZ hown (host := "") (Or.inl (own_w hw 38 rfl)) Via.refl e2 p_0 (g := (mkF m 13 #[rv a, rv o, rv o] [(.ref a)])) rfl rfl (hb hby d7_13)
  refine own_st st3 ?_
  show own_Goes _ _ _ _ _ _ _ T3 (mkF m 16 #[rv a, rv o, rv o] [(.int la)])
  refine own_st (fun _ kk_ => XS.aloadN X3.here hx rfl (hb hby d7_16) rfl rfl kk_) ?_
  show own_Goes _ _ _ _ _ _ _ T3 (mkF m 17 #[rv a, rv o, rv o] [(.ref o), (.int la)])
  obtain ⟨T4, X4, e4, st4⟩ := getF X3 hx hZ hown (host := "") (Or.inl (own_w hw 38 rfl)) Via.refl e3 p_4 (g := (mkF m 17 #[rv a, rv o, rv o] [(.ref o), (.int la)])) rfl rfl (hb hby d7_17)
  refine own_st st4 ?_
  show own_Goes _ _ _ _ _ _ _ T4 (mkF m 20 #[rv a, rv o, rv o] [(.int lo), (.int la)])
  rcases Classical.em (la = lo) with ql | ql
  · refine own_st (fun _ kk_ => XS.icmpNo X4.here hx rfl (hb hby d7_20) rfl (XT.ii_ne_f ql) (XS.aloadN X4.here hx rfl (hb hby d7_23) rfl rfl kk_)) ?_
    show own_Goes _ _ _ _ _ _ _ T4 (mkF m 24 #[rv a, rv o, rv o] [(.ref a)])
    obtain ⟨T5, X5, e5, st5⟩ := getF X4 hx hZ hown (host := "") (Or.inl (own_w hw 40 rfl)) Via.refl e4 p_1 (g := (mkF m 24 #[rv a, rv o, rv o] [(.ref a)])) rfl rfl (hb hby d7_24)
    refine own_st st5 ?_
    show own_Goes _ _ _ _ _ _ _ T5 (mkF m 27 #[rv a, rv o, rv o] [(.int ca)])
    refine own_st (fun _ kk_ => XS.aloadN X5.here hx rfl (hb hby d7_27) rfl rfl kk_) ?_
    show own_Goes _ _ _ _ _ _ _ T5 (mkF m 28 #[rv a, rv o, rv o] [(.ref o), (.int ca)])
    obtain ⟨T6, X6, e6, st6⟩ := getF X5 hx hZ hown (host := "") (Or.inl (own_w hw 40 rfl)) Via.refl e5 p_5 (g := (mkF m 28 #[rv a, rv o, rv o] [(.ref o), (.int ca)])) rfl rfl (hb hby d7_28)
    refine own_st st6 ?_
    show own_Goes _ _ _ _ _ _ _ T6 (mkF m 31 #[rv a, rv o, rv o] [(.int co), (.int ca)])
    rcases Classical.em (ca = co) with qc | qc
    · refine own_st (fun _ kk_ => XS.icmpNo X6.here hx rfl (hb hby d7_31) rfl (XT.ii_ne_f qc) (XS.aloadN X6.here hx rfl (hb hby d7_34) rfl rfl kk_)) ?_
      show own_Goes _ _ _ _ _ _ _ T6 (mkF m 35 #[rv a, rv o, rv o] [(.ref a)])
      obtain ⟨T7, X7, e7, st7⟩ := getF X6 hx hZ hown (host := "") (Or.inl (own_w hw 42 rfl)) Via.refl e6 p_2 (g := (mkF m 35 #[rv a, rv o, rv o] [(.ref a)])) rfl rfl (hb hby d7_35)
      refine own_st st7 ?_
      show own_Goes _ _ _ _ _ _ _ T7 (mkF m 38 #[rv a, rv o, rv o] [(.ref ma)])
      refine own_st (fun _ kk_ => XS.aloadN X7.here hx rfl (hb hby d7_38) rfl rfl kk_) ?_
      show own_Goes _ _ _ _ _ _ _ T7 (mkF m 39 #[rv a, rv o, rv o] [(.ref o), (.ref ma)])
      obtain ⟨T8, X8, e8, st8⟩ := getF X7 hx hZ hown (host := "") (Or.inl (own_w hw 42 rfl)) Via.refl e7 p_6 (g := (mkF m 39 #[rv a, rv o, rv o] [(.ref o), (.ref ma)])) rfl rfl (hb hby d7_39)
      refine own_st st8 ?_
      show own_Goes _ _ _ _ _ _ _ T8 (mkF m 42 #[rv a, rv o, rv o] [(.ref mo), (.ref ma)])
      obtain ⟨cq9, kq9, q9a, q9b, q9c⟩ := isOf hZ e8 p_7
      obtain ⟨_, _, ⟨T9, L9, k9, n9⟩, -, X9, ⟨Lc9, hQ9, l9, y9, z9⟩, st9⟩ := X8.virtualBack hx (y := yy13) (z := yy13) hown (mvT hZ (own_w hw 51 rfl)) (mvT hZ (own_w hw 52 rfl)) (notFace_of_selects (args := #[]) (mvT hZ (own_w hw 54 rfl))) (mvT hZ (own_w hw 54 rfl)) (mvT hZ (own_w hw 53 rfl)) (by decide) (backOf (W := 0) (rmSe0_2 l Z a0 hw [] (ma) (mo) (y0) (y1) (d) (d2) (kd) (kd2) (cs) h0 n0 Z0 p_7 p_8 p_9 p_10 p_11 p_12 p_13 p_14 p_15 (by assumption) p_17) hZ (own_w hw 55 rfl) (own_w hw 11 rfl) (by decide) (by decide)) q9a q9c (g := (mkF m 42 #[rv a, rv o, rv o] [(.ref mo), (.ref ma)])) rfl (by rw [hml]; rfl) (Steps.refl _) (argsL := [(.ref mo)]) (rest := []) (lenOf pd_10 rfl) rfl (by show 2 * 0 + _ ≤ _; exact Nat.le_of_eq rfl) (hb hby d7_42) (fun _ _ => ⟨rfl, e8, (by decide : 0 + 0 ≤ _), (by decide : 0 + 0 ≤ _)⟩)
      dsimp only [Pt.U, Pt.locs, Pt.cells, Pt.slots] at X9 l9 y9 z9 st9 hQ9
      subst l9 y9 z9
      obtain ⟨rfl, Nq9, eq9⟩ := hQ9
      have N9 := Fr.app N0 Nq9
      refine own_st (fun _ kk_ => st9.trans kk_) ?_
      show own_Goes _ _ _ _ _ _ _ T9 (mkF m 45 #[rv a, rv o, rv o] [(.int (own_b (False)))])
      rcases Classical.em (False) with hM | hM
      · refine own_st (fun _ kk_ => XS.ifNo X9.here hx rfl (hb hby d7_45) rfl (XT.i0_eq_f (by rw [own_b1 hM]; decide)) (XS.iconst X9.here hx rfl (hb hby d7_48) (XS.goto X9.here hx rfl (pc0 := 49) (pc' := 53) rfl (hb hby d7_49) (by decide) (by decide) kk_))) ?_
        show own_Goes _ _ _ _ _ _ _ T9 (mkF m 53 #[rv a, rv o, rv o] [(.int (1 : Int32))])
        refine own_retN X9 hx hlk (t := .boolean) Bd.returns (by simp) (hb hby d7_53) (by decide) (by decide) ?_
        show Q7_0_2 Z a o la ca lo co ma mo y0 y1 d d2 kd kd2 cs h0 n0 (some (.int (nar .boolean (1 : Int32)))) T9.heap _
        rw [eq9]
        exact ⟨by exact own_bt ⟨ql, qc, hM⟩, N9, rfl⟩
      · refine own_st (fun _ kk_ => XS.ifYes X9.here hx rfl (pc0 := 45) (pc' := 52) rfl (hb hby d7_45) rfl (XT.i0_eq_t (own_b0 hM)) (by decide) (by decide) (XS.iconst X9.here hx rfl (hb hby d7_52) kk_)) ?_
        show own_Goes _ _ _ _ _ _ _ T9 (mkF m 53 #[rv a, rv o, rv o] [(.int (0 : Int32))])
        refine own_retN X9 hx hlk (t := .boolean) Bd.returns (by simp) (hb hby d7_53) (by decide) (by decide) ?_
        show Q7_0_2 Z a o la ca lo co ma mo y0 y1 d d2 kd kd2 cs h0 n0 (some (.int (nar .boolean (0 : Int32)))) T9.heap _
        rw [eq9]
        exact ⟨by exact own_bf (fun k => hM k.2.2), N9, rfl⟩
    · refine own_st (fun _ kk_ => XS.icmpYes X6.here hx rfl (pc0 := 31) (pc' := 52) rfl (hb hby d7_31) rfl (XT.ii_ne_t qc) (by decide) (by decide) (XS.iconst X6.here hx rfl (hb hby d7_52) kk_)) ?_
      show own_Goes _ _ _ _ _ _ _ T6 (mkF m 53 #[rv a, rv o, rv o] [(.int (0 : Int32))])
      refine own_retN X6 hx hlk (t := .boolean) Bd.returns (by simp) (hb hby d7_53) (by decide) (by decide) ?_
      show Q7_0_2 Z a o la ca lo co ma mo y0 y1 d d2 kd kd2 cs h0 n0 (some (.int (nar .boolean (0 : Int32)))) T6.heap _
      rw [e6]
      exact ⟨by exact own_bf (fun k => qc k.2.1), N0, rfl⟩
  · refine own_st (fun _ kk_ => XS.icmpYes X4.here hx rfl (pc0 := 20) (pc' := 52) rfl (hb hby d7_20) rfl (XT.ii_ne_t ql) (by decide) (by decide) (XS.iconst X4.here hx rfl (hb hby d7_52) kk_)) ?_
    show own_Goes _ _ _ _ _ _ _ T4 (mkF m 53 #[rv a, rv o, rv o] [(.int (0 : Int32))])
    refine own_retN X4 hx hlk (t := .boolean) Bd.returns (by simp) (hb hby d7_53) (by decide) (by decide) ?_
    show Q7_0_2 Z a o la ca lo co ma mo y0 y1 d d2 kd kd2 cs h0 n0 (some (.int (nar .boolean (0 : Int32)))) T4.heap _
    rw [e4]
    exact ⟨by exact own_bf (fun k => ql k.1), N0, rfl⟩
abbrev rRrm7_1_0 : Room := { frames := 2, cells := 0, slots := 0, locals := 28 }
theorem pn_rm7_1_0 : plainFor yy14 = true := by first | exact plainFor_of_name (by first | (simp [plainName, overriddenIn]; done) | decide +kernel) | decide +kernel
theorem ef_rm7_1_0 (m : MethodId) (a : Addr) (o : Addr) : entryFrame m #[(.ref a), (.ref o)] 3 = (mkF m 0 #[rv a, rv o, .unset] []) := by first | (simp [entryFrame, mkF, argsToLocals, Value.category]; done) | rfl
def Q7_1_0 (Z : State) (a : Addr) (o : Addr) (la : Int32) (ca : Int32) (lo : Int32) (co : Int32) (ma : Addr) (mo : Addr) (x0 : Int32) (d : Addr) (d2 : Addr) (kd : ClassId) (kd2 : ClassId) (cs : Int32) (h0 : Heap) (n0 : Nat) (v_ : Option Value) (h_ : Heap) (L_ : List Loc) : Prop := (v_ = some (.int (own_b (la = lo ∧ ca = co ∧ (False))))) ∧ (Fr n0 L_) ∧ (h_ = h0)
set_option maxRecDepth 65536 in
set_option maxHeartbeats 40000000 in
theorem rm7_1_0 (l : Launch) (Z : State) (a0 : Array Value) (hw : ∀ d ∈ tables_1, d.before a0 Z = true) (ws : List Jvm.Cond) (a : Addr) (o : Addr) (la : Int32) (ca : Int32) (lo : Int32) (co : Int32) (ma : Addr) (mo : Addr) (x0 : Int32) (d : Addr) (d2 : Addr) (kd : ClassId) (kd2 : ClassId) (cs : Int32) (h0 : Heap) (n0 : Nat) (Z0 : n0 ≤ h0.size) (p_0 : Fld Z h0 a "com/example/majra/majra/lang/Command$Refusal" "line" "I" (.int la)) (p_1 : Fld Z h0 a "com/example/majra/majra/lang/Command$Refusal" "column" "I" (.int ca)) (p_2 : Fld Z h0 a "com/example/majra/majra/lang/Command$Refusal" "message" "Ljava/lang/String;" (.ref ma)) (p_3 : Exa Z h0 o "com/example/majra/majra/lang/Command$Refusal") (p_4 : Fld Z h0 o "com/example/majra/majra/lang/Command$Refusal" "line" "I" (.int lo)) (p_5 : Fld Z h0 o "com/example/majra/majra/lang/Command$Refusal" "column" "I" (.int co)) (p_6 : Fld Z h0 o "com/example/majra/majra/lang/Command$Refusal" "message" "Ljava/lang/String;" (.ref mo)) (p_7 : Exa Z h0 ma "java/lang/String") (p_8 : Fld Z h0 ma "java/lang/String" "coder" "B" (.int (0 : Int32))) (p_9 : Fld Z h0 ma "java/lang/String" "value" "[B" (.ref d)) (p_10 : Exa Z h0 mo "java/lang/String") (p_11 : Fld Z h0 mo "java/lang/String" "coder" "B" (.int (0 : Int32))) (p_12 : Fld Z h0 mo "java/lang/String" "value" "[B" (.ref d2)) (p_13 : Arv Z h0 d kd .byte (1 : Int32) [(.int x0)] (.int (0 : Int32))) (p_14 : Arv Z h0 d2 kd2 .byte (0 : Int32) [] (.int (0 : Int32))) (p_15 : Sta Z h0 "java/lang/String" "COMPACT_STRINGS" "Z" (.int cs)) (hcs : ¬ cs = (0 : Int32)) (p_17 : ma ≠ mo) :
    MetFree l yy14 (head1 (Jvm.Cond.code yy14 prog_31_method_5_code 3 (some .boolean) :: ws) rRrm7_1_0) (fun a_ U_ => a_ = #[(.ref a), (.ref o)] ∧ Z.Warmed39 U_.vm ∧ U_.heap = h0) (fun _ _ _ _ _ => True) (fun _ U_ o_ U1_ => ∃ v_ L_, o_ = .returned v_ ∧ Q7_1_0 Z a o la ca lo co ma mo x0 d d2 kd kd2 cs h0 n0 v_ U1_.heap L_ ∧ FrameEnd U_ o_ U1_ L_ rRrm7_1_0.cells rRrm7_1_0.slots) := by
  refine MetFree.of_bodySF pn_rm7_1_0 hisR ?_
  intro p e s m args below meth c s₁ Bd hml0 hP hK
  obtain ⟨rfl, hZ, hh⟩ := hP
  have hx := Bd.exec
  have hby := Bd.bytes
  have hlk : meth.locks = false := Bd.notSynchronized
  have hml : c.maxLocals = 3 := hml0
  have hown : s.vm.findClass "com/example/majra/majra/lang/Command$Refusal" = some m.cls := findClass_of_methodNamed Bd.named
  have hnm := (name_of_methodNamed Bd.named Bd.method).1
  have X0 : Stand p l e rRrm7_1_0 s m #[(.ref a), (.ref o)] below meth c s₁ [] 0 0 := Stand.of_body Bd
  have e0 : s₁.heap = h0 := by rw [← hh, Bd.state]; rfl
  have N0 := Fr.nil n0
  show own_Goes p e below s (Q7_1_0 Z a o la ca lo co ma mo x0 d d2 kd kd2 cs h0 n0) rRrm7_1_0.cells rRrm7_1_0.slots s₁ (entryFrame m #[(.ref a), (.ref o)] 3)
  rw [ef_rm7_1_0 m a o]
  show own_Goes p e below s (Q7_1_0 Z a o la ca lo co ma mo x0 d d2 kd kd2 cs h0 n0) rRrm7_1_0.cells rRrm7_1_0.slots s₁ (mkF m 0 #[rv a, rv o, .unset] [])
  refine own_st (fun _ kk_ => XS.aloadN X0.here hx rfl (hb hby d7_0) rfl rfl kk_) ?_
  show own_Goes _ _ _ _ _ _ _ s₁ (mkF m 1 #[rv a, rv o, .unset] [(.ref o)])
  obtain ⟨T1, X1, e1, st1⟩ := instY X0 hx hZ hown (own_w hw 49 rfl) e0 (Ins.self p_3) (g := (mkF m 1 #[rv a, rv o, .unset] [(.ref o)])) rfl rfl (hb hby d7_1)
  refine own_st st1 ?_
  show own_Goes _ _ _ _ _ _ _ T1 (mkF m 4 #[rv a, rv o, .unset] [(.int (1 : Int32))])
  refine own_st (fun _ kk_ => XS.ifNo X1.here hx rfl (hb hby d7_4) rfl (XT.i0_eq_f (by decide)) (XS.aloadN X1.here hx rfl (hb hby d7_7) rfl rfl kk_)) ?_
  show own_Goes _ _ _ _ _ _ _ T1 (mkF m 8 #[rv a, rv o, .unset] [(.ref o)])
  obtain ⟨T2, X2, e2, st2⟩ := castY X1 hx hZ hown (own_w hw 49 rfl) e1 (Ins.self p_3) (g := (mkF m 8 #[rv a, rv o, .unset] [(.ref o)])) rfl rfl (hb hby d7_8)
  refine own_st st2 ?_
  show own_Goes _ _ _ _ _ _ _ T2 (mkF m 11 #[rv a, rv o, .unset] [(.ref o)])
  refine own_st (fun _ kk_ => XS.astoreN X2.here hx rfl (hb hby d7_11) rfl rfl (l' := #[rv a, rv o, rv o]) rfl (XS.aloadN X2.here hx rfl (hb hby d7_12) rfl rfl kk_)) ?_
  show own_Goes _ _ _ _ _ _ _ T2 (mkF m 13 #[rv a, rv o, rv o] [(.ref a)])
  obtain ⟨T3, X3, e3, st3⟩ := getF X2 hx hZ hown (host := "") (Or.inl (own_w hw 38 rfl)) Via.refl e2 p_0 (g := (mkF m 13 #[rv a, rv o, rv o] [(.ref a)])) rfl rfl (hb hby d7_13)
  refine own_st st3 ?_
  show own_Goes _ _ _ _ _ _ _ T3 (mkF m 16 #[rv a, rv o, rv o] [(.int la)])
  refine own_st (fun _ kk_ => XS.aloadN X3.here hx rfl (hb hby d7_16) rfl rfl kk_) ?_
  show own_Goes _ _ _ _ _ _ _ T3 (mkF m 17 #[rv a, rv o, rv o] [(.ref o), (.int la)])
  obtain ⟨T4, X4, e4, st4⟩ := getF X3 hx hZ hown (host := "") (Or.inl (own_w hw 38 rfl)) Via.refl e3 p_4 (g := (mkF m 17 #[rv a, rv o, rv o] [(.ref o), (.int la)])) rfl rfl (hb hby d7_17)
  refine own_st st4 ?_
  show own_Goes _ _ _ _ _ _ _ T4 (mkF m 20 #[rv a, rv o, rv o] [(.int lo), (.int la)])
  rcases Classical.em (la = lo) with ql | ql
  · refine own_st (fun _ kk_ => XS.icmpNo X4.here hx rfl (hb hby d7_20) rfl (XT.ii_ne_f ql) (XS.aloadN X4.here hx rfl (hb hby d7_23) rfl rfl kk_)) ?_
    show own_Goes _ _ _ _ _ _ _ T4 (mkF m 24 #[rv a, rv o, rv o] [(.ref a)])
    obtain ⟨T5, X5, e5, st5⟩ := getF X4 hx hZ hown (host := "") (Or.inl (own_w hw 40 rfl)) Via.refl e4 p_1 (g := (mkF m 24 #[rv a, rv o, rv o] [(.ref a)])) rfl rfl (hb hby d7_24)
    refine own_st st5 ?_
    show own_Goes _ _ _ _ _ _ _ T5 (mkF m 27 #[rv a, rv o, rv o] [(.int ca)])
    refine own_st (fun _ kk_ => XS.aloadN X5.here hx rfl (hb hby d7_27) rfl rfl kk_) ?_
    show own_Goes _ _ _ _ _ _ _ T5 (mkF m 28 #[rv a, rv o, rv o] [(.ref o), (.int ca)])
    obtain ⟨T6, X6, e6, st6⟩ := getF X5 hx hZ hown (host := "") (Or.inl (own_w hw 40 rfl)) Via.refl e5 p_5 (g := (mkF m 28 #[rv a, rv o, rv o] [(.ref o), (.int ca)])) rfl rfl (hb hby d7_28)
    refine own_st st6 ?_
    show own_Goes _ _ _ _ _ _ _ T6 (mkF m 31 #[rv a, rv o, rv o] [(.int co), (.int ca)])
    rcases Classical.em (ca = co) with qc | qc
    · refine own_st (fun _ kk_ => XS.icmpNo X6.here hx rfl (hb hby d7_31) rfl (XT.ii_ne_f qc) (XS.aloadN X6.here hx rfl (hb hby d7_34) rfl rfl kk_)) ?_
      show own_Goes _ _ _ _ _ _ _ T6 (mkF m 35 #[rv a, rv o, rv o] [(.ref a)])
      obtain ⟨T7, X7, e7, st7⟩ := getF X6 hx hZ hown (host := "") (Or.inl (own_w hw 42 rfl)) Via.refl e6 p_2 (g := (mkF m 35 #[rv a, rv o, rv o] [(.ref a)])) rfl rfl (hb hby d7_35)
      refine own_st st7 ?_
      show own_Goes _ _ _ _ _ _ _ T7 (mkF m 38 #[rv a, rv o, rv o] [(.ref ma)])
      refine own_st (fun _ kk_ => XS.aloadN X7.here hx rfl (hb hby d7_38) rfl rfl kk_) ?_
      show own_Goes _ _ _ _ _ _ _ T7 (mkF m 39 #[rv a, rv o, rv o] [(.ref o), (.ref ma)])
      obtain ⟨T8, X8, e8, st8⟩ := getF X7 hx hZ hown (host := "") (Or.inl (own_w hw 42 rfl)) Via.refl e7 p_6 (g := (mkF m 39 #[rv a, rv o, rv o] [(.ref o), (.ref ma)])) rfl rfl (hb hby d7_39)
      refine own_st st8 ?_
      show own_Goes _ _ _ _ _ _ _ T8 (mkF m 42 #[rv a, rv o, rv o] [(.ref mo), (.ref ma)])
      obtain ⟨cq9, kq9, q9a, q9b, q9c⟩ := isOf hZ e8 p_7
      obtain ⟨_, _, ⟨T9, L9, k9, n9⟩, -, X9, ⟨Lc9, hQ9, l9, y9, z9⟩, st9⟩ := X8.virtualBack hx (y := yy13) (z := yy13) hown (mvT hZ (own_w hw 51 rfl)) (mvT hZ (own_w hw 52 rfl)) (notFace_of_selects (args := #[]) (mvT hZ (own_w hw 54 rfl))) (mvT hZ (own_w hw 54 rfl)) (mvT hZ (own_w hw 53 rfl)) (by decide) (backOf (W := 0) (rmSe1_0 l Z a0 hw [] (ma) (mo) (x0) (d) (d2) (kd) (kd2) (cs) h0 n0 Z0 p_7 p_8 p_9 p_10 p_11 p_12 p_13 p_14 p_15 (by assumption) p_17) hZ (own_w hw 55 rfl) (own_w hw 11 rfl) (by decide) (by decide)) q9a q9c (g := (mkF m 42 #[rv a, rv o, rv o] [(.ref mo), (.ref ma)])) rfl (by rw [hml]; rfl) (Steps.refl _) (argsL := [(.ref mo)]) (rest := []) (lenOf pd_10 rfl) rfl (by show 2 * 0 + _ ≤ _; exact Nat.le_of_eq rfl) (hb hby d7_42) (fun _ _ => ⟨rfl, e8, (by decide : 0 + 0 ≤ _), (by decide : 0 + 0 ≤ _)⟩)
      dsimp only [Pt.U, Pt.locs, Pt.cells, Pt.slots] at X9 l9 y9 z9 st9 hQ9
      subst l9 y9 z9
      obtain ⟨rfl, Nq9, eq9⟩ := hQ9
      have N9 := Fr.app N0 Nq9
      refine own_st (fun _ kk_ => st9.trans kk_) ?_
      show own_Goes _ _ _ _ _ _ _ T9 (mkF m 45 #[rv a, rv o, rv o] [(.int (own_b (False)))])
      rcases Classical.em (False) with hM | hM
      · refine own_st (fun _ kk_ => XS.ifNo X9.here hx rfl (hb hby d7_45) rfl (XT.i0_eq_f (by rw [own_b1 hM]; decide)) (XS.iconst X9.here hx rfl (hb hby d7_48) (XS.goto X9.here hx rfl (pc0 := 49) (pc' := 53) rfl (hb hby d7_49) (by decide) (by decide) kk_))) ?_
        show own_Goes _ _ _ _ _ _ _ T9 (mkF m 53 #[rv a, rv o, rv o] [(.int (1 : Int32))])
        refine own_retN X9 hx hlk (t := .boolean) Bd.returns (by simp) (hb hby d7_53) (by decide) (by decide) ?_
        show Q7_1_0 Z a o la ca lo co ma mo x0 d d2 kd kd2 cs h0 n0 (some (.int (nar .boolean (1 : Int32)))) T9.heap _
        rw [eq9]
        exact ⟨by exact own_bt ⟨ql, qc, hM⟩, N9, rfl⟩
      · refine own_st (fun _ kk_ => XS.ifYes X9.here hx rfl (pc0 := 45) (pc' := 52) rfl (hb hby d7_45) rfl (XT.i0_eq_t (own_b0 hM)) (by decide) (by decide) (XS.iconst X9.here hx rfl (hb hby d7_52) kk_)) ?_
        show own_Goes _ _ _ _ _ _ _ T9 (mkF m 53 #[rv a, rv o, rv o] [(.int (0 : Int32))])
        refine own_retN X9 hx hlk (t := .boolean) Bd.returns (by simp) (hb hby d7_53) (by decide) (by decide) ?_
        show Q7_1_0 Z a o la ca lo co ma mo x0 d d2 kd kd2 cs h0 n0 (some (.int (nar .boolean (0 : Int32)))) T9.heap _
        rw [eq9]
        exact ⟨by exact own_bf (fun k => hM k.2.2), N9, rfl⟩
    · refine own_st (fun _ kk_ => XS.icmpYes X6.here hx rfl (pc0 := 31) (pc' := 52) rfl (hb hby d7_31) rfl (XT.ii_ne_t qc) (by decide) (by decide) (XS.iconst X6.here hx rfl (hb hby d7_52) kk_)) ?_
      show own_Goes _ _ _ _ _ _ _ T6 (mkF m 53 #[rv a, rv o, rv o] [(.int (0 : Int32))])
      refine own_retN X6 hx hlk (t := .boolean) Bd.returns (by simp) (hb hby d7_53) (by decide) (by decide) ?_
      show Q7_1_0 Z a o la ca lo co ma mo x0 d d2 kd kd2 cs h0 n0 (some (.int (nar .boolean (0 : Int32)))) T6.heap _
      rw [e6]
      exact ⟨by exact own_bf (fun k => qc k.2.1), N0, rfl⟩
  · refine own_st (fun _ kk_ => XS.icmpYes X4.here hx rfl (pc0 := 20) (pc' := 52) rfl (hb hby d7_20) rfl (XT.ii_ne_t ql) (by decide) (by decide) (XS.iconst X4.here hx rfl (hb hby d7_52) kk_)) ?_
    show own_Goes _ _ _ _ _ _ _ T4 (mkF m 53 #[rv a, rv o, rv o] [(.int (0 : Int32))])
    refine own_retN X4 hx hlk (t := .boolean) Bd.returns (by simp) (hb hby d7_53) (by decide) (by decide) ?_
    show Q7_1_0 Z a o la ca lo co ma mo x0 d d2 kd kd2 cs h0 n0 (some (.int (nar .boolean (0 : Int32)))) T4.heap _
    rw [e4]
    exact ⟨by exact own_bf (fun k => ql k.1), N0, rfl⟩
abbrev rRrm7_1_1 : Room := { frames := 2, cells := 0, slots := 0, locals := 28 }
theorem pn_rm7_1_1 : plainFor yy14 = true := by first | exact plainFor_of_name (by first | (simp [plainName, overriddenIn]; done) | decide +kernel) | decide +kernel
theorem ef_rm7_1_1 (m : MethodId) (a : Addr) (o : Addr) : entryFrame m #[(.ref a), (.ref o)] 3 = (mkF m 0 #[rv a, rv o, .unset] []) := by first | (simp [entryFrame, mkF, argsToLocals, Value.category]; done) | rfl
def Q7_1_1 (Z : State) (a : Addr) (o : Addr) (la : Int32) (ca : Int32) (lo : Int32) (co : Int32) (ma : Addr) (mo : Addr) (x0 : Int32) (y0 : Int32) (d : Addr) (d2 : Addr) (kd : ClassId) (kd2 : ClassId) (cs : Int32) (h0 : Heap) (n0 : Nat) (v_ : Option Value) (h_ : Heap) (L_ : List Loc) : Prop := (v_ = some (.int (own_b (la = lo ∧ ca = co ∧ (x0 = y0))))) ∧ (Fr n0 L_) ∧ (h_ = h0)
set_option maxRecDepth 65536 in
set_option maxHeartbeats 40000000 in
theorem rm7_1_1 (l : Launch) (Z : State) (a0 : Array Value) (hw : ∀ d ∈ tables_1, d.before a0 Z = true) (ws : List Jvm.Cond) (a : Addr) (o : Addr) (la : Int32) (ca : Int32) (lo : Int32) (co : Int32) (ma : Addr) (mo : Addr) (x0 : Int32) (y0 : Int32) (d : Addr) (d2 : Addr) (kd : ClassId) (kd2 : ClassId) (cs : Int32) (h0 : Heap) (n0 : Nat) (Z0 : n0 ≤ h0.size) (p_0 : Fld Z h0 a "com/example/majra/majra/lang/Command$Refusal" "line" "I" (.int la)) (p_1 : Fld Z h0 a "com/example/majra/majra/lang/Command$Refusal" "column" "I" (.int ca)) (p_2 : Fld Z h0 a "com/example/majra/majra/lang/Command$Refusal" "message" "Ljava/lang/String;" (.ref ma)) (p_3 : Exa Z h0 o "com/example/majra/majra/lang/Command$Refusal") (p_4 : Fld Z h0 o "com/example/majra/majra/lang/Command$Refusal" "line" "I" (.int lo)) (p_5 : Fld Z h0 o "com/example/majra/majra/lang/Command$Refusal" "column" "I" (.int co)) (p_6 : Fld Z h0 o "com/example/majra/majra/lang/Command$Refusal" "message" "Ljava/lang/String;" (.ref mo)) (p_7 : Exa Z h0 ma "java/lang/String") (p_8 : Fld Z h0 ma "java/lang/String" "coder" "B" (.int (0 : Int32))) (p_9 : Fld Z h0 ma "java/lang/String" "value" "[B" (.ref d)) (p_10 : Exa Z h0 mo "java/lang/String") (p_11 : Fld Z h0 mo "java/lang/String" "coder" "B" (.int (0 : Int32))) (p_12 : Fld Z h0 mo "java/lang/String" "value" "[B" (.ref d2)) (p_13 : Arv Z h0 d kd .byte (1 : Int32) [(.int x0)] (.int (0 : Int32))) (p_14 : Arv Z h0 d2 kd2 .byte (1 : Int32) [(.int y0)] (.int (0 : Int32))) (p_15 : Sta Z h0 "java/lang/String" "COMPACT_STRINGS" "Z" (.int cs)) (hcs : ¬ cs = (0 : Int32)) (p_17 : ma ≠ mo) :
    MetFree l yy14 (head1 (Jvm.Cond.code yy14 prog_31_method_5_code 3 (some .boolean) :: ws) rRrm7_1_1) (fun a_ U_ => a_ = #[(.ref a), (.ref o)] ∧ Z.Warmed39 U_.vm ∧ U_.heap = h0) (fun _ _ _ _ _ => True) (fun _ U_ o_ U1_ => ∃ v_ L_, o_ = .returned v_ ∧ Q7_1_1 Z a o la ca lo co ma mo x0 y0 d d2 kd kd2 cs h0 n0 v_ U1_.heap L_ ∧ FrameEnd U_ o_ U1_ L_ rRrm7_1_1.cells rRrm7_1_1.slots) := by
  refine MetFree.of_bodySF pn_rm7_1_1 hisR ?_
  intro p e s m args below meth c s₁ Bd hml0 hP hK
  obtain ⟨rfl, hZ, hh⟩ := hP
  have hx := Bd.exec
  have hby := Bd.bytes
  have hlk : meth.locks = false := Bd.notSynchronized
  have hml : c.maxLocals = 3 := hml0
  have hown : s.vm.findClass "com/example/majra/majra/lang/Command$Refusal" = some m.cls := findClass_of_methodNamed Bd.named
  have hnm := (name_of_methodNamed Bd.named Bd.method).1
  have X0 : Stand p l e rRrm7_1_1 s m #[(.ref a), (.ref o)] below meth c s₁ [] 0 0 := Stand.of_body Bd
  have e0 : s₁.heap = h0 := by rw [← hh, Bd.state]; rfl
  have N0 := Fr.nil n0
  show own_Goes p e below s (Q7_1_1 Z a o la ca lo co ma mo x0 y0 d d2 kd kd2 cs h0 n0) rRrm7_1_1.cells rRrm7_1_1.slots s₁ (entryFrame m #[(.ref a), (.ref o)] 3)
  rw [ef_rm7_1_1 m a o]
  show own_Goes p e below s (Q7_1_1 Z a o la ca lo co ma mo x0 y0 d d2 kd kd2 cs h0 n0) rRrm7_1_1.cells rRrm7_1_1.slots s₁ (mkF m 0 #[rv a, rv o, .unset] [])
  refine own_st (fun _ kk_ => XS.aloadN X0.here hx rfl (hb hby d7_0) rfl rfl kk_) ?_
  show own_Goes _ _ _ _ _ _ _ s₁ (mkF m 1 #[rv a, rv o, .unset] [(.ref o)])
  obtain ⟨T1, X1, e1, st1⟩ := instY X0 hx hZ hown (own_w hw 49 rfl) e0 (Ins.self p_3) (g := (mkF m 1 #[rv a, rv o, .unset] [(.ref o)])) rfl rfl (hb hby d7_1)
  refine own_st st1 ?_
  show own_Goes _ _ _ _ _ _ _ T1 (mkF m 4 #[rv a, rv o, .unset] [(.int (1 : Int32))])
  refine own_st (fun _ kk_ => XS.ifNo X1.here hx rfl (hb hby d7_4) rfl (XT.i0_eq_f (by decide)) (XS.aloadN X1.here hx rfl (hb hby d7_7) rfl rfl kk_)) ?_
  show own_Goes _ _ _ _ _ _ _ T1 (mkF m 8 #[rv a, rv o, .unset] [(.ref o)])
  obtain ⟨T2, X2, e2, st2⟩ := castY X1 hx hZ hown (own_w hw 49 rfl) e1 (Ins.self p_3) (g := (mkF m 8 #[rv a, rv o, .unset] [(.ref o)])) rfl rfl (hb hby d7_8)
  refine own_st st2 ?_
  show own_Goes _ _ _ _ _ _ _ T2 (mkF m 11 #[rv a, rv o, .unset] [(.ref o)])
  refine own_st (fun _ kk_ => XS.astoreN X2.here hx rfl (hb hby d7_11) rfl rfl (l' := #[rv a, rv o, rv o]) rfl (XS.aloadN X2.here hx rfl (hb hby d7_12) rfl rfl kk_)) ?_
  show own_Goes _ _ _ _ _ _ _ T2 (mkF m 13 #[rv a, rv o, rv o] [(.ref a)])
  obtain ⟨T3, X3, e3, st3⟩ := getF X2 hx hZ hown (host := "") (Or.inl (own_w hw 38 rfl)) Via.refl e2 p_0 (g := (mkF m 13 #[rv a, rv o, rv o] [(.ref a)])) rfl rfl (hb hby d7_13)
  refine own_st st3 ?_
  show own_Goes _ _ _ _ _ _ _ T3 (mkF m 16 #[rv a, rv o, rv o] [(.int la)])
  refine own_st (fun _ kk_ => XS.aloadN X3.here hx rfl (hb hby d7_16) rfl rfl kk_) ?_
  show own_Goes _ _ _ _ _ _ _ T3 (mkF m 17 #[rv a, rv o, rv o] [(.ref o), (.int la)])
  obtain ⟨T4, X4, e4, st4⟩ := getF X3 hx hZ hown (host := "") (Or.inl (own_w hw 38 rfl)) Via.refl e3 p_4 (g := (mkF m 17 #[rv a, rv o, rv o] [(.ref o), (.int la)])) rfl rfl (hb hby d7_17)
  refine own_st st4 ?_
  show own_Goes _ _ _ _ _ _ _ T4 (mkF m 20 #[rv a, rv o, rv o] [(.int lo), (.int la)])
  rcases Classical.em (la = lo) with ql | ql
  · refine own_st (fun _ kk_ => XS.icmpNo X4.here hx rfl (hb hby d7_20) rfl (XT.ii_ne_f ql) (XS.aloadN X4.here hx rfl (hb hby d7_23) rfl rfl kk_)) ?_
    show own_Goes _ _ _ _ _ _ _ T4 (mkF m 24 #[rv a, rv o, rv o] [(.ref a)])
    obtain ⟨T5, X5, e5, st5⟩ := getF X4 hx hZ hown (host := "") (Or.inl (own_w hw 40 rfl)) Via.refl e4 p_1 (g := (mkF m 24 #[rv a, rv o, rv o] [(.ref a)])) rfl rfl (hb hby d7_24)
    refine own_st st5 ?_
    show own_Goes _ _ _ _ _ _ _ T5 (mkF m 27 #[rv a, rv o, rv o] [(.int ca)])
    refine own_st (fun _ kk_ => XS.aloadN X5.here hx rfl (hb hby d7_27) rfl rfl kk_) ?_
    show own_Goes _ _ _ _ _ _ _ T5 (mkF m 28 #[rv a, rv o, rv o] [(.ref o), (.int ca)])
    obtain ⟨T6, X6, e6, st6⟩ := getF X5 hx hZ hown (host := "") (Or.inl (own_w hw 40 rfl)) Via.refl e5 p_5 (g := (mkF m 28 #[rv a, rv o, rv o] [(.ref o), (.int ca)])) rfl rfl (hb hby d7_28)
    refine own_st st6 ?_
    show own_Goes _ _ _ _ _ _ _ T6 (mkF m 31 #[rv a, rv o, rv o] [(.int co), (.int ca)])
    rcases Classical.em (ca = co) with qc | qc
    · refine own_st (fun _ kk_ => XS.icmpNo X6.here hx rfl (hb hby d7_31) rfl (XT.ii_ne_f qc) (XS.aloadN X6.here hx rfl (hb hby d7_34) rfl rfl kk_)) ?_
      show own_Goes _ _ _ _ _ _ _ T6 (mkF m 35 #[rv a, rv o, rv o] [(.ref a)])
      obtain ⟨T7, X7, e7, st7⟩ := getF X6 hx hZ hown (host := "") (Or.inl (own_w hw 42 rfl)) Via.refl e6 p_2 (g := (mkF m 35 #[rv a, rv o, rv o] [(.ref a)])) rfl rfl (hb hby d7_35)
      refine own_st st7 ?_
      show own_Goes _ _ _ _ _ _ _ T7 (mkF m 38 #[rv a, rv o, rv o] [(.ref ma)])
      refine own_st (fun _ kk_ => XS.aloadN X7.here hx rfl (hb hby d7_38) rfl rfl kk_) ?_
      show own_Goes _ _ _ _ _ _ _ T7 (mkF m 39 #[rv a, rv o, rv o] [(.ref o), (.ref ma)])
      obtain ⟨T8, X8, e8, st8⟩ := getF X7 hx hZ hown (host := "") (Or.inl (own_w hw 42 rfl)) Via.refl e7 p_6 (g := (mkF m 39 #[rv a, rv o, rv o] [(.ref o), (.ref ma)])) rfl rfl (hb hby d7_39)
      refine own_st st8 ?_
      show own_Goes _ _ _ _ _ _ _ T8 (mkF m 42 #[rv a, rv o, rv o] [(.ref mo), (.ref ma)])
      obtain ⟨cq9, kq9, q9a, q9b, q9c⟩ := isOf hZ e8 p_7
      obtain ⟨_, _, ⟨T9, L9, k9, n9⟩, -, X9, ⟨Lc9, hQ9, l9, y9, z9⟩, st9⟩ := X8.virtualBack hx (y := yy13) (z := yy13) hown (mvT hZ (own_w hw 51 rfl)) (mvT hZ (own_w hw 52 rfl)) (notFace_of_selects (args := #[]) (mvT hZ (own_w hw 54 rfl))) (mvT hZ (own_w hw 54 rfl)) (mvT hZ (own_w hw 53 rfl)) (by decide) (backOf (W := 0) (rmSe1_1 l Z a0 hw [] (ma) (mo) (x0) (y0) (d) (d2) (kd) (kd2) (cs) h0 n0 Z0 p_7 p_8 p_9 p_10 p_11 p_12 p_13 p_14 p_15 (by assumption) p_17) hZ (own_w hw 55 rfl) (own_w hw 11 rfl) (by decide) (by decide)) q9a q9c (g := (mkF m 42 #[rv a, rv o, rv o] [(.ref mo), (.ref ma)])) rfl (by rw [hml]; rfl) (Steps.refl _) (argsL := [(.ref mo)]) (rest := []) (lenOf pd_10 rfl) rfl (by show 2 * 0 + _ ≤ _; exact Nat.le_of_eq rfl) (hb hby d7_42) (fun _ _ => ⟨rfl, e8, (by decide : 0 + 0 ≤ _), (by decide : 0 + 0 ≤ _)⟩)
      dsimp only [Pt.U, Pt.locs, Pt.cells, Pt.slots] at X9 l9 y9 z9 st9 hQ9
      subst l9 y9 z9
      obtain ⟨rfl, Nq9, eq9⟩ := hQ9
      have N9 := Fr.app N0 Nq9
      refine own_st (fun _ kk_ => st9.trans kk_) ?_
      show own_Goes _ _ _ _ _ _ _ T9 (mkF m 45 #[rv a, rv o, rv o] [(.int (own_b (x0 = y0)))])
      rcases Classical.em (x0 = y0) with hM | hM
      · refine own_st (fun _ kk_ => XS.ifNo X9.here hx rfl (hb hby d7_45) rfl (XT.i0_eq_f (by rw [own_b1 hM]; decide)) (XS.iconst X9.here hx rfl (hb hby d7_48) (XS.goto X9.here hx rfl (pc0 := 49) (pc' := 53) rfl (hb hby d7_49) (by decide) (by decide) kk_))) ?_
        show own_Goes _ _ _ _ _ _ _ T9 (mkF m 53 #[rv a, rv o, rv o] [(.int (1 : Int32))])
        refine own_retN X9 hx hlk (t := .boolean) Bd.returns (by simp) (hb hby d7_53) (by decide) (by decide) ?_
        show Q7_1_1 Z a o la ca lo co ma mo x0 y0 d d2 kd kd2 cs h0 n0 (some (.int (nar .boolean (1 : Int32)))) T9.heap _
        rw [eq9]
        exact ⟨by exact own_bt ⟨ql, qc, hM⟩, N9, rfl⟩
      · refine own_st (fun _ kk_ => XS.ifYes X9.here hx rfl (pc0 := 45) (pc' := 52) rfl (hb hby d7_45) rfl (XT.i0_eq_t (own_b0 hM)) (by decide) (by decide) (XS.iconst X9.here hx rfl (hb hby d7_52) kk_)) ?_
        show own_Goes _ _ _ _ _ _ _ T9 (mkF m 53 #[rv a, rv o, rv o] [(.int (0 : Int32))])
        refine own_retN X9 hx hlk (t := .boolean) Bd.returns (by simp) (hb hby d7_53) (by decide) (by decide) ?_
        show Q7_1_1 Z a o la ca lo co ma mo x0 y0 d d2 kd kd2 cs h0 n0 (some (.int (nar .boolean (0 : Int32)))) T9.heap _
        rw [eq9]
        exact ⟨by exact own_bf (fun k => hM k.2.2), N9, rfl⟩
    · refine own_st (fun _ kk_ => XS.icmpYes X6.here hx rfl (pc0 := 31) (pc' := 52) rfl (hb hby d7_31) rfl (XT.ii_ne_t qc) (by decide) (by decide) (XS.iconst X6.here hx rfl (hb hby d7_52) kk_)) ?_
      show own_Goes _ _ _ _ _ _ _ T6 (mkF m 53 #[rv a, rv o, rv o] [(.int (0 : Int32))])
      refine own_retN X6 hx hlk (t := .boolean) Bd.returns (by simp) (hb hby d7_53) (by decide) (by decide) ?_
      show Q7_1_1 Z a o la ca lo co ma mo x0 y0 d d2 kd kd2 cs h0 n0 (some (.int (nar .boolean (0 : Int32)))) T6.heap _
      rw [e6]
      exact ⟨by exact own_bf (fun k => qc k.2.1), N0, rfl⟩
  · refine own_st (fun _ kk_ => XS.icmpYes X4.here hx rfl (pc0 := 20) (pc' := 52) rfl (hb hby d7_20) rfl (XT.ii_ne_t ql) (by decide) (by decide) (XS.iconst X4.here hx rfl (hb hby d7_52) kk_)) ?_
    show own_Goes _ _ _ _ _ _ _ T4 (mkF m 53 #[rv a, rv o, rv o] [(.int (0 : Int32))])
    refine own_retN X4 hx hlk (t := .boolean) Bd.returns (by simp) (hb hby d7_53) (by decide) (by decide) ?_
    show Q7_1_1 Z a o la ca lo co ma mo x0 y0 d d2 kd kd2 cs h0 n0 (some (.int (nar .boolean (0 : Int32)))) T4.heap _
    rw [e4]
    exact ⟨by exact own_bf (fun k => ql k.1), N0, rfl⟩
abbrev rRrm7_1_2 : Room := { frames := 2, cells := 0, slots := 0, locals := 28 }
theorem pn_rm7_1_2 : plainFor yy14 = true := by first | exact plainFor_of_name (by first | (simp [plainName, overriddenIn]; done) | decide +kernel) | decide +kernel
theorem ef_rm7_1_2 (m : MethodId) (a : Addr) (o : Addr) : entryFrame m #[(.ref a), (.ref o)] 3 = (mkF m 0 #[rv a, rv o, .unset] []) := by first | (simp [entryFrame, mkF, argsToLocals, Value.category]; done) | rfl
def Q7_1_2 (Z : State) (a : Addr) (o : Addr) (la : Int32) (ca : Int32) (lo : Int32) (co : Int32) (ma : Addr) (mo : Addr) (x0 : Int32) (y0 : Int32) (y1 : Int32) (d : Addr) (d2 : Addr) (kd : ClassId) (kd2 : ClassId) (cs : Int32) (h0 : Heap) (n0 : Nat) (v_ : Option Value) (h_ : Heap) (L_ : List Loc) : Prop := (v_ = some (.int (own_b (la = lo ∧ ca = co ∧ (False))))) ∧ (Fr n0 L_) ∧ (h_ = h0)
set_option maxRecDepth 65536 in
set_option maxHeartbeats 40000000 in
theorem rm7_1_2 (l : Launch) (Z : State) (a0 : Array Value) (hw : ∀ d ∈ tables_1, d.before a0 Z = true) (ws : List Jvm.Cond) (a : Addr) (o : Addr) (la : Int32) (ca : Int32) (lo : Int32) (co : Int32) (ma : Addr) (mo : Addr) (x0 : Int32) (y0 : Int32) (y1 : Int32) (d : Addr) (d2 : Addr) (kd : ClassId) (kd2 : ClassId) (cs : Int32) (h0 : Heap) (n0 : Nat) (Z0 : n0 ≤ h0.size) (p_0 : Fld Z h0 a "com/example/majra/majra/lang/Command$Refusal" "line" "I" (.int la)) (p_1 : Fld Z h0 a "com/example/majra/majra/lang/Command$Refusal" "column" "I" (.int ca)) (p_2 : Fld Z h0 a "com/example/majra/majra/lang/Command$Refusal" "message" "Ljava/lang/String;" (.ref ma)) (p_3 : Exa Z h0 o "com/example/majra/majra/lang/Command$Refusal") (p_4 : Fld Z h0 o "com/example/majra/majra/lang/Command$Refusal" "line" "I" (.int lo)) (p_5 : Fld Z h0 o "com/example/majra/majra/lang/Command$Refusal" "column" "I" (.int co)) (p_6 : Fld Z h0 o "com/example/majra/majra/lang/Command$Refusal" "message" "Ljava/lang/String;" (.ref mo)) (p_7 : Exa Z h0 ma "java/lang/String") (p_8 : Fld Z h0 ma "java/lang/String" "coder" "B" (.int (0 : Int32))) (p_9 : Fld Z h0 ma "java/lang/String" "value" "[B" (.ref d)) (p_10 : Exa Z h0 mo "java/lang/String") (p_11 : Fld Z h0 mo "java/lang/String" "coder" "B" (.int (0 : Int32))) (p_12 : Fld Z h0 mo "java/lang/String" "value" "[B" (.ref d2)) (p_13 : Arv Z h0 d kd .byte (1 : Int32) [(.int x0)] (.int (0 : Int32))) (p_14 : Arv Z h0 d2 kd2 .byte (2 : Int32) [(.int y0), (.int y1)] (.int (0 : Int32))) (p_15 : Sta Z h0 "java/lang/String" "COMPACT_STRINGS" "Z" (.int cs)) (hcs : ¬ cs = (0 : Int32)) (p_17 : ma ≠ mo) :
    MetFree l yy14 (head1 (Jvm.Cond.code yy14 prog_31_method_5_code 3 (some .boolean) :: ws) rRrm7_1_2) (fun a_ U_ => a_ = #[(.ref a), (.ref o)] ∧ Z.Warmed39 U_.vm ∧ U_.heap = h0) (fun _ _ _ _ _ => True) (fun _ U_ o_ U1_ => ∃ v_ L_, o_ = .returned v_ ∧ Q7_1_2 Z a o la ca lo co ma mo x0 y0 y1 d d2 kd kd2 cs h0 n0 v_ U1_.heap L_ ∧ FrameEnd U_ o_ U1_ L_ rRrm7_1_2.cells rRrm7_1_2.slots) := by
  refine MetFree.of_bodySF pn_rm7_1_2 hisR ?_
  intro p e s m args below meth c s₁ Bd hml0 hP hK
  obtain ⟨rfl, hZ, hh⟩ := hP
  have hx := Bd.exec
  have hby := Bd.bytes
  have hlk : meth.locks = false := Bd.notSynchronized
  have hml : c.maxLocals = 3 := hml0
  have hown : s.vm.findClass "com/example/majra/majra/lang/Command$Refusal" = some m.cls := findClass_of_methodNamed Bd.named
  have hnm := (name_of_methodNamed Bd.named Bd.method).1
  have X0 : Stand p l e rRrm7_1_2 s m #[(.ref a), (.ref o)] below meth c s₁ [] 0 0 := Stand.of_body Bd
  have e0 : s₁.heap = h0 := by rw [← hh, Bd.state]; rfl
  have N0 := Fr.nil n0
  show own_Goes p e below s (Q7_1_2 Z a o la ca lo co ma mo x0 y0 y1 d d2 kd kd2 cs h0 n0) rRrm7_1_2.cells rRrm7_1_2.slots s₁ (entryFrame m #[(.ref a), (.ref o)] 3)
  rw [ef_rm7_1_2 m a o]
  show own_Goes p e below s (Q7_1_2 Z a o la ca lo co ma mo x0 y0 y1 d d2 kd kd2 cs h0 n0) rRrm7_1_2.cells rRrm7_1_2.slots s₁ (mkF m 0 #[rv a, rv o, .unset] [])
  refine own_st (fun _ kk_ => XS.aloadN X0.here hx rfl (hb hby d7_0) rfl rfl kk_) ?_
  show own_Goes _ _ _ _ _ _ _ s₁ (mkF m 1 #[rv a, rv o, .unset] [(.ref o)])
  obtain ⟨T1, X1, e1, st1⟩ := instY X0 hx hZ hown (own_w hw 49 rfl) e0 (Ins.self p_3) (g := (mkF m 1 #[rv a, rv o, .unset] [(.ref o)])) rfl rfl (hb hby d7_1)
  refine own_st st1 ?_
  show own_Goes _ _ _ _ _ _ _ T1 (mkF m 4 #[rv a, rv o, .unset] [(.int (1 : Int32))])
  refine own_st (fun _ kk_ => XS.ifNo X1.here hx rfl (hb hby d7_4) rfl (XT.i0_eq_f (by decide)) (XS.aloadN X1.here hx rfl (hb hby d7_7) rfl rfl kk_)) ?_
  show own_Goes _ _ _ _ _ _ _ T1 (mkF m 8 #[rv a, rv o, .unset] [(.ref o)])
  obtain ⟨T2, X2, e2, st2⟩ := castY X1 hx hZ hown (own_w hw 49 rfl) e1 (Ins.self p_3) (g := (mkF m 8 #[rv a, rv o, .unset] [(.ref o)])) rfl rfl (hb hby d7_8)
  refine own_st st2 ?_
  show own_Goes _ _ _ _ _ _ _ T2 (mkF m 11 #[rv a, rv o, .unset] [(.ref o)])
  refine own_st (fun _ kk_ => XS.astoreN X2.here hx rfl (hb hby d7_11) rfl rfl (l' := #[rv a, rv o, rv o]) rfl (XS.aloadN X2.here hx rfl (hb hby d7_12) rfl rfl kk_)) ?_
  show own_Goes _ _ _ _ _ _ _ T2 (mkF m 13 #[rv a, rv o, rv o] [(.ref a)])
  obtain ⟨T3, X3, e3, st3⟩ := getF X2 hx hZ hown (host := "") (Or.inl (own_w hw 38 rfl)) Via.refl e2 p_0 (g := (mkF m 13 #[rv a, rv o, rv o] [(.ref a)])) rfl rfl (hb hby d7_13)
  refine own_st st3 ?_
  show own_Goes _ _ _ _ _ _ _ T3 (mkF m 16 #[rv a, rv o, rv o] [(.int la)])
  refine own_st (fun _ kk_ => XS.aloadN X3.here hx rfl (hb hby d7_16) rfl rfl kk_) ?_
  show own_Goes _ _ _ _ _ _ _ T3 (mkF m 17 #[rv a, rv o, rv o] [(.ref o), (.int la)])
  obtain ⟨T4, X4, e4, st4⟩ := getF X3 hx hZ hown (host := "") (Or.inl (own_w hw 38 rfl)) Via.refl e3 p_4 (g := (mkF m 17 #[rv a, rv o, rv o] [(.ref o), (.int la)])) rfl rfl (hb hby d7_17)
  refine own_st st4 ?_
  show own_Goes _ _ _ _ _ _ _ T4 (mkF m 20 #[rv a, rv o, rv o] [(.int lo), (.int la)])
  rcases Classical.em (la = lo) with ql | ql
  · refine own_st (fun _ kk_ => XS.icmpNo X4.here hx rfl (hb hby d7_20) rfl (XT.ii_ne_f ql) (XS.aloadN X4.here hx rfl (hb hby d7_23) rfl rfl kk_)) ?_
    show own_Goes _ _ _ _ _ _ _ T4 (mkF m 24 #[rv a, rv o, rv o] [(.ref a)])
    obtain ⟨T5, X5, e5, st5⟩ := getF X4 hx hZ hown (host := "") (Or.inl (own_w hw 40 rfl)) Via.refl e4 p_1 (g := (mkF m 24 #[rv a, rv o, rv o] [(.ref a)])) rfl rfl (hb hby d7_24)
    refine own_st st5 ?_
    show own_Goes _ _ _ _ _ _ _ T5 (mkF m 27 #[rv a, rv o, rv o] [(.int ca)])
    refine own_st (fun _ kk_ => XS.aloadN X5.here hx rfl (hb hby d7_27) rfl rfl kk_) ?_
    show own_Goes _ _ _ _ _ _ _ T5 (mkF m 28 #[rv a, rv o, rv o] [(.ref o), (.int ca)])
    obtain ⟨T6, X6, e6, st6⟩ := getF X5 hx hZ hown (host := "") (Or.inl (own_w hw 40 rfl)) Via.refl e5 p_5 (g := (mkF m 28 #[rv a, rv o, rv o] [(.ref o), (.int ca)])) rfl rfl (hb hby d7_28)
    refine own_st st6 ?_
    show own_Goes _ _ _ _ _ _ _ T6 (mkF m 31 #[rv a, rv o, rv o] [(.int co), (.int ca)])
    rcases Classical.em (ca = co) with qc | qc
    · refine own_st (fun _ kk_ => XS.icmpNo X6.here hx rfl (hb hby d7_31) rfl (XT.ii_ne_f qc) (XS.aloadN X6.here hx rfl (hb hby d7_34) rfl rfl kk_)) ?_
      show own_Goes _ _ _ _ _ _ _ T6 (mkF m 35 #[rv a, rv o, rv o] [(.ref a)])
      obtain ⟨T7, X7, e7, st7⟩ := getF X6 hx hZ hown (host := "") (Or.inl (own_w hw 42 rfl)) Via.refl e6 p_2 (g := (mkF m 35 #[rv a, rv o, rv o] [(.ref a)])) rfl rfl (hb hby d7_35)
      refine own_st st7 ?_
      show own_Goes _ _ _ _ _ _ _ T7 (mkF m 38 #[rv a, rv o, rv o] [(.ref ma)])
      refine own_st (fun _ kk_ => XS.aloadN X7.here hx rfl (hb hby d7_38) rfl rfl kk_) ?_
      show own_Goes _ _ _ _ _ _ _ T7 (mkF m 39 #[rv a, rv o, rv o] [(.ref o), (.ref ma)])
      obtain ⟨T8, X8, e8, st8⟩ := getF X7 hx hZ hown (host := "") (Or.inl (own_w hw 42 rfl)) Via.refl e7 p_6 (g := (mkF m 39 #[rv a, rv o, rv o] [(.ref o), (.ref ma)])) rfl rfl (hb hby d7_39)
      refine own_st st8 ?_
      show own_Goes _ _ _ _ _ _ _ T8 (mkF m 42 #[rv a, rv o, rv o] [(.ref mo), (.ref ma)])
      obtain ⟨cq9, kq9, q9a, q9b, q9c⟩ := isOf hZ e8 p_7
      obtain ⟨_, _, ⟨T9, L9, k9, n9⟩, -, X9, ⟨Lc9, hQ9, l9, y9, z9⟩, st9⟩ := X8.virtualBack hx (y := yy13) (z := yy13) hown (mvT hZ (own_w hw 51 rfl)) (mvT hZ (own_w hw 52 rfl)) (notFace_of_selects (args := #[]) (mvT hZ (own_w hw 54 rfl))) (mvT hZ (own_w hw 54 rfl)) (mvT hZ (own_w hw 53 rfl)) (by decide) (backOf (W := 0) (rmSe1_2 l Z a0 hw [] (ma) (mo) (x0) (y0) (y1) (d) (d2) (kd) (kd2) (cs) h0 n0 Z0 p_7 p_8 p_9 p_10 p_11 p_12 p_13 p_14 p_15 (by assumption) p_17) hZ (own_w hw 55 rfl) (own_w hw 11 rfl) (by decide) (by decide)) q9a q9c (g := (mkF m 42 #[rv a, rv o, rv o] [(.ref mo), (.ref ma)])) rfl (by rw [hml]; rfl) (Steps.refl _) (argsL := [(.ref mo)]) (rest := []) (lenOf pd_10 rfl) rfl (by show 2 * 0 + _ ≤ _; exact Nat.le_of_eq rfl) (hb hby d7_42) (fun _ _ => ⟨rfl, e8, (by decide : 0 + 0 ≤ _), (by decide : 0 + 0 ≤ _)⟩)
      dsimp only [Pt.U, Pt.locs, Pt.cells, Pt.slots] at X9 l9 y9 z9 st9 hQ9
      subst l9 y9 z9
      obtain ⟨rfl, Nq9, eq9⟩ := hQ9
      have N9 := Fr.app N0 Nq9
      refine own_st (fun _ kk_ => st9.trans kk_) ?_
      show own_Goes _ _ _ _ _ _ _ T9 (mkF m 45 #[rv a, rv o, rv o] [(.int (own_b (False)))])
      rcases Classical.em (False) with hM | hM
      · refine own_st (fun _ kk_ => XS.ifNo X9.here hx rfl (hb hby d7_45) rfl (XT.i0_eq_f (by rw [own_b1 hM]; decide)) (XS.iconst X9.here hx rfl (hb hby d7_48) (XS.goto X9.here hx rfl (pc0 := 49) (pc' := 53) rfl (hb hby d7_49) (by decide) (by decide) kk_))) ?_
        show own_Goes _ _ _ _ _ _ _ T9 (mkF m 53 #[rv a, rv o, rv o] [(.int (1 : Int32))])
        refine own_retN X9 hx hlk (t := .boolean) Bd.returns (by simp) (hb hby d7_53) (by decide) (by decide) ?_
        show Q7_1_2 Z a o la ca lo co ma mo x0 y0 y1 d d2 kd kd2 cs h0 n0 (some (.int (nar .boolean (1 : Int32)))) T9.heap _
        rw [eq9]
        exact ⟨by exact own_bt ⟨ql, qc, hM⟩, N9, rfl⟩
      · refine own_st (fun _ kk_ => XS.ifYes X9.here hx rfl (pc0 := 45) (pc' := 52) rfl (hb hby d7_45) rfl (XT.i0_eq_t (own_b0 hM)) (by decide) (by decide) (XS.iconst X9.here hx rfl (hb hby d7_52) kk_)) ?_
        show own_Goes _ _ _ _ _ _ _ T9 (mkF m 53 #[rv a, rv o, rv o] [(.int (0 : Int32))])
        refine own_retN X9 hx hlk (t := .boolean) Bd.returns (by simp) (hb hby d7_53) (by decide) (by decide) ?_
        show Q7_1_2 Z a o la ca lo co ma mo x0 y0 y1 d d2 kd kd2 cs h0 n0 (some (.int (nar .boolean (0 : Int32)))) T9.heap _
        rw [eq9]
        exact ⟨by exact own_bf (fun k => hM k.2.2), N9, rfl⟩
    · refine own_st (fun _ kk_ => XS.icmpYes X6.here hx rfl (pc0 := 31) (pc' := 52) rfl (hb hby d7_31) rfl (XT.ii_ne_t qc) (by decide) (by decide) (XS.iconst X6.here hx rfl (hb hby d7_52) kk_)) ?_
      show own_Goes _ _ _ _ _ _ _ T6 (mkF m 53 #[rv a, rv o, rv o] [(.int (0 : Int32))])
      refine own_retN X6 hx hlk (t := .boolean) Bd.returns (by simp) (hb hby d7_53) (by decide) (by decide) ?_
      show Q7_1_2 Z a o la ca lo co ma mo x0 y0 y1 d d2 kd kd2 cs h0 n0 (some (.int (nar .boolean (0 : Int32)))) T6.heap _
      rw [e6]
      exact ⟨by exact own_bf (fun k => qc k.2.1), N0, rfl⟩
  · refine own_st (fun _ kk_ => XS.icmpYes X4.here hx rfl (pc0 := 20) (pc' := 52) rfl (hb hby d7_20) rfl (XT.ii_ne_t ql) (by decide) (by decide) (XS.iconst X4.here hx rfl (hb hby d7_52) kk_)) ?_
    show own_Goes _ _ _ _ _ _ _ T4 (mkF m 53 #[rv a, rv o, rv o] [(.int (0 : Int32))])
    refine own_retN X4 hx hlk (t := .boolean) Bd.returns (by simp) (hb hby d7_53) (by decide) (by decide) ?_
    show Q7_1_2 Z a o la ca lo co ma mo x0 y0 y1 d d2 kd kd2 cs h0 n0 (some (.int (nar .boolean (0 : Int32)))) T4.heap _
    rw [e4]
    exact ⟨by exact own_bf (fun k => ql k.1), N0, rfl⟩
abbrev rRrm7_2_0 : Room := { frames := 2, cells := 0, slots := 0, locals := 28 }
theorem pn_rm7_2_0 : plainFor yy14 = true := by first | exact plainFor_of_name (by first | (simp [plainName, overriddenIn]; done) | decide +kernel) | decide +kernel
theorem ef_rm7_2_0 (m : MethodId) (a : Addr) (o : Addr) : entryFrame m #[(.ref a), (.ref o)] 3 = (mkF m 0 #[rv a, rv o, .unset] []) := by first | (simp [entryFrame, mkF, argsToLocals, Value.category]; done) | rfl
def Q7_2_0 (Z : State) (a : Addr) (o : Addr) (la : Int32) (ca : Int32) (lo : Int32) (co : Int32) (ma : Addr) (mo : Addr) (x0 : Int32) (x1 : Int32) (d : Addr) (d2 : Addr) (kd : ClassId) (kd2 : ClassId) (cs : Int32) (h0 : Heap) (n0 : Nat) (v_ : Option Value) (h_ : Heap) (L_ : List Loc) : Prop := (v_ = some (.int (own_b (la = lo ∧ ca = co ∧ (False))))) ∧ (Fr n0 L_) ∧ (h_ = h0)
set_option maxRecDepth 65536 in
set_option maxHeartbeats 40000000 in
theorem rm7_2_0 (l : Launch) (Z : State) (a0 : Array Value) (hw : ∀ d ∈ tables_1, d.before a0 Z = true) (ws : List Jvm.Cond) (a : Addr) (o : Addr) (la : Int32) (ca : Int32) (lo : Int32) (co : Int32) (ma : Addr) (mo : Addr) (x0 : Int32) (x1 : Int32) (d : Addr) (d2 : Addr) (kd : ClassId) (kd2 : ClassId) (cs : Int32) (h0 : Heap) (n0 : Nat) (Z0 : n0 ≤ h0.size) (p_0 : Fld Z h0 a "com/example/majra/majra/lang/Command$Refusal" "line" "I" (.int la)) (p_1 : Fld Z h0 a "com/example/majra/majra/lang/Command$Refusal" "column" "I" (.int ca)) (p_2 : Fld Z h0 a "com/example/majra/majra/lang/Command$Refusal" "message" "Ljava/lang/String;" (.ref ma)) (p_3 : Exa Z h0 o "com/example/majra/majra/lang/Command$Refusal") (p_4 : Fld Z h0 o "com/example/majra/majra/lang/Command$Refusal" "line" "I" (.int lo)) (p_5 : Fld Z h0 o "com/example/majra/majra/lang/Command$Refusal" "column" "I" (.int co)) (p_6 : Fld Z h0 o "com/example/majra/majra/lang/Command$Refusal" "message" "Ljava/lang/String;" (.ref mo)) (p_7 : Exa Z h0 ma "java/lang/String") (p_8 : Fld Z h0 ma "java/lang/String" "coder" "B" (.int (0 : Int32))) (p_9 : Fld Z h0 ma "java/lang/String" "value" "[B" (.ref d)) (p_10 : Exa Z h0 mo "java/lang/String") (p_11 : Fld Z h0 mo "java/lang/String" "coder" "B" (.int (0 : Int32))) (p_12 : Fld Z h0 mo "java/lang/String" "value" "[B" (.ref d2)) (p_13 : Arv Z h0 d kd .byte (2 : Int32) [(.int x0), (.int x1)] (.int (0 : Int32))) (p_14 : Arv Z h0 d2 kd2 .byte (0 : Int32) [] (.int (0 : Int32))) (p_15 : Sta Z h0 "java/lang/String" "COMPACT_STRINGS" "Z" (.int cs)) (hcs : ¬ cs = (0 : Int32)) (p_17 : ma ≠ mo) :
    MetFree l yy14 (head1 (Jvm.Cond.code yy14 prog_31_method_5_code 3 (some .boolean) :: ws) rRrm7_2_0) (fun a_ U_ => a_ = #[(.ref a), (.ref o)] ∧ Z.Warmed39 U_.vm ∧ U_.heap = h0) (fun _ _ _ _ _ => True) (fun _ U_ o_ U1_ => ∃ v_ L_, o_ = .returned v_ ∧ Q7_2_0 Z a o la ca lo co ma mo x0 x1 d d2 kd kd2 cs h0 n0 v_ U1_.heap L_ ∧ FrameEnd U_ o_ U1_ L_ rRrm7_2_0.cells rRrm7_2_0.slots) := by
  refine MetFree.of_bodySF pn_rm7_2_0 hisR ?_
  intro p e s m args below meth c s₁ Bd hml0 hP hK
  obtain ⟨rfl, hZ, hh⟩ := hP
  have hx := Bd.exec
  have hby := Bd.bytes
  have hlk : meth.locks = false := Bd.notSynchronized
  have hml : c.maxLocals = 3 := hml0
  have hown : s.vm.findClass "com/example/majra/majra/lang/Command$Refusal" = some m.cls := findClass_of_methodNamed Bd.named
  have hnm := (name_of_methodNamed Bd.named Bd.method).1
  have X0 : Stand p l e rRrm7_2_0 s m #[(.ref a), (.ref o)] below meth c s₁ [] 0 0 := Stand.of_body Bd
  have e0 : s₁.heap = h0 := by rw [← hh, Bd.state]; rfl
  have N0 := Fr.nil n0
  show own_Goes p e below s (Q7_2_0 Z a o la ca lo co ma mo x0 x1 d d2 kd kd2 cs h0 n0) rRrm7_2_0.cells rRrm7_2_0.slots s₁ (entryFrame m #[(.ref a), (.ref o)] 3)
  rw [ef_rm7_2_0 m a o]
  show own_Goes p e below s (Q7_2_0 Z a o la ca lo co ma mo x0 x1 d d2 kd kd2 cs h0 n0) rRrm7_2_0.cells rRrm7_2_0.slots s₁ (mkF m 0 #[rv a, rv o, .unset] [])
  refine own_st (fun _ kk_ => XS.aloadN X0.here hx rfl (hb hby d7_0) rfl rfl kk_) ?_
  show own_Goes _ _ _ _ _ _ _ s₁ (mkF m 1 #[rv a, rv o, .unset] [(.ref o)])
  obtain ⟨T1, X1, e1, st1⟩ := instY X0 hx hZ hown (own_w hw 49 rfl) e0 (Ins.self p_3) (g := (mkF m 1 #[rv a, rv o, .unset] [(.ref o)])) rfl rfl (hb hby d7_1)
  refine own_st st1 ?_
  show own_Goes _ _ _ _ _ _ _ T1 (mkF m 4 #[rv a, rv o, .unset] [(.int (1 : Int32))])
  refine own_st (fun _ kk_ => XS.ifNo X1.here hx rfl (hb hby d7_4) rfl (XT.i0_eq_f (by decide)) (XS.aloadN X1.here hx rfl (hb hby d7_7) rfl rfl kk_)) ?_
  show own_Goes _ _ _ _ _ _ _ T1 (mkF m 8 #[rv a, rv o, .unset] [(.ref o)])
  obtain ⟨T2, X2, e2, st2⟩ := castY X1 hx hZ hown (own_w hw 49 rfl) e1 (Ins.self p_3) (g := (mkF m 8 #[rv a, rv o, .unset] [(.ref o)])) rfl rfl (hb hby d7_8)
  refine own_st st2 ?_
  show own_Goes _ _ _ _ _ _ _ T2 (mkF m 11 #[rv a, rv o, .unset] [(.ref o)])
  refine own_st (fun _ kk_ => XS.astoreN X2.here hx rfl (hb hby d7_11) rfl rfl (l' := #[rv a, rv o, rv o]) rfl (XS.aloadN X2.here hx rfl (hb hby d7_12) rfl rfl kk_)) ?_
  show own_Goes _ _ _ _ _ _ _ T2 (mkF m 13 #[rv a, rv o, rv o] [(.ref a)])
  obtain ⟨T3, X3, e3, st3⟩ := getF X2 hx hZ hown (host := "") (Or.inl (own_w hw 38 rfl)) Via.refl e2 p_0 (g := (mkF m 13 #[rv a, rv o, rv o] [(.ref a)])) rfl rfl (hb hby d7_13)
  refine own_st st3 ?_
  show own_Goes _ _ _ _ _ _ _ T3 (mkF m 16 #[rv a, rv o, rv o] [(.int la)])
  refine own_st (fun _ kk_ => XS.aloadN X3.here hx rfl (hb hby d7_16) rfl rfl kk_) ?_
  show own_Goes _ _ _ _ _ _ _ T3 (mkF m 17 #[rv a, rv o, rv o] [(.ref o), (.int la)])
  obtain ⟨T4, X4, e4, st4⟩ := getF X3 hx hZ hown (host := "") (Or.inl (own_w hw 38 rfl)) Via.refl e3 p_4 (g := (mkF m 17 #[rv a, rv o, rv o] [(.ref o), (.int la)])) rfl rfl (hb hby d7_17)
  refine own_st st4 ?_
  show own_Goes _ _ _ _ _ _ _ T4 (mkF m 20 #[rv a, rv o, rv o] [(.int lo), (.int la)])
  rcases Classical.em (la = lo) with ql | ql
  · refine own_st (fun _ kk_ => XS.icmpNo X4.here hx rfl (hb hby d7_20) rfl (XT.ii_ne_f ql) (XS.aloadN X4.here hx rfl (hb hby d7_23) rfl rfl kk_)) ?_
    show own_Goes _ _ _ _ _ _ _ T4 (mkF m 24 #[rv a, rv o, rv o] [(.ref a)])
    obtain ⟨T5, X5, e5, st5⟩ := getF X4 hx hZ hown (host := "") (Or.inl (own_w hw 40 rfl)) Via.refl e4 p_1 (g := (mkF m 24 #[rv a, rv o, rv o] [(.ref a)])) rfl rfl (hb hby d7_24)
    refine own_st st5 ?_
    show own_Goes _ _ _ _ _ _ _ T5 (mkF m 27 #[rv a, rv o, rv o] [(.int ca)])
    refine own_st (fun _ kk_ => XS.aloadN X5.here hx rfl (hb hby d7_27) rfl rfl kk_) ?_
    show own_Goes _ _ _ _ _ _ _ T5 (mkF m 28 #[rv a, rv o, rv o] [(.ref o), (.int ca)])
    obtain ⟨T6, X6, e6, st6⟩ := getF X5 hx hZ hown (host := "") (Or.inl (own_w hw 40 rfl)) Via.refl e5 p_5 (g := (mkF m 28 #[rv a, rv o, rv o] [(.ref o), (.int ca)])) rfl rfl (hb hby d7_28)
    refine own_st st6 ?_
    show own_Goes _ _ _ _ _ _ _ T6 (mkF m 31 #[rv a, rv o, rv o] [(.int co), (.int ca)])
    rcases Classical.em (ca = co) with qc | qc
    · refine own_st (fun _ kk_ => XS.icmpNo X6.here hx rfl (hb hby d7_31) rfl (XT.ii_ne_f qc) (XS.aloadN X6.here hx rfl (hb hby d7_34) rfl rfl kk_)) ?_
      show own_Goes _ _ _ _ _ _ _ T6 (mkF m 35 #[rv a, rv o, rv o] [(.ref a)])
      obtain ⟨T7, X7, e7, st7⟩ := getF X6 hx hZ hown (host := "") (Or.inl (own_w hw 42 rfl)) Via.refl e6 p_2 (g := (mkF m 35 #[rv a, rv o, rv o] [(.ref a)])) rfl rfl (hb hby d7_35)
      refine own_st st7 ?_
      show own_Goes _ _ _ _ _ _ _ T7 (mkF m 38 #[rv a, rv o, rv o] [(.ref ma)])
      refine own_st (fun _ kk_ => XS.aloadN X7.here hx rfl (hb hby d7_38) rfl rfl kk_) ?_
      show own_Goes _ _ _ _ _ _ _ T7 (mkF m 39 #[rv a, rv o, rv o] [(.ref o), (.ref ma)])
      obtain ⟨T8, X8, e8, st8⟩ := getF X7 hx hZ hown (host := "") (Or.inl (own_w hw 42 rfl)) Via.refl e7 p_6 (g := (mkF m 39 #[rv a, rv o, rv o] [(.ref o), (.ref ma)])) rfl rfl (hb hby d7_39)
      refine own_st st8 ?_
      show own_Goes _ _ _ _ _ _ _ T8 (mkF m 42 #[rv a, rv o, rv o] [(.ref mo), (.ref ma)])
      obtain ⟨cq9, kq9, q9a, q9b, q9c⟩ := isOf hZ e8 p_7
      obtain ⟨_, _, ⟨T9, L9, k9, n9⟩, -, X9, ⟨Lc9, hQ9, l9, y9, z9⟩, st9⟩ := X8.virtualBack hx (y := yy13) (z := yy13) hown (mvT hZ (own_w hw 51 rfl)) (mvT hZ (own_w hw 52 rfl)) (notFace_of_selects (args := #[]) (mvT hZ (own_w hw 54 rfl))) (mvT hZ (own_w hw 54 rfl)) (mvT hZ (own_w hw 53 rfl)) (by decide) (backOf (W := 0) (rmSe2_0 l Z a0 hw [] (ma) (mo) (x0) (x1) (d) (d2) (kd) (kd2) (cs) h0 n0 Z0 p_7 p_8 p_9 p_10 p_11 p_12 p_13 p_14 p_15 (by assumption) p_17) hZ (own_w hw 55 rfl) (own_w hw 11 rfl) (by decide) (by decide)) q9a q9c (g := (mkF m 42 #[rv a, rv o, rv o] [(.ref mo), (.ref ma)])) rfl (by rw [hml]; rfl) (Steps.refl _) (argsL := [(.ref mo)]) (rest := []) (lenOf pd_10 rfl) rfl (by show 2 * 0 + _ ≤ _; exact Nat.le_of_eq rfl) (hb hby d7_42) (fun _ _ => ⟨rfl, e8, (by decide : 0 + 0 ≤ _), (by decide : 0 + 0 ≤ _)⟩)
      dsimp only [Pt.U, Pt.locs, Pt.cells, Pt.slots] at X9 l9 y9 z9 st9 hQ9
      subst l9 y9 z9
      obtain ⟨rfl, Nq9, eq9⟩ := hQ9
      have N9 := Fr.app N0 Nq9
      refine own_st (fun _ kk_ => st9.trans kk_) ?_
      show own_Goes _ _ _ _ _ _ _ T9 (mkF m 45 #[rv a, rv o, rv o] [(.int (own_b (False)))])
      rcases Classical.em (False) with hM | hM
      · refine own_st (fun _ kk_ => XS.ifNo X9.here hx rfl (hb hby d7_45) rfl (XT.i0_eq_f (by rw [own_b1 hM]; decide)) (XS.iconst X9.here hx rfl (hb hby d7_48) (XS.goto X9.here hx rfl (pc0 := 49) (pc' := 53) rfl (hb hby d7_49) (by decide) (by decide) kk_))) ?_
        show own_Goes _ _ _ _ _ _ _ T9 (mkF m 53 #[rv a, rv o, rv o] [(.int (1 : Int32))])
        refine own_retN X9 hx hlk (t := .boolean) Bd.returns (by simp) (hb hby d7_53) (by decide) (by decide) ?_
        show Q7_2_0 Z a o la ca lo co ma mo x0 x1 d d2 kd kd2 cs h0 n0 (some (.int (nar .boolean (1 : Int32)))) T9.heap _
        rw [eq9]
        exact ⟨by exact own_bt ⟨ql, qc, hM⟩, N9, rfl⟩
      · refine own_st (fun _ kk_ => XS.ifYes X9.here hx rfl (pc0 := 45) (pc' := 52) rfl (hb hby d7_45) rfl (XT.i0_eq_t (own_b0 hM)) (by decide) (by decide) (XS.iconst X9.here hx rfl (hb hby d7_52) kk_)) ?_
        show own_Goes _ _ _ _ _ _ _ T9 (mkF m 53 #[rv a, rv o, rv o] [(.int (0 : Int32))])
        refine own_retN X9 hx hlk (t := .boolean) Bd.returns (by simp) (hb hby d7_53) (by decide) (by decide) ?_
        show Q7_2_0 Z a o la ca lo co ma mo x0 x1 d d2 kd kd2 cs h0 n0 (some (.int (nar .boolean (0 : Int32)))) T9.heap _
        rw [eq9]
        exact ⟨by exact own_bf (fun k => hM k.2.2), N9, rfl⟩
    · refine own_st (fun _ kk_ => XS.icmpYes X6.here hx rfl (pc0 := 31) (pc' := 52) rfl (hb hby d7_31) rfl (XT.ii_ne_t qc) (by decide) (by decide) (XS.iconst X6.here hx rfl (hb hby d7_52) kk_)) ?_
      show own_Goes _ _ _ _ _ _ _ T6 (mkF m 53 #[rv a, rv o, rv o] [(.int (0 : Int32))])
      refine own_retN X6 hx hlk (t := .boolean) Bd.returns (by simp) (hb hby d7_53) (by decide) (by decide) ?_
      show Q7_2_0 Z a o la ca lo co ma mo x0 x1 d d2 kd kd2 cs h0 n0 (some (.int (nar .boolean (0 : Int32)))) T6.heap _
      rw [e6]
      exact ⟨by exact own_bf (fun k => qc k.2.1), N0, rfl⟩
  · refine own_st (fun _ kk_ => XS.icmpYes X4.here hx rfl (pc0 := 20) (pc' := 52) rfl (hb hby d7_20) rfl (XT.ii_ne_t ql) (by decide) (by decide) (XS.iconst X4.here hx rfl (hb hby d7_52) kk_)) ?_
    show own_Goes _ _ _ _ _ _ _ T4 (mkF m 53 #[rv a, rv o, rv o] [(.int (0 : Int32))])
    refine own_retN X4 hx hlk (t := .boolean) Bd.returns (by simp) (hb hby d7_53) (by decide) (by decide) ?_
    show Q7_2_0 Z a o la ca lo co ma mo x0 x1 d d2 kd kd2 cs h0 n0 (some (.int (nar .boolean (0 : Int32)))) T4.heap _
    rw [e4]
    exact ⟨by exact own_bf (fun k => ql k.1), N0, rfl⟩
abbrev rRrm7_2_1 : Room := { frames := 2, cells := 0, slots := 0, locals := 28 }
theorem pn_rm7_2_1 : plainFor yy14 = true := by first | exact plainFor_of_name (by first | (simp [plainName, overriddenIn]; done) | decide +kernel) | decide +kernel
theorem ef_rm7_2_1 (m : MethodId) (a : Addr) (o : Addr) : entryFrame m #[(.ref a), (.ref o)] 3 = (mkF m 0 #[rv a, rv o, .unset] []) := by first | (simp [entryFrame, mkF, argsToLocals, Value.category]; done) | rfl
def Q7_2_1 (Z : State) (a : Addr) (o : Addr) (la : Int32) (ca : Int32) (lo : Int32) (co : Int32) (ma : Addr) (mo : Addr) (x0 : Int32) (x1 : Int32) (y0 : Int32) (d : Addr) (d2 : Addr) (kd : ClassId) (kd2 : ClassId) (cs : Int32) (h0 : Heap) (n0 : Nat) (v_ : Option Value) (h_ : Heap) (L_ : List Loc) : Prop := (v_ = some (.int (own_b (la = lo ∧ ca = co ∧ (False))))) ∧ (Fr n0 L_) ∧ (h_ = h0)
set_option maxRecDepth 65536 in
set_option maxHeartbeats 40000000 in
theorem rm7_2_1 (l : Launch) (Z : State) (a0 : Array Value) (hw : ∀ d ∈ tables_1, d.before a0 Z = true) (ws : List Jvm.Cond) (a : Addr) (o : Addr) (la : Int32) (ca : Int32) (lo : Int32) (co : Int32) (ma : Addr) (mo : Addr) (x0 : Int32) (x1 : Int32) (y0 : Int32) (d : Addr) (d2 : Addr) (kd : ClassId) (kd2 : ClassId) (cs : Int32) (h0 : Heap) (n0 : Nat) (Z0 : n0 ≤ h0.size) (p_0 : Fld Z h0 a "com/example/majra/majra/lang/Command$Refusal" "line" "I" (.int la)) (p_1 : Fld Z h0 a "com/example/majra/majra/lang/Command$Refusal" "column" "I" (.int ca)) (p_2 : Fld Z h0 a "com/example/majra/majra/lang/Command$Refusal" "message" "Ljava/lang/String;" (.ref ma)) (p_3 : Exa Z h0 o "com/example/majra/majra/lang/Command$Refusal") (p_4 : Fld Z h0 o "com/example/majra/majra/lang/Command$Refusal" "line" "I" (.int lo)) (p_5 : Fld Z h0 o "com/example/majra/majra/lang/Command$Refusal" "column" "I" (.int co)) (p_6 : Fld Z h0 o "com/example/majra/majra/lang/Command$Refusal" "message" "Ljava/lang/String;" (.ref mo)) (p_7 : Exa Z h0 ma "java/lang/String") (p_8 : Fld Z h0 ma "java/lang/String" "coder" "B" (.int (0 : Int32))) (p_9 : Fld Z h0 ma "java/lang/String" "value" "[B" (.ref d)) (p_10 : Exa Z h0 mo "java/lang/String") (p_11 : Fld Z h0 mo "java/lang/String" "coder" "B" (.int (0 : Int32))) (p_12 : Fld Z h0 mo "java/lang/String" "value" "[B" (.ref d2)) (p_13 : Arv Z h0 d kd .byte (2 : Int32) [(.int x0), (.int x1)] (.int (0 : Int32))) (p_14 : Arv Z h0 d2 kd2 .byte (1 : Int32) [(.int y0)] (.int (0 : Int32))) (p_15 : Sta Z h0 "java/lang/String" "COMPACT_STRINGS" "Z" (.int cs)) (hcs : ¬ cs = (0 : Int32)) (p_17 : ma ≠ mo) :
    MetFree l yy14 (head1 (Jvm.Cond.code yy14 prog_31_method_5_code 3 (some .boolean) :: ws) rRrm7_2_1) (fun a_ U_ => a_ = #[(.ref a), (.ref o)] ∧ Z.Warmed39 U_.vm ∧ U_.heap = h0) (fun _ _ _ _ _ => True) (fun _ U_ o_ U1_ => ∃ v_ L_, o_ = .returned v_ ∧ Q7_2_1 Z a o la ca lo co ma mo x0 x1 y0 d d2 kd kd2 cs h0 n0 v_ U1_.heap L_ ∧ FrameEnd U_ o_ U1_ L_ rRrm7_2_1.cells rRrm7_2_1.slots) := by
  refine MetFree.of_bodySF pn_rm7_2_1 hisR ?_
  intro p e s m args below meth c s₁ Bd hml0 hP hK
  obtain ⟨rfl, hZ, hh⟩ := hP
  have hx := Bd.exec
  have hby := Bd.bytes
  have hlk : meth.locks = false := Bd.notSynchronized
  have hml : c.maxLocals = 3 := hml0
  have hown : s.vm.findClass "com/example/majra/majra/lang/Command$Refusal" = some m.cls := findClass_of_methodNamed Bd.named
  have hnm := (name_of_methodNamed Bd.named Bd.method).1
  have X0 : Stand p l e rRrm7_2_1 s m #[(.ref a), (.ref o)] below meth c s₁ [] 0 0 := Stand.of_body Bd
  have e0 : s₁.heap = h0 := by rw [← hh, Bd.state]; rfl
  have N0 := Fr.nil n0
  show own_Goes p e below s (Q7_2_1 Z a o la ca lo co ma mo x0 x1 y0 d d2 kd kd2 cs h0 n0) rRrm7_2_1.cells rRrm7_2_1.slots s₁ (entryFrame m #[(.ref a), (.ref o)] 3)
  rw [ef_rm7_2_1 m a o]
  show own_Goes p e below s (Q7_2_1 Z a o la ca lo co ma mo x0 x1 y0 d d2 kd kd2 cs h0 n0) rRrm7_2_1.cells rRrm7_2_1.slots s₁ (mkF m 0 #[rv a, rv o, .unset] [])
  refine own_st (fun _ kk_ => XS.aloadN X0.here hx rfl (hb hby d7_0) rfl rfl kk_) ?_
  show own_Goes _ _ _ _ _ _ _ s₁ (mkF m 1 #[rv a, rv o, .unset] [(.ref o)])
  obtain ⟨T1, X1, e1, st1⟩ := instY X0 hx hZ hown (own_w hw 49 rfl) e0 (Ins.self p_3) (g := (mkF m 1 #[rv a, rv o, .unset] [(.ref o)])) rfl rfl (hb hby d7_1)
  refine own_st st1 ?_
  show own_Goes _ _ _ _ _ _ _ T1 (mkF m 4 #[rv a, rv o, .unset] [(.int (1 : Int32))])
  refine own_st (fun _ kk_ => XS.ifNo X1.here hx rfl (hb hby d7_4) rfl (XT.i0_eq_f (by decide)) (XS.aloadN X1.here hx rfl (hb hby d7_7) rfl rfl kk_)) ?_
  show own_Goes _ _ _ _ _ _ _ T1 (mkF m 8 #[rv a, rv o, .unset] [(.ref o)])
  obtain ⟨T2, X2, e2, st2⟩ := castY X1 hx hZ hown (own_w hw 49 rfl) e1 (Ins.self p_3) (g := (mkF m 8 #[rv a, rv o, .unset] [(.ref o)])) rfl rfl (hb hby d7_8)
  refine own_st st2 ?_
  show own_Goes _ _ _ _ _ _ _ T2 (mkF m 11 #[rv a, rv o, .unset] [(.ref o)])
  refine own_st (fun _ kk_ => XS.astoreN X2.here hx rfl (hb hby d7_11) rfl rfl (l' := #[rv a, rv o, rv o]) rfl (XS.aloadN X2.here hx rfl (hb hby d7_12) rfl rfl kk_)) ?_
  show own_Goes _ _ _ _ _ _ _ T2 (mkF m 13 #[rv a, rv o, rv o] [(.ref a)])
  obtain ⟨T3, X3, e3, st3⟩ := getF X2 hx hZ hown (host := "") (Or.inl (own_w hw 38 rfl)) Via.refl e2 p_0 (g := (mkF m 13 #[rv a, rv o, rv o] [(.ref a)])) rfl rfl (hb hby d7_13)
  refine own_st st3 ?_
  show own_Goes _ _ _ _ _ _ _ T3 (mkF m 16 #[rv a, rv o, rv o] [(.int la)])
  refine own_st (fun _ kk_ => XS.aloadN X3.here hx rfl (hb hby d7_16) rfl rfl kk_) ?_
  show own_Goes _ _ _ _ _ _ _ T3 (mkF m 17 #[rv a, rv o, rv o] [(.ref o), (.int la)])
  obtain ⟨T4, X4, e4, st4⟩ := getF X3 hx hZ hown (host := "") (Or.inl (own_w hw 38 rfl)) Via.refl e3 p_4 (g := (mkF m 17 #[rv a, rv o, rv o] [(.ref o), (.int la)])) rfl rfl (hb hby d7_17)
  refine own_st st4 ?_
  show own_Goes _ _ _ _ _ _ _ T4 (mkF m 20 #[rv a, rv o, rv o] [(.int lo), (.int la)])
  rcases Classical.em (la = lo) with ql | ql
  · refine own_st (fun _ kk_ => XS.icmpNo X4.here hx rfl (hb hby d7_20) rfl (XT.ii_ne_f ql) (XS.aloadN X4.here hx rfl (hb hby d7_23) rfl rfl kk_)) ?_
    show own_Goes _ _ _ _ _ _ _ T4 (mkF m 24 #[rv a, rv o, rv o] [(.ref a)])
    obtain ⟨T5, X5, e5, st5⟩ := getF X4 hx hZ hown (host := "") (Or.inl (own_w hw 40 rfl)) Via.refl e4 p_1 (g := (mkF m 24 #[rv a, rv o, rv o] [(.ref a)])) rfl rfl (hb hby d7_24)
    refine own_st st5 ?_
    show own_Goes _ _ _ _ _ _ _ T5 (mkF m 27 #[rv a, rv o, rv o] [(.int ca)])
    refine own_st (fun _ kk_ => XS.aloadN X5.here hx rfl (hb hby d7_27) rfl rfl kk_) ?_
    show own_Goes _ _ _ _ _ _ _ T5 (mkF m 28 #[rv a, rv o, rv o] [(.ref o), (.int ca)])
    obtain ⟨T6, X6, e6, st6⟩ := getF X5 hx hZ hown (host := "") (Or.inl (own_w hw 40 rfl)) Via.refl e5 p_5 (g := (mkF m 28 #[rv a, rv o, rv o] [(.ref o), (.int ca)])) rfl rfl (hb hby d7_28)
    refine own_st st6 ?_
    show own_Goes _ _ _ _ _ _ _ T6 (mkF m 31 #[rv a, rv o, rv o] [(.int co), (.int ca)])
    rcases Classical.em (ca = co) with qc | qc
    · refine own_st (fun _ kk_ => XS.icmpNo X6.here hx rfl (hb hby d7_31) rfl (XT.ii_ne_f qc) (XS.aloadN X6.here hx rfl (hb hby d7_34) rfl rfl kk_)) ?_
      show own_Goes _ _ _ _ _ _ _ T6 (mkF m 35 #[rv a, rv o, rv o] [(.ref a)])
      obtain ⟨T7, X7, e7, st7⟩ := getF X6 hx hZ hown (host := "") (Or.inl (own_w hw 42 rfl)) Via.refl e6 p_2 (g := (mkF m 35 #[rv a, rv o, rv o] [(.ref a)])) rfl rfl (hb hby d7_35)
      refine own_st st7 ?_
      show own_Goes _ _ _ _ _ _ _ T7 (mkF m 38 #[rv a, rv o, rv o] [(.ref ma)])
      refine own_st (fun _ kk_ => XS.aloadN X7.here hx rfl (hb hby d7_38) rfl rfl kk_) ?_
      show own_Goes _ _ _ _ _ _ _ T7 (mkF m 39 #[rv a, rv o, rv o] [(.ref o), (.ref ma)])
      obtain ⟨T8, X8, e8, st8⟩ := getF X7 hx hZ hown (host := "") (Or.inl (own_w hw 42 rfl)) Via.refl e7 p_6 (g := (mkF m 39 #[rv a, rv o, rv o] [(.ref o), (.ref ma)])) rfl rfl (hb hby d7_39)
      refine own_st st8 ?_
      show own_Goes _ _ _ _ _ _ _ T8 (mkF m 42 #[rv a, rv o, rv o] [(.ref mo), (.ref ma)])
      obtain ⟨cq9, kq9, q9a, q9b, q9c⟩ := isOf hZ e8 p_7
      obtain ⟨_, _, ⟨T9, L9, k9, n9⟩, -, X9, ⟨Lc9, hQ9, l9, y9, z9⟩, st9⟩ := X8.virtualBack hx (y := yy13) (z := yy13) hown (mvT hZ (own_w hw 51 rfl)) (mvT hZ (own_w hw 52 rfl)) (notFace_of_selects (args := #[]) (mvT hZ (own_w hw 54 rfl))) (mvT hZ (own_w hw 54 rfl)) (mvT hZ (own_w hw 53 rfl)) (by decide) (backOf (W := 0) (rmSe2_1 l Z a0 hw [] (ma) (mo) (x0) (x1) (y0) (d) (d2) (kd) (kd2) (cs) h0 n0 Z0 p_7 p_8 p_9 p_10 p_11 p_12 p_13 p_14 p_15 (by assumption) p_17) hZ (own_w hw 55 rfl) (own_w hw 11 rfl) (by decide) (by decide)) q9a q9c (g := (mkF m 42 #[rv a, rv o, rv o] [(.ref mo), (.ref ma)])) rfl (by rw [hml]; rfl) (Steps.refl _) (argsL := [(.ref mo)]) (rest := []) (lenOf pd_10 rfl) rfl (by show 2 * 0 + _ ≤ _; exact Nat.le_of_eq rfl) (hb hby d7_42) (fun _ _ => ⟨rfl, e8, (by decide : 0 + 0 ≤ _), (by decide : 0 + 0 ≤ _)⟩)
      dsimp only [Pt.U, Pt.locs, Pt.cells, Pt.slots] at X9 l9 y9 z9 st9 hQ9
      subst l9 y9 z9
      obtain ⟨rfl, Nq9, eq9⟩ := hQ9
      have N9 := Fr.app N0 Nq9
      refine own_st (fun _ kk_ => st9.trans kk_) ?_
      show own_Goes _ _ _ _ _ _ _ T9 (mkF m 45 #[rv a, rv o, rv o] [(.int (own_b (False)))])
      rcases Classical.em (False) with hM | hM
      · refine own_st (fun _ kk_ => XS.ifNo X9.here hx rfl (hb hby d7_45) rfl (XT.i0_eq_f (by rw [own_b1 hM]; decide)) (XS.iconst X9.here hx rfl (hb hby d7_48) (XS.goto X9.here hx rfl (pc0 := 49) (pc' := 53) rfl (hb hby d7_49) (by decide) (by decide) kk_))) ?_
        show own_Goes _ _ _ _ _ _ _ T9 (mkF m 53 #[rv a, rv o, rv o] [(.int (1 : Int32))])
        refine own_retN X9 hx hlk (t := .boolean) Bd.returns (by simp) (hb hby d7_53) (by decide) (by decide) ?_
        show Q7_2_1 Z a o la ca lo co ma mo x0 x1 y0 d d2 kd kd2 cs h0 n0 (some (.int (nar .boolean (1 : Int32)))) T9.heap _
        rw [eq9]
        exact ⟨by exact own_bt ⟨ql, qc, hM⟩, N9, rfl⟩
      · refine own_st (fun _ kk_ => XS.ifYes X9.here hx rfl (pc0 := 45) (pc' := 52) rfl (hb hby d7_45) rfl (XT.i0_eq_t (own_b0 hM)) (by decide) (by decide) (XS.iconst X9.here hx rfl (hb hby d7_52) kk_)) ?_
        show own_Goes _ _ _ _ _ _ _ T9 (mkF m 53 #[rv a, rv o, rv o] [(.int (0 : Int32))])
        refine own_retN X9 hx hlk (t := .boolean) Bd.returns (by simp) (hb hby d7_53) (by decide) (by decide) ?_
        show Q7_2_1 Z a o la ca lo co ma mo x0 x1 y0 d d2 kd kd2 cs h0 n0 (some (.int (nar .boolean (0 : Int32)))) T9.heap _
        rw [eq9]
        exact ⟨by exact own_bf (fun k => hM k.2.2), N9, rfl⟩
    · refine own_st (fun _ kk_ => XS.icmpYes X6.here hx rfl (pc0 := 31) (pc' := 52) rfl (hb hby d7_31) rfl (XT.ii_ne_t qc) (by decide) (by decide) (XS.iconst X6.here hx rfl (hb hby d7_52) kk_)) ?_
      show own_Goes _ _ _ _ _ _ _ T6 (mkF m 53 #[rv a, rv o, rv o] [(.int (0 : Int32))])
      refine own_retN X6 hx hlk (t := .boolean) Bd.returns (by simp) (hb hby d7_53) (by decide) (by decide) ?_
      show Q7_2_1 Z a o la ca lo co ma mo x0 x1 y0 d d2 kd kd2 cs h0 n0 (some (.int (nar .boolean (0 : Int32)))) T6.heap _
      rw [e6]
      exact ⟨by exact own_bf (fun k => qc k.2.1), N0, rfl⟩
  · refine own_st (fun _ kk_ => XS.icmpYes X4.here hx rfl (pc0 := 20) (pc' := 52) rfl (hb hby d7_20) rfl (XT.ii_ne_t ql) (by decide) (by decide) (XS.iconst X4.here hx rfl (hb hby d7_52) kk_)) ?_
    show own_Goes _ _ _ _ _ _ _ T4 (mkF m 53 #[rv a, rv o, rv o] [(.int (0 : Int32))])
    refine own_retN X4 hx hlk (t := .boolean) Bd.returns (by simp) (hb hby d7_53) (by decide) (by decide) ?_
    show Q7_2_1 Z a o la ca lo co ma mo x0 x1 y0 d d2 kd kd2 cs h0 n0 (some (.int (nar .boolean (0 : Int32)))) T4.heap _
    rw [e4]
    exact ⟨by exact own_bf (fun k => ql k.1), N0, rfl⟩
abbrev rRrm7_2_2 : Room := { frames := 2, cells := 0, slots := 0, locals := 28 }
theorem pn_rm7_2_2 : plainFor yy14 = true := by first | exact plainFor_of_name (by first | (simp [plainName, overriddenIn]; done) | decide +kernel) | decide +kernel
theorem ef_rm7_2_2 (m : MethodId) (a : Addr) (o : Addr) : entryFrame m #[(.ref a), (.ref o)] 3 = (mkF m 0 #[rv a, rv o, .unset] []) := by first | (simp [entryFrame, mkF, argsToLocals, Value.category]; done) | rfl
def Q7_2_2 (Z : State) (a : Addr) (o : Addr) (la : Int32) (ca : Int32) (lo : Int32) (co : Int32) (ma : Addr) (mo : Addr) (x0 : Int32) (x1 : Int32) (y0 : Int32) (y1 : Int32) (d : Addr) (d2 : Addr) (kd : ClassId) (kd2 : ClassId) (cs : Int32) (h0 : Heap) (n0 : Nat) (v_ : Option Value) (h_ : Heap) (L_ : List Loc) : Prop := (v_ = some (.int (own_b (la = lo ∧ ca = co ∧ (x0 = y0 ∧ x1 = y1))))) ∧ (Fr n0 L_) ∧ (h_ = h0)
set_option maxRecDepth 65536 in
set_option maxHeartbeats 40000000 in
theorem rm7_2_2 (l : Launch) (Z : State) (a0 : Array Value) (hw : ∀ d ∈ tables_1, d.before a0 Z = true) (ws : List Jvm.Cond) (a : Addr) (o : Addr) (la : Int32) (ca : Int32) (lo : Int32) (co : Int32) (ma : Addr) (mo : Addr) (x0 : Int32) (x1 : Int32) (y0 : Int32) (y1 : Int32) (d : Addr) (d2 : Addr) (kd : ClassId) (kd2 : ClassId) (cs : Int32) (h0 : Heap) (n0 : Nat) (Z0 : n0 ≤ h0.size) (p_0 : Fld Z h0 a "com/example/majra/majra/lang/Command$Refusal" "line" "I" (.int la)) (p_1 : Fld Z h0 a "com/example/majra/majra/lang/Command$Refusal" "column" "I" (.int ca)) (p_2 : Fld Z h0 a "com/example/majra/majra/lang/Command$Refusal" "message" "Ljava/lang/String;" (.ref ma)) (p_3 : Exa Z h0 o "com/example/majra/majra/lang/Command$Refusal") (p_4 : Fld Z h0 o "com/example/majra/majra/lang/Command$Refusal" "line" "I" (.int lo)) (p_5 : Fld Z h0 o "com/example/majra/majra/lang/Command$Refusal" "column" "I" (.int co)) (p_6 : Fld Z h0 o "com/example/majra/majra/lang/Command$Refusal" "message" "Ljava/lang/String;" (.ref mo)) (p_7 : Exa Z h0 ma "java/lang/String") (p_8 : Fld Z h0 ma "java/lang/String" "coder" "B" (.int (0 : Int32))) (p_9 : Fld Z h0 ma "java/lang/String" "value" "[B" (.ref d)) (p_10 : Exa Z h0 mo "java/lang/String") (p_11 : Fld Z h0 mo "java/lang/String" "coder" "B" (.int (0 : Int32))) (p_12 : Fld Z h0 mo "java/lang/String" "value" "[B" (.ref d2)) (p_13 : Arv Z h0 d kd .byte (2 : Int32) [(.int x0), (.int x1)] (.int (0 : Int32))) (p_14 : Arv Z h0 d2 kd2 .byte (2 : Int32) [(.int y0), (.int y1)] (.int (0 : Int32))) (p_15 : Sta Z h0 "java/lang/String" "COMPACT_STRINGS" "Z" (.int cs)) (hcs : ¬ cs = (0 : Int32)) (p_17 : ma ≠ mo) :
    MetFree l yy14 (head1 (Jvm.Cond.code yy14 prog_31_method_5_code 3 (some .boolean) :: ws) rRrm7_2_2) (fun a_ U_ => a_ = #[(.ref a), (.ref o)] ∧ Z.Warmed39 U_.vm ∧ U_.heap = h0) (fun _ _ _ _ _ => True) (fun _ U_ o_ U1_ => ∃ v_ L_, o_ = .returned v_ ∧ Q7_2_2 Z a o la ca lo co ma mo x0 x1 y0 y1 d d2 kd kd2 cs h0 n0 v_ U1_.heap L_ ∧ FrameEnd U_ o_ U1_ L_ rRrm7_2_2.cells rRrm7_2_2.slots) := by
  refine MetFree.of_bodySF pn_rm7_2_2 hisR ?_
  intro p e s m args below meth c s₁ Bd hml0 hP hK
  obtain ⟨rfl, hZ, hh⟩ := hP
  have hx := Bd.exec
  have hby := Bd.bytes
  have hlk : meth.locks = false := Bd.notSynchronized
  have hml : c.maxLocals = 3 := hml0
  have hown : s.vm.findClass "com/example/majra/majra/lang/Command$Refusal" = some m.cls := findClass_of_methodNamed Bd.named
  have hnm := (name_of_methodNamed Bd.named Bd.method).1
  have X0 : Stand p l e rRrm7_2_2 s m #[(.ref a), (.ref o)] below meth c s₁ [] 0 0 := Stand.of_body Bd
  have e0 : s₁.heap = h0 := by rw [← hh, Bd.state]; rfl
  have N0 := Fr.nil n0
  show own_Goes p e below s (Q7_2_2 Z a o la ca lo co ma mo x0 x1 y0 y1 d d2 kd kd2 cs h0 n0) rRrm7_2_2.cells rRrm7_2_2.slots s₁ (entryFrame m #[(.ref a), (.ref o)] 3)
  rw [ef_rm7_2_2 m a o]
  show own_Goes p e below s (Q7_2_2 Z a o la ca lo co ma mo x0 x1 y0 y1 d d2 kd kd2 cs h0 n0) rRrm7_2_2.cells rRrm7_2_2.slots s₁ (mkF m 0 #[rv a, rv o, .unset] [])
  refine own_st (fun _ kk_ => XS.aloadN X0.here hx rfl (hb hby d7_0) rfl rfl kk_) ?_
  show own_Goes _ _ _ _ _ _ _ s₁ (mkF m 1 #[rv a, rv o, .unset] [(.ref o)])
  obtain ⟨T1, X1, e1, st1⟩ := instY X0 hx hZ hown (own_w hw 49 rfl) e0 (Ins.self p_3) (g := (mkF m 1 #[rv a, rv o, .unset] [(.ref o)])) rfl rfl (hb hby d7_1)
  refine own_st st1 ?_
  show own_Goes _ _ _ _ _ _ _ T1 (mkF m 4 #[rv a, rv o, .unset] [(.int (1 : Int32))])
  refine own_st (fun _ kk_ => XS.ifNo X1.here hx rfl (hb hby d7_4) rfl (XT.i0_eq_f (by decide)) (XS.aloadN X1.here hx rfl (hb hby d7_7) rfl rfl kk_)) ?_
  show own_Goes _ _ _ _ _ _ _ T1 (mkF m 8 #[rv a, rv o, .unset] [(.ref o)])
  obtain ⟨T2, X2, e2, st2⟩ := castY X1 hx hZ hown (own_w hw 49 rfl) e1 (Ins.self p_3) (g := (mkF m 8 #[rv a, rv o, .unset] [(.ref o)])) rfl rfl (hb hby d7_8)
  refine own_st st2 ?_
  show own_Goes _ _ _ _ _ _ _ T2 (mkF m 11 #[rv a, rv o, .unset] [(.ref o)])
  refine own_st (fun _ kk_ => XS.astoreN X2.here hx rfl (hb hby d7_11) rfl rfl (l' := #[rv a, rv o, rv o]) rfl (XS.aloadN X2.here hx rfl (hb hby d7_12) rfl rfl kk_)) ?_
  show own_Goes _ _ _ _ _ _ _ T2 (mkF m 13 #[rv a, rv o, rv o] [(.ref a)])
  obtain ⟨T3, X3, e3, st3⟩ := getF X2 hx hZ hown (host := "") (Or.inl (own_w hw 38 rfl)) Via.refl e2 p_0 (g := (mkF m 13 #[rv a, rv o, rv o] [(.ref a)])) rfl rfl (hb hby d7_13)
  refine own_st st3 ?_
  show own_Goes _ _ _ _ _ _ _ T3 (mkF m 16 #[rv a, rv o, rv o] [(.int la)])
  refine own_st (fun _ kk_ => XS.aloadN X3.here hx rfl (hb hby d7_16) rfl rfl kk_) ?_
  show own_Goes _ _ _ _ _ _ _ T3 (mkF m 17 #[rv a, rv o, rv o] [(.ref o), (.int la)])
  obtain ⟨T4, X4, e4, st4⟩ := getF X3 hx hZ hown (host := "") (Or.inl (own_w hw 38 rfl)) Via.refl e3 p_4 (g := (mkF m 17 #[rv a, rv o, rv o] [(.ref o), (.int la)])) rfl rfl (hb hby d7_17)
  refine own_st st4 ?_
  show own_Goes _ _ _ _ _ _ _ T4 (mkF m 20 #[rv a, rv o, rv o] [(.int lo), (.int la)])
  rcases Classical.em (la = lo) with ql | ql
  · refine own_st (fun _ kk_ => XS.icmpNo X4.here hx rfl (hb hby d7_20) rfl (XT.ii_ne_f ql) (XS.aloadN X4.here hx rfl (hb hby d7_23) rfl rfl kk_)) ?_
    show own_Goes _ _ _ _ _ _ _ T4 (mkF m 24 #[rv a, rv o, rv o] [(.ref a)])
    obtain ⟨T5, X5, e5, st5⟩ := getF X4 hx hZ hown (host := "") (Or.inl (own_w hw 40 rfl)) Via.refl e4 p_1 (g := (mkF m 24 #[rv a, rv o, rv o] [(.ref a)])) rfl rfl (hb hby d7_24)
    refine own_st st5 ?_
    show own_Goes _ _ _ _ _ _ _ T5 (mkF m 27 #[rv a, rv o, rv o] [(.int ca)])
    refine own_st (fun _ kk_ => XS.aloadN X5.here hx rfl (hb hby d7_27) rfl rfl kk_) ?_
    show own_Goes _ _ _ _ _ _ _ T5 (mkF m 28 #[rv a, rv o, rv o] [(.ref o), (.int ca)])
    obtain ⟨T6, X6, e6, st6⟩ := getF X5 hx hZ hown (host := "") (Or.inl (own_w hw 40 rfl)) Via.refl e5 p_5 (g := (mkF m 28 #[rv a, rv o, rv o] [(.ref o), (.int ca)])) rfl rfl (hb hby d7_28)
    refine own_st st6 ?_
    show own_Goes _ _ _ _ _ _ _ T6 (mkF m 31 #[rv a, rv o, rv o] [(.int co), (.int ca)])
    rcases Classical.em (ca = co) with qc | qc
    · refine own_st (fun _ kk_ => XS.icmpNo X6.here hx rfl (hb hby d7_31) rfl (XT.ii_ne_f qc) (XS.aloadN X6.here hx rfl (hb hby d7_34) rfl rfl kk_)) ?_
      show own_Goes _ _ _ _ _ _ _ T6 (mkF m 35 #[rv a, rv o, rv o] [(.ref a)])
      obtain ⟨T7, X7, e7, st7⟩ := getF X6 hx hZ hown (host := "") (Or.inl (own_w hw 42 rfl)) Via.refl e6 p_2 (g := (mkF m 35 #[rv a, rv o, rv o] [(.ref a)])) rfl rfl (hb hby d7_35)
      refine own_st st7 ?_
      show own_Goes _ _ _ _ _ _ _ T7 (mkF m 38 #[rv a, rv o, rv o] [(.ref ma)])
      refine own_st (fun _ kk_ => XS.aloadN X7.here hx rfl (hb hby d7_38) rfl rfl kk_) ?_
      show own_Goes _ _ _ _ _ _ _ T7 (mkF m 39 #[rv a, rv o, rv o] [(.ref o), (.ref ma)])
      obtain ⟨T8, X8, e8, st8⟩ := getF X7 hx hZ hown (host := "") (Or.inl (own_w hw 42 rfl)) Via.refl e7 p_6 (g := (mkF m 39 #[rv a, rv o, rv o] [(.ref o), (.ref ma)])) rfl rfl (hb hby d7_39)
      refine own_st st8 ?_
      show own_Goes _ _ _ _ _ _ _ T8 (mkF m 42 #[rv a, rv o, rv o] [(.ref mo), (.ref ma)])
      obtain ⟨cq9, kq9, q9a, q9b, q9c⟩ := isOf hZ e8 p_7
      obtain ⟨_, _, ⟨T9, L9, k9, n9⟩, -, X9, ⟨Lc9, hQ9, l9, y9, z9⟩, st9⟩ := X8.virtualBack hx (y := yy13) (z := yy13) hown (mvT hZ (own_w hw 51 rfl)) (mvT hZ (own_w hw 52 rfl)) (notFace_of_selects (args := #[]) (mvT hZ (own_w hw 54 rfl))) (mvT hZ (own_w hw 54 rfl)) (mvT hZ (own_w hw 53 rfl)) (by decide) (backOf (W := 0) (rmSe2_2 l Z a0 hw [] (ma) (mo) (x0) (x1) (y0) (y1) (d) (d2) (kd) (kd2) (cs) h0 n0 Z0 p_7 p_8 p_9 p_10 p_11 p_12 p_13 p_14 p_15 (by assumption) p_17) hZ (own_w hw 55 rfl) (own_w hw 11 rfl) (by decide) (by decide)) q9a q9c (g := (mkF m 42 #[rv a, rv o, rv o] [(.ref mo), (.ref ma)])) rfl (by rw [hml]; rfl) (Steps.refl _) (argsL := [(.ref mo)]) (rest := []) (lenOf pd_10 rfl) rfl (by show 2 * 0 + _ ≤ _; exact Nat.le_of_eq rfl) (hb hby d7_42) (fun _ _ => ⟨rfl, e8, (by decide : 0 + 0 ≤ _), (by decide : 0 + 0 ≤ _)⟩)
      dsimp only [Pt.U, Pt.locs, Pt.cells, Pt.slots] at X9 l9 y9 z9 st9 hQ9
      subst l9 y9 z9
      obtain ⟨rfl, Nq9, eq9⟩ := hQ9
      have N9 := Fr.app N0 Nq9
      refine own_st (fun _ kk_ => st9.trans kk_) ?_
      show own_Goes _ _ _ _ _ _ _ T9 (mkF m 45 #[rv a, rv o, rv o] [(.int (own_b (x0 = y0 ∧ x1 = y1)))])
      rcases Classical.em (x0 = y0 ∧ x1 = y1) with hM | hM
      · refine own_st (fun _ kk_ => XS.ifNo X9.here hx rfl (hb hby d7_45) rfl (XT.i0_eq_f (by rw [own_b1 hM]; decide)) (XS.iconst X9.here hx rfl (hb hby d7_48) (XS.goto X9.here hx rfl (pc0 := 49) (pc' := 53) rfl (hb hby d7_49) (by decide) (by decide) kk_))) ?_
        show own_Goes _ _ _ _ _ _ _ T9 (mkF m 53 #[rv a, rv o, rv o] [(.int (1 : Int32))])
        refine own_retN X9 hx hlk (t := .boolean) Bd.returns (by simp) (hb hby d7_53) (by decide) (by decide) ?_
        show Q7_2_2 Z a o la ca lo co ma mo x0 x1 y0 y1 d d2 kd kd2 cs h0 n0 (some (.int (nar .boolean (1 : Int32)))) T9.heap _
        rw [eq9]
        exact ⟨by exact own_bt ⟨ql, qc, hM⟩, N9, rfl⟩
      · refine own_st (fun _ kk_ => XS.ifYes X9.here hx rfl (pc0 := 45) (pc' := 52) rfl (hb hby d7_45) rfl (XT.i0_eq_t (own_b0 hM)) (by decide) (by decide) (XS.iconst X9.here hx rfl (hb hby d7_52) kk_)) ?_
        show own_Goes _ _ _ _ _ _ _ T9 (mkF m 53 #[rv a, rv o, rv o] [(.int (0 : Int32))])
        refine own_retN X9 hx hlk (t := .boolean) Bd.returns (by simp) (hb hby d7_53) (by decide) (by decide) ?_
        show Q7_2_2 Z a o la ca lo co ma mo x0 x1 y0 y1 d d2 kd kd2 cs h0 n0 (some (.int (nar .boolean (0 : Int32)))) T9.heap _
        rw [eq9]
        exact ⟨by exact own_bf (fun k => hM k.2.2), N9, rfl⟩
    · refine own_st (fun _ kk_ => XS.icmpYes X6.here hx rfl (pc0 := 31) (pc' := 52) rfl (hb hby d7_31) rfl (XT.ii_ne_t qc) (by decide) (by decide) (XS.iconst X6.here hx rfl (hb hby d7_52) kk_)) ?_
      show own_Goes _ _ _ _ _ _ _ T6 (mkF m 53 #[rv a, rv o, rv o] [(.int (0 : Int32))])
      refine own_retN X6 hx hlk (t := .boolean) Bd.returns (by simp) (hb hby d7_53) (by decide) (by decide) ?_
      show Q7_2_2 Z a o la ca lo co ma mo x0 x1 y0 y1 d d2 kd kd2 cs h0 n0 (some (.int (nar .boolean (0 : Int32)))) T6.heap _
      rw [e6]
      exact ⟨by exact own_bf (fun k => qc k.2.1), N0, rfl⟩
  · refine own_st (fun _ kk_ => XS.icmpYes X4.here hx rfl (pc0 := 20) (pc' := 52) rfl (hb hby d7_20) rfl (XT.ii_ne_t ql) (by decide) (by decide) (XS.iconst X4.here hx rfl (hb hby d7_52) kk_)) ?_
    show own_Goes _ _ _ _ _ _ _ T4 (mkF m 53 #[rv a, rv o, rv o] [(.int (0 : Int32))])
    refine own_retN X4 hx hlk (t := .boolean) Bd.returns (by simp) (hb hby d7_53) (by decide) (by decide) ?_
    show Q7_2_2 Z a o la ca lo co ma mo x0 x1 y0 y1 d d2 kd kd2 cs h0 n0 (some (.int (nar .boolean (0 : Int32)))) T4.heap _
    rw [e4]
    exact ⟨by exact own_bf (fun k => ql k.1), N0, rfl⟩
abbrev rRrmSS : Room := { frames := 0, cells := 0, slots := 0, locals := 0 }
theorem d8_5 : decode jdk_42_method_66_code 5 = .ok (.iconst 1, 1) := by decide +kernel
theorem d8_6 : decode jdk_42_method_66_code 6 = .ok (.ireturn, 1) := by decide +kernel
theorem pn_rmSS : plainFor yy13 = true := by first | exact plainFor_of_name (by first | (simp [plainName, overriddenIn]; done) | decide +kernel) | decide +kernel
theorem ef_rmSS (m : MethodId) (a : Addr) : entryFrame m #[(.ref a), (.ref a)] 3 = (mkF m 0 #[rv a, rv a, .unset] []) := by first | (simp [entryFrame, mkF, argsToLocals, Value.category]; done) | rfl
def QSS (Z : State) (a : Addr) (h0 : Heap) (n0 : Nat) (v_ : Option Value) (h_ : Heap) (L_ : List Loc) : Prop := (v_ = some (.int (1 : Int32))) ∧ (Fr n0 L_) ∧ (h_ = h0)
set_option maxRecDepth 65536 in
set_option maxHeartbeats 40000000 in
theorem rmSS (l : Launch) (Z : State) (a0 : Array Value) (hw : ∀ d ∈ tables_1, d.before a0 Z = true) (ws : List Jvm.Cond) (a : Addr) (h0 : Heap) (n0 : Nat) (Z0 : n0 ≤ h0.size) :
    MetFree l yy13 (head1 (Jvm.Cond.code yy13 jdk_42_method_66_code 3 (some .boolean) :: ws) rRrmSS) (fun a_ U_ => a_ = #[(.ref a), (.ref a)] ∧ Z.Warmed39 U_.vm ∧ U_.heap = h0) (fun _ _ _ _ _ => True) (fun _ U_ o_ U1_ => ∃ v_ L_, o_ = .returned v_ ∧ QSS Z a h0 n0 v_ U1_.heap L_ ∧ FrameEnd U_ o_ U1_ L_ rRrmSS.cells rRrmSS.slots) := by
  refine MetFree.of_bodySF pn_rmSS hisR ?_
  intro p e s m args below meth c s₁ Bd hml0 hP hK
  obtain ⟨rfl, hZ, hh⟩ := hP
  have hx := Bd.exec
  have hby := Bd.bytes
  have hlk : meth.locks = false := Bd.notSynchronized
  have hml : c.maxLocals = 3 := hml0
  have hown : s.vm.findClass "java/lang/String" = some m.cls := findClass_of_methodNamed Bd.named
  have hnm := (name_of_methodNamed Bd.named Bd.method).1
  have X0 : Stand p l e rRrmSS s m #[(.ref a), (.ref a)] below meth c s₁ [] 0 0 := Stand.of_body Bd
  have e0 : s₁.heap = h0 := by rw [← hh, Bd.state]; rfl
  have N0 := Fr.nil n0
  show own_Goes p e below s (QSS Z a h0 n0) rRrmSS.cells rRrmSS.slots s₁ (entryFrame m #[(.ref a), (.ref a)] 3)
  rw [ef_rmSS m a]
  show own_Goes p e below s (QSS Z a h0 n0) rRrmSS.cells rRrmSS.slots s₁ (mkF m 0 #[rv a, rv a, .unset] [])
  refine own_st (fun _ kk_ => XS.aloadN X0.here hx rfl (hb hby d8_0) rfl rfl (XS.aloadN X0.here hx rfl (hb hby d8_1) rfl rfl (XT.acmpNo X0.here hx rfl (hb hby d8_2) rfl rfl rfl (XT.aa_ne_f rfl) (XS.iconst X0.here hx rfl (hb hby d8_5) kk_)))) ?_
  show own_Goes _ _ _ _ _ _ _ s₁ (mkF m 6 #[rv a, rv a, .unset] [(.int (1 : Int32))])
  refine own_retN X0 hx hlk (t := .boolean) Bd.returns (by simp) (hb hby d8_6) (by decide) (by decide) ?_
  show QSS Z a h0 n0 (some (.int (nar .boolean (1 : Int32)))) s₁.heap _
  rw [e0]
  exact ⟨rfl, N0, rfl⟩
abbrev rRrm7s : Room := { frames := 1, cells := 0, slots := 0, locals := 14 }
theorem pn_rm7s : plainFor yy14 = true := by first | exact plainFor_of_name (by first | (simp [plainName, overriddenIn]; done) | decide +kernel) | decide +kernel
theorem ef_rm7s (m : MethodId) (a : Addr) : entryFrame m #[(.ref a), (.ref a)] 3 = (mkF m 0 #[rv a, rv a, .unset] []) := by first | (simp [entryFrame, mkF, argsToLocals, Value.category]; done) | rfl
def Q7s (Z : State) (a : Addr) (la : Int32) (ca : Int32) (ma : Addr) (h0 : Heap) (n0 : Nat) (v_ : Option Value) (h_ : Heap) (L_ : List Loc) : Prop := (v_ = some (.int (1 : Int32))) ∧ (Fr n0 L_) ∧ (h_ = h0)
set_option maxRecDepth 65536 in
set_option maxHeartbeats 40000000 in
theorem rm7s (l : Launch) (Z : State) (a0 : Array Value) (hw : ∀ d ∈ tables_1, d.before a0 Z = true) (ws : List Jvm.Cond) (a : Addr) (la : Int32) (ca : Int32) (ma : Addr) (h0 : Heap) (n0 : Nat) (Z0 : n0 ≤ h0.size) (p_0 : Exa Z h0 a "com/example/majra/majra/lang/Command$Refusal") (p_1 : Fld Z h0 a "com/example/majra/majra/lang/Command$Refusal" "line" "I" (.int la)) (p_2 : Fld Z h0 a "com/example/majra/majra/lang/Command$Refusal" "column" "I" (.int ca)) (p_3 : Fld Z h0 a "com/example/majra/majra/lang/Command$Refusal" "message" "Ljava/lang/String;" (.ref ma)) (p_4 : Exa Z h0 ma "java/lang/String") :
    MetFree l yy14 (head1 (Jvm.Cond.code yy14 prog_31_method_5_code 3 (some .boolean) :: ws) rRrm7s) (fun a_ U_ => a_ = #[(.ref a), (.ref a)] ∧ Z.Warmed39 U_.vm ∧ U_.heap = h0) (fun _ _ _ _ _ => True) (fun _ U_ o_ U1_ => ∃ v_ L_, o_ = .returned v_ ∧ Q7s Z a la ca ma h0 n0 v_ U1_.heap L_ ∧ FrameEnd U_ o_ U1_ L_ rRrm7s.cells rRrm7s.slots) := by
  refine MetFree.of_bodySF pn_rm7s hisR ?_
  intro p e s m args below meth c s₁ Bd hml0 hP hK
  obtain ⟨rfl, hZ, hh⟩ := hP
  have hx := Bd.exec
  have hby := Bd.bytes
  have hlk : meth.locks = false := Bd.notSynchronized
  have hml : c.maxLocals = 3 := hml0
  have hown : s.vm.findClass "com/example/majra/majra/lang/Command$Refusal" = some m.cls := findClass_of_methodNamed Bd.named
  have hnm := (name_of_methodNamed Bd.named Bd.method).1
  have X0 : Stand p l e rRrm7s s m #[(.ref a), (.ref a)] below meth c s₁ [] 0 0 := Stand.of_body Bd
  have e0 : s₁.heap = h0 := by rw [← hh, Bd.state]; rfl
  have N0 := Fr.nil n0
  show own_Goes p e below s (Q7s Z a la ca ma h0 n0) rRrm7s.cells rRrm7s.slots s₁ (entryFrame m #[(.ref a), (.ref a)] 3)
  rw [ef_rm7s m a]
  show own_Goes p e below s (Q7s Z a la ca ma h0 n0) rRrm7s.cells rRrm7s.slots s₁ (mkF m 0 #[rv a, rv a, .unset] [])
  refine own_st (fun _ kk_ => XS.aloadN X0.here hx rfl (hb hby d7_0) rfl rfl kk_) ?_
  show own_Goes _ _ _ _ _ _ _ s₁ (mkF m 1 #[rv a, rv a, .unset] [(.ref a)])
  obtain ⟨T1, X1, e1, st1⟩ := instY X0 hx hZ hown (own_w hw 49 rfl) e0 (Ins.self p_0) (g := (mkF m 1 #[rv a, rv a, .unset] [(.ref a)])) rfl rfl (hb hby d7_1)
  refine own_st st1 ?_
  show own_Goes _ _ _ _ _ _ _ T1 (mkF m 4 #[rv a, rv a, .unset] [(.int (1 : Int32))])
  refine own_st (fun _ kk_ => XS.ifNo X1.here hx rfl (hb hby d7_4) rfl (XT.i0_eq_f (by decide)) (XS.aloadN X1.here hx rfl (hb hby d7_7) rfl rfl kk_)) ?_
  show own_Goes _ _ _ _ _ _ _ T1 (mkF m 8 #[rv a, rv a, .unset] [(.ref a)])
  obtain ⟨T2, X2, e2, st2⟩ := castY X1 hx hZ hown (own_w hw 49 rfl) e1 (Ins.self p_0) (g := (mkF m 8 #[rv a, rv a, .unset] [(.ref a)])) rfl rfl (hb hby d7_8)
  refine own_st st2 ?_
  show own_Goes _ _ _ _ _ _ _ T2 (mkF m 11 #[rv a, rv a, .unset] [(.ref a)])
  refine own_st (fun _ kk_ => XS.astoreN X2.here hx rfl (hb hby d7_11) rfl rfl (l' := #[rv a, rv a, rv a]) rfl (XS.aloadN X2.here hx rfl (hb hby d7_12) rfl rfl kk_)) ?_
  show own_Goes _ _ _ _ _ _ _ T2 (mkF m 13 #[rv a, rv a, rv a] [(.ref a)])
  obtain ⟨T3, X3, e3, st3⟩ := getF X2 hx hZ hown (host := "") (Or.inl (own_w hw 38 rfl)) Via.refl e2 p_1 (g := (mkF m 13 #[rv a, rv a, rv a] [(.ref a)])) rfl rfl (hb hby d7_13)
  refine own_st st3 ?_
  show own_Goes _ _ _ _ _ _ _ T3 (mkF m 16 #[rv a, rv a, rv a] [(.int la)])
  refine own_st (fun _ kk_ => XS.aloadN X3.here hx rfl (hb hby d7_16) rfl rfl kk_) ?_
  show own_Goes _ _ _ _ _ _ _ T3 (mkF m 17 #[rv a, rv a, rv a] [(.ref a), (.int la)])
  obtain ⟨T4, X4, e4, st4⟩ := getF X3 hx hZ hown (host := "") (Or.inl (own_w hw 38 rfl)) Via.refl e3 p_1 (g := (mkF m 17 #[rv a, rv a, rv a] [(.ref a), (.int la)])) rfl rfl (hb hby d7_17)
  refine own_st st4 ?_
  show own_Goes _ _ _ _ _ _ _ T4 (mkF m 20 #[rv a, rv a, rv a] [(.int la), (.int la)])
  refine own_st (fun _ kk_ => XS.icmpNo X4.here hx rfl (hb hby d7_20) rfl (XT.ii_ne_f rfl) (XS.aloadN X4.here hx rfl (hb hby d7_23) rfl rfl kk_)) ?_
  show own_Goes _ _ _ _ _ _ _ T4 (mkF m 24 #[rv a, rv a, rv a] [(.ref a)])
  obtain ⟨T5, X5, e5, st5⟩ := getF X4 hx hZ hown (host := "") (Or.inl (own_w hw 40 rfl)) Via.refl e4 p_2 (g := (mkF m 24 #[rv a, rv a, rv a] [(.ref a)])) rfl rfl (hb hby d7_24)
  refine own_st st5 ?_
  show own_Goes _ _ _ _ _ _ _ T5 (mkF m 27 #[rv a, rv a, rv a] [(.int ca)])
  refine own_st (fun _ kk_ => XS.aloadN X5.here hx rfl (hb hby d7_27) rfl rfl kk_) ?_
  show own_Goes _ _ _ _ _ _ _ T5 (mkF m 28 #[rv a, rv a, rv a] [(.ref a), (.int ca)])
  obtain ⟨T6, X6, e6, st6⟩ := getF X5 hx hZ hown (host := "") (Or.inl (own_w hw 40 rfl)) Via.refl e5 p_2 (g := (mkF m 28 #[rv a, rv a, rv a] [(.ref a), (.int ca)])) rfl rfl (hb hby d7_28)
  refine own_st st6 ?_
  show own_Goes _ _ _ _ _ _ _ T6 (mkF m 31 #[rv a, rv a, rv a] [(.int ca), (.int ca)])
  refine own_st (fun _ kk_ => XS.icmpNo X6.here hx rfl (hb hby d7_31) rfl (XT.ii_ne_f rfl) (XS.aloadN X6.here hx rfl (hb hby d7_34) rfl rfl kk_)) ?_
  show own_Goes _ _ _ _ _ _ _ T6 (mkF m 35 #[rv a, rv a, rv a] [(.ref a)])
  obtain ⟨T7, X7, e7, st7⟩ := getF X6 hx hZ hown (host := "") (Or.inl (own_w hw 42 rfl)) Via.refl e6 p_3 (g := (mkF m 35 #[rv a, rv a, rv a] [(.ref a)])) rfl rfl (hb hby d7_35)
  refine own_st st7 ?_
  show own_Goes _ _ _ _ _ _ _ T7 (mkF m 38 #[rv a, rv a, rv a] [(.ref ma)])
  refine own_st (fun _ kk_ => XS.aloadN X7.here hx rfl (hb hby d7_38) rfl rfl kk_) ?_
  show own_Goes _ _ _ _ _ _ _ T7 (mkF m 39 #[rv a, rv a, rv a] [(.ref a), (.ref ma)])
  obtain ⟨T8, X8, e8, st8⟩ := getF X7 hx hZ hown (host := "") (Or.inl (own_w hw 42 rfl)) Via.refl e7 p_3 (g := (mkF m 39 #[rv a, rv a, rv a] [(.ref a), (.ref ma)])) rfl rfl (hb hby d7_39)
  refine own_st st8 ?_
  show own_Goes _ _ _ _ _ _ _ T8 (mkF m 42 #[rv a, rv a, rv a] [(.ref ma), (.ref ma)])
  obtain ⟨cq9, kq9, q9a, q9b, q9c⟩ := isOf hZ e8 p_4
  obtain ⟨_, _, ⟨T9, L9, k9, n9⟩, -, X9, ⟨Lc9, hQ9, l9, y9, z9⟩, st9⟩ := X8.virtualBack hx (y := yy13) (z := yy13) hown (mvT hZ (own_w hw 51 rfl)) (mvT hZ (own_w hw 52 rfl)) (notFace_of_selects (args := #[]) (mvT hZ (own_w hw 54 rfl))) (mvT hZ (own_w hw 54 rfl)) (mvT hZ (own_w hw 53 rfl)) (by decide) (backOf (W := 0) (rmSS l Z a0 hw [] (ma) h0 n0 Z0) hZ (own_w hw 55 rfl) (own_w hw 11 rfl) (by decide) (by decide)) q9a q9c (g := (mkF m 42 #[rv a, rv a, rv a] [(.ref ma), (.ref ma)])) rfl (by rw [hml]; rfl) (Steps.refl _) (argsL := [(.ref ma)]) (rest := []) (lenOf pd_10 rfl) rfl (by show 2 * 0 + _ ≤ _; exact Nat.le_of_eq rfl) (hb hby d7_42) (fun _ _ => ⟨rfl, e8, (by decide : 0 + 0 ≤ _), (by decide : 0 + 0 ≤ _)⟩)
  dsimp only [Pt.U, Pt.locs, Pt.cells, Pt.slots] at X9 l9 y9 z9 st9 hQ9
  subst l9 y9 z9
  obtain ⟨rfl, Nq9, eq9⟩ := hQ9
  have N9 := Fr.app N0 Nq9
  refine own_st (fun _ kk_ => st9.trans kk_) ?_
  show own_Goes _ _ _ _ _ _ _ T9 (mkF m 45 #[rv a, rv a, rv a] [(.int (1 : Int32))])
  refine own_st (fun _ kk_ => XS.ifNo X9.here hx rfl (hb hby d7_45) rfl (XT.i0_eq_f (by decide)) (XS.iconst X9.here hx rfl (hb hby d7_48) (XS.goto X9.here hx rfl (pc0 := 49) (pc' := 53) rfl (hb hby d7_49) (by decide) (by decide) kk_))) ?_
  show own_Goes _ _ _ _ _ _ _ T9 (mkF m 53 #[rv a, rv a, rv a] [(.int (1 : Int32))])
  refine own_retN X9 hx hlk (t := .boolean) Bd.returns (by simp) (hb hby d7_53) (by decide) (by decide) ?_
  show Q7s Z a la ca ma h0 n0 (some (.int (nar .boolean (1 : Int32)))) T9.heap _
  rw [eq9]
  exact ⟨rfl, N9, rfl⟩
abbrev rRrm7n : Room := { frames := 0, cells := 0, slots := 0, locals := 0 }
theorem pn_rm7n : plainFor yy14 = true := by first | exact plainFor_of_name (by first | (simp [plainName, overriddenIn]; done) | decide +kernel) | decide +kernel
theorem ef_rm7n (m : MethodId) (a : Addr) : entryFrame m #[(.ref a), .null] 3 = (mkF m 0 #[rv a, .val .null, .unset] []) := by first | (simp [entryFrame, mkF, argsToLocals, Value.category]; done) | rfl
def Q7n (Z : State) (a : Addr) (h0 : Heap) (n0 : Nat) (v_ : Option Value) (h_ : Heap) (L_ : List Loc) : Prop := (v_ = some (.int (0 : Int32))) ∧ (Fr n0 L_) ∧ (h_ = h0)
set_option maxRecDepth 65536 in
set_option maxHeartbeats 40000000 in
theorem rm7n (l : Launch) (Z : State) (a0 : Array Value) (hw : ∀ d ∈ tables_1, d.before a0 Z = true) (ws : List Jvm.Cond) (a : Addr) (h0 : Heap) (n0 : Nat) (Z0 : n0 ≤ h0.size) :
    MetFree l yy14 (head1 (Jvm.Cond.code yy14 prog_31_method_5_code 3 (some .boolean) :: ws) rRrm7n) (fun a_ U_ => a_ = #[(.ref a), .null] ∧ Z.Warmed39 U_.vm ∧ U_.heap = h0) (fun _ _ _ _ _ => True) (fun _ U_ o_ U1_ => ∃ v_ L_, o_ = .returned v_ ∧ Q7n Z a h0 n0 v_ U1_.heap L_ ∧ FrameEnd U_ o_ U1_ L_ rRrm7n.cells rRrm7n.slots) := by
  refine MetFree.of_bodySF pn_rm7n hisR ?_
  intro p e s m args below meth c s₁ Bd hml0 hP hK
  obtain ⟨rfl, hZ, hh⟩ := hP
  have hx := Bd.exec
  have hby := Bd.bytes
  have hlk : meth.locks = false := Bd.notSynchronized
  have hml : c.maxLocals = 3 := hml0
  have hown : s.vm.findClass "com/example/majra/majra/lang/Command$Refusal" = some m.cls := findClass_of_methodNamed Bd.named
  have hnm := (name_of_methodNamed Bd.named Bd.method).1
  have X0 : Stand p l e rRrm7n s m #[(.ref a), .null] below meth c s₁ [] 0 0 := Stand.of_body Bd
  have e0 : s₁.heap = h0 := by rw [← hh, Bd.state]; rfl
  have N0 := Fr.nil n0
  show own_Goes p e below s (Q7n Z a h0 n0) rRrm7n.cells rRrm7n.slots s₁ (entryFrame m #[(.ref a), .null] 3)
  rw [ef_rm7n m a]
  show own_Goes p e below s (Q7n Z a h0 n0) rRrm7n.cells rRrm7n.slots s₁ (mkF m 0 #[rv a, .val .null, .unset] [])
  refine own_st (fun _ kk_ => XS.aloadN X0.here hx rfl (hb hby d7_0) rfl rfl (X0.instanceofNull hx (g := (mkF m 1 #[rv a, .val .null, .unset] [.null])) rfl rfl (hb hby d7_1) _ (XS.ifYes X0.here hx rfl (pc0 := 4) (pc' := 52) rfl (hb hby d7_4) rfl (XT.i0_eq_t (by decide)) (by decide) (by decide) (XS.iconst X0.here hx rfl (hb hby d7_52) kk_)))) ?_
  show own_Goes _ _ _ _ _ _ _ s₁ (mkF m 53 #[rv a, .val .null, .unset] [(.int (0 : Int32))])
  refine own_retN X0 hx hlk (t := .boolean) Bd.returns (by simp) (hb hby d7_53) (by decide) (by decide) ?_
  show Q7n Z a h0 n0 (some (.int (nar .boolean (0 : Int32)))) s₁.heap _
  rw [e0]
  exact ⟨rfl, N0, rfl⟩
abbrev rRrm7x : Room := { frames := 0, cells := 0, slots := 0, locals := 0 }
theorem pn_rm7x : plainFor yy14 = true := by first | exact plainFor_of_name (by first | (simp [plainName, overriddenIn]; done) | decide +kernel) | decide +kernel
theorem ef_rm7x (m : MethodId) (a : Addr) (o : Addr) : entryFrame m #[(.ref a), (.ref o)] 3 = (mkF m 0 #[rv a, rv o, .unset] []) := by first | (simp [entryFrame, mkF, argsToLocals, Value.category]; done) | rfl
def Q7x (Z : State) (a : Addr) (o : Addr) (h0 : Heap) (n0 : Nat) (v_ : Option Value) (h_ : Heap) (L_ : List Loc) : Prop := (v_ = some (.int (0 : Int32))) ∧ (Fr n0 L_) ∧ (h_ = h0)
set_option maxRecDepth 65536 in
set_option maxHeartbeats 40000000 in
theorem rm7x (l : Launch) (Z : State) (a0 : Array Value) (hw : ∀ d ∈ tables_1, d.before a0 Z = true) (ws : List Jvm.Cond) (a : Addr) (o : Addr) (h0 : Heap) (n0 : Nat) (Z0 : n0 ≤ h0.size) (p_0 : Exa Z h0 o "java/lang/String") :
    MetFree l yy14 (head1 (Jvm.Cond.code yy14 prog_31_method_5_code 3 (some .boolean) :: ws) rRrm7x) (fun a_ U_ => a_ = #[(.ref a), (.ref o)] ∧ Z.Warmed39 U_.vm ∧ U_.heap = h0) (fun _ _ _ _ _ => True) (fun _ U_ o_ U1_ => ∃ v_ L_, o_ = .returned v_ ∧ Q7x Z a o h0 n0 v_ U1_.heap L_ ∧ FrameEnd U_ o_ U1_ L_ rRrm7x.cells rRrm7x.slots) := by
  refine MetFree.of_bodySF pn_rm7x hisR ?_
  intro p e s m args below meth c s₁ Bd hml0 hP hK
  obtain ⟨rfl, hZ, hh⟩ := hP
  have hx := Bd.exec
  have hby := Bd.bytes
  have hlk : meth.locks = false := Bd.notSynchronized
  have hml : c.maxLocals = 3 := hml0
  have hown : s.vm.findClass "com/example/majra/majra/lang/Command$Refusal" = some m.cls := findClass_of_methodNamed Bd.named
  have hnm := (name_of_methodNamed Bd.named Bd.method).1
  have X0 : Stand p l e rRrm7x s m #[(.ref a), (.ref o)] below meth c s₁ [] 0 0 := Stand.of_body Bd
  have e0 : s₁.heap = h0 := by rw [← hh, Bd.state]; rfl
  have N0 := Fr.nil n0
  show own_Goes p e below s (Q7x Z a o h0 n0) rRrm7x.cells rRrm7x.slots s₁ (entryFrame m #[(.ref a), (.ref o)] 3)
  rw [ef_rm7x m a o]
  show own_Goes p e below s (Q7x Z a o h0 n0) rRrm7x.cells rRrm7x.slots s₁ (mkF m 0 #[rv a, rv o, .unset] [])
  refine own_st (fun _ kk_ => XS.aloadN X0.here hx rfl (hb hby d7_0) rfl rfl kk_) ?_
  show own_Goes _ _ _ _ _ _ _ s₁ (mkF m 1 #[rv a, rv o, .unset] [(.ref o)])
  obtain ⟨T1, X1, e1, st1⟩ := instNo X0 hx hZ hown (own_w hw 49 rfl) e0 p_0 (own_nsn (own_w hw 56 rfl) (own_w hw 32 rfl) (NS.step (own_w hw 56 rfl) (own_nsr (own_w hw 57 rfl) (own_w hw 32 rfl) (by decide)) (by decide)) (by decide)) (g := (mkF m 1 #[rv a, rv o, .unset] [(.ref o)])) rfl rfl (hb hby d7_1)
  refine own_st st1 ?_
  show own_Goes _ _ _ _ _ _ _ T1 (mkF m 4 #[rv a, rv o, .unset] [(.int (0 : Int32))])
  refine own_st (fun _ kk_ => XS.ifYes X1.here hx rfl (pc0 := 4) (pc' := 52) rfl (hb hby d7_4) rfl (XT.i0_eq_t (by decide)) (by decide) (by decide) (XS.iconst X1.here hx rfl (hb hby d7_52) kk_)) ?_
  show own_Goes _ _ _ _ _ _ _ T1 (mkF m 53 #[rv a, rv o, .unset] [(.int (0 : Int32))])
  refine own_retN X1 hx hlk (t := .boolean) Bd.returns (by simp) (hb hby d7_53) (by decide) (by decide) ?_
  show Q7x Z a o h0 n0 (some (.int (nar .boolean (0 : Int32)))) T1.heap _
  rw [e1]
  exact ⟨rfl, N0, rfl⟩
theorem own_and3 {A B C A' B' C' : Prop} (h1 : A ↔ A') (h2 : B ↔ B') (h3 : C ↔ C') : (A ∧ B ∧ C) ↔ (A' ∧ B' ∧ C') := by rw [h1, h2, h3]
theorem own_sy {x y : Int32} : x = y ↔ y = x := ⟨Eq.symm, Eq.symm⟩
theorem pd_11 : parseMethodDescriptor "(II)I" = some ⟨[.int, .int], some .int⟩ := by decide +kernel
theorem pd_12 : parseMethodDescriptor "(ICC)Ljava/lang/String;" = some ⟨[.int, .char, .char], some (.object "java/lang/String")⟩ := by decide +kernel
theorem pd_13 : parseMethodDescriptor "(IILjava/lang/String;)V" = some ⟨[.int, .int, (.object "java/lang/String")], none⟩ := by decide +kernel
theorem pn_rm0 : plainFor x = true := by first | exact plainFor_of_name (by first | (simp [plainName, overriddenIn]; done) | decide +kernel) | decide +kernel
theorem ef_rm0 (m : MethodId) (p1 : Int32) (p2 : Int32) (p3 : Int32) (p4 : Int32) (p5 : Int64) (p6 : Int32) : entryFrame m #[(.int p1), (.int p2), (.int p3), (.int p4), (.long p5), (.int p6)] maxLocals = (mkF m 0 #[iv p1, iv p2, iv p3, iv p4, .val (.long p5), .second, iv p6, .unset, .unset, .unset, .unset, .unset, .unset, .unset, .unset, .unset, .unset, .unset, .unset, .unset, .unset, .unset, .unset] []) := by first | (simp [entryFrame, mkF, argsToLocals, Value.category, maxLocals]; done) | rfl
def Q0 (Z : State) (p1 : Int32) (p2 : Int32) (p3 : Int32) (p4 : Int32) (p5 : Int64) (p6 : Int32) (cs : Int32) (h0 : Heap) (n0 : Nat) (v_ : Option Value) (h_ : Heap) (L_ : List Loc) : Prop := (v_ = some (.int (1 : Int32))) ∧ (Fr n0 L_)
set_option maxRecDepth 65536 in
set_option maxHeartbeats 40000000 in
theorem rm0 (l : Launch) (Z : State) (a0 : Array Value) (hw : ∀ d ∈ tables_1, d.before a0 Z = true) (ws : List Jvm.Cond) (hEL : EW Z a0 consts_1) (p1 : Int32) (p2 : Int32) (p3 : Int32) (p4 : Int32) (p5 : Int64) (p6 : Int32) (cs : Int32) (h0 : Heap) (n0 : Nat) (Z0 : n0 ≤ h0.size) (p_0 : Sta Z h0 "java/lang/String" "COMPACT_STRINGS" "Z" (.int cs)) (hcs : ¬ cs = (0 : Int32)) :
    MetFree l x (head1 (Jvm.Cond.code x code maxLocals ret :: ws) room_1) (fun a_ U_ => a_ = #[(.int p1), (.int p2), (.int p3), (.int p4), (.long p5), (.int p6)] ∧ Z.Warmed39 U_.vm ∧ U_.heap = h0 ∧ CHv Z consts_1 U_.vm h0 ∧ ∀ x_ ∈ ([] : List Addr), Safe Z consts_1 U_.vm h0 x_) (fun _ _ _ _ _ => True) (fun _ U_ o_ U1_ => ∃ v_ L_, o_ = .returned v_ ∧ Q0 Z p1 p2 p3 p4 p5 p6 cs h0 n0 v_ U1_.heap L_ ∧ CHr Z consts_1 U_.vm U_.heap U1_.vm U1_.heap ∧ ReturnedEndW U_ o_ U1_ L_ 32 1152) := by
  refine MetFree.of_bodySF pn_rm0 hisR ?_
  intro p e s m args below meth c s₁ Bd hml0 hP hK
  obtain ⟨rfl, hZ, hh, hCH, hSf⟩ := hP
  have hx := Bd.exec
  have hby := Bd.bytes
  have hlk : meth.locks = false := Bd.notSynchronized
  have hml : c.maxLocals = 23 := hml0
  have hown : s.vm.findClass "com/example/majra/majra/lang/RefusalEqualsPinLaw" = some m.cls := findClass_of_methodNamed Bd.named
  have hnm := (name_of_methodNamed Bd.named Bd.method).1
  have X0 : Stand p l e room_1 (s.setVm s.vm) m #[(.int p1), (.int p2), (.int p3), (.int p4), (.long p5), (.int p6)] below meth c s₁ [] 0 0 := Stand.of_body Bd
  have e0 : s₁.heap = h0 := by rw [← hh, Bd.state]; rfl
  have N0 := Fr.nil n0
  have hS0 : s.Since s.vm n0 := (State.WarmedH.refl s).since n0
  have wS : ∀ d ∈ Bundle.stringAtoms, d.before a0 Z = true := by
    intro d hd
    simp only [Bundle.stringAtoms, List.mem_cons, List.not_mem_nil, or_false] at hd
    rcases hd with rfl | rfl | rfl | rfl | rfl | rfl | rfl
    · exact (own_w hw 11 rfl)
    · exact (own_w hw 10 rfl)
    · exact (own_w hw 24 rfl)
    · exact (own_w hw 25 rfl)
    · exact (own_w hw 26 rfl)
    · exact (own_w hw 27 rfl)
    · exact (own_w hw 28 rfl)
  have C0 := CHr.refl hCH
  show own_GoesH p e below s Z consts_1 (Q0 Z p1 p2 p3 p4 p5 p6 cs h0 n0) 32 1152 s₁ (entryFrame m #[(.int p1), (.int p2), (.int p3), (.int p4), (.long p5), (.int p6)] maxLocals)
  rw [ef_rm0 m p1 p2 p3 p4 p5 p6]
  show own_GoesH p e below s Z consts_1 (Q0 Z p1 p2 p3 p4 p5 p6 cs h0 n0) 32 1152 s₁ (mkF m 0 #[iv p1, iv p2, iv p3, iv p4, .val (.long p5), .second, iv p6, .unset, .unset, .unset, .unset, .unset, .unset, .unset, .unset, .unset, .unset, .unset, .unset, .unset, .unset, .unset, .unset] [])
  refine own_stH (fun _ kk_ => XS.iload X0.here hx rfl (hb hby at_0) rfl (XS.iconst X0.here hx rfl (hb hby at_2) (XS.iand X0.here hx rfl (hb hby at_3) rfl kk_))) ?_
  show own_GoesH _ _ _ _ _ _ _ _ _ s₁ (mkF m 4 #[iv p1, iv p2, iv p3, iv p4, .val (.long p5), .second, iv p6, .unset, .unset, .unset, .unset, .unset, .unset, .unset, .unset, .unset, .unset, .unset, .unset, .unset, .unset, .unset, .unset] [(.int (p6 &&& (1 : Int32)))])
  have J12 : ∀ (l2 : Int32), own_GoesH p e below s Z consts_1 (Q0 Z p1 p2 p3 p4 p5 p6 cs h0 n0) 32 1152 s₁ (mkF m 12 #[iv p1, iv p2, iv p3, iv p4, .val (.long p5), .second, iv p6, .unset, .unset, .unset, .unset, .unset, .unset, .unset, .unset, .unset, .unset, .unset, .unset, .unset, .unset, .unset, .unset] [(.int l2)]) := by
    intro l2
    show own_GoesH _ _ _ _ _ _ _ _ _ s₁ (mkF m 12 #[iv p1, iv p2, iv p3, iv p4, .val (.long p5), .second, iv p6, .unset, .unset, .unset, .unset, .unset, .unset, .unset, .unset, .unset, .unset, .unset, .unset, .unset, .unset, .unset, .unset] [(.int l2)])
    refine own_stH (fun _ kk_ => XS.istore X0.here hx rfl (hb hby at_12) rfl (l' := #[iv p1, iv p2, iv p3, iv p4, .val (.long p5), .second, iv p6, iv l2, .unset, .unset, .unset, .unset, .unset, .unset, .unset, .unset, .unset, .unset, .unset, .unset, .unset, .unset, .unset]) rfl (XS.iload X0.here hx rfl (hb hby at_14) rfl (XS.iconst X0.here hx rfl (hb hby at_16) (XS.iand X0.here hx rfl (hb hby at_17) rfl kk_)))) ?_
    show own_GoesH _ _ _ _ _ _ _ _ _ s₁ (mkF m 18 #[iv p1, iv p2, iv p3, iv p4, .val (.long p5), .second, iv p6, iv l2, .unset, .unset, .unset, .unset, .unset, .unset, .unset, .unset, .unset, .unset, .unset, .unset, .unset, .unset, .unset] [(.int (p6 &&& (2 : Int32)))])
    have J26 : ∀ (c2 : Int32), own_GoesH p e below s Z consts_1 (Q0 Z p1 p2 p3 p4 p5 p6 cs h0 n0) 32 1152 s₁ (mkF m 26 #[iv p1, iv p2, iv p3, iv p4, .val (.long p5), .second, iv p6, iv l2, .unset, .unset, .unset, .unset, .unset, .unset, .unset, .unset, .unset, .unset, .unset, .unset, .unset, .unset, .unset] [(.int c2)]) := by
      intro c2
      show own_GoesH _ _ _ _ _ _ _ _ _ s₁ (mkF m 26 #[iv p1, iv p2, iv p3, iv p4, .val (.long p5), .second, iv p6, iv l2, .unset, .unset, .unset, .unset, .unset, .unset, .unset, .unset, .unset, .unset, .unset, .unset, .unset, .unset, .unset] [(.int c2)])
      refine own_stH (fun _ kk_ => XS.istore X0.here hx rfl (hb hby at_26) rfl (l' := #[iv p1, iv p2, iv p3, iv p4, .val (.long p5), .second, iv p6, iv l2, iv c2, .unset, .unset, .unset, .unset, .unset, .unset, .unset, .unset, .unset, .unset, .unset, .unset, .unset, .unset]) rfl (XS.iload X0.here hx rfl (hb hby at_28) rfl (XS.iconst X0.here hx rfl (hb hby at_30) (XS.iushr X0.here hx rfl (hb hby at_31) rfl (XS.iconst X0.here hx rfl (hb hby at_32) (XS.iand X0.here hx rfl (hb hby at_33) rfl (XS.iconst X0.here hx rfl (hb hby at_34) kk_))))))) ?_
      show own_GoesH _ _ _ _ _ _ _ _ _ s₁ (mkF m 35 #[iv p1, iv p2, iv p3, iv p4, .val (.long p5), .second, iv p6, iv l2, iv c2, .unset, .unset, .unset, .unset, .unset, .unset, .unset, .unset, .unset, .unset, .unset, .unset, .unset, .unset] [(.int (2 : Int32)), (.int (((p6.toUInt32 >>> ((2 : Int32) &&& 31).toUInt32).toInt32) &&& (3 : Int32)))])
      obtain ⟨_, _, ⟨T1, L1, k1, n1⟩, -, X1, ⟨Lc1, hQ1, l1, y1, z1⟩, st1⟩ := Jvm.LawKit.callS X0 hx (y := yy0) hown (mvT hZ (own_w hw 0 rfl)) (mvT hZ (own_w hw 1 rfl)) (mvT hZ (own_w hw 2 rfl)) (mvT hZ (own_w hw 3 rfl)) (by decide) (backOf (W := 0) (rm1 l Z a0 hw [] ((((p6.toUInt32 >>> ((2 : Int32) &&& 31).toUInt32).toInt32) &&& (3 : Int32))) ((2 : Int32)) h0 n0 Z0) hZ (own_w hw 3 rfl) (own_w hw 2 rfl) (by decide) (by decide)) (g := (mkF m 35 #[iv p1, iv p2, iv p3, iv p4, .val (.long p5), .second, iv p6, iv l2, iv c2, .unset, .unset, .unset, .unset, .unset, .unset, .unset, .unset, .unset, .unset, .unset, .unset, .unset, .unset] [(.int (2 : Int32)), (.int (((p6.toUInt32 >>> ((2 : Int32) &&& 31).toUInt32).toInt32) &&& (3 : Int32)))])) rfl (by rw [hml]; rfl) (argsL := [(.int (((p6.toUInt32 >>> ((2 : Int32) &&& 31).toUInt32).toInt32) &&& (3 : Int32))), (.int (2 : Int32))]) (rest := []) (lenOf pd_11 rfl) rfl (by show 2 * 0 + _ ≤ _; exact Nat.le_of_eq rfl) (hb hby at_35) (fun _ _ => ⟨rfl, e0, (by decide : 0 + 0 ≤ _), (by decide : 0 + 0 ≤ _)⟩)
      dsimp only [Pt.U, Pt.locs, Pt.cells, Pt.slots] at X1 l1 y1 z1 st1 hQ1
      subst l1 y1 z1
      obtain ⟨rfl, Nq1, eq1⟩ := hQ1
      have N1 := Fr.app N0 Nq1
      refine own_stH st1 ?_
      show own_GoesH _ _ _ _ _ _ _ _ _ T1 (mkF m 38 #[iv p1, iv p2, iv p3, iv p4, .val (.long p5), .second, iv p6, iv l2, iv c2, .unset, .unset, .unset, .unset, .unset, .unset, .unset, .unset, .unset, .unset, .unset, .unset, .unset, .unset] [(.int (own_min (((p6.toUInt32 >>> ((2 : Int32) &&& 31).toUInt32).toInt32) &&& (3 : Int32)) (2 : Int32)))])
      refine own_stH (fun _ kk_ => XS.istore X1.here hx rfl (hb hby at_38) rfl (l' := #[iv p1, iv p2, iv p3, iv p4, .val (.long p5), .second, iv p6, iv l2, iv c2, iv (own_min (((p6.toUInt32 >>> ((2 : Int32) &&& 31).toUInt32).toInt32) &&& (3 : Int32)) (2 : Int32)), .unset, .unset, .unset, .unset, .unset, .unset, .unset, .unset, .unset, .unset, .unset, .unset, .unset]) rfl kk_) ?_
      show own_GoesH _ _ _ _ _ _ _ _ _ T1 (mkF m 40 #[iv p1, iv p2, iv p3, iv p4, .val (.long p5), .second, iv p6, iv l2, iv c2, iv (own_min (((p6.toUInt32 >>> ((2 : Int32) &&& 31).toUInt32).toInt32) &&& (3 : Int32)) (2 : Int32)), .unset, .unset, .unset, .unset, .unset, .unset, .unset, .unset, .unset, .unset, .unset, .unset, .unset] [])
      have hn1 := own_len ((p6.toUInt32 >>> ((2 : Int32) &&& 31).toUInt32).toInt32)
      obtain ⟨n1, h_n1⟩ : ∃ z, z = (own_min (((p6.toUInt32 >>> ((2 : Int32) &&& 31).toUInt32).toInt32) &&& (3 : Int32)) (2 : Int32)) := ⟨_, rfl⟩
      rw [← h_n1]
      show own_GoesH _ _ _ _ _ _ _ _ _ T1 (mkF m 40 #[iv p1, iv p2, iv p3, iv p4, .val (.long p5), .second, iv p6, iv l2, iv c2, iv n1, .unset, .unset, .unset, .unset, .unset, .unset, .unset, .unset, .unset, .unset, .unset, .unset, .unset] [])
      rw [← h_n1] at hn1
      refine own_stH (fun _ kk_ => XS.iload X1.here hx rfl (hb hby at_40) rfl (XS.bipush X1.here hx rfl (hb hby at_42) (XS.iand X1.here hx rfl (hb hby at_44) rfl kk_))) ?_
      show own_GoesH _ _ _ _ _ _ _ _ _ T1 (mkF m 45 #[iv p1, iv p2, iv p3, iv p4, .val (.long p5), .second, iv p6, iv l2, iv c2, iv n1, .unset, .unset, .unset, .unset, .unset, .unset, .unset, .unset, .unset, .unset, .unset, .unset, .unset] [(.int (p6 &&& (16 : Int32)))])
      have J63 : ∀ (T2 : State) (L2 : List Loc) (h2 : Heap) (vm2 : Vm) (k2 : Nat) (n2 : Int32), Stand p l e room_1 (s.setVm vm2) m #[(.int p1), (.int p2), (.int p3), (.int p4), (.long p5), (.int p6)] below meth c T2 L2 0 0 → T2.heap = h2 → Fr n0 L2 → n0 ≤ h2.size → s.Since vm2 k2 → k2 ≤ h2.size → Z.Warmed39 (s.setVm vm2).vm → (s.setVm vm2).vm.findClass "com/example/majra/majra/lang/RefusalEqualsPinLaw" = some m.cls → CHr Z consts_1 s.vm h0 vm2 h2 → Sta Z h2 "java/lang/String" "COMPACT_STRINGS" "Z" (.int cs) → n2 = 0 ∨ n2 = 1 ∨ n2 = 2 → own_GoesH p e below s Z consts_1 (Q0 Z p1 p2 p3 p4 p5 p6 cs h0 n0) 32 1152 T2 (mkF m 63 #[iv p1, iv p2, iv p3, iv p4, .val (.long p5), .second, iv p6, iv l2, iv c2, iv n1, .unset, .unset, .unset, .unset, .unset, .unset, .unset, .unset, .unset, .unset, .unset, .unset, .unset] [(.int n2)]) := by
        intro T2 L2 h2 vm2 k2 n2 X2 e2 N2 Zs2 hS2 Ks2 hZ hown C2 j2_0 j2_1
        show own_GoesH _ _ _ _ _ _ _ _ _ T2 (mkF m 63 #[iv p1, iv p2, iv p3, iv p4, .val (.long p5), .second, iv p6, iv l2, iv c2, iv n1, .unset, .unset, .unset, .unset, .unset, .unset, .unset, .unset, .unset, .unset, .unset, .unset, .unset] [(.int n2)])
        refine own_stH (fun _ kk_ => XS.istore X2.here hx rfl (hb hby at_63) rfl (l' := #[iv p1, iv p2, iv p3, iv p4, .val (.long p5), .second, iv p6, iv l2, iv c2, iv n1, iv n2, .unset, .unset, .unset, .unset, .unset, .unset, .unset, .unset, .unset, .unset, .unset, .unset]) rfl (XS.lload X2.here hx rfl (hb hby at_65) rfl (X2.ldc2Long hx hown (mvT hZ (own_w hw 4 rfl)) (g := (mkF m 67 #[iv p1, iv p2, iv p3, iv p4, .val (.long p5), .second, iv p6, iv l2, iv c2, iv n1, iv n2, .unset, .unset, .unset, .unset, .unset, .unset, .unset, .unset, .unset, .unset, .unset, .unset] [(.long p5)])) rfl (hb hby at_67) _ (XS.land X2.here hx rfl (hb hby at_70) rfl (XS.l2i X2.here hx rfl (hb hby at_71) rfl (XS.i2c X2.here hx rfl (hb hby at_72) rfl (XS.istore X2.here hx rfl (hb hby at_73) rfl (l' := #[iv p1, iv p2, iv p3, iv p4, .val (.long p5), .second, iv p6, iv l2, iv c2, iv n1, iv n2, iv (((p5 &&& (255 : Int64)).toInt32).toUInt32.toUInt16.toUInt32.toInt32), .unset, .unset, .unset, .unset, .unset, .unset, .unset, .unset, .unset, .unset, .unset]) rfl kk_))))))) ?_
        show own_GoesH _ _ _ _ _ _ _ _ _ T2 (mkF m 75 #[iv p1, iv p2, iv p3, iv p4, .val (.long p5), .second, iv p6, iv l2, iv c2, iv n1, iv n2, iv (((p5 &&& (255 : Int64)).toInt32).toUInt32.toUInt16.toUInt32.toInt32), .unset, .unset, .unset, .unset, .unset, .unset, .unset, .unset, .unset, .unset, .unset] [])
        have hi_a1 := own_inc p5
        obtain ⟨a1, h_a1⟩ : ∃ z, z = (((p5 &&& (255 : Int64)).toInt32).toUInt32.toUInt16.toUInt32.toInt32) := ⟨_, rfl⟩
        rw [← h_a1]
        show own_GoesH _ _ _ _ _ _ _ _ _ T2 (mkF m 75 #[iv p1, iv p2, iv p3, iv p4, .val (.long p5), .second, iv p6, iv l2, iv c2, iv n1, iv n2, iv a1, .unset, .unset, .unset, .unset, .unset, .unset, .unset, .unset, .unset, .unset, .unset] [])
        rw [← h_a1] at hi_a1
        refine own_stH (fun _ kk_ => XS.lload X2.here hx rfl (hb hby at_75) rfl (XS.bipush X2.here hx rfl (hb hby at_77) (XS.lushr X2.here hx rfl (hb hby at_79) rfl (X2.ldc2Long hx hown (mvT hZ (own_w hw 4 rfl)) (g := (mkF m 80 #[iv p1, iv p2, iv p3, iv p4, .val (.long p5), .second, iv p6, iv l2, iv c2, iv n1, iv n2, iv a1, .unset, .unset, .unset, .unset, .unset, .unset, .unset, .unset, .unset, .unset, .unset] [(.long ((p5.toUInt64 >>> ((8 : Int32) &&& 0x3f).toInt64.toUInt64).toInt64))])) rfl (hb hby at_80) _ (XS.land X2.here hx rfl (hb hby at_83) rfl (XS.l2i X2.here hx rfl (hb hby at_84) rfl (XS.i2c X2.here hx rfl (hb hby at_85) rfl (XS.istore X2.here hx rfl (hb hby at_86) rfl (l' := #[iv p1, iv p2, iv p3, iv p4, .val (.long p5), .second, iv p6, iv l2, iv c2, iv n1, iv n2, iv a1, iv (((((p5.toUInt64 >>> ((8 : Int32) &&& 0x3f).toInt64.toUInt64).toInt64) &&& (255 : Int64)).toInt32).toUInt32.toUInt16.toUInt32.toInt32), .unset, .unset, .unset, .unset, .unset, .unset, .unset, .unset, .unset, .unset]) rfl kk_)))))))) ?_
        show own_GoesH _ _ _ _ _ _ _ _ _ T2 (mkF m 88 #[iv p1, iv p2, iv p3, iv p4, .val (.long p5), .second, iv p6, iv l2, iv c2, iv n1, iv n2, iv a1, iv (((((p5.toUInt64 >>> ((8 : Int32) &&& 0x3f).toInt64.toUInt64).toInt64) &&& (255 : Int64)).toInt32).toUInt32.toUInt16.toUInt32.toInt32), .unset, .unset, .unset, .unset, .unset, .unset, .unset, .unset, .unset, .unset] [])
        have hi_b1 := own_inc ((p5.toUInt64 >>> ((8 : Int32) &&& 0x3f).toInt64.toUInt64).toInt64)
        obtain ⟨b1, h_b1⟩ : ∃ z, z = (((((p5.toUInt64 >>> ((8 : Int32) &&& 0x3f).toInt64.toUInt64).toInt64) &&& (255 : Int64)).toInt32).toUInt32.toUInt16.toUInt32.toInt32) := ⟨_, rfl⟩
        rw [← h_b1]
        show own_GoesH _ _ _ _ _ _ _ _ _ T2 (mkF m 88 #[iv p1, iv p2, iv p3, iv p4, .val (.long p5), .second, iv p6, iv l2, iv c2, iv n1, iv n2, iv a1, iv b1, .unset, .unset, .unset, .unset, .unset, .unset, .unset, .unset, .unset, .unset] [])
        rw [← h_b1] at hi_b1
        refine own_stH (fun _ kk_ => XS.iload X2.here hx rfl (hb hby at_88) rfl (XS.sipush X2.here hx rfl (hb hby at_90) (XS.iand X2.here hx rfl (hb hby at_93) rfl kk_))) ?_
        show own_GoesH _ _ _ _ _ _ _ _ _ T2 (mkF m 94 #[iv p1, iv p2, iv p3, iv p4, .val (.long p5), .second, iv p6, iv l2, iv c2, iv n1, iv n2, iv a1, iv b1, .unset, .unset, .unset, .unset, .unset, .unset, .unset, .unset, .unset, .unset] [(.int (p6 &&& (128 : Int32)))])
        have J102 : ∀ (sc : Int32), own_GoesH p e below s Z consts_1 (Q0 Z p1 p2 p3 p4 p5 p6 cs h0 n0) 32 1152 T2 (mkF m 102 #[iv p1, iv p2, iv p3, iv p4, .val (.long p5), .second, iv p6, iv l2, iv c2, iv n1, iv n2, iv a1, iv b1, .unset, .unset, .unset, .unset, .unset, .unset, .unset, .unset, .unset, .unset] [(.int sc)]) := by
          intro sc
          show own_GoesH _ _ _ _ _ _ _ _ _ T2 (mkF m 102 #[iv p1, iv p2, iv p3, iv p4, .val (.long p5), .second, iv p6, iv l2, iv c2, iv n1, iv n2, iv a1, iv b1, .unset, .unset, .unset, .unset, .unset, .unset, .unset, .unset, .unset, .unset] [(.int sc)])
          refine own_stH (fun _ kk_ => XS.istore X2.here hx rfl (hb hby at_102) rfl (l' := #[iv p1, iv p2, iv p3, iv p4, .val (.long p5), .second, iv p6, iv l2, iv c2, iv n1, iv n2, iv a1, iv b1, iv sc, .unset, .unset, .unset, .unset, .unset, .unset, .unset, .unset, .unset]) rfl (XS.iload X2.here hx rfl (hb hby at_104) rfl kk_)) ?_
          show own_GoesH _ _ _ _ _ _ _ _ _ T2 (mkF m 106 #[iv p1, iv p2, iv p3, iv p4, .val (.long p5), .second, iv p6, iv l2, iv c2, iv n1, iv n2, iv a1, iv b1, iv sc, .unset, .unset, .unset, .unset, .unset, .unset, .unset, .unset, .unset] [(.int sc)])
          have J125 : ∀ (a2 : Int32), (own_in a2) → own_GoesH p e below s Z consts_1 (Q0 Z p1 p2 p3 p4 p5 p6 cs h0 n0) 32 1152 T2 (mkF m 125 #[iv p1, iv p2, iv p3, iv p4, .val (.long p5), .second, iv p6, iv l2, iv c2, iv n1, iv n2, iv a1, iv b1, iv sc, .unset, .unset, .unset, .unset, .unset, .unset, .unset, .unset, .unset] [(.int a2)]) := by
            intro a2 hi_a2
            show own_GoesH _ _ _ _ _ _ _ _ _ T2 (mkF m 125 #[iv p1, iv p2, iv p3, iv p4, .val (.long p5), .second, iv p6, iv l2, iv c2, iv n1, iv n2, iv a1, iv b1, iv sc, .unset, .unset, .unset, .unset, .unset, .unset, .unset, .unset, .unset] [(.int a2)])
            refine own_stH (fun _ kk_ => XS.istore X2.here hx rfl (hb hby at_125) rfl (l' := #[iv p1, iv p2, iv p3, iv p4, .val (.long p5), .second, iv p6, iv l2, iv c2, iv n1, iv n2, iv a1, iv b1, iv sc, iv a2, .unset, .unset, .unset, .unset, .unset, .unset, .unset, .unset]) rfl (XS.iload X2.here hx rfl (hb hby at_127) rfl kk_)) ?_
            show own_GoesH _ _ _ _ _ _ _ _ _ T2 (mkF m 129 #[iv p1, iv p2, iv p3, iv p4, .val (.long p5), .second, iv p6, iv l2, iv c2, iv n1, iv n2, iv a1, iv b1, iv sc, iv a2, .unset, .unset, .unset, .unset, .unset, .unset, .unset, .unset] [(.int sc)])
            have J148 : ∀ (b2 : Int32), (own_in b2) → own_GoesH p e below s Z consts_1 (Q0 Z p1 p2 p3 p4 p5 p6 cs h0 n0) 32 1152 T2 (mkF m 148 #[iv p1, iv p2, iv p3, iv p4, .val (.long p5), .second, iv p6, iv l2, iv c2, iv n1, iv n2, iv a1, iv b1, iv sc, iv a2, .unset, .unset, .unset, .unset, .unset, .unset, .unset, .unset] [(.int b2)]) := by
              intro b2 hi_b2
              show own_GoesH _ _ _ _ _ _ _ _ _ T2 (mkF m 148 #[iv p1, iv p2, iv p3, iv p4, .val (.long p5), .second, iv p6, iv l2, iv c2, iv n1, iv n2, iv a1, iv b1, iv sc, iv a2, .unset, .unset, .unset, .unset, .unset, .unset, .unset, .unset] [(.int b2)])
              refine own_stH (fun _ kk_ => XS.istore X2.here hx rfl (hb hby at_148) rfl (l' := #[iv p1, iv p2, iv p3, iv p4, .val (.long p5), .second, iv p6, iv l2, iv c2, iv n1, iv n2, iv a1, iv b1, iv sc, iv a2, iv b2, .unset, .unset, .unset, .unset, .unset, .unset, .unset]) rfl (XS.iload X2.here hx rfl (hb hby at_150) rfl (XS.iload X2.here hx rfl (hb hby at_152) rfl (XS.iload X2.here hx rfl (hb hby at_154) rfl kk_)))) ?_
              show own_GoesH _ _ _ _ _ _ _ _ _ T2 (mkF m 156 #[iv p1, iv p2, iv p3, iv p4, .val (.long p5), .second, iv p6, iv l2, iv c2, iv n1, iv n2, iv a1, iv b1, iv sc, iv a2, iv b2, .unset, .unset, .unset, .unset, .unset, .unset, .unset] [(.int b1), (.int a1), (.int n1)])
              rcases hn1 with rfl | rfl | rfl
              · show own_GoesH _ _ _ _ _ _ _ _ _ T2 (mkF m 156 #[iv p1, iv p2, iv p3, iv p4, .val (.long p5), .second, iv p6, iv l2, iv c2, iv (0 : Int32), iv n2, iv a1, iv b1, iv sc, iv a2, iv b2, .unset, .unset, .unset, .unset, .unset, .unset, .unset] [(.int b1), (.int a1), (.int (0 : Int32))])
                obtain ⟨_, _, ⟨T4, L4, k4, n4⟩, -, X4, hSn4, hgn4, ⟨Lc4, hQ4, l4, y4, z4, hC4⟩, st4⟩ := callSS X2 hx (y := yy10) hown (mvT hZ (own_w hw 5 rfl)) (mvT hZ (own_w hw 6 rfl)) (mvT hZ (own_w hw 7 rfl)) (mvT hZ (own_w hw 8 rfl)) (by decide) (own_backH (sl := []) (W := 0) (rm2_0 l Z a0 hw [] hEL (a1) (b1) (cs) h2 n0 Zs2 j2_0 (by assumption)) hZ (own_w hw 8 rfl) (own_w hw 7 rfl) (by decide) (by decide) hEL C2.1 own_sn) (g := (mkF m 156 #[iv p1, iv p2, iv p3, iv p4, .val (.long p5), .second, iv p6, iv l2, iv c2, iv (0 : Int32), iv n2, iv a1, iv b1, iv sc, iv a2, iv b2, .unset, .unset, .unset, .unset, .unset, .unset, .unset] [(.int b1), (.int a1), (.int (0 : Int32))])) rfl (by rw [hml]; rfl) (argsL := [(.int (0 : Int32)), (.int a1), (.int b1)]) (rest := []) (lenOf pd_12 rfl) rfl (by show 2 * 0 + _ ≤ _; exact Nat.le_of_eq rfl) (hb hby at_156) (fun _ _ => ⟨rfl, e2, (by decide : 0 + 6 ≤ _), (by decide : 0 + 12 ≤ _)⟩)
                dsimp only [Pt.U, Pt.locs, Pt.cells, Pt.slots] at X4 l4 y4 z4 st4 hQ4 hSn4 hgn4 hC4
                subst l4 y4 z4
                have X4 : Stand p l e room_1 (s.setVm T4.vm) m _ below meth c T4 _ _ _ := X4
                have hS4 := foldS hS2 (by rw [e2]; exact Ks2) hSn4 hgn4
                have hown : (s.setVm T4.vm).vm.findClass "com/example/majra/majra/lang/RefusalEqualsPinLaw" = some m.cls := by rw [show (s.setVm T4.vm).vm = T4.vm from rfl, hSn4.1.alike.findClass]; exact hown
                obtain ⟨x4_y, x4_d, x4_kd, rfl, Nq4, Kq4, u4_0, u4_1, u4_2, u4_3, u4_4⟩ := hQ4
                have N4 := Fr.app N2 Nq4
                have hZ : Z.Warmed39 (s.setVm T4.vm).vm := State.Warmed39.trans (t := (s.setVm vm2)) hZ hSn4.1
                have f4_0 := own_Sta_keep j2_0 Kq4 ns0
                have C4 := C2.trans hC4
                have Ks4 := Nat.le_trans Ks2 Kq4.1
                have Zs4 : n0 ≤ T4.heap.size := Nat.le_trans Zs2 Kq4.1
                have gg4_y : n0 ≤ x4_y := Nat.le_trans Zs2 u4_0
                refine own_stH (fun _ kk_ => st4.trans kk_) ?_
                show own_GoesH _ _ _ _ _ _ _ _ _ T4 (mkF m 159 #[iv p1, iv p2, iv p3, iv p4, .val (.long p5), .second, iv p6, iv l2, iv c2, iv (0 : Int32), iv n2, iv a1, iv b1, iv sc, iv a2, iv b2, .unset, .unset, .unset, .unset, .unset, .unset, .unset] [(.ref x4_y)])
                refine own_stH (fun _ kk_ => XS.astore X4.here hx rfl (hb hby at_159) rfl rfl (l' := #[iv p1, iv p2, iv p3, iv p4, .val (.long p5), .second, iv p6, iv l2, iv c2, iv (0 : Int32), iv n2, iv a1, iv b1, iv sc, iv a2, iv b2, rv x4_y, .unset, .unset, .unset, .unset, .unset, .unset]) rfl (XS.iload X4.here hx rfl (hb hby at_161) rfl (XS.iload X4.here hx rfl (hb hby at_163) rfl (XS.iload X4.here hx rfl (hb hby at_165) rfl kk_)))) ?_
                show own_GoesH _ _ _ _ _ _ _ _ _ T4 (mkF m 167 #[iv p1, iv p2, iv p3, iv p4, .val (.long p5), .second, iv p6, iv l2, iv c2, iv (0 : Int32), iv n2, iv a1, iv b1, iv sc, iv a2, iv b2, rv x4_y, .unset, .unset, .unset, .unset, .unset, .unset] [(.int b2), (.int a2), (.int n2)])
                rcases j2_1 with rfl | rfl | rfl
                · show own_GoesH _ _ _ _ _ _ _ _ _ T4 (mkF m 167 #[iv p1, iv p2, iv p3, iv p4, .val (.long p5), .second, iv p6, iv l2, iv c2, iv (0 : Int32), iv (0 : Int32), iv a1, iv b1, iv sc, iv a2, iv b2, rv x4_y, .unset, .unset, .unset, .unset, .unset, .unset] [(.int b2), (.int a2), (.int (0 : Int32))])
                  obtain ⟨_, _, ⟨T5, L5, k5, n5⟩, -, X5, hSn5, hgn5, ⟨Lc5, hQ5, l5, y5, z5, hC5⟩, st5⟩ := callSS X4 hx (y := yy10) hown (mvT hZ (own_w hw 5 rfl)) (mvT hZ (own_w hw 6 rfl)) (mvT hZ (own_w hw 7 rfl)) (mvT hZ (own_w hw 8 rfl)) (by decide) (own_backH (sl := []) (W := 0) (rm2_0 l Z a0 hw [] hEL (a2) (b2) (cs) T4.heap n0 Zs4 f4_0 (by assumption)) hZ (own_w hw 8 rfl) (own_w hw 7 rfl) (by decide) (by decide) hEL C4.1 own_sn) (g := (mkF m 167 #[iv p1, iv p2, iv p3, iv p4, .val (.long p5), .second, iv p6, iv l2, iv c2, iv (0 : Int32), iv (0 : Int32), iv a1, iv b1, iv sc, iv a2, iv b2, rv x4_y, .unset, .unset, .unset, .unset, .unset, .unset] [(.int b2), (.int a2), (.int (0 : Int32))])) rfl (by rw [hml]; rfl) (argsL := [(.int (0 : Int32)), (.int a2), (.int b2)]) (rest := []) (lenOf pd_12 rfl) rfl (by show 2 * 0 + _ ≤ _; exact Nat.le_of_eq rfl) (hb hby at_167) (fun _ _ => ⟨rfl, rfl, (by decide : 6 + 6 ≤ _), (by decide : 12 + 12 ≤ _)⟩)
                  dsimp only [Pt.U, Pt.locs, Pt.cells, Pt.slots] at X5 l5 y5 z5 st5 hQ5 hSn5 hgn5 hC5
                  subst l5 y5 z5
                  have X5 : Stand p l e room_1 (s.setVm T5.vm) m _ below meth c T5 _ _ _ := X5
                  have hS5 := foldS hS4 (Nat.le_refl T4.heap.size) hSn5 hgn5
                  have hown : (s.setVm T5.vm).vm.findClass "com/example/majra/majra/lang/RefusalEqualsPinLaw" = some m.cls := by rw [show (s.setVm T5.vm).vm = T5.vm from rfl, hSn5.1.alike.findClass]; exact hown
                  obtain ⟨x5_y, x5_d, x5_kd, rfl, Nq5, Kq5, u5_0, u5_1, u5_2, u5_3, u5_4⟩ := hQ5
                  have N5 := Fr.app N4 Nq5
                  have hZ : Z.Warmed39 (s.setVm T5.vm).vm := State.Warmed39.trans (t := (s.setVm T4.vm)) hZ hSn5.1
                  have f5_0 := own_Sta_keep f4_0 Kq5 ns0
                  have f5_1 := u4_1.keep Kq5
                  have f5_2 := u4_2.keep Kq5 nin0
                  have f5_3 := u4_3.keep Kq5 nin0
                  have f5_4 := u4_4.keep Kq5 nin0
                  have C5 := C4.trans hC5
                  have Ks5 := Nat.le_trans (Nat.le_refl T4.heap.size) Kq5.1
                  have Zs5 : n0 ≤ T5.heap.size := Nat.le_trans Zs4 Kq5.1
                  have ne5_x4_y : x4_y ≠ x5_y := Nat.ne_of_lt (Nat.lt_of_lt_of_le u4_1.lt u5_0)
                  have ne5_x4_d : x4_d ≠ x5_y := Nat.ne_of_lt (Nat.lt_of_lt_of_le u4_4.lt u5_0)
                  have gg5_y : n0 ≤ x5_y := Nat.le_trans Zs4 u5_0
                  refine own_stH (fun _ kk_ => st5.trans kk_) ?_
                  show own_GoesH _ _ _ _ _ _ _ _ _ T5 (mkF m 170 #[iv p1, iv p2, iv p3, iv p4, .val (.long p5), .second, iv p6, iv l2, iv c2, iv (0 : Int32), iv (0 : Int32), iv a1, iv b1, iv sc, iv a2, iv b2, rv x4_y, .unset, .unset, .unset, .unset, .unset, .unset] [(.ref x5_y)])
                  refine own_stH (fun _ kk_ => XS.astore X5.here hx rfl (hb hby at_170) rfl rfl (l' := #[iv p1, iv p2, iv p3, iv p4, .val (.long p5), .second, iv p6, iv l2, iv c2, iv (0 : Int32), iv (0 : Int32), iv a1, iv b1, iv sc, iv a2, iv b2, rv x4_y, rv x5_y, .unset, .unset, .unset, .unset, .unset]) rfl kk_) ?_
                  show own_GoesH _ _ _ _ _ _ _ _ _ T5 (mkF m 172 #[iv p1, iv p2, iv p3, iv p4, .val (.long p5), .second, iv p6, iv l2, iv c2, iv (0 : Int32), iv (0 : Int32), iv a1, iv b1, iv sc, iv a2, iv b2, rv x4_y, rv x5_y, .unset, .unset, .unset, .unset, .unset] [])
                  obtain ⟨T6, h6, X6, e6, E6, A6, D6, -, st6⟩ := newO X5 hx hZ hown (own_w hw 31 rfl) (own_w hw 32 rfl) (own_w hw 33 rfl) rfl (g := (mkF m 172 #[iv p1, iv p2, iv p3, iv p4, .val (.long p5), .second, iv p6, iv l2, iv c2, iv (0 : Int32), iv (0 : Int32), iv a1, iv b1, iv sc, iv a2, iv b2, rv x4_y, rv x5_y, .unset, .unset, .unset, .unset, .unset] [])) rfl (hb hby at_172) (by decide) (by decide)
                  obtain ⟨b6, gx6⟩ : ∃ z, z = T5.heap.size := ⟨_, rfl⟩
                  rw [← gx6] at A6 D6 st6
                  have ne6_x4_y : x4_y ≠ b6 := Nat.ne_of_lt (Nat.lt_of_lt_of_eq f5_1.lt gx6.symm)
                  have ne6_x4_d : x4_d ≠ b6 := Nat.ne_of_lt (Nat.lt_of_lt_of_eq f5_4.lt gx6.symm)
                  have ne6_x5_y : x5_y ≠ b6 := Nat.ne_of_lt (Nat.lt_of_lt_of_eq u5_1.lt gx6.symm)
                  have ne6_x5_d : x5_d ≠ b6 := Nat.ne_of_lt (Nat.lt_of_lt_of_eq u5_4.lt gx6.symm)
                  have gg6 : n0 ≤ b6 := Nat.le_trans Zs5 (Nat.le_of_eq gx6.symm)
                  have f6_0 := f5_0.ext E6
                  have f6_1 := f5_1.ext E6
                  have f6_2 := f5_2.ext E6
                  have f6_3 := f5_3.ext E6
                  have f6_4 := f5_4.ext E6
                  have f6_5 := u5_1.ext E6
                  have f6_6 := u5_2.ext E6
                  have f6_7 := u5_3.ext E6
                  have f6_8 := u5_4.ext E6
                  have C6 := C5.trans (CHr.ext E6 C5.1)
                  have Zs6 : n0 ≤ h6.size := Nat.le_trans Zs5 E6.1
                  have Ks6 := Nat.le_trans (Nat.le_refl T5.heap.size) E6.1
                  have fn6_line : Fld Z h6 b6 "com/example/majra/majra/lang/Command$Refusal" "line" "I" (.int (0 : Int32)) := D6 (Or.inr (own_w hw 39 rfl)) (ty := .int) (by decide)
                  have fn6_column : Fld Z h6 b6 "com/example/majra/majra/lang/Command$Refusal" "column" "I" (.int (0 : Int32)) := D6 (Or.inr (own_w hw 41 rfl)) (ty := .int) (by decide)
                  have fn6_message : Fld Z h6 b6 "com/example/majra/majra/lang/Command$Refusal" "message" "Ljava/lang/String;" .null := D6 (Or.inr (own_w hw 43 rfl)) (ty := (.object "java/lang/String")) (by decide)
                  refine own_stH st6 ?_
                  show own_GoesH _ _ _ _ _ _ _ _ _ T6 (mkF m 175 #[iv p1, iv p2, iv p3, iv p4, .val (.long p5), .second, iv p6, iv l2, iv c2, iv (0 : Int32), iv (0 : Int32), iv a1, iv b1, iv sc, iv a2, iv b2, rv x4_y, rv x5_y, .unset, .unset, .unset, .unset, .unset] [(.ref b6)])
                  refine own_stH (fun _ kk_ => XS.dup X6.here hx rfl (hb hby at_175) rfl rfl (XS.iloadN X6.here hx rfl (hb hby at_176) rfl (XS.iloadN X6.here hx rfl (hb hby at_177) rfl (XS.aload X6.here hx rfl (hb hby at_178) rfl rfl kk_)))) ?_
                  show own_GoesH _ _ _ _ _ _ _ _ _ T6 (mkF m 180 #[iv p1, iv p2, iv p3, iv p4, .val (.long p5), .second, iv p6, iv l2, iv c2, iv (0 : Int32), iv (0 : Int32), iv a1, iv b1, iv sc, iv a2, iv b2, rv x4_y, rv x5_y, .unset, .unset, .unset, .unset, .unset] [(.ref x4_y), (.int p2), (.int p1), (.ref b6), (.ref b6)])
                  obtain ⟨_, _, ⟨T7, L7, k7, n7⟩, -, X7, ⟨Lc7, hQ7, l7, y7, z7⟩, st7⟩ := X6.specialBack hx (y := yy11) rfl hown (mvT hZ (own_w hw 34 rfl)) (mvT hZ (own_w hw 35 rfl)) (mvT hZ (own_w hw 36 rfl)) (by decide) (backOf (W := 1) (rm6 l Z a0 hw [] (b6) (p1) (p2) (x4_y) h6 n0 Zs6 A6 fn6_line fn6_column fn6_message gg6) hZ (own_w hw 36 rfl) (own_w hw 33 rfl) (by decide) (by decide)) (g := (mkF m 180 #[iv p1, iv p2, iv p3, iv p4, .val (.long p5), .second, iv p6, iv l2, iv c2, iv (0 : Int32), iv (0 : Int32), iv a1, iv b1, iv sc, iv a2, iv b2, rv x4_y, rv x5_y, .unset, .unset, .unset, .unset, .unset] [(.ref x4_y), (.int p2), (.int p1), (.ref b6), (.ref b6)])) rfl (by rw [hml]; rfl) (Steps.refl _) (a := b6) (argsL := [(.int p1), (.int p2), (.ref x4_y)]) (rest := [(.ref b6)]) (lenOf pd_13 rfl) rfl (by show 2 * 0 + _ ≤ _; exact Nat.le_of_eq rfl) (hb hby at_180) (fun _ _ => ⟨rfl, e6, (by decide : 13 + 0 ≤ _), (by decide : 27 + 0 ≤ _)⟩)
                  dsimp only [Pt.U, Pt.locs, Pt.cells, Pt.slots] at X7 l7 y7 z7 st7 hQ7
                  subst l7 y7 z7
                  obtain ⟨rfl, Nq7, Kq7, u7_0, u7_1, u7_2⟩ := hQ7
                  have N7 := Fr.app N5 Nq7
                  have f7_0 := own_Sta_keep f6_0 Kq7 (nsS A6.nostat ns0)
                  have f7_1 := f6_1.keep Kq7
                  have f7_2 := f6_2.keep Kq7 (ninS ne6_x4_y nin0)
                  have f7_3 := f6_3.keep Kq7 (ninS ne6_x4_y nin0)
                  have f7_4 := f6_4.keep Kq7 (ninS ne6_x4_d nin0)
                  have f7_5 := f6_5.keep Kq7
                  have f7_6 := f6_6.keep Kq7 (ninS ne6_x5_y nin0)
                  have f7_7 := f6_7.keep Kq7 (ninS ne6_x5_y nin0)
                  have f7_8 := f6_8.keep Kq7 (ninS ne6_x5_d nin0)
                  have f7_9 := A6.keep Kq7
                  have C7 := C6.trans (CHr.keep Kq7 (sfS (Safe.exa hZ.alike A6 (by decide) (by decide)) sf0) C6.1)
                  have Ks7 := Nat.le_trans Ks6 Kq7.1
                  have Zs7 : n0 ≤ T7.heap.size := Nat.le_trans Zs6 Kq7.1
                  refine own_stH (fun _ kk_ => st7.trans kk_) ?_
                  show own_GoesH _ _ _ _ _ _ _ _ _ T7 (mkF m 183 #[iv p1, iv p2, iv p3, iv p4, .val (.long p5), .second, iv p6, iv l2, iv c2, iv (0 : Int32), iv (0 : Int32), iv a1, iv b1, iv sc, iv a2, iv b2, rv x4_y, rv x5_y, .unset, .unset, .unset, .unset, .unset] [(.ref b6)])
                  refine own_stH (fun _ kk_ => XS.astore X7.here hx rfl (hb hby at_183) rfl rfl (l' := #[iv p1, iv p2, iv p3, iv p4, .val (.long p5), .second, iv p6, iv l2, iv c2, iv (0 : Int32), iv (0 : Int32), iv a1, iv b1, iv sc, iv a2, iv b2, rv x4_y, rv x5_y, rv b6, .unset, .unset, .unset, .unset]) rfl kk_) ?_
                  show own_GoesH _ _ _ _ _ _ _ _ _ T7 (mkF m 185 #[iv p1, iv p2, iv p3, iv p4, .val (.long p5), .second, iv p6, iv l2, iv c2, iv (0 : Int32), iv (0 : Int32), iv a1, iv b1, iv sc, iv a2, iv b2, rv x4_y, rv x5_y, rv b6, .unset, .unset, .unset, .unset] [])
                  obtain ⟨T8, h8, X8, e8, E8, A8, D8, -, st8⟩ := newO X7 hx hZ hown (own_w hw 31 rfl) (own_w hw 32 rfl) (own_w hw 33 rfl) rfl (g := (mkF m 185 #[iv p1, iv p2, iv p3, iv p4, .val (.long p5), .second, iv p6, iv l2, iv c2, iv (0 : Int32), iv (0 : Int32), iv a1, iv b1, iv sc, iv a2, iv b2, rv x4_y, rv x5_y, rv b6, .unset, .unset, .unset, .unset] [])) rfl (hb hby at_185) (by decide) (by decide)
                  obtain ⟨b8, gx8⟩ : ∃ z, z = T7.heap.size := ⟨_, rfl⟩
                  rw [← gx8] at A8 D8 st8
                  have ne8_x4_y : x4_y ≠ b8 := Nat.ne_of_lt (Nat.lt_of_lt_of_eq f7_1.lt gx8.symm)
                  have ne8_x4_d : x4_d ≠ b8 := Nat.ne_of_lt (Nat.lt_of_lt_of_eq f7_4.lt gx8.symm)
                  have ne8_x5_y : x5_y ≠ b8 := Nat.ne_of_lt (Nat.lt_of_lt_of_eq f7_5.lt gx8.symm)
                  have ne8_x5_d : x5_d ≠ b8 := Nat.ne_of_lt (Nat.lt_of_lt_of_eq f7_8.lt gx8.symm)
                  have ne8_b6 : b6 ≠ b8 := Nat.ne_of_lt (Nat.lt_of_lt_of_eq f7_9.lt gx8.symm)
                  have gg8 : n0 ≤ b8 := Nat.le_trans Zs7 (Nat.le_of_eq gx8.symm)
                  have f8_0 := f7_0.ext E8
                  have f8_1 := f7_1.ext E8
                  have f8_2 := f7_2.ext E8
                  have f8_3 := f7_3.ext E8
                  have f8_4 := f7_4.ext E8
                  have f8_5 := f7_5.ext E8
                  have f8_6 := f7_6.ext E8
                  have f8_7 := f7_7.ext E8
                  have f8_8 := f7_8.ext E8
                  have f8_9 := f7_9.ext E8
                  have f8_10 := u7_0.ext E8
                  have f8_11 := u7_1.ext E8
                  have f8_12 := u7_2.ext E8
                  have C8 := C7.trans (CHr.ext E8 C7.1)
                  have Zs8 : n0 ≤ h8.size := Nat.le_trans Zs7 E8.1
                  have Ks8 := Nat.le_trans Ks7 E8.1
                  have fn8_line : Fld Z h8 b8 "com/example/majra/majra/lang/Command$Refusal" "line" "I" (.int (0 : Int32)) := D8 (Or.inr (own_w hw 39 rfl)) (ty := .int) (by decide)
                  have fn8_column : Fld Z h8 b8 "com/example/majra/majra/lang/Command$Refusal" "column" "I" (.int (0 : Int32)) := D8 (Or.inr (own_w hw 41 rfl)) (ty := .int) (by decide)
                  have fn8_message : Fld Z h8 b8 "com/example/majra/majra/lang/Command$Refusal" "message" "Ljava/lang/String;" .null := D8 (Or.inr (own_w hw 43 rfl)) (ty := (.object "java/lang/String")) (by decide)
                  refine own_stH st8 ?_
                  show own_GoesH _ _ _ _ _ _ _ _ _ T8 (mkF m 188 #[iv p1, iv p2, iv p3, iv p4, .val (.long p5), .second, iv p6, iv l2, iv c2, iv (0 : Int32), iv (0 : Int32), iv a1, iv b1, iv sc, iv a2, iv b2, rv x4_y, rv x5_y, rv b6, .unset, .unset, .unset, .unset] [(.ref b8)])
                  refine own_stH (fun _ kk_ => XS.dup X8.here hx rfl (hb hby at_188) rfl rfl (XS.iload X8.here hx rfl (hb hby at_189) rfl (XS.iload X8.here hx rfl (hb hby at_191) rfl (XS.aload X8.here hx rfl (hb hby at_193) rfl rfl kk_)))) ?_
                  show own_GoesH _ _ _ _ _ _ _ _ _ T8 (mkF m 195 #[iv p1, iv p2, iv p3, iv p4, .val (.long p5), .second, iv p6, iv l2, iv c2, iv (0 : Int32), iv (0 : Int32), iv a1, iv b1, iv sc, iv a2, iv b2, rv x4_y, rv x5_y, rv b6, .unset, .unset, .unset, .unset] [(.ref x5_y), (.int c2), (.int l2), (.ref b8), (.ref b8)])
                  obtain ⟨_, _, ⟨T9, L9, k9, n9⟩, -, X9, ⟨Lc9, hQ9, l9, y9, z9⟩, st9⟩ := X8.specialBack hx (y := yy11) rfl hown (mvT hZ (own_w hw 34 rfl)) (mvT hZ (own_w hw 35 rfl)) (mvT hZ (own_w hw 36 rfl)) (by decide) (backOf (W := 1) (rm6 l Z a0 hw [] (b8) (l2) (c2) (x5_y) h8 n0 Zs8 A8 fn8_line fn8_column fn8_message gg8) hZ (own_w hw 36 rfl) (own_w hw 33 rfl) (by decide) (by decide)) (g := (mkF m 195 #[iv p1, iv p2, iv p3, iv p4, .val (.long p5), .second, iv p6, iv l2, iv c2, iv (0 : Int32), iv (0 : Int32), iv a1, iv b1, iv sc, iv a2, iv b2, rv x4_y, rv x5_y, rv b6, .unset, .unset, .unset, .unset] [(.ref x5_y), (.int c2), (.int l2), (.ref b8), (.ref b8)])) rfl (by rw [hml]; rfl) (Steps.refl _) (a := b8) (argsL := [(.int l2), (.int c2), (.ref x5_y)]) (rest := [(.ref b8)]) (lenOf pd_13 rfl) rfl (by show 2 * 0 + _ ≤ _; exact Nat.le_of_eq rfl) (hb hby at_195) (fun _ _ => ⟨rfl, e8, (by decide : 14 + 0 ≤ _), (by decide : 30 + 0 ≤ _)⟩)
                  dsimp only [Pt.U, Pt.locs, Pt.cells, Pt.slots] at X9 l9 y9 z9 st9 hQ9
                  subst l9 y9 z9
                  obtain ⟨rfl, Nq9, Kq9, u9_0, u9_1, u9_2⟩ := hQ9
                  have N9 := Fr.app N7 Nq9
                  have f9_0 := own_Sta_keep f8_0 Kq9 (nsS A8.nostat ns0)
                  have f9_1 := f8_1.keep Kq9
                  have f9_2 := f8_2.keep Kq9 (ninS ne8_x4_y nin0)
                  have f9_3 := f8_3.keep Kq9 (ninS ne8_x4_y nin0)
                  have f9_4 := f8_4.keep Kq9 (ninS ne8_x4_d nin0)
                  have f9_5 := f8_5.keep Kq9
                  have f9_6 := f8_6.keep Kq9 (ninS ne8_x5_y nin0)
                  have f9_7 := f8_7.keep Kq9 (ninS ne8_x5_y nin0)
                  have f9_8 := f8_8.keep Kq9 (ninS ne8_x5_d nin0)
                  have f9_9 := f8_9.keep Kq9
                  have f9_10 := f8_10.keep Kq9 (ninS ne8_b6 nin0)
                  have f9_11 := f8_11.keep Kq9 (ninS ne8_b6 nin0)
                  have f9_12 := f8_12.keep Kq9 (ninS ne8_b6 nin0)
                  have f9_13 := A8.keep Kq9
                  have C9 := C8.trans (CHr.keep Kq9 (sfS (Safe.exa hZ.alike A8 (by decide) (by decide)) sf0) C8.1)
                  have Ks9 := Nat.le_trans Ks8 Kq9.1
                  have Zs9 : n0 ≤ T9.heap.size := Nat.le_trans Zs8 Kq9.1
                  refine own_stH (fun _ kk_ => st9.trans kk_) ?_
                  show own_GoesH _ _ _ _ _ _ _ _ _ T9 (mkF m 198 #[iv p1, iv p2, iv p3, iv p4, .val (.long p5), .second, iv p6, iv l2, iv c2, iv (0 : Int32), iv (0 : Int32), iv a1, iv b1, iv sc, iv a2, iv b2, rv x4_y, rv x5_y, rv b6, .unset, .unset, .unset, .unset] [(.ref b8)])
                  refine own_stH (fun _ kk_ => XS.astore X9.here hx rfl (hb hby at_198) rfl rfl (l' := #[iv p1, iv p2, iv p3, iv p4, .val (.long p5), .second, iv p6, iv l2, iv c2, iv (0 : Int32), iv (0 : Int32), iv a1, iv b1, iv sc, iv a2, iv b2, rv x4_y, rv x5_y, rv b6, rv b8, .unset, .unset, .unset]) rfl kk_) ?_
                  show own_GoesH _ _ _ _ _ _ _ _ _ T9 (mkF m 200 #[iv p1, iv p2, iv p3, iv p4, .val (.long p5), .second, iv p6, iv l2, iv c2, iv (0 : Int32), iv (0 : Int32), iv a1, iv b1, iv sc, iv a2, iv b2, rv x4_y, rv x5_y, rv b6, rv b8, .unset, .unset, .unset] [])
                  have JM : ∀ (sm : Int32), (sm = own_b (True)) → own_GoesH p e below s Z consts_1 (Q0 Z p1 p2 p3 p4 p5 p6 cs h0 n0) 32 1152 T9 (mkF m 238 #[iv p1, iv p2, iv p3, iv p4, .val (.long p5), .second, iv p6, iv l2, iv c2, iv (0 : Int32), iv (0 : Int32), iv a1, iv b1, iv sc, iv a2, iv b2, rv x4_y, rv x5_y, rv b6, rv b8, .unset, .unset, .unset] [(.int sm)]) := by
                    intro sm hsm
                    show own_GoesH _ _ _ _ _ _ _ _ _ T9 (mkF m 238 #[iv p1, iv p2, iv p3, iv p4, .val (.long p5), .second, iv p6, iv l2, iv c2, iv (0 : Int32), iv (0 : Int32), iv a1, iv b1, iv sc, iv a2, iv b2, rv x4_y, rv x5_y, rv b6, rv b8, .unset, .unset, .unset] [(.int sm)])
                    refine own_stH (fun _ kk_ => XS.istore X9.here hx rfl (hb hby at_238) rfl (l' := #[iv p1, iv p2, iv p3, iv p4, .val (.long p5), .second, iv p6, iv l2, iv c2, iv (0 : Int32), iv (0 : Int32), iv a1, iv b1, iv sc, iv a2, iv b2, rv x4_y, rv x5_y, rv b6, rv b8, iv sm, .unset, .unset]) rfl (XS.iloadN X9.here hx rfl (hb hby at_240) rfl (XS.iload X9.here hx rfl (hb hby at_241) rfl kk_))) ?_
                    show own_GoesH _ _ _ _ _ _ _ _ _ T9 (mkF m 243 #[iv p1, iv p2, iv p3, iv p4, .val (.long p5), .second, iv p6, iv l2, iv c2, iv (0 : Int32), iv (0 : Int32), iv a1, iv b1, iv sc, iv a2, iv b2, rv x4_y, rv x5_y, rv b6, rv b8, iv sm, .unset, .unset] [(.int l2), (.int p1)])
                    have JE : ∀ (xp : Int32), (xp = own_b (p1 = l2 ∧ p2 = c2 ∧ (True))) → own_GoesH p e below s Z consts_1 (Q0 Z p1 p2 p3 p4 p5 p6 cs h0 n0) 32 1152 T9 (mkF m 262 #[iv p1, iv p2, iv p3, iv p4, .val (.long p5), .second, iv p6, iv l2, iv c2, iv (0 : Int32), iv (0 : Int32), iv a1, iv b1, iv sc, iv a2, iv b2, rv x4_y, rv x5_y, rv b6, rv b8, iv sm, .unset, .unset] [(.int xp)]) := by
                      intro xp hxp
                      show own_GoesH _ _ _ _ _ _ _ _ _ T9 (mkF m 262 #[iv p1, iv p2, iv p3, iv p4, .val (.long p5), .second, iv p6, iv l2, iv c2, iv (0 : Int32), iv (0 : Int32), iv a1, iv b1, iv sc, iv a2, iv b2, rv x4_y, rv x5_y, rv b6, rv b8, iv sm, .unset, .unset] [(.int xp)])
                      refine own_stH (fun _ kk_ => XS.istore X9.here hx rfl (hb hby at_262) rfl (l' := #[iv p1, iv p2, iv p3, iv p4, .val (.long p5), .second, iv p6, iv l2, iv c2, iv (0 : Int32), iv (0 : Int32), iv a1, iv b1, iv sc, iv a2, iv b2, rv x4_y, rv x5_y, rv b6, rv b8, iv sm, iv xp, .unset]) rfl (XS.aload X9.here hx rfl (hb hby at_264) rfl rfl (XS.astore X9.here hx rfl (hb hby at_266) rfl rfl (l' := #[iv p1, iv p2, iv p3, iv p4, .val (.long p5), .second, iv p6, iv l2, iv c2, iv (0 : Int32), iv (0 : Int32), iv a1, iv b1, iv sc, iv a2, iv b2, rv x4_y, rv x5_y, rv b6, rv b8, iv sm, iv xp, rv x4_y]) rfl (XS.aload X9.here hx rfl (hb hby at_268) rfl rfl (XS.aload X9.here hx rfl (hb hby at_270) rfl rfl kk_))))) ?_
                      show own_GoesH _ _ _ _ _ _ _ _ _ T9 (mkF m 272 #[iv p1, iv p2, iv p3, iv p4, .val (.long p5), .second, iv p6, iv l2, iv c2, iv (0 : Int32), iv (0 : Int32), iv a1, iv b1, iv sc, iv a2, iv b2, rv x4_y, rv x5_y, rv b6, rv b8, iv sm, iv xp, rv x4_y] [(.ref b8), (.ref b6)])
                      obtain ⟨cq10, kq10, q10a, q10b, q10c⟩ := isOf hZ rfl f9_9
                      obtain ⟨_, _, ⟨T10, L10, k10, n10⟩, -, X10, ⟨Lc10, hQ10, l10, y10, z10⟩, st10⟩ := X9.virtualBack hx (y := yy14) (z := yy14) hown (mvT hZ (own_w hw 44 rfl)) (mvT hZ (own_w hw 45 rfl)) (notFace_of_selects (args := #[]) (mvT hZ (own_w hw 47 rfl))) (mvT hZ (own_w hw 47 rfl)) (mvT hZ (own_w hw 46 rfl)) (by decide) (backOf (W := 0) (rm7_0_0 l Z a0 hw [] (b6) (b8) (p1) (p2) (l2) (c2) (x4_y) (x5_y) (x4_d) (x5_d) (x4_kd) (x5_kd) (cs) T9.heap n0 Zs9 f9_10 f9_11 f9_12 f9_13 u9_0 u9_1 u9_2 f9_1 f9_2 f9_3 f9_5 f9_6 f9_7 f9_4 f9_8 f9_0 (by assumption) ne5_x4_y) hZ (own_w hw 48 rfl) (own_w hw 33 rfl) (by decide) (by decide)) q10a q10c (g := (mkF m 272 #[iv p1, iv p2, iv p3, iv p4, .val (.long p5), .second, iv p6, iv l2, iv c2, iv (0 : Int32), iv (0 : Int32), iv a1, iv b1, iv sc, iv a2, iv b2, rv x4_y, rv x5_y, rv b6, rv b8, iv sm, iv xp, rv x4_y] [(.ref b8), (.ref b6)])) rfl (by rw [hml]; rfl) (Steps.refl _) (argsL := [(.ref b8)]) (rest := []) (lenOf pd_10 rfl) rfl (by show 2 * 0 + _ ≤ _; exact Nat.le_of_eq rfl) (hb hby at_272) (fun _ _ => ⟨rfl, rfl, (by decide : 14 + 0 ≤ _), (by decide : 30 + 0 ≤ _)⟩)
                      dsimp only [Pt.U, Pt.locs, Pt.cells, Pt.slots] at X10 l10 y10 z10 st10 hQ10
                      subst l10 y10 z10
                      obtain ⟨rfl, Nq10, eq10⟩ := hQ10
                      have N10 := Fr.app N9 Nq10
                      refine own_stH (fun _ kk_ => st10.trans kk_) ?_
                      show own_GoesH _ _ _ _ _ _ _ _ _ T10 (mkF m 275 #[iv p1, iv p2, iv p3, iv p4, .val (.long p5), .second, iv p6, iv l2, iv c2, iv (0 : Int32), iv (0 : Int32), iv a1, iv b1, iv sc, iv a2, iv b2, rv x4_y, rv x5_y, rv b6, rv b8, iv sm, iv xp, rv x4_y] [(.int (own_b (p1 = l2 ∧ p2 = c2 ∧ (True))))])
                      refine own_stH (fun _ kk_ => XS.iload X10.here hx rfl (hb hby at_275) rfl (XS.icmpNo X10.here hx rfl (hb hby at_277) rfl (XT.ii_ne_f ((own_bc (own_and3 Iff.rfl Iff.rfl Iff.rfl)).trans hxp.symm)) (XS.aload X10.here hx rfl (hb hby at_280) rfl rfl (XS.aload X10.here hx rfl (hb hby at_282) rfl rfl kk_)))) ?_
                      show own_GoesH _ _ _ _ _ _ _ _ _ T10 (mkF m 284 #[iv p1, iv p2, iv p3, iv p4, .val (.long p5), .second, iv p6, iv l2, iv c2, iv (0 : Int32), iv (0 : Int32), iv a1, iv b1, iv sc, iv a2, iv b2, rv x4_y, rv x5_y, rv b6, rv b8, iv sm, iv xp, rv x4_y] [(.ref b6), (.ref b8)])
                      obtain ⟨cq11, kq11, q11a, q11b, q11c⟩ := isOf hZ eq10 f9_13
                      obtain ⟨_, _, ⟨T11, L11, k11, n11⟩, -, X11, ⟨Lc11, hQ11, l11, y11, z11⟩, st11⟩ := X10.virtualBack hx (y := yy14) (z := yy14) hown (mvT hZ (own_w hw 44 rfl)) (mvT hZ (own_w hw 45 rfl)) (notFace_of_selects (args := #[]) (mvT hZ (own_w hw 47 rfl))) (mvT hZ (own_w hw 47 rfl)) (mvT hZ (own_w hw 46 rfl)) (by decide) (backOf (W := 0) (rm7_0_0 l Z a0 hw [] (b8) (b6) (l2) (c2) (p1) (p2) (x5_y) (x4_y) (x5_d) (x4_d) (x5_kd) (x4_kd) (cs) T9.heap n0 Zs9 u9_0 u9_1 u9_2 f9_9 f9_10 f9_11 f9_12 f9_5 f9_6 f9_7 f9_1 f9_2 f9_3 f9_8 f9_4 f9_0 (by assumption) (Ne.symm ne5_x4_y)) hZ (own_w hw 48 rfl) (own_w hw 33 rfl) (by decide) (by decide)) q11a q11c (g := (mkF m 284 #[iv p1, iv p2, iv p3, iv p4, .val (.long p5), .second, iv p6, iv l2, iv c2, iv (0 : Int32), iv (0 : Int32), iv a1, iv b1, iv sc, iv a2, iv b2, rv x4_y, rv x5_y, rv b6, rv b8, iv sm, iv xp, rv x4_y] [(.ref b6), (.ref b8)])) rfl (by rw [hml]; rfl) (Steps.refl _) (argsL := [(.ref b6)]) (rest := []) (lenOf pd_10 rfl) rfl (by show 2 * 0 + _ ≤ _; exact Nat.le_of_eq rfl) (hb hby at_284) (fun _ _ => ⟨rfl, eq10, (by decide : 14 + 0 ≤ _), (by decide : 30 + 0 ≤ _)⟩)
                      dsimp only [Pt.U, Pt.locs, Pt.cells, Pt.slots] at X11 l11 y11 z11 st11 hQ11
                      subst l11 y11 z11
                      obtain ⟨rfl, Nq11, eq11⟩ := hQ11
                      have N11 := Fr.app N10 Nq11
                      refine own_stH (fun _ kk_ => st11.trans kk_) ?_
                      show own_GoesH _ _ _ _ _ _ _ _ _ T11 (mkF m 287 #[iv p1, iv p2, iv p3, iv p4, .val (.long p5), .second, iv p6, iv l2, iv c2, iv (0 : Int32), iv (0 : Int32), iv a1, iv b1, iv sc, iv a2, iv b2, rv x4_y, rv x5_y, rv b6, rv b8, iv sm, iv xp, rv x4_y] [(.int (own_b (l2 = p1 ∧ c2 = p2 ∧ (True))))])
                      refine own_stH (fun _ kk_ => XS.iload X11.here hx rfl (hb hby at_287) rfl (XS.icmpNo X11.here hx rfl (hb hby at_289) rfl (XT.ii_ne_f ((own_bc (own_and3 own_sy own_sy Iff.rfl)).trans hxp.symm)) (XS.aload X11.here hx rfl (hb hby at_292) rfl rfl (XS.aload X11.here hx rfl (hb hby at_294) rfl rfl kk_)))) ?_
                      show own_GoesH _ _ _ _ _ _ _ _ _ T11 (mkF m 296 #[iv p1, iv p2, iv p3, iv p4, .val (.long p5), .second, iv p6, iv l2, iv c2, iv (0 : Int32), iv (0 : Int32), iv a1, iv b1, iv sc, iv a2, iv b2, rv x4_y, rv x5_y, rv b6, rv b8, iv sm, iv xp, rv x4_y] [(.ref b6), (.ref b6)])
                      obtain ⟨cq12, kq12, q12a, q12b, q12c⟩ := isOf hZ eq11 f9_9
                      obtain ⟨_, _, ⟨T12, L12, k12, n12⟩, -, X12, ⟨Lc12, hQ12, l12, y12, z12⟩, st12⟩ := X11.virtualBack hx (y := yy14) (z := yy14) hown (mvT hZ (own_w hw 44 rfl)) (mvT hZ (own_w hw 45 rfl)) (notFace_of_selects (args := #[]) (mvT hZ (own_w hw 47 rfl))) (mvT hZ (own_w hw 47 rfl)) (mvT hZ (own_w hw 46 rfl)) (by decide) (backOf (W := 0) (rm7s l Z a0 hw [] (b6) (p1) (p2) (x4_y) T9.heap n0 Zs9 f9_9 f9_10 f9_11 f9_12 f9_1) hZ (own_w hw 48 rfl) (own_w hw 33 rfl) (by decide) (by decide)) q12a q12c (g := (mkF m 296 #[iv p1, iv p2, iv p3, iv p4, .val (.long p5), .second, iv p6, iv l2, iv c2, iv (0 : Int32), iv (0 : Int32), iv a1, iv b1, iv sc, iv a2, iv b2, rv x4_y, rv x5_y, rv b6, rv b8, iv sm, iv xp, rv x4_y] [(.ref b6), (.ref b6)])) rfl (by rw [hml]; rfl) (Steps.refl _) (argsL := [(.ref b6)]) (rest := []) (lenOf pd_10 rfl) rfl (by show 2 * 0 + _ ≤ _; exact Nat.le_of_eq rfl) (hb hby at_296) (fun _ _ => ⟨rfl, eq11, (by decide : 14 + 0 ≤ _), (by decide : 30 + 0 ≤ _)⟩)
                      dsimp only [Pt.U, Pt.locs, Pt.cells, Pt.slots] at X12 l12 y12 z12 st12 hQ12
                      subst l12 y12 z12
                      obtain ⟨rfl, Nq12, eq12⟩ := hQ12
                      have N12 := Fr.app N11 Nq12
                      refine own_stH (fun _ kk_ => st12.trans kk_) ?_
                      show own_GoesH _ _ _ _ _ _ _ _ _ T12 (mkF m 299 #[iv p1, iv p2, iv p3, iv p4, .val (.long p5), .second, iv p6, iv l2, iv c2, iv (0 : Int32), iv (0 : Int32), iv a1, iv b1, iv sc, iv a2, iv b2, rv x4_y, rv x5_y, rv b6, rv b8, iv sm, iv xp, rv x4_y] [(.int (1 : Int32))])
                      refine own_stH (fun _ kk_ => XS.ifNo X12.here hx rfl (hb hby at_299) rfl (XT.i0_eq_f (by decide)) (XS.aload X12.here hx rfl (hb hby at_302) rfl rfl (XS.aconstNull X12.here hx rfl (hb hby at_304) kk_))) ?_
                      show own_GoesH _ _ _ _ _ _ _ _ _ T12 (mkF m 305 #[iv p1, iv p2, iv p3, iv p4, .val (.long p5), .second, iv p6, iv l2, iv c2, iv (0 : Int32), iv (0 : Int32), iv a1, iv b1, iv sc, iv a2, iv b2, rv x4_y, rv x5_y, rv b6, rv b8, iv sm, iv xp, rv x4_y] [.null, (.ref b6)])
                      obtain ⟨cq13, kq13, q13a, q13b, q13c⟩ := isOf hZ eq12 f9_9
                      obtain ⟨_, _, ⟨T13, L13, k13, n13⟩, -, X13, ⟨Lc13, hQ13, l13, y13, z13⟩, st13⟩ := X12.virtualBack hx (y := yy14) (z := yy14) hown (mvT hZ (own_w hw 44 rfl)) (mvT hZ (own_w hw 45 rfl)) (notFace_of_selects (args := #[]) (mvT hZ (own_w hw 47 rfl))) (mvT hZ (own_w hw 47 rfl)) (mvT hZ (own_w hw 46 rfl)) (by decide) (backOf (W := 0) (rm7n l Z a0 hw [] (b6) T9.heap n0 Zs9) hZ (own_w hw 48 rfl) (own_w hw 33 rfl) (by decide) (by decide)) q13a q13c (g := (mkF m 305 #[iv p1, iv p2, iv p3, iv p4, .val (.long p5), .second, iv p6, iv l2, iv c2, iv (0 : Int32), iv (0 : Int32), iv a1, iv b1, iv sc, iv a2, iv b2, rv x4_y, rv x5_y, rv b6, rv b8, iv sm, iv xp, rv x4_y] [.null, (.ref b6)])) rfl (by rw [hml]; rfl) (Steps.refl _) (argsL := [.null]) (rest := []) (lenOf pd_10 rfl) rfl (by show 2 * 0 + _ ≤ _; exact Nat.le_of_eq rfl) (hb hby at_305) (fun _ _ => ⟨rfl, eq12, (by decide : 14 + 0 ≤ _), (by decide : 30 + 0 ≤ _)⟩)
                      dsimp only [Pt.U, Pt.locs, Pt.cells, Pt.slots] at X13 l13 y13 z13 st13 hQ13
                      subst l13 y13 z13
                      obtain ⟨rfl, Nq13, eq13⟩ := hQ13
                      have N13 := Fr.app N12 Nq13
                      refine own_stH (fun _ kk_ => st13.trans kk_) ?_
                      show own_GoesH _ _ _ _ _ _ _ _ _ T13 (mkF m 308 #[iv p1, iv p2, iv p3, iv p4, .val (.long p5), .second, iv p6, iv l2, iv c2, iv (0 : Int32), iv (0 : Int32), iv a1, iv b1, iv sc, iv a2, iv b2, rv x4_y, rv x5_y, rv b6, rv b8, iv sm, iv xp, rv x4_y] [(.int (0 : Int32))])
                      refine own_stH (fun _ kk_ => XS.ifNo X13.here hx rfl (hb hby at_308) rfl (XT.i0_ne_f (by decide)) (XS.aload X13.here hx rfl (hb hby at_311) rfl rfl (XS.aload X13.here hx rfl (hb hby at_313) rfl rfl kk_))) ?_
                      show own_GoesH _ _ _ _ _ _ _ _ _ T13 (mkF m 315 #[iv p1, iv p2, iv p3, iv p4, .val (.long p5), .second, iv p6, iv l2, iv c2, iv (0 : Int32), iv (0 : Int32), iv a1, iv b1, iv sc, iv a2, iv b2, rv x4_y, rv x5_y, rv b6, rv b8, iv sm, iv xp, rv x4_y] [(.ref x4_y), (.ref b6)])
                      obtain ⟨cq14, kq14, q14a, q14b, q14c⟩ := isOf hZ eq13 f9_9
                      obtain ⟨_, _, ⟨T14, L14, k14, n14⟩, -, X14, ⟨Lc14, hQ14, l14, y14, z14⟩, st14⟩ := X13.virtualBack hx (y := yy14) (z := yy14) hown (mvT hZ (own_w hw 44 rfl)) (mvT hZ (own_w hw 45 rfl)) (notFace_of_selects (args := #[]) (mvT hZ (own_w hw 47 rfl))) (mvT hZ (own_w hw 47 rfl)) (mvT hZ (own_w hw 46 rfl)) (by decide) (backOf (W := 0) (rm7x l Z a0 hw [] (b6) (x4_y) T9.heap n0 Zs9 f9_1) hZ (own_w hw 48 rfl) (own_w hw 33 rfl) (by decide) (by decide)) q14a q14c (g := (mkF m 315 #[iv p1, iv p2, iv p3, iv p4, .val (.long p5), .second, iv p6, iv l2, iv c2, iv (0 : Int32), iv (0 : Int32), iv a1, iv b1, iv sc, iv a2, iv b2, rv x4_y, rv x5_y, rv b6, rv b8, iv sm, iv xp, rv x4_y] [(.ref x4_y), (.ref b6)])) rfl (by rw [hml]; rfl) (Steps.refl _) (argsL := [(.ref x4_y)]) (rest := []) (lenOf pd_10 rfl) rfl (by show 2 * 0 + _ ≤ _; exact Nat.le_of_eq rfl) (hb hby at_315) (fun _ _ => ⟨rfl, eq13, (by decide : 14 + 0 ≤ _), (by decide : 30 + 0 ≤ _)⟩)
                      dsimp only [Pt.U, Pt.locs, Pt.cells, Pt.slots] at X14 l14 y14 z14 st14 hQ14
                      subst l14 y14 z14
                      obtain ⟨rfl, Nq14, eq14⟩ := hQ14
                      have N14 := Fr.app N13 Nq14
                      refine own_stH (fun _ kk_ => st14.trans kk_) ?_
                      show own_GoesH _ _ _ _ _ _ _ _ _ T14 (mkF m 318 #[iv p1, iv p2, iv p3, iv p4, .val (.long p5), .second, iv p6, iv l2, iv c2, iv (0 : Int32), iv (0 : Int32), iv a1, iv b1, iv sc, iv a2, iv b2, rv x4_y, rv x5_y, rv b6, rv b8, iv sm, iv xp, rv x4_y] [(.int (0 : Int32))])
                      refine own_stH (fun _ kk_ => XS.ifNo X14.here hx rfl (hb hby at_318) rfl (XT.i0_ne_f (by decide)) (XS.iconst X14.here hx rfl (hb hby at_321) (XS.goto X14.here hx rfl (pc0 := 322) (pc' := 326) rfl (hb hby at_322) (by decide) (by decide) kk_))) ?_
                      show own_GoesH _ _ _ _ _ _ _ _ _ T14 (mkF m 326 #[iv p1, iv p2, iv p3, iv p4, .val (.long p5), .second, iv p6, iv l2, iv c2, iv (0 : Int32), iv (0 : Int32), iv a1, iv b1, iv sc, iv a2, iv b2, rv x4_y, rv x5_y, rv b6, rv b8, iv sm, iv xp, rv x4_y] [(.int (1 : Int32))])
                      refine own_endH (v := (some (.int (nar .boolean (1 : Int32))))) X14 hlk hS5 (by rw [eq14]; exact Ks9) hZ hEL hh eq14 C9 (fun h => by rw [Bd.returns] at h; cases h) (by decide) (by decide) ?_ (fun fs hr => retN X14 hx (t := .boolean) Bd.returns (by simp) (hb hby at_326) hr)
                      show Q0 Z p1 p2 p3 p4 p5 p6 cs h0 n0 (some (.int (nar .boolean (1 : Int32)))) T14.heap _
                      rw [eq14]
                      exact ⟨rfl, N14⟩
                    rcases Classical.em (p1 = l2) with r0 | r0
                    · refine own_stH (fun _ kk_ => XS.icmpNo X9.here hx rfl (hb hby at_243) rfl (XT.ii_ne_f r0) (XS.iloadN X9.here hx rfl (hb hby at_246) rfl (XS.iload X9.here hx rfl (hb hby at_247) rfl kk_))) ?_
                      show own_GoesH _ _ _ _ _ _ _ _ _ T9 (mkF m 249 #[iv p1, iv p2, iv p3, iv p4, .val (.long p5), .second, iv p6, iv l2, iv c2, iv (0 : Int32), iv (0 : Int32), iv a1, iv b1, iv sc, iv a2, iv b2, rv x4_y, rv x5_y, rv b6, rv b8, iv sm, .unset, .unset] [(.int c2), (.int p2)])
                      rcases Classical.em (p2 = c2) with r1 | r1
                      · refine own_stH (fun _ kk_ => XS.icmpNo X9.here hx rfl (hb hby at_249) rfl (XT.ii_ne_f r1) (XS.iload X9.here hx rfl (hb hby at_252) rfl kk_)) ?_
                        show own_GoesH _ _ _ _ _ _ _ _ _ T9 (mkF m 254 #[iv p1, iv p2, iv p3, iv p4, .val (.long p5), .second, iv p6, iv l2, iv c2, iv (0 : Int32), iv (0 : Int32), iv a1, iv b1, iv sc, iv a2, iv b2, rv x4_y, rv x5_y, rv b6, rv b8, iv sm, .unset, .unset] [(.int sm)])
                        rcases Classical.em (sm = (0 : Int32)) with r2 | r2
                        · refine own_stH (fun _ kk_ => XS.ifYes X9.here hx rfl (pc0 := 254) (pc' := 261) rfl (hb hby at_254) rfl (XT.i0_eq_t r2) (by decide) (by decide) (XS.iconst X9.here hx rfl (hb hby at_261) kk_)) ?_
                          show own_GoesH _ _ _ _ _ _ _ _ _ T9 (mkF m 262 #[iv p1, iv p2, iv p3, iv p4, .val (.long p5), .second, iv p6, iv l2, iv c2, iv (0 : Int32), iv (0 : Int32), iv a1, iv b1, iv sc, iv a2, iv b2, rv x4_y, rv x5_y, rv b6, rv b8, iv sm, .unset, .unset] [(.int (0 : Int32))])
                          exact JE ((0 : Int32)) (own_b0 (fun k => by rw [hsm, own_b1 k.2.2] at r2; exact absurd r2 (by decide))).symm
                        · refine own_stH (fun _ kk_ => XS.ifNo X9.here hx rfl (hb hby at_254) rfl (XT.i0_eq_f r2) (XS.iconst X9.here hx rfl (hb hby at_257) (XS.goto X9.here hx rfl (pc0 := 258) (pc' := 262) rfl (hb hby at_258) (by decide) (by decide) kk_))) ?_
                          show own_GoesH _ _ _ _ _ _ _ _ _ T9 (mkF m 262 #[iv p1, iv p2, iv p3, iv p4, .val (.long p5), .second, iv p6, iv l2, iv c2, iv (0 : Int32), iv (0 : Int32), iv a1, iv b1, iv sc, iv a2, iv b2, rv x4_y, rv x5_y, rv b6, rv b8, iv sm, .unset, .unset] [(.int (1 : Int32))])
                          exact JE ((1 : Int32)) (own_b1 ⟨r0, r1, Classical.byContradiction fun k => r2 (hsm.trans (own_b0 k))⟩).symm
                      · refine own_stH (fun _ kk_ => XS.icmpYes X9.here hx rfl (pc0 := 249) (pc' := 261) rfl (hb hby at_249) rfl (XT.ii_ne_t r1) (by decide) (by decide) (XS.iconst X9.here hx rfl (hb hby at_261) kk_)) ?_
                        show own_GoesH _ _ _ _ _ _ _ _ _ T9 (mkF m 262 #[iv p1, iv p2, iv p3, iv p4, .val (.long p5), .second, iv p6, iv l2, iv c2, iv (0 : Int32), iv (0 : Int32), iv a1, iv b1, iv sc, iv a2, iv b2, rv x4_y, rv x5_y, rv b6, rv b8, iv sm, .unset, .unset] [(.int (0 : Int32))])
                        exact JE ((0 : Int32)) (own_b0 (fun k => r1 k.2.1)).symm
                    · refine own_stH (fun _ kk_ => XS.icmpYes X9.here hx rfl (pc0 := 243) (pc' := 261) rfl (hb hby at_243) rfl (XT.ii_ne_t r0) (by decide) (by decide) (XS.iconst X9.here hx rfl (hb hby at_261) kk_)) ?_
                      show own_GoesH _ _ _ _ _ _ _ _ _ T9 (mkF m 262 #[iv p1, iv p2, iv p3, iv p4, .val (.long p5), .second, iv p6, iv l2, iv c2, iv (0 : Int32), iv (0 : Int32), iv a1, iv b1, iv sc, iv a2, iv b2, rv x4_y, rv x5_y, rv b6, rv b8, iv sm, .unset, .unset] [(.int (0 : Int32))])
                      exact JE ((0 : Int32)) (own_b0 (fun k => r0 k.1)).symm
                  refine own_stH (fun _ kk_ => XS.iload X9.here hx rfl (hb hby at_200) rfl (XS.iload X9.here hx rfl (hb hby at_202) rfl (XS.icmpNo X9.here hx rfl (hb hby at_204) rfl (XT.ii_ne_f (by decide)) (XS.iload X9.here hx rfl (hb hby at_207) rfl (XS.iconst X9.here hx rfl (hb hby at_209) (XS.icmpYes X9.here hx rfl (pc0 := 210) (pc' := 220) rfl (hb hby at_210) rfl (XT.ii_lt_t (by decide)) (by decide) (by decide) (XS.iload X9.here hx rfl (hb hby at_220) rfl (XS.iconst X9.here hx rfl (hb hby at_222) kk_)))))))) ?_
                  show own_GoesH _ _ _ _ _ _ _ _ _ T9 (mkF m 223 #[iv p1, iv p2, iv p3, iv p4, .val (.long p5), .second, iv p6, iv l2, iv c2, iv (0 : Int32), iv (0 : Int32), iv a1, iv b1, iv sc, iv a2, iv b2, rv x4_y, rv x5_y, rv b6, rv b8, .unset, .unset, .unset] [(.int (2 : Int32)), (.int (0 : Int32))])
                  refine own_stH (fun _ kk_ => XS.icmpYes X9.here hx rfl (pc0 := 223) (pc' := 233) rfl (hb hby at_223) rfl (XT.ii_lt_t (by decide)) (by decide) (by decide) (XS.iconst X9.here hx rfl (hb hby at_233) (XS.goto X9.here hx rfl (pc0 := 234) (pc' := 238) rfl (hb hby at_234) (by decide) (by decide) kk_))) ?_
                  show own_GoesH _ _ _ _ _ _ _ _ _ T9 (mkF m 238 #[iv p1, iv p2, iv p3, iv p4, .val (.long p5), .second, iv p6, iv l2, iv c2, iv (0 : Int32), iv (0 : Int32), iv a1, iv b1, iv sc, iv a2, iv b2, rv x4_y, rv x5_y, rv b6, rv b8, .unset, .unset, .unset] [(.int (1 : Int32))])
                  exact JM ((1 : Int32)) (own_b1 trivial).symm
                · show own_GoesH _ _ _ _ _ _ _ _ _ T4 (mkF m 167 #[iv p1, iv p2, iv p3, iv p4, .val (.long p5), .second, iv p6, iv l2, iv c2, iv (0 : Int32), iv (1 : Int32), iv a1, iv b1, iv sc, iv a2, iv b2, rv x4_y, .unset, .unset, .unset, .unset, .unset, .unset] [(.int b2), (.int a2), (.int (1 : Int32))])
                  obtain ⟨_, _, ⟨T15, L15, k15, n15⟩, -, X15, ⟨Lc15, hQ15, l15, y15, z15⟩, st15⟩ := Jvm.LawKit.callS X4 hx (y := yy10) hown (mvT hZ (own_w hw 5 rfl)) (mvT hZ (own_w hw 6 rfl)) (mvT hZ (own_w hw 7 rfl)) (mvT hZ (own_w hw 8 rfl)) (by decide) (backOf (W := 0) (rm2_1 l Z a0 hw [] (a2) (b2) (cs) T4.heap n0 Zs4 f4_0 (by assumption) hi_a2) hZ (own_w hw 8 rfl) (own_w hw 7 rfl) (by decide) (by decide)) (g := (mkF m 167 #[iv p1, iv p2, iv p3, iv p4, .val (.long p5), .second, iv p6, iv l2, iv c2, iv (0 : Int32), iv (1 : Int32), iv a1, iv b1, iv sc, iv a2, iv b2, rv x4_y, .unset, .unset, .unset, .unset, .unset, .unset] [(.int b2), (.int a2), (.int (1 : Int32))])) rfl (by rw [hml]; rfl) (argsL := [(.int (1 : Int32)), (.int a2), (.int b2)]) (rest := []) (lenOf pd_12 rfl) rfl (by show 2 * 0 + _ ≤ _; exact Nat.le_of_eq rfl) (hb hby at_167) (fun _ _ => ⟨rfl, rfl, (by decide : 6 + 2 ≤ _), (by decide : 12 + 5 ≤ _)⟩)
                  dsimp only [Pt.U, Pt.locs, Pt.cells, Pt.slots] at X15 l15 y15 z15 st15 hQ15
                  subst l15 y15 z15
                  obtain ⟨x15_y, x15_d, x15_kd, rfl, Nq15, Kq15, u15_0, u15_1, u15_2, u15_3, u15_4⟩ := hQ15
                  have N15 := Fr.app N4 Nq15
                  have f15_0 := own_Sta_keep f4_0 Kq15 ns0
                  have f15_1 := u4_1.keep Kq15
                  have f15_2 := u4_2.keep Kq15 nin0
                  have f15_3 := u4_3.keep Kq15 nin0
                  have f15_4 := u4_4.keep Kq15 nin0
                  have C15 := C4.trans (CHr.keep Kq15 sf0 C4.1)
                  have Ks15 := Nat.le_trans (Nat.le_refl T4.heap.size) Kq15.1
                  have Zs15 : n0 ≤ T15.heap.size := Nat.le_trans Zs4 Kq15.1
                  have ne15_x4_y : x4_y ≠ x15_y := Nat.ne_of_lt (Nat.lt_of_lt_of_le u4_1.lt u15_0)
                  have ne15_x4_d : x4_d ≠ x15_y := Nat.ne_of_lt (Nat.lt_of_lt_of_le u4_4.lt u15_0)
                  have gg15_y : n0 ≤ x15_y := Nat.le_trans Zs4 u15_0
                  refine own_stH st15 ?_
                  show own_GoesH _ _ _ _ _ _ _ _ _ T15 (mkF m 170 #[iv p1, iv p2, iv p3, iv p4, .val (.long p5), .second, iv p6, iv l2, iv c2, iv (0 : Int32), iv (1 : Int32), iv a1, iv b1, iv sc, iv a2, iv b2, rv x4_y, .unset, .unset, .unset, .unset, .unset, .unset] [(.ref x15_y)])
                  refine own_stH (fun _ kk_ => XS.astore X15.here hx rfl (hb hby at_170) rfl rfl (l' := #[iv p1, iv p2, iv p3, iv p4, .val (.long p5), .second, iv p6, iv l2, iv c2, iv (0 : Int32), iv (1 : Int32), iv a1, iv b1, iv sc, iv a2, iv b2, rv x4_y, rv x15_y, .unset, .unset, .unset, .unset, .unset]) rfl kk_) ?_
                  show own_GoesH _ _ _ _ _ _ _ _ _ T15 (mkF m 172 #[iv p1, iv p2, iv p3, iv p4, .val (.long p5), .second, iv p6, iv l2, iv c2, iv (0 : Int32), iv (1 : Int32), iv a1, iv b1, iv sc, iv a2, iv b2, rv x4_y, rv x15_y, .unset, .unset, .unset, .unset, .unset] [])
                  obtain ⟨T16, h16, X16, e16, E16, A16, D16, -, st16⟩ := newO X15 hx hZ hown (own_w hw 31 rfl) (own_w hw 32 rfl) (own_w hw 33 rfl) rfl (g := (mkF m 172 #[iv p1, iv p2, iv p3, iv p4, .val (.long p5), .second, iv p6, iv l2, iv c2, iv (0 : Int32), iv (1 : Int32), iv a1, iv b1, iv sc, iv a2, iv b2, rv x4_y, rv x15_y, .unset, .unset, .unset, .unset, .unset] [])) rfl (hb hby at_172) (by decide) (by decide)
                  obtain ⟨b16, gx16⟩ : ∃ z, z = T15.heap.size := ⟨_, rfl⟩
                  rw [← gx16] at A16 D16 st16
                  have ne16_x4_y : x4_y ≠ b16 := Nat.ne_of_lt (Nat.lt_of_lt_of_eq f15_1.lt gx16.symm)
                  have ne16_x4_d : x4_d ≠ b16 := Nat.ne_of_lt (Nat.lt_of_lt_of_eq f15_4.lt gx16.symm)
                  have ne16_x15_y : x15_y ≠ b16 := Nat.ne_of_lt (Nat.lt_of_lt_of_eq u15_1.lt gx16.symm)
                  have ne16_x15_d : x15_d ≠ b16 := Nat.ne_of_lt (Nat.lt_of_lt_of_eq u15_4.lt gx16.symm)
                  have gg16 : n0 ≤ b16 := Nat.le_trans Zs15 (Nat.le_of_eq gx16.symm)
                  have f16_0 := f15_0.ext E16
                  have f16_1 := f15_1.ext E16
                  have f16_2 := f15_2.ext E16
                  have f16_3 := f15_3.ext E16
                  have f16_4 := f15_4.ext E16
                  have f16_5 := u15_1.ext E16
                  have f16_6 := u15_2.ext E16
                  have f16_7 := u15_3.ext E16
                  have f16_8 := u15_4.ext E16
                  have C16 := C15.trans (CHr.ext E16 C15.1)
                  have Zs16 : n0 ≤ h16.size := Nat.le_trans Zs15 E16.1
                  have Ks16 := Nat.le_trans Ks15 E16.1
                  have fn16_line : Fld Z h16 b16 "com/example/majra/majra/lang/Command$Refusal" "line" "I" (.int (0 : Int32)) := D16 (Or.inr (own_w hw 39 rfl)) (ty := .int) (by decide)
                  have fn16_column : Fld Z h16 b16 "com/example/majra/majra/lang/Command$Refusal" "column" "I" (.int (0 : Int32)) := D16 (Or.inr (own_w hw 41 rfl)) (ty := .int) (by decide)
                  have fn16_message : Fld Z h16 b16 "com/example/majra/majra/lang/Command$Refusal" "message" "Ljava/lang/String;" .null := D16 (Or.inr (own_w hw 43 rfl)) (ty := (.object "java/lang/String")) (by decide)
                  refine own_stH st16 ?_
                  show own_GoesH _ _ _ _ _ _ _ _ _ T16 (mkF m 175 #[iv p1, iv p2, iv p3, iv p4, .val (.long p5), .second, iv p6, iv l2, iv c2, iv (0 : Int32), iv (1 : Int32), iv a1, iv b1, iv sc, iv a2, iv b2, rv x4_y, rv x15_y, .unset, .unset, .unset, .unset, .unset] [(.ref b16)])
                  refine own_stH (fun _ kk_ => XS.dup X16.here hx rfl (hb hby at_175) rfl rfl (XS.iloadN X16.here hx rfl (hb hby at_176) rfl (XS.iloadN X16.here hx rfl (hb hby at_177) rfl (XS.aload X16.here hx rfl (hb hby at_178) rfl rfl kk_)))) ?_
                  show own_GoesH _ _ _ _ _ _ _ _ _ T16 (mkF m 180 #[iv p1, iv p2, iv p3, iv p4, .val (.long p5), .second, iv p6, iv l2, iv c2, iv (0 : Int32), iv (1 : Int32), iv a1, iv b1, iv sc, iv a2, iv b2, rv x4_y, rv x15_y, .unset, .unset, .unset, .unset, .unset] [(.ref x4_y), (.int p2), (.int p1), (.ref b16), (.ref b16)])
                  obtain ⟨_, _, ⟨T17, L17, k17, n17⟩, -, X17, ⟨Lc17, hQ17, l17, y17, z17⟩, st17⟩ := X16.specialBack hx (y := yy11) rfl hown (mvT hZ (own_w hw 34 rfl)) (mvT hZ (own_w hw 35 rfl)) (mvT hZ (own_w hw 36 rfl)) (by decide) (backOf (W := 1) (rm6 l Z a0 hw [] (b16) (p1) (p2) (x4_y) h16 n0 Zs16 A16 fn16_line fn16_column fn16_message gg16) hZ (own_w hw 36 rfl) (own_w hw 33 rfl) (by decide) (by decide)) (g := (mkF m 180 #[iv p1, iv p2, iv p3, iv p4, .val (.long p5), .second, iv p6, iv l2, iv c2, iv (0 : Int32), iv (1 : Int32), iv a1, iv b1, iv sc, iv a2, iv b2, rv x4_y, rv x15_y, .unset, .unset, .unset, .unset, .unset] [(.ref x4_y), (.int p2), (.int p1), (.ref b16), (.ref b16)])) rfl (by rw [hml]; rfl) (Steps.refl _) (a := b16) (argsL := [(.int p1), (.int p2), (.ref x4_y)]) (rest := [(.ref b16)]) (lenOf pd_13 rfl) rfl (by show 2 * 0 + _ ≤ _; exact Nat.le_of_eq rfl) (hb hby at_180) (fun _ _ => ⟨rfl, e16, (by decide : 9 + 0 ≤ _), (by decide : 20 + 0 ≤ _)⟩)
                  dsimp only [Pt.U, Pt.locs, Pt.cells, Pt.slots] at X17 l17 y17 z17 st17 hQ17
                  subst l17 y17 z17
                  obtain ⟨rfl, Nq17, Kq17, u17_0, u17_1, u17_2⟩ := hQ17
                  have N17 := Fr.app N15 Nq17
                  have f17_0 := own_Sta_keep f16_0 Kq17 (nsS A16.nostat ns0)
                  have f17_1 := f16_1.keep Kq17
                  have f17_2 := f16_2.keep Kq17 (ninS ne16_x4_y nin0)
                  have f17_3 := f16_3.keep Kq17 (ninS ne16_x4_y nin0)
                  have f17_4 := f16_4.keep Kq17 (ninS ne16_x4_d nin0)
                  have f17_5 := f16_5.keep Kq17
                  have f17_6 := f16_6.keep Kq17 (ninS ne16_x15_y nin0)
                  have f17_7 := f16_7.keep Kq17 (ninS ne16_x15_y nin0)
                  have f17_8 := f16_8.keep Kq17 (ninS ne16_x15_d nin0)
                  have f17_9 := A16.keep Kq17
                  have C17 := C16.trans (CHr.keep Kq17 (sfS (Safe.exa hZ.alike A16 (by decide) (by decide)) sf0) C16.1)
                  have Ks17 := Nat.le_trans Ks16 Kq17.1
                  have Zs17 : n0 ≤ T17.heap.size := Nat.le_trans Zs16 Kq17.1
                  refine own_stH (fun _ kk_ => st17.trans kk_) ?_
                  show own_GoesH _ _ _ _ _ _ _ _ _ T17 (mkF m 183 #[iv p1, iv p2, iv p3, iv p4, .val (.long p5), .second, iv p6, iv l2, iv c2, iv (0 : Int32), iv (1 : Int32), iv a1, iv b1, iv sc, iv a2, iv b2, rv x4_y, rv x15_y, .unset, .unset, .unset, .unset, .unset] [(.ref b16)])
                  refine own_stH (fun _ kk_ => XS.astore X17.here hx rfl (hb hby at_183) rfl rfl (l' := #[iv p1, iv p2, iv p3, iv p4, .val (.long p5), .second, iv p6, iv l2, iv c2, iv (0 : Int32), iv (1 : Int32), iv a1, iv b1, iv sc, iv a2, iv b2, rv x4_y, rv x15_y, rv b16, .unset, .unset, .unset, .unset]) rfl kk_) ?_
                  show own_GoesH _ _ _ _ _ _ _ _ _ T17 (mkF m 185 #[iv p1, iv p2, iv p3, iv p4, .val (.long p5), .second, iv p6, iv l2, iv c2, iv (0 : Int32), iv (1 : Int32), iv a1, iv b1, iv sc, iv a2, iv b2, rv x4_y, rv x15_y, rv b16, .unset, .unset, .unset, .unset] [])
                  obtain ⟨T18, h18, X18, e18, E18, A18, D18, -, st18⟩ := newO X17 hx hZ hown (own_w hw 31 rfl) (own_w hw 32 rfl) (own_w hw 33 rfl) rfl (g := (mkF m 185 #[iv p1, iv p2, iv p3, iv p4, .val (.long p5), .second, iv p6, iv l2, iv c2, iv (0 : Int32), iv (1 : Int32), iv a1, iv b1, iv sc, iv a2, iv b2, rv x4_y, rv x15_y, rv b16, .unset, .unset, .unset, .unset] [])) rfl (hb hby at_185) (by decide) (by decide)
                  obtain ⟨b18, gx18⟩ : ∃ z, z = T17.heap.size := ⟨_, rfl⟩
                  rw [← gx18] at A18 D18 st18
                  have ne18_x4_y : x4_y ≠ b18 := Nat.ne_of_lt (Nat.lt_of_lt_of_eq f17_1.lt gx18.symm)
                  have ne18_x4_d : x4_d ≠ b18 := Nat.ne_of_lt (Nat.lt_of_lt_of_eq f17_4.lt gx18.symm)
                  have ne18_x15_y : x15_y ≠ b18 := Nat.ne_of_lt (Nat.lt_of_lt_of_eq f17_5.lt gx18.symm)
                  have ne18_x15_d : x15_d ≠ b18 := Nat.ne_of_lt (Nat.lt_of_lt_of_eq f17_8.lt gx18.symm)
                  have ne18_b16 : b16 ≠ b18 := Nat.ne_of_lt (Nat.lt_of_lt_of_eq f17_9.lt gx18.symm)
                  have gg18 : n0 ≤ b18 := Nat.le_trans Zs17 (Nat.le_of_eq gx18.symm)
                  have f18_0 := f17_0.ext E18
                  have f18_1 := f17_1.ext E18
                  have f18_2 := f17_2.ext E18
                  have f18_3 := f17_3.ext E18
                  have f18_4 := f17_4.ext E18
                  have f18_5 := f17_5.ext E18
                  have f18_6 := f17_6.ext E18
                  have f18_7 := f17_7.ext E18
                  have f18_8 := f17_8.ext E18
                  have f18_9 := f17_9.ext E18
                  have f18_10 := u17_0.ext E18
                  have f18_11 := u17_1.ext E18
                  have f18_12 := u17_2.ext E18
                  have C18 := C17.trans (CHr.ext E18 C17.1)
                  have Zs18 : n0 ≤ h18.size := Nat.le_trans Zs17 E18.1
                  have Ks18 := Nat.le_trans Ks17 E18.1
                  have fn18_line : Fld Z h18 b18 "com/example/majra/majra/lang/Command$Refusal" "line" "I" (.int (0 : Int32)) := D18 (Or.inr (own_w hw 39 rfl)) (ty := .int) (by decide)
                  have fn18_column : Fld Z h18 b18 "com/example/majra/majra/lang/Command$Refusal" "column" "I" (.int (0 : Int32)) := D18 (Or.inr (own_w hw 41 rfl)) (ty := .int) (by decide)
                  have fn18_message : Fld Z h18 b18 "com/example/majra/majra/lang/Command$Refusal" "message" "Ljava/lang/String;" .null := D18 (Or.inr (own_w hw 43 rfl)) (ty := (.object "java/lang/String")) (by decide)
                  refine own_stH st18 ?_
                  show own_GoesH _ _ _ _ _ _ _ _ _ T18 (mkF m 188 #[iv p1, iv p2, iv p3, iv p4, .val (.long p5), .second, iv p6, iv l2, iv c2, iv (0 : Int32), iv (1 : Int32), iv a1, iv b1, iv sc, iv a2, iv b2, rv x4_y, rv x15_y, rv b16, .unset, .unset, .unset, .unset] [(.ref b18)])
                  refine own_stH (fun _ kk_ => XS.dup X18.here hx rfl (hb hby at_188) rfl rfl (XS.iload X18.here hx rfl (hb hby at_189) rfl (XS.iload X18.here hx rfl (hb hby at_191) rfl (XS.aload X18.here hx rfl (hb hby at_193) rfl rfl kk_)))) ?_
                  show own_GoesH _ _ _ _ _ _ _ _ _ T18 (mkF m 195 #[iv p1, iv p2, iv p3, iv p4, .val (.long p5), .second, iv p6, iv l2, iv c2, iv (0 : Int32), iv (1 : Int32), iv a1, iv b1, iv sc, iv a2, iv b2, rv x4_y, rv x15_y, rv b16, .unset, .unset, .unset, .unset] [(.ref x15_y), (.int c2), (.int l2), (.ref b18), (.ref b18)])
                  obtain ⟨_, _, ⟨T19, L19, k19, n19⟩, -, X19, ⟨Lc19, hQ19, l19, y19, z19⟩, st19⟩ := X18.specialBack hx (y := yy11) rfl hown (mvT hZ (own_w hw 34 rfl)) (mvT hZ (own_w hw 35 rfl)) (mvT hZ (own_w hw 36 rfl)) (by decide) (backOf (W := 1) (rm6 l Z a0 hw [] (b18) (l2) (c2) (x15_y) h18 n0 Zs18 A18 fn18_line fn18_column fn18_message gg18) hZ (own_w hw 36 rfl) (own_w hw 33 rfl) (by decide) (by decide)) (g := (mkF m 195 #[iv p1, iv p2, iv p3, iv p4, .val (.long p5), .second, iv p6, iv l2, iv c2, iv (0 : Int32), iv (1 : Int32), iv a1, iv b1, iv sc, iv a2, iv b2, rv x4_y, rv x15_y, rv b16, .unset, .unset, .unset, .unset] [(.ref x15_y), (.int c2), (.int l2), (.ref b18), (.ref b18)])) rfl (by rw [hml]; rfl) (Steps.refl _) (a := b18) (argsL := [(.int l2), (.int c2), (.ref x15_y)]) (rest := [(.ref b18)]) (lenOf pd_13 rfl) rfl (by show 2 * 0 + _ ≤ _; exact Nat.le_of_eq rfl) (hb hby at_195) (fun _ _ => ⟨rfl, e18, (by decide : 10 + 0 ≤ _), (by decide : 23 + 0 ≤ _)⟩)
                  dsimp only [Pt.U, Pt.locs, Pt.cells, Pt.slots] at X19 l19 y19 z19 st19 hQ19
                  subst l19 y19 z19
                  obtain ⟨rfl, Nq19, Kq19, u19_0, u19_1, u19_2⟩ := hQ19
                  have N19 := Fr.app N17 Nq19
                  have f19_0 := own_Sta_keep f18_0 Kq19 (nsS A18.nostat ns0)
                  have f19_1 := f18_1.keep Kq19
                  have f19_2 := f18_2.keep Kq19 (ninS ne18_x4_y nin0)
                  have f19_3 := f18_3.keep Kq19 (ninS ne18_x4_y nin0)
                  have f19_4 := f18_4.keep Kq19 (ninS ne18_x4_d nin0)
                  have f19_5 := f18_5.keep Kq19
                  have f19_6 := f18_6.keep Kq19 (ninS ne18_x15_y nin0)
                  have f19_7 := f18_7.keep Kq19 (ninS ne18_x15_y nin0)
                  have f19_8 := f18_8.keep Kq19 (ninS ne18_x15_d nin0)
                  have f19_9 := f18_9.keep Kq19
                  have f19_10 := f18_10.keep Kq19 (ninS ne18_b16 nin0)
                  have f19_11 := f18_11.keep Kq19 (ninS ne18_b16 nin0)
                  have f19_12 := f18_12.keep Kq19 (ninS ne18_b16 nin0)
                  have f19_13 := A18.keep Kq19
                  have C19 := C18.trans (CHr.keep Kq19 (sfS (Safe.exa hZ.alike A18 (by decide) (by decide)) sf0) C18.1)
                  have Ks19 := Nat.le_trans Ks18 Kq19.1
                  have Zs19 : n0 ≤ T19.heap.size := Nat.le_trans Zs18 Kq19.1
                  refine own_stH (fun _ kk_ => st19.trans kk_) ?_
                  show own_GoesH _ _ _ _ _ _ _ _ _ T19 (mkF m 198 #[iv p1, iv p2, iv p3, iv p4, .val (.long p5), .second, iv p6, iv l2, iv c2, iv (0 : Int32), iv (1 : Int32), iv a1, iv b1, iv sc, iv a2, iv b2, rv x4_y, rv x15_y, rv b16, .unset, .unset, .unset, .unset] [(.ref b18)])
                  refine own_stH (fun _ kk_ => XS.astore X19.here hx rfl (hb hby at_198) rfl rfl (l' := #[iv p1, iv p2, iv p3, iv p4, .val (.long p5), .second, iv p6, iv l2, iv c2, iv (0 : Int32), iv (1 : Int32), iv a1, iv b1, iv sc, iv a2, iv b2, rv x4_y, rv x15_y, rv b16, rv b18, .unset, .unset, .unset]) rfl kk_) ?_
                  show own_GoesH _ _ _ _ _ _ _ _ _ T19 (mkF m 200 #[iv p1, iv p2, iv p3, iv p4, .val (.long p5), .second, iv p6, iv l2, iv c2, iv (0 : Int32), iv (1 : Int32), iv a1, iv b1, iv sc, iv a2, iv b2, rv x4_y, rv x15_y, rv b16, rv b18, .unset, .unset, .unset] [])
                  have JM : ∀ (sm : Int32), (sm = own_b (False)) → own_GoesH p e below s Z consts_1 (Q0 Z p1 p2 p3 p4 p5 p6 cs h0 n0) 32 1152 T19 (mkF m 238 #[iv p1, iv p2, iv p3, iv p4, .val (.long p5), .second, iv p6, iv l2, iv c2, iv (0 : Int32), iv (1 : Int32), iv a1, iv b1, iv sc, iv a2, iv b2, rv x4_y, rv x15_y, rv b16, rv b18, .unset, .unset, .unset] [(.int sm)]) := by
                    intro sm hsm
                    show own_GoesH _ _ _ _ _ _ _ _ _ T19 (mkF m 238 #[iv p1, iv p2, iv p3, iv p4, .val (.long p5), .second, iv p6, iv l2, iv c2, iv (0 : Int32), iv (1 : Int32), iv a1, iv b1, iv sc, iv a2, iv b2, rv x4_y, rv x15_y, rv b16, rv b18, .unset, .unset, .unset] [(.int sm)])
                    refine own_stH (fun _ kk_ => XS.istore X19.here hx rfl (hb hby at_238) rfl (l' := #[iv p1, iv p2, iv p3, iv p4, .val (.long p5), .second, iv p6, iv l2, iv c2, iv (0 : Int32), iv (1 : Int32), iv a1, iv b1, iv sc, iv a2, iv b2, rv x4_y, rv x15_y, rv b16, rv b18, iv sm, .unset, .unset]) rfl (XS.iloadN X19.here hx rfl (hb hby at_240) rfl (XS.iload X19.here hx rfl (hb hby at_241) rfl kk_))) ?_
                    show own_GoesH _ _ _ _ _ _ _ _ _ T19 (mkF m 243 #[iv p1, iv p2, iv p3, iv p4, .val (.long p5), .second, iv p6, iv l2, iv c2, iv (0 : Int32), iv (1 : Int32), iv a1, iv b1, iv sc, iv a2, iv b2, rv x4_y, rv x15_y, rv b16, rv b18, iv sm, .unset, .unset] [(.int l2), (.int p1)])
                    have JE : ∀ (xp : Int32), (xp = own_b (p1 = l2 ∧ p2 = c2 ∧ (False))) → own_GoesH p e below s Z consts_1 (Q0 Z p1 p2 p3 p4 p5 p6 cs h0 n0) 32 1152 T19 (mkF m 262 #[iv p1, iv p2, iv p3, iv p4, .val (.long p5), .second, iv p6, iv l2, iv c2, iv (0 : Int32), iv (1 : Int32), iv a1, iv b1, iv sc, iv a2, iv b2, rv x4_y, rv x15_y, rv b16, rv b18, iv sm, .unset, .unset] [(.int xp)]) := by
                      intro xp hxp
                      show own_GoesH _ _ _ _ _ _ _ _ _ T19 (mkF m 262 #[iv p1, iv p2, iv p3, iv p4, .val (.long p5), .second, iv p6, iv l2, iv c2, iv (0 : Int32), iv (1 : Int32), iv a1, iv b1, iv sc, iv a2, iv b2, rv x4_y, rv x15_y, rv b16, rv b18, iv sm, .unset, .unset] [(.int xp)])
                      refine own_stH (fun _ kk_ => XS.istore X19.here hx rfl (hb hby at_262) rfl (l' := #[iv p1, iv p2, iv p3, iv p4, .val (.long p5), .second, iv p6, iv l2, iv c2, iv (0 : Int32), iv (1 : Int32), iv a1, iv b1, iv sc, iv a2, iv b2, rv x4_y, rv x15_y, rv b16, rv b18, iv sm, iv xp, .unset]) rfl (XS.aload X19.here hx rfl (hb hby at_264) rfl rfl (XS.astore X19.here hx rfl (hb hby at_266) rfl rfl (l' := #[iv p1, iv p2, iv p3, iv p4, .val (.long p5), .second, iv p6, iv l2, iv c2, iv (0 : Int32), iv (1 : Int32), iv a1, iv b1, iv sc, iv a2, iv b2, rv x4_y, rv x15_y, rv b16, rv b18, iv sm, iv xp, rv x4_y]) rfl (XS.aload X19.here hx rfl (hb hby at_268) rfl rfl (XS.aload X19.here hx rfl (hb hby at_270) rfl rfl kk_))))) ?_
                      show own_GoesH _ _ _ _ _ _ _ _ _ T19 (mkF m 272 #[iv p1, iv p2, iv p3, iv p4, .val (.long p5), .second, iv p6, iv l2, iv c2, iv (0 : Int32), iv (1 : Int32), iv a1, iv b1, iv sc, iv a2, iv b2, rv x4_y, rv x15_y, rv b16, rv b18, iv sm, iv xp, rv x4_y] [(.ref b18), (.ref b16)])
                      obtain ⟨cq20, kq20, q20a, q20b, q20c⟩ := isOf hZ rfl f19_9
                      obtain ⟨_, _, ⟨T20, L20, k20, n20⟩, -, X20, ⟨Lc20, hQ20, l20, y20, z20⟩, st20⟩ := X19.virtualBack hx (y := yy14) (z := yy14) hown (mvT hZ (own_w hw 44 rfl)) (mvT hZ (own_w hw 45 rfl)) (notFace_of_selects (args := #[]) (mvT hZ (own_w hw 47 rfl))) (mvT hZ (own_w hw 47 rfl)) (mvT hZ (own_w hw 46 rfl)) (by decide) (backOf (W := 0) (rm7_0_1 l Z a0 hw [] (b16) (b18) (p1) (p2) (l2) (c2) (x4_y) (x15_y) ((own_by a2)) (x4_d) (x15_d) (x4_kd) (x15_kd) (cs) T19.heap n0 Zs19 f19_10 f19_11 f19_12 f19_13 u19_0 u19_1 u19_2 f19_1 f19_2 f19_3 f19_5 f19_6 f19_7 f19_4 f19_8 f19_0 (by assumption) ne15_x4_y) hZ (own_w hw 48 rfl) (own_w hw 33 rfl) (by decide) (by decide)) q20a q20c (g := (mkF m 272 #[iv p1, iv p2, iv p3, iv p4, .val (.long p5), .second, iv p6, iv l2, iv c2, iv (0 : Int32), iv (1 : Int32), iv a1, iv b1, iv sc, iv a2, iv b2, rv x4_y, rv x15_y, rv b16, rv b18, iv sm, iv xp, rv x4_y] [(.ref b18), (.ref b16)])) rfl (by rw [hml]; rfl) (Steps.refl _) (argsL := [(.ref b18)]) (rest := []) (lenOf pd_10 rfl) rfl (by show 2 * 0 + _ ≤ _; exact Nat.le_of_eq rfl) (hb hby at_272) (fun _ _ => ⟨rfl, rfl, (by decide : 10 + 0 ≤ _), (by decide : 23 + 0 ≤ _)⟩)
                      dsimp only [Pt.U, Pt.locs, Pt.cells, Pt.slots] at X20 l20 y20 z20 st20 hQ20
                      subst l20 y20 z20
                      obtain ⟨rfl, Nq20, eq20⟩ := hQ20
                      have N20 := Fr.app N19 Nq20
                      refine own_stH (fun _ kk_ => st20.trans kk_) ?_
                      show own_GoesH _ _ _ _ _ _ _ _ _ T20 (mkF m 275 #[iv p1, iv p2, iv p3, iv p4, .val (.long p5), .second, iv p6, iv l2, iv c2, iv (0 : Int32), iv (1 : Int32), iv a1, iv b1, iv sc, iv a2, iv b2, rv x4_y, rv x15_y, rv b16, rv b18, iv sm, iv xp, rv x4_y] [(.int (own_b (p1 = l2 ∧ p2 = c2 ∧ (False))))])
                      refine own_stH (fun _ kk_ => XS.iload X20.here hx rfl (hb hby at_275) rfl (XS.icmpNo X20.here hx rfl (hb hby at_277) rfl (XT.ii_ne_f ((own_bc (own_and3 Iff.rfl Iff.rfl Iff.rfl)).trans hxp.symm)) (XS.aload X20.here hx rfl (hb hby at_280) rfl rfl (XS.aload X20.here hx rfl (hb hby at_282) rfl rfl kk_)))) ?_
                      show own_GoesH _ _ _ _ _ _ _ _ _ T20 (mkF m 284 #[iv p1, iv p2, iv p3, iv p4, .val (.long p5), .second, iv p6, iv l2, iv c2, iv (0 : Int32), iv (1 : Int32), iv a1, iv b1, iv sc, iv a2, iv b2, rv x4_y, rv x15_y, rv b16, rv b18, iv sm, iv xp, rv x4_y] [(.ref b16), (.ref b18)])
                      obtain ⟨cq21, kq21, q21a, q21b, q21c⟩ := isOf hZ eq20 f19_13
                      obtain ⟨_, _, ⟨T21, L21, k21, n21⟩, -, X21, ⟨Lc21, hQ21, l21, y21, z21⟩, st21⟩ := X20.virtualBack hx (y := yy14) (z := yy14) hown (mvT hZ (own_w hw 44 rfl)) (mvT hZ (own_w hw 45 rfl)) (notFace_of_selects (args := #[]) (mvT hZ (own_w hw 47 rfl))) (mvT hZ (own_w hw 47 rfl)) (mvT hZ (own_w hw 46 rfl)) (by decide) (backOf (W := 0) (rm7_1_0 l Z a0 hw [] (b18) (b16) (l2) (c2) (p1) (p2) (x15_y) (x4_y) ((own_by a2)) (x15_d) (x4_d) (x15_kd) (x4_kd) (cs) T19.heap n0 Zs19 u19_0 u19_1 u19_2 f19_9 f19_10 f19_11 f19_12 f19_5 f19_6 f19_7 f19_1 f19_2 f19_3 f19_8 f19_4 f19_0 (by assumption) (Ne.symm ne15_x4_y)) hZ (own_w hw 48 rfl) (own_w hw 33 rfl) (by decide) (by decide)) q21a q21c (g := (mkF m 284 #[iv p1, iv p2, iv p3, iv p4, .val (.long p5), .second, iv p6, iv l2, iv c2, iv (0 : Int32), iv (1 : Int32), iv a1, iv b1, iv sc, iv a2, iv b2, rv x4_y, rv x15_y, rv b16, rv b18, iv sm, iv xp, rv x4_y] [(.ref b16), (.ref b18)])) rfl (by rw [hml]; rfl) (Steps.refl _) (argsL := [(.ref b16)]) (rest := []) (lenOf pd_10 rfl) rfl (by show 2 * 0 + _ ≤ _; exact Nat.le_of_eq rfl) (hb hby at_284) (fun _ _ => ⟨rfl, eq20, (by decide : 10 + 0 ≤ _), (by decide : 23 + 0 ≤ _)⟩)
                      dsimp only [Pt.U, Pt.locs, Pt.cells, Pt.slots] at X21 l21 y21 z21 st21 hQ21
                      subst l21 y21 z21
                      obtain ⟨rfl, Nq21, eq21⟩ := hQ21
                      have N21 := Fr.app N20 Nq21
                      refine own_stH (fun _ kk_ => st21.trans kk_) ?_
                      show own_GoesH _ _ _ _ _ _ _ _ _ T21 (mkF m 287 #[iv p1, iv p2, iv p3, iv p4, .val (.long p5), .second, iv p6, iv l2, iv c2, iv (0 : Int32), iv (1 : Int32), iv a1, iv b1, iv sc, iv a2, iv b2, rv x4_y, rv x15_y, rv b16, rv b18, iv sm, iv xp, rv x4_y] [(.int (own_b (l2 = p1 ∧ c2 = p2 ∧ (False))))])
                      refine own_stH (fun _ kk_ => XS.iload X21.here hx rfl (hb hby at_287) rfl (XS.icmpNo X21.here hx rfl (hb hby at_289) rfl (XT.ii_ne_f ((own_bc (own_and3 own_sy own_sy Iff.rfl)).trans hxp.symm)) (XS.aload X21.here hx rfl (hb hby at_292) rfl rfl (XS.aload X21.here hx rfl (hb hby at_294) rfl rfl kk_)))) ?_
                      show own_GoesH _ _ _ _ _ _ _ _ _ T21 (mkF m 296 #[iv p1, iv p2, iv p3, iv p4, .val (.long p5), .second, iv p6, iv l2, iv c2, iv (0 : Int32), iv (1 : Int32), iv a1, iv b1, iv sc, iv a2, iv b2, rv x4_y, rv x15_y, rv b16, rv b18, iv sm, iv xp, rv x4_y] [(.ref b16), (.ref b16)])
                      obtain ⟨cq22, kq22, q22a, q22b, q22c⟩ := isOf hZ eq21 f19_9
                      obtain ⟨_, _, ⟨T22, L22, k22, n22⟩, -, X22, ⟨Lc22, hQ22, l22, y22, z22⟩, st22⟩ := X21.virtualBack hx (y := yy14) (z := yy14) hown (mvT hZ (own_w hw 44 rfl)) (mvT hZ (own_w hw 45 rfl)) (notFace_of_selects (args := #[]) (mvT hZ (own_w hw 47 rfl))) (mvT hZ (own_w hw 47 rfl)) (mvT hZ (own_w hw 46 rfl)) (by decide) (backOf (W := 0) (rm7s l Z a0 hw [] (b16) (p1) (p2) (x4_y) T19.heap n0 Zs19 f19_9 f19_10 f19_11 f19_12 f19_1) hZ (own_w hw 48 rfl) (own_w hw 33 rfl) (by decide) (by decide)) q22a q22c (g := (mkF m 296 #[iv p1, iv p2, iv p3, iv p4, .val (.long p5), .second, iv p6, iv l2, iv c2, iv (0 : Int32), iv (1 : Int32), iv a1, iv b1, iv sc, iv a2, iv b2, rv x4_y, rv x15_y, rv b16, rv b18, iv sm, iv xp, rv x4_y] [(.ref b16), (.ref b16)])) rfl (by rw [hml]; rfl) (Steps.refl _) (argsL := [(.ref b16)]) (rest := []) (lenOf pd_10 rfl) rfl (by show 2 * 0 + _ ≤ _; exact Nat.le_of_eq rfl) (hb hby at_296) (fun _ _ => ⟨rfl, eq21, (by decide : 10 + 0 ≤ _), (by decide : 23 + 0 ≤ _)⟩)
                      dsimp only [Pt.U, Pt.locs, Pt.cells, Pt.slots] at X22 l22 y22 z22 st22 hQ22
                      subst l22 y22 z22
                      obtain ⟨rfl, Nq22, eq22⟩ := hQ22
                      have N22 := Fr.app N21 Nq22
                      refine own_stH (fun _ kk_ => st22.trans kk_) ?_
                      show own_GoesH _ _ _ _ _ _ _ _ _ T22 (mkF m 299 #[iv p1, iv p2, iv p3, iv p4, .val (.long p5), .second, iv p6, iv l2, iv c2, iv (0 : Int32), iv (1 : Int32), iv a1, iv b1, iv sc, iv a2, iv b2, rv x4_y, rv x15_y, rv b16, rv b18, iv sm, iv xp, rv x4_y] [(.int (1 : Int32))])
                      refine own_stH (fun _ kk_ => XS.ifNo X22.here hx rfl (hb hby at_299) rfl (XT.i0_eq_f (by decide)) (XS.aload X22.here hx rfl (hb hby at_302) rfl rfl (XS.aconstNull X22.here hx rfl (hb hby at_304) kk_))) ?_
                      show own_GoesH _ _ _ _ _ _ _ _ _ T22 (mkF m 305 #[iv p1, iv p2, iv p3, iv p4, .val (.long p5), .second, iv p6, iv l2, iv c2, iv (0 : Int32), iv (1 : Int32), iv a1, iv b1, iv sc, iv a2, iv b2, rv x4_y, rv x15_y, rv b16, rv b18, iv sm, iv xp, rv x4_y] [.null, (.ref b16)])
                      obtain ⟨cq23, kq23, q23a, q23b, q23c⟩ := isOf hZ eq22 f19_9
                      obtain ⟨_, _, ⟨T23, L23, k23, n23⟩, -, X23, ⟨Lc23, hQ23, l23, y23, z23⟩, st23⟩ := X22.virtualBack hx (y := yy14) (z := yy14) hown (mvT hZ (own_w hw 44 rfl)) (mvT hZ (own_w hw 45 rfl)) (notFace_of_selects (args := #[]) (mvT hZ (own_w hw 47 rfl))) (mvT hZ (own_w hw 47 rfl)) (mvT hZ (own_w hw 46 rfl)) (by decide) (backOf (W := 0) (rm7n l Z a0 hw [] (b16) T19.heap n0 Zs19) hZ (own_w hw 48 rfl) (own_w hw 33 rfl) (by decide) (by decide)) q23a q23c (g := (mkF m 305 #[iv p1, iv p2, iv p3, iv p4, .val (.long p5), .second, iv p6, iv l2, iv c2, iv (0 : Int32), iv (1 : Int32), iv a1, iv b1, iv sc, iv a2, iv b2, rv x4_y, rv x15_y, rv b16, rv b18, iv sm, iv xp, rv x4_y] [.null, (.ref b16)])) rfl (by rw [hml]; rfl) (Steps.refl _) (argsL := [.null]) (rest := []) (lenOf pd_10 rfl) rfl (by show 2 * 0 + _ ≤ _; exact Nat.le_of_eq rfl) (hb hby at_305) (fun _ _ => ⟨rfl, eq22, (by decide : 10 + 0 ≤ _), (by decide : 23 + 0 ≤ _)⟩)
                      dsimp only [Pt.U, Pt.locs, Pt.cells, Pt.slots] at X23 l23 y23 z23 st23 hQ23
                      subst l23 y23 z23
                      obtain ⟨rfl, Nq23, eq23⟩ := hQ23
                      have N23 := Fr.app N22 Nq23
                      refine own_stH (fun _ kk_ => st23.trans kk_) ?_
                      show own_GoesH _ _ _ _ _ _ _ _ _ T23 (mkF m 308 #[iv p1, iv p2, iv p3, iv p4, .val (.long p5), .second, iv p6, iv l2, iv c2, iv (0 : Int32), iv (1 : Int32), iv a1, iv b1, iv sc, iv a2, iv b2, rv x4_y, rv x15_y, rv b16, rv b18, iv sm, iv xp, rv x4_y] [(.int (0 : Int32))])
                      refine own_stH (fun _ kk_ => XS.ifNo X23.here hx rfl (hb hby at_308) rfl (XT.i0_ne_f (by decide)) (XS.aload X23.here hx rfl (hb hby at_311) rfl rfl (XS.aload X23.here hx rfl (hb hby at_313) rfl rfl kk_))) ?_
                      show own_GoesH _ _ _ _ _ _ _ _ _ T23 (mkF m 315 #[iv p1, iv p2, iv p3, iv p4, .val (.long p5), .second, iv p6, iv l2, iv c2, iv (0 : Int32), iv (1 : Int32), iv a1, iv b1, iv sc, iv a2, iv b2, rv x4_y, rv x15_y, rv b16, rv b18, iv sm, iv xp, rv x4_y] [(.ref x4_y), (.ref b16)])
                      obtain ⟨cq24, kq24, q24a, q24b, q24c⟩ := isOf hZ eq23 f19_9
                      obtain ⟨_, _, ⟨T24, L24, k24, n24⟩, -, X24, ⟨Lc24, hQ24, l24, y24, z24⟩, st24⟩ := X23.virtualBack hx (y := yy14) (z := yy14) hown (mvT hZ (own_w hw 44 rfl)) (mvT hZ (own_w hw 45 rfl)) (notFace_of_selects (args := #[]) (mvT hZ (own_w hw 47 rfl))) (mvT hZ (own_w hw 47 rfl)) (mvT hZ (own_w hw 46 rfl)) (by decide) (backOf (W := 0) (rm7x l Z a0 hw [] (b16) (x4_y) T19.heap n0 Zs19 f19_1) hZ (own_w hw 48 rfl) (own_w hw 33 rfl) (by decide) (by decide)) q24a q24c (g := (mkF m 315 #[iv p1, iv p2, iv p3, iv p4, .val (.long p5), .second, iv p6, iv l2, iv c2, iv (0 : Int32), iv (1 : Int32), iv a1, iv b1, iv sc, iv a2, iv b2, rv x4_y, rv x15_y, rv b16, rv b18, iv sm, iv xp, rv x4_y] [(.ref x4_y), (.ref b16)])) rfl (by rw [hml]; rfl) (Steps.refl _) (argsL := [(.ref x4_y)]) (rest := []) (lenOf pd_10 rfl) rfl (by show 2 * 0 + _ ≤ _; exact Nat.le_of_eq rfl) (hb hby at_315) (fun _ _ => ⟨rfl, eq23, (by decide : 10 + 0 ≤ _), (by decide : 23 + 0 ≤ _)⟩)
                      dsimp only [Pt.U, Pt.locs, Pt.cells, Pt.slots] at X24 l24 y24 z24 st24 hQ24
                      subst l24 y24 z24
                      obtain ⟨rfl, Nq24, eq24⟩ := hQ24
                      have N24 := Fr.app N23 Nq24
                      refine own_stH (fun _ kk_ => st24.trans kk_) ?_
                      show own_GoesH _ _ _ _ _ _ _ _ _ T24 (mkF m 318 #[iv p1, iv p2, iv p3, iv p4, .val (.long p5), .second, iv p6, iv l2, iv c2, iv (0 : Int32), iv (1 : Int32), iv a1, iv b1, iv sc, iv a2, iv b2, rv x4_y, rv x15_y, rv b16, rv b18, iv sm, iv xp, rv x4_y] [(.int (0 : Int32))])
                      refine own_stH (fun _ kk_ => XS.ifNo X24.here hx rfl (hb hby at_318) rfl (XT.i0_ne_f (by decide)) (XS.iconst X24.here hx rfl (hb hby at_321) (XS.goto X24.here hx rfl (pc0 := 322) (pc' := 326) rfl (hb hby at_322) (by decide) (by decide) kk_))) ?_
                      show own_GoesH _ _ _ _ _ _ _ _ _ T24 (mkF m 326 #[iv p1, iv p2, iv p3, iv p4, .val (.long p5), .second, iv p6, iv l2, iv c2, iv (0 : Int32), iv (1 : Int32), iv a1, iv b1, iv sc, iv a2, iv b2, rv x4_y, rv x15_y, rv b16, rv b18, iv sm, iv xp, rv x4_y] [(.int (1 : Int32))])
                      refine own_endH (v := (some (.int (nar .boolean (1 : Int32))))) X24 hlk hS4 (by rw [eq24]; exact Ks19) hZ hEL hh eq24 C19 (fun h => by rw [Bd.returns] at h; cases h) (by decide) (by decide) ?_ (fun fs hr => retN X24 hx (t := .boolean) Bd.returns (by simp) (hb hby at_326) hr)
                      show Q0 Z p1 p2 p3 p4 p5 p6 cs h0 n0 (some (.int (nar .boolean (1 : Int32)))) T24.heap _
                      rw [eq24]
                      exact ⟨rfl, N24⟩
                    rcases Classical.em (p1 = l2) with r0 | r0
                    · refine own_stH (fun _ kk_ => XS.icmpNo X19.here hx rfl (hb hby at_243) rfl (XT.ii_ne_f r0) (XS.iloadN X19.here hx rfl (hb hby at_246) rfl (XS.iload X19.here hx rfl (hb hby at_247) rfl kk_))) ?_
                      show own_GoesH _ _ _ _ _ _ _ _ _ T19 (mkF m 249 #[iv p1, iv p2, iv p3, iv p4, .val (.long p5), .second, iv p6, iv l2, iv c2, iv (0 : Int32), iv (1 : Int32), iv a1, iv b1, iv sc, iv a2, iv b2, rv x4_y, rv x15_y, rv b16, rv b18, iv sm, .unset, .unset] [(.int c2), (.int p2)])
                      rcases Classical.em (p2 = c2) with r1 | r1
                      · refine own_stH (fun _ kk_ => XS.icmpNo X19.here hx rfl (hb hby at_249) rfl (XT.ii_ne_f r1) (XS.iload X19.here hx rfl (hb hby at_252) rfl kk_)) ?_
                        show own_GoesH _ _ _ _ _ _ _ _ _ T19 (mkF m 254 #[iv p1, iv p2, iv p3, iv p4, .val (.long p5), .second, iv p6, iv l2, iv c2, iv (0 : Int32), iv (1 : Int32), iv a1, iv b1, iv sc, iv a2, iv b2, rv x4_y, rv x15_y, rv b16, rv b18, iv sm, .unset, .unset] [(.int sm)])
                        rcases Classical.em (sm = (0 : Int32)) with r2 | r2
                        · refine own_stH (fun _ kk_ => XS.ifYes X19.here hx rfl (pc0 := 254) (pc' := 261) rfl (hb hby at_254) rfl (XT.i0_eq_t r2) (by decide) (by decide) (XS.iconst X19.here hx rfl (hb hby at_261) kk_)) ?_
                          show own_GoesH _ _ _ _ _ _ _ _ _ T19 (mkF m 262 #[iv p1, iv p2, iv p3, iv p4, .val (.long p5), .second, iv p6, iv l2, iv c2, iv (0 : Int32), iv (1 : Int32), iv a1, iv b1, iv sc, iv a2, iv b2, rv x4_y, rv x15_y, rv b16, rv b18, iv sm, .unset, .unset] [(.int (0 : Int32))])
                          exact JE ((0 : Int32)) (own_b0 (fun k => by rw [hsm, own_b1 k.2.2] at r2; exact absurd r2 (by decide))).symm
                        · refine own_stH (fun _ kk_ => XS.ifNo X19.here hx rfl (hb hby at_254) rfl (XT.i0_eq_f r2) (XS.iconst X19.here hx rfl (hb hby at_257) (XS.goto X19.here hx rfl (pc0 := 258) (pc' := 262) rfl (hb hby at_258) (by decide) (by decide) kk_))) ?_
                          show own_GoesH _ _ _ _ _ _ _ _ _ T19 (mkF m 262 #[iv p1, iv p2, iv p3, iv p4, .val (.long p5), .second, iv p6, iv l2, iv c2, iv (0 : Int32), iv (1 : Int32), iv a1, iv b1, iv sc, iv a2, iv b2, rv x4_y, rv x15_y, rv b16, rv b18, iv sm, .unset, .unset] [(.int (1 : Int32))])
                          exact JE ((1 : Int32)) (own_b1 ⟨r0, r1, Classical.byContradiction fun k => r2 (hsm.trans (own_b0 k))⟩).symm
                      · refine own_stH (fun _ kk_ => XS.icmpYes X19.here hx rfl (pc0 := 249) (pc' := 261) rfl (hb hby at_249) rfl (XT.ii_ne_t r1) (by decide) (by decide) (XS.iconst X19.here hx rfl (hb hby at_261) kk_)) ?_
                        show own_GoesH _ _ _ _ _ _ _ _ _ T19 (mkF m 262 #[iv p1, iv p2, iv p3, iv p4, .val (.long p5), .second, iv p6, iv l2, iv c2, iv (0 : Int32), iv (1 : Int32), iv a1, iv b1, iv sc, iv a2, iv b2, rv x4_y, rv x15_y, rv b16, rv b18, iv sm, .unset, .unset] [(.int (0 : Int32))])
                        exact JE ((0 : Int32)) (own_b0 (fun k => r1 k.2.1)).symm
                    · refine own_stH (fun _ kk_ => XS.icmpYes X19.here hx rfl (pc0 := 243) (pc' := 261) rfl (hb hby at_243) rfl (XT.ii_ne_t r0) (by decide) (by decide) (XS.iconst X19.here hx rfl (hb hby at_261) kk_)) ?_
                      show own_GoesH _ _ _ _ _ _ _ _ _ T19 (mkF m 262 #[iv p1, iv p2, iv p3, iv p4, .val (.long p5), .second, iv p6, iv l2, iv c2, iv (0 : Int32), iv (1 : Int32), iv a1, iv b1, iv sc, iv a2, iv b2, rv x4_y, rv x15_y, rv b16, rv b18, iv sm, .unset, .unset] [(.int (0 : Int32))])
                      exact JE ((0 : Int32)) (own_b0 (fun k => r0 k.1)).symm
                  refine own_stH (fun _ kk_ => XS.iload X19.here hx rfl (hb hby at_200) rfl (XS.iload X19.here hx rfl (hb hby at_202) rfl (XS.icmpYes X19.here hx rfl (pc0 := 204) (pc' := 237) rfl (hb hby at_204) rfl (XT.ii_ne_t (by decide)) (by decide) (by decide) (XS.iconst X19.here hx rfl (hb hby at_237) kk_)))) ?_
                  show own_GoesH _ _ _ _ _ _ _ _ _ T19 (mkF m 238 #[iv p1, iv p2, iv p3, iv p4, .val (.long p5), .second, iv p6, iv l2, iv c2, iv (0 : Int32), iv (1 : Int32), iv a1, iv b1, iv sc, iv a2, iv b2, rv x4_y, rv x15_y, rv b16, rv b18, .unset, .unset, .unset] [(.int (0 : Int32))])
                  exact JM ((0 : Int32)) (own_b0 not_false).symm
                · show own_GoesH _ _ _ _ _ _ _ _ _ T4 (mkF m 167 #[iv p1, iv p2, iv p3, iv p4, .val (.long p5), .second, iv p6, iv l2, iv c2, iv (0 : Int32), iv (2 : Int32), iv a1, iv b1, iv sc, iv a2, iv b2, rv x4_y, .unset, .unset, .unset, .unset, .unset, .unset] [(.int b2), (.int a2), (.int (2 : Int32))])
                  obtain ⟨_, _, ⟨T25, L25, k25, n25⟩, -, X25, ⟨Lc25, hQ25, l25, y25, z25⟩, st25⟩ := Jvm.LawKit.callS X4 hx (y := yy10) hown (mvT hZ (own_w hw 5 rfl)) (mvT hZ (own_w hw 6 rfl)) (mvT hZ (own_w hw 7 rfl)) (mvT hZ (own_w hw 8 rfl)) (by decide) (backOf (W := 0) (rm2_2 l Z a0 hw [] (a2) (b2) (cs) T4.heap n0 Zs4 f4_0 (by assumption) hi_a2 hi_b2) hZ (own_w hw 8 rfl) (own_w hw 7 rfl) (by decide) (by decide)) (g := (mkF m 167 #[iv p1, iv p2, iv p3, iv p4, .val (.long p5), .second, iv p6, iv l2, iv c2, iv (0 : Int32), iv (2 : Int32), iv a1, iv b1, iv sc, iv a2, iv b2, rv x4_y, .unset, .unset, .unset, .unset, .unset, .unset] [(.int b2), (.int a2), (.int (2 : Int32))])) rfl (by rw [hml]; rfl) (argsL := [(.int (2 : Int32)), (.int a2), (.int b2)]) (rest := []) (lenOf pd_12 rfl) rfl (by show 2 * 0 + _ ≤ _; exact Nat.le_of_eq rfl) (hb hby at_167) (fun _ _ => ⟨rfl, rfl, (by decide : 6 + 3 ≤ _), (by decide : 12 + 8 ≤ _)⟩)
                  dsimp only [Pt.U, Pt.locs, Pt.cells, Pt.slots] at X25 l25 y25 z25 st25 hQ25
                  subst l25 y25 z25
                  obtain ⟨x25_y, x25_d, x25_kd, rfl, Nq25, Kq25, u25_0, u25_1, u25_2, u25_3, u25_4⟩ := hQ25
                  have N25 := Fr.app N4 Nq25
                  have f25_0 := own_Sta_keep f4_0 Kq25 ns0
                  have f25_1 := u4_1.keep Kq25
                  have f25_2 := u4_2.keep Kq25 nin0
                  have f25_3 := u4_3.keep Kq25 nin0
                  have f25_4 := u4_4.keep Kq25 nin0
                  have C25 := C4.trans (CHr.keep Kq25 sf0 C4.1)
                  have Ks25 := Nat.le_trans (Nat.le_refl T4.heap.size) Kq25.1
                  have Zs25 : n0 ≤ T25.heap.size := Nat.le_trans Zs4 Kq25.1
                  have ne25_x4_y : x4_y ≠ x25_y := Nat.ne_of_lt (Nat.lt_of_lt_of_le u4_1.lt u25_0)
                  have ne25_x4_d : x4_d ≠ x25_y := Nat.ne_of_lt (Nat.lt_of_lt_of_le u4_4.lt u25_0)
                  have gg25_y : n0 ≤ x25_y := Nat.le_trans Zs4 u25_0
                  refine own_stH st25 ?_
                  show own_GoesH _ _ _ _ _ _ _ _ _ T25 (mkF m 170 #[iv p1, iv p2, iv p3, iv p4, .val (.long p5), .second, iv p6, iv l2, iv c2, iv (0 : Int32), iv (2 : Int32), iv a1, iv b1, iv sc, iv a2, iv b2, rv x4_y, .unset, .unset, .unset, .unset, .unset, .unset] [(.ref x25_y)])
                  refine own_stH (fun _ kk_ => XS.astore X25.here hx rfl (hb hby at_170) rfl rfl (l' := #[iv p1, iv p2, iv p3, iv p4, .val (.long p5), .second, iv p6, iv l2, iv c2, iv (0 : Int32), iv (2 : Int32), iv a1, iv b1, iv sc, iv a2, iv b2, rv x4_y, rv x25_y, .unset, .unset, .unset, .unset, .unset]) rfl kk_) ?_
                  show own_GoesH _ _ _ _ _ _ _ _ _ T25 (mkF m 172 #[iv p1, iv p2, iv p3, iv p4, .val (.long p5), .second, iv p6, iv l2, iv c2, iv (0 : Int32), iv (2 : Int32), iv a1, iv b1, iv sc, iv a2, iv b2, rv x4_y, rv x25_y, .unset, .unset, .unset, .unset, .unset] [])
                  obtain ⟨T26, h26, X26, e26, E26, A26, D26, -, st26⟩ := newO X25 hx hZ hown (own_w hw 31 rfl) (own_w hw 32 rfl) (own_w hw 33 rfl) rfl (g := (mkF m 172 #[iv p1, iv p2, iv p3, iv p4, .val (.long p5), .second, iv p6, iv l2, iv c2, iv (0 : Int32), iv (2 : Int32), iv a1, iv b1, iv sc, iv a2, iv b2, rv x4_y, rv x25_y, .unset, .unset, .unset, .unset, .unset] [])) rfl (hb hby at_172) (by decide) (by decide)
                  obtain ⟨b26, gx26⟩ : ∃ z, z = T25.heap.size := ⟨_, rfl⟩
                  rw [← gx26] at A26 D26 st26
                  have ne26_x4_y : x4_y ≠ b26 := Nat.ne_of_lt (Nat.lt_of_lt_of_eq f25_1.lt gx26.symm)
                  have ne26_x4_d : x4_d ≠ b26 := Nat.ne_of_lt (Nat.lt_of_lt_of_eq f25_4.lt gx26.symm)
                  have ne26_x25_y : x25_y ≠ b26 := Nat.ne_of_lt (Nat.lt_of_lt_of_eq u25_1.lt gx26.symm)
                  have ne26_x25_d : x25_d ≠ b26 := Nat.ne_of_lt (Nat.lt_of_lt_of_eq u25_4.lt gx26.symm)
                  have gg26 : n0 ≤ b26 := Nat.le_trans Zs25 (Nat.le_of_eq gx26.symm)
                  have f26_0 := f25_0.ext E26
                  have f26_1 := f25_1.ext E26
                  have f26_2 := f25_2.ext E26
                  have f26_3 := f25_3.ext E26
                  have f26_4 := f25_4.ext E26
                  have f26_5 := u25_1.ext E26
                  have f26_6 := u25_2.ext E26
                  have f26_7 := u25_3.ext E26
                  have f26_8 := u25_4.ext E26
                  have C26 := C25.trans (CHr.ext E26 C25.1)
                  have Zs26 : n0 ≤ h26.size := Nat.le_trans Zs25 E26.1
                  have Ks26 := Nat.le_trans Ks25 E26.1
                  have fn26_line : Fld Z h26 b26 "com/example/majra/majra/lang/Command$Refusal" "line" "I" (.int (0 : Int32)) := D26 (Or.inr (own_w hw 39 rfl)) (ty := .int) (by decide)
                  have fn26_column : Fld Z h26 b26 "com/example/majra/majra/lang/Command$Refusal" "column" "I" (.int (0 : Int32)) := D26 (Or.inr (own_w hw 41 rfl)) (ty := .int) (by decide)
                  have fn26_message : Fld Z h26 b26 "com/example/majra/majra/lang/Command$Refusal" "message" "Ljava/lang/String;" .null := D26 (Or.inr (own_w hw 43 rfl)) (ty := (.object "java/lang/String")) (by decide)
                  refine own_stH st26 ?_
                  show own_GoesH _ _ _ _ _ _ _ _ _ T26 (mkF m 175 #[iv p1, iv p2, iv p3, iv p4, .val (.long p5), .second, iv p6, iv l2, iv c2, iv (0 : Int32), iv (2 : Int32), iv a1, iv b1, iv sc, iv a2, iv b2, rv x4_y, rv x25_y, .unset, .unset, .unset, .unset, .unset] [(.ref b26)])
                  refine own_stH (fun _ kk_ => XS.dup X26.here hx rfl (hb hby at_175) rfl rfl (XS.iloadN X26.here hx rfl (hb hby at_176) rfl (XS.iloadN X26.here hx rfl (hb hby at_177) rfl (XS.aload X26.here hx rfl (hb hby at_178) rfl rfl kk_)))) ?_
                  show own_GoesH _ _ _ _ _ _ _ _ _ T26 (mkF m 180 #[iv p1, iv p2, iv p3, iv p4, .val (.long p5), .second, iv p6, iv l2, iv c2, iv (0 : Int32), iv (2 : Int32), iv a1, iv b1, iv sc, iv a2, iv b2, rv x4_y, rv x25_y, .unset, .unset, .unset, .unset, .unset] [(.ref x4_y), (.int p2), (.int p1), (.ref b26), (.ref b26)])
                  obtain ⟨_, _, ⟨T27, L27, k27, n27⟩, -, X27, ⟨Lc27, hQ27, l27, y27, z27⟩, st27⟩ := X26.specialBack hx (y := yy11) rfl hown (mvT hZ (own_w hw 34 rfl)) (mvT hZ (own_w hw 35 rfl)) (mvT hZ (own_w hw 36 rfl)) (by decide) (backOf (W := 1) (rm6 l Z a0 hw [] (b26) (p1) (p2) (x4_y) h26 n0 Zs26 A26 fn26_line fn26_column fn26_message gg26) hZ (own_w hw 36 rfl) (own_w hw 33 rfl) (by decide) (by decide)) (g := (mkF m 180 #[iv p1, iv p2, iv p3, iv p4, .val (.long p5), .second, iv p6, iv l2, iv c2, iv (0 : Int32), iv (2 : Int32), iv a1, iv b1, iv sc, iv a2, iv b2, rv x4_y, rv x25_y, .unset, .unset, .unset, .unset, .unset] [(.ref x4_y), (.int p2), (.int p1), (.ref b26), (.ref b26)])) rfl (by rw [hml]; rfl) (Steps.refl _) (a := b26) (argsL := [(.int p1), (.int p2), (.ref x4_y)]) (rest := [(.ref b26)]) (lenOf pd_13 rfl) rfl (by show 2 * 0 + _ ≤ _; exact Nat.le_of_eq rfl) (hb hby at_180) (fun _ _ => ⟨rfl, e26, (by decide : 10 + 0 ≤ _), (by decide : 23 + 0 ≤ _)⟩)
                  dsimp only [Pt.U, Pt.locs, Pt.cells, Pt.slots] at X27 l27 y27 z27 st27 hQ27
                  subst l27 y27 z27
                  obtain ⟨rfl, Nq27, Kq27, u27_0, u27_1, u27_2⟩ := hQ27
                  have N27 := Fr.app N25 Nq27
                  have f27_0 := own_Sta_keep f26_0 Kq27 (nsS A26.nostat ns0)
                  have f27_1 := f26_1.keep Kq27
                  have f27_2 := f26_2.keep Kq27 (ninS ne26_x4_y nin0)
                  have f27_3 := f26_3.keep Kq27 (ninS ne26_x4_y nin0)
                  have f27_4 := f26_4.keep Kq27 (ninS ne26_x4_d nin0)
                  have f27_5 := f26_5.keep Kq27
                  have f27_6 := f26_6.keep Kq27 (ninS ne26_x25_y nin0)
                  have f27_7 := f26_7.keep Kq27 (ninS ne26_x25_y nin0)
                  have f27_8 := f26_8.keep Kq27 (ninS ne26_x25_d nin0)
                  have f27_9 := A26.keep Kq27
                  have C27 := C26.trans (CHr.keep Kq27 (sfS (Safe.exa hZ.alike A26 (by decide) (by decide)) sf0) C26.1)
                  have Ks27 := Nat.le_trans Ks26 Kq27.1
                  have Zs27 : n0 ≤ T27.heap.size := Nat.le_trans Zs26 Kq27.1
                  refine own_stH (fun _ kk_ => st27.trans kk_) ?_
                  show own_GoesH _ _ _ _ _ _ _ _ _ T27 (mkF m 183 #[iv p1, iv p2, iv p3, iv p4, .val (.long p5), .second, iv p6, iv l2, iv c2, iv (0 : Int32), iv (2 : Int32), iv a1, iv b1, iv sc, iv a2, iv b2, rv x4_y, rv x25_y, .unset, .unset, .unset, .unset, .unset] [(.ref b26)])
                  refine own_stH (fun _ kk_ => XS.astore X27.here hx rfl (hb hby at_183) rfl rfl (l' := #[iv p1, iv p2, iv p3, iv p4, .val (.long p5), .second, iv p6, iv l2, iv c2, iv (0 : Int32), iv (2 : Int32), iv a1, iv b1, iv sc, iv a2, iv b2, rv x4_y, rv x25_y, rv b26, .unset, .unset, .unset, .unset]) rfl kk_) ?_
                  show own_GoesH _ _ _ _ _ _ _ _ _ T27 (mkF m 185 #[iv p1, iv p2, iv p3, iv p4, .val (.long p5), .second, iv p6, iv l2, iv c2, iv (0 : Int32), iv (2 : Int32), iv a1, iv b1, iv sc, iv a2, iv b2, rv x4_y, rv x25_y, rv b26, .unset, .unset, .unset, .unset] [])
                  obtain ⟨T28, h28, X28, e28, E28, A28, D28, -, st28⟩ := newO X27 hx hZ hown (own_w hw 31 rfl) (own_w hw 32 rfl) (own_w hw 33 rfl) rfl (g := (mkF m 185 #[iv p1, iv p2, iv p3, iv p4, .val (.long p5), .second, iv p6, iv l2, iv c2, iv (0 : Int32), iv (2 : Int32), iv a1, iv b1, iv sc, iv a2, iv b2, rv x4_y, rv x25_y, rv b26, .unset, .unset, .unset, .unset] [])) rfl (hb hby at_185) (by decide) (by decide)
                  obtain ⟨b28, gx28⟩ : ∃ z, z = T27.heap.size := ⟨_, rfl⟩
                  rw [← gx28] at A28 D28 st28
                  have ne28_x4_y : x4_y ≠ b28 := Nat.ne_of_lt (Nat.lt_of_lt_of_eq f27_1.lt gx28.symm)
                  have ne28_x4_d : x4_d ≠ b28 := Nat.ne_of_lt (Nat.lt_of_lt_of_eq f27_4.lt gx28.symm)
                  have ne28_x25_y : x25_y ≠ b28 := Nat.ne_of_lt (Nat.lt_of_lt_of_eq f27_5.lt gx28.symm)
                  have ne28_x25_d : x25_d ≠ b28 := Nat.ne_of_lt (Nat.lt_of_lt_of_eq f27_8.lt gx28.symm)
                  have ne28_b26 : b26 ≠ b28 := Nat.ne_of_lt (Nat.lt_of_lt_of_eq f27_9.lt gx28.symm)
                  have gg28 : n0 ≤ b28 := Nat.le_trans Zs27 (Nat.le_of_eq gx28.symm)
                  have f28_0 := f27_0.ext E28
                  have f28_1 := f27_1.ext E28
                  have f28_2 := f27_2.ext E28
                  have f28_3 := f27_3.ext E28
                  have f28_4 := f27_4.ext E28
                  have f28_5 := f27_5.ext E28
                  have f28_6 := f27_6.ext E28
                  have f28_7 := f27_7.ext E28
                  have f28_8 := f27_8.ext E28
                  have f28_9 := f27_9.ext E28
                  have f28_10 := u27_0.ext E28
                  have f28_11 := u27_1.ext E28
                  have f28_12 := u27_2.ext E28
                  have C28 := C27.trans (CHr.ext E28 C27.1)
                  have Zs28 : n0 ≤ h28.size := Nat.le_trans Zs27 E28.1
                  have Ks28 := Nat.le_trans Ks27 E28.1
                  have fn28_line : Fld Z h28 b28 "com/example/majra/majra/lang/Command$Refusal" "line" "I" (.int (0 : Int32)) := D28 (Or.inr (own_w hw 39 rfl)) (ty := .int) (by decide)
                  have fn28_column : Fld Z h28 b28 "com/example/majra/majra/lang/Command$Refusal" "column" "I" (.int (0 : Int32)) := D28 (Or.inr (own_w hw 41 rfl)) (ty := .int) (by decide)
                  have fn28_message : Fld Z h28 b28 "com/example/majra/majra/lang/Command$Refusal" "message" "Ljava/lang/String;" .null := D28 (Or.inr (own_w hw 43 rfl)) (ty := (.object "java/lang/String")) (by decide)
                  refine own_stH st28 ?_
                  show own_GoesH _ _ _ _ _ _ _ _ _ T28 (mkF m 188 #[iv p1, iv p2, iv p3, iv p4, .val (.long p5), .second, iv p6, iv l2, iv c2, iv (0 : Int32), iv (2 : Int32), iv a1, iv b1, iv sc, iv a2, iv b2, rv x4_y, rv x25_y, rv b26, .unset, .unset, .unset, .unset] [(.ref b28)])
                  refine own_stH (fun _ kk_ => XS.dup X28.here hx rfl (hb hby at_188) rfl rfl (XS.iload X28.here hx rfl (hb hby at_189) rfl (XS.iload X28.here hx rfl (hb hby at_191) rfl (XS.aload X28.here hx rfl (hb hby at_193) rfl rfl kk_)))) ?_
                  show own_GoesH _ _ _ _ _ _ _ _ _ T28 (mkF m 195 #[iv p1, iv p2, iv p3, iv p4, .val (.long p5), .second, iv p6, iv l2, iv c2, iv (0 : Int32), iv (2 : Int32), iv a1, iv b1, iv sc, iv a2, iv b2, rv x4_y, rv x25_y, rv b26, .unset, .unset, .unset, .unset] [(.ref x25_y), (.int c2), (.int l2), (.ref b28), (.ref b28)])
                  obtain ⟨_, _, ⟨T29, L29, k29, n29⟩, -, X29, ⟨Lc29, hQ29, l29, y29, z29⟩, st29⟩ := X28.specialBack hx (y := yy11) rfl hown (mvT hZ (own_w hw 34 rfl)) (mvT hZ (own_w hw 35 rfl)) (mvT hZ (own_w hw 36 rfl)) (by decide) (backOf (W := 1) (rm6 l Z a0 hw [] (b28) (l2) (c2) (x25_y) h28 n0 Zs28 A28 fn28_line fn28_column fn28_message gg28) hZ (own_w hw 36 rfl) (own_w hw 33 rfl) (by decide) (by decide)) (g := (mkF m 195 #[iv p1, iv p2, iv p3, iv p4, .val (.long p5), .second, iv p6, iv l2, iv c2, iv (0 : Int32), iv (2 : Int32), iv a1, iv b1, iv sc, iv a2, iv b2, rv x4_y, rv x25_y, rv b26, .unset, .unset, .unset, .unset] [(.ref x25_y), (.int c2), (.int l2), (.ref b28), (.ref b28)])) rfl (by rw [hml]; rfl) (Steps.refl _) (a := b28) (argsL := [(.int l2), (.int c2), (.ref x25_y)]) (rest := [(.ref b28)]) (lenOf pd_13 rfl) rfl (by show 2 * 0 + _ ≤ _; exact Nat.le_of_eq rfl) (hb hby at_195) (fun _ _ => ⟨rfl, e28, (by decide : 11 + 0 ≤ _), (by decide : 26 + 0 ≤ _)⟩)
                  dsimp only [Pt.U, Pt.locs, Pt.cells, Pt.slots] at X29 l29 y29 z29 st29 hQ29
                  subst l29 y29 z29
                  obtain ⟨rfl, Nq29, Kq29, u29_0, u29_1, u29_2⟩ := hQ29
                  have N29 := Fr.app N27 Nq29
                  have f29_0 := own_Sta_keep f28_0 Kq29 (nsS A28.nostat ns0)
                  have f29_1 := f28_1.keep Kq29
                  have f29_2 := f28_2.keep Kq29 (ninS ne28_x4_y nin0)
                  have f29_3 := f28_3.keep Kq29 (ninS ne28_x4_y nin0)
                  have f29_4 := f28_4.keep Kq29 (ninS ne28_x4_d nin0)
                  have f29_5 := f28_5.keep Kq29
                  have f29_6 := f28_6.keep Kq29 (ninS ne28_x25_y nin0)
                  have f29_7 := f28_7.keep Kq29 (ninS ne28_x25_y nin0)
                  have f29_8 := f28_8.keep Kq29 (ninS ne28_x25_d nin0)
                  have f29_9 := f28_9.keep Kq29
                  have f29_10 := f28_10.keep Kq29 (ninS ne28_b26 nin0)
                  have f29_11 := f28_11.keep Kq29 (ninS ne28_b26 nin0)
                  have f29_12 := f28_12.keep Kq29 (ninS ne28_b26 nin0)
                  have f29_13 := A28.keep Kq29
                  have C29 := C28.trans (CHr.keep Kq29 (sfS (Safe.exa hZ.alike A28 (by decide) (by decide)) sf0) C28.1)
                  have Ks29 := Nat.le_trans Ks28 Kq29.1
                  have Zs29 : n0 ≤ T29.heap.size := Nat.le_trans Zs28 Kq29.1
                  refine own_stH (fun _ kk_ => st29.trans kk_) ?_
                  show own_GoesH _ _ _ _ _ _ _ _ _ T29 (mkF m 198 #[iv p1, iv p2, iv p3, iv p4, .val (.long p5), .second, iv p6, iv l2, iv c2, iv (0 : Int32), iv (2 : Int32), iv a1, iv b1, iv sc, iv a2, iv b2, rv x4_y, rv x25_y, rv b26, .unset, .unset, .unset, .unset] [(.ref b28)])
                  refine own_stH (fun _ kk_ => XS.astore X29.here hx rfl (hb hby at_198) rfl rfl (l' := #[iv p1, iv p2, iv p3, iv p4, .val (.long p5), .second, iv p6, iv l2, iv c2, iv (0 : Int32), iv (2 : Int32), iv a1, iv b1, iv sc, iv a2, iv b2, rv x4_y, rv x25_y, rv b26, rv b28, .unset, .unset, .unset]) rfl kk_) ?_
                  show own_GoesH _ _ _ _ _ _ _ _ _ T29 (mkF m 200 #[iv p1, iv p2, iv p3, iv p4, .val (.long p5), .second, iv p6, iv l2, iv c2, iv (0 : Int32), iv (2 : Int32), iv a1, iv b1, iv sc, iv a2, iv b2, rv x4_y, rv x25_y, rv b26, rv b28, .unset, .unset, .unset] [])
                  have JM : ∀ (sm : Int32), (sm = own_b (False)) → own_GoesH p e below s Z consts_1 (Q0 Z p1 p2 p3 p4 p5 p6 cs h0 n0) 32 1152 T29 (mkF m 238 #[iv p1, iv p2, iv p3, iv p4, .val (.long p5), .second, iv p6, iv l2, iv c2, iv (0 : Int32), iv (2 : Int32), iv a1, iv b1, iv sc, iv a2, iv b2, rv x4_y, rv x25_y, rv b26, rv b28, .unset, .unset, .unset] [(.int sm)]) := by
                    intro sm hsm
                    show own_GoesH _ _ _ _ _ _ _ _ _ T29 (mkF m 238 #[iv p1, iv p2, iv p3, iv p4, .val (.long p5), .second, iv p6, iv l2, iv c2, iv (0 : Int32), iv (2 : Int32), iv a1, iv b1, iv sc, iv a2, iv b2, rv x4_y, rv x25_y, rv b26, rv b28, .unset, .unset, .unset] [(.int sm)])
                    refine own_stH (fun _ kk_ => XS.istore X29.here hx rfl (hb hby at_238) rfl (l' := #[iv p1, iv p2, iv p3, iv p4, .val (.long p5), .second, iv p6, iv l2, iv c2, iv (0 : Int32), iv (2 : Int32), iv a1, iv b1, iv sc, iv a2, iv b2, rv x4_y, rv x25_y, rv b26, rv b28, iv sm, .unset, .unset]) rfl (XS.iloadN X29.here hx rfl (hb hby at_240) rfl (XS.iload X29.here hx rfl (hb hby at_241) rfl kk_))) ?_
                    show own_GoesH _ _ _ _ _ _ _ _ _ T29 (mkF m 243 #[iv p1, iv p2, iv p3, iv p4, .val (.long p5), .second, iv p6, iv l2, iv c2, iv (0 : Int32), iv (2 : Int32), iv a1, iv b1, iv sc, iv a2, iv b2, rv x4_y, rv x25_y, rv b26, rv b28, iv sm, .unset, .unset] [(.int l2), (.int p1)])
                    have JE : ∀ (xp : Int32), (xp = own_b (p1 = l2 ∧ p2 = c2 ∧ (False))) → own_GoesH p e below s Z consts_1 (Q0 Z p1 p2 p3 p4 p5 p6 cs h0 n0) 32 1152 T29 (mkF m 262 #[iv p1, iv p2, iv p3, iv p4, .val (.long p5), .second, iv p6, iv l2, iv c2, iv (0 : Int32), iv (2 : Int32), iv a1, iv b1, iv sc, iv a2, iv b2, rv x4_y, rv x25_y, rv b26, rv b28, iv sm, .unset, .unset] [(.int xp)]) := by
                      intro xp hxp
                      show own_GoesH _ _ _ _ _ _ _ _ _ T29 (mkF m 262 #[iv p1, iv p2, iv p3, iv p4, .val (.long p5), .second, iv p6, iv l2, iv c2, iv (0 : Int32), iv (2 : Int32), iv a1, iv b1, iv sc, iv a2, iv b2, rv x4_y, rv x25_y, rv b26, rv b28, iv sm, .unset, .unset] [(.int xp)])
                      refine own_stH (fun _ kk_ => XS.istore X29.here hx rfl (hb hby at_262) rfl (l' := #[iv p1, iv p2, iv p3, iv p4, .val (.long p5), .second, iv p6, iv l2, iv c2, iv (0 : Int32), iv (2 : Int32), iv a1, iv b1, iv sc, iv a2, iv b2, rv x4_y, rv x25_y, rv b26, rv b28, iv sm, iv xp, .unset]) rfl (XS.aload X29.here hx rfl (hb hby at_264) rfl rfl (XS.astore X29.here hx rfl (hb hby at_266) rfl rfl (l' := #[iv p1, iv p2, iv p3, iv p4, .val (.long p5), .second, iv p6, iv l2, iv c2, iv (0 : Int32), iv (2 : Int32), iv a1, iv b1, iv sc, iv a2, iv b2, rv x4_y, rv x25_y, rv b26, rv b28, iv sm, iv xp, rv x4_y]) rfl (XS.aload X29.here hx rfl (hb hby at_268) rfl rfl (XS.aload X29.here hx rfl (hb hby at_270) rfl rfl kk_))))) ?_
                      show own_GoesH _ _ _ _ _ _ _ _ _ T29 (mkF m 272 #[iv p1, iv p2, iv p3, iv p4, .val (.long p5), .second, iv p6, iv l2, iv c2, iv (0 : Int32), iv (2 : Int32), iv a1, iv b1, iv sc, iv a2, iv b2, rv x4_y, rv x25_y, rv b26, rv b28, iv sm, iv xp, rv x4_y] [(.ref b28), (.ref b26)])
                      obtain ⟨cq30, kq30, q30a, q30b, q30c⟩ := isOf hZ rfl f29_9
                      obtain ⟨_, _, ⟨T30, L30, k30, n30⟩, -, X30, ⟨Lc30, hQ30, l30, y30, z30⟩, st30⟩ := X29.virtualBack hx (y := yy14) (z := yy14) hown (mvT hZ (own_w hw 44 rfl)) (mvT hZ (own_w hw 45 rfl)) (notFace_of_selects (args := #[]) (mvT hZ (own_w hw 47 rfl))) (mvT hZ (own_w hw 47 rfl)) (mvT hZ (own_w hw 46 rfl)) (by decide) (backOf (W := 0) (rm7_0_2 l Z a0 hw [] (b26) (b28) (p1) (p2) (l2) (c2) (x4_y) (x25_y) ((own_by a2)) ((own_by b2)) (x4_d) (x25_d) (x4_kd) (x25_kd) (cs) T29.heap n0 Zs29 f29_10 f29_11 f29_12 f29_13 u29_0 u29_1 u29_2 f29_1 f29_2 f29_3 f29_5 f29_6 f29_7 f29_4 f29_8 f29_0 (by assumption) ne25_x4_y) hZ (own_w hw 48 rfl) (own_w hw 33 rfl) (by decide) (by decide)) q30a q30c (g := (mkF m 272 #[iv p1, iv p2, iv p3, iv p4, .val (.long p5), .second, iv p6, iv l2, iv c2, iv (0 : Int32), iv (2 : Int32), iv a1, iv b1, iv sc, iv a2, iv b2, rv x4_y, rv x25_y, rv b26, rv b28, iv sm, iv xp, rv x4_y] [(.ref b28), (.ref b26)])) rfl (by rw [hml]; rfl) (Steps.refl _) (argsL := [(.ref b28)]) (rest := []) (lenOf pd_10 rfl) rfl (by show 2 * 0 + _ ≤ _; exact Nat.le_of_eq rfl) (hb hby at_272) (fun _ _ => ⟨rfl, rfl, (by decide : 11 + 0 ≤ _), (by decide : 26 + 0 ≤ _)⟩)
                      dsimp only [Pt.U, Pt.locs, Pt.cells, Pt.slots] at X30 l30 y30 z30 st30 hQ30
                      subst l30 y30 z30
                      obtain ⟨rfl, Nq30, eq30⟩ := hQ30
                      have N30 := Fr.app N29 Nq30
                      refine own_stH (fun _ kk_ => st30.trans kk_) ?_
                      show own_GoesH _ _ _ _ _ _ _ _ _ T30 (mkF m 275 #[iv p1, iv p2, iv p3, iv p4, .val (.long p5), .second, iv p6, iv l2, iv c2, iv (0 : Int32), iv (2 : Int32), iv a1, iv b1, iv sc, iv a2, iv b2, rv x4_y, rv x25_y, rv b26, rv b28, iv sm, iv xp, rv x4_y] [(.int (own_b (p1 = l2 ∧ p2 = c2 ∧ (False))))])
                      refine own_stH (fun _ kk_ => XS.iload X30.here hx rfl (hb hby at_275) rfl (XS.icmpNo X30.here hx rfl (hb hby at_277) rfl (XT.ii_ne_f ((own_bc (own_and3 Iff.rfl Iff.rfl Iff.rfl)).trans hxp.symm)) (XS.aload X30.here hx rfl (hb hby at_280) rfl rfl (XS.aload X30.here hx rfl (hb hby at_282) rfl rfl kk_)))) ?_
                      show own_GoesH _ _ _ _ _ _ _ _ _ T30 (mkF m 284 #[iv p1, iv p2, iv p3, iv p4, .val (.long p5), .second, iv p6, iv l2, iv c2, iv (0 : Int32), iv (2 : Int32), iv a1, iv b1, iv sc, iv a2, iv b2, rv x4_y, rv x25_y, rv b26, rv b28, iv sm, iv xp, rv x4_y] [(.ref b26), (.ref b28)])
                      obtain ⟨cq31, kq31, q31a, q31b, q31c⟩ := isOf hZ eq30 f29_13
                      obtain ⟨_, _, ⟨T31, L31, k31, n31⟩, -, X31, ⟨Lc31, hQ31, l31, y31, z31⟩, st31⟩ := X30.virtualBack hx (y := yy14) (z := yy14) hown (mvT hZ (own_w hw 44 rfl)) (mvT hZ (own_w hw 45 rfl)) (notFace_of_selects (args := #[]) (mvT hZ (own_w hw 47 rfl))) (mvT hZ (own_w hw 47 rfl)) (mvT hZ (own_w hw 46 rfl)) (by decide) (backOf (W := 0) (rm7_2_0 l Z a0 hw [] (b28) (b26) (l2) (c2) (p1) (p2) (x25_y) (x4_y) ((own_by a2)) ((own_by b2)) (x25_d) (x4_d) (x25_kd) (x4_kd) (cs) T29.heap n0 Zs29 u29_0 u29_1 u29_2 f29_9 f29_10 f29_11 f29_12 f29_5 f29_6 f29_7 f29_1 f29_2 f29_3 f29_8 f29_4 f29_0 (by assumption) (Ne.symm ne25_x4_y)) hZ (own_w hw 48 rfl) (own_w hw 33 rfl) (by decide) (by decide)) q31a q31c (g := (mkF m 284 #[iv p1, iv p2, iv p3, iv p4, .val (.long p5), .second, iv p6, iv l2, iv c2, iv (0 : Int32), iv (2 : Int32), iv a1, iv b1, iv sc, iv a2, iv b2, rv x4_y, rv x25_y, rv b26, rv b28, iv sm, iv xp, rv x4_y] [(.ref b26), (.ref b28)])) rfl (by rw [hml]; rfl) (Steps.refl _) (argsL := [(.ref b26)]) (rest := []) (lenOf pd_10 rfl) rfl (by show 2 * 0 + _ ≤ _; exact Nat.le_of_eq rfl) (hb hby at_284) (fun _ _ => ⟨rfl, eq30, (by decide : 11 + 0 ≤ _), (by decide : 26 + 0 ≤ _)⟩)
                      dsimp only [Pt.U, Pt.locs, Pt.cells, Pt.slots] at X31 l31 y31 z31 st31 hQ31
                      subst l31 y31 z31
                      obtain ⟨rfl, Nq31, eq31⟩ := hQ31
                      have N31 := Fr.app N30 Nq31
                      refine own_stH (fun _ kk_ => st31.trans kk_) ?_
                      show own_GoesH _ _ _ _ _ _ _ _ _ T31 (mkF m 287 #[iv p1, iv p2, iv p3, iv p4, .val (.long p5), .second, iv p6, iv l2, iv c2, iv (0 : Int32), iv (2 : Int32), iv a1, iv b1, iv sc, iv a2, iv b2, rv x4_y, rv x25_y, rv b26, rv b28, iv sm, iv xp, rv x4_y] [(.int (own_b (l2 = p1 ∧ c2 = p2 ∧ (False))))])
                      refine own_stH (fun _ kk_ => XS.iload X31.here hx rfl (hb hby at_287) rfl (XS.icmpNo X31.here hx rfl (hb hby at_289) rfl (XT.ii_ne_f ((own_bc (own_and3 own_sy own_sy Iff.rfl)).trans hxp.symm)) (XS.aload X31.here hx rfl (hb hby at_292) rfl rfl (XS.aload X31.here hx rfl (hb hby at_294) rfl rfl kk_)))) ?_
                      show own_GoesH _ _ _ _ _ _ _ _ _ T31 (mkF m 296 #[iv p1, iv p2, iv p3, iv p4, .val (.long p5), .second, iv p6, iv l2, iv c2, iv (0 : Int32), iv (2 : Int32), iv a1, iv b1, iv sc, iv a2, iv b2, rv x4_y, rv x25_y, rv b26, rv b28, iv sm, iv xp, rv x4_y] [(.ref b26), (.ref b26)])
                      obtain ⟨cq32, kq32, q32a, q32b, q32c⟩ := isOf hZ eq31 f29_9
                      obtain ⟨_, _, ⟨T32, L32, k32, n32⟩, -, X32, ⟨Lc32, hQ32, l32, y32, z32⟩, st32⟩ := X31.virtualBack hx (y := yy14) (z := yy14) hown (mvT hZ (own_w hw 44 rfl)) (mvT hZ (own_w hw 45 rfl)) (notFace_of_selects (args := #[]) (mvT hZ (own_w hw 47 rfl))) (mvT hZ (own_w hw 47 rfl)) (mvT hZ (own_w hw 46 rfl)) (by decide) (backOf (W := 0) (rm7s l Z a0 hw [] (b26) (p1) (p2) (x4_y) T29.heap n0 Zs29 f29_9 f29_10 f29_11 f29_12 f29_1) hZ (own_w hw 48 rfl) (own_w hw 33 rfl) (by decide) (by decide)) q32a q32c (g := (mkF m 296 #[iv p1, iv p2, iv p3, iv p4, .val (.long p5), .second, iv p6, iv l2, iv c2, iv (0 : Int32), iv (2 : Int32), iv a1, iv b1, iv sc, iv a2, iv b2, rv x4_y, rv x25_y, rv b26, rv b28, iv sm, iv xp, rv x4_y] [(.ref b26), (.ref b26)])) rfl (by rw [hml]; rfl) (Steps.refl _) (argsL := [(.ref b26)]) (rest := []) (lenOf pd_10 rfl) rfl (by show 2 * 0 + _ ≤ _; exact Nat.le_of_eq rfl) (hb hby at_296) (fun _ _ => ⟨rfl, eq31, (by decide : 11 + 0 ≤ _), (by decide : 26 + 0 ≤ _)⟩)
                      dsimp only [Pt.U, Pt.locs, Pt.cells, Pt.slots] at X32 l32 y32 z32 st32 hQ32
                      subst l32 y32 z32
                      obtain ⟨rfl, Nq32, eq32⟩ := hQ32
                      have N32 := Fr.app N31 Nq32
                      refine own_stH (fun _ kk_ => st32.trans kk_) ?_
                      show own_GoesH _ _ _ _ _ _ _ _ _ T32 (mkF m 299 #[iv p1, iv p2, iv p3, iv p4, .val (.long p5), .second, iv p6, iv l2, iv c2, iv (0 : Int32), iv (2 : Int32), iv a1, iv b1, iv sc, iv a2, iv b2, rv x4_y, rv x25_y, rv b26, rv b28, iv sm, iv xp, rv x4_y] [(.int (1 : Int32))])
                      refine own_stH (fun _ kk_ => XS.ifNo X32.here hx rfl (hb hby at_299) rfl (XT.i0_eq_f (by decide)) (XS.aload X32.here hx rfl (hb hby at_302) rfl rfl (XS.aconstNull X32.here hx rfl (hb hby at_304) kk_))) ?_
                      show own_GoesH _ _ _ _ _ _ _ _ _ T32 (mkF m 305 #[iv p1, iv p2, iv p3, iv p4, .val (.long p5), .second, iv p6, iv l2, iv c2, iv (0 : Int32), iv (2 : Int32), iv a1, iv b1, iv sc, iv a2, iv b2, rv x4_y, rv x25_y, rv b26, rv b28, iv sm, iv xp, rv x4_y] [.null, (.ref b26)])
                      obtain ⟨cq33, kq33, q33a, q33b, q33c⟩ := isOf hZ eq32 f29_9
                      obtain ⟨_, _, ⟨T33, L33, k33, n33⟩, -, X33, ⟨Lc33, hQ33, l33, y33, z33⟩, st33⟩ := X32.virtualBack hx (y := yy14) (z := yy14) hown (mvT hZ (own_w hw 44 rfl)) (mvT hZ (own_w hw 45 rfl)) (notFace_of_selects (args := #[]) (mvT hZ (own_w hw 47 rfl))) (mvT hZ (own_w hw 47 rfl)) (mvT hZ (own_w hw 46 rfl)) (by decide) (backOf (W := 0) (rm7n l Z a0 hw [] (b26) T29.heap n0 Zs29) hZ (own_w hw 48 rfl) (own_w hw 33 rfl) (by decide) (by decide)) q33a q33c (g := (mkF m 305 #[iv p1, iv p2, iv p3, iv p4, .val (.long p5), .second, iv p6, iv l2, iv c2, iv (0 : Int32), iv (2 : Int32), iv a1, iv b1, iv sc, iv a2, iv b2, rv x4_y, rv x25_y, rv b26, rv b28, iv sm, iv xp, rv x4_y] [.null, (.ref b26)])) rfl (by rw [hml]; rfl) (Steps.refl _) (argsL := [.null]) (rest := []) (lenOf pd_10 rfl) rfl (by show 2 * 0 + _ ≤ _; exact Nat.le_of_eq rfl) (hb hby at_305) (fun _ _ => ⟨rfl, eq32, (by decide : 11 + 0 ≤ _), (by decide : 26 + 0 ≤ _)⟩)
                      dsimp only [Pt.U, Pt.locs, Pt.cells, Pt.slots] at X33 l33 y33 z33 st33 hQ33
                      subst l33 y33 z33
                      obtain ⟨rfl, Nq33, eq33⟩ := hQ33
                      have N33 := Fr.app N32 Nq33
                      refine own_stH (fun _ kk_ => st33.trans kk_) ?_
                      show own_GoesH _ _ _ _ _ _ _ _ _ T33 (mkF m 308 #[iv p1, iv p2, iv p3, iv p4, .val (.long p5), .second, iv p6, iv l2, iv c2, iv (0 : Int32), iv (2 : Int32), iv a1, iv b1, iv sc, iv a2, iv b2, rv x4_y, rv x25_y, rv b26, rv b28, iv sm, iv xp, rv x4_y] [(.int (0 : Int32))])
                      refine own_stH (fun _ kk_ => XS.ifNo X33.here hx rfl (hb hby at_308) rfl (XT.i0_ne_f (by decide)) (XS.aload X33.here hx rfl (hb hby at_311) rfl rfl (XS.aload X33.here hx rfl (hb hby at_313) rfl rfl kk_))) ?_
                      show own_GoesH _ _ _ _ _ _ _ _ _ T33 (mkF m 315 #[iv p1, iv p2, iv p3, iv p4, .val (.long p5), .second, iv p6, iv l2, iv c2, iv (0 : Int32), iv (2 : Int32), iv a1, iv b1, iv sc, iv a2, iv b2, rv x4_y, rv x25_y, rv b26, rv b28, iv sm, iv xp, rv x4_y] [(.ref x4_y), (.ref b26)])
                      obtain ⟨cq34, kq34, q34a, q34b, q34c⟩ := isOf hZ eq33 f29_9
                      obtain ⟨_, _, ⟨T34, L34, k34, n34⟩, -, X34, ⟨Lc34, hQ34, l34, y34, z34⟩, st34⟩ := X33.virtualBack hx (y := yy14) (z := yy14) hown (mvT hZ (own_w hw 44 rfl)) (mvT hZ (own_w hw 45 rfl)) (notFace_of_selects (args := #[]) (mvT hZ (own_w hw 47 rfl))) (mvT hZ (own_w hw 47 rfl)) (mvT hZ (own_w hw 46 rfl)) (by decide) (backOf (W := 0) (rm7x l Z a0 hw [] (b26) (x4_y) T29.heap n0 Zs29 f29_1) hZ (own_w hw 48 rfl) (own_w hw 33 rfl) (by decide) (by decide)) q34a q34c (g := (mkF m 315 #[iv p1, iv p2, iv p3, iv p4, .val (.long p5), .second, iv p6, iv l2, iv c2, iv (0 : Int32), iv (2 : Int32), iv a1, iv b1, iv sc, iv a2, iv b2, rv x4_y, rv x25_y, rv b26, rv b28, iv sm, iv xp, rv x4_y] [(.ref x4_y), (.ref b26)])) rfl (by rw [hml]; rfl) (Steps.refl _) (argsL := [(.ref x4_y)]) (rest := []) (lenOf pd_10 rfl) rfl (by show 2 * 0 + _ ≤ _; exact Nat.le_of_eq rfl) (hb hby at_315) (fun _ _ => ⟨rfl, eq33, (by decide : 11 + 0 ≤ _), (by decide : 26 + 0 ≤ _)⟩)
                      dsimp only [Pt.U, Pt.locs, Pt.cells, Pt.slots] at X34 l34 y34 z34 st34 hQ34
                      subst l34 y34 z34
                      obtain ⟨rfl, Nq34, eq34⟩ := hQ34
                      have N34 := Fr.app N33 Nq34
                      refine own_stH (fun _ kk_ => st34.trans kk_) ?_
                      show own_GoesH _ _ _ _ _ _ _ _ _ T34 (mkF m 318 #[iv p1, iv p2, iv p3, iv p4, .val (.long p5), .second, iv p6, iv l2, iv c2, iv (0 : Int32), iv (2 : Int32), iv a1, iv b1, iv sc, iv a2, iv b2, rv x4_y, rv x25_y, rv b26, rv b28, iv sm, iv xp, rv x4_y] [(.int (0 : Int32))])
                      refine own_stH (fun _ kk_ => XS.ifNo X34.here hx rfl (hb hby at_318) rfl (XT.i0_ne_f (by decide)) (XS.iconst X34.here hx rfl (hb hby at_321) (XS.goto X34.here hx rfl (pc0 := 322) (pc' := 326) rfl (hb hby at_322) (by decide) (by decide) kk_))) ?_
                      show own_GoesH _ _ _ _ _ _ _ _ _ T34 (mkF m 326 #[iv p1, iv p2, iv p3, iv p4, .val (.long p5), .second, iv p6, iv l2, iv c2, iv (0 : Int32), iv (2 : Int32), iv a1, iv b1, iv sc, iv a2, iv b2, rv x4_y, rv x25_y, rv b26, rv b28, iv sm, iv xp, rv x4_y] [(.int (1 : Int32))])
                      refine own_endH (v := (some (.int (nar .boolean (1 : Int32))))) X34 hlk hS4 (by rw [eq34]; exact Ks29) hZ hEL hh eq34 C29 (fun h => by rw [Bd.returns] at h; cases h) (by decide) (by decide) ?_ (fun fs hr => retN X34 hx (t := .boolean) Bd.returns (by simp) (hb hby at_326) hr)
                      show Q0 Z p1 p2 p3 p4 p5 p6 cs h0 n0 (some (.int (nar .boolean (1 : Int32)))) T34.heap _
                      rw [eq34]
                      exact ⟨rfl, N34⟩
                    rcases Classical.em (p1 = l2) with r0 | r0
                    · refine own_stH (fun _ kk_ => XS.icmpNo X29.here hx rfl (hb hby at_243) rfl (XT.ii_ne_f r0) (XS.iloadN X29.here hx rfl (hb hby at_246) rfl (XS.iload X29.here hx rfl (hb hby at_247) rfl kk_))) ?_
                      show own_GoesH _ _ _ _ _ _ _ _ _ T29 (mkF m 249 #[iv p1, iv p2, iv p3, iv p4, .val (.long p5), .second, iv p6, iv l2, iv c2, iv (0 : Int32), iv (2 : Int32), iv a1, iv b1, iv sc, iv a2, iv b2, rv x4_y, rv x25_y, rv b26, rv b28, iv sm, .unset, .unset] [(.int c2), (.int p2)])
                      rcases Classical.em (p2 = c2) with r1 | r1
                      · refine own_stH (fun _ kk_ => XS.icmpNo X29.here hx rfl (hb hby at_249) rfl (XT.ii_ne_f r1) (XS.iload X29.here hx rfl (hb hby at_252) rfl kk_)) ?_
                        show own_GoesH _ _ _ _ _ _ _ _ _ T29 (mkF m 254 #[iv p1, iv p2, iv p3, iv p4, .val (.long p5), .second, iv p6, iv l2, iv c2, iv (0 : Int32), iv (2 : Int32), iv a1, iv b1, iv sc, iv a2, iv b2, rv x4_y, rv x25_y, rv b26, rv b28, iv sm, .unset, .unset] [(.int sm)])
                        rcases Classical.em (sm = (0 : Int32)) with r2 | r2
                        · refine own_stH (fun _ kk_ => XS.ifYes X29.here hx rfl (pc0 := 254) (pc' := 261) rfl (hb hby at_254) rfl (XT.i0_eq_t r2) (by decide) (by decide) (XS.iconst X29.here hx rfl (hb hby at_261) kk_)) ?_
                          show own_GoesH _ _ _ _ _ _ _ _ _ T29 (mkF m 262 #[iv p1, iv p2, iv p3, iv p4, .val (.long p5), .second, iv p6, iv l2, iv c2, iv (0 : Int32), iv (2 : Int32), iv a1, iv b1, iv sc, iv a2, iv b2, rv x4_y, rv x25_y, rv b26, rv b28, iv sm, .unset, .unset] [(.int (0 : Int32))])
                          exact JE ((0 : Int32)) (own_b0 (fun k => by rw [hsm, own_b1 k.2.2] at r2; exact absurd r2 (by decide))).symm
                        · refine own_stH (fun _ kk_ => XS.ifNo X29.here hx rfl (hb hby at_254) rfl (XT.i0_eq_f r2) (XS.iconst X29.here hx rfl (hb hby at_257) (XS.goto X29.here hx rfl (pc0 := 258) (pc' := 262) rfl (hb hby at_258) (by decide) (by decide) kk_))) ?_
                          show own_GoesH _ _ _ _ _ _ _ _ _ T29 (mkF m 262 #[iv p1, iv p2, iv p3, iv p4, .val (.long p5), .second, iv p6, iv l2, iv c2, iv (0 : Int32), iv (2 : Int32), iv a1, iv b1, iv sc, iv a2, iv b2, rv x4_y, rv x25_y, rv b26, rv b28, iv sm, .unset, .unset] [(.int (1 : Int32))])
                          exact JE ((1 : Int32)) (own_b1 ⟨r0, r1, Classical.byContradiction fun k => r2 (hsm.trans (own_b0 k))⟩).symm
                      · refine own_stH (fun _ kk_ => XS.icmpYes X29.here hx rfl (pc0 := 249) (pc' := 261) rfl (hb hby at_249) rfl (XT.ii_ne_t r1) (by decide) (by decide) (XS.iconst X29.here hx rfl (hb hby at_261) kk_)) ?_
                        show own_GoesH _ _ _ _ _ _ _ _ _ T29 (mkF m 262 #[iv p1, iv p2, iv p3, iv p4, .val (.long p5), .second, iv p6, iv l2, iv c2, iv (0 : Int32), iv (2 : Int32), iv a1, iv b1, iv sc, iv a2, iv b2, rv x4_y, rv x25_y, rv b26, rv b28, iv sm, .unset, .unset] [(.int (0 : Int32))])
                        exact JE ((0 : Int32)) (own_b0 (fun k => r1 k.2.1)).symm
                    · refine own_stH (fun _ kk_ => XS.icmpYes X29.here hx rfl (pc0 := 243) (pc' := 261) rfl (hb hby at_243) rfl (XT.ii_ne_t r0) (by decide) (by decide) (XS.iconst X29.here hx rfl (hb hby at_261) kk_)) ?_
                      show own_GoesH _ _ _ _ _ _ _ _ _ T29 (mkF m 262 #[iv p1, iv p2, iv p3, iv p4, .val (.long p5), .second, iv p6, iv l2, iv c2, iv (0 : Int32), iv (2 : Int32), iv a1, iv b1, iv sc, iv a2, iv b2, rv x4_y, rv x25_y, rv b26, rv b28, iv sm, .unset, .unset] [(.int (0 : Int32))])
                      exact JE ((0 : Int32)) (own_b0 (fun k => r0 k.1)).symm
                  refine own_stH (fun _ kk_ => XS.iload X29.here hx rfl (hb hby at_200) rfl (XS.iload X29.here hx rfl (hb hby at_202) rfl (XS.icmpYes X29.here hx rfl (pc0 := 204) (pc' := 237) rfl (hb hby at_204) rfl (XT.ii_ne_t (by decide)) (by decide) (by decide) (XS.iconst X29.here hx rfl (hb hby at_237) kk_)))) ?_
                  show own_GoesH _ _ _ _ _ _ _ _ _ T29 (mkF m 238 #[iv p1, iv p2, iv p3, iv p4, .val (.long p5), .second, iv p6, iv l2, iv c2, iv (0 : Int32), iv (2 : Int32), iv a1, iv b1, iv sc, iv a2, iv b2, rv x4_y, rv x25_y, rv b26, rv b28, .unset, .unset, .unset] [(.int (0 : Int32))])
                  exact JM ((0 : Int32)) (own_b0 not_false).symm
              · show own_GoesH _ _ _ _ _ _ _ _ _ T2 (mkF m 156 #[iv p1, iv p2, iv p3, iv p4, .val (.long p5), .second, iv p6, iv l2, iv c2, iv (1 : Int32), iv n2, iv a1, iv b1, iv sc, iv a2, iv b2, .unset, .unset, .unset, .unset, .unset, .unset, .unset] [(.int b1), (.int a1), (.int (1 : Int32))])
                obtain ⟨_, _, ⟨T35, L35, k35, n35⟩, -, X35, ⟨Lc35, hQ35, l35, y35, z35⟩, st35⟩ := Jvm.LawKit.callS X2 hx (y := yy10) hown (mvT hZ (own_w hw 5 rfl)) (mvT hZ (own_w hw 6 rfl)) (mvT hZ (own_w hw 7 rfl)) (mvT hZ (own_w hw 8 rfl)) (by decide) (backOf (W := 0) (rm2_1 l Z a0 hw [] (a1) (b1) (cs) h2 n0 Zs2 j2_0 (by assumption) hi_a1) hZ (own_w hw 8 rfl) (own_w hw 7 rfl) (by decide) (by decide)) (g := (mkF m 156 #[iv p1, iv p2, iv p3, iv p4, .val (.long p5), .second, iv p6, iv l2, iv c2, iv (1 : Int32), iv n2, iv a1, iv b1, iv sc, iv a2, iv b2, .unset, .unset, .unset, .unset, .unset, .unset, .unset] [(.int b1), (.int a1), (.int (1 : Int32))])) rfl (by rw [hml]; rfl) (argsL := [(.int (1 : Int32)), (.int a1), (.int b1)]) (rest := []) (lenOf pd_12 rfl) rfl (by show 2 * 0 + _ ≤ _; exact Nat.le_of_eq rfl) (hb hby at_156) (fun _ _ => ⟨rfl, e2, (by decide : 0 + 2 ≤ _), (by decide : 0 + 5 ≤ _)⟩)
                dsimp only [Pt.U, Pt.locs, Pt.cells, Pt.slots] at X35 l35 y35 z35 st35 hQ35
                subst l35 y35 z35
                obtain ⟨x35_y, x35_d, x35_kd, rfl, Nq35, Kq35, u35_0, u35_1, u35_2, u35_3, u35_4⟩ := hQ35
                have N35 := Fr.app N2 Nq35
                have f35_0 := own_Sta_keep j2_0 Kq35 ns0
                have C35 := C2.trans (CHr.keep Kq35 sf0 C2.1)
                have Ks35 := Nat.le_trans Ks2 Kq35.1
                have Zs35 : n0 ≤ T35.heap.size := Nat.le_trans Zs2 Kq35.1
                have gg35_y : n0 ≤ x35_y := Nat.le_trans Zs2 u35_0
                refine own_stH st35 ?_
                show own_GoesH _ _ _ _ _ _ _ _ _ T35 (mkF m 159 #[iv p1, iv p2, iv p3, iv p4, .val (.long p5), .second, iv p6, iv l2, iv c2, iv (1 : Int32), iv n2, iv a1, iv b1, iv sc, iv a2, iv b2, .unset, .unset, .unset, .unset, .unset, .unset, .unset] [(.ref x35_y)])
                refine own_stH (fun _ kk_ => XS.astore X35.here hx rfl (hb hby at_159) rfl rfl (l' := #[iv p1, iv p2, iv p3, iv p4, .val (.long p5), .second, iv p6, iv l2, iv c2, iv (1 : Int32), iv n2, iv a1, iv b1, iv sc, iv a2, iv b2, rv x35_y, .unset, .unset, .unset, .unset, .unset, .unset]) rfl (XS.iload X35.here hx rfl (hb hby at_161) rfl (XS.iload X35.here hx rfl (hb hby at_163) rfl (XS.iload X35.here hx rfl (hb hby at_165) rfl kk_)))) ?_
                show own_GoesH _ _ _ _ _ _ _ _ _ T35 (mkF m 167 #[iv p1, iv p2, iv p3, iv p4, .val (.long p5), .second, iv p6, iv l2, iv c2, iv (1 : Int32), iv n2, iv a1, iv b1, iv sc, iv a2, iv b2, rv x35_y, .unset, .unset, .unset, .unset, .unset, .unset] [(.int b2), (.int a2), (.int n2)])
                rcases j2_1 with rfl | rfl | rfl
                · show own_GoesH _ _ _ _ _ _ _ _ _ T35 (mkF m 167 #[iv p1, iv p2, iv p3, iv p4, .val (.long p5), .second, iv p6, iv l2, iv c2, iv (1 : Int32), iv (0 : Int32), iv a1, iv b1, iv sc, iv a2, iv b2, rv x35_y, .unset, .unset, .unset, .unset, .unset, .unset] [(.int b2), (.int a2), (.int (0 : Int32))])
                  obtain ⟨_, _, ⟨T36, L36, k36, n36⟩, -, X36, hSn36, hgn36, ⟨Lc36, hQ36, l36, y36, z36, hC36⟩, st36⟩ := callSS X35 hx (y := yy10) hown (mvT hZ (own_w hw 5 rfl)) (mvT hZ (own_w hw 6 rfl)) (mvT hZ (own_w hw 7 rfl)) (mvT hZ (own_w hw 8 rfl)) (by decide) (own_backH (sl := []) (W := 0) (rm2_0 l Z a0 hw [] hEL (a2) (b2) (cs) T35.heap n0 Zs35 f35_0 (by assumption)) hZ (own_w hw 8 rfl) (own_w hw 7 rfl) (by decide) (by decide) hEL C35.1 own_sn) (g := (mkF m 167 #[iv p1, iv p2, iv p3, iv p4, .val (.long p5), .second, iv p6, iv l2, iv c2, iv (1 : Int32), iv (0 : Int32), iv a1, iv b1, iv sc, iv a2, iv b2, rv x35_y, .unset, .unset, .unset, .unset, .unset, .unset] [(.int b2), (.int a2), (.int (0 : Int32))])) rfl (by rw [hml]; rfl) (argsL := [(.int (0 : Int32)), (.int a2), (.int b2)]) (rest := []) (lenOf pd_12 rfl) rfl (by show 2 * 0 + _ ≤ _; exact Nat.le_of_eq rfl) (hb hby at_167) (fun _ _ => ⟨rfl, rfl, (by decide : 2 + 6 ≤ _), (by decide : 5 + 12 ≤ _)⟩)
                  dsimp only [Pt.U, Pt.locs, Pt.cells, Pt.slots] at X36 l36 y36 z36 st36 hQ36 hSn36 hgn36 hC36
                  subst l36 y36 z36
                  have X36 : Stand p l e room_1 (s.setVm T36.vm) m _ below meth c T36 _ _ _ := X36
                  have hS36 := foldS hS2 Ks35 hSn36 hgn36
                  have hown : (s.setVm T36.vm).vm.findClass "com/example/majra/majra/lang/RefusalEqualsPinLaw" = some m.cls := by rw [show (s.setVm T36.vm).vm = T36.vm from rfl, hSn36.1.alike.findClass]; exact hown
                  obtain ⟨x36_y, x36_d, x36_kd, rfl, Nq36, Kq36, u36_0, u36_1, u36_2, u36_3, u36_4⟩ := hQ36
                  have N36 := Fr.app N35 Nq36
                  have hZ : Z.Warmed39 (s.setVm T36.vm).vm := State.Warmed39.trans (t := (s.setVm vm2)) hZ hSn36.1
                  have f36_0 := own_Sta_keep f35_0 Kq36 ns0
                  have f36_1 := u35_1.keep Kq36
                  have f36_2 := u35_2.keep Kq36 nin0
                  have f36_3 := u35_3.keep Kq36 nin0
                  have f36_4 := u35_4.keep Kq36 nin0
                  have C36 := C35.trans hC36
                  have Ks36 := Nat.le_trans Ks35 Kq36.1
                  have Zs36 : n0 ≤ T36.heap.size := Nat.le_trans Zs35 Kq36.1
                  have ne36_x35_y : x35_y ≠ x36_y := Nat.ne_of_lt (Nat.lt_of_lt_of_le u35_1.lt u36_0)
                  have ne36_x35_d : x35_d ≠ x36_y := Nat.ne_of_lt (Nat.lt_of_lt_of_le u35_4.lt u36_0)
                  have gg36_y : n0 ≤ x36_y := Nat.le_trans Zs35 u36_0
                  refine own_stH (fun _ kk_ => st36.trans kk_) ?_
                  show own_GoesH _ _ _ _ _ _ _ _ _ T36 (mkF m 170 #[iv p1, iv p2, iv p3, iv p4, .val (.long p5), .second, iv p6, iv l2, iv c2, iv (1 : Int32), iv (0 : Int32), iv a1, iv b1, iv sc, iv a2, iv b2, rv x35_y, .unset, .unset, .unset, .unset, .unset, .unset] [(.ref x36_y)])
                  refine own_stH (fun _ kk_ => XS.astore X36.here hx rfl (hb hby at_170) rfl rfl (l' := #[iv p1, iv p2, iv p3, iv p4, .val (.long p5), .second, iv p6, iv l2, iv c2, iv (1 : Int32), iv (0 : Int32), iv a1, iv b1, iv sc, iv a2, iv b2, rv x35_y, rv x36_y, .unset, .unset, .unset, .unset, .unset]) rfl kk_) ?_
                  show own_GoesH _ _ _ _ _ _ _ _ _ T36 (mkF m 172 #[iv p1, iv p2, iv p3, iv p4, .val (.long p5), .second, iv p6, iv l2, iv c2, iv (1 : Int32), iv (0 : Int32), iv a1, iv b1, iv sc, iv a2, iv b2, rv x35_y, rv x36_y, .unset, .unset, .unset, .unset, .unset] [])
                  obtain ⟨T37, h37, X37, e37, E37, A37, D37, -, st37⟩ := newO X36 hx hZ hown (own_w hw 31 rfl) (own_w hw 32 rfl) (own_w hw 33 rfl) rfl (g := (mkF m 172 #[iv p1, iv p2, iv p3, iv p4, .val (.long p5), .second, iv p6, iv l2, iv c2, iv (1 : Int32), iv (0 : Int32), iv a1, iv b1, iv sc, iv a2, iv b2, rv x35_y, rv x36_y, .unset, .unset, .unset, .unset, .unset] [])) rfl (hb hby at_172) (by decide) (by decide)
                  obtain ⟨b37, gx37⟩ : ∃ z, z = T36.heap.size := ⟨_, rfl⟩
                  rw [← gx37] at A37 D37 st37
                  have ne37_x35_y : x35_y ≠ b37 := Nat.ne_of_lt (Nat.lt_of_lt_of_eq f36_1.lt gx37.symm)
                  have ne37_x35_d : x35_d ≠ b37 := Nat.ne_of_lt (Nat.lt_of_lt_of_eq f36_4.lt gx37.symm)
                  have ne37_x36_y : x36_y ≠ b37 := Nat.ne_of_lt (Nat.lt_of_lt_of_eq u36_1.lt gx37.symm)
                  have ne37_x36_d : x36_d ≠ b37 := Nat.ne_of_lt (Nat.lt_of_lt_of_eq u36_4.lt gx37.symm)
                  have gg37 : n0 ≤ b37 := Nat.le_trans Zs36 (Nat.le_of_eq gx37.symm)
                  have f37_0 := f36_0.ext E37
                  have f37_1 := f36_1.ext E37
                  have f37_2 := f36_2.ext E37
                  have f37_3 := f36_3.ext E37
                  have f37_4 := f36_4.ext E37
                  have f37_5 := u36_1.ext E37
                  have f37_6 := u36_2.ext E37
                  have f37_7 := u36_3.ext E37
                  have f37_8 := u36_4.ext E37
                  have C37 := C36.trans (CHr.ext E37 C36.1)
                  have Zs37 : n0 ≤ h37.size := Nat.le_trans Zs36 E37.1
                  have Ks37 := Nat.le_trans (Nat.le_refl T36.heap.size) E37.1
                  have fn37_line : Fld Z h37 b37 "com/example/majra/majra/lang/Command$Refusal" "line" "I" (.int (0 : Int32)) := D37 (Or.inr (own_w hw 39 rfl)) (ty := .int) (by decide)
                  have fn37_column : Fld Z h37 b37 "com/example/majra/majra/lang/Command$Refusal" "column" "I" (.int (0 : Int32)) := D37 (Or.inr (own_w hw 41 rfl)) (ty := .int) (by decide)
                  have fn37_message : Fld Z h37 b37 "com/example/majra/majra/lang/Command$Refusal" "message" "Ljava/lang/String;" .null := D37 (Or.inr (own_w hw 43 rfl)) (ty := (.object "java/lang/String")) (by decide)
                  refine own_stH st37 ?_
                  show own_GoesH _ _ _ _ _ _ _ _ _ T37 (mkF m 175 #[iv p1, iv p2, iv p3, iv p4, .val (.long p5), .second, iv p6, iv l2, iv c2, iv (1 : Int32), iv (0 : Int32), iv a1, iv b1, iv sc, iv a2, iv b2, rv x35_y, rv x36_y, .unset, .unset, .unset, .unset, .unset] [(.ref b37)])
                  refine own_stH (fun _ kk_ => XS.dup X37.here hx rfl (hb hby at_175) rfl rfl (XS.iloadN X37.here hx rfl (hb hby at_176) rfl (XS.iloadN X37.here hx rfl (hb hby at_177) rfl (XS.aload X37.here hx rfl (hb hby at_178) rfl rfl kk_)))) ?_
                  show own_GoesH _ _ _ _ _ _ _ _ _ T37 (mkF m 180 #[iv p1, iv p2, iv p3, iv p4, .val (.long p5), .second, iv p6, iv l2, iv c2, iv (1 : Int32), iv (0 : Int32), iv a1, iv b1, iv sc, iv a2, iv b2, rv x35_y, rv x36_y, .unset, .unset, .unset, .unset, .unset] [(.ref x35_y), (.int p2), (.int p1), (.ref b37), (.ref b37)])
                  obtain ⟨_, _, ⟨T38, L38, k38, n38⟩, -, X38, ⟨Lc38, hQ38, l38, y38, z38⟩, st38⟩ := X37.specialBack hx (y := yy11) rfl hown (mvT hZ (own_w hw 34 rfl)) (mvT hZ (own_w hw 35 rfl)) (mvT hZ (own_w hw 36 rfl)) (by decide) (backOf (W := 1) (rm6 l Z a0 hw [] (b37) (p1) (p2) (x35_y) h37 n0 Zs37 A37 fn37_line fn37_column fn37_message gg37) hZ (own_w hw 36 rfl) (own_w hw 33 rfl) (by decide) (by decide)) (g := (mkF m 180 #[iv p1, iv p2, iv p3, iv p4, .val (.long p5), .second, iv p6, iv l2, iv c2, iv (1 : Int32), iv (0 : Int32), iv a1, iv b1, iv sc, iv a2, iv b2, rv x35_y, rv x36_y, .unset, .unset, .unset, .unset, .unset] [(.ref x35_y), (.int p2), (.int p1), (.ref b37), (.ref b37)])) rfl (by rw [hml]; rfl) (Steps.refl _) (a := b37) (argsL := [(.int p1), (.int p2), (.ref x35_y)]) (rest := [(.ref b37)]) (lenOf pd_13 rfl) rfl (by show 2 * 0 + _ ≤ _; exact Nat.le_of_eq rfl) (hb hby at_180) (fun _ _ => ⟨rfl, e37, (by decide : 9 + 0 ≤ _), (by decide : 20 + 0 ≤ _)⟩)
                  dsimp only [Pt.U, Pt.locs, Pt.cells, Pt.slots] at X38 l38 y38 z38 st38 hQ38
                  subst l38 y38 z38
                  obtain ⟨rfl, Nq38, Kq38, u38_0, u38_1, u38_2⟩ := hQ38
                  have N38 := Fr.app N36 Nq38
                  have f38_0 := own_Sta_keep f37_0 Kq38 (nsS A37.nostat ns0)
                  have f38_1 := f37_1.keep Kq38
                  have f38_2 := f37_2.keep Kq38 (ninS ne37_x35_y nin0)
                  have f38_3 := f37_3.keep Kq38 (ninS ne37_x35_y nin0)
                  have f38_4 := f37_4.keep Kq38 (ninS ne37_x35_d nin0)
                  have f38_5 := f37_5.keep Kq38
                  have f38_6 := f37_6.keep Kq38 (ninS ne37_x36_y nin0)
                  have f38_7 := f37_7.keep Kq38 (ninS ne37_x36_y nin0)
                  have f38_8 := f37_8.keep Kq38 (ninS ne37_x36_d nin0)
                  have f38_9 := A37.keep Kq38
                  have C38 := C37.trans (CHr.keep Kq38 (sfS (Safe.exa hZ.alike A37 (by decide) (by decide)) sf0) C37.1)
                  have Ks38 := Nat.le_trans Ks37 Kq38.1
                  have Zs38 : n0 ≤ T38.heap.size := Nat.le_trans Zs37 Kq38.1
                  refine own_stH (fun _ kk_ => st38.trans kk_) ?_
                  show own_GoesH _ _ _ _ _ _ _ _ _ T38 (mkF m 183 #[iv p1, iv p2, iv p3, iv p4, .val (.long p5), .second, iv p6, iv l2, iv c2, iv (1 : Int32), iv (0 : Int32), iv a1, iv b1, iv sc, iv a2, iv b2, rv x35_y, rv x36_y, .unset, .unset, .unset, .unset, .unset] [(.ref b37)])
                  refine own_stH (fun _ kk_ => XS.astore X38.here hx rfl (hb hby at_183) rfl rfl (l' := #[iv p1, iv p2, iv p3, iv p4, .val (.long p5), .second, iv p6, iv l2, iv c2, iv (1 : Int32), iv (0 : Int32), iv a1, iv b1, iv sc, iv a2, iv b2, rv x35_y, rv x36_y, rv b37, .unset, .unset, .unset, .unset]) rfl kk_) ?_
                  show own_GoesH _ _ _ _ _ _ _ _ _ T38 (mkF m 185 #[iv p1, iv p2, iv p3, iv p4, .val (.long p5), .second, iv p6, iv l2, iv c2, iv (1 : Int32), iv (0 : Int32), iv a1, iv b1, iv sc, iv a2, iv b2, rv x35_y, rv x36_y, rv b37, .unset, .unset, .unset, .unset] [])
                  obtain ⟨T39, h39, X39, e39, E39, A39, D39, -, st39⟩ := newO X38 hx hZ hown (own_w hw 31 rfl) (own_w hw 32 rfl) (own_w hw 33 rfl) rfl (g := (mkF m 185 #[iv p1, iv p2, iv p3, iv p4, .val (.long p5), .second, iv p6, iv l2, iv c2, iv (1 : Int32), iv (0 : Int32), iv a1, iv b1, iv sc, iv a2, iv b2, rv x35_y, rv x36_y, rv b37, .unset, .unset, .unset, .unset] [])) rfl (hb hby at_185) (by decide) (by decide)
                  obtain ⟨b39, gx39⟩ : ∃ z, z = T38.heap.size := ⟨_, rfl⟩
                  rw [← gx39] at A39 D39 st39
                  have ne39_x35_y : x35_y ≠ b39 := Nat.ne_of_lt (Nat.lt_of_lt_of_eq f38_1.lt gx39.symm)
                  have ne39_x35_d : x35_d ≠ b39 := Nat.ne_of_lt (Nat.lt_of_lt_of_eq f38_4.lt gx39.symm)
                  have ne39_x36_y : x36_y ≠ b39 := Nat.ne_of_lt (Nat.lt_of_lt_of_eq f38_5.lt gx39.symm)
                  have ne39_x36_d : x36_d ≠ b39 := Nat.ne_of_lt (Nat.lt_of_lt_of_eq f38_8.lt gx39.symm)
                  have ne39_b37 : b37 ≠ b39 := Nat.ne_of_lt (Nat.lt_of_lt_of_eq f38_9.lt gx39.symm)
                  have gg39 : n0 ≤ b39 := Nat.le_trans Zs38 (Nat.le_of_eq gx39.symm)
                  have f39_0 := f38_0.ext E39
                  have f39_1 := f38_1.ext E39
                  have f39_2 := f38_2.ext E39
                  have f39_3 := f38_3.ext E39
                  have f39_4 := f38_4.ext E39
                  have f39_5 := f38_5.ext E39
                  have f39_6 := f38_6.ext E39
                  have f39_7 := f38_7.ext E39
                  have f39_8 := f38_8.ext E39
                  have f39_9 := f38_9.ext E39
                  have f39_10 := u38_0.ext E39
                  have f39_11 := u38_1.ext E39
                  have f39_12 := u38_2.ext E39
                  have C39 := C38.trans (CHr.ext E39 C38.1)
                  have Zs39 : n0 ≤ h39.size := Nat.le_trans Zs38 E39.1
                  have Ks39 := Nat.le_trans Ks38 E39.1
                  have fn39_line : Fld Z h39 b39 "com/example/majra/majra/lang/Command$Refusal" "line" "I" (.int (0 : Int32)) := D39 (Or.inr (own_w hw 39 rfl)) (ty := .int) (by decide)
                  have fn39_column : Fld Z h39 b39 "com/example/majra/majra/lang/Command$Refusal" "column" "I" (.int (0 : Int32)) := D39 (Or.inr (own_w hw 41 rfl)) (ty := .int) (by decide)
                  have fn39_message : Fld Z h39 b39 "com/example/majra/majra/lang/Command$Refusal" "message" "Ljava/lang/String;" .null := D39 (Or.inr (own_w hw 43 rfl)) (ty := (.object "java/lang/String")) (by decide)
                  refine own_stH st39 ?_
                  show own_GoesH _ _ _ _ _ _ _ _ _ T39 (mkF m 188 #[iv p1, iv p2, iv p3, iv p4, .val (.long p5), .second, iv p6, iv l2, iv c2, iv (1 : Int32), iv (0 : Int32), iv a1, iv b1, iv sc, iv a2, iv b2, rv x35_y, rv x36_y, rv b37, .unset, .unset, .unset, .unset] [(.ref b39)])
                  refine own_stH (fun _ kk_ => XS.dup X39.here hx rfl (hb hby at_188) rfl rfl (XS.iload X39.here hx rfl (hb hby at_189) rfl (XS.iload X39.here hx rfl (hb hby at_191) rfl (XS.aload X39.here hx rfl (hb hby at_193) rfl rfl kk_)))) ?_
                  show own_GoesH _ _ _ _ _ _ _ _ _ T39 (mkF m 195 #[iv p1, iv p2, iv p3, iv p4, .val (.long p5), .second, iv p6, iv l2, iv c2, iv (1 : Int32), iv (0 : Int32), iv a1, iv b1, iv sc, iv a2, iv b2, rv x35_y, rv x36_y, rv b37, .unset, .unset, .unset, .unset] [(.ref x36_y), (.int c2), (.int l2), (.ref b39), (.ref b39)])
                  obtain ⟨_, _, ⟨T40, L40, k40, n40⟩, -, X40, ⟨Lc40, hQ40, l40, y40, z40⟩, st40⟩ := X39.specialBack hx (y := yy11) rfl hown (mvT hZ (own_w hw 34 rfl)) (mvT hZ (own_w hw 35 rfl)) (mvT hZ (own_w hw 36 rfl)) (by decide) (backOf (W := 1) (rm6 l Z a0 hw [] (b39) (l2) (c2) (x36_y) h39 n0 Zs39 A39 fn39_line fn39_column fn39_message gg39) hZ (own_w hw 36 rfl) (own_w hw 33 rfl) (by decide) (by decide)) (g := (mkF m 195 #[iv p1, iv p2, iv p3, iv p4, .val (.long p5), .second, iv p6, iv l2, iv c2, iv (1 : Int32), iv (0 : Int32), iv a1, iv b1, iv sc, iv a2, iv b2, rv x35_y, rv x36_y, rv b37, .unset, .unset, .unset, .unset] [(.ref x36_y), (.int c2), (.int l2), (.ref b39), (.ref b39)])) rfl (by rw [hml]; rfl) (Steps.refl _) (a := b39) (argsL := [(.int l2), (.int c2), (.ref x36_y)]) (rest := [(.ref b39)]) (lenOf pd_13 rfl) rfl (by show 2 * 0 + _ ≤ _; exact Nat.le_of_eq rfl) (hb hby at_195) (fun _ _ => ⟨rfl, e39, (by decide : 10 + 0 ≤ _), (by decide : 23 + 0 ≤ _)⟩)
                  dsimp only [Pt.U, Pt.locs, Pt.cells, Pt.slots] at X40 l40 y40 z40 st40 hQ40
                  subst l40 y40 z40
                  obtain ⟨rfl, Nq40, Kq40, u40_0, u40_1, u40_2⟩ := hQ40
                  have N40 := Fr.app N38 Nq40
                  have f40_0 := own_Sta_keep f39_0 Kq40 (nsS A39.nostat ns0)
                  have f40_1 := f39_1.keep Kq40
                  have f40_2 := f39_2.keep Kq40 (ninS ne39_x35_y nin0)
                  have f40_3 := f39_3.keep Kq40 (ninS ne39_x35_y nin0)
                  have f40_4 := f39_4.keep Kq40 (ninS ne39_x35_d nin0)
                  have f40_5 := f39_5.keep Kq40
                  have f40_6 := f39_6.keep Kq40 (ninS ne39_x36_y nin0)
                  have f40_7 := f39_7.keep Kq40 (ninS ne39_x36_y nin0)
                  have f40_8 := f39_8.keep Kq40 (ninS ne39_x36_d nin0)
                  have f40_9 := f39_9.keep Kq40
                  have f40_10 := f39_10.keep Kq40 (ninS ne39_b37 nin0)
                  have f40_11 := f39_11.keep Kq40 (ninS ne39_b37 nin0)
                  have f40_12 := f39_12.keep Kq40 (ninS ne39_b37 nin0)
                  have f40_13 := A39.keep Kq40
                  have C40 := C39.trans (CHr.keep Kq40 (sfS (Safe.exa hZ.alike A39 (by decide) (by decide)) sf0) C39.1)
                  have Ks40 := Nat.le_trans Ks39 Kq40.1
                  have Zs40 : n0 ≤ T40.heap.size := Nat.le_trans Zs39 Kq40.1
                  refine own_stH (fun _ kk_ => st40.trans kk_) ?_
                  show own_GoesH _ _ _ _ _ _ _ _ _ T40 (mkF m 198 #[iv p1, iv p2, iv p3, iv p4, .val (.long p5), .second, iv p6, iv l2, iv c2, iv (1 : Int32), iv (0 : Int32), iv a1, iv b1, iv sc, iv a2, iv b2, rv x35_y, rv x36_y, rv b37, .unset, .unset, .unset, .unset] [(.ref b39)])
                  refine own_stH (fun _ kk_ => XS.astore X40.here hx rfl (hb hby at_198) rfl rfl (l' := #[iv p1, iv p2, iv p3, iv p4, .val (.long p5), .second, iv p6, iv l2, iv c2, iv (1 : Int32), iv (0 : Int32), iv a1, iv b1, iv sc, iv a2, iv b2, rv x35_y, rv x36_y, rv b37, rv b39, .unset, .unset, .unset]) rfl kk_) ?_
                  show own_GoesH _ _ _ _ _ _ _ _ _ T40 (mkF m 200 #[iv p1, iv p2, iv p3, iv p4, .val (.long p5), .second, iv p6, iv l2, iv c2, iv (1 : Int32), iv (0 : Int32), iv a1, iv b1, iv sc, iv a2, iv b2, rv x35_y, rv x36_y, rv b37, rv b39, .unset, .unset, .unset] [])
                  have JM : ∀ (sm : Int32), (sm = own_b (False)) → own_GoesH p e below s Z consts_1 (Q0 Z p1 p2 p3 p4 p5 p6 cs h0 n0) 32 1152 T40 (mkF m 238 #[iv p1, iv p2, iv p3, iv p4, .val (.long p5), .second, iv p6, iv l2, iv c2, iv (1 : Int32), iv (0 : Int32), iv a1, iv b1, iv sc, iv a2, iv b2, rv x35_y, rv x36_y, rv b37, rv b39, .unset, .unset, .unset] [(.int sm)]) := by
                    intro sm hsm
                    show own_GoesH _ _ _ _ _ _ _ _ _ T40 (mkF m 238 #[iv p1, iv p2, iv p3, iv p4, .val (.long p5), .second, iv p6, iv l2, iv c2, iv (1 : Int32), iv (0 : Int32), iv a1, iv b1, iv sc, iv a2, iv b2, rv x35_y, rv x36_y, rv b37, rv b39, .unset, .unset, .unset] [(.int sm)])
                    refine own_stH (fun _ kk_ => XS.istore X40.here hx rfl (hb hby at_238) rfl (l' := #[iv p1, iv p2, iv p3, iv p4, .val (.long p5), .second, iv p6, iv l2, iv c2, iv (1 : Int32), iv (0 : Int32), iv a1, iv b1, iv sc, iv a2, iv b2, rv x35_y, rv x36_y, rv b37, rv b39, iv sm, .unset, .unset]) rfl (XS.iloadN X40.here hx rfl (hb hby at_240) rfl (XS.iload X40.here hx rfl (hb hby at_241) rfl kk_))) ?_
                    show own_GoesH _ _ _ _ _ _ _ _ _ T40 (mkF m 243 #[iv p1, iv p2, iv p3, iv p4, .val (.long p5), .second, iv p6, iv l2, iv c2, iv (1 : Int32), iv (0 : Int32), iv a1, iv b1, iv sc, iv a2, iv b2, rv x35_y, rv x36_y, rv b37, rv b39, iv sm, .unset, .unset] [(.int l2), (.int p1)])
                    have JE : ∀ (xp : Int32), (xp = own_b (p1 = l2 ∧ p2 = c2 ∧ (False))) → own_GoesH p e below s Z consts_1 (Q0 Z p1 p2 p3 p4 p5 p6 cs h0 n0) 32 1152 T40 (mkF m 262 #[iv p1, iv p2, iv p3, iv p4, .val (.long p5), .second, iv p6, iv l2, iv c2, iv (1 : Int32), iv (0 : Int32), iv a1, iv b1, iv sc, iv a2, iv b2, rv x35_y, rv x36_y, rv b37, rv b39, iv sm, .unset, .unset] [(.int xp)]) := by
                      intro xp hxp
                      show own_GoesH _ _ _ _ _ _ _ _ _ T40 (mkF m 262 #[iv p1, iv p2, iv p3, iv p4, .val (.long p5), .second, iv p6, iv l2, iv c2, iv (1 : Int32), iv (0 : Int32), iv a1, iv b1, iv sc, iv a2, iv b2, rv x35_y, rv x36_y, rv b37, rv b39, iv sm, .unset, .unset] [(.int xp)])
                      refine own_stH (fun _ kk_ => XS.istore X40.here hx rfl (hb hby at_262) rfl (l' := #[iv p1, iv p2, iv p3, iv p4, .val (.long p5), .second, iv p6, iv l2, iv c2, iv (1 : Int32), iv (0 : Int32), iv a1, iv b1, iv sc, iv a2, iv b2, rv x35_y, rv x36_y, rv b37, rv b39, iv sm, iv xp, .unset]) rfl (XS.aload X40.here hx rfl (hb hby at_264) rfl rfl (XS.astore X40.here hx rfl (hb hby at_266) rfl rfl (l' := #[iv p1, iv p2, iv p3, iv p4, .val (.long p5), .second, iv p6, iv l2, iv c2, iv (1 : Int32), iv (0 : Int32), iv a1, iv b1, iv sc, iv a2, iv b2, rv x35_y, rv x36_y, rv b37, rv b39, iv sm, iv xp, rv x35_y]) rfl (XS.aload X40.here hx rfl (hb hby at_268) rfl rfl (XS.aload X40.here hx rfl (hb hby at_270) rfl rfl kk_))))) ?_
                      show own_GoesH _ _ _ _ _ _ _ _ _ T40 (mkF m 272 #[iv p1, iv p2, iv p3, iv p4, .val (.long p5), .second, iv p6, iv l2, iv c2, iv (1 : Int32), iv (0 : Int32), iv a1, iv b1, iv sc, iv a2, iv b2, rv x35_y, rv x36_y, rv b37, rv b39, iv sm, iv xp, rv x35_y] [(.ref b39), (.ref b37)])
                      obtain ⟨cq41, kq41, q41a, q41b, q41c⟩ := isOf hZ rfl f40_9
                      obtain ⟨_, _, ⟨T41, L41, k41, n41⟩, -, X41, ⟨Lc41, hQ41, l41, y41, z41⟩, st41⟩ := X40.virtualBack hx (y := yy14) (z := yy14) hown (mvT hZ (own_w hw 44 rfl)) (mvT hZ (own_w hw 45 rfl)) (notFace_of_selects (args := #[]) (mvT hZ (own_w hw 47 rfl))) (mvT hZ (own_w hw 47 rfl)) (mvT hZ (own_w hw 46 rfl)) (by decide) (backOf (W := 0) (rm7_1_0 l Z a0 hw [] (b37) (b39) (p1) (p2) (l2) (c2) (x35_y) (x36_y) ((own_by a1)) (x35_d) (x36_d) (x35_kd) (x36_kd) (cs) T40.heap n0 Zs40 f40_10 f40_11 f40_12 f40_13 u40_0 u40_1 u40_2 f40_1 f40_2 f40_3 f40_5 f40_6 f40_7 f40_4 f40_8 f40_0 (by assumption) ne36_x35_y) hZ (own_w hw 48 rfl) (own_w hw 33 rfl) (by decide) (by decide)) q41a q41c (g := (mkF m 272 #[iv p1, iv p2, iv p3, iv p4, .val (.long p5), .second, iv p6, iv l2, iv c2, iv (1 : Int32), iv (0 : Int32), iv a1, iv b1, iv sc, iv a2, iv b2, rv x35_y, rv x36_y, rv b37, rv b39, iv sm, iv xp, rv x35_y] [(.ref b39), (.ref b37)])) rfl (by rw [hml]; rfl) (Steps.refl _) (argsL := [(.ref b39)]) (rest := []) (lenOf pd_10 rfl) rfl (by show 2 * 0 + _ ≤ _; exact Nat.le_of_eq rfl) (hb hby at_272) (fun _ _ => ⟨rfl, rfl, (by decide : 10 + 0 ≤ _), (by decide : 23 + 0 ≤ _)⟩)
                      dsimp only [Pt.U, Pt.locs, Pt.cells, Pt.slots] at X41 l41 y41 z41 st41 hQ41
                      subst l41 y41 z41
                      obtain ⟨rfl, Nq41, eq41⟩ := hQ41
                      have N41 := Fr.app N40 Nq41
                      refine own_stH (fun _ kk_ => st41.trans kk_) ?_
                      show own_GoesH _ _ _ _ _ _ _ _ _ T41 (mkF m 275 #[iv p1, iv p2, iv p3, iv p4, .val (.long p5), .second, iv p6, iv l2, iv c2, iv (1 : Int32), iv (0 : Int32), iv a1, iv b1, iv sc, iv a2, iv b2, rv x35_y, rv x36_y, rv b37, rv b39, iv sm, iv xp, rv x35_y] [(.int (own_b (p1 = l2 ∧ p2 = c2 ∧ (False))))])
                      refine own_stH (fun _ kk_ => XS.iload X41.here hx rfl (hb hby at_275) rfl (XS.icmpNo X41.here hx rfl (hb hby at_277) rfl (XT.ii_ne_f ((own_bc (own_and3 Iff.rfl Iff.rfl Iff.rfl)).trans hxp.symm)) (XS.aload X41.here hx rfl (hb hby at_280) rfl rfl (XS.aload X41.here hx rfl (hb hby at_282) rfl rfl kk_)))) ?_
                      show own_GoesH _ _ _ _ _ _ _ _ _ T41 (mkF m 284 #[iv p1, iv p2, iv p3, iv p4, .val (.long p5), .second, iv p6, iv l2, iv c2, iv (1 : Int32), iv (0 : Int32), iv a1, iv b1, iv sc, iv a2, iv b2, rv x35_y, rv x36_y, rv b37, rv b39, iv sm, iv xp, rv x35_y] [(.ref b37), (.ref b39)])
                      obtain ⟨cq42, kq42, q42a, q42b, q42c⟩ := isOf hZ eq41 f40_13
                      obtain ⟨_, _, ⟨T42, L42, k42, n42⟩, -, X42, ⟨Lc42, hQ42, l42, y42, z42⟩, st42⟩ := X41.virtualBack hx (y := yy14) (z := yy14) hown (mvT hZ (own_w hw 44 rfl)) (mvT hZ (own_w hw 45 rfl)) (notFace_of_selects (args := #[]) (mvT hZ (own_w hw 47 rfl))) (mvT hZ (own_w hw 47 rfl)) (mvT hZ (own_w hw 46 rfl)) (by decide) (backOf (W := 0) (rm7_0_1 l Z a0 hw [] (b39) (b37) (l2) (c2) (p1) (p2) (x36_y) (x35_y) ((own_by a1)) (x36_d) (x35_d) (x36_kd) (x35_kd) (cs) T40.heap n0 Zs40 u40_0 u40_1 u40_2 f40_9 f40_10 f40_11 f40_12 f40_5 f40_6 f40_7 f40_1 f40_2 f40_3 f40_8 f40_4 f40_0 (by assumption) (Ne.symm ne36_x35_y)) hZ (own_w hw 48 rfl) (own_w hw 33 rfl) (by decide) (by decide)) q42a q42c (g := (mkF m 284 #[iv p1, iv p2, iv p3, iv p4, .val (.long p5), .second, iv p6, iv l2, iv c2, iv (1 : Int32), iv (0 : Int32), iv a1, iv b1, iv sc, iv a2, iv b2, rv x35_y, rv x36_y, rv b37, rv b39, iv sm, iv xp, rv x35_y] [(.ref b37), (.ref b39)])) rfl (by rw [hml]; rfl) (Steps.refl _) (argsL := [(.ref b37)]) (rest := []) (lenOf pd_10 rfl) rfl (by show 2 * 0 + _ ≤ _; exact Nat.le_of_eq rfl) (hb hby at_284) (fun _ _ => ⟨rfl, eq41, (by decide : 10 + 0 ≤ _), (by decide : 23 + 0 ≤ _)⟩)
                      dsimp only [Pt.U, Pt.locs, Pt.cells, Pt.slots] at X42 l42 y42 z42 st42 hQ42
                      subst l42 y42 z42
                      obtain ⟨rfl, Nq42, eq42⟩ := hQ42
                      have N42 := Fr.app N41 Nq42
                      refine own_stH (fun _ kk_ => st42.trans kk_) ?_
                      show own_GoesH _ _ _ _ _ _ _ _ _ T42 (mkF m 287 #[iv p1, iv p2, iv p3, iv p4, .val (.long p5), .second, iv p6, iv l2, iv c2, iv (1 : Int32), iv (0 : Int32), iv a1, iv b1, iv sc, iv a2, iv b2, rv x35_y, rv x36_y, rv b37, rv b39, iv sm, iv xp, rv x35_y] [(.int (own_b (l2 = p1 ∧ c2 = p2 ∧ (False))))])
                      refine own_stH (fun _ kk_ => XS.iload X42.here hx rfl (hb hby at_287) rfl (XS.icmpNo X42.here hx rfl (hb hby at_289) rfl (XT.ii_ne_f ((own_bc (own_and3 own_sy own_sy Iff.rfl)).trans hxp.symm)) (XS.aload X42.here hx rfl (hb hby at_292) rfl rfl (XS.aload X42.here hx rfl (hb hby at_294) rfl rfl kk_)))) ?_
                      show own_GoesH _ _ _ _ _ _ _ _ _ T42 (mkF m 296 #[iv p1, iv p2, iv p3, iv p4, .val (.long p5), .second, iv p6, iv l2, iv c2, iv (1 : Int32), iv (0 : Int32), iv a1, iv b1, iv sc, iv a2, iv b2, rv x35_y, rv x36_y, rv b37, rv b39, iv sm, iv xp, rv x35_y] [(.ref b37), (.ref b37)])
                      obtain ⟨cq43, kq43, q43a, q43b, q43c⟩ := isOf hZ eq42 f40_9
                      obtain ⟨_, _, ⟨T43, L43, k43, n43⟩, -, X43, ⟨Lc43, hQ43, l43, y43, z43⟩, st43⟩ := X42.virtualBack hx (y := yy14) (z := yy14) hown (mvT hZ (own_w hw 44 rfl)) (mvT hZ (own_w hw 45 rfl)) (notFace_of_selects (args := #[]) (mvT hZ (own_w hw 47 rfl))) (mvT hZ (own_w hw 47 rfl)) (mvT hZ (own_w hw 46 rfl)) (by decide) (backOf (W := 0) (rm7s l Z a0 hw [] (b37) (p1) (p2) (x35_y) T40.heap n0 Zs40 f40_9 f40_10 f40_11 f40_12 f40_1) hZ (own_w hw 48 rfl) (own_w hw 33 rfl) (by decide) (by decide)) q43a q43c (g := (mkF m 296 #[iv p1, iv p2, iv p3, iv p4, .val (.long p5), .second, iv p6, iv l2, iv c2, iv (1 : Int32), iv (0 : Int32), iv a1, iv b1, iv sc, iv a2, iv b2, rv x35_y, rv x36_y, rv b37, rv b39, iv sm, iv xp, rv x35_y] [(.ref b37), (.ref b37)])) rfl (by rw [hml]; rfl) (Steps.refl _) (argsL := [(.ref b37)]) (rest := []) (lenOf pd_10 rfl) rfl (by show 2 * 0 + _ ≤ _; exact Nat.le_of_eq rfl) (hb hby at_296) (fun _ _ => ⟨rfl, eq42, (by decide : 10 + 0 ≤ _), (by decide : 23 + 0 ≤ _)⟩)
                      dsimp only [Pt.U, Pt.locs, Pt.cells, Pt.slots] at X43 l43 y43 z43 st43 hQ43
                      subst l43 y43 z43
                      obtain ⟨rfl, Nq43, eq43⟩ := hQ43
                      have N43 := Fr.app N42 Nq43
                      refine own_stH (fun _ kk_ => st43.trans kk_) ?_
                      show own_GoesH _ _ _ _ _ _ _ _ _ T43 (mkF m 299 #[iv p1, iv p2, iv p3, iv p4, .val (.long p5), .second, iv p6, iv l2, iv c2, iv (1 : Int32), iv (0 : Int32), iv a1, iv b1, iv sc, iv a2, iv b2, rv x35_y, rv x36_y, rv b37, rv b39, iv sm, iv xp, rv x35_y] [(.int (1 : Int32))])
                      refine own_stH (fun _ kk_ => XS.ifNo X43.here hx rfl (hb hby at_299) rfl (XT.i0_eq_f (by decide)) (XS.aload X43.here hx rfl (hb hby at_302) rfl rfl (XS.aconstNull X43.here hx rfl (hb hby at_304) kk_))) ?_
                      show own_GoesH _ _ _ _ _ _ _ _ _ T43 (mkF m 305 #[iv p1, iv p2, iv p3, iv p4, .val (.long p5), .second, iv p6, iv l2, iv c2, iv (1 : Int32), iv (0 : Int32), iv a1, iv b1, iv sc, iv a2, iv b2, rv x35_y, rv x36_y, rv b37, rv b39, iv sm, iv xp, rv x35_y] [.null, (.ref b37)])
                      obtain ⟨cq44, kq44, q44a, q44b, q44c⟩ := isOf hZ eq43 f40_9
                      obtain ⟨_, _, ⟨T44, L44, k44, n44⟩, -, X44, ⟨Lc44, hQ44, l44, y44, z44⟩, st44⟩ := X43.virtualBack hx (y := yy14) (z := yy14) hown (mvT hZ (own_w hw 44 rfl)) (mvT hZ (own_w hw 45 rfl)) (notFace_of_selects (args := #[]) (mvT hZ (own_w hw 47 rfl))) (mvT hZ (own_w hw 47 rfl)) (mvT hZ (own_w hw 46 rfl)) (by decide) (backOf (W := 0) (rm7n l Z a0 hw [] (b37) T40.heap n0 Zs40) hZ (own_w hw 48 rfl) (own_w hw 33 rfl) (by decide) (by decide)) q44a q44c (g := (mkF m 305 #[iv p1, iv p2, iv p3, iv p4, .val (.long p5), .second, iv p6, iv l2, iv c2, iv (1 : Int32), iv (0 : Int32), iv a1, iv b1, iv sc, iv a2, iv b2, rv x35_y, rv x36_y, rv b37, rv b39, iv sm, iv xp, rv x35_y] [.null, (.ref b37)])) rfl (by rw [hml]; rfl) (Steps.refl _) (argsL := [.null]) (rest := []) (lenOf pd_10 rfl) rfl (by show 2 * 0 + _ ≤ _; exact Nat.le_of_eq rfl) (hb hby at_305) (fun _ _ => ⟨rfl, eq43, (by decide : 10 + 0 ≤ _), (by decide : 23 + 0 ≤ _)⟩)
                      dsimp only [Pt.U, Pt.locs, Pt.cells, Pt.slots] at X44 l44 y44 z44 st44 hQ44
                      subst l44 y44 z44
                      obtain ⟨rfl, Nq44, eq44⟩ := hQ44
                      have N44 := Fr.app N43 Nq44
                      refine own_stH (fun _ kk_ => st44.trans kk_) ?_
                      show own_GoesH _ _ _ _ _ _ _ _ _ T44 (mkF m 308 #[iv p1, iv p2, iv p3, iv p4, .val (.long p5), .second, iv p6, iv l2, iv c2, iv (1 : Int32), iv (0 : Int32), iv a1, iv b1, iv sc, iv a2, iv b2, rv x35_y, rv x36_y, rv b37, rv b39, iv sm, iv xp, rv x35_y] [(.int (0 : Int32))])
                      refine own_stH (fun _ kk_ => XS.ifNo X44.here hx rfl (hb hby at_308) rfl (XT.i0_ne_f (by decide)) (XS.aload X44.here hx rfl (hb hby at_311) rfl rfl (XS.aload X44.here hx rfl (hb hby at_313) rfl rfl kk_))) ?_
                      show own_GoesH _ _ _ _ _ _ _ _ _ T44 (mkF m 315 #[iv p1, iv p2, iv p3, iv p4, .val (.long p5), .second, iv p6, iv l2, iv c2, iv (1 : Int32), iv (0 : Int32), iv a1, iv b1, iv sc, iv a2, iv b2, rv x35_y, rv x36_y, rv b37, rv b39, iv sm, iv xp, rv x35_y] [(.ref x35_y), (.ref b37)])
                      obtain ⟨cq45, kq45, q45a, q45b, q45c⟩ := isOf hZ eq44 f40_9
                      obtain ⟨_, _, ⟨T45, L45, k45, n45⟩, -, X45, ⟨Lc45, hQ45, l45, y45, z45⟩, st45⟩ := X44.virtualBack hx (y := yy14) (z := yy14) hown (mvT hZ (own_w hw 44 rfl)) (mvT hZ (own_w hw 45 rfl)) (notFace_of_selects (args := #[]) (mvT hZ (own_w hw 47 rfl))) (mvT hZ (own_w hw 47 rfl)) (mvT hZ (own_w hw 46 rfl)) (by decide) (backOf (W := 0) (rm7x l Z a0 hw [] (b37) (x35_y) T40.heap n0 Zs40 f40_1) hZ (own_w hw 48 rfl) (own_w hw 33 rfl) (by decide) (by decide)) q45a q45c (g := (mkF m 315 #[iv p1, iv p2, iv p3, iv p4, .val (.long p5), .second, iv p6, iv l2, iv c2, iv (1 : Int32), iv (0 : Int32), iv a1, iv b1, iv sc, iv a2, iv b2, rv x35_y, rv x36_y, rv b37, rv b39, iv sm, iv xp, rv x35_y] [(.ref x35_y), (.ref b37)])) rfl (by rw [hml]; rfl) (Steps.refl _) (argsL := [(.ref x35_y)]) (rest := []) (lenOf pd_10 rfl) rfl (by show 2 * 0 + _ ≤ _; exact Nat.le_of_eq rfl) (hb hby at_315) (fun _ _ => ⟨rfl, eq44, (by decide : 10 + 0 ≤ _), (by decide : 23 + 0 ≤ _)⟩)
                      dsimp only [Pt.U, Pt.locs, Pt.cells, Pt.slots] at X45 l45 y45 z45 st45 hQ45
                      subst l45 y45 z45
                      obtain ⟨rfl, Nq45, eq45⟩ := hQ45
                      have N45 := Fr.app N44 Nq45
                      refine own_stH (fun _ kk_ => st45.trans kk_) ?_
                      show own_GoesH _ _ _ _ _ _ _ _ _ T45 (mkF m 318 #[iv p1, iv p2, iv p3, iv p4, .val (.long p5), .second, iv p6, iv l2, iv c2, iv (1 : Int32), iv (0 : Int32), iv a1, iv b1, iv sc, iv a2, iv b2, rv x35_y, rv x36_y, rv b37, rv b39, iv sm, iv xp, rv x35_y] [(.int (0 : Int32))])
                      refine own_stH (fun _ kk_ => XS.ifNo X45.here hx rfl (hb hby at_318) rfl (XT.i0_ne_f (by decide)) (XS.iconst X45.here hx rfl (hb hby at_321) (XS.goto X45.here hx rfl (pc0 := 322) (pc' := 326) rfl (hb hby at_322) (by decide) (by decide) kk_))) ?_
                      show own_GoesH _ _ _ _ _ _ _ _ _ T45 (mkF m 326 #[iv p1, iv p2, iv p3, iv p4, .val (.long p5), .second, iv p6, iv l2, iv c2, iv (1 : Int32), iv (0 : Int32), iv a1, iv b1, iv sc, iv a2, iv b2, rv x35_y, rv x36_y, rv b37, rv b39, iv sm, iv xp, rv x35_y] [(.int (1 : Int32))])
                      refine own_endH (v := (some (.int (nar .boolean (1 : Int32))))) X45 hlk hS36 (by rw [eq45]; exact Ks40) hZ hEL hh eq45 C40 (fun h => by rw [Bd.returns] at h; cases h) (by decide) (by decide) ?_ (fun fs hr => retN X45 hx (t := .boolean) Bd.returns (by simp) (hb hby at_326) hr)
                      show Q0 Z p1 p2 p3 p4 p5 p6 cs h0 n0 (some (.int (nar .boolean (1 : Int32)))) T45.heap _
                      rw [eq45]
                      exact ⟨rfl, N45⟩
                    rcases Classical.em (p1 = l2) with r0 | r0
                    · refine own_stH (fun _ kk_ => XS.icmpNo X40.here hx rfl (hb hby at_243) rfl (XT.ii_ne_f r0) (XS.iloadN X40.here hx rfl (hb hby at_246) rfl (XS.iload X40.here hx rfl (hb hby at_247) rfl kk_))) ?_
                      show own_GoesH _ _ _ _ _ _ _ _ _ T40 (mkF m 249 #[iv p1, iv p2, iv p3, iv p4, .val (.long p5), .second, iv p6, iv l2, iv c2, iv (1 : Int32), iv (0 : Int32), iv a1, iv b1, iv sc, iv a2, iv b2, rv x35_y, rv x36_y, rv b37, rv b39, iv sm, .unset, .unset] [(.int c2), (.int p2)])
                      rcases Classical.em (p2 = c2) with r1 | r1
                      · refine own_stH (fun _ kk_ => XS.icmpNo X40.here hx rfl (hb hby at_249) rfl (XT.ii_ne_f r1) (XS.iload X40.here hx rfl (hb hby at_252) rfl kk_)) ?_
                        show own_GoesH _ _ _ _ _ _ _ _ _ T40 (mkF m 254 #[iv p1, iv p2, iv p3, iv p4, .val (.long p5), .second, iv p6, iv l2, iv c2, iv (1 : Int32), iv (0 : Int32), iv a1, iv b1, iv sc, iv a2, iv b2, rv x35_y, rv x36_y, rv b37, rv b39, iv sm, .unset, .unset] [(.int sm)])
                        rcases Classical.em (sm = (0 : Int32)) with r2 | r2
                        · refine own_stH (fun _ kk_ => XS.ifYes X40.here hx rfl (pc0 := 254) (pc' := 261) rfl (hb hby at_254) rfl (XT.i0_eq_t r2) (by decide) (by decide) (XS.iconst X40.here hx rfl (hb hby at_261) kk_)) ?_
                          show own_GoesH _ _ _ _ _ _ _ _ _ T40 (mkF m 262 #[iv p1, iv p2, iv p3, iv p4, .val (.long p5), .second, iv p6, iv l2, iv c2, iv (1 : Int32), iv (0 : Int32), iv a1, iv b1, iv sc, iv a2, iv b2, rv x35_y, rv x36_y, rv b37, rv b39, iv sm, .unset, .unset] [(.int (0 : Int32))])
                          exact JE ((0 : Int32)) (own_b0 (fun k => by rw [hsm, own_b1 k.2.2] at r2; exact absurd r2 (by decide))).symm
                        · refine own_stH (fun _ kk_ => XS.ifNo X40.here hx rfl (hb hby at_254) rfl (XT.i0_eq_f r2) (XS.iconst X40.here hx rfl (hb hby at_257) (XS.goto X40.here hx rfl (pc0 := 258) (pc' := 262) rfl (hb hby at_258) (by decide) (by decide) kk_))) ?_
                          show own_GoesH _ _ _ _ _ _ _ _ _ T40 (mkF m 262 #[iv p1, iv p2, iv p3, iv p4, .val (.long p5), .second, iv p6, iv l2, iv c2, iv (1 : Int32), iv (0 : Int32), iv a1, iv b1, iv sc, iv a2, iv b2, rv x35_y, rv x36_y, rv b37, rv b39, iv sm, .unset, .unset] [(.int (1 : Int32))])
                          exact JE ((1 : Int32)) (own_b1 ⟨r0, r1, Classical.byContradiction fun k => r2 (hsm.trans (own_b0 k))⟩).symm
                      · refine own_stH (fun _ kk_ => XS.icmpYes X40.here hx rfl (pc0 := 249) (pc' := 261) rfl (hb hby at_249) rfl (XT.ii_ne_t r1) (by decide) (by decide) (XS.iconst X40.here hx rfl (hb hby at_261) kk_)) ?_
                        show own_GoesH _ _ _ _ _ _ _ _ _ T40 (mkF m 262 #[iv p1, iv p2, iv p3, iv p4, .val (.long p5), .second, iv p6, iv l2, iv c2, iv (1 : Int32), iv (0 : Int32), iv a1, iv b1, iv sc, iv a2, iv b2, rv x35_y, rv x36_y, rv b37, rv b39, iv sm, .unset, .unset] [(.int (0 : Int32))])
                        exact JE ((0 : Int32)) (own_b0 (fun k => r1 k.2.1)).symm
                    · refine own_stH (fun _ kk_ => XS.icmpYes X40.here hx rfl (pc0 := 243) (pc' := 261) rfl (hb hby at_243) rfl (XT.ii_ne_t r0) (by decide) (by decide) (XS.iconst X40.here hx rfl (hb hby at_261) kk_)) ?_
                      show own_GoesH _ _ _ _ _ _ _ _ _ T40 (mkF m 262 #[iv p1, iv p2, iv p3, iv p4, .val (.long p5), .second, iv p6, iv l2, iv c2, iv (1 : Int32), iv (0 : Int32), iv a1, iv b1, iv sc, iv a2, iv b2, rv x35_y, rv x36_y, rv b37, rv b39, iv sm, .unset, .unset] [(.int (0 : Int32))])
                      exact JE ((0 : Int32)) (own_b0 (fun k => r0 k.1)).symm
                  refine own_stH (fun _ kk_ => XS.iload X40.here hx rfl (hb hby at_200) rfl (XS.iload X40.here hx rfl (hb hby at_202) rfl (XS.icmpYes X40.here hx rfl (pc0 := 204) (pc' := 237) rfl (hb hby at_204) rfl (XT.ii_ne_t (by decide)) (by decide) (by decide) (XS.iconst X40.here hx rfl (hb hby at_237) kk_)))) ?_
                  show own_GoesH _ _ _ _ _ _ _ _ _ T40 (mkF m 238 #[iv p1, iv p2, iv p3, iv p4, .val (.long p5), .second, iv p6, iv l2, iv c2, iv (1 : Int32), iv (0 : Int32), iv a1, iv b1, iv sc, iv a2, iv b2, rv x35_y, rv x36_y, rv b37, rv b39, .unset, .unset, .unset] [(.int (0 : Int32))])
                  exact JM ((0 : Int32)) (own_b0 not_false).symm
                · show own_GoesH _ _ _ _ _ _ _ _ _ T35 (mkF m 167 #[iv p1, iv p2, iv p3, iv p4, .val (.long p5), .second, iv p6, iv l2, iv c2, iv (1 : Int32), iv (1 : Int32), iv a1, iv b1, iv sc, iv a2, iv b2, rv x35_y, .unset, .unset, .unset, .unset, .unset, .unset] [(.int b2), (.int a2), (.int (1 : Int32))])
                  obtain ⟨_, _, ⟨T46, L46, k46, n46⟩, -, X46, ⟨Lc46, hQ46, l46, y46, z46⟩, st46⟩ := Jvm.LawKit.callS X35 hx (y := yy10) hown (mvT hZ (own_w hw 5 rfl)) (mvT hZ (own_w hw 6 rfl)) (mvT hZ (own_w hw 7 rfl)) (mvT hZ (own_w hw 8 rfl)) (by decide) (backOf (W := 0) (rm2_1 l Z a0 hw [] (a2) (b2) (cs) T35.heap n0 Zs35 f35_0 (by assumption) hi_a2) hZ (own_w hw 8 rfl) (own_w hw 7 rfl) (by decide) (by decide)) (g := (mkF m 167 #[iv p1, iv p2, iv p3, iv p4, .val (.long p5), .second, iv p6, iv l2, iv c2, iv (1 : Int32), iv (1 : Int32), iv a1, iv b1, iv sc, iv a2, iv b2, rv x35_y, .unset, .unset, .unset, .unset, .unset, .unset] [(.int b2), (.int a2), (.int (1 : Int32))])) rfl (by rw [hml]; rfl) (argsL := [(.int (1 : Int32)), (.int a2), (.int b2)]) (rest := []) (lenOf pd_12 rfl) rfl (by show 2 * 0 + _ ≤ _; exact Nat.le_of_eq rfl) (hb hby at_167) (fun _ _ => ⟨rfl, rfl, (by decide : 2 + 2 ≤ _), (by decide : 5 + 5 ≤ _)⟩)
                  dsimp only [Pt.U, Pt.locs, Pt.cells, Pt.slots] at X46 l46 y46 z46 st46 hQ46
                  subst l46 y46 z46
                  obtain ⟨x46_y, x46_d, x46_kd, rfl, Nq46, Kq46, u46_0, u46_1, u46_2, u46_3, u46_4⟩ := hQ46
                  have N46 := Fr.app N35 Nq46
                  have f46_0 := own_Sta_keep f35_0 Kq46 ns0
                  have f46_1 := u35_1.keep Kq46
                  have f46_2 := u35_2.keep Kq46 nin0
                  have f46_3 := u35_3.keep Kq46 nin0
                  have f46_4 := u35_4.keep Kq46 nin0
                  have C46 := C35.trans (CHr.keep Kq46 sf0 C35.1)
                  have Ks46 := Nat.le_trans Ks35 Kq46.1
                  have Zs46 : n0 ≤ T46.heap.size := Nat.le_trans Zs35 Kq46.1
                  have ne46_x35_y : x35_y ≠ x46_y := Nat.ne_of_lt (Nat.lt_of_lt_of_le u35_1.lt u46_0)
                  have ne46_x35_d : x35_d ≠ x46_y := Nat.ne_of_lt (Nat.lt_of_lt_of_le u35_4.lt u46_0)
                  have gg46_y : n0 ≤ x46_y := Nat.le_trans Zs35 u46_0
                  refine own_stH st46 ?_
                  show own_GoesH _ _ _ _ _ _ _ _ _ T46 (mkF m 170 #[iv p1, iv p2, iv p3, iv p4, .val (.long p5), .second, iv p6, iv l2, iv c2, iv (1 : Int32), iv (1 : Int32), iv a1, iv b1, iv sc, iv a2, iv b2, rv x35_y, .unset, .unset, .unset, .unset, .unset, .unset] [(.ref x46_y)])
                  refine own_stH (fun _ kk_ => XS.astore X46.here hx rfl (hb hby at_170) rfl rfl (l' := #[iv p1, iv p2, iv p3, iv p4, .val (.long p5), .second, iv p6, iv l2, iv c2, iv (1 : Int32), iv (1 : Int32), iv a1, iv b1, iv sc, iv a2, iv b2, rv x35_y, rv x46_y, .unset, .unset, .unset, .unset, .unset]) rfl kk_) ?_
                  show own_GoesH _ _ _ _ _ _ _ _ _ T46 (mkF m 172 #[iv p1, iv p2, iv p3, iv p4, .val (.long p5), .second, iv p6, iv l2, iv c2, iv (1 : Int32), iv (1 : Int32), iv a1, iv b1, iv sc, iv a2, iv b2, rv x35_y, rv x46_y, .unset, .unset, .unset, .unset, .unset] [])
                  obtain ⟨T47, h47, X47, e47, E47, A47, D47, -, st47⟩ := newO X46 hx hZ hown (own_w hw 31 rfl) (own_w hw 32 rfl) (own_w hw 33 rfl) rfl (g := (mkF m 172 #[iv p1, iv p2, iv p3, iv p4, .val (.long p5), .second, iv p6, iv l2, iv c2, iv (1 : Int32), iv (1 : Int32), iv a1, iv b1, iv sc, iv a2, iv b2, rv x35_y, rv x46_y, .unset, .unset, .unset, .unset, .unset] [])) rfl (hb hby at_172) (by decide) (by decide)
                  obtain ⟨b47, gx47⟩ : ∃ z, z = T46.heap.size := ⟨_, rfl⟩
                  rw [← gx47] at A47 D47 st47
                  have ne47_x35_y : x35_y ≠ b47 := Nat.ne_of_lt (Nat.lt_of_lt_of_eq f46_1.lt gx47.symm)
                  have ne47_x35_d : x35_d ≠ b47 := Nat.ne_of_lt (Nat.lt_of_lt_of_eq f46_4.lt gx47.symm)
                  have ne47_x46_y : x46_y ≠ b47 := Nat.ne_of_lt (Nat.lt_of_lt_of_eq u46_1.lt gx47.symm)
                  have ne47_x46_d : x46_d ≠ b47 := Nat.ne_of_lt (Nat.lt_of_lt_of_eq u46_4.lt gx47.symm)
                  have gg47 : n0 ≤ b47 := Nat.le_trans Zs46 (Nat.le_of_eq gx47.symm)
                  have f47_0 := f46_0.ext E47
                  have f47_1 := f46_1.ext E47
                  have f47_2 := f46_2.ext E47
                  have f47_3 := f46_3.ext E47
                  have f47_4 := f46_4.ext E47
                  have f47_5 := u46_1.ext E47
                  have f47_6 := u46_2.ext E47
                  have f47_7 := u46_3.ext E47
                  have f47_8 := u46_4.ext E47
                  have C47 := C46.trans (CHr.ext E47 C46.1)
                  have Zs47 : n0 ≤ h47.size := Nat.le_trans Zs46 E47.1
                  have Ks47 := Nat.le_trans Ks46 E47.1
                  have fn47_line : Fld Z h47 b47 "com/example/majra/majra/lang/Command$Refusal" "line" "I" (.int (0 : Int32)) := D47 (Or.inr (own_w hw 39 rfl)) (ty := .int) (by decide)
                  have fn47_column : Fld Z h47 b47 "com/example/majra/majra/lang/Command$Refusal" "column" "I" (.int (0 : Int32)) := D47 (Or.inr (own_w hw 41 rfl)) (ty := .int) (by decide)
                  have fn47_message : Fld Z h47 b47 "com/example/majra/majra/lang/Command$Refusal" "message" "Ljava/lang/String;" .null := D47 (Or.inr (own_w hw 43 rfl)) (ty := (.object "java/lang/String")) (by decide)
                  refine own_stH st47 ?_
                  show own_GoesH _ _ _ _ _ _ _ _ _ T47 (mkF m 175 #[iv p1, iv p2, iv p3, iv p4, .val (.long p5), .second, iv p6, iv l2, iv c2, iv (1 : Int32), iv (1 : Int32), iv a1, iv b1, iv sc, iv a2, iv b2, rv x35_y, rv x46_y, .unset, .unset, .unset, .unset, .unset] [(.ref b47)])
                  refine own_stH (fun _ kk_ => XS.dup X47.here hx rfl (hb hby at_175) rfl rfl (XS.iloadN X47.here hx rfl (hb hby at_176) rfl (XS.iloadN X47.here hx rfl (hb hby at_177) rfl (XS.aload X47.here hx rfl (hb hby at_178) rfl rfl kk_)))) ?_
                  show own_GoesH _ _ _ _ _ _ _ _ _ T47 (mkF m 180 #[iv p1, iv p2, iv p3, iv p4, .val (.long p5), .second, iv p6, iv l2, iv c2, iv (1 : Int32), iv (1 : Int32), iv a1, iv b1, iv sc, iv a2, iv b2, rv x35_y, rv x46_y, .unset, .unset, .unset, .unset, .unset] [(.ref x35_y), (.int p2), (.int p1), (.ref b47), (.ref b47)])
                  obtain ⟨_, _, ⟨T48, L48, k48, n48⟩, -, X48, ⟨Lc48, hQ48, l48, y48, z48⟩, st48⟩ := X47.specialBack hx (y := yy11) rfl hown (mvT hZ (own_w hw 34 rfl)) (mvT hZ (own_w hw 35 rfl)) (mvT hZ (own_w hw 36 rfl)) (by decide) (backOf (W := 1) (rm6 l Z a0 hw [] (b47) (p1) (p2) (x35_y) h47 n0 Zs47 A47 fn47_line fn47_column fn47_message gg47) hZ (own_w hw 36 rfl) (own_w hw 33 rfl) (by decide) (by decide)) (g := (mkF m 180 #[iv p1, iv p2, iv p3, iv p4, .val (.long p5), .second, iv p6, iv l2, iv c2, iv (1 : Int32), iv (1 : Int32), iv a1, iv b1, iv sc, iv a2, iv b2, rv x35_y, rv x46_y, .unset, .unset, .unset, .unset, .unset] [(.ref x35_y), (.int p2), (.int p1), (.ref b47), (.ref b47)])) rfl (by rw [hml]; rfl) (Steps.refl _) (a := b47) (argsL := [(.int p1), (.int p2), (.ref x35_y)]) (rest := [(.ref b47)]) (lenOf pd_13 rfl) rfl (by show 2 * 0 + _ ≤ _; exact Nat.le_of_eq rfl) (hb hby at_180) (fun _ _ => ⟨rfl, e47, (by decide : 5 + 0 ≤ _), (by decide : 13 + 0 ≤ _)⟩)
                  dsimp only [Pt.U, Pt.locs, Pt.cells, Pt.slots] at X48 l48 y48 z48 st48 hQ48
                  subst l48 y48 z48
                  obtain ⟨rfl, Nq48, Kq48, u48_0, u48_1, u48_2⟩ := hQ48
                  have N48 := Fr.app N46 Nq48
                  have f48_0 := own_Sta_keep f47_0 Kq48 (nsS A47.nostat ns0)
                  have f48_1 := f47_1.keep Kq48
                  have f48_2 := f47_2.keep Kq48 (ninS ne47_x35_y nin0)
                  have f48_3 := f47_3.keep Kq48 (ninS ne47_x35_y nin0)
                  have f48_4 := f47_4.keep Kq48 (ninS ne47_x35_d nin0)
                  have f48_5 := f47_5.keep Kq48
                  have f48_6 := f47_6.keep Kq48 (ninS ne47_x46_y nin0)
                  have f48_7 := f47_7.keep Kq48 (ninS ne47_x46_y nin0)
                  have f48_8 := f47_8.keep Kq48 (ninS ne47_x46_d nin0)
                  have f48_9 := A47.keep Kq48
                  have C48 := C47.trans (CHr.keep Kq48 (sfS (Safe.exa hZ.alike A47 (by decide) (by decide)) sf0) C47.1)
                  have Ks48 := Nat.le_trans Ks47 Kq48.1
                  have Zs48 : n0 ≤ T48.heap.size := Nat.le_trans Zs47 Kq48.1
                  refine own_stH (fun _ kk_ => st48.trans kk_) ?_
                  show own_GoesH _ _ _ _ _ _ _ _ _ T48 (mkF m 183 #[iv p1, iv p2, iv p3, iv p4, .val (.long p5), .second, iv p6, iv l2, iv c2, iv (1 : Int32), iv (1 : Int32), iv a1, iv b1, iv sc, iv a2, iv b2, rv x35_y, rv x46_y, .unset, .unset, .unset, .unset, .unset] [(.ref b47)])
                  refine own_stH (fun _ kk_ => XS.astore X48.here hx rfl (hb hby at_183) rfl rfl (l' := #[iv p1, iv p2, iv p3, iv p4, .val (.long p5), .second, iv p6, iv l2, iv c2, iv (1 : Int32), iv (1 : Int32), iv a1, iv b1, iv sc, iv a2, iv b2, rv x35_y, rv x46_y, rv b47, .unset, .unset, .unset, .unset]) rfl kk_) ?_
                  show own_GoesH _ _ _ _ _ _ _ _ _ T48 (mkF m 185 #[iv p1, iv p2, iv p3, iv p4, .val (.long p5), .second, iv p6, iv l2, iv c2, iv (1 : Int32), iv (1 : Int32), iv a1, iv b1, iv sc, iv a2, iv b2, rv x35_y, rv x46_y, rv b47, .unset, .unset, .unset, .unset] [])
                  obtain ⟨T49, h49, X49, e49, E49, A49, D49, -, st49⟩ := newO X48 hx hZ hown (own_w hw 31 rfl) (own_w hw 32 rfl) (own_w hw 33 rfl) rfl (g := (mkF m 185 #[iv p1, iv p2, iv p3, iv p4, .val (.long p5), .second, iv p6, iv l2, iv c2, iv (1 : Int32), iv (1 : Int32), iv a1, iv b1, iv sc, iv a2, iv b2, rv x35_y, rv x46_y, rv b47, .unset, .unset, .unset, .unset] [])) rfl (hb hby at_185) (by decide) (by decide)
                  obtain ⟨b49, gx49⟩ : ∃ z, z = T48.heap.size := ⟨_, rfl⟩
                  rw [← gx49] at A49 D49 st49
                  have ne49_x35_y : x35_y ≠ b49 := Nat.ne_of_lt (Nat.lt_of_lt_of_eq f48_1.lt gx49.symm)
                  have ne49_x35_d : x35_d ≠ b49 := Nat.ne_of_lt (Nat.lt_of_lt_of_eq f48_4.lt gx49.symm)
                  have ne49_x46_y : x46_y ≠ b49 := Nat.ne_of_lt (Nat.lt_of_lt_of_eq f48_5.lt gx49.symm)
                  have ne49_x46_d : x46_d ≠ b49 := Nat.ne_of_lt (Nat.lt_of_lt_of_eq f48_8.lt gx49.symm)
                  have ne49_b47 : b47 ≠ b49 := Nat.ne_of_lt (Nat.lt_of_lt_of_eq f48_9.lt gx49.symm)
                  have gg49 : n0 ≤ b49 := Nat.le_trans Zs48 (Nat.le_of_eq gx49.symm)
                  have f49_0 := f48_0.ext E49
                  have f49_1 := f48_1.ext E49
                  have f49_2 := f48_2.ext E49
                  have f49_3 := f48_3.ext E49
                  have f49_4 := f48_4.ext E49
                  have f49_5 := f48_5.ext E49
                  have f49_6 := f48_6.ext E49
                  have f49_7 := f48_7.ext E49
                  have f49_8 := f48_8.ext E49
                  have f49_9 := f48_9.ext E49
                  have f49_10 := u48_0.ext E49
                  have f49_11 := u48_1.ext E49
                  have f49_12 := u48_2.ext E49
                  have C49 := C48.trans (CHr.ext E49 C48.1)
                  have Zs49 : n0 ≤ h49.size := Nat.le_trans Zs48 E49.1
                  have Ks49 := Nat.le_trans Ks48 E49.1
                  have fn49_line : Fld Z h49 b49 "com/example/majra/majra/lang/Command$Refusal" "line" "I" (.int (0 : Int32)) := D49 (Or.inr (own_w hw 39 rfl)) (ty := .int) (by decide)
                  have fn49_column : Fld Z h49 b49 "com/example/majra/majra/lang/Command$Refusal" "column" "I" (.int (0 : Int32)) := D49 (Or.inr (own_w hw 41 rfl)) (ty := .int) (by decide)
                  have fn49_message : Fld Z h49 b49 "com/example/majra/majra/lang/Command$Refusal" "message" "Ljava/lang/String;" .null := D49 (Or.inr (own_w hw 43 rfl)) (ty := (.object "java/lang/String")) (by decide)
                  refine own_stH st49 ?_
                  show own_GoesH _ _ _ _ _ _ _ _ _ T49 (mkF m 188 #[iv p1, iv p2, iv p3, iv p4, .val (.long p5), .second, iv p6, iv l2, iv c2, iv (1 : Int32), iv (1 : Int32), iv a1, iv b1, iv sc, iv a2, iv b2, rv x35_y, rv x46_y, rv b47, .unset, .unset, .unset, .unset] [(.ref b49)])
                  refine own_stH (fun _ kk_ => XS.dup X49.here hx rfl (hb hby at_188) rfl rfl (XS.iload X49.here hx rfl (hb hby at_189) rfl (XS.iload X49.here hx rfl (hb hby at_191) rfl (XS.aload X49.here hx rfl (hb hby at_193) rfl rfl kk_)))) ?_
                  show own_GoesH _ _ _ _ _ _ _ _ _ T49 (mkF m 195 #[iv p1, iv p2, iv p3, iv p4, .val (.long p5), .second, iv p6, iv l2, iv c2, iv (1 : Int32), iv (1 : Int32), iv a1, iv b1, iv sc, iv a2, iv b2, rv x35_y, rv x46_y, rv b47, .unset, .unset, .unset, .unset] [(.ref x46_y), (.int c2), (.int l2), (.ref b49), (.ref b49)])
                  obtain ⟨_, _, ⟨T50, L50, k50, n50⟩, -, X50, ⟨Lc50, hQ50, l50, y50, z50⟩, st50⟩ := X49.specialBack hx (y := yy11) rfl hown (mvT hZ (own_w hw 34 rfl)) (mvT hZ (own_w hw 35 rfl)) (mvT hZ (own_w hw 36 rfl)) (by decide) (backOf (W := 1) (rm6 l Z a0 hw [] (b49) (l2) (c2) (x46_y) h49 n0 Zs49 A49 fn49_line fn49_column fn49_message gg49) hZ (own_w hw 36 rfl) (own_w hw 33 rfl) (by decide) (by decide)) (g := (mkF m 195 #[iv p1, iv p2, iv p3, iv p4, .val (.long p5), .second, iv p6, iv l2, iv c2, iv (1 : Int32), iv (1 : Int32), iv a1, iv b1, iv sc, iv a2, iv b2, rv x35_y, rv x46_y, rv b47, .unset, .unset, .unset, .unset] [(.ref x46_y), (.int c2), (.int l2), (.ref b49), (.ref b49)])) rfl (by rw [hml]; rfl) (Steps.refl _) (a := b49) (argsL := [(.int l2), (.int c2), (.ref x46_y)]) (rest := [(.ref b49)]) (lenOf pd_13 rfl) rfl (by show 2 * 0 + _ ≤ _; exact Nat.le_of_eq rfl) (hb hby at_195) (fun _ _ => ⟨rfl, e49, (by decide : 6 + 0 ≤ _), (by decide : 16 + 0 ≤ _)⟩)
                  dsimp only [Pt.U, Pt.locs, Pt.cells, Pt.slots] at X50 l50 y50 z50 st50 hQ50
                  subst l50 y50 z50
                  obtain ⟨rfl, Nq50, Kq50, u50_0, u50_1, u50_2⟩ := hQ50
                  have N50 := Fr.app N48 Nq50
                  have f50_0 := own_Sta_keep f49_0 Kq50 (nsS A49.nostat ns0)
                  have f50_1 := f49_1.keep Kq50
                  have f50_2 := f49_2.keep Kq50 (ninS ne49_x35_y nin0)
                  have f50_3 := f49_3.keep Kq50 (ninS ne49_x35_y nin0)
                  have f50_4 := f49_4.keep Kq50 (ninS ne49_x35_d nin0)
                  have f50_5 := f49_5.keep Kq50
                  have f50_6 := f49_6.keep Kq50 (ninS ne49_x46_y nin0)
                  have f50_7 := f49_7.keep Kq50 (ninS ne49_x46_y nin0)
                  have f50_8 := f49_8.keep Kq50 (ninS ne49_x46_d nin0)
                  have f50_9 := f49_9.keep Kq50
                  have f50_10 := f49_10.keep Kq50 (ninS ne49_b47 nin0)
                  have f50_11 := f49_11.keep Kq50 (ninS ne49_b47 nin0)
                  have f50_12 := f49_12.keep Kq50 (ninS ne49_b47 nin0)
                  have f50_13 := A49.keep Kq50
                  have C50 := C49.trans (CHr.keep Kq50 (sfS (Safe.exa hZ.alike A49 (by decide) (by decide)) sf0) C49.1)
                  have Ks50 := Nat.le_trans Ks49 Kq50.1
                  have Zs50 : n0 ≤ T50.heap.size := Nat.le_trans Zs49 Kq50.1
                  refine own_stH (fun _ kk_ => st50.trans kk_) ?_
                  show own_GoesH _ _ _ _ _ _ _ _ _ T50 (mkF m 198 #[iv p1, iv p2, iv p3, iv p4, .val (.long p5), .second, iv p6, iv l2, iv c2, iv (1 : Int32), iv (1 : Int32), iv a1, iv b1, iv sc, iv a2, iv b2, rv x35_y, rv x46_y, rv b47, .unset, .unset, .unset, .unset] [(.ref b49)])
                  refine own_stH (fun _ kk_ => XS.astore X50.here hx rfl (hb hby at_198) rfl rfl (l' := #[iv p1, iv p2, iv p3, iv p4, .val (.long p5), .second, iv p6, iv l2, iv c2, iv (1 : Int32), iv (1 : Int32), iv a1, iv b1, iv sc, iv a2, iv b2, rv x35_y, rv x46_y, rv b47, rv b49, .unset, .unset, .unset]) rfl kk_) ?_
                  show own_GoesH _ _ _ _ _ _ _ _ _ T50 (mkF m 200 #[iv p1, iv p2, iv p3, iv p4, .val (.long p5), .second, iv p6, iv l2, iv c2, iv (1 : Int32), iv (1 : Int32), iv a1, iv b1, iv sc, iv a2, iv b2, rv x35_y, rv x46_y, rv b47, rv b49, .unset, .unset, .unset] [])
                  have JM : ∀ (sm : Int32), (sm = own_b (a1 = a2)) → own_GoesH p e below s Z consts_1 (Q0 Z p1 p2 p3 p4 p5 p6 cs h0 n0) 32 1152 T50 (mkF m 238 #[iv p1, iv p2, iv p3, iv p4, .val (.long p5), .second, iv p6, iv l2, iv c2, iv (1 : Int32), iv (1 : Int32), iv a1, iv b1, iv sc, iv a2, iv b2, rv x35_y, rv x46_y, rv b47, rv b49, .unset, .unset, .unset] [(.int sm)]) := by
                    intro sm hsm
                    show own_GoesH _ _ _ _ _ _ _ _ _ T50 (mkF m 238 #[iv p1, iv p2, iv p3, iv p4, .val (.long p5), .second, iv p6, iv l2, iv c2, iv (1 : Int32), iv (1 : Int32), iv a1, iv b1, iv sc, iv a2, iv b2, rv x35_y, rv x46_y, rv b47, rv b49, .unset, .unset, .unset] [(.int sm)])
                    refine own_stH (fun _ kk_ => XS.istore X50.here hx rfl (hb hby at_238) rfl (l' := #[iv p1, iv p2, iv p3, iv p4, .val (.long p5), .second, iv p6, iv l2, iv c2, iv (1 : Int32), iv (1 : Int32), iv a1, iv b1, iv sc, iv a2, iv b2, rv x35_y, rv x46_y, rv b47, rv b49, iv sm, .unset, .unset]) rfl (XS.iloadN X50.here hx rfl (hb hby at_240) rfl (XS.iload X50.here hx rfl (hb hby at_241) rfl kk_))) ?_
                    show own_GoesH _ _ _ _ _ _ _ _ _ T50 (mkF m 243 #[iv p1, iv p2, iv p3, iv p4, .val (.long p5), .second, iv p6, iv l2, iv c2, iv (1 : Int32), iv (1 : Int32), iv a1, iv b1, iv sc, iv a2, iv b2, rv x35_y, rv x46_y, rv b47, rv b49, iv sm, .unset, .unset] [(.int l2), (.int p1)])
                    have JE : ∀ (xp : Int32), (xp = own_b (p1 = l2 ∧ p2 = c2 ∧ (a1 = a2))) → own_GoesH p e below s Z consts_1 (Q0 Z p1 p2 p3 p4 p5 p6 cs h0 n0) 32 1152 T50 (mkF m 262 #[iv p1, iv p2, iv p3, iv p4, .val (.long p5), .second, iv p6, iv l2, iv c2, iv (1 : Int32), iv (1 : Int32), iv a1, iv b1, iv sc, iv a2, iv b2, rv x35_y, rv x46_y, rv b47, rv b49, iv sm, .unset, .unset] [(.int xp)]) := by
                      intro xp hxp
                      show own_GoesH _ _ _ _ _ _ _ _ _ T50 (mkF m 262 #[iv p1, iv p2, iv p3, iv p4, .val (.long p5), .second, iv p6, iv l2, iv c2, iv (1 : Int32), iv (1 : Int32), iv a1, iv b1, iv sc, iv a2, iv b2, rv x35_y, rv x46_y, rv b47, rv b49, iv sm, .unset, .unset] [(.int xp)])
                      refine own_stH (fun _ kk_ => XS.istore X50.here hx rfl (hb hby at_262) rfl (l' := #[iv p1, iv p2, iv p3, iv p4, .val (.long p5), .second, iv p6, iv l2, iv c2, iv (1 : Int32), iv (1 : Int32), iv a1, iv b1, iv sc, iv a2, iv b2, rv x35_y, rv x46_y, rv b47, rv b49, iv sm, iv xp, .unset]) rfl (XS.aload X50.here hx rfl (hb hby at_264) rfl rfl (XS.astore X50.here hx rfl (hb hby at_266) rfl rfl (l' := #[iv p1, iv p2, iv p3, iv p4, .val (.long p5), .second, iv p6, iv l2, iv c2, iv (1 : Int32), iv (1 : Int32), iv a1, iv b1, iv sc, iv a2, iv b2, rv x35_y, rv x46_y, rv b47, rv b49, iv sm, iv xp, rv x35_y]) rfl (XS.aload X50.here hx rfl (hb hby at_268) rfl rfl (XS.aload X50.here hx rfl (hb hby at_270) rfl rfl kk_))))) ?_
                      show own_GoesH _ _ _ _ _ _ _ _ _ T50 (mkF m 272 #[iv p1, iv p2, iv p3, iv p4, .val (.long p5), .second, iv p6, iv l2, iv c2, iv (1 : Int32), iv (1 : Int32), iv a1, iv b1, iv sc, iv a2, iv b2, rv x35_y, rv x46_y, rv b47, rv b49, iv sm, iv xp, rv x35_y] [(.ref b49), (.ref b47)])
                      obtain ⟨cq51, kq51, q51a, q51b, q51c⟩ := isOf hZ rfl f50_9
                      obtain ⟨_, _, ⟨T51, L51, k51, n51⟩, -, X51, ⟨Lc51, hQ51, l51, y51, z51⟩, st51⟩ := X50.virtualBack hx (y := yy14) (z := yy14) hown (mvT hZ (own_w hw 44 rfl)) (mvT hZ (own_w hw 45 rfl)) (notFace_of_selects (args := #[]) (mvT hZ (own_w hw 47 rfl))) (mvT hZ (own_w hw 47 rfl)) (mvT hZ (own_w hw 46 rfl)) (by decide) (backOf (W := 0) (rm7_1_1 l Z a0 hw [] (b47) (b49) (p1) (p2) (l2) (c2) (x35_y) (x46_y) ((own_by a1)) ((own_by a2)) (x35_d) (x46_d) (x35_kd) (x46_kd) (cs) T50.heap n0 Zs50 f50_10 f50_11 f50_12 f50_13 u50_0 u50_1 u50_2 f50_1 f50_2 f50_3 f50_5 f50_6 f50_7 f50_4 f50_8 f50_0 (by assumption) ne46_x35_y) hZ (own_w hw 48 rfl) (own_w hw 33 rfl) (by decide) (by decide)) q51a q51c (g := (mkF m 272 #[iv p1, iv p2, iv p3, iv p4, .val (.long p5), .second, iv p6, iv l2, iv c2, iv (1 : Int32), iv (1 : Int32), iv a1, iv b1, iv sc, iv a2, iv b2, rv x35_y, rv x46_y, rv b47, rv b49, iv sm, iv xp, rv x35_y] [(.ref b49), (.ref b47)])) rfl (by rw [hml]; rfl) (Steps.refl _) (argsL := [(.ref b49)]) (rest := []) (lenOf pd_10 rfl) rfl (by show 2 * 0 + _ ≤ _; exact Nat.le_of_eq rfl) (hb hby at_272) (fun _ _ => ⟨rfl, rfl, (by decide : 6 + 0 ≤ _), (by decide : 16 + 0 ≤ _)⟩)
                      dsimp only [Pt.U, Pt.locs, Pt.cells, Pt.slots] at X51 l51 y51 z51 st51 hQ51
                      subst l51 y51 z51
                      obtain ⟨rfl, Nq51, eq51⟩ := hQ51
                      have N51 := Fr.app N50 Nq51
                      refine own_stH (fun _ kk_ => st51.trans kk_) ?_
                      show own_GoesH _ _ _ _ _ _ _ _ _ T51 (mkF m 275 #[iv p1, iv p2, iv p3, iv p4, .val (.long p5), .second, iv p6, iv l2, iv c2, iv (1 : Int32), iv (1 : Int32), iv a1, iv b1, iv sc, iv a2, iv b2, rv x35_y, rv x46_y, rv b47, rv b49, iv sm, iv xp, rv x35_y] [(.int (own_b (p1 = l2 ∧ p2 = c2 ∧ ((own_by a1) = (own_by a2)))))])
                      refine own_stH (fun _ kk_ => XS.iload X51.here hx rfl (hb hby at_275) rfl (XS.icmpNo X51.here hx rfl (hb hby at_277) rfl (XT.ii_ne_f ((own_bc (own_and3 Iff.rfl Iff.rfl (own_byi hi_a1 hi_a2))).trans hxp.symm)) (XS.aload X51.here hx rfl (hb hby at_280) rfl rfl (XS.aload X51.here hx rfl (hb hby at_282) rfl rfl kk_)))) ?_
                      show own_GoesH _ _ _ _ _ _ _ _ _ T51 (mkF m 284 #[iv p1, iv p2, iv p3, iv p4, .val (.long p5), .second, iv p6, iv l2, iv c2, iv (1 : Int32), iv (1 : Int32), iv a1, iv b1, iv sc, iv a2, iv b2, rv x35_y, rv x46_y, rv b47, rv b49, iv sm, iv xp, rv x35_y] [(.ref b47), (.ref b49)])
                      obtain ⟨cq52, kq52, q52a, q52b, q52c⟩ := isOf hZ eq51 f50_13
                      obtain ⟨_, _, ⟨T52, L52, k52, n52⟩, -, X52, ⟨Lc52, hQ52, l52, y52, z52⟩, st52⟩ := X51.virtualBack hx (y := yy14) (z := yy14) hown (mvT hZ (own_w hw 44 rfl)) (mvT hZ (own_w hw 45 rfl)) (notFace_of_selects (args := #[]) (mvT hZ (own_w hw 47 rfl))) (mvT hZ (own_w hw 47 rfl)) (mvT hZ (own_w hw 46 rfl)) (by decide) (backOf (W := 0) (rm7_1_1 l Z a0 hw [] (b49) (b47) (l2) (c2) (p1) (p2) (x46_y) (x35_y) ((own_by a2)) ((own_by a1)) (x46_d) (x35_d) (x46_kd) (x35_kd) (cs) T50.heap n0 Zs50 u50_0 u50_1 u50_2 f50_9 f50_10 f50_11 f50_12 f50_5 f50_6 f50_7 f50_1 f50_2 f50_3 f50_8 f50_4 f50_0 (by assumption) (Ne.symm ne46_x35_y)) hZ (own_w hw 48 rfl) (own_w hw 33 rfl) (by decide) (by decide)) q52a q52c (g := (mkF m 284 #[iv p1, iv p2, iv p3, iv p4, .val (.long p5), .second, iv p6, iv l2, iv c2, iv (1 : Int32), iv (1 : Int32), iv a1, iv b1, iv sc, iv a2, iv b2, rv x35_y, rv x46_y, rv b47, rv b49, iv sm, iv xp, rv x35_y] [(.ref b47), (.ref b49)])) rfl (by rw [hml]; rfl) (Steps.refl _) (argsL := [(.ref b47)]) (rest := []) (lenOf pd_10 rfl) rfl (by show 2 * 0 + _ ≤ _; exact Nat.le_of_eq rfl) (hb hby at_284) (fun _ _ => ⟨rfl, eq51, (by decide : 6 + 0 ≤ _), (by decide : 16 + 0 ≤ _)⟩)
                      dsimp only [Pt.U, Pt.locs, Pt.cells, Pt.slots] at X52 l52 y52 z52 st52 hQ52
                      subst l52 y52 z52
                      obtain ⟨rfl, Nq52, eq52⟩ := hQ52
                      have N52 := Fr.app N51 Nq52
                      refine own_stH (fun _ kk_ => st52.trans kk_) ?_
                      show own_GoesH _ _ _ _ _ _ _ _ _ T52 (mkF m 287 #[iv p1, iv p2, iv p3, iv p4, .val (.long p5), .second, iv p6, iv l2, iv c2, iv (1 : Int32), iv (1 : Int32), iv a1, iv b1, iv sc, iv a2, iv b2, rv x35_y, rv x46_y, rv b47, rv b49, iv sm, iv xp, rv x35_y] [(.int (own_b (l2 = p1 ∧ c2 = p2 ∧ ((own_by a2) = (own_by a1)))))])
                      refine own_stH (fun _ kk_ => XS.iload X52.here hx rfl (hb hby at_287) rfl (XS.icmpNo X52.here hx rfl (hb hby at_289) rfl (XT.ii_ne_f ((own_bc (own_and3 own_sy own_sy ((own_byi hi_a2 hi_a1).trans own_sy))).trans hxp.symm)) (XS.aload X52.here hx rfl (hb hby at_292) rfl rfl (XS.aload X52.here hx rfl (hb hby at_294) rfl rfl kk_)))) ?_
                      show own_GoesH _ _ _ _ _ _ _ _ _ T52 (mkF m 296 #[iv p1, iv p2, iv p3, iv p4, .val (.long p5), .second, iv p6, iv l2, iv c2, iv (1 : Int32), iv (1 : Int32), iv a1, iv b1, iv sc, iv a2, iv b2, rv x35_y, rv x46_y, rv b47, rv b49, iv sm, iv xp, rv x35_y] [(.ref b47), (.ref b47)])
                      obtain ⟨cq53, kq53, q53a, q53b, q53c⟩ := isOf hZ eq52 f50_9
                      obtain ⟨_, _, ⟨T53, L53, k53, n53⟩, -, X53, ⟨Lc53, hQ53, l53, y53, z53⟩, st53⟩ := X52.virtualBack hx (y := yy14) (z := yy14) hown (mvT hZ (own_w hw 44 rfl)) (mvT hZ (own_w hw 45 rfl)) (notFace_of_selects (args := #[]) (mvT hZ (own_w hw 47 rfl))) (mvT hZ (own_w hw 47 rfl)) (mvT hZ (own_w hw 46 rfl)) (by decide) (backOf (W := 0) (rm7s l Z a0 hw [] (b47) (p1) (p2) (x35_y) T50.heap n0 Zs50 f50_9 f50_10 f50_11 f50_12 f50_1) hZ (own_w hw 48 rfl) (own_w hw 33 rfl) (by decide) (by decide)) q53a q53c (g := (mkF m 296 #[iv p1, iv p2, iv p3, iv p4, .val (.long p5), .second, iv p6, iv l2, iv c2, iv (1 : Int32), iv (1 : Int32), iv a1, iv b1, iv sc, iv a2, iv b2, rv x35_y, rv x46_y, rv b47, rv b49, iv sm, iv xp, rv x35_y] [(.ref b47), (.ref b47)])) rfl (by rw [hml]; rfl) (Steps.refl _) (argsL := [(.ref b47)]) (rest := []) (lenOf pd_10 rfl) rfl (by show 2 * 0 + _ ≤ _; exact Nat.le_of_eq rfl) (hb hby at_296) (fun _ _ => ⟨rfl, eq52, (by decide : 6 + 0 ≤ _), (by decide : 16 + 0 ≤ _)⟩)
                      dsimp only [Pt.U, Pt.locs, Pt.cells, Pt.slots] at X53 l53 y53 z53 st53 hQ53
                      subst l53 y53 z53
                      obtain ⟨rfl, Nq53, eq53⟩ := hQ53
                      have N53 := Fr.app N52 Nq53
                      refine own_stH (fun _ kk_ => st53.trans kk_) ?_
                      show own_GoesH _ _ _ _ _ _ _ _ _ T53 (mkF m 299 #[iv p1, iv p2, iv p3, iv p4, .val (.long p5), .second, iv p6, iv l2, iv c2, iv (1 : Int32), iv (1 : Int32), iv a1, iv b1, iv sc, iv a2, iv b2, rv x35_y, rv x46_y, rv b47, rv b49, iv sm, iv xp, rv x35_y] [(.int (1 : Int32))])
                      refine own_stH (fun _ kk_ => XS.ifNo X53.here hx rfl (hb hby at_299) rfl (XT.i0_eq_f (by decide)) (XS.aload X53.here hx rfl (hb hby at_302) rfl rfl (XS.aconstNull X53.here hx rfl (hb hby at_304) kk_))) ?_
                      show own_GoesH _ _ _ _ _ _ _ _ _ T53 (mkF m 305 #[iv p1, iv p2, iv p3, iv p4, .val (.long p5), .second, iv p6, iv l2, iv c2, iv (1 : Int32), iv (1 : Int32), iv a1, iv b1, iv sc, iv a2, iv b2, rv x35_y, rv x46_y, rv b47, rv b49, iv sm, iv xp, rv x35_y] [.null, (.ref b47)])
                      obtain ⟨cq54, kq54, q54a, q54b, q54c⟩ := isOf hZ eq53 f50_9
                      obtain ⟨_, _, ⟨T54, L54, k54, n54⟩, -, X54, ⟨Lc54, hQ54, l54, y54, z54⟩, st54⟩ := X53.virtualBack hx (y := yy14) (z := yy14) hown (mvT hZ (own_w hw 44 rfl)) (mvT hZ (own_w hw 45 rfl)) (notFace_of_selects (args := #[]) (mvT hZ (own_w hw 47 rfl))) (mvT hZ (own_w hw 47 rfl)) (mvT hZ (own_w hw 46 rfl)) (by decide) (backOf (W := 0) (rm7n l Z a0 hw [] (b47) T50.heap n0 Zs50) hZ (own_w hw 48 rfl) (own_w hw 33 rfl) (by decide) (by decide)) q54a q54c (g := (mkF m 305 #[iv p1, iv p2, iv p3, iv p4, .val (.long p5), .second, iv p6, iv l2, iv c2, iv (1 : Int32), iv (1 : Int32), iv a1, iv b1, iv sc, iv a2, iv b2, rv x35_y, rv x46_y, rv b47, rv b49, iv sm, iv xp, rv x35_y] [.null, (.ref b47)])) rfl (by rw [hml]; rfl) (Steps.refl _) (argsL := [.null]) (rest := []) (lenOf pd_10 rfl) rfl (by show 2 * 0 + _ ≤ _; exact Nat.le_of_eq rfl) (hb hby at_305) (fun _ _ => ⟨rfl, eq53, (by decide : 6 + 0 ≤ _), (by decide : 16 + 0 ≤ _)⟩)
                      dsimp only [Pt.U, Pt.locs, Pt.cells, Pt.slots] at X54 l54 y54 z54 st54 hQ54
                      subst l54 y54 z54
                      obtain ⟨rfl, Nq54, eq54⟩ := hQ54
                      have N54 := Fr.app N53 Nq54
                      refine own_stH (fun _ kk_ => st54.trans kk_) ?_
                      show own_GoesH _ _ _ _ _ _ _ _ _ T54 (mkF m 308 #[iv p1, iv p2, iv p3, iv p4, .val (.long p5), .second, iv p6, iv l2, iv c2, iv (1 : Int32), iv (1 : Int32), iv a1, iv b1, iv sc, iv a2, iv b2, rv x35_y, rv x46_y, rv b47, rv b49, iv sm, iv xp, rv x35_y] [(.int (0 : Int32))])
                      refine own_stH (fun _ kk_ => XS.ifNo X54.here hx rfl (hb hby at_308) rfl (XT.i0_ne_f (by decide)) (XS.aload X54.here hx rfl (hb hby at_311) rfl rfl (XS.aload X54.here hx rfl (hb hby at_313) rfl rfl kk_))) ?_
                      show own_GoesH _ _ _ _ _ _ _ _ _ T54 (mkF m 315 #[iv p1, iv p2, iv p3, iv p4, .val (.long p5), .second, iv p6, iv l2, iv c2, iv (1 : Int32), iv (1 : Int32), iv a1, iv b1, iv sc, iv a2, iv b2, rv x35_y, rv x46_y, rv b47, rv b49, iv sm, iv xp, rv x35_y] [(.ref x35_y), (.ref b47)])
                      obtain ⟨cq55, kq55, q55a, q55b, q55c⟩ := isOf hZ eq54 f50_9
                      obtain ⟨_, _, ⟨T55, L55, k55, n55⟩, -, X55, ⟨Lc55, hQ55, l55, y55, z55⟩, st55⟩ := X54.virtualBack hx (y := yy14) (z := yy14) hown (mvT hZ (own_w hw 44 rfl)) (mvT hZ (own_w hw 45 rfl)) (notFace_of_selects (args := #[]) (mvT hZ (own_w hw 47 rfl))) (mvT hZ (own_w hw 47 rfl)) (mvT hZ (own_w hw 46 rfl)) (by decide) (backOf (W := 0) (rm7x l Z a0 hw [] (b47) (x35_y) T50.heap n0 Zs50 f50_1) hZ (own_w hw 48 rfl) (own_w hw 33 rfl) (by decide) (by decide)) q55a q55c (g := (mkF m 315 #[iv p1, iv p2, iv p3, iv p4, .val (.long p5), .second, iv p6, iv l2, iv c2, iv (1 : Int32), iv (1 : Int32), iv a1, iv b1, iv sc, iv a2, iv b2, rv x35_y, rv x46_y, rv b47, rv b49, iv sm, iv xp, rv x35_y] [(.ref x35_y), (.ref b47)])) rfl (by rw [hml]; rfl) (Steps.refl _) (argsL := [(.ref x35_y)]) (rest := []) (lenOf pd_10 rfl) rfl (by show 2 * 0 + _ ≤ _; exact Nat.le_of_eq rfl) (hb hby at_315) (fun _ _ => ⟨rfl, eq54, (by decide : 6 + 0 ≤ _), (by decide : 16 + 0 ≤ _)⟩)
                      dsimp only [Pt.U, Pt.locs, Pt.cells, Pt.slots] at X55 l55 y55 z55 st55 hQ55
                      subst l55 y55 z55
                      obtain ⟨rfl, Nq55, eq55⟩ := hQ55
                      have N55 := Fr.app N54 Nq55
                      refine own_stH (fun _ kk_ => st55.trans kk_) ?_
                      show own_GoesH _ _ _ _ _ _ _ _ _ T55 (mkF m 318 #[iv p1, iv p2, iv p3, iv p4, .val (.long p5), .second, iv p6, iv l2, iv c2, iv (1 : Int32), iv (1 : Int32), iv a1, iv b1, iv sc, iv a2, iv b2, rv x35_y, rv x46_y, rv b47, rv b49, iv sm, iv xp, rv x35_y] [(.int (0 : Int32))])
                      refine own_stH (fun _ kk_ => XS.ifNo X55.here hx rfl (hb hby at_318) rfl (XT.i0_ne_f (by decide)) (XS.iconst X55.here hx rfl (hb hby at_321) (XS.goto X55.here hx rfl (pc0 := 322) (pc' := 326) rfl (hb hby at_322) (by decide) (by decide) kk_))) ?_
                      show own_GoesH _ _ _ _ _ _ _ _ _ T55 (mkF m 326 #[iv p1, iv p2, iv p3, iv p4, .val (.long p5), .second, iv p6, iv l2, iv c2, iv (1 : Int32), iv (1 : Int32), iv a1, iv b1, iv sc, iv a2, iv b2, rv x35_y, rv x46_y, rv b47, rv b49, iv sm, iv xp, rv x35_y] [(.int (1 : Int32))])
                      refine own_endH (v := (some (.int (nar .boolean (1 : Int32))))) X55 hlk hS2 (by rw [eq55]; exact Ks50) hZ hEL hh eq55 C50 (fun h => by rw [Bd.returns] at h; cases h) (by decide) (by decide) ?_ (fun fs hr => retN X55 hx (t := .boolean) Bd.returns (by simp) (hb hby at_326) hr)
                      show Q0 Z p1 p2 p3 p4 p5 p6 cs h0 n0 (some (.int (nar .boolean (1 : Int32)))) T55.heap _
                      rw [eq55]
                      exact ⟨rfl, N55⟩
                    rcases Classical.em (p1 = l2) with r0 | r0
                    · refine own_stH (fun _ kk_ => XS.icmpNo X50.here hx rfl (hb hby at_243) rfl (XT.ii_ne_f r0) (XS.iloadN X50.here hx rfl (hb hby at_246) rfl (XS.iload X50.here hx rfl (hb hby at_247) rfl kk_))) ?_
                      show own_GoesH _ _ _ _ _ _ _ _ _ T50 (mkF m 249 #[iv p1, iv p2, iv p3, iv p4, .val (.long p5), .second, iv p6, iv l2, iv c2, iv (1 : Int32), iv (1 : Int32), iv a1, iv b1, iv sc, iv a2, iv b2, rv x35_y, rv x46_y, rv b47, rv b49, iv sm, .unset, .unset] [(.int c2), (.int p2)])
                      rcases Classical.em (p2 = c2) with r1 | r1
                      · refine own_stH (fun _ kk_ => XS.icmpNo X50.here hx rfl (hb hby at_249) rfl (XT.ii_ne_f r1) (XS.iload X50.here hx rfl (hb hby at_252) rfl kk_)) ?_
                        show own_GoesH _ _ _ _ _ _ _ _ _ T50 (mkF m 254 #[iv p1, iv p2, iv p3, iv p4, .val (.long p5), .second, iv p6, iv l2, iv c2, iv (1 : Int32), iv (1 : Int32), iv a1, iv b1, iv sc, iv a2, iv b2, rv x35_y, rv x46_y, rv b47, rv b49, iv sm, .unset, .unset] [(.int sm)])
                        rcases Classical.em (sm = (0 : Int32)) with r2 | r2
                        · refine own_stH (fun _ kk_ => XS.ifYes X50.here hx rfl (pc0 := 254) (pc' := 261) rfl (hb hby at_254) rfl (XT.i0_eq_t r2) (by decide) (by decide) (XS.iconst X50.here hx rfl (hb hby at_261) kk_)) ?_
                          show own_GoesH _ _ _ _ _ _ _ _ _ T50 (mkF m 262 #[iv p1, iv p2, iv p3, iv p4, .val (.long p5), .second, iv p6, iv l2, iv c2, iv (1 : Int32), iv (1 : Int32), iv a1, iv b1, iv sc, iv a2, iv b2, rv x35_y, rv x46_y, rv b47, rv b49, iv sm, .unset, .unset] [(.int (0 : Int32))])
                          exact JE ((0 : Int32)) (own_b0 (fun k => by rw [hsm, own_b1 k.2.2] at r2; exact absurd r2 (by decide))).symm
                        · refine own_stH (fun _ kk_ => XS.ifNo X50.here hx rfl (hb hby at_254) rfl (XT.i0_eq_f r2) (XS.iconst X50.here hx rfl (hb hby at_257) (XS.goto X50.here hx rfl (pc0 := 258) (pc' := 262) rfl (hb hby at_258) (by decide) (by decide) kk_))) ?_
                          show own_GoesH _ _ _ _ _ _ _ _ _ T50 (mkF m 262 #[iv p1, iv p2, iv p3, iv p4, .val (.long p5), .second, iv p6, iv l2, iv c2, iv (1 : Int32), iv (1 : Int32), iv a1, iv b1, iv sc, iv a2, iv b2, rv x35_y, rv x46_y, rv b47, rv b49, iv sm, .unset, .unset] [(.int (1 : Int32))])
                          exact JE ((1 : Int32)) (own_b1 ⟨r0, r1, Classical.byContradiction fun k => r2 (hsm.trans (own_b0 k))⟩).symm
                      · refine own_stH (fun _ kk_ => XS.icmpYes X50.here hx rfl (pc0 := 249) (pc' := 261) rfl (hb hby at_249) rfl (XT.ii_ne_t r1) (by decide) (by decide) (XS.iconst X50.here hx rfl (hb hby at_261) kk_)) ?_
                        show own_GoesH _ _ _ _ _ _ _ _ _ T50 (mkF m 262 #[iv p1, iv p2, iv p3, iv p4, .val (.long p5), .second, iv p6, iv l2, iv c2, iv (1 : Int32), iv (1 : Int32), iv a1, iv b1, iv sc, iv a2, iv b2, rv x35_y, rv x46_y, rv b47, rv b49, iv sm, .unset, .unset] [(.int (0 : Int32))])
                        exact JE ((0 : Int32)) (own_b0 (fun k => r1 k.2.1)).symm
                    · refine own_stH (fun _ kk_ => XS.icmpYes X50.here hx rfl (pc0 := 243) (pc' := 261) rfl (hb hby at_243) rfl (XT.ii_ne_t r0) (by decide) (by decide) (XS.iconst X50.here hx rfl (hb hby at_261) kk_)) ?_
                      show own_GoesH _ _ _ _ _ _ _ _ _ T50 (mkF m 262 #[iv p1, iv p2, iv p3, iv p4, .val (.long p5), .second, iv p6, iv l2, iv c2, iv (1 : Int32), iv (1 : Int32), iv a1, iv b1, iv sc, iv a2, iv b2, rv x35_y, rv x46_y, rv b47, rv b49, iv sm, .unset, .unset] [(.int (0 : Int32))])
                      exact JE ((0 : Int32)) (own_b0 (fun k => r0 k.1)).symm
                  refine own_stH (fun _ kk_ => XS.iload X50.here hx rfl (hb hby at_200) rfl (XS.iload X50.here hx rfl (hb hby at_202) rfl (XS.icmpNo X50.here hx rfl (hb hby at_204) rfl (XT.ii_ne_f (by decide)) (XS.iload X50.here hx rfl (hb hby at_207) rfl (XS.iconst X50.here hx rfl (hb hby at_209) (XS.icmpNo X50.here hx rfl (hb hby at_210) rfl (XT.ii_lt_f (by decide)) (XS.iload X50.here hx rfl (hb hby at_213) rfl (XS.iload X50.here hx rfl (hb hby at_215) rfl kk_)))))))) ?_
                  show own_GoesH _ _ _ _ _ _ _ _ _ T50 (mkF m 217 #[iv p1, iv p2, iv p3, iv p4, .val (.long p5), .second, iv p6, iv l2, iv c2, iv (1 : Int32), iv (1 : Int32), iv a1, iv b1, iv sc, iv a2, iv b2, rv x35_y, rv x46_y, rv b47, rv b49, .unset, .unset, .unset] [(.int a2), (.int a1)])
                  rcases Classical.em (a1 = a2) with r0 | r0
                  · refine own_stH (fun _ kk_ => XS.icmpNo X50.here hx rfl (hb hby at_217) rfl (XT.ii_ne_f r0) (XS.iload X50.here hx rfl (hb hby at_220) rfl (XS.iconst X50.here hx rfl (hb hby at_222) (XS.icmpYes X50.here hx rfl (pc0 := 223) (pc' := 233) rfl (hb hby at_223) rfl (XT.ii_lt_t (by decide)) (by decide) (by decide) (XS.iconst X50.here hx rfl (hb hby at_233) (XS.goto X50.here hx rfl (pc0 := 234) (pc' := 238) rfl (hb hby at_234) (by decide) (by decide) kk_)))))) ?_
                    show own_GoesH _ _ _ _ _ _ _ _ _ T50 (mkF m 238 #[iv p1, iv p2, iv p3, iv p4, .val (.long p5), .second, iv p6, iv l2, iv c2, iv (1 : Int32), iv (1 : Int32), iv a1, iv b1, iv sc, iv a2, iv b2, rv x35_y, rv x46_y, rv b47, rv b49, .unset, .unset, .unset] [(.int (1 : Int32))])
                    exact JM ((1 : Int32)) (own_b1 r0).symm
                  · refine own_stH (fun _ kk_ => XS.icmpYes X50.here hx rfl (pc0 := 217) (pc' := 237) rfl (hb hby at_217) rfl (XT.ii_ne_t r0) (by decide) (by decide) (XS.iconst X50.here hx rfl (hb hby at_237) kk_)) ?_
                    show own_GoesH _ _ _ _ _ _ _ _ _ T50 (mkF m 238 #[iv p1, iv p2, iv p3, iv p4, .val (.long p5), .second, iv p6, iv l2, iv c2, iv (1 : Int32), iv (1 : Int32), iv a1, iv b1, iv sc, iv a2, iv b2, rv x35_y, rv x46_y, rv b47, rv b49, .unset, .unset, .unset] [(.int (0 : Int32))])
                    exact JM ((0 : Int32)) (own_b0 (fun k => r0 k)).symm
                · show own_GoesH _ _ _ _ _ _ _ _ _ T35 (mkF m 167 #[iv p1, iv p2, iv p3, iv p4, .val (.long p5), .second, iv p6, iv l2, iv c2, iv (1 : Int32), iv (2 : Int32), iv a1, iv b1, iv sc, iv a2, iv b2, rv x35_y, .unset, .unset, .unset, .unset, .unset, .unset] [(.int b2), (.int a2), (.int (2 : Int32))])
                  obtain ⟨_, _, ⟨T56, L56, k56, n56⟩, -, X56, ⟨Lc56, hQ56, l56, y56, z56⟩, st56⟩ := Jvm.LawKit.callS X35 hx (y := yy10) hown (mvT hZ (own_w hw 5 rfl)) (mvT hZ (own_w hw 6 rfl)) (mvT hZ (own_w hw 7 rfl)) (mvT hZ (own_w hw 8 rfl)) (by decide) (backOf (W := 0) (rm2_2 l Z a0 hw [] (a2) (b2) (cs) T35.heap n0 Zs35 f35_0 (by assumption) hi_a2 hi_b2) hZ (own_w hw 8 rfl) (own_w hw 7 rfl) (by decide) (by decide)) (g := (mkF m 167 #[iv p1, iv p2, iv p3, iv p4, .val (.long p5), .second, iv p6, iv l2, iv c2, iv (1 : Int32), iv (2 : Int32), iv a1, iv b1, iv sc, iv a2, iv b2, rv x35_y, .unset, .unset, .unset, .unset, .unset, .unset] [(.int b2), (.int a2), (.int (2 : Int32))])) rfl (by rw [hml]; rfl) (argsL := [(.int (2 : Int32)), (.int a2), (.int b2)]) (rest := []) (lenOf pd_12 rfl) rfl (by show 2 * 0 + _ ≤ _; exact Nat.le_of_eq rfl) (hb hby at_167) (fun _ _ => ⟨rfl, rfl, (by decide : 2 + 3 ≤ _), (by decide : 5 + 8 ≤ _)⟩)
                  dsimp only [Pt.U, Pt.locs, Pt.cells, Pt.slots] at X56 l56 y56 z56 st56 hQ56
                  subst l56 y56 z56
                  obtain ⟨x56_y, x56_d, x56_kd, rfl, Nq56, Kq56, u56_0, u56_1, u56_2, u56_3, u56_4⟩ := hQ56
                  have N56 := Fr.app N35 Nq56
                  have f56_0 := own_Sta_keep f35_0 Kq56 ns0
                  have f56_1 := u35_1.keep Kq56
                  have f56_2 := u35_2.keep Kq56 nin0
                  have f56_3 := u35_3.keep Kq56 nin0
                  have f56_4 := u35_4.keep Kq56 nin0
                  have C56 := C35.trans (CHr.keep Kq56 sf0 C35.1)
                  have Ks56 := Nat.le_trans Ks35 Kq56.1
                  have Zs56 : n0 ≤ T56.heap.size := Nat.le_trans Zs35 Kq56.1
                  have ne56_x35_y : x35_y ≠ x56_y := Nat.ne_of_lt (Nat.lt_of_lt_of_le u35_1.lt u56_0)
                  have ne56_x35_d : x35_d ≠ x56_y := Nat.ne_of_lt (Nat.lt_of_lt_of_le u35_4.lt u56_0)
                  have gg56_y : n0 ≤ x56_y := Nat.le_trans Zs35 u56_0
                  refine own_stH st56 ?_
                  show own_GoesH _ _ _ _ _ _ _ _ _ T56 (mkF m 170 #[iv p1, iv p2, iv p3, iv p4, .val (.long p5), .second, iv p6, iv l2, iv c2, iv (1 : Int32), iv (2 : Int32), iv a1, iv b1, iv sc, iv a2, iv b2, rv x35_y, .unset, .unset, .unset, .unset, .unset, .unset] [(.ref x56_y)])
                  refine own_stH (fun _ kk_ => XS.astore X56.here hx rfl (hb hby at_170) rfl rfl (l' := #[iv p1, iv p2, iv p3, iv p4, .val (.long p5), .second, iv p6, iv l2, iv c2, iv (1 : Int32), iv (2 : Int32), iv a1, iv b1, iv sc, iv a2, iv b2, rv x35_y, rv x56_y, .unset, .unset, .unset, .unset, .unset]) rfl kk_) ?_
                  show own_GoesH _ _ _ _ _ _ _ _ _ T56 (mkF m 172 #[iv p1, iv p2, iv p3, iv p4, .val (.long p5), .second, iv p6, iv l2, iv c2, iv (1 : Int32), iv (2 : Int32), iv a1, iv b1, iv sc, iv a2, iv b2, rv x35_y, rv x56_y, .unset, .unset, .unset, .unset, .unset] [])
                  obtain ⟨T57, h57, X57, e57, E57, A57, D57, -, st57⟩ := newO X56 hx hZ hown (own_w hw 31 rfl) (own_w hw 32 rfl) (own_w hw 33 rfl) rfl (g := (mkF m 172 #[iv p1, iv p2, iv p3, iv p4, .val (.long p5), .second, iv p6, iv l2, iv c2, iv (1 : Int32), iv (2 : Int32), iv a1, iv b1, iv sc, iv a2, iv b2, rv x35_y, rv x56_y, .unset, .unset, .unset, .unset, .unset] [])) rfl (hb hby at_172) (by decide) (by decide)
                  obtain ⟨b57, gx57⟩ : ∃ z, z = T56.heap.size := ⟨_, rfl⟩
                  rw [← gx57] at A57 D57 st57
                  have ne57_x35_y : x35_y ≠ b57 := Nat.ne_of_lt (Nat.lt_of_lt_of_eq f56_1.lt gx57.symm)
                  have ne57_x35_d : x35_d ≠ b57 := Nat.ne_of_lt (Nat.lt_of_lt_of_eq f56_4.lt gx57.symm)
                  have ne57_x56_y : x56_y ≠ b57 := Nat.ne_of_lt (Nat.lt_of_lt_of_eq u56_1.lt gx57.symm)
                  have ne57_x56_d : x56_d ≠ b57 := Nat.ne_of_lt (Nat.lt_of_lt_of_eq u56_4.lt gx57.symm)
                  have gg57 : n0 ≤ b57 := Nat.le_trans Zs56 (Nat.le_of_eq gx57.symm)
                  have f57_0 := f56_0.ext E57
                  have f57_1 := f56_1.ext E57
                  have f57_2 := f56_2.ext E57
                  have f57_3 := f56_3.ext E57
                  have f57_4 := f56_4.ext E57
                  have f57_5 := u56_1.ext E57
                  have f57_6 := u56_2.ext E57
                  have f57_7 := u56_3.ext E57
                  have f57_8 := u56_4.ext E57
                  have C57 := C56.trans (CHr.ext E57 C56.1)
                  have Zs57 : n0 ≤ h57.size := Nat.le_trans Zs56 E57.1
                  have Ks57 := Nat.le_trans Ks56 E57.1
                  have fn57_line : Fld Z h57 b57 "com/example/majra/majra/lang/Command$Refusal" "line" "I" (.int (0 : Int32)) := D57 (Or.inr (own_w hw 39 rfl)) (ty := .int) (by decide)
                  have fn57_column : Fld Z h57 b57 "com/example/majra/majra/lang/Command$Refusal" "column" "I" (.int (0 : Int32)) := D57 (Or.inr (own_w hw 41 rfl)) (ty := .int) (by decide)
                  have fn57_message : Fld Z h57 b57 "com/example/majra/majra/lang/Command$Refusal" "message" "Ljava/lang/String;" .null := D57 (Or.inr (own_w hw 43 rfl)) (ty := (.object "java/lang/String")) (by decide)
                  refine own_stH st57 ?_
                  show own_GoesH _ _ _ _ _ _ _ _ _ T57 (mkF m 175 #[iv p1, iv p2, iv p3, iv p4, .val (.long p5), .second, iv p6, iv l2, iv c2, iv (1 : Int32), iv (2 : Int32), iv a1, iv b1, iv sc, iv a2, iv b2, rv x35_y, rv x56_y, .unset, .unset, .unset, .unset, .unset] [(.ref b57)])
                  refine own_stH (fun _ kk_ => XS.dup X57.here hx rfl (hb hby at_175) rfl rfl (XS.iloadN X57.here hx rfl (hb hby at_176) rfl (XS.iloadN X57.here hx rfl (hb hby at_177) rfl (XS.aload X57.here hx rfl (hb hby at_178) rfl rfl kk_)))) ?_
                  show own_GoesH _ _ _ _ _ _ _ _ _ T57 (mkF m 180 #[iv p1, iv p2, iv p3, iv p4, .val (.long p5), .second, iv p6, iv l2, iv c2, iv (1 : Int32), iv (2 : Int32), iv a1, iv b1, iv sc, iv a2, iv b2, rv x35_y, rv x56_y, .unset, .unset, .unset, .unset, .unset] [(.ref x35_y), (.int p2), (.int p1), (.ref b57), (.ref b57)])
                  obtain ⟨_, _, ⟨T58, L58, k58, n58⟩, -, X58, ⟨Lc58, hQ58, l58, y58, z58⟩, st58⟩ := X57.specialBack hx (y := yy11) rfl hown (mvT hZ (own_w hw 34 rfl)) (mvT hZ (own_w hw 35 rfl)) (mvT hZ (own_w hw 36 rfl)) (by decide) (backOf (W := 1) (rm6 l Z a0 hw [] (b57) (p1) (p2) (x35_y) h57 n0 Zs57 A57 fn57_line fn57_column fn57_message gg57) hZ (own_w hw 36 rfl) (own_w hw 33 rfl) (by decide) (by decide)) (g := (mkF m 180 #[iv p1, iv p2, iv p3, iv p4, .val (.long p5), .second, iv p6, iv l2, iv c2, iv (1 : Int32), iv (2 : Int32), iv a1, iv b1, iv sc, iv a2, iv b2, rv x35_y, rv x56_y, .unset, .unset, .unset, .unset, .unset] [(.ref x35_y), (.int p2), (.int p1), (.ref b57), (.ref b57)])) rfl (by rw [hml]; rfl) (Steps.refl _) (a := b57) (argsL := [(.int p1), (.int p2), (.ref x35_y)]) (rest := [(.ref b57)]) (lenOf pd_13 rfl) rfl (by show 2 * 0 + _ ≤ _; exact Nat.le_of_eq rfl) (hb hby at_180) (fun _ _ => ⟨rfl, e57, (by decide : 6 + 0 ≤ _), (by decide : 16 + 0 ≤ _)⟩)
                  dsimp only [Pt.U, Pt.locs, Pt.cells, Pt.slots] at X58 l58 y58 z58 st58 hQ58
                  subst l58 y58 z58
                  obtain ⟨rfl, Nq58, Kq58, u58_0, u58_1, u58_2⟩ := hQ58
                  have N58 := Fr.app N56 Nq58
                  have f58_0 := own_Sta_keep f57_0 Kq58 (nsS A57.nostat ns0)
                  have f58_1 := f57_1.keep Kq58
                  have f58_2 := f57_2.keep Kq58 (ninS ne57_x35_y nin0)
                  have f58_3 := f57_3.keep Kq58 (ninS ne57_x35_y nin0)
                  have f58_4 := f57_4.keep Kq58 (ninS ne57_x35_d nin0)
                  have f58_5 := f57_5.keep Kq58
                  have f58_6 := f57_6.keep Kq58 (ninS ne57_x56_y nin0)
                  have f58_7 := f57_7.keep Kq58 (ninS ne57_x56_y nin0)
                  have f58_8 := f57_8.keep Kq58 (ninS ne57_x56_d nin0)
                  have f58_9 := A57.keep Kq58
                  have C58 := C57.trans (CHr.keep Kq58 (sfS (Safe.exa hZ.alike A57 (by decide) (by decide)) sf0) C57.1)
                  have Ks58 := Nat.le_trans Ks57 Kq58.1
                  have Zs58 : n0 ≤ T58.heap.size := Nat.le_trans Zs57 Kq58.1
                  refine own_stH (fun _ kk_ => st58.trans kk_) ?_
                  show own_GoesH _ _ _ _ _ _ _ _ _ T58 (mkF m 183 #[iv p1, iv p2, iv p3, iv p4, .val (.long p5), .second, iv p6, iv l2, iv c2, iv (1 : Int32), iv (2 : Int32), iv a1, iv b1, iv sc, iv a2, iv b2, rv x35_y, rv x56_y, .unset, .unset, .unset, .unset, .unset] [(.ref b57)])
                  refine own_stH (fun _ kk_ => XS.astore X58.here hx rfl (hb hby at_183) rfl rfl (l' := #[iv p1, iv p2, iv p3, iv p4, .val (.long p5), .second, iv p6, iv l2, iv c2, iv (1 : Int32), iv (2 : Int32), iv a1, iv b1, iv sc, iv a2, iv b2, rv x35_y, rv x56_y, rv b57, .unset, .unset, .unset, .unset]) rfl kk_) ?_
                  show own_GoesH _ _ _ _ _ _ _ _ _ T58 (mkF m 185 #[iv p1, iv p2, iv p3, iv p4, .val (.long p5), .second, iv p6, iv l2, iv c2, iv (1 : Int32), iv (2 : Int32), iv a1, iv b1, iv sc, iv a2, iv b2, rv x35_y, rv x56_y, rv b57, .unset, .unset, .unset, .unset] [])
                  obtain ⟨T59, h59, X59, e59, E59, A59, D59, -, st59⟩ := newO X58 hx hZ hown (own_w hw 31 rfl) (own_w hw 32 rfl) (own_w hw 33 rfl) rfl (g := (mkF m 185 #[iv p1, iv p2, iv p3, iv p4, .val (.long p5), .second, iv p6, iv l2, iv c2, iv (1 : Int32), iv (2 : Int32), iv a1, iv b1, iv sc, iv a2, iv b2, rv x35_y, rv x56_y, rv b57, .unset, .unset, .unset, .unset] [])) rfl (hb hby at_185) (by decide) (by decide)
                  obtain ⟨b59, gx59⟩ : ∃ z, z = T58.heap.size := ⟨_, rfl⟩
                  rw [← gx59] at A59 D59 st59
                  have ne59_x35_y : x35_y ≠ b59 := Nat.ne_of_lt (Nat.lt_of_lt_of_eq f58_1.lt gx59.symm)
                  have ne59_x35_d : x35_d ≠ b59 := Nat.ne_of_lt (Nat.lt_of_lt_of_eq f58_4.lt gx59.symm)
                  have ne59_x56_y : x56_y ≠ b59 := Nat.ne_of_lt (Nat.lt_of_lt_of_eq f58_5.lt gx59.symm)
                  have ne59_x56_d : x56_d ≠ b59 := Nat.ne_of_lt (Nat.lt_of_lt_of_eq f58_8.lt gx59.symm)
                  have ne59_b57 : b57 ≠ b59 := Nat.ne_of_lt (Nat.lt_of_lt_of_eq f58_9.lt gx59.symm)
                  have gg59 : n0 ≤ b59 := Nat.le_trans Zs58 (Nat.le_of_eq gx59.symm)
                  have f59_0 := f58_0.ext E59
                  have f59_1 := f58_1.ext E59
                  have f59_2 := f58_2.ext E59
                  have f59_3 := f58_3.ext E59
                  have f59_4 := f58_4.ext E59
                  have f59_5 := f58_5.ext E59
                  have f59_6 := f58_6.ext E59
                  have f59_7 := f58_7.ext E59
                  have f59_8 := f58_8.ext E59
                  have f59_9 := f58_9.ext E59
                  have f59_10 := u58_0.ext E59
                  have f59_11 := u58_1.ext E59
                  have f59_12 := u58_2.ext E59
                  have C59 := C58.trans (CHr.ext E59 C58.1)
                  have Zs59 : n0 ≤ h59.size := Nat.le_trans Zs58 E59.1
                  have Ks59 := Nat.le_trans Ks58 E59.1
                  have fn59_line : Fld Z h59 b59 "com/example/majra/majra/lang/Command$Refusal" "line" "I" (.int (0 : Int32)) := D59 (Or.inr (own_w hw 39 rfl)) (ty := .int) (by decide)
                  have fn59_column : Fld Z h59 b59 "com/example/majra/majra/lang/Command$Refusal" "column" "I" (.int (0 : Int32)) := D59 (Or.inr (own_w hw 41 rfl)) (ty := .int) (by decide)
                  have fn59_message : Fld Z h59 b59 "com/example/majra/majra/lang/Command$Refusal" "message" "Ljava/lang/String;" .null := D59 (Or.inr (own_w hw 43 rfl)) (ty := (.object "java/lang/String")) (by decide)
                  refine own_stH st59 ?_
                  show own_GoesH _ _ _ _ _ _ _ _ _ T59 (mkF m 188 #[iv p1, iv p2, iv p3, iv p4, .val (.long p5), .second, iv p6, iv l2, iv c2, iv (1 : Int32), iv (2 : Int32), iv a1, iv b1, iv sc, iv a2, iv b2, rv x35_y, rv x56_y, rv b57, .unset, .unset, .unset, .unset] [(.ref b59)])
                  refine own_stH (fun _ kk_ => XS.dup X59.here hx rfl (hb hby at_188) rfl rfl (XS.iload X59.here hx rfl (hb hby at_189) rfl (XS.iload X59.here hx rfl (hb hby at_191) rfl (XS.aload X59.here hx rfl (hb hby at_193) rfl rfl kk_)))) ?_
                  show own_GoesH _ _ _ _ _ _ _ _ _ T59 (mkF m 195 #[iv p1, iv p2, iv p3, iv p4, .val (.long p5), .second, iv p6, iv l2, iv c2, iv (1 : Int32), iv (2 : Int32), iv a1, iv b1, iv sc, iv a2, iv b2, rv x35_y, rv x56_y, rv b57, .unset, .unset, .unset, .unset] [(.ref x56_y), (.int c2), (.int l2), (.ref b59), (.ref b59)])
                  obtain ⟨_, _, ⟨T60, L60, k60, n60⟩, -, X60, ⟨Lc60, hQ60, l60, y60, z60⟩, st60⟩ := X59.specialBack hx (y := yy11) rfl hown (mvT hZ (own_w hw 34 rfl)) (mvT hZ (own_w hw 35 rfl)) (mvT hZ (own_w hw 36 rfl)) (by decide) (backOf (W := 1) (rm6 l Z a0 hw [] (b59) (l2) (c2) (x56_y) h59 n0 Zs59 A59 fn59_line fn59_column fn59_message gg59) hZ (own_w hw 36 rfl) (own_w hw 33 rfl) (by decide) (by decide)) (g := (mkF m 195 #[iv p1, iv p2, iv p3, iv p4, .val (.long p5), .second, iv p6, iv l2, iv c2, iv (1 : Int32), iv (2 : Int32), iv a1, iv b1, iv sc, iv a2, iv b2, rv x35_y, rv x56_y, rv b57, .unset, .unset, .unset, .unset] [(.ref x56_y), (.int c2), (.int l2), (.ref b59), (.ref b59)])) rfl (by rw [hml]; rfl) (Steps.refl _) (a := b59) (argsL := [(.int l2), (.int c2), (.ref x56_y)]) (rest := [(.ref b59)]) (lenOf pd_13 rfl) rfl (by show 2 * 0 + _ ≤ _; exact Nat.le_of_eq rfl) (hb hby at_195) (fun _ _ => ⟨rfl, e59, (by decide : 7 + 0 ≤ _), (by decide : 19 + 0 ≤ _)⟩)
                  dsimp only [Pt.U, Pt.locs, Pt.cells, Pt.slots] at X60 l60 y60 z60 st60 hQ60
                  subst l60 y60 z60
                  obtain ⟨rfl, Nq60, Kq60, u60_0, u60_1, u60_2⟩ := hQ60
                  have N60 := Fr.app N58 Nq60
                  have f60_0 := own_Sta_keep f59_0 Kq60 (nsS A59.nostat ns0)
                  have f60_1 := f59_1.keep Kq60
                  have f60_2 := f59_2.keep Kq60 (ninS ne59_x35_y nin0)
                  have f60_3 := f59_3.keep Kq60 (ninS ne59_x35_y nin0)
                  have f60_4 := f59_4.keep Kq60 (ninS ne59_x35_d nin0)
                  have f60_5 := f59_5.keep Kq60
                  have f60_6 := f59_6.keep Kq60 (ninS ne59_x56_y nin0)
                  have f60_7 := f59_7.keep Kq60 (ninS ne59_x56_y nin0)
                  have f60_8 := f59_8.keep Kq60 (ninS ne59_x56_d nin0)
                  have f60_9 := f59_9.keep Kq60
                  have f60_10 := f59_10.keep Kq60 (ninS ne59_b57 nin0)
                  have f60_11 := f59_11.keep Kq60 (ninS ne59_b57 nin0)
                  have f60_12 := f59_12.keep Kq60 (ninS ne59_b57 nin0)
                  have f60_13 := A59.keep Kq60
                  have C60 := C59.trans (CHr.keep Kq60 (sfS (Safe.exa hZ.alike A59 (by decide) (by decide)) sf0) C59.1)
                  have Ks60 := Nat.le_trans Ks59 Kq60.1
                  have Zs60 : n0 ≤ T60.heap.size := Nat.le_trans Zs59 Kq60.1
                  refine own_stH (fun _ kk_ => st60.trans kk_) ?_
                  show own_GoesH _ _ _ _ _ _ _ _ _ T60 (mkF m 198 #[iv p1, iv p2, iv p3, iv p4, .val (.long p5), .second, iv p6, iv l2, iv c2, iv (1 : Int32), iv (2 : Int32), iv a1, iv b1, iv sc, iv a2, iv b2, rv x35_y, rv x56_y, rv b57, .unset, .unset, .unset, .unset] [(.ref b59)])
                  refine own_stH (fun _ kk_ => XS.astore X60.here hx rfl (hb hby at_198) rfl rfl (l' := #[iv p1, iv p2, iv p3, iv p4, .val (.long p5), .second, iv p6, iv l2, iv c2, iv (1 : Int32), iv (2 : Int32), iv a1, iv b1, iv sc, iv a2, iv b2, rv x35_y, rv x56_y, rv b57, rv b59, .unset, .unset, .unset]) rfl kk_) ?_
                  show own_GoesH _ _ _ _ _ _ _ _ _ T60 (mkF m 200 #[iv p1, iv p2, iv p3, iv p4, .val (.long p5), .second, iv p6, iv l2, iv c2, iv (1 : Int32), iv (2 : Int32), iv a1, iv b1, iv sc, iv a2, iv b2, rv x35_y, rv x56_y, rv b57, rv b59, .unset, .unset, .unset] [])
                  have JM : ∀ (sm : Int32), (sm = own_b (False)) → own_GoesH p e below s Z consts_1 (Q0 Z p1 p2 p3 p4 p5 p6 cs h0 n0) 32 1152 T60 (mkF m 238 #[iv p1, iv p2, iv p3, iv p4, .val (.long p5), .second, iv p6, iv l2, iv c2, iv (1 : Int32), iv (2 : Int32), iv a1, iv b1, iv sc, iv a2, iv b2, rv x35_y, rv x56_y, rv b57, rv b59, .unset, .unset, .unset] [(.int sm)]) := by
                    intro sm hsm
                    show own_GoesH _ _ _ _ _ _ _ _ _ T60 (mkF m 238 #[iv p1, iv p2, iv p3, iv p4, .val (.long p5), .second, iv p6, iv l2, iv c2, iv (1 : Int32), iv (2 : Int32), iv a1, iv b1, iv sc, iv a2, iv b2, rv x35_y, rv x56_y, rv b57, rv b59, .unset, .unset, .unset] [(.int sm)])
                    refine own_stH (fun _ kk_ => XS.istore X60.here hx rfl (hb hby at_238) rfl (l' := #[iv p1, iv p2, iv p3, iv p4, .val (.long p5), .second, iv p6, iv l2, iv c2, iv (1 : Int32), iv (2 : Int32), iv a1, iv b1, iv sc, iv a2, iv b2, rv x35_y, rv x56_y, rv b57, rv b59, iv sm, .unset, .unset]) rfl (XS.iloadN X60.here hx rfl (hb hby at_240) rfl (XS.iload X60.here hx rfl (hb hby at_241) rfl kk_))) ?_
                    show own_GoesH _ _ _ _ _ _ _ _ _ T60 (mkF m 243 #[iv p1, iv p2, iv p3, iv p4, .val (.long p5), .second, iv p6, iv l2, iv c2, iv (1 : Int32), iv (2 : Int32), iv a1, iv b1, iv sc, iv a2, iv b2, rv x35_y, rv x56_y, rv b57, rv b59, iv sm, .unset, .unset] [(.int l2), (.int p1)])
                    have JE : ∀ (xp : Int32), (xp = own_b (p1 = l2 ∧ p2 = c2 ∧ (False))) → own_GoesH p e below s Z consts_1 (Q0 Z p1 p2 p3 p4 p5 p6 cs h0 n0) 32 1152 T60 (mkF m 262 #[iv p1, iv p2, iv p3, iv p4, .val (.long p5), .second, iv p6, iv l2, iv c2, iv (1 : Int32), iv (2 : Int32), iv a1, iv b1, iv sc, iv a2, iv b2, rv x35_y, rv x56_y, rv b57, rv b59, iv sm, .unset, .unset] [(.int xp)]) := by
                      intro xp hxp
                      show own_GoesH _ _ _ _ _ _ _ _ _ T60 (mkF m 262 #[iv p1, iv p2, iv p3, iv p4, .val (.long p5), .second, iv p6, iv l2, iv c2, iv (1 : Int32), iv (2 : Int32), iv a1, iv b1, iv sc, iv a2, iv b2, rv x35_y, rv x56_y, rv b57, rv b59, iv sm, .unset, .unset] [(.int xp)])
                      refine own_stH (fun _ kk_ => XS.istore X60.here hx rfl (hb hby at_262) rfl (l' := #[iv p1, iv p2, iv p3, iv p4, .val (.long p5), .second, iv p6, iv l2, iv c2, iv (1 : Int32), iv (2 : Int32), iv a1, iv b1, iv sc, iv a2, iv b2, rv x35_y, rv x56_y, rv b57, rv b59, iv sm, iv xp, .unset]) rfl (XS.aload X60.here hx rfl (hb hby at_264) rfl rfl (XS.astore X60.here hx rfl (hb hby at_266) rfl rfl (l' := #[iv p1, iv p2, iv p3, iv p4, .val (.long p5), .second, iv p6, iv l2, iv c2, iv (1 : Int32), iv (2 : Int32), iv a1, iv b1, iv sc, iv a2, iv b2, rv x35_y, rv x56_y, rv b57, rv b59, iv sm, iv xp, rv x35_y]) rfl (XS.aload X60.here hx rfl (hb hby at_268) rfl rfl (XS.aload X60.here hx rfl (hb hby at_270) rfl rfl kk_))))) ?_
                      show own_GoesH _ _ _ _ _ _ _ _ _ T60 (mkF m 272 #[iv p1, iv p2, iv p3, iv p4, .val (.long p5), .second, iv p6, iv l2, iv c2, iv (1 : Int32), iv (2 : Int32), iv a1, iv b1, iv sc, iv a2, iv b2, rv x35_y, rv x56_y, rv b57, rv b59, iv sm, iv xp, rv x35_y] [(.ref b59), (.ref b57)])
                      obtain ⟨cq61, kq61, q61a, q61b, q61c⟩ := isOf hZ rfl f60_9
                      obtain ⟨_, _, ⟨T61, L61, k61, n61⟩, -, X61, ⟨Lc61, hQ61, l61, y61, z61⟩, st61⟩ := X60.virtualBack hx (y := yy14) (z := yy14) hown (mvT hZ (own_w hw 44 rfl)) (mvT hZ (own_w hw 45 rfl)) (notFace_of_selects (args := #[]) (mvT hZ (own_w hw 47 rfl))) (mvT hZ (own_w hw 47 rfl)) (mvT hZ (own_w hw 46 rfl)) (by decide) (backOf (W := 0) (rm7_1_2 l Z a0 hw [] (b57) (b59) (p1) (p2) (l2) (c2) (x35_y) (x56_y) ((own_by a1)) ((own_by a2)) ((own_by b2)) (x35_d) (x56_d) (x35_kd) (x56_kd) (cs) T60.heap n0 Zs60 f60_10 f60_11 f60_12 f60_13 u60_0 u60_1 u60_2 f60_1 f60_2 f60_3 f60_5 f60_6 f60_7 f60_4 f60_8 f60_0 (by assumption) ne56_x35_y) hZ (own_w hw 48 rfl) (own_w hw 33 rfl) (by decide) (by decide)) q61a q61c (g := (mkF m 272 #[iv p1, iv p2, iv p3, iv p4, .val (.long p5), .second, iv p6, iv l2, iv c2, iv (1 : Int32), iv (2 : Int32), iv a1, iv b1, iv sc, iv a2, iv b2, rv x35_y, rv x56_y, rv b57, rv b59, iv sm, iv xp, rv x35_y] [(.ref b59), (.ref b57)])) rfl (by rw [hml]; rfl) (Steps.refl _) (argsL := [(.ref b59)]) (rest := []) (lenOf pd_10 rfl) rfl (by show 2 * 0 + _ ≤ _; exact Nat.le_of_eq rfl) (hb hby at_272) (fun _ _ => ⟨rfl, rfl, (by decide : 7 + 0 ≤ _), (by decide : 19 + 0 ≤ _)⟩)
                      dsimp only [Pt.U, Pt.locs, Pt.cells, Pt.slots] at X61 l61 y61 z61 st61 hQ61
                      subst l61 y61 z61
                      obtain ⟨rfl, Nq61, eq61⟩ := hQ61
                      have N61 := Fr.app N60 Nq61
                      refine own_stH (fun _ kk_ => st61.trans kk_) ?_
                      show own_GoesH _ _ _ _ _ _ _ _ _ T61 (mkF m 275 #[iv p1, iv p2, iv p3, iv p4, .val (.long p5), .second, iv p6, iv l2, iv c2, iv (1 : Int32), iv (2 : Int32), iv a1, iv b1, iv sc, iv a2, iv b2, rv x35_y, rv x56_y, rv b57, rv b59, iv sm, iv xp, rv x35_y] [(.int (own_b (p1 = l2 ∧ p2 = c2 ∧ (False))))])
                      refine own_stH (fun _ kk_ => XS.iload X61.here hx rfl (hb hby at_275) rfl (XS.icmpNo X61.here hx rfl (hb hby at_277) rfl (XT.ii_ne_f ((own_bc (own_and3 Iff.rfl Iff.rfl Iff.rfl)).trans hxp.symm)) (XS.aload X61.here hx rfl (hb hby at_280) rfl rfl (XS.aload X61.here hx rfl (hb hby at_282) rfl rfl kk_)))) ?_
                      show own_GoesH _ _ _ _ _ _ _ _ _ T61 (mkF m 284 #[iv p1, iv p2, iv p3, iv p4, .val (.long p5), .second, iv p6, iv l2, iv c2, iv (1 : Int32), iv (2 : Int32), iv a1, iv b1, iv sc, iv a2, iv b2, rv x35_y, rv x56_y, rv b57, rv b59, iv sm, iv xp, rv x35_y] [(.ref b57), (.ref b59)])
                      obtain ⟨cq62, kq62, q62a, q62b, q62c⟩ := isOf hZ eq61 f60_13
                      obtain ⟨_, _, ⟨T62, L62, k62, n62⟩, -, X62, ⟨Lc62, hQ62, l62, y62, z62⟩, st62⟩ := X61.virtualBack hx (y := yy14) (z := yy14) hown (mvT hZ (own_w hw 44 rfl)) (mvT hZ (own_w hw 45 rfl)) (notFace_of_selects (args := #[]) (mvT hZ (own_w hw 47 rfl))) (mvT hZ (own_w hw 47 rfl)) (mvT hZ (own_w hw 46 rfl)) (by decide) (backOf (W := 0) (rm7_2_1 l Z a0 hw [] (b59) (b57) (l2) (c2) (p1) (p2) (x56_y) (x35_y) ((own_by a2)) ((own_by b2)) ((own_by a1)) (x56_d) (x35_d) (x56_kd) (x35_kd) (cs) T60.heap n0 Zs60 u60_0 u60_1 u60_2 f60_9 f60_10 f60_11 f60_12 f60_5 f60_6 f60_7 f60_1 f60_2 f60_3 f60_8 f60_4 f60_0 (by assumption) (Ne.symm ne56_x35_y)) hZ (own_w hw 48 rfl) (own_w hw 33 rfl) (by decide) (by decide)) q62a q62c (g := (mkF m 284 #[iv p1, iv p2, iv p3, iv p4, .val (.long p5), .second, iv p6, iv l2, iv c2, iv (1 : Int32), iv (2 : Int32), iv a1, iv b1, iv sc, iv a2, iv b2, rv x35_y, rv x56_y, rv b57, rv b59, iv sm, iv xp, rv x35_y] [(.ref b57), (.ref b59)])) rfl (by rw [hml]; rfl) (Steps.refl _) (argsL := [(.ref b57)]) (rest := []) (lenOf pd_10 rfl) rfl (by show 2 * 0 + _ ≤ _; exact Nat.le_of_eq rfl) (hb hby at_284) (fun _ _ => ⟨rfl, eq61, (by decide : 7 + 0 ≤ _), (by decide : 19 + 0 ≤ _)⟩)
                      dsimp only [Pt.U, Pt.locs, Pt.cells, Pt.slots] at X62 l62 y62 z62 st62 hQ62
                      subst l62 y62 z62
                      obtain ⟨rfl, Nq62, eq62⟩ := hQ62
                      have N62 := Fr.app N61 Nq62
                      refine own_stH (fun _ kk_ => st62.trans kk_) ?_
                      show own_GoesH _ _ _ _ _ _ _ _ _ T62 (mkF m 287 #[iv p1, iv p2, iv p3, iv p4, .val (.long p5), .second, iv p6, iv l2, iv c2, iv (1 : Int32), iv (2 : Int32), iv a1, iv b1, iv sc, iv a2, iv b2, rv x35_y, rv x56_y, rv b57, rv b59, iv sm, iv xp, rv x35_y] [(.int (own_b (l2 = p1 ∧ c2 = p2 ∧ (False))))])
                      refine own_stH (fun _ kk_ => XS.iload X62.here hx rfl (hb hby at_287) rfl (XS.icmpNo X62.here hx rfl (hb hby at_289) rfl (XT.ii_ne_f ((own_bc (own_and3 own_sy own_sy Iff.rfl)).trans hxp.symm)) (XS.aload X62.here hx rfl (hb hby at_292) rfl rfl (XS.aload X62.here hx rfl (hb hby at_294) rfl rfl kk_)))) ?_
                      show own_GoesH _ _ _ _ _ _ _ _ _ T62 (mkF m 296 #[iv p1, iv p2, iv p3, iv p4, .val (.long p5), .second, iv p6, iv l2, iv c2, iv (1 : Int32), iv (2 : Int32), iv a1, iv b1, iv sc, iv a2, iv b2, rv x35_y, rv x56_y, rv b57, rv b59, iv sm, iv xp, rv x35_y] [(.ref b57), (.ref b57)])
                      obtain ⟨cq63, kq63, q63a, q63b, q63c⟩ := isOf hZ eq62 f60_9
                      obtain ⟨_, _, ⟨T63, L63, k63, n63⟩, -, X63, ⟨Lc63, hQ63, l63, y63, z63⟩, st63⟩ := X62.virtualBack hx (y := yy14) (z := yy14) hown (mvT hZ (own_w hw 44 rfl)) (mvT hZ (own_w hw 45 rfl)) (notFace_of_selects (args := #[]) (mvT hZ (own_w hw 47 rfl))) (mvT hZ (own_w hw 47 rfl)) (mvT hZ (own_w hw 46 rfl)) (by decide) (backOf (W := 0) (rm7s l Z a0 hw [] (b57) (p1) (p2) (x35_y) T60.heap n0 Zs60 f60_9 f60_10 f60_11 f60_12 f60_1) hZ (own_w hw 48 rfl) (own_w hw 33 rfl) (by decide) (by decide)) q63a q63c (g := (mkF m 296 #[iv p1, iv p2, iv p3, iv p4, .val (.long p5), .second, iv p6, iv l2, iv c2, iv (1 : Int32), iv (2 : Int32), iv a1, iv b1, iv sc, iv a2, iv b2, rv x35_y, rv x56_y, rv b57, rv b59, iv sm, iv xp, rv x35_y] [(.ref b57), (.ref b57)])) rfl (by rw [hml]; rfl) (Steps.refl _) (argsL := [(.ref b57)]) (rest := []) (lenOf pd_10 rfl) rfl (by show 2 * 0 + _ ≤ _; exact Nat.le_of_eq rfl) (hb hby at_296) (fun _ _ => ⟨rfl, eq62, (by decide : 7 + 0 ≤ _), (by decide : 19 + 0 ≤ _)⟩)
                      dsimp only [Pt.U, Pt.locs, Pt.cells, Pt.slots] at X63 l63 y63 z63 st63 hQ63
                      subst l63 y63 z63
                      obtain ⟨rfl, Nq63, eq63⟩ := hQ63
                      have N63 := Fr.app N62 Nq63
                      refine own_stH (fun _ kk_ => st63.trans kk_) ?_
                      show own_GoesH _ _ _ _ _ _ _ _ _ T63 (mkF m 299 #[iv p1, iv p2, iv p3, iv p4, .val (.long p5), .second, iv p6, iv l2, iv c2, iv (1 : Int32), iv (2 : Int32), iv a1, iv b1, iv sc, iv a2, iv b2, rv x35_y, rv x56_y, rv b57, rv b59, iv sm, iv xp, rv x35_y] [(.int (1 : Int32))])
                      refine own_stH (fun _ kk_ => XS.ifNo X63.here hx rfl (hb hby at_299) rfl (XT.i0_eq_f (by decide)) (XS.aload X63.here hx rfl (hb hby at_302) rfl rfl (XS.aconstNull X63.here hx rfl (hb hby at_304) kk_))) ?_
                      show own_GoesH _ _ _ _ _ _ _ _ _ T63 (mkF m 305 #[iv p1, iv p2, iv p3, iv p4, .val (.long p5), .second, iv p6, iv l2, iv c2, iv (1 : Int32), iv (2 : Int32), iv a1, iv b1, iv sc, iv a2, iv b2, rv x35_y, rv x56_y, rv b57, rv b59, iv sm, iv xp, rv x35_y] [.null, (.ref b57)])
                      obtain ⟨cq64, kq64, q64a, q64b, q64c⟩ := isOf hZ eq63 f60_9
                      obtain ⟨_, _, ⟨T64, L64, k64, n64⟩, -, X64, ⟨Lc64, hQ64, l64, y64, z64⟩, st64⟩ := X63.virtualBack hx (y := yy14) (z := yy14) hown (mvT hZ (own_w hw 44 rfl)) (mvT hZ (own_w hw 45 rfl)) (notFace_of_selects (args := #[]) (mvT hZ (own_w hw 47 rfl))) (mvT hZ (own_w hw 47 rfl)) (mvT hZ (own_w hw 46 rfl)) (by decide) (backOf (W := 0) (rm7n l Z a0 hw [] (b57) T60.heap n0 Zs60) hZ (own_w hw 48 rfl) (own_w hw 33 rfl) (by decide) (by decide)) q64a q64c (g := (mkF m 305 #[iv p1, iv p2, iv p3, iv p4, .val (.long p5), .second, iv p6, iv l2, iv c2, iv (1 : Int32), iv (2 : Int32), iv a1, iv b1, iv sc, iv a2, iv b2, rv x35_y, rv x56_y, rv b57, rv b59, iv sm, iv xp, rv x35_y] [.null, (.ref b57)])) rfl (by rw [hml]; rfl) (Steps.refl _) (argsL := [.null]) (rest := []) (lenOf pd_10 rfl) rfl (by show 2 * 0 + _ ≤ _; exact Nat.le_of_eq rfl) (hb hby at_305) (fun _ _ => ⟨rfl, eq63, (by decide : 7 + 0 ≤ _), (by decide : 19 + 0 ≤ _)⟩)
                      dsimp only [Pt.U, Pt.locs, Pt.cells, Pt.slots] at X64 l64 y64 z64 st64 hQ64
                      subst l64 y64 z64
                      obtain ⟨rfl, Nq64, eq64⟩ := hQ64
                      have N64 := Fr.app N63 Nq64
                      refine own_stH (fun _ kk_ => st64.trans kk_) ?_
                      show own_GoesH _ _ _ _ _ _ _ _ _ T64 (mkF m 308 #[iv p1, iv p2, iv p3, iv p4, .val (.long p5), .second, iv p6, iv l2, iv c2, iv (1 : Int32), iv (2 : Int32), iv a1, iv b1, iv sc, iv a2, iv b2, rv x35_y, rv x56_y, rv b57, rv b59, iv sm, iv xp, rv x35_y] [(.int (0 : Int32))])
                      refine own_stH (fun _ kk_ => XS.ifNo X64.here hx rfl (hb hby at_308) rfl (XT.i0_ne_f (by decide)) (XS.aload X64.here hx rfl (hb hby at_311) rfl rfl (XS.aload X64.here hx rfl (hb hby at_313) rfl rfl kk_))) ?_
                      show own_GoesH _ _ _ _ _ _ _ _ _ T64 (mkF m 315 #[iv p1, iv p2, iv p3, iv p4, .val (.long p5), .second, iv p6, iv l2, iv c2, iv (1 : Int32), iv (2 : Int32), iv a1, iv b1, iv sc, iv a2, iv b2, rv x35_y, rv x56_y, rv b57, rv b59, iv sm, iv xp, rv x35_y] [(.ref x35_y), (.ref b57)])
                      obtain ⟨cq65, kq65, q65a, q65b, q65c⟩ := isOf hZ eq64 f60_9
                      obtain ⟨_, _, ⟨T65, L65, k65, n65⟩, -, X65, ⟨Lc65, hQ65, l65, y65, z65⟩, st65⟩ := X64.virtualBack hx (y := yy14) (z := yy14) hown (mvT hZ (own_w hw 44 rfl)) (mvT hZ (own_w hw 45 rfl)) (notFace_of_selects (args := #[]) (mvT hZ (own_w hw 47 rfl))) (mvT hZ (own_w hw 47 rfl)) (mvT hZ (own_w hw 46 rfl)) (by decide) (backOf (W := 0) (rm7x l Z a0 hw [] (b57) (x35_y) T60.heap n0 Zs60 f60_1) hZ (own_w hw 48 rfl) (own_w hw 33 rfl) (by decide) (by decide)) q65a q65c (g := (mkF m 315 #[iv p1, iv p2, iv p3, iv p4, .val (.long p5), .second, iv p6, iv l2, iv c2, iv (1 : Int32), iv (2 : Int32), iv a1, iv b1, iv sc, iv a2, iv b2, rv x35_y, rv x56_y, rv b57, rv b59, iv sm, iv xp, rv x35_y] [(.ref x35_y), (.ref b57)])) rfl (by rw [hml]; rfl) (Steps.refl _) (argsL := [(.ref x35_y)]) (rest := []) (lenOf pd_10 rfl) rfl (by show 2 * 0 + _ ≤ _; exact Nat.le_of_eq rfl) (hb hby at_315) (fun _ _ => ⟨rfl, eq64, (by decide : 7 + 0 ≤ _), (by decide : 19 + 0 ≤ _)⟩)
                      dsimp only [Pt.U, Pt.locs, Pt.cells, Pt.slots] at X65 l65 y65 z65 st65 hQ65
                      subst l65 y65 z65
                      obtain ⟨rfl, Nq65, eq65⟩ := hQ65
                      have N65 := Fr.app N64 Nq65
                      refine own_stH (fun _ kk_ => st65.trans kk_) ?_
                      show own_GoesH _ _ _ _ _ _ _ _ _ T65 (mkF m 318 #[iv p1, iv p2, iv p3, iv p4, .val (.long p5), .second, iv p6, iv l2, iv c2, iv (1 : Int32), iv (2 : Int32), iv a1, iv b1, iv sc, iv a2, iv b2, rv x35_y, rv x56_y, rv b57, rv b59, iv sm, iv xp, rv x35_y] [(.int (0 : Int32))])
                      refine own_stH (fun _ kk_ => XS.ifNo X65.here hx rfl (hb hby at_318) rfl (XT.i0_ne_f (by decide)) (XS.iconst X65.here hx rfl (hb hby at_321) (XS.goto X65.here hx rfl (pc0 := 322) (pc' := 326) rfl (hb hby at_322) (by decide) (by decide) kk_))) ?_
                      show own_GoesH _ _ _ _ _ _ _ _ _ T65 (mkF m 326 #[iv p1, iv p2, iv p3, iv p4, .val (.long p5), .second, iv p6, iv l2, iv c2, iv (1 : Int32), iv (2 : Int32), iv a1, iv b1, iv sc, iv a2, iv b2, rv x35_y, rv x56_y, rv b57, rv b59, iv sm, iv xp, rv x35_y] [(.int (1 : Int32))])
                      refine own_endH (v := (some (.int (nar .boolean (1 : Int32))))) X65 hlk hS2 (by rw [eq65]; exact Ks60) hZ hEL hh eq65 C60 (fun h => by rw [Bd.returns] at h; cases h) (by decide) (by decide) ?_ (fun fs hr => retN X65 hx (t := .boolean) Bd.returns (by simp) (hb hby at_326) hr)
                      show Q0 Z p1 p2 p3 p4 p5 p6 cs h0 n0 (some (.int (nar .boolean (1 : Int32)))) T65.heap _
                      rw [eq65]
                      exact ⟨rfl, N65⟩
                    rcases Classical.em (p1 = l2) with r0 | r0
                    · refine own_stH (fun _ kk_ => XS.icmpNo X60.here hx rfl (hb hby at_243) rfl (XT.ii_ne_f r0) (XS.iloadN X60.here hx rfl (hb hby at_246) rfl (XS.iload X60.here hx rfl (hb hby at_247) rfl kk_))) ?_
                      show own_GoesH _ _ _ _ _ _ _ _ _ T60 (mkF m 249 #[iv p1, iv p2, iv p3, iv p4, .val (.long p5), .second, iv p6, iv l2, iv c2, iv (1 : Int32), iv (2 : Int32), iv a1, iv b1, iv sc, iv a2, iv b2, rv x35_y, rv x56_y, rv b57, rv b59, iv sm, .unset, .unset] [(.int c2), (.int p2)])
                      rcases Classical.em (p2 = c2) with r1 | r1
                      · refine own_stH (fun _ kk_ => XS.icmpNo X60.here hx rfl (hb hby at_249) rfl (XT.ii_ne_f r1) (XS.iload X60.here hx rfl (hb hby at_252) rfl kk_)) ?_
                        show own_GoesH _ _ _ _ _ _ _ _ _ T60 (mkF m 254 #[iv p1, iv p2, iv p3, iv p4, .val (.long p5), .second, iv p6, iv l2, iv c2, iv (1 : Int32), iv (2 : Int32), iv a1, iv b1, iv sc, iv a2, iv b2, rv x35_y, rv x56_y, rv b57, rv b59, iv sm, .unset, .unset] [(.int sm)])
                        rcases Classical.em (sm = (0 : Int32)) with r2 | r2
                        · refine own_stH (fun _ kk_ => XS.ifYes X60.here hx rfl (pc0 := 254) (pc' := 261) rfl (hb hby at_254) rfl (XT.i0_eq_t r2) (by decide) (by decide) (XS.iconst X60.here hx rfl (hb hby at_261) kk_)) ?_
                          show own_GoesH _ _ _ _ _ _ _ _ _ T60 (mkF m 262 #[iv p1, iv p2, iv p3, iv p4, .val (.long p5), .second, iv p6, iv l2, iv c2, iv (1 : Int32), iv (2 : Int32), iv a1, iv b1, iv sc, iv a2, iv b2, rv x35_y, rv x56_y, rv b57, rv b59, iv sm, .unset, .unset] [(.int (0 : Int32))])
                          exact JE ((0 : Int32)) (own_b0 (fun k => by rw [hsm, own_b1 k.2.2] at r2; exact absurd r2 (by decide))).symm
                        · refine own_stH (fun _ kk_ => XS.ifNo X60.here hx rfl (hb hby at_254) rfl (XT.i0_eq_f r2) (XS.iconst X60.here hx rfl (hb hby at_257) (XS.goto X60.here hx rfl (pc0 := 258) (pc' := 262) rfl (hb hby at_258) (by decide) (by decide) kk_))) ?_
                          show own_GoesH _ _ _ _ _ _ _ _ _ T60 (mkF m 262 #[iv p1, iv p2, iv p3, iv p4, .val (.long p5), .second, iv p6, iv l2, iv c2, iv (1 : Int32), iv (2 : Int32), iv a1, iv b1, iv sc, iv a2, iv b2, rv x35_y, rv x56_y, rv b57, rv b59, iv sm, .unset, .unset] [(.int (1 : Int32))])
                          exact JE ((1 : Int32)) (own_b1 ⟨r0, r1, Classical.byContradiction fun k => r2 (hsm.trans (own_b0 k))⟩).symm
                      · refine own_stH (fun _ kk_ => XS.icmpYes X60.here hx rfl (pc0 := 249) (pc' := 261) rfl (hb hby at_249) rfl (XT.ii_ne_t r1) (by decide) (by decide) (XS.iconst X60.here hx rfl (hb hby at_261) kk_)) ?_
                        show own_GoesH _ _ _ _ _ _ _ _ _ T60 (mkF m 262 #[iv p1, iv p2, iv p3, iv p4, .val (.long p5), .second, iv p6, iv l2, iv c2, iv (1 : Int32), iv (2 : Int32), iv a1, iv b1, iv sc, iv a2, iv b2, rv x35_y, rv x56_y, rv b57, rv b59, iv sm, .unset, .unset] [(.int (0 : Int32))])
                        exact JE ((0 : Int32)) (own_b0 (fun k => r1 k.2.1)).symm
                    · refine own_stH (fun _ kk_ => XS.icmpYes X60.here hx rfl (pc0 := 243) (pc' := 261) rfl (hb hby at_243) rfl (XT.ii_ne_t r0) (by decide) (by decide) (XS.iconst X60.here hx rfl (hb hby at_261) kk_)) ?_
                      show own_GoesH _ _ _ _ _ _ _ _ _ T60 (mkF m 262 #[iv p1, iv p2, iv p3, iv p4, .val (.long p5), .second, iv p6, iv l2, iv c2, iv (1 : Int32), iv (2 : Int32), iv a1, iv b1, iv sc, iv a2, iv b2, rv x35_y, rv x56_y, rv b57, rv b59, iv sm, .unset, .unset] [(.int (0 : Int32))])
                      exact JE ((0 : Int32)) (own_b0 (fun k => r0 k.1)).symm
                  refine own_stH (fun _ kk_ => XS.iload X60.here hx rfl (hb hby at_200) rfl (XS.iload X60.here hx rfl (hb hby at_202) rfl (XS.icmpYes X60.here hx rfl (pc0 := 204) (pc' := 237) rfl (hb hby at_204) rfl (XT.ii_ne_t (by decide)) (by decide) (by decide) (XS.iconst X60.here hx rfl (hb hby at_237) kk_)))) ?_
                  show own_GoesH _ _ _ _ _ _ _ _ _ T60 (mkF m 238 #[iv p1, iv p2, iv p3, iv p4, .val (.long p5), .second, iv p6, iv l2, iv c2, iv (1 : Int32), iv (2 : Int32), iv a1, iv b1, iv sc, iv a2, iv b2, rv x35_y, rv x56_y, rv b57, rv b59, .unset, .unset, .unset] [(.int (0 : Int32))])
                  exact JM ((0 : Int32)) (own_b0 not_false).symm
              · show own_GoesH _ _ _ _ _ _ _ _ _ T2 (mkF m 156 #[iv p1, iv p2, iv p3, iv p4, .val (.long p5), .second, iv p6, iv l2, iv c2, iv (2 : Int32), iv n2, iv a1, iv b1, iv sc, iv a2, iv b2, .unset, .unset, .unset, .unset, .unset, .unset, .unset] [(.int b1), (.int a1), (.int (2 : Int32))])
                obtain ⟨_, _, ⟨T66, L66, k66, n66⟩, -, X66, ⟨Lc66, hQ66, l66, y66, z66⟩, st66⟩ := Jvm.LawKit.callS X2 hx (y := yy10) hown (mvT hZ (own_w hw 5 rfl)) (mvT hZ (own_w hw 6 rfl)) (mvT hZ (own_w hw 7 rfl)) (mvT hZ (own_w hw 8 rfl)) (by decide) (backOf (W := 0) (rm2_2 l Z a0 hw [] (a1) (b1) (cs) h2 n0 Zs2 j2_0 (by assumption) hi_a1 hi_b1) hZ (own_w hw 8 rfl) (own_w hw 7 rfl) (by decide) (by decide)) (g := (mkF m 156 #[iv p1, iv p2, iv p3, iv p4, .val (.long p5), .second, iv p6, iv l2, iv c2, iv (2 : Int32), iv n2, iv a1, iv b1, iv sc, iv a2, iv b2, .unset, .unset, .unset, .unset, .unset, .unset, .unset] [(.int b1), (.int a1), (.int (2 : Int32))])) rfl (by rw [hml]; rfl) (argsL := [(.int (2 : Int32)), (.int a1), (.int b1)]) (rest := []) (lenOf pd_12 rfl) rfl (by show 2 * 0 + _ ≤ _; exact Nat.le_of_eq rfl) (hb hby at_156) (fun _ _ => ⟨rfl, e2, (by decide : 0 + 3 ≤ _), (by decide : 0 + 8 ≤ _)⟩)
                dsimp only [Pt.U, Pt.locs, Pt.cells, Pt.slots] at X66 l66 y66 z66 st66 hQ66
                subst l66 y66 z66
                obtain ⟨x66_y, x66_d, x66_kd, rfl, Nq66, Kq66, u66_0, u66_1, u66_2, u66_3, u66_4⟩ := hQ66
                have N66 := Fr.app N2 Nq66
                have f66_0 := own_Sta_keep j2_0 Kq66 ns0
                have C66 := C2.trans (CHr.keep Kq66 sf0 C2.1)
                have Ks66 := Nat.le_trans Ks2 Kq66.1
                have Zs66 : n0 ≤ T66.heap.size := Nat.le_trans Zs2 Kq66.1
                have gg66_y : n0 ≤ x66_y := Nat.le_trans Zs2 u66_0
                refine own_stH st66 ?_
                show own_GoesH _ _ _ _ _ _ _ _ _ T66 (mkF m 159 #[iv p1, iv p2, iv p3, iv p4, .val (.long p5), .second, iv p6, iv l2, iv c2, iv (2 : Int32), iv n2, iv a1, iv b1, iv sc, iv a2, iv b2, .unset, .unset, .unset, .unset, .unset, .unset, .unset] [(.ref x66_y)])
                refine own_stH (fun _ kk_ => XS.astore X66.here hx rfl (hb hby at_159) rfl rfl (l' := #[iv p1, iv p2, iv p3, iv p4, .val (.long p5), .second, iv p6, iv l2, iv c2, iv (2 : Int32), iv n2, iv a1, iv b1, iv sc, iv a2, iv b2, rv x66_y, .unset, .unset, .unset, .unset, .unset, .unset]) rfl (XS.iload X66.here hx rfl (hb hby at_161) rfl (XS.iload X66.here hx rfl (hb hby at_163) rfl (XS.iload X66.here hx rfl (hb hby at_165) rfl kk_)))) ?_
                show own_GoesH _ _ _ _ _ _ _ _ _ T66 (mkF m 167 #[iv p1, iv p2, iv p3, iv p4, .val (.long p5), .second, iv p6, iv l2, iv c2, iv (2 : Int32), iv n2, iv a1, iv b1, iv sc, iv a2, iv b2, rv x66_y, .unset, .unset, .unset, .unset, .unset, .unset] [(.int b2), (.int a2), (.int n2)])
                rcases j2_1 with rfl | rfl | rfl
                · show own_GoesH _ _ _ _ _ _ _ _ _ T66 (mkF m 167 #[iv p1, iv p2, iv p3, iv p4, .val (.long p5), .second, iv p6, iv l2, iv c2, iv (2 : Int32), iv (0 : Int32), iv a1, iv b1, iv sc, iv a2, iv b2, rv x66_y, .unset, .unset, .unset, .unset, .unset, .unset] [(.int b2), (.int a2), (.int (0 : Int32))])
                  obtain ⟨_, _, ⟨T67, L67, k67, n67⟩, -, X67, hSn67, hgn67, ⟨Lc67, hQ67, l67, y67, z67, hC67⟩, st67⟩ := callSS X66 hx (y := yy10) hown (mvT hZ (own_w hw 5 rfl)) (mvT hZ (own_w hw 6 rfl)) (mvT hZ (own_w hw 7 rfl)) (mvT hZ (own_w hw 8 rfl)) (by decide) (own_backH (sl := []) (W := 0) (rm2_0 l Z a0 hw [] hEL (a2) (b2) (cs) T66.heap n0 Zs66 f66_0 (by assumption)) hZ (own_w hw 8 rfl) (own_w hw 7 rfl) (by decide) (by decide) hEL C66.1 own_sn) (g := (mkF m 167 #[iv p1, iv p2, iv p3, iv p4, .val (.long p5), .second, iv p6, iv l2, iv c2, iv (2 : Int32), iv (0 : Int32), iv a1, iv b1, iv sc, iv a2, iv b2, rv x66_y, .unset, .unset, .unset, .unset, .unset, .unset] [(.int b2), (.int a2), (.int (0 : Int32))])) rfl (by rw [hml]; rfl) (argsL := [(.int (0 : Int32)), (.int a2), (.int b2)]) (rest := []) (lenOf pd_12 rfl) rfl (by show 2 * 0 + _ ≤ _; exact Nat.le_of_eq rfl) (hb hby at_167) (fun _ _ => ⟨rfl, rfl, (by decide : 3 + 6 ≤ _), (by decide : 8 + 12 ≤ _)⟩)
                  dsimp only [Pt.U, Pt.locs, Pt.cells, Pt.slots] at X67 l67 y67 z67 st67 hQ67 hSn67 hgn67 hC67
                  subst l67 y67 z67
                  have X67 : Stand p l e room_1 (s.setVm T67.vm) m _ below meth c T67 _ _ _ := X67
                  have hS67 := foldS hS2 Ks66 hSn67 hgn67
                  have hown : (s.setVm T67.vm).vm.findClass "com/example/majra/majra/lang/RefusalEqualsPinLaw" = some m.cls := by rw [show (s.setVm T67.vm).vm = T67.vm from rfl, hSn67.1.alike.findClass]; exact hown
                  obtain ⟨x67_y, x67_d, x67_kd, rfl, Nq67, Kq67, u67_0, u67_1, u67_2, u67_3, u67_4⟩ := hQ67
                  have N67 := Fr.app N66 Nq67
                  have hZ : Z.Warmed39 (s.setVm T67.vm).vm := State.Warmed39.trans (t := (s.setVm vm2)) hZ hSn67.1
                  have f67_0 := own_Sta_keep f66_0 Kq67 ns0
                  have f67_1 := u66_1.keep Kq67
                  have f67_2 := u66_2.keep Kq67 nin0
                  have f67_3 := u66_3.keep Kq67 nin0
                  have f67_4 := u66_4.keep Kq67 nin0
                  have C67 := C66.trans hC67
                  have Ks67 := Nat.le_trans Ks66 Kq67.1
                  have Zs67 : n0 ≤ T67.heap.size := Nat.le_trans Zs66 Kq67.1
                  have ne67_x66_y : x66_y ≠ x67_y := Nat.ne_of_lt (Nat.lt_of_lt_of_le u66_1.lt u67_0)
                  have ne67_x66_d : x66_d ≠ x67_y := Nat.ne_of_lt (Nat.lt_of_lt_of_le u66_4.lt u67_0)
                  have gg67_y : n0 ≤ x67_y := Nat.le_trans Zs66 u67_0
                  refine own_stH (fun _ kk_ => st67.trans kk_) ?_
                  show own_GoesH _ _ _ _ _ _ _ _ _ T67 (mkF m 170 #[iv p1, iv p2, iv p3, iv p4, .val (.long p5), .second, iv p6, iv l2, iv c2, iv (2 : Int32), iv (0 : Int32), iv a1, iv b1, iv sc, iv a2, iv b2, rv x66_y, .unset, .unset, .unset, .unset, .unset, .unset] [(.ref x67_y)])
                  refine own_stH (fun _ kk_ => XS.astore X67.here hx rfl (hb hby at_170) rfl rfl (l' := #[iv p1, iv p2, iv p3, iv p4, .val (.long p5), .second, iv p6, iv l2, iv c2, iv (2 : Int32), iv (0 : Int32), iv a1, iv b1, iv sc, iv a2, iv b2, rv x66_y, rv x67_y, .unset, .unset, .unset, .unset, .unset]) rfl kk_) ?_
                  show own_GoesH _ _ _ _ _ _ _ _ _ T67 (mkF m 172 #[iv p1, iv p2, iv p3, iv p4, .val (.long p5), .second, iv p6, iv l2, iv c2, iv (2 : Int32), iv (0 : Int32), iv a1, iv b1, iv sc, iv a2, iv b2, rv x66_y, rv x67_y, .unset, .unset, .unset, .unset, .unset] [])
                  obtain ⟨T68, h68, X68, e68, E68, A68, D68, -, st68⟩ := newO X67 hx hZ hown (own_w hw 31 rfl) (own_w hw 32 rfl) (own_w hw 33 rfl) rfl (g := (mkF m 172 #[iv p1, iv p2, iv p3, iv p4, .val (.long p5), .second, iv p6, iv l2, iv c2, iv (2 : Int32), iv (0 : Int32), iv a1, iv b1, iv sc, iv a2, iv b2, rv x66_y, rv x67_y, .unset, .unset, .unset, .unset, .unset] [])) rfl (hb hby at_172) (by decide) (by decide)
                  obtain ⟨b68, gx68⟩ : ∃ z, z = T67.heap.size := ⟨_, rfl⟩
                  rw [← gx68] at A68 D68 st68
                  have ne68_x66_y : x66_y ≠ b68 := Nat.ne_of_lt (Nat.lt_of_lt_of_eq f67_1.lt gx68.symm)
                  have ne68_x66_d : x66_d ≠ b68 := Nat.ne_of_lt (Nat.lt_of_lt_of_eq f67_4.lt gx68.symm)
                  have ne68_x67_y : x67_y ≠ b68 := Nat.ne_of_lt (Nat.lt_of_lt_of_eq u67_1.lt gx68.symm)
                  have ne68_x67_d : x67_d ≠ b68 := Nat.ne_of_lt (Nat.lt_of_lt_of_eq u67_4.lt gx68.symm)
                  have gg68 : n0 ≤ b68 := Nat.le_trans Zs67 (Nat.le_of_eq gx68.symm)
                  have f68_0 := f67_0.ext E68
                  have f68_1 := f67_1.ext E68
                  have f68_2 := f67_2.ext E68
                  have f68_3 := f67_3.ext E68
                  have f68_4 := f67_4.ext E68
                  have f68_5 := u67_1.ext E68
                  have f68_6 := u67_2.ext E68
                  have f68_7 := u67_3.ext E68
                  have f68_8 := u67_4.ext E68
                  have C68 := C67.trans (CHr.ext E68 C67.1)
                  have Zs68 : n0 ≤ h68.size := Nat.le_trans Zs67 E68.1
                  have Ks68 := Nat.le_trans (Nat.le_refl T67.heap.size) E68.1
                  have fn68_line : Fld Z h68 b68 "com/example/majra/majra/lang/Command$Refusal" "line" "I" (.int (0 : Int32)) := D68 (Or.inr (own_w hw 39 rfl)) (ty := .int) (by decide)
                  have fn68_column : Fld Z h68 b68 "com/example/majra/majra/lang/Command$Refusal" "column" "I" (.int (0 : Int32)) := D68 (Or.inr (own_w hw 41 rfl)) (ty := .int) (by decide)
                  have fn68_message : Fld Z h68 b68 "com/example/majra/majra/lang/Command$Refusal" "message" "Ljava/lang/String;" .null := D68 (Or.inr (own_w hw 43 rfl)) (ty := (.object "java/lang/String")) (by decide)
                  refine own_stH st68 ?_
                  show own_GoesH _ _ _ _ _ _ _ _ _ T68 (mkF m 175 #[iv p1, iv p2, iv p3, iv p4, .val (.long p5), .second, iv p6, iv l2, iv c2, iv (2 : Int32), iv (0 : Int32), iv a1, iv b1, iv sc, iv a2, iv b2, rv x66_y, rv x67_y, .unset, .unset, .unset, .unset, .unset] [(.ref b68)])
                  refine own_stH (fun _ kk_ => XS.dup X68.here hx rfl (hb hby at_175) rfl rfl (XS.iloadN X68.here hx rfl (hb hby at_176) rfl (XS.iloadN X68.here hx rfl (hb hby at_177) rfl (XS.aload X68.here hx rfl (hb hby at_178) rfl rfl kk_)))) ?_
                  show own_GoesH _ _ _ _ _ _ _ _ _ T68 (mkF m 180 #[iv p1, iv p2, iv p3, iv p4, .val (.long p5), .second, iv p6, iv l2, iv c2, iv (2 : Int32), iv (0 : Int32), iv a1, iv b1, iv sc, iv a2, iv b2, rv x66_y, rv x67_y, .unset, .unset, .unset, .unset, .unset] [(.ref x66_y), (.int p2), (.int p1), (.ref b68), (.ref b68)])
                  obtain ⟨_, _, ⟨T69, L69, k69, n69⟩, -, X69, ⟨Lc69, hQ69, l69, y69, z69⟩, st69⟩ := X68.specialBack hx (y := yy11) rfl hown (mvT hZ (own_w hw 34 rfl)) (mvT hZ (own_w hw 35 rfl)) (mvT hZ (own_w hw 36 rfl)) (by decide) (backOf (W := 1) (rm6 l Z a0 hw [] (b68) (p1) (p2) (x66_y) h68 n0 Zs68 A68 fn68_line fn68_column fn68_message gg68) hZ (own_w hw 36 rfl) (own_w hw 33 rfl) (by decide) (by decide)) (g := (mkF m 180 #[iv p1, iv p2, iv p3, iv p4, .val (.long p5), .second, iv p6, iv l2, iv c2, iv (2 : Int32), iv (0 : Int32), iv a1, iv b1, iv sc, iv a2, iv b2, rv x66_y, rv x67_y, .unset, .unset, .unset, .unset, .unset] [(.ref x66_y), (.int p2), (.int p1), (.ref b68), (.ref b68)])) rfl (by rw [hml]; rfl) (Steps.refl _) (a := b68) (argsL := [(.int p1), (.int p2), (.ref x66_y)]) (rest := [(.ref b68)]) (lenOf pd_13 rfl) rfl (by show 2 * 0 + _ ≤ _; exact Nat.le_of_eq rfl) (hb hby at_180) (fun _ _ => ⟨rfl, e68, (by decide : 10 + 0 ≤ _), (by decide : 23 + 0 ≤ _)⟩)
                  dsimp only [Pt.U, Pt.locs, Pt.cells, Pt.slots] at X69 l69 y69 z69 st69 hQ69
                  subst l69 y69 z69
                  obtain ⟨rfl, Nq69, Kq69, u69_0, u69_1, u69_2⟩ := hQ69
                  have N69 := Fr.app N67 Nq69
                  have f69_0 := own_Sta_keep f68_0 Kq69 (nsS A68.nostat ns0)
                  have f69_1 := f68_1.keep Kq69
                  have f69_2 := f68_2.keep Kq69 (ninS ne68_x66_y nin0)
                  have f69_3 := f68_3.keep Kq69 (ninS ne68_x66_y nin0)
                  have f69_4 := f68_4.keep Kq69 (ninS ne68_x66_d nin0)
                  have f69_5 := f68_5.keep Kq69
                  have f69_6 := f68_6.keep Kq69 (ninS ne68_x67_y nin0)
                  have f69_7 := f68_7.keep Kq69 (ninS ne68_x67_y nin0)
                  have f69_8 := f68_8.keep Kq69 (ninS ne68_x67_d nin0)
                  have f69_9 := A68.keep Kq69
                  have C69 := C68.trans (CHr.keep Kq69 (sfS (Safe.exa hZ.alike A68 (by decide) (by decide)) sf0) C68.1)
                  have Ks69 := Nat.le_trans Ks68 Kq69.1
                  have Zs69 : n0 ≤ T69.heap.size := Nat.le_trans Zs68 Kq69.1
                  refine own_stH (fun _ kk_ => st69.trans kk_) ?_
                  show own_GoesH _ _ _ _ _ _ _ _ _ T69 (mkF m 183 #[iv p1, iv p2, iv p3, iv p4, .val (.long p5), .second, iv p6, iv l2, iv c2, iv (2 : Int32), iv (0 : Int32), iv a1, iv b1, iv sc, iv a2, iv b2, rv x66_y, rv x67_y, .unset, .unset, .unset, .unset, .unset] [(.ref b68)])
                  refine own_stH (fun _ kk_ => XS.astore X69.here hx rfl (hb hby at_183) rfl rfl (l' := #[iv p1, iv p2, iv p3, iv p4, .val (.long p5), .second, iv p6, iv l2, iv c2, iv (2 : Int32), iv (0 : Int32), iv a1, iv b1, iv sc, iv a2, iv b2, rv x66_y, rv x67_y, rv b68, .unset, .unset, .unset, .unset]) rfl kk_) ?_
                  show own_GoesH _ _ _ _ _ _ _ _ _ T69 (mkF m 185 #[iv p1, iv p2, iv p3, iv p4, .val (.long p5), .second, iv p6, iv l2, iv c2, iv (2 : Int32), iv (0 : Int32), iv a1, iv b1, iv sc, iv a2, iv b2, rv x66_y, rv x67_y, rv b68, .unset, .unset, .unset, .unset] [])
                  obtain ⟨T70, h70, X70, e70, E70, A70, D70, -, st70⟩ := newO X69 hx hZ hown (own_w hw 31 rfl) (own_w hw 32 rfl) (own_w hw 33 rfl) rfl (g := (mkF m 185 #[iv p1, iv p2, iv p3, iv p4, .val (.long p5), .second, iv p6, iv l2, iv c2, iv (2 : Int32), iv (0 : Int32), iv a1, iv b1, iv sc, iv a2, iv b2, rv x66_y, rv x67_y, rv b68, .unset, .unset, .unset, .unset] [])) rfl (hb hby at_185) (by decide) (by decide)
                  obtain ⟨b70, gx70⟩ : ∃ z, z = T69.heap.size := ⟨_, rfl⟩
                  rw [← gx70] at A70 D70 st70
                  have ne70_x66_y : x66_y ≠ b70 := Nat.ne_of_lt (Nat.lt_of_lt_of_eq f69_1.lt gx70.symm)
                  have ne70_x66_d : x66_d ≠ b70 := Nat.ne_of_lt (Nat.lt_of_lt_of_eq f69_4.lt gx70.symm)
                  have ne70_x67_y : x67_y ≠ b70 := Nat.ne_of_lt (Nat.lt_of_lt_of_eq f69_5.lt gx70.symm)
                  have ne70_x67_d : x67_d ≠ b70 := Nat.ne_of_lt (Nat.lt_of_lt_of_eq f69_8.lt gx70.symm)
                  have ne70_b68 : b68 ≠ b70 := Nat.ne_of_lt (Nat.lt_of_lt_of_eq f69_9.lt gx70.symm)
                  have gg70 : n0 ≤ b70 := Nat.le_trans Zs69 (Nat.le_of_eq gx70.symm)
                  have f70_0 := f69_0.ext E70
                  have f70_1 := f69_1.ext E70
                  have f70_2 := f69_2.ext E70
                  have f70_3 := f69_3.ext E70
                  have f70_4 := f69_4.ext E70
                  have f70_5 := f69_5.ext E70
                  have f70_6 := f69_6.ext E70
                  have f70_7 := f69_7.ext E70
                  have f70_8 := f69_8.ext E70
                  have f70_9 := f69_9.ext E70
                  have f70_10 := u69_0.ext E70
                  have f70_11 := u69_1.ext E70
                  have f70_12 := u69_2.ext E70
                  have C70 := C69.trans (CHr.ext E70 C69.1)
                  have Zs70 : n0 ≤ h70.size := Nat.le_trans Zs69 E70.1
                  have Ks70 := Nat.le_trans Ks69 E70.1
                  have fn70_line : Fld Z h70 b70 "com/example/majra/majra/lang/Command$Refusal" "line" "I" (.int (0 : Int32)) := D70 (Or.inr (own_w hw 39 rfl)) (ty := .int) (by decide)
                  have fn70_column : Fld Z h70 b70 "com/example/majra/majra/lang/Command$Refusal" "column" "I" (.int (0 : Int32)) := D70 (Or.inr (own_w hw 41 rfl)) (ty := .int) (by decide)
                  have fn70_message : Fld Z h70 b70 "com/example/majra/majra/lang/Command$Refusal" "message" "Ljava/lang/String;" .null := D70 (Or.inr (own_w hw 43 rfl)) (ty := (.object "java/lang/String")) (by decide)
                  refine own_stH st70 ?_
                  show own_GoesH _ _ _ _ _ _ _ _ _ T70 (mkF m 188 #[iv p1, iv p2, iv p3, iv p4, .val (.long p5), .second, iv p6, iv l2, iv c2, iv (2 : Int32), iv (0 : Int32), iv a1, iv b1, iv sc, iv a2, iv b2, rv x66_y, rv x67_y, rv b68, .unset, .unset, .unset, .unset] [(.ref b70)])
                  refine own_stH (fun _ kk_ => XS.dup X70.here hx rfl (hb hby at_188) rfl rfl (XS.iload X70.here hx rfl (hb hby at_189) rfl (XS.iload X70.here hx rfl (hb hby at_191) rfl (XS.aload X70.here hx rfl (hb hby at_193) rfl rfl kk_)))) ?_
                  show own_GoesH _ _ _ _ _ _ _ _ _ T70 (mkF m 195 #[iv p1, iv p2, iv p3, iv p4, .val (.long p5), .second, iv p6, iv l2, iv c2, iv (2 : Int32), iv (0 : Int32), iv a1, iv b1, iv sc, iv a2, iv b2, rv x66_y, rv x67_y, rv b68, .unset, .unset, .unset, .unset] [(.ref x67_y), (.int c2), (.int l2), (.ref b70), (.ref b70)])
                  obtain ⟨_, _, ⟨T71, L71, k71, n71⟩, -, X71, ⟨Lc71, hQ71, l71, y71, z71⟩, st71⟩ := X70.specialBack hx (y := yy11) rfl hown (mvT hZ (own_w hw 34 rfl)) (mvT hZ (own_w hw 35 rfl)) (mvT hZ (own_w hw 36 rfl)) (by decide) (backOf (W := 1) (rm6 l Z a0 hw [] (b70) (l2) (c2) (x67_y) h70 n0 Zs70 A70 fn70_line fn70_column fn70_message gg70) hZ (own_w hw 36 rfl) (own_w hw 33 rfl) (by decide) (by decide)) (g := (mkF m 195 #[iv p1, iv p2, iv p3, iv p4, .val (.long p5), .second, iv p6, iv l2, iv c2, iv (2 : Int32), iv (0 : Int32), iv a1, iv b1, iv sc, iv a2, iv b2, rv x66_y, rv x67_y, rv b68, .unset, .unset, .unset, .unset] [(.ref x67_y), (.int c2), (.int l2), (.ref b70), (.ref b70)])) rfl (by rw [hml]; rfl) (Steps.refl _) (a := b70) (argsL := [(.int l2), (.int c2), (.ref x67_y)]) (rest := [(.ref b70)]) (lenOf pd_13 rfl) rfl (by show 2 * 0 + _ ≤ _; exact Nat.le_of_eq rfl) (hb hby at_195) (fun _ _ => ⟨rfl, e70, (by decide : 11 + 0 ≤ _), (by decide : 26 + 0 ≤ _)⟩)
                  dsimp only [Pt.U, Pt.locs, Pt.cells, Pt.slots] at X71 l71 y71 z71 st71 hQ71
                  subst l71 y71 z71
                  obtain ⟨rfl, Nq71, Kq71, u71_0, u71_1, u71_2⟩ := hQ71
                  have N71 := Fr.app N69 Nq71
                  have f71_0 := own_Sta_keep f70_0 Kq71 (nsS A70.nostat ns0)
                  have f71_1 := f70_1.keep Kq71
                  have f71_2 := f70_2.keep Kq71 (ninS ne70_x66_y nin0)
                  have f71_3 := f70_3.keep Kq71 (ninS ne70_x66_y nin0)
                  have f71_4 := f70_4.keep Kq71 (ninS ne70_x66_d nin0)
                  have f71_5 := f70_5.keep Kq71
                  have f71_6 := f70_6.keep Kq71 (ninS ne70_x67_y nin0)
                  have f71_7 := f70_7.keep Kq71 (ninS ne70_x67_y nin0)
                  have f71_8 := f70_8.keep Kq71 (ninS ne70_x67_d nin0)
                  have f71_9 := f70_9.keep Kq71
                  have f71_10 := f70_10.keep Kq71 (ninS ne70_b68 nin0)
                  have f71_11 := f70_11.keep Kq71 (ninS ne70_b68 nin0)
                  have f71_12 := f70_12.keep Kq71 (ninS ne70_b68 nin0)
                  have f71_13 := A70.keep Kq71
                  have C71 := C70.trans (CHr.keep Kq71 (sfS (Safe.exa hZ.alike A70 (by decide) (by decide)) sf0) C70.1)
                  have Ks71 := Nat.le_trans Ks70 Kq71.1
                  have Zs71 : n0 ≤ T71.heap.size := Nat.le_trans Zs70 Kq71.1
                  refine own_stH (fun _ kk_ => st71.trans kk_) ?_
                  show own_GoesH _ _ _ _ _ _ _ _ _ T71 (mkF m 198 #[iv p1, iv p2, iv p3, iv p4, .val (.long p5), .second, iv p6, iv l2, iv c2, iv (2 : Int32), iv (0 : Int32), iv a1, iv b1, iv sc, iv a2, iv b2, rv x66_y, rv x67_y, rv b68, .unset, .unset, .unset, .unset] [(.ref b70)])
                  refine own_stH (fun _ kk_ => XS.astore X71.here hx rfl (hb hby at_198) rfl rfl (l' := #[iv p1, iv p2, iv p3, iv p4, .val (.long p5), .second, iv p6, iv l2, iv c2, iv (2 : Int32), iv (0 : Int32), iv a1, iv b1, iv sc, iv a2, iv b2, rv x66_y, rv x67_y, rv b68, rv b70, .unset, .unset, .unset]) rfl kk_) ?_
                  show own_GoesH _ _ _ _ _ _ _ _ _ T71 (mkF m 200 #[iv p1, iv p2, iv p3, iv p4, .val (.long p5), .second, iv p6, iv l2, iv c2, iv (2 : Int32), iv (0 : Int32), iv a1, iv b1, iv sc, iv a2, iv b2, rv x66_y, rv x67_y, rv b68, rv b70, .unset, .unset, .unset] [])
                  have JM : ∀ (sm : Int32), (sm = own_b (False)) → own_GoesH p e below s Z consts_1 (Q0 Z p1 p2 p3 p4 p5 p6 cs h0 n0) 32 1152 T71 (mkF m 238 #[iv p1, iv p2, iv p3, iv p4, .val (.long p5), .second, iv p6, iv l2, iv c2, iv (2 : Int32), iv (0 : Int32), iv a1, iv b1, iv sc, iv a2, iv b2, rv x66_y, rv x67_y, rv b68, rv b70, .unset, .unset, .unset] [(.int sm)]) := by
                    intro sm hsm
                    show own_GoesH _ _ _ _ _ _ _ _ _ T71 (mkF m 238 #[iv p1, iv p2, iv p3, iv p4, .val (.long p5), .second, iv p6, iv l2, iv c2, iv (2 : Int32), iv (0 : Int32), iv a1, iv b1, iv sc, iv a2, iv b2, rv x66_y, rv x67_y, rv b68, rv b70, .unset, .unset, .unset] [(.int sm)])
                    refine own_stH (fun _ kk_ => XS.istore X71.here hx rfl (hb hby at_238) rfl (l' := #[iv p1, iv p2, iv p3, iv p4, .val (.long p5), .second, iv p6, iv l2, iv c2, iv (2 : Int32), iv (0 : Int32), iv a1, iv b1, iv sc, iv a2, iv b2, rv x66_y, rv x67_y, rv b68, rv b70, iv sm, .unset, .unset]) rfl (XS.iloadN X71.here hx rfl (hb hby at_240) rfl (XS.iload X71.here hx rfl (hb hby at_241) rfl kk_))) ?_
                    show own_GoesH _ _ _ _ _ _ _ _ _ T71 (mkF m 243 #[iv p1, iv p2, iv p3, iv p4, .val (.long p5), .second, iv p6, iv l2, iv c2, iv (2 : Int32), iv (0 : Int32), iv a1, iv b1, iv sc, iv a2, iv b2, rv x66_y, rv x67_y, rv b68, rv b70, iv sm, .unset, .unset] [(.int l2), (.int p1)])
                    have JE : ∀ (xp : Int32), (xp = own_b (p1 = l2 ∧ p2 = c2 ∧ (False))) → own_GoesH p e below s Z consts_1 (Q0 Z p1 p2 p3 p4 p5 p6 cs h0 n0) 32 1152 T71 (mkF m 262 #[iv p1, iv p2, iv p3, iv p4, .val (.long p5), .second, iv p6, iv l2, iv c2, iv (2 : Int32), iv (0 : Int32), iv a1, iv b1, iv sc, iv a2, iv b2, rv x66_y, rv x67_y, rv b68, rv b70, iv sm, .unset, .unset] [(.int xp)]) := by
                      intro xp hxp
                      show own_GoesH _ _ _ _ _ _ _ _ _ T71 (mkF m 262 #[iv p1, iv p2, iv p3, iv p4, .val (.long p5), .second, iv p6, iv l2, iv c2, iv (2 : Int32), iv (0 : Int32), iv a1, iv b1, iv sc, iv a2, iv b2, rv x66_y, rv x67_y, rv b68, rv b70, iv sm, .unset, .unset] [(.int xp)])
                      refine own_stH (fun _ kk_ => XS.istore X71.here hx rfl (hb hby at_262) rfl (l' := #[iv p1, iv p2, iv p3, iv p4, .val (.long p5), .second, iv p6, iv l2, iv c2, iv (2 : Int32), iv (0 : Int32), iv a1, iv b1, iv sc, iv a2, iv b2, rv x66_y, rv x67_y, rv b68, rv b70, iv sm, iv xp, .unset]) rfl (XS.aload X71.here hx rfl (hb hby at_264) rfl rfl (XS.astore X71.here hx rfl (hb hby at_266) rfl rfl (l' := #[iv p1, iv p2, iv p3, iv p4, .val (.long p5), .second, iv p6, iv l2, iv c2, iv (2 : Int32), iv (0 : Int32), iv a1, iv b1, iv sc, iv a2, iv b2, rv x66_y, rv x67_y, rv b68, rv b70, iv sm, iv xp, rv x66_y]) rfl (XS.aload X71.here hx rfl (hb hby at_268) rfl rfl (XS.aload X71.here hx rfl (hb hby at_270) rfl rfl kk_))))) ?_
                      show own_GoesH _ _ _ _ _ _ _ _ _ T71 (mkF m 272 #[iv p1, iv p2, iv p3, iv p4, .val (.long p5), .second, iv p6, iv l2, iv c2, iv (2 : Int32), iv (0 : Int32), iv a1, iv b1, iv sc, iv a2, iv b2, rv x66_y, rv x67_y, rv b68, rv b70, iv sm, iv xp, rv x66_y] [(.ref b70), (.ref b68)])
                      obtain ⟨cq72, kq72, q72a, q72b, q72c⟩ := isOf hZ rfl f71_9
                      obtain ⟨_, _, ⟨T72, L72, k72, n72⟩, -, X72, ⟨Lc72, hQ72, l72, y72, z72⟩, st72⟩ := X71.virtualBack hx (y := yy14) (z := yy14) hown (mvT hZ (own_w hw 44 rfl)) (mvT hZ (own_w hw 45 rfl)) (notFace_of_selects (args := #[]) (mvT hZ (own_w hw 47 rfl))) (mvT hZ (own_w hw 47 rfl)) (mvT hZ (own_w hw 46 rfl)) (by decide) (backOf (W := 0) (rm7_2_0 l Z a0 hw [] (b68) (b70) (p1) (p2) (l2) (c2) (x66_y) (x67_y) ((own_by a1)) ((own_by b1)) (x66_d) (x67_d) (x66_kd) (x67_kd) (cs) T71.heap n0 Zs71 f71_10 f71_11 f71_12 f71_13 u71_0 u71_1 u71_2 f71_1 f71_2 f71_3 f71_5 f71_6 f71_7 f71_4 f71_8 f71_0 (by assumption) ne67_x66_y) hZ (own_w hw 48 rfl) (own_w hw 33 rfl) (by decide) (by decide)) q72a q72c (g := (mkF m 272 #[iv p1, iv p2, iv p3, iv p4, .val (.long p5), .second, iv p6, iv l2, iv c2, iv (2 : Int32), iv (0 : Int32), iv a1, iv b1, iv sc, iv a2, iv b2, rv x66_y, rv x67_y, rv b68, rv b70, iv sm, iv xp, rv x66_y] [(.ref b70), (.ref b68)])) rfl (by rw [hml]; rfl) (Steps.refl _) (argsL := [(.ref b70)]) (rest := []) (lenOf pd_10 rfl) rfl (by show 2 * 0 + _ ≤ _; exact Nat.le_of_eq rfl) (hb hby at_272) (fun _ _ => ⟨rfl, rfl, (by decide : 11 + 0 ≤ _), (by decide : 26 + 0 ≤ _)⟩)
                      dsimp only [Pt.U, Pt.locs, Pt.cells, Pt.slots] at X72 l72 y72 z72 st72 hQ72
                      subst l72 y72 z72
                      obtain ⟨rfl, Nq72, eq72⟩ := hQ72
                      have N72 := Fr.app N71 Nq72
                      refine own_stH (fun _ kk_ => st72.trans kk_) ?_
                      show own_GoesH _ _ _ _ _ _ _ _ _ T72 (mkF m 275 #[iv p1, iv p2, iv p3, iv p4, .val (.long p5), .second, iv p6, iv l2, iv c2, iv (2 : Int32), iv (0 : Int32), iv a1, iv b1, iv sc, iv a2, iv b2, rv x66_y, rv x67_y, rv b68, rv b70, iv sm, iv xp, rv x66_y] [(.int (own_b (p1 = l2 ∧ p2 = c2 ∧ (False))))])
                      refine own_stH (fun _ kk_ => XS.iload X72.here hx rfl (hb hby at_275) rfl (XS.icmpNo X72.here hx rfl (hb hby at_277) rfl (XT.ii_ne_f ((own_bc (own_and3 Iff.rfl Iff.rfl Iff.rfl)).trans hxp.symm)) (XS.aload X72.here hx rfl (hb hby at_280) rfl rfl (XS.aload X72.here hx rfl (hb hby at_282) rfl rfl kk_)))) ?_
                      show own_GoesH _ _ _ _ _ _ _ _ _ T72 (mkF m 284 #[iv p1, iv p2, iv p3, iv p4, .val (.long p5), .second, iv p6, iv l2, iv c2, iv (2 : Int32), iv (0 : Int32), iv a1, iv b1, iv sc, iv a2, iv b2, rv x66_y, rv x67_y, rv b68, rv b70, iv sm, iv xp, rv x66_y] [(.ref b68), (.ref b70)])
                      obtain ⟨cq73, kq73, q73a, q73b, q73c⟩ := isOf hZ eq72 f71_13
                      obtain ⟨_, _, ⟨T73, L73, k73, n73⟩, -, X73, ⟨Lc73, hQ73, l73, y73, z73⟩, st73⟩ := X72.virtualBack hx (y := yy14) (z := yy14) hown (mvT hZ (own_w hw 44 rfl)) (mvT hZ (own_w hw 45 rfl)) (notFace_of_selects (args := #[]) (mvT hZ (own_w hw 47 rfl))) (mvT hZ (own_w hw 47 rfl)) (mvT hZ (own_w hw 46 rfl)) (by decide) (backOf (W := 0) (rm7_0_2 l Z a0 hw [] (b70) (b68) (l2) (c2) (p1) (p2) (x67_y) (x66_y) ((own_by a1)) ((own_by b1)) (x67_d) (x66_d) (x67_kd) (x66_kd) (cs) T71.heap n0 Zs71 u71_0 u71_1 u71_2 f71_9 f71_10 f71_11 f71_12 f71_5 f71_6 f71_7 f71_1 f71_2 f71_3 f71_8 f71_4 f71_0 (by assumption) (Ne.symm ne67_x66_y)) hZ (own_w hw 48 rfl) (own_w hw 33 rfl) (by decide) (by decide)) q73a q73c (g := (mkF m 284 #[iv p1, iv p2, iv p3, iv p4, .val (.long p5), .second, iv p6, iv l2, iv c2, iv (2 : Int32), iv (0 : Int32), iv a1, iv b1, iv sc, iv a2, iv b2, rv x66_y, rv x67_y, rv b68, rv b70, iv sm, iv xp, rv x66_y] [(.ref b68), (.ref b70)])) rfl (by rw [hml]; rfl) (Steps.refl _) (argsL := [(.ref b68)]) (rest := []) (lenOf pd_10 rfl) rfl (by show 2 * 0 + _ ≤ _; exact Nat.le_of_eq rfl) (hb hby at_284) (fun _ _ => ⟨rfl, eq72, (by decide : 11 + 0 ≤ _), (by decide : 26 + 0 ≤ _)⟩)
                      dsimp only [Pt.U, Pt.locs, Pt.cells, Pt.slots] at X73 l73 y73 z73 st73 hQ73
                      subst l73 y73 z73
                      obtain ⟨rfl, Nq73, eq73⟩ := hQ73
                      have N73 := Fr.app N72 Nq73
                      refine own_stH (fun _ kk_ => st73.trans kk_) ?_
                      show own_GoesH _ _ _ _ _ _ _ _ _ T73 (mkF m 287 #[iv p1, iv p2, iv p3, iv p4, .val (.long p5), .second, iv p6, iv l2, iv c2, iv (2 : Int32), iv (0 : Int32), iv a1, iv b1, iv sc, iv a2, iv b2, rv x66_y, rv x67_y, rv b68, rv b70, iv sm, iv xp, rv x66_y] [(.int (own_b (l2 = p1 ∧ c2 = p2 ∧ (False))))])
                      refine own_stH (fun _ kk_ => XS.iload X73.here hx rfl (hb hby at_287) rfl (XS.icmpNo X73.here hx rfl (hb hby at_289) rfl (XT.ii_ne_f ((own_bc (own_and3 own_sy own_sy Iff.rfl)).trans hxp.symm)) (XS.aload X73.here hx rfl (hb hby at_292) rfl rfl (XS.aload X73.here hx rfl (hb hby at_294) rfl rfl kk_)))) ?_
                      show own_GoesH _ _ _ _ _ _ _ _ _ T73 (mkF m 296 #[iv p1, iv p2, iv p3, iv p4, .val (.long p5), .second, iv p6, iv l2, iv c2, iv (2 : Int32), iv (0 : Int32), iv a1, iv b1, iv sc, iv a2, iv b2, rv x66_y, rv x67_y, rv b68, rv b70, iv sm, iv xp, rv x66_y] [(.ref b68), (.ref b68)])
                      obtain ⟨cq74, kq74, q74a, q74b, q74c⟩ := isOf hZ eq73 f71_9
                      obtain ⟨_, _, ⟨T74, L74, k74, n74⟩, -, X74, ⟨Lc74, hQ74, l74, y74, z74⟩, st74⟩ := X73.virtualBack hx (y := yy14) (z := yy14) hown (mvT hZ (own_w hw 44 rfl)) (mvT hZ (own_w hw 45 rfl)) (notFace_of_selects (args := #[]) (mvT hZ (own_w hw 47 rfl))) (mvT hZ (own_w hw 47 rfl)) (mvT hZ (own_w hw 46 rfl)) (by decide) (backOf (W := 0) (rm7s l Z a0 hw [] (b68) (p1) (p2) (x66_y) T71.heap n0 Zs71 f71_9 f71_10 f71_11 f71_12 f71_1) hZ (own_w hw 48 rfl) (own_w hw 33 rfl) (by decide) (by decide)) q74a q74c (g := (mkF m 296 #[iv p1, iv p2, iv p3, iv p4, .val (.long p5), .second, iv p6, iv l2, iv c2, iv (2 : Int32), iv (0 : Int32), iv a1, iv b1, iv sc, iv a2, iv b2, rv x66_y, rv x67_y, rv b68, rv b70, iv sm, iv xp, rv x66_y] [(.ref b68), (.ref b68)])) rfl (by rw [hml]; rfl) (Steps.refl _) (argsL := [(.ref b68)]) (rest := []) (lenOf pd_10 rfl) rfl (by show 2 * 0 + _ ≤ _; exact Nat.le_of_eq rfl) (hb hby at_296) (fun _ _ => ⟨rfl, eq73, (by decide : 11 + 0 ≤ _), (by decide : 26 + 0 ≤ _)⟩)
                      dsimp only [Pt.U, Pt.locs, Pt.cells, Pt.slots] at X74 l74 y74 z74 st74 hQ74
                      subst l74 y74 z74
                      obtain ⟨rfl, Nq74, eq74⟩ := hQ74
                      have N74 := Fr.app N73 Nq74
                      refine own_stH (fun _ kk_ => st74.trans kk_) ?_
                      show own_GoesH _ _ _ _ _ _ _ _ _ T74 (mkF m 299 #[iv p1, iv p2, iv p3, iv p4, .val (.long p5), .second, iv p6, iv l2, iv c2, iv (2 : Int32), iv (0 : Int32), iv a1, iv b1, iv sc, iv a2, iv b2, rv x66_y, rv x67_y, rv b68, rv b70, iv sm, iv xp, rv x66_y] [(.int (1 : Int32))])
                      refine own_stH (fun _ kk_ => XS.ifNo X74.here hx rfl (hb hby at_299) rfl (XT.i0_eq_f (by decide)) (XS.aload X74.here hx rfl (hb hby at_302) rfl rfl (XS.aconstNull X74.here hx rfl (hb hby at_304) kk_))) ?_
                      show own_GoesH _ _ _ _ _ _ _ _ _ T74 (mkF m 305 #[iv p1, iv p2, iv p3, iv p4, .val (.long p5), .second, iv p6, iv l2, iv c2, iv (2 : Int32), iv (0 : Int32), iv a1, iv b1, iv sc, iv a2, iv b2, rv x66_y, rv x67_y, rv b68, rv b70, iv sm, iv xp, rv x66_y] [.null, (.ref b68)])
                      obtain ⟨cq75, kq75, q75a, q75b, q75c⟩ := isOf hZ eq74 f71_9
                      obtain ⟨_, _, ⟨T75, L75, k75, n75⟩, -, X75, ⟨Lc75, hQ75, l75, y75, z75⟩, st75⟩ := X74.virtualBack hx (y := yy14) (z := yy14) hown (mvT hZ (own_w hw 44 rfl)) (mvT hZ (own_w hw 45 rfl)) (notFace_of_selects (args := #[]) (mvT hZ (own_w hw 47 rfl))) (mvT hZ (own_w hw 47 rfl)) (mvT hZ (own_w hw 46 rfl)) (by decide) (backOf (W := 0) (rm7n l Z a0 hw [] (b68) T71.heap n0 Zs71) hZ (own_w hw 48 rfl) (own_w hw 33 rfl) (by decide) (by decide)) q75a q75c (g := (mkF m 305 #[iv p1, iv p2, iv p3, iv p4, .val (.long p5), .second, iv p6, iv l2, iv c2, iv (2 : Int32), iv (0 : Int32), iv a1, iv b1, iv sc, iv a2, iv b2, rv x66_y, rv x67_y, rv b68, rv b70, iv sm, iv xp, rv x66_y] [.null, (.ref b68)])) rfl (by rw [hml]; rfl) (Steps.refl _) (argsL := [.null]) (rest := []) (lenOf pd_10 rfl) rfl (by show 2 * 0 + _ ≤ _; exact Nat.le_of_eq rfl) (hb hby at_305) (fun _ _ => ⟨rfl, eq74, (by decide : 11 + 0 ≤ _), (by decide : 26 + 0 ≤ _)⟩)
                      dsimp only [Pt.U, Pt.locs, Pt.cells, Pt.slots] at X75 l75 y75 z75 st75 hQ75
                      subst l75 y75 z75
                      obtain ⟨rfl, Nq75, eq75⟩ := hQ75
                      have N75 := Fr.app N74 Nq75
                      refine own_stH (fun _ kk_ => st75.trans kk_) ?_
                      show own_GoesH _ _ _ _ _ _ _ _ _ T75 (mkF m 308 #[iv p1, iv p2, iv p3, iv p4, .val (.long p5), .second, iv p6, iv l2, iv c2, iv (2 : Int32), iv (0 : Int32), iv a1, iv b1, iv sc, iv a2, iv b2, rv x66_y, rv x67_y, rv b68, rv b70, iv sm, iv xp, rv x66_y] [(.int (0 : Int32))])
                      refine own_stH (fun _ kk_ => XS.ifNo X75.here hx rfl (hb hby at_308) rfl (XT.i0_ne_f (by decide)) (XS.aload X75.here hx rfl (hb hby at_311) rfl rfl (XS.aload X75.here hx rfl (hb hby at_313) rfl rfl kk_))) ?_
                      show own_GoesH _ _ _ _ _ _ _ _ _ T75 (mkF m 315 #[iv p1, iv p2, iv p3, iv p4, .val (.long p5), .second, iv p6, iv l2, iv c2, iv (2 : Int32), iv (0 : Int32), iv a1, iv b1, iv sc, iv a2, iv b2, rv x66_y, rv x67_y, rv b68, rv b70, iv sm, iv xp, rv x66_y] [(.ref x66_y), (.ref b68)])
                      obtain ⟨cq76, kq76, q76a, q76b, q76c⟩ := isOf hZ eq75 f71_9
                      obtain ⟨_, _, ⟨T76, L76, k76, n76⟩, -, X76, ⟨Lc76, hQ76, l76, y76, z76⟩, st76⟩ := X75.virtualBack hx (y := yy14) (z := yy14) hown (mvT hZ (own_w hw 44 rfl)) (mvT hZ (own_w hw 45 rfl)) (notFace_of_selects (args := #[]) (mvT hZ (own_w hw 47 rfl))) (mvT hZ (own_w hw 47 rfl)) (mvT hZ (own_w hw 46 rfl)) (by decide) (backOf (W := 0) (rm7x l Z a0 hw [] (b68) (x66_y) T71.heap n0 Zs71 f71_1) hZ (own_w hw 48 rfl) (own_w hw 33 rfl) (by decide) (by decide)) q76a q76c (g := (mkF m 315 #[iv p1, iv p2, iv p3, iv p4, .val (.long p5), .second, iv p6, iv l2, iv c2, iv (2 : Int32), iv (0 : Int32), iv a1, iv b1, iv sc, iv a2, iv b2, rv x66_y, rv x67_y, rv b68, rv b70, iv sm, iv xp, rv x66_y] [(.ref x66_y), (.ref b68)])) rfl (by rw [hml]; rfl) (Steps.refl _) (argsL := [(.ref x66_y)]) (rest := []) (lenOf pd_10 rfl) rfl (by show 2 * 0 + _ ≤ _; exact Nat.le_of_eq rfl) (hb hby at_315) (fun _ _ => ⟨rfl, eq75, (by decide : 11 + 0 ≤ _), (by decide : 26 + 0 ≤ _)⟩)
                      dsimp only [Pt.U, Pt.locs, Pt.cells, Pt.slots] at X76 l76 y76 z76 st76 hQ76
                      subst l76 y76 z76
                      obtain ⟨rfl, Nq76, eq76⟩ := hQ76
                      have N76 := Fr.app N75 Nq76
                      refine own_stH (fun _ kk_ => st76.trans kk_) ?_
                      show own_GoesH _ _ _ _ _ _ _ _ _ T76 (mkF m 318 #[iv p1, iv p2, iv p3, iv p4, .val (.long p5), .second, iv p6, iv l2, iv c2, iv (2 : Int32), iv (0 : Int32), iv a1, iv b1, iv sc, iv a2, iv b2, rv x66_y, rv x67_y, rv b68, rv b70, iv sm, iv xp, rv x66_y] [(.int (0 : Int32))])
                      refine own_stH (fun _ kk_ => XS.ifNo X76.here hx rfl (hb hby at_318) rfl (XT.i0_ne_f (by decide)) (XS.iconst X76.here hx rfl (hb hby at_321) (XS.goto X76.here hx rfl (pc0 := 322) (pc' := 326) rfl (hb hby at_322) (by decide) (by decide) kk_))) ?_
                      show own_GoesH _ _ _ _ _ _ _ _ _ T76 (mkF m 326 #[iv p1, iv p2, iv p3, iv p4, .val (.long p5), .second, iv p6, iv l2, iv c2, iv (2 : Int32), iv (0 : Int32), iv a1, iv b1, iv sc, iv a2, iv b2, rv x66_y, rv x67_y, rv b68, rv b70, iv sm, iv xp, rv x66_y] [(.int (1 : Int32))])
                      refine own_endH (v := (some (.int (nar .boolean (1 : Int32))))) X76 hlk hS67 (by rw [eq76]; exact Ks71) hZ hEL hh eq76 C71 (fun h => by rw [Bd.returns] at h; cases h) (by decide) (by decide) ?_ (fun fs hr => retN X76 hx (t := .boolean) Bd.returns (by simp) (hb hby at_326) hr)
                      show Q0 Z p1 p2 p3 p4 p5 p6 cs h0 n0 (some (.int (nar .boolean (1 : Int32)))) T76.heap _
                      rw [eq76]
                      exact ⟨rfl, N76⟩
                    rcases Classical.em (p1 = l2) with r0 | r0
                    · refine own_stH (fun _ kk_ => XS.icmpNo X71.here hx rfl (hb hby at_243) rfl (XT.ii_ne_f r0) (XS.iloadN X71.here hx rfl (hb hby at_246) rfl (XS.iload X71.here hx rfl (hb hby at_247) rfl kk_))) ?_
                      show own_GoesH _ _ _ _ _ _ _ _ _ T71 (mkF m 249 #[iv p1, iv p2, iv p3, iv p4, .val (.long p5), .second, iv p6, iv l2, iv c2, iv (2 : Int32), iv (0 : Int32), iv a1, iv b1, iv sc, iv a2, iv b2, rv x66_y, rv x67_y, rv b68, rv b70, iv sm, .unset, .unset] [(.int c2), (.int p2)])
                      rcases Classical.em (p2 = c2) with r1 | r1
                      · refine own_stH (fun _ kk_ => XS.icmpNo X71.here hx rfl (hb hby at_249) rfl (XT.ii_ne_f r1) (XS.iload X71.here hx rfl (hb hby at_252) rfl kk_)) ?_
                        show own_GoesH _ _ _ _ _ _ _ _ _ T71 (mkF m 254 #[iv p1, iv p2, iv p3, iv p4, .val (.long p5), .second, iv p6, iv l2, iv c2, iv (2 : Int32), iv (0 : Int32), iv a1, iv b1, iv sc, iv a2, iv b2, rv x66_y, rv x67_y, rv b68, rv b70, iv sm, .unset, .unset] [(.int sm)])
                        rcases Classical.em (sm = (0 : Int32)) with r2 | r2
                        · refine own_stH (fun _ kk_ => XS.ifYes X71.here hx rfl (pc0 := 254) (pc' := 261) rfl (hb hby at_254) rfl (XT.i0_eq_t r2) (by decide) (by decide) (XS.iconst X71.here hx rfl (hb hby at_261) kk_)) ?_
                          show own_GoesH _ _ _ _ _ _ _ _ _ T71 (mkF m 262 #[iv p1, iv p2, iv p3, iv p4, .val (.long p5), .second, iv p6, iv l2, iv c2, iv (2 : Int32), iv (0 : Int32), iv a1, iv b1, iv sc, iv a2, iv b2, rv x66_y, rv x67_y, rv b68, rv b70, iv sm, .unset, .unset] [(.int (0 : Int32))])
                          exact JE ((0 : Int32)) (own_b0 (fun k => by rw [hsm, own_b1 k.2.2] at r2; exact absurd r2 (by decide))).symm
                        · refine own_stH (fun _ kk_ => XS.ifNo X71.here hx rfl (hb hby at_254) rfl (XT.i0_eq_f r2) (XS.iconst X71.here hx rfl (hb hby at_257) (XS.goto X71.here hx rfl (pc0 := 258) (pc' := 262) rfl (hb hby at_258) (by decide) (by decide) kk_))) ?_
                          show own_GoesH _ _ _ _ _ _ _ _ _ T71 (mkF m 262 #[iv p1, iv p2, iv p3, iv p4, .val (.long p5), .second, iv p6, iv l2, iv c2, iv (2 : Int32), iv (0 : Int32), iv a1, iv b1, iv sc, iv a2, iv b2, rv x66_y, rv x67_y, rv b68, rv b70, iv sm, .unset, .unset] [(.int (1 : Int32))])
                          exact JE ((1 : Int32)) (own_b1 ⟨r0, r1, Classical.byContradiction fun k => r2 (hsm.trans (own_b0 k))⟩).symm
                      · refine own_stH (fun _ kk_ => XS.icmpYes X71.here hx rfl (pc0 := 249) (pc' := 261) rfl (hb hby at_249) rfl (XT.ii_ne_t r1) (by decide) (by decide) (XS.iconst X71.here hx rfl (hb hby at_261) kk_)) ?_
                        show own_GoesH _ _ _ _ _ _ _ _ _ T71 (mkF m 262 #[iv p1, iv p2, iv p3, iv p4, .val (.long p5), .second, iv p6, iv l2, iv c2, iv (2 : Int32), iv (0 : Int32), iv a1, iv b1, iv sc, iv a2, iv b2, rv x66_y, rv x67_y, rv b68, rv b70, iv sm, .unset, .unset] [(.int (0 : Int32))])
                        exact JE ((0 : Int32)) (own_b0 (fun k => r1 k.2.1)).symm
                    · refine own_stH (fun _ kk_ => XS.icmpYes X71.here hx rfl (pc0 := 243) (pc' := 261) rfl (hb hby at_243) rfl (XT.ii_ne_t r0) (by decide) (by decide) (XS.iconst X71.here hx rfl (hb hby at_261) kk_)) ?_
                      show own_GoesH _ _ _ _ _ _ _ _ _ T71 (mkF m 262 #[iv p1, iv p2, iv p3, iv p4, .val (.long p5), .second, iv p6, iv l2, iv c2, iv (2 : Int32), iv (0 : Int32), iv a1, iv b1, iv sc, iv a2, iv b2, rv x66_y, rv x67_y, rv b68, rv b70, iv sm, .unset, .unset] [(.int (0 : Int32))])
                      exact JE ((0 : Int32)) (own_b0 (fun k => r0 k.1)).symm
                  refine own_stH (fun _ kk_ => XS.iload X71.here hx rfl (hb hby at_200) rfl (XS.iload X71.here hx rfl (hb hby at_202) rfl (XS.icmpYes X71.here hx rfl (pc0 := 204) (pc' := 237) rfl (hb hby at_204) rfl (XT.ii_ne_t (by decide)) (by decide) (by decide) (XS.iconst X71.here hx rfl (hb hby at_237) kk_)))) ?_
                  show own_GoesH _ _ _ _ _ _ _ _ _ T71 (mkF m 238 #[iv p1, iv p2, iv p3, iv p4, .val (.long p5), .second, iv p6, iv l2, iv c2, iv (2 : Int32), iv (0 : Int32), iv a1, iv b1, iv sc, iv a2, iv b2, rv x66_y, rv x67_y, rv b68, rv b70, .unset, .unset, .unset] [(.int (0 : Int32))])
                  exact JM ((0 : Int32)) (own_b0 not_false).symm
                · show own_GoesH _ _ _ _ _ _ _ _ _ T66 (mkF m 167 #[iv p1, iv p2, iv p3, iv p4, .val (.long p5), .second, iv p6, iv l2, iv c2, iv (2 : Int32), iv (1 : Int32), iv a1, iv b1, iv sc, iv a2, iv b2, rv x66_y, .unset, .unset, .unset, .unset, .unset, .unset] [(.int b2), (.int a2), (.int (1 : Int32))])
                  obtain ⟨_, _, ⟨T77, L77, k77, n77⟩, -, X77, ⟨Lc77, hQ77, l77, y77, z77⟩, st77⟩ := Jvm.LawKit.callS X66 hx (y := yy10) hown (mvT hZ (own_w hw 5 rfl)) (mvT hZ (own_w hw 6 rfl)) (mvT hZ (own_w hw 7 rfl)) (mvT hZ (own_w hw 8 rfl)) (by decide) (backOf (W := 0) (rm2_1 l Z a0 hw [] (a2) (b2) (cs) T66.heap n0 Zs66 f66_0 (by assumption) hi_a2) hZ (own_w hw 8 rfl) (own_w hw 7 rfl) (by decide) (by decide)) (g := (mkF m 167 #[iv p1, iv p2, iv p3, iv p4, .val (.long p5), .second, iv p6, iv l2, iv c2, iv (2 : Int32), iv (1 : Int32), iv a1, iv b1, iv sc, iv a2, iv b2, rv x66_y, .unset, .unset, .unset, .unset, .unset, .unset] [(.int b2), (.int a2), (.int (1 : Int32))])) rfl (by rw [hml]; rfl) (argsL := [(.int (1 : Int32)), (.int a2), (.int b2)]) (rest := []) (lenOf pd_12 rfl) rfl (by show 2 * 0 + _ ≤ _; exact Nat.le_of_eq rfl) (hb hby at_167) (fun _ _ => ⟨rfl, rfl, (by decide : 3 + 2 ≤ _), (by decide : 8 + 5 ≤ _)⟩)
                  dsimp only [Pt.U, Pt.locs, Pt.cells, Pt.slots] at X77 l77 y77 z77 st77 hQ77
                  subst l77 y77 z77
                  obtain ⟨x77_y, x77_d, x77_kd, rfl, Nq77, Kq77, u77_0, u77_1, u77_2, u77_3, u77_4⟩ := hQ77
                  have N77 := Fr.app N66 Nq77
                  have f77_0 := own_Sta_keep f66_0 Kq77 ns0
                  have f77_1 := u66_1.keep Kq77
                  have f77_2 := u66_2.keep Kq77 nin0
                  have f77_3 := u66_3.keep Kq77 nin0
                  have f77_4 := u66_4.keep Kq77 nin0
                  have C77 := C66.trans (CHr.keep Kq77 sf0 C66.1)
                  have Ks77 := Nat.le_trans Ks66 Kq77.1
                  have Zs77 : n0 ≤ T77.heap.size := Nat.le_trans Zs66 Kq77.1
                  have ne77_x66_y : x66_y ≠ x77_y := Nat.ne_of_lt (Nat.lt_of_lt_of_le u66_1.lt u77_0)
                  have ne77_x66_d : x66_d ≠ x77_y := Nat.ne_of_lt (Nat.lt_of_lt_of_le u66_4.lt u77_0)
                  have gg77_y : n0 ≤ x77_y := Nat.le_trans Zs66 u77_0
                  refine own_stH st77 ?_
                  show own_GoesH _ _ _ _ _ _ _ _ _ T77 (mkF m 170 #[iv p1, iv p2, iv p3, iv p4, .val (.long p5), .second, iv p6, iv l2, iv c2, iv (2 : Int32), iv (1 : Int32), iv a1, iv b1, iv sc, iv a2, iv b2, rv x66_y, .unset, .unset, .unset, .unset, .unset, .unset] [(.ref x77_y)])
                  refine own_stH (fun _ kk_ => XS.astore X77.here hx rfl (hb hby at_170) rfl rfl (l' := #[iv p1, iv p2, iv p3, iv p4, .val (.long p5), .second, iv p6, iv l2, iv c2, iv (2 : Int32), iv (1 : Int32), iv a1, iv b1, iv sc, iv a2, iv b2, rv x66_y, rv x77_y, .unset, .unset, .unset, .unset, .unset]) rfl kk_) ?_
                  show own_GoesH _ _ _ _ _ _ _ _ _ T77 (mkF m 172 #[iv p1, iv p2, iv p3, iv p4, .val (.long p5), .second, iv p6, iv l2, iv c2, iv (2 : Int32), iv (1 : Int32), iv a1, iv b1, iv sc, iv a2, iv b2, rv x66_y, rv x77_y, .unset, .unset, .unset, .unset, .unset] [])
                  obtain ⟨T78, h78, X78, e78, E78, A78, D78, -, st78⟩ := newO X77 hx hZ hown (own_w hw 31 rfl) (own_w hw 32 rfl) (own_w hw 33 rfl) rfl (g := (mkF m 172 #[iv p1, iv p2, iv p3, iv p4, .val (.long p5), .second, iv p6, iv l2, iv c2, iv (2 : Int32), iv (1 : Int32), iv a1, iv b1, iv sc, iv a2, iv b2, rv x66_y, rv x77_y, .unset, .unset, .unset, .unset, .unset] [])) rfl (hb hby at_172) (by decide) (by decide)
                  obtain ⟨b78, gx78⟩ : ∃ z, z = T77.heap.size := ⟨_, rfl⟩
                  rw [← gx78] at A78 D78 st78
                  have ne78_x66_y : x66_y ≠ b78 := Nat.ne_of_lt (Nat.lt_of_lt_of_eq f77_1.lt gx78.symm)
                  have ne78_x66_d : x66_d ≠ b78 := Nat.ne_of_lt (Nat.lt_of_lt_of_eq f77_4.lt gx78.symm)
                  have ne78_x77_y : x77_y ≠ b78 := Nat.ne_of_lt (Nat.lt_of_lt_of_eq u77_1.lt gx78.symm)
                  have ne78_x77_d : x77_d ≠ b78 := Nat.ne_of_lt (Nat.lt_of_lt_of_eq u77_4.lt gx78.symm)
                  have gg78 : n0 ≤ b78 := Nat.le_trans Zs77 (Nat.le_of_eq gx78.symm)
                  have f78_0 := f77_0.ext E78
                  have f78_1 := f77_1.ext E78
                  have f78_2 := f77_2.ext E78
                  have f78_3 := f77_3.ext E78
                  have f78_4 := f77_4.ext E78
                  have f78_5 := u77_1.ext E78
                  have f78_6 := u77_2.ext E78
                  have f78_7 := u77_3.ext E78
                  have f78_8 := u77_4.ext E78
                  have C78 := C77.trans (CHr.ext E78 C77.1)
                  have Zs78 : n0 ≤ h78.size := Nat.le_trans Zs77 E78.1
                  have Ks78 := Nat.le_trans Ks77 E78.1
                  have fn78_line : Fld Z h78 b78 "com/example/majra/majra/lang/Command$Refusal" "line" "I" (.int (0 : Int32)) := D78 (Or.inr (own_w hw 39 rfl)) (ty := .int) (by decide)
                  have fn78_column : Fld Z h78 b78 "com/example/majra/majra/lang/Command$Refusal" "column" "I" (.int (0 : Int32)) := D78 (Or.inr (own_w hw 41 rfl)) (ty := .int) (by decide)
                  have fn78_message : Fld Z h78 b78 "com/example/majra/majra/lang/Command$Refusal" "message" "Ljava/lang/String;" .null := D78 (Or.inr (own_w hw 43 rfl)) (ty := (.object "java/lang/String")) (by decide)
                  refine own_stH st78 ?_
                  show own_GoesH _ _ _ _ _ _ _ _ _ T78 (mkF m 175 #[iv p1, iv p2, iv p3, iv p4, .val (.long p5), .second, iv p6, iv l2, iv c2, iv (2 : Int32), iv (1 : Int32), iv a1, iv b1, iv sc, iv a2, iv b2, rv x66_y, rv x77_y, .unset, .unset, .unset, .unset, .unset] [(.ref b78)])
                  refine own_stH (fun _ kk_ => XS.dup X78.here hx rfl (hb hby at_175) rfl rfl (XS.iloadN X78.here hx rfl (hb hby at_176) rfl (XS.iloadN X78.here hx rfl (hb hby at_177) rfl (XS.aload X78.here hx rfl (hb hby at_178) rfl rfl kk_)))) ?_
                  show own_GoesH _ _ _ _ _ _ _ _ _ T78 (mkF m 180 #[iv p1, iv p2, iv p3, iv p4, .val (.long p5), .second, iv p6, iv l2, iv c2, iv (2 : Int32), iv (1 : Int32), iv a1, iv b1, iv sc, iv a2, iv b2, rv x66_y, rv x77_y, .unset, .unset, .unset, .unset, .unset] [(.ref x66_y), (.int p2), (.int p1), (.ref b78), (.ref b78)])
                  obtain ⟨_, _, ⟨T79, L79, k79, n79⟩, -, X79, ⟨Lc79, hQ79, l79, y79, z79⟩, st79⟩ := X78.specialBack hx (y := yy11) rfl hown (mvT hZ (own_w hw 34 rfl)) (mvT hZ (own_w hw 35 rfl)) (mvT hZ (own_w hw 36 rfl)) (by decide) (backOf (W := 1) (rm6 l Z a0 hw [] (b78) (p1) (p2) (x66_y) h78 n0 Zs78 A78 fn78_line fn78_column fn78_message gg78) hZ (own_w hw 36 rfl) (own_w hw 33 rfl) (by decide) (by decide)) (g := (mkF m 180 #[iv p1, iv p2, iv p3, iv p4, .val (.long p5), .second, iv p6, iv l2, iv c2, iv (2 : Int32), iv (1 : Int32), iv a1, iv b1, iv sc, iv a2, iv b2, rv x66_y, rv x77_y, .unset, .unset, .unset, .unset, .unset] [(.ref x66_y), (.int p2), (.int p1), (.ref b78), (.ref b78)])) rfl (by rw [hml]; rfl) (Steps.refl _) (a := b78) (argsL := [(.int p1), (.int p2), (.ref x66_y)]) (rest := [(.ref b78)]) (lenOf pd_13 rfl) rfl (by show 2 * 0 + _ ≤ _; exact Nat.le_of_eq rfl) (hb hby at_180) (fun _ _ => ⟨rfl, e78, (by decide : 6 + 0 ≤ _), (by decide : 16 + 0 ≤ _)⟩)
                  dsimp only [Pt.U, Pt.locs, Pt.cells, Pt.slots] at X79 l79 y79 z79 st79 hQ79
                  subst l79 y79 z79
                  obtain ⟨rfl, Nq79, Kq79, u79_0, u79_1, u79_2⟩ := hQ79
                  have N79 := Fr.app N77 Nq79
                  have f79_0 := own_Sta_keep f78_0 Kq79 (nsS A78.nostat ns0)
                  have f79_1 := f78_1.keep Kq79
                  have f79_2 := f78_2.keep Kq79 (ninS ne78_x66_y nin0)
                  have f79_3 := f78_3.keep Kq79 (ninS ne78_x66_y nin0)
                  have f79_4 := f78_4.keep Kq79 (ninS ne78_x66_d nin0)
                  have f79_5 := f78_5.keep Kq79
                  have f79_6 := f78_6.keep Kq79 (ninS ne78_x77_y nin0)
                  have f79_7 := f78_7.keep Kq79 (ninS ne78_x77_y nin0)
                  have f79_8 := f78_8.keep Kq79 (ninS ne78_x77_d nin0)
                  have f79_9 := A78.keep Kq79
                  have C79 := C78.trans (CHr.keep Kq79 (sfS (Safe.exa hZ.alike A78 (by decide) (by decide)) sf0) C78.1)
                  have Ks79 := Nat.le_trans Ks78 Kq79.1
                  have Zs79 : n0 ≤ T79.heap.size := Nat.le_trans Zs78 Kq79.1
                  refine own_stH (fun _ kk_ => st79.trans kk_) ?_
                  show own_GoesH _ _ _ _ _ _ _ _ _ T79 (mkF m 183 #[iv p1, iv p2, iv p3, iv p4, .val (.long p5), .second, iv p6, iv l2, iv c2, iv (2 : Int32), iv (1 : Int32), iv a1, iv b1, iv sc, iv a2, iv b2, rv x66_y, rv x77_y, .unset, .unset, .unset, .unset, .unset] [(.ref b78)])
                  refine own_stH (fun _ kk_ => XS.astore X79.here hx rfl (hb hby at_183) rfl rfl (l' := #[iv p1, iv p2, iv p3, iv p4, .val (.long p5), .second, iv p6, iv l2, iv c2, iv (2 : Int32), iv (1 : Int32), iv a1, iv b1, iv sc, iv a2, iv b2, rv x66_y, rv x77_y, rv b78, .unset, .unset, .unset, .unset]) rfl kk_) ?_
                  show own_GoesH _ _ _ _ _ _ _ _ _ T79 (mkF m 185 #[iv p1, iv p2, iv p3, iv p4, .val (.long p5), .second, iv p6, iv l2, iv c2, iv (2 : Int32), iv (1 : Int32), iv a1, iv b1, iv sc, iv a2, iv b2, rv x66_y, rv x77_y, rv b78, .unset, .unset, .unset, .unset] [])
                  obtain ⟨T80, h80, X80, e80, E80, A80, D80, -, st80⟩ := newO X79 hx hZ hown (own_w hw 31 rfl) (own_w hw 32 rfl) (own_w hw 33 rfl) rfl (g := (mkF m 185 #[iv p1, iv p2, iv p3, iv p4, .val (.long p5), .second, iv p6, iv l2, iv c2, iv (2 : Int32), iv (1 : Int32), iv a1, iv b1, iv sc, iv a2, iv b2, rv x66_y, rv x77_y, rv b78, .unset, .unset, .unset, .unset] [])) rfl (hb hby at_185) (by decide) (by decide)
                  obtain ⟨b80, gx80⟩ : ∃ z, z = T79.heap.size := ⟨_, rfl⟩
                  rw [← gx80] at A80 D80 st80
                  have ne80_x66_y : x66_y ≠ b80 := Nat.ne_of_lt (Nat.lt_of_lt_of_eq f79_1.lt gx80.symm)
                  have ne80_x66_d : x66_d ≠ b80 := Nat.ne_of_lt (Nat.lt_of_lt_of_eq f79_4.lt gx80.symm)
                  have ne80_x77_y : x77_y ≠ b80 := Nat.ne_of_lt (Nat.lt_of_lt_of_eq f79_5.lt gx80.symm)
                  have ne80_x77_d : x77_d ≠ b80 := Nat.ne_of_lt (Nat.lt_of_lt_of_eq f79_8.lt gx80.symm)
                  have ne80_b78 : b78 ≠ b80 := Nat.ne_of_lt (Nat.lt_of_lt_of_eq f79_9.lt gx80.symm)
                  have gg80 : n0 ≤ b80 := Nat.le_trans Zs79 (Nat.le_of_eq gx80.symm)
                  have f80_0 := f79_0.ext E80
                  have f80_1 := f79_1.ext E80
                  have f80_2 := f79_2.ext E80
                  have f80_3 := f79_3.ext E80
                  have f80_4 := f79_4.ext E80
                  have f80_5 := f79_5.ext E80
                  have f80_6 := f79_6.ext E80
                  have f80_7 := f79_7.ext E80
                  have f80_8 := f79_8.ext E80
                  have f80_9 := f79_9.ext E80
                  have f80_10 := u79_0.ext E80
                  have f80_11 := u79_1.ext E80
                  have f80_12 := u79_2.ext E80
                  have C80 := C79.trans (CHr.ext E80 C79.1)
                  have Zs80 : n0 ≤ h80.size := Nat.le_trans Zs79 E80.1
                  have Ks80 := Nat.le_trans Ks79 E80.1
                  have fn80_line : Fld Z h80 b80 "com/example/majra/majra/lang/Command$Refusal" "line" "I" (.int (0 : Int32)) := D80 (Or.inr (own_w hw 39 rfl)) (ty := .int) (by decide)
                  have fn80_column : Fld Z h80 b80 "com/example/majra/majra/lang/Command$Refusal" "column" "I" (.int (0 : Int32)) := D80 (Or.inr (own_w hw 41 rfl)) (ty := .int) (by decide)
                  have fn80_message : Fld Z h80 b80 "com/example/majra/majra/lang/Command$Refusal" "message" "Ljava/lang/String;" .null := D80 (Or.inr (own_w hw 43 rfl)) (ty := (.object "java/lang/String")) (by decide)
                  refine own_stH st80 ?_
                  show own_GoesH _ _ _ _ _ _ _ _ _ T80 (mkF m 188 #[iv p1, iv p2, iv p3, iv p4, .val (.long p5), .second, iv p6, iv l2, iv c2, iv (2 : Int32), iv (1 : Int32), iv a1, iv b1, iv sc, iv a2, iv b2, rv x66_y, rv x77_y, rv b78, .unset, .unset, .unset, .unset] [(.ref b80)])
                  refine own_stH (fun _ kk_ => XS.dup X80.here hx rfl (hb hby at_188) rfl rfl (XS.iload X80.here hx rfl (hb hby at_189) rfl (XS.iload X80.here hx rfl (hb hby at_191) rfl (XS.aload X80.here hx rfl (hb hby at_193) rfl rfl kk_)))) ?_
                  show own_GoesH _ _ _ _ _ _ _ _ _ T80 (mkF m 195 #[iv p1, iv p2, iv p3, iv p4, .val (.long p5), .second, iv p6, iv l2, iv c2, iv (2 : Int32), iv (1 : Int32), iv a1, iv b1, iv sc, iv a2, iv b2, rv x66_y, rv x77_y, rv b78, .unset, .unset, .unset, .unset] [(.ref x77_y), (.int c2), (.int l2), (.ref b80), (.ref b80)])
                  obtain ⟨_, _, ⟨T81, L81, k81, n81⟩, -, X81, ⟨Lc81, hQ81, l81, y81, z81⟩, st81⟩ := X80.specialBack hx (y := yy11) rfl hown (mvT hZ (own_w hw 34 rfl)) (mvT hZ (own_w hw 35 rfl)) (mvT hZ (own_w hw 36 rfl)) (by decide) (backOf (W := 1) (rm6 l Z a0 hw [] (b80) (l2) (c2) (x77_y) h80 n0 Zs80 A80 fn80_line fn80_column fn80_message gg80) hZ (own_w hw 36 rfl) (own_w hw 33 rfl) (by decide) (by decide)) (g := (mkF m 195 #[iv p1, iv p2, iv p3, iv p4, .val (.long p5), .second, iv p6, iv l2, iv c2, iv (2 : Int32), iv (1 : Int32), iv a1, iv b1, iv sc, iv a2, iv b2, rv x66_y, rv x77_y, rv b78, .unset, .unset, .unset, .unset] [(.ref x77_y), (.int c2), (.int l2), (.ref b80), (.ref b80)])) rfl (by rw [hml]; rfl) (Steps.refl _) (a := b80) (argsL := [(.int l2), (.int c2), (.ref x77_y)]) (rest := [(.ref b80)]) (lenOf pd_13 rfl) rfl (by show 2 * 0 + _ ≤ _; exact Nat.le_of_eq rfl) (hb hby at_195) (fun _ _ => ⟨rfl, e80, (by decide : 7 + 0 ≤ _), (by decide : 19 + 0 ≤ _)⟩)
                  dsimp only [Pt.U, Pt.locs, Pt.cells, Pt.slots] at X81 l81 y81 z81 st81 hQ81
                  subst l81 y81 z81
                  obtain ⟨rfl, Nq81, Kq81, u81_0, u81_1, u81_2⟩ := hQ81
                  have N81 := Fr.app N79 Nq81
                  have f81_0 := own_Sta_keep f80_0 Kq81 (nsS A80.nostat ns0)
                  have f81_1 := f80_1.keep Kq81
                  have f81_2 := f80_2.keep Kq81 (ninS ne80_x66_y nin0)
                  have f81_3 := f80_3.keep Kq81 (ninS ne80_x66_y nin0)
                  have f81_4 := f80_4.keep Kq81 (ninS ne80_x66_d nin0)
                  have f81_5 := f80_5.keep Kq81
                  have f81_6 := f80_6.keep Kq81 (ninS ne80_x77_y nin0)
                  have f81_7 := f80_7.keep Kq81 (ninS ne80_x77_y nin0)
                  have f81_8 := f80_8.keep Kq81 (ninS ne80_x77_d nin0)
                  have f81_9 := f80_9.keep Kq81
                  have f81_10 := f80_10.keep Kq81 (ninS ne80_b78 nin0)
                  have f81_11 := f80_11.keep Kq81 (ninS ne80_b78 nin0)
                  have f81_12 := f80_12.keep Kq81 (ninS ne80_b78 nin0)
                  have f81_13 := A80.keep Kq81
                  have C81 := C80.trans (CHr.keep Kq81 (sfS (Safe.exa hZ.alike A80 (by decide) (by decide)) sf0) C80.1)
                  have Ks81 := Nat.le_trans Ks80 Kq81.1
                  have Zs81 : n0 ≤ T81.heap.size := Nat.le_trans Zs80 Kq81.1
                  refine own_stH (fun _ kk_ => st81.trans kk_) ?_
                  show own_GoesH _ _ _ _ _ _ _ _ _ T81 (mkF m 198 #[iv p1, iv p2, iv p3, iv p4, .val (.long p5), .second, iv p6, iv l2, iv c2, iv (2 : Int32), iv (1 : Int32), iv a1, iv b1, iv sc, iv a2, iv b2, rv x66_y, rv x77_y, rv b78, .unset, .unset, .unset, .unset] [(.ref b80)])
                  refine own_stH (fun _ kk_ => XS.astore X81.here hx rfl (hb hby at_198) rfl rfl (l' := #[iv p1, iv p2, iv p3, iv p4, .val (.long p5), .second, iv p6, iv l2, iv c2, iv (2 : Int32), iv (1 : Int32), iv a1, iv b1, iv sc, iv a2, iv b2, rv x66_y, rv x77_y, rv b78, rv b80, .unset, .unset, .unset]) rfl kk_) ?_
                  show own_GoesH _ _ _ _ _ _ _ _ _ T81 (mkF m 200 #[iv p1, iv p2, iv p3, iv p4, .val (.long p5), .second, iv p6, iv l2, iv c2, iv (2 : Int32), iv (1 : Int32), iv a1, iv b1, iv sc, iv a2, iv b2, rv x66_y, rv x77_y, rv b78, rv b80, .unset, .unset, .unset] [])
                  have JM : ∀ (sm : Int32), (sm = own_b (False)) → own_GoesH p e below s Z consts_1 (Q0 Z p1 p2 p3 p4 p5 p6 cs h0 n0) 32 1152 T81 (mkF m 238 #[iv p1, iv p2, iv p3, iv p4, .val (.long p5), .second, iv p6, iv l2, iv c2, iv (2 : Int32), iv (1 : Int32), iv a1, iv b1, iv sc, iv a2, iv b2, rv x66_y, rv x77_y, rv b78, rv b80, .unset, .unset, .unset] [(.int sm)]) := by
                    intro sm hsm
                    show own_GoesH _ _ _ _ _ _ _ _ _ T81 (mkF m 238 #[iv p1, iv p2, iv p3, iv p4, .val (.long p5), .second, iv p6, iv l2, iv c2, iv (2 : Int32), iv (1 : Int32), iv a1, iv b1, iv sc, iv a2, iv b2, rv x66_y, rv x77_y, rv b78, rv b80, .unset, .unset, .unset] [(.int sm)])
                    refine own_stH (fun _ kk_ => XS.istore X81.here hx rfl (hb hby at_238) rfl (l' := #[iv p1, iv p2, iv p3, iv p4, .val (.long p5), .second, iv p6, iv l2, iv c2, iv (2 : Int32), iv (1 : Int32), iv a1, iv b1, iv sc, iv a2, iv b2, rv x66_y, rv x77_y, rv b78, rv b80, iv sm, .unset, .unset]) rfl (XS.iloadN X81.here hx rfl (hb hby at_240) rfl (XS.iload X81.here hx rfl (hb hby at_241) rfl kk_))) ?_
                    show own_GoesH _ _ _ _ _ _ _ _ _ T81 (mkF m 243 #[iv p1, iv p2, iv p3, iv p4, .val (.long p5), .second, iv p6, iv l2, iv c2, iv (2 : Int32), iv (1 : Int32), iv a1, iv b1, iv sc, iv a2, iv b2, rv x66_y, rv x77_y, rv b78, rv b80, iv sm, .unset, .unset] [(.int l2), (.int p1)])
                    have JE : ∀ (xp : Int32), (xp = own_b (p1 = l2 ∧ p2 = c2 ∧ (False))) → own_GoesH p e below s Z consts_1 (Q0 Z p1 p2 p3 p4 p5 p6 cs h0 n0) 32 1152 T81 (mkF m 262 #[iv p1, iv p2, iv p3, iv p4, .val (.long p5), .second, iv p6, iv l2, iv c2, iv (2 : Int32), iv (1 : Int32), iv a1, iv b1, iv sc, iv a2, iv b2, rv x66_y, rv x77_y, rv b78, rv b80, iv sm, .unset, .unset] [(.int xp)]) := by
                      intro xp hxp
                      show own_GoesH _ _ _ _ _ _ _ _ _ T81 (mkF m 262 #[iv p1, iv p2, iv p3, iv p4, .val (.long p5), .second, iv p6, iv l2, iv c2, iv (2 : Int32), iv (1 : Int32), iv a1, iv b1, iv sc, iv a2, iv b2, rv x66_y, rv x77_y, rv b78, rv b80, iv sm, .unset, .unset] [(.int xp)])
                      refine own_stH (fun _ kk_ => XS.istore X81.here hx rfl (hb hby at_262) rfl (l' := #[iv p1, iv p2, iv p3, iv p4, .val (.long p5), .second, iv p6, iv l2, iv c2, iv (2 : Int32), iv (1 : Int32), iv a1, iv b1, iv sc, iv a2, iv b2, rv x66_y, rv x77_y, rv b78, rv b80, iv sm, iv xp, .unset]) rfl (XS.aload X81.here hx rfl (hb hby at_264) rfl rfl (XS.astore X81.here hx rfl (hb hby at_266) rfl rfl (l' := #[iv p1, iv p2, iv p3, iv p4, .val (.long p5), .second, iv p6, iv l2, iv c2, iv (2 : Int32), iv (1 : Int32), iv a1, iv b1, iv sc, iv a2, iv b2, rv x66_y, rv x77_y, rv b78, rv b80, iv sm, iv xp, rv x66_y]) rfl (XS.aload X81.here hx rfl (hb hby at_268) rfl rfl (XS.aload X81.here hx rfl (hb hby at_270) rfl rfl kk_))))) ?_
                      show own_GoesH _ _ _ _ _ _ _ _ _ T81 (mkF m 272 #[iv p1, iv p2, iv p3, iv p4, .val (.long p5), .second, iv p6, iv l2, iv c2, iv (2 : Int32), iv (1 : Int32), iv a1, iv b1, iv sc, iv a2, iv b2, rv x66_y, rv x77_y, rv b78, rv b80, iv sm, iv xp, rv x66_y] [(.ref b80), (.ref b78)])
                      obtain ⟨cq82, kq82, q82a, q82b, q82c⟩ := isOf hZ rfl f81_9
                      obtain ⟨_, _, ⟨T82, L82, k82, n82⟩, -, X82, ⟨Lc82, hQ82, l82, y82, z82⟩, st82⟩ := X81.virtualBack hx (y := yy14) (z := yy14) hown (mvT hZ (own_w hw 44 rfl)) (mvT hZ (own_w hw 45 rfl)) (notFace_of_selects (args := #[]) (mvT hZ (own_w hw 47 rfl))) (mvT hZ (own_w hw 47 rfl)) (mvT hZ (own_w hw 46 rfl)) (by decide) (backOf (W := 0) (rm7_2_1 l Z a0 hw [] (b78) (b80) (p1) (p2) (l2) (c2) (x66_y) (x77_y) ((own_by a1)) ((own_by b1)) ((own_by a2)) (x66_d) (x77_d) (x66_kd) (x77_kd) (cs) T81.heap n0 Zs81 f81_10 f81_11 f81_12 f81_13 u81_0 u81_1 u81_2 f81_1 f81_2 f81_3 f81_5 f81_6 f81_7 f81_4 f81_8 f81_0 (by assumption) ne77_x66_y) hZ (own_w hw 48 rfl) (own_w hw 33 rfl) (by decide) (by decide)) q82a q82c (g := (mkF m 272 #[iv p1, iv p2, iv p3, iv p4, .val (.long p5), .second, iv p6, iv l2, iv c2, iv (2 : Int32), iv (1 : Int32), iv a1, iv b1, iv sc, iv a2, iv b2, rv x66_y, rv x77_y, rv b78, rv b80, iv sm, iv xp, rv x66_y] [(.ref b80), (.ref b78)])) rfl (by rw [hml]; rfl) (Steps.refl _) (argsL := [(.ref b80)]) (rest := []) (lenOf pd_10 rfl) rfl (by show 2 * 0 + _ ≤ _; exact Nat.le_of_eq rfl) (hb hby at_272) (fun _ _ => ⟨rfl, rfl, (by decide : 7 + 0 ≤ _), (by decide : 19 + 0 ≤ _)⟩)
                      dsimp only [Pt.U, Pt.locs, Pt.cells, Pt.slots] at X82 l82 y82 z82 st82 hQ82
                      subst l82 y82 z82
                      obtain ⟨rfl, Nq82, eq82⟩ := hQ82
                      have N82 := Fr.app N81 Nq82
                      refine own_stH (fun _ kk_ => st82.trans kk_) ?_
                      show own_GoesH _ _ _ _ _ _ _ _ _ T82 (mkF m 275 #[iv p1, iv p2, iv p3, iv p4, .val (.long p5), .second, iv p6, iv l2, iv c2, iv (2 : Int32), iv (1 : Int32), iv a1, iv b1, iv sc, iv a2, iv b2, rv x66_y, rv x77_y, rv b78, rv b80, iv sm, iv xp, rv x66_y] [(.int (own_b (p1 = l2 ∧ p2 = c2 ∧ (False))))])
                      refine own_stH (fun _ kk_ => XS.iload X82.here hx rfl (hb hby at_275) rfl (XS.icmpNo X82.here hx rfl (hb hby at_277) rfl (XT.ii_ne_f ((own_bc (own_and3 Iff.rfl Iff.rfl Iff.rfl)).trans hxp.symm)) (XS.aload X82.here hx rfl (hb hby at_280) rfl rfl (XS.aload X82.here hx rfl (hb hby at_282) rfl rfl kk_)))) ?_
                      show own_GoesH _ _ _ _ _ _ _ _ _ T82 (mkF m 284 #[iv p1, iv p2, iv p3, iv p4, .val (.long p5), .second, iv p6, iv l2, iv c2, iv (2 : Int32), iv (1 : Int32), iv a1, iv b1, iv sc, iv a2, iv b2, rv x66_y, rv x77_y, rv b78, rv b80, iv sm, iv xp, rv x66_y] [(.ref b78), (.ref b80)])
                      obtain ⟨cq83, kq83, q83a, q83b, q83c⟩ := isOf hZ eq82 f81_13
                      obtain ⟨_, _, ⟨T83, L83, k83, n83⟩, -, X83, ⟨Lc83, hQ83, l83, y83, z83⟩, st83⟩ := X82.virtualBack hx (y := yy14) (z := yy14) hown (mvT hZ (own_w hw 44 rfl)) (mvT hZ (own_w hw 45 rfl)) (notFace_of_selects (args := #[]) (mvT hZ (own_w hw 47 rfl))) (mvT hZ (own_w hw 47 rfl)) (mvT hZ (own_w hw 46 rfl)) (by decide) (backOf (W := 0) (rm7_1_2 l Z a0 hw [] (b80) (b78) (l2) (c2) (p1) (p2) (x77_y) (x66_y) ((own_by a2)) ((own_by a1)) ((own_by b1)) (x77_d) (x66_d) (x77_kd) (x66_kd) (cs) T81.heap n0 Zs81 u81_0 u81_1 u81_2 f81_9 f81_10 f81_11 f81_12 f81_5 f81_6 f81_7 f81_1 f81_2 f81_3 f81_8 f81_4 f81_0 (by assumption) (Ne.symm ne77_x66_y)) hZ (own_w hw 48 rfl) (own_w hw 33 rfl) (by decide) (by decide)) q83a q83c (g := (mkF m 284 #[iv p1, iv p2, iv p3, iv p4, .val (.long p5), .second, iv p6, iv l2, iv c2, iv (2 : Int32), iv (1 : Int32), iv a1, iv b1, iv sc, iv a2, iv b2, rv x66_y, rv x77_y, rv b78, rv b80, iv sm, iv xp, rv x66_y] [(.ref b78), (.ref b80)])) rfl (by rw [hml]; rfl) (Steps.refl _) (argsL := [(.ref b78)]) (rest := []) (lenOf pd_10 rfl) rfl (by show 2 * 0 + _ ≤ _; exact Nat.le_of_eq rfl) (hb hby at_284) (fun _ _ => ⟨rfl, eq82, (by decide : 7 + 0 ≤ _), (by decide : 19 + 0 ≤ _)⟩)
                      dsimp only [Pt.U, Pt.locs, Pt.cells, Pt.slots] at X83 l83 y83 z83 st83 hQ83
                      subst l83 y83 z83
                      obtain ⟨rfl, Nq83, eq83⟩ := hQ83
                      have N83 := Fr.app N82 Nq83
                      refine own_stH (fun _ kk_ => st83.trans kk_) ?_
                      show own_GoesH _ _ _ _ _ _ _ _ _ T83 (mkF m 287 #[iv p1, iv p2, iv p3, iv p4, .val (.long p5), .second, iv p6, iv l2, iv c2, iv (2 : Int32), iv (1 : Int32), iv a1, iv b1, iv sc, iv a2, iv b2, rv x66_y, rv x77_y, rv b78, rv b80, iv sm, iv xp, rv x66_y] [(.int (own_b (l2 = p1 ∧ c2 = p2 ∧ (False))))])
                      refine own_stH (fun _ kk_ => XS.iload X83.here hx rfl (hb hby at_287) rfl (XS.icmpNo X83.here hx rfl (hb hby at_289) rfl (XT.ii_ne_f ((own_bc (own_and3 own_sy own_sy Iff.rfl)).trans hxp.symm)) (XS.aload X83.here hx rfl (hb hby at_292) rfl rfl (XS.aload X83.here hx rfl (hb hby at_294) rfl rfl kk_)))) ?_
                      show own_GoesH _ _ _ _ _ _ _ _ _ T83 (mkF m 296 #[iv p1, iv p2, iv p3, iv p4, .val (.long p5), .second, iv p6, iv l2, iv c2, iv (2 : Int32), iv (1 : Int32), iv a1, iv b1, iv sc, iv a2, iv b2, rv x66_y, rv x77_y, rv b78, rv b80, iv sm, iv xp, rv x66_y] [(.ref b78), (.ref b78)])
                      obtain ⟨cq84, kq84, q84a, q84b, q84c⟩ := isOf hZ eq83 f81_9
                      obtain ⟨_, _, ⟨T84, L84, k84, n84⟩, -, X84, ⟨Lc84, hQ84, l84, y84, z84⟩, st84⟩ := X83.virtualBack hx (y := yy14) (z := yy14) hown (mvT hZ (own_w hw 44 rfl)) (mvT hZ (own_w hw 45 rfl)) (notFace_of_selects (args := #[]) (mvT hZ (own_w hw 47 rfl))) (mvT hZ (own_w hw 47 rfl)) (mvT hZ (own_w hw 46 rfl)) (by decide) (backOf (W := 0) (rm7s l Z a0 hw [] (b78) (p1) (p2) (x66_y) T81.heap n0 Zs81 f81_9 f81_10 f81_11 f81_12 f81_1) hZ (own_w hw 48 rfl) (own_w hw 33 rfl) (by decide) (by decide)) q84a q84c (g := (mkF m 296 #[iv p1, iv p2, iv p3, iv p4, .val (.long p5), .second, iv p6, iv l2, iv c2, iv (2 : Int32), iv (1 : Int32), iv a1, iv b1, iv sc, iv a2, iv b2, rv x66_y, rv x77_y, rv b78, rv b80, iv sm, iv xp, rv x66_y] [(.ref b78), (.ref b78)])) rfl (by rw [hml]; rfl) (Steps.refl _) (argsL := [(.ref b78)]) (rest := []) (lenOf pd_10 rfl) rfl (by show 2 * 0 + _ ≤ _; exact Nat.le_of_eq rfl) (hb hby at_296) (fun _ _ => ⟨rfl, eq83, (by decide : 7 + 0 ≤ _), (by decide : 19 + 0 ≤ _)⟩)
                      dsimp only [Pt.U, Pt.locs, Pt.cells, Pt.slots] at X84 l84 y84 z84 st84 hQ84
                      subst l84 y84 z84
                      obtain ⟨rfl, Nq84, eq84⟩ := hQ84
                      have N84 := Fr.app N83 Nq84
                      refine own_stH (fun _ kk_ => st84.trans kk_) ?_
                      show own_GoesH _ _ _ _ _ _ _ _ _ T84 (mkF m 299 #[iv p1, iv p2, iv p3, iv p4, .val (.long p5), .second, iv p6, iv l2, iv c2, iv (2 : Int32), iv (1 : Int32), iv a1, iv b1, iv sc, iv a2, iv b2, rv x66_y, rv x77_y, rv b78, rv b80, iv sm, iv xp, rv x66_y] [(.int (1 : Int32))])
                      refine own_stH (fun _ kk_ => XS.ifNo X84.here hx rfl (hb hby at_299) rfl (XT.i0_eq_f (by decide)) (XS.aload X84.here hx rfl (hb hby at_302) rfl rfl (XS.aconstNull X84.here hx rfl (hb hby at_304) kk_))) ?_
                      show own_GoesH _ _ _ _ _ _ _ _ _ T84 (mkF m 305 #[iv p1, iv p2, iv p3, iv p4, .val (.long p5), .second, iv p6, iv l2, iv c2, iv (2 : Int32), iv (1 : Int32), iv a1, iv b1, iv sc, iv a2, iv b2, rv x66_y, rv x77_y, rv b78, rv b80, iv sm, iv xp, rv x66_y] [.null, (.ref b78)])
                      obtain ⟨cq85, kq85, q85a, q85b, q85c⟩ := isOf hZ eq84 f81_9
                      obtain ⟨_, _, ⟨T85, L85, k85, n85⟩, -, X85, ⟨Lc85, hQ85, l85, y85, z85⟩, st85⟩ := X84.virtualBack hx (y := yy14) (z := yy14) hown (mvT hZ (own_w hw 44 rfl)) (mvT hZ (own_w hw 45 rfl)) (notFace_of_selects (args := #[]) (mvT hZ (own_w hw 47 rfl))) (mvT hZ (own_w hw 47 rfl)) (mvT hZ (own_w hw 46 rfl)) (by decide) (backOf (W := 0) (rm7n l Z a0 hw [] (b78) T81.heap n0 Zs81) hZ (own_w hw 48 rfl) (own_w hw 33 rfl) (by decide) (by decide)) q85a q85c (g := (mkF m 305 #[iv p1, iv p2, iv p3, iv p4, .val (.long p5), .second, iv p6, iv l2, iv c2, iv (2 : Int32), iv (1 : Int32), iv a1, iv b1, iv sc, iv a2, iv b2, rv x66_y, rv x77_y, rv b78, rv b80, iv sm, iv xp, rv x66_y] [.null, (.ref b78)])) rfl (by rw [hml]; rfl) (Steps.refl _) (argsL := [.null]) (rest := []) (lenOf pd_10 rfl) rfl (by show 2 * 0 + _ ≤ _; exact Nat.le_of_eq rfl) (hb hby at_305) (fun _ _ => ⟨rfl, eq84, (by decide : 7 + 0 ≤ _), (by decide : 19 + 0 ≤ _)⟩)
                      dsimp only [Pt.U, Pt.locs, Pt.cells, Pt.slots] at X85 l85 y85 z85 st85 hQ85
                      subst l85 y85 z85
                      obtain ⟨rfl, Nq85, eq85⟩ := hQ85
                      have N85 := Fr.app N84 Nq85
                      refine own_stH (fun _ kk_ => st85.trans kk_) ?_
                      show own_GoesH _ _ _ _ _ _ _ _ _ T85 (mkF m 308 #[iv p1, iv p2, iv p3, iv p4, .val (.long p5), .second, iv p6, iv l2, iv c2, iv (2 : Int32), iv (1 : Int32), iv a1, iv b1, iv sc, iv a2, iv b2, rv x66_y, rv x77_y, rv b78, rv b80, iv sm, iv xp, rv x66_y] [(.int (0 : Int32))])
                      refine own_stH (fun _ kk_ => XS.ifNo X85.here hx rfl (hb hby at_308) rfl (XT.i0_ne_f (by decide)) (XS.aload X85.here hx rfl (hb hby at_311) rfl rfl (XS.aload X85.here hx rfl (hb hby at_313) rfl rfl kk_))) ?_
                      show own_GoesH _ _ _ _ _ _ _ _ _ T85 (mkF m 315 #[iv p1, iv p2, iv p3, iv p4, .val (.long p5), .second, iv p6, iv l2, iv c2, iv (2 : Int32), iv (1 : Int32), iv a1, iv b1, iv sc, iv a2, iv b2, rv x66_y, rv x77_y, rv b78, rv b80, iv sm, iv xp, rv x66_y] [(.ref x66_y), (.ref b78)])
                      obtain ⟨cq86, kq86, q86a, q86b, q86c⟩ := isOf hZ eq85 f81_9
                      obtain ⟨_, _, ⟨T86, L86, k86, n86⟩, -, X86, ⟨Lc86, hQ86, l86, y86, z86⟩, st86⟩ := X85.virtualBack hx (y := yy14) (z := yy14) hown (mvT hZ (own_w hw 44 rfl)) (mvT hZ (own_w hw 45 rfl)) (notFace_of_selects (args := #[]) (mvT hZ (own_w hw 47 rfl))) (mvT hZ (own_w hw 47 rfl)) (mvT hZ (own_w hw 46 rfl)) (by decide) (backOf (W := 0) (rm7x l Z a0 hw [] (b78) (x66_y) T81.heap n0 Zs81 f81_1) hZ (own_w hw 48 rfl) (own_w hw 33 rfl) (by decide) (by decide)) q86a q86c (g := (mkF m 315 #[iv p1, iv p2, iv p3, iv p4, .val (.long p5), .second, iv p6, iv l2, iv c2, iv (2 : Int32), iv (1 : Int32), iv a1, iv b1, iv sc, iv a2, iv b2, rv x66_y, rv x77_y, rv b78, rv b80, iv sm, iv xp, rv x66_y] [(.ref x66_y), (.ref b78)])) rfl (by rw [hml]; rfl) (Steps.refl _) (argsL := [(.ref x66_y)]) (rest := []) (lenOf pd_10 rfl) rfl (by show 2 * 0 + _ ≤ _; exact Nat.le_of_eq rfl) (hb hby at_315) (fun _ _ => ⟨rfl, eq85, (by decide : 7 + 0 ≤ _), (by decide : 19 + 0 ≤ _)⟩)
                      dsimp only [Pt.U, Pt.locs, Pt.cells, Pt.slots] at X86 l86 y86 z86 st86 hQ86
                      subst l86 y86 z86
                      obtain ⟨rfl, Nq86, eq86⟩ := hQ86
                      have N86 := Fr.app N85 Nq86
                      refine own_stH (fun _ kk_ => st86.trans kk_) ?_
                      show own_GoesH _ _ _ _ _ _ _ _ _ T86 (mkF m 318 #[iv p1, iv p2, iv p3, iv p4, .val (.long p5), .second, iv p6, iv l2, iv c2, iv (2 : Int32), iv (1 : Int32), iv a1, iv b1, iv sc, iv a2, iv b2, rv x66_y, rv x77_y, rv b78, rv b80, iv sm, iv xp, rv x66_y] [(.int (0 : Int32))])
                      refine own_stH (fun _ kk_ => XS.ifNo X86.here hx rfl (hb hby at_318) rfl (XT.i0_ne_f (by decide)) (XS.iconst X86.here hx rfl (hb hby at_321) (XS.goto X86.here hx rfl (pc0 := 322) (pc' := 326) rfl (hb hby at_322) (by decide) (by decide) kk_))) ?_
                      show own_GoesH _ _ _ _ _ _ _ _ _ T86 (mkF m 326 #[iv p1, iv p2, iv p3, iv p4, .val (.long p5), .second, iv p6, iv l2, iv c2, iv (2 : Int32), iv (1 : Int32), iv a1, iv b1, iv sc, iv a2, iv b2, rv x66_y, rv x77_y, rv b78, rv b80, iv sm, iv xp, rv x66_y] [(.int (1 : Int32))])
                      refine own_endH (v := (some (.int (nar .boolean (1 : Int32))))) X86 hlk hS2 (by rw [eq86]; exact Ks81) hZ hEL hh eq86 C81 (fun h => by rw [Bd.returns] at h; cases h) (by decide) (by decide) ?_ (fun fs hr => retN X86 hx (t := .boolean) Bd.returns (by simp) (hb hby at_326) hr)
                      show Q0 Z p1 p2 p3 p4 p5 p6 cs h0 n0 (some (.int (nar .boolean (1 : Int32)))) T86.heap _
                      rw [eq86]
                      exact ⟨rfl, N86⟩
                    rcases Classical.em (p1 = l2) with r0 | r0
                    · refine own_stH (fun _ kk_ => XS.icmpNo X81.here hx rfl (hb hby at_243) rfl (XT.ii_ne_f r0) (XS.iloadN X81.here hx rfl (hb hby at_246) rfl (XS.iload X81.here hx rfl (hb hby at_247) rfl kk_))) ?_
                      show own_GoesH _ _ _ _ _ _ _ _ _ T81 (mkF m 249 #[iv p1, iv p2, iv p3, iv p4, .val (.long p5), .second, iv p6, iv l2, iv c2, iv (2 : Int32), iv (1 : Int32), iv a1, iv b1, iv sc, iv a2, iv b2, rv x66_y, rv x77_y, rv b78, rv b80, iv sm, .unset, .unset] [(.int c2), (.int p2)])
                      rcases Classical.em (p2 = c2) with r1 | r1
                      · refine own_stH (fun _ kk_ => XS.icmpNo X81.here hx rfl (hb hby at_249) rfl (XT.ii_ne_f r1) (XS.iload X81.here hx rfl (hb hby at_252) rfl kk_)) ?_
                        show own_GoesH _ _ _ _ _ _ _ _ _ T81 (mkF m 254 #[iv p1, iv p2, iv p3, iv p4, .val (.long p5), .second, iv p6, iv l2, iv c2, iv (2 : Int32), iv (1 : Int32), iv a1, iv b1, iv sc, iv a2, iv b2, rv x66_y, rv x77_y, rv b78, rv b80, iv sm, .unset, .unset] [(.int sm)])
                        rcases Classical.em (sm = (0 : Int32)) with r2 | r2
                        · refine own_stH (fun _ kk_ => XS.ifYes X81.here hx rfl (pc0 := 254) (pc' := 261) rfl (hb hby at_254) rfl (XT.i0_eq_t r2) (by decide) (by decide) (XS.iconst X81.here hx rfl (hb hby at_261) kk_)) ?_
                          show own_GoesH _ _ _ _ _ _ _ _ _ T81 (mkF m 262 #[iv p1, iv p2, iv p3, iv p4, .val (.long p5), .second, iv p6, iv l2, iv c2, iv (2 : Int32), iv (1 : Int32), iv a1, iv b1, iv sc, iv a2, iv b2, rv x66_y, rv x77_y, rv b78, rv b80, iv sm, .unset, .unset] [(.int (0 : Int32))])
                          exact JE ((0 : Int32)) (own_b0 (fun k => by rw [hsm, own_b1 k.2.2] at r2; exact absurd r2 (by decide))).symm
                        · refine own_stH (fun _ kk_ => XS.ifNo X81.here hx rfl (hb hby at_254) rfl (XT.i0_eq_f r2) (XS.iconst X81.here hx rfl (hb hby at_257) (XS.goto X81.here hx rfl (pc0 := 258) (pc' := 262) rfl (hb hby at_258) (by decide) (by decide) kk_))) ?_
                          show own_GoesH _ _ _ _ _ _ _ _ _ T81 (mkF m 262 #[iv p1, iv p2, iv p3, iv p4, .val (.long p5), .second, iv p6, iv l2, iv c2, iv (2 : Int32), iv (1 : Int32), iv a1, iv b1, iv sc, iv a2, iv b2, rv x66_y, rv x77_y, rv b78, rv b80, iv sm, .unset, .unset] [(.int (1 : Int32))])
                          exact JE ((1 : Int32)) (own_b1 ⟨r0, r1, Classical.byContradiction fun k => r2 (hsm.trans (own_b0 k))⟩).symm
                      · refine own_stH (fun _ kk_ => XS.icmpYes X81.here hx rfl (pc0 := 249) (pc' := 261) rfl (hb hby at_249) rfl (XT.ii_ne_t r1) (by decide) (by decide) (XS.iconst X81.here hx rfl (hb hby at_261) kk_)) ?_
                        show own_GoesH _ _ _ _ _ _ _ _ _ T81 (mkF m 262 #[iv p1, iv p2, iv p3, iv p4, .val (.long p5), .second, iv p6, iv l2, iv c2, iv (2 : Int32), iv (1 : Int32), iv a1, iv b1, iv sc, iv a2, iv b2, rv x66_y, rv x77_y, rv b78, rv b80, iv sm, .unset, .unset] [(.int (0 : Int32))])
                        exact JE ((0 : Int32)) (own_b0 (fun k => r1 k.2.1)).symm
                    · refine own_stH (fun _ kk_ => XS.icmpYes X81.here hx rfl (pc0 := 243) (pc' := 261) rfl (hb hby at_243) rfl (XT.ii_ne_t r0) (by decide) (by decide) (XS.iconst X81.here hx rfl (hb hby at_261) kk_)) ?_
                      show own_GoesH _ _ _ _ _ _ _ _ _ T81 (mkF m 262 #[iv p1, iv p2, iv p3, iv p4, .val (.long p5), .second, iv p6, iv l2, iv c2, iv (2 : Int32), iv (1 : Int32), iv a1, iv b1, iv sc, iv a2, iv b2, rv x66_y, rv x77_y, rv b78, rv b80, iv sm, .unset, .unset] [(.int (0 : Int32))])
                      exact JE ((0 : Int32)) (own_b0 (fun k => r0 k.1)).symm
                  refine own_stH (fun _ kk_ => XS.iload X81.here hx rfl (hb hby at_200) rfl (XS.iload X81.here hx rfl (hb hby at_202) rfl (XS.icmpYes X81.here hx rfl (pc0 := 204) (pc' := 237) rfl (hb hby at_204) rfl (XT.ii_ne_t (by decide)) (by decide) (by decide) (XS.iconst X81.here hx rfl (hb hby at_237) kk_)))) ?_
                  show own_GoesH _ _ _ _ _ _ _ _ _ T81 (mkF m 238 #[iv p1, iv p2, iv p3, iv p4, .val (.long p5), .second, iv p6, iv l2, iv c2, iv (2 : Int32), iv (1 : Int32), iv a1, iv b1, iv sc, iv a2, iv b2, rv x66_y, rv x77_y, rv b78, rv b80, .unset, .unset, .unset] [(.int (0 : Int32))])
                  exact JM ((0 : Int32)) (own_b0 not_false).symm
                · show own_GoesH _ _ _ _ _ _ _ _ _ T66 (mkF m 167 #[iv p1, iv p2, iv p3, iv p4, .val (.long p5), .second, iv p6, iv l2, iv c2, iv (2 : Int32), iv (2 : Int32), iv a1, iv b1, iv sc, iv a2, iv b2, rv x66_y, .unset, .unset, .unset, .unset, .unset, .unset] [(.int b2), (.int a2), (.int (2 : Int32))])
                  obtain ⟨_, _, ⟨T87, L87, k87, n87⟩, -, X87, ⟨Lc87, hQ87, l87, y87, z87⟩, st87⟩ := Jvm.LawKit.callS X66 hx (y := yy10) hown (mvT hZ (own_w hw 5 rfl)) (mvT hZ (own_w hw 6 rfl)) (mvT hZ (own_w hw 7 rfl)) (mvT hZ (own_w hw 8 rfl)) (by decide) (backOf (W := 0) (rm2_2 l Z a0 hw [] (a2) (b2) (cs) T66.heap n0 Zs66 f66_0 (by assumption) hi_a2 hi_b2) hZ (own_w hw 8 rfl) (own_w hw 7 rfl) (by decide) (by decide)) (g := (mkF m 167 #[iv p1, iv p2, iv p3, iv p4, .val (.long p5), .second, iv p6, iv l2, iv c2, iv (2 : Int32), iv (2 : Int32), iv a1, iv b1, iv sc, iv a2, iv b2, rv x66_y, .unset, .unset, .unset, .unset, .unset, .unset] [(.int b2), (.int a2), (.int (2 : Int32))])) rfl (by rw [hml]; rfl) (argsL := [(.int (2 : Int32)), (.int a2), (.int b2)]) (rest := []) (lenOf pd_12 rfl) rfl (by show 2 * 0 + _ ≤ _; exact Nat.le_of_eq rfl) (hb hby at_167) (fun _ _ => ⟨rfl, rfl, (by decide : 3 + 3 ≤ _), (by decide : 8 + 8 ≤ _)⟩)
                  dsimp only [Pt.U, Pt.locs, Pt.cells, Pt.slots] at X87 l87 y87 z87 st87 hQ87
                  subst l87 y87 z87
                  obtain ⟨x87_y, x87_d, x87_kd, rfl, Nq87, Kq87, u87_0, u87_1, u87_2, u87_3, u87_4⟩ := hQ87
                  have N87 := Fr.app N66 Nq87
                  have f87_0 := own_Sta_keep f66_0 Kq87 ns0
                  have f87_1 := u66_1.keep Kq87
                  have f87_2 := u66_2.keep Kq87 nin0
                  have f87_3 := u66_3.keep Kq87 nin0
                  have f87_4 := u66_4.keep Kq87 nin0
                  have C87 := C66.trans (CHr.keep Kq87 sf0 C66.1)
                  have Ks87 := Nat.le_trans Ks66 Kq87.1
                  have Zs87 : n0 ≤ T87.heap.size := Nat.le_trans Zs66 Kq87.1
                  have ne87_x66_y : x66_y ≠ x87_y := Nat.ne_of_lt (Nat.lt_of_lt_of_le u66_1.lt u87_0)
                  have ne87_x66_d : x66_d ≠ x87_y := Nat.ne_of_lt (Nat.lt_of_lt_of_le u66_4.lt u87_0)
                  have gg87_y : n0 ≤ x87_y := Nat.le_trans Zs66 u87_0
                  refine own_stH st87 ?_
                  show own_GoesH _ _ _ _ _ _ _ _ _ T87 (mkF m 170 #[iv p1, iv p2, iv p3, iv p4, .val (.long p5), .second, iv p6, iv l2, iv c2, iv (2 : Int32), iv (2 : Int32), iv a1, iv b1, iv sc, iv a2, iv b2, rv x66_y, .unset, .unset, .unset, .unset, .unset, .unset] [(.ref x87_y)])
                  refine own_stH (fun _ kk_ => XS.astore X87.here hx rfl (hb hby at_170) rfl rfl (l' := #[iv p1, iv p2, iv p3, iv p4, .val (.long p5), .second, iv p6, iv l2, iv c2, iv (2 : Int32), iv (2 : Int32), iv a1, iv b1, iv sc, iv a2, iv b2, rv x66_y, rv x87_y, .unset, .unset, .unset, .unset, .unset]) rfl kk_) ?_
                  show own_GoesH _ _ _ _ _ _ _ _ _ T87 (mkF m 172 #[iv p1, iv p2, iv p3, iv p4, .val (.long p5), .second, iv p6, iv l2, iv c2, iv (2 : Int32), iv (2 : Int32), iv a1, iv b1, iv sc, iv a2, iv b2, rv x66_y, rv x87_y, .unset, .unset, .unset, .unset, .unset] [])
                  obtain ⟨T88, h88, X88, e88, E88, A88, D88, -, st88⟩ := newO X87 hx hZ hown (own_w hw 31 rfl) (own_w hw 32 rfl) (own_w hw 33 rfl) rfl (g := (mkF m 172 #[iv p1, iv p2, iv p3, iv p4, .val (.long p5), .second, iv p6, iv l2, iv c2, iv (2 : Int32), iv (2 : Int32), iv a1, iv b1, iv sc, iv a2, iv b2, rv x66_y, rv x87_y, .unset, .unset, .unset, .unset, .unset] [])) rfl (hb hby at_172) (by decide) (by decide)
                  obtain ⟨b88, gx88⟩ : ∃ z, z = T87.heap.size := ⟨_, rfl⟩
                  rw [← gx88] at A88 D88 st88
                  have ne88_x66_y : x66_y ≠ b88 := Nat.ne_of_lt (Nat.lt_of_lt_of_eq f87_1.lt gx88.symm)
                  have ne88_x66_d : x66_d ≠ b88 := Nat.ne_of_lt (Nat.lt_of_lt_of_eq f87_4.lt gx88.symm)
                  have ne88_x87_y : x87_y ≠ b88 := Nat.ne_of_lt (Nat.lt_of_lt_of_eq u87_1.lt gx88.symm)
                  have ne88_x87_d : x87_d ≠ b88 := Nat.ne_of_lt (Nat.lt_of_lt_of_eq u87_4.lt gx88.symm)
                  have gg88 : n0 ≤ b88 := Nat.le_trans Zs87 (Nat.le_of_eq gx88.symm)
                  have f88_0 := f87_0.ext E88
                  have f88_1 := f87_1.ext E88
                  have f88_2 := f87_2.ext E88
                  have f88_3 := f87_3.ext E88
                  have f88_4 := f87_4.ext E88
                  have f88_5 := u87_1.ext E88
                  have f88_6 := u87_2.ext E88
                  have f88_7 := u87_3.ext E88
                  have f88_8 := u87_4.ext E88
                  have C88 := C87.trans (CHr.ext E88 C87.1)
                  have Zs88 : n0 ≤ h88.size := Nat.le_trans Zs87 E88.1
                  have Ks88 := Nat.le_trans Ks87 E88.1
                  have fn88_line : Fld Z h88 b88 "com/example/majra/majra/lang/Command$Refusal" "line" "I" (.int (0 : Int32)) := D88 (Or.inr (own_w hw 39 rfl)) (ty := .int) (by decide)
                  have fn88_column : Fld Z h88 b88 "com/example/majra/majra/lang/Command$Refusal" "column" "I" (.int (0 : Int32)) := D88 (Or.inr (own_w hw 41 rfl)) (ty := .int) (by decide)
                  have fn88_message : Fld Z h88 b88 "com/example/majra/majra/lang/Command$Refusal" "message" "Ljava/lang/String;" .null := D88 (Or.inr (own_w hw 43 rfl)) (ty := (.object "java/lang/String")) (by decide)
                  refine own_stH st88 ?_
                  show own_GoesH _ _ _ _ _ _ _ _ _ T88 (mkF m 175 #[iv p1, iv p2, iv p3, iv p4, .val (.long p5), .second, iv p6, iv l2, iv c2, iv (2 : Int32), iv (2 : Int32), iv a1, iv b1, iv sc, iv a2, iv b2, rv x66_y, rv x87_y, .unset, .unset, .unset, .unset, .unset] [(.ref b88)])
                  refine own_stH (fun _ kk_ => XS.dup X88.here hx rfl (hb hby at_175) rfl rfl (XS.iloadN X88.here hx rfl (hb hby at_176) rfl (XS.iloadN X88.here hx rfl (hb hby at_177) rfl (XS.aload X88.here hx rfl (hb hby at_178) rfl rfl kk_)))) ?_
                  show own_GoesH _ _ _ _ _ _ _ _ _ T88 (mkF m 180 #[iv p1, iv p2, iv p3, iv p4, .val (.long p5), .second, iv p6, iv l2, iv c2, iv (2 : Int32), iv (2 : Int32), iv a1, iv b1, iv sc, iv a2, iv b2, rv x66_y, rv x87_y, .unset, .unset, .unset, .unset, .unset] [(.ref x66_y), (.int p2), (.int p1), (.ref b88), (.ref b88)])
                  obtain ⟨_, _, ⟨T89, L89, k89, n89⟩, -, X89, ⟨Lc89, hQ89, l89, y89, z89⟩, st89⟩ := X88.specialBack hx (y := yy11) rfl hown (mvT hZ (own_w hw 34 rfl)) (mvT hZ (own_w hw 35 rfl)) (mvT hZ (own_w hw 36 rfl)) (by decide) (backOf (W := 1) (rm6 l Z a0 hw [] (b88) (p1) (p2) (x66_y) h88 n0 Zs88 A88 fn88_line fn88_column fn88_message gg88) hZ (own_w hw 36 rfl) (own_w hw 33 rfl) (by decide) (by decide)) (g := (mkF m 180 #[iv p1, iv p2, iv p3, iv p4, .val (.long p5), .second, iv p6, iv l2, iv c2, iv (2 : Int32), iv (2 : Int32), iv a1, iv b1, iv sc, iv a2, iv b2, rv x66_y, rv x87_y, .unset, .unset, .unset, .unset, .unset] [(.ref x66_y), (.int p2), (.int p1), (.ref b88), (.ref b88)])) rfl (by rw [hml]; rfl) (Steps.refl _) (a := b88) (argsL := [(.int p1), (.int p2), (.ref x66_y)]) (rest := [(.ref b88)]) (lenOf pd_13 rfl) rfl (by show 2 * 0 + _ ≤ _; exact Nat.le_of_eq rfl) (hb hby at_180) (fun _ _ => ⟨rfl, e88, (by decide : 7 + 0 ≤ _), (by decide : 19 + 0 ≤ _)⟩)
                  dsimp only [Pt.U, Pt.locs, Pt.cells, Pt.slots] at X89 l89 y89 z89 st89 hQ89
                  subst l89 y89 z89
                  obtain ⟨rfl, Nq89, Kq89, u89_0, u89_1, u89_2⟩ := hQ89
                  have N89 := Fr.app N87 Nq89
                  have f89_0 := own_Sta_keep f88_0 Kq89 (nsS A88.nostat ns0)
                  have f89_1 := f88_1.keep Kq89
                  have f89_2 := f88_2.keep Kq89 (ninS ne88_x66_y nin0)
                  have f89_3 := f88_3.keep Kq89 (ninS ne88_x66_y nin0)
                  have f89_4 := f88_4.keep Kq89 (ninS ne88_x66_d nin0)
                  have f89_5 := f88_5.keep Kq89
                  have f89_6 := f88_6.keep Kq89 (ninS ne88_x87_y nin0)
                  have f89_7 := f88_7.keep Kq89 (ninS ne88_x87_y nin0)
                  have f89_8 := f88_8.keep Kq89 (ninS ne88_x87_d nin0)
                  have f89_9 := A88.keep Kq89
                  have C89 := C88.trans (CHr.keep Kq89 (sfS (Safe.exa hZ.alike A88 (by decide) (by decide)) sf0) C88.1)
                  have Ks89 := Nat.le_trans Ks88 Kq89.1
                  have Zs89 : n0 ≤ T89.heap.size := Nat.le_trans Zs88 Kq89.1
                  refine own_stH (fun _ kk_ => st89.trans kk_) ?_
                  show own_GoesH _ _ _ _ _ _ _ _ _ T89 (mkF m 183 #[iv p1, iv p2, iv p3, iv p4, .val (.long p5), .second, iv p6, iv l2, iv c2, iv (2 : Int32), iv (2 : Int32), iv a1, iv b1, iv sc, iv a2, iv b2, rv x66_y, rv x87_y, .unset, .unset, .unset, .unset, .unset] [(.ref b88)])
                  refine own_stH (fun _ kk_ => XS.astore X89.here hx rfl (hb hby at_183) rfl rfl (l' := #[iv p1, iv p2, iv p3, iv p4, .val (.long p5), .second, iv p6, iv l2, iv c2, iv (2 : Int32), iv (2 : Int32), iv a1, iv b1, iv sc, iv a2, iv b2, rv x66_y, rv x87_y, rv b88, .unset, .unset, .unset, .unset]) rfl kk_) ?_
                  show own_GoesH _ _ _ _ _ _ _ _ _ T89 (mkF m 185 #[iv p1, iv p2, iv p3, iv p4, .val (.long p5), .second, iv p6, iv l2, iv c2, iv (2 : Int32), iv (2 : Int32), iv a1, iv b1, iv sc, iv a2, iv b2, rv x66_y, rv x87_y, rv b88, .unset, .unset, .unset, .unset] [])
                  obtain ⟨T90, h90, X90, e90, E90, A90, D90, -, st90⟩ := newO X89 hx hZ hown (own_w hw 31 rfl) (own_w hw 32 rfl) (own_w hw 33 rfl) rfl (g := (mkF m 185 #[iv p1, iv p2, iv p3, iv p4, .val (.long p5), .second, iv p6, iv l2, iv c2, iv (2 : Int32), iv (2 : Int32), iv a1, iv b1, iv sc, iv a2, iv b2, rv x66_y, rv x87_y, rv b88, .unset, .unset, .unset, .unset] [])) rfl (hb hby at_185) (by decide) (by decide)
                  obtain ⟨b90, gx90⟩ : ∃ z, z = T89.heap.size := ⟨_, rfl⟩
                  rw [← gx90] at A90 D90 st90
                  have ne90_x66_y : x66_y ≠ b90 := Nat.ne_of_lt (Nat.lt_of_lt_of_eq f89_1.lt gx90.symm)
                  have ne90_x66_d : x66_d ≠ b90 := Nat.ne_of_lt (Nat.lt_of_lt_of_eq f89_4.lt gx90.symm)
                  have ne90_x87_y : x87_y ≠ b90 := Nat.ne_of_lt (Nat.lt_of_lt_of_eq f89_5.lt gx90.symm)
                  have ne90_x87_d : x87_d ≠ b90 := Nat.ne_of_lt (Nat.lt_of_lt_of_eq f89_8.lt gx90.symm)
                  have ne90_b88 : b88 ≠ b90 := Nat.ne_of_lt (Nat.lt_of_lt_of_eq f89_9.lt gx90.symm)
                  have gg90 : n0 ≤ b90 := Nat.le_trans Zs89 (Nat.le_of_eq gx90.symm)
                  have f90_0 := f89_0.ext E90
                  have f90_1 := f89_1.ext E90
                  have f90_2 := f89_2.ext E90
                  have f90_3 := f89_3.ext E90
                  have f90_4 := f89_4.ext E90
                  have f90_5 := f89_5.ext E90
                  have f90_6 := f89_6.ext E90
                  have f90_7 := f89_7.ext E90
                  have f90_8 := f89_8.ext E90
                  have f90_9 := f89_9.ext E90
                  have f90_10 := u89_0.ext E90
                  have f90_11 := u89_1.ext E90
                  have f90_12 := u89_2.ext E90
                  have C90 := C89.trans (CHr.ext E90 C89.1)
                  have Zs90 : n0 ≤ h90.size := Nat.le_trans Zs89 E90.1
                  have Ks90 := Nat.le_trans Ks89 E90.1
                  have fn90_line : Fld Z h90 b90 "com/example/majra/majra/lang/Command$Refusal" "line" "I" (.int (0 : Int32)) := D90 (Or.inr (own_w hw 39 rfl)) (ty := .int) (by decide)
                  have fn90_column : Fld Z h90 b90 "com/example/majra/majra/lang/Command$Refusal" "column" "I" (.int (0 : Int32)) := D90 (Or.inr (own_w hw 41 rfl)) (ty := .int) (by decide)
                  have fn90_message : Fld Z h90 b90 "com/example/majra/majra/lang/Command$Refusal" "message" "Ljava/lang/String;" .null := D90 (Or.inr (own_w hw 43 rfl)) (ty := (.object "java/lang/String")) (by decide)
                  refine own_stH st90 ?_
                  show own_GoesH _ _ _ _ _ _ _ _ _ T90 (mkF m 188 #[iv p1, iv p2, iv p3, iv p4, .val (.long p5), .second, iv p6, iv l2, iv c2, iv (2 : Int32), iv (2 : Int32), iv a1, iv b1, iv sc, iv a2, iv b2, rv x66_y, rv x87_y, rv b88, .unset, .unset, .unset, .unset] [(.ref b90)])
                  refine own_stH (fun _ kk_ => XS.dup X90.here hx rfl (hb hby at_188) rfl rfl (XS.iload X90.here hx rfl (hb hby at_189) rfl (XS.iload X90.here hx rfl (hb hby at_191) rfl (XS.aload X90.here hx rfl (hb hby at_193) rfl rfl kk_)))) ?_
                  show own_GoesH _ _ _ _ _ _ _ _ _ T90 (mkF m 195 #[iv p1, iv p2, iv p3, iv p4, .val (.long p5), .second, iv p6, iv l2, iv c2, iv (2 : Int32), iv (2 : Int32), iv a1, iv b1, iv sc, iv a2, iv b2, rv x66_y, rv x87_y, rv b88, .unset, .unset, .unset, .unset] [(.ref x87_y), (.int c2), (.int l2), (.ref b90), (.ref b90)])
                  obtain ⟨_, _, ⟨T91, L91, k91, n91⟩, -, X91, ⟨Lc91, hQ91, l91, y91, z91⟩, st91⟩ := X90.specialBack hx (y := yy11) rfl hown (mvT hZ (own_w hw 34 rfl)) (mvT hZ (own_w hw 35 rfl)) (mvT hZ (own_w hw 36 rfl)) (by decide) (backOf (W := 1) (rm6 l Z a0 hw [] (b90) (l2) (c2) (x87_y) h90 n0 Zs90 A90 fn90_line fn90_column fn90_message gg90) hZ (own_w hw 36 rfl) (own_w hw 33 rfl) (by decide) (by decide)) (g := (mkF m 195 #[iv p1, iv p2, iv p3, iv p4, .val (.long p5), .second, iv p6, iv l2, iv c2, iv (2 : Int32), iv (2 : Int32), iv a1, iv b1, iv sc, iv a2, iv b2, rv x66_y, rv x87_y, rv b88, .unset, .unset, .unset, .unset] [(.ref x87_y), (.int c2), (.int l2), (.ref b90), (.ref b90)])) rfl (by rw [hml]; rfl) (Steps.refl _) (a := b90) (argsL := [(.int l2), (.int c2), (.ref x87_y)]) (rest := [(.ref b90)]) (lenOf pd_13 rfl) rfl (by show 2 * 0 + _ ≤ _; exact Nat.le_of_eq rfl) (hb hby at_195) (fun _ _ => ⟨rfl, e90, (by decide : 8 + 0 ≤ _), (by decide : 22 + 0 ≤ _)⟩)
                  dsimp only [Pt.U, Pt.locs, Pt.cells, Pt.slots] at X91 l91 y91 z91 st91 hQ91
                  subst l91 y91 z91
                  obtain ⟨rfl, Nq91, Kq91, u91_0, u91_1, u91_2⟩ := hQ91
                  have N91 := Fr.app N89 Nq91
                  have f91_0 := own_Sta_keep f90_0 Kq91 (nsS A90.nostat ns0)
                  have f91_1 := f90_1.keep Kq91
                  have f91_2 := f90_2.keep Kq91 (ninS ne90_x66_y nin0)
                  have f91_3 := f90_3.keep Kq91 (ninS ne90_x66_y nin0)
                  have f91_4 := f90_4.keep Kq91 (ninS ne90_x66_d nin0)
                  have f91_5 := f90_5.keep Kq91
                  have f91_6 := f90_6.keep Kq91 (ninS ne90_x87_y nin0)
                  have f91_7 := f90_7.keep Kq91 (ninS ne90_x87_y nin0)
                  have f91_8 := f90_8.keep Kq91 (ninS ne90_x87_d nin0)
                  have f91_9 := f90_9.keep Kq91
                  have f91_10 := f90_10.keep Kq91 (ninS ne90_b88 nin0)
                  have f91_11 := f90_11.keep Kq91 (ninS ne90_b88 nin0)
                  have f91_12 := f90_12.keep Kq91 (ninS ne90_b88 nin0)
                  have f91_13 := A90.keep Kq91
                  have C91 := C90.trans (CHr.keep Kq91 (sfS (Safe.exa hZ.alike A90 (by decide) (by decide)) sf0) C90.1)
                  have Ks91 := Nat.le_trans Ks90 Kq91.1
                  have Zs91 : n0 ≤ T91.heap.size := Nat.le_trans Zs90 Kq91.1
                  refine own_stH (fun _ kk_ => st91.trans kk_) ?_
                  show own_GoesH _ _ _ _ _ _ _ _ _ T91 (mkF m 198 #[iv p1, iv p2, iv p3, iv p4, .val (.long p5), .second, iv p6, iv l2, iv c2, iv (2 : Int32), iv (2 : Int32), iv a1, iv b1, iv sc, iv a2, iv b2, rv x66_y, rv x87_y, rv b88, .unset, .unset, .unset, .unset] [(.ref b90)])
                  refine own_stH (fun _ kk_ => XS.astore X91.here hx rfl (hb hby at_198) rfl rfl (l' := #[iv p1, iv p2, iv p3, iv p4, .val (.long p5), .second, iv p6, iv l2, iv c2, iv (2 : Int32), iv (2 : Int32), iv a1, iv b1, iv sc, iv a2, iv b2, rv x66_y, rv x87_y, rv b88, rv b90, .unset, .unset, .unset]) rfl kk_) ?_
                  show own_GoesH _ _ _ _ _ _ _ _ _ T91 (mkF m 200 #[iv p1, iv p2, iv p3, iv p4, .val (.long p5), .second, iv p6, iv l2, iv c2, iv (2 : Int32), iv (2 : Int32), iv a1, iv b1, iv sc, iv a2, iv b2, rv x66_y, rv x87_y, rv b88, rv b90, .unset, .unset, .unset] [])
                  have JM : ∀ (sm : Int32), (sm = own_b (a1 = a2 ∧ b1 = b2)) → own_GoesH p e below s Z consts_1 (Q0 Z p1 p2 p3 p4 p5 p6 cs h0 n0) 32 1152 T91 (mkF m 238 #[iv p1, iv p2, iv p3, iv p4, .val (.long p5), .second, iv p6, iv l2, iv c2, iv (2 : Int32), iv (2 : Int32), iv a1, iv b1, iv sc, iv a2, iv b2, rv x66_y, rv x87_y, rv b88, rv b90, .unset, .unset, .unset] [(.int sm)]) := by
                    intro sm hsm
                    show own_GoesH _ _ _ _ _ _ _ _ _ T91 (mkF m 238 #[iv p1, iv p2, iv p3, iv p4, .val (.long p5), .second, iv p6, iv l2, iv c2, iv (2 : Int32), iv (2 : Int32), iv a1, iv b1, iv sc, iv a2, iv b2, rv x66_y, rv x87_y, rv b88, rv b90, .unset, .unset, .unset] [(.int sm)])
                    refine own_stH (fun _ kk_ => XS.istore X91.here hx rfl (hb hby at_238) rfl (l' := #[iv p1, iv p2, iv p3, iv p4, .val (.long p5), .second, iv p6, iv l2, iv c2, iv (2 : Int32), iv (2 : Int32), iv a1, iv b1, iv sc, iv a2, iv b2, rv x66_y, rv x87_y, rv b88, rv b90, iv sm, .unset, .unset]) rfl (XS.iloadN X91.here hx rfl (hb hby at_240) rfl (XS.iload X91.here hx rfl (hb hby at_241) rfl kk_))) ?_
                    show own_GoesH _ _ _ _ _ _ _ _ _ T91 (mkF m 243 #[iv p1, iv p2, iv p3, iv p4, .val (.long p5), .second, iv p6, iv l2, iv c2, iv (2 : Int32), iv (2 : Int32), iv a1, iv b1, iv sc, iv a2, iv b2, rv x66_y, rv x87_y, rv b88, rv b90, iv sm, .unset, .unset] [(.int l2), (.int p1)])
                    have JE : ∀ (xp : Int32), (xp = own_b (p1 = l2 ∧ p2 = c2 ∧ (a1 = a2 ∧ b1 = b2))) → own_GoesH p e below s Z consts_1 (Q0 Z p1 p2 p3 p4 p5 p6 cs h0 n0) 32 1152 T91 (mkF m 262 #[iv p1, iv p2, iv p3, iv p4, .val (.long p5), .second, iv p6, iv l2, iv c2, iv (2 : Int32), iv (2 : Int32), iv a1, iv b1, iv sc, iv a2, iv b2, rv x66_y, rv x87_y, rv b88, rv b90, iv sm, .unset, .unset] [(.int xp)]) := by
                      intro xp hxp
                      show own_GoesH _ _ _ _ _ _ _ _ _ T91 (mkF m 262 #[iv p1, iv p2, iv p3, iv p4, .val (.long p5), .second, iv p6, iv l2, iv c2, iv (2 : Int32), iv (2 : Int32), iv a1, iv b1, iv sc, iv a2, iv b2, rv x66_y, rv x87_y, rv b88, rv b90, iv sm, .unset, .unset] [(.int xp)])
                      refine own_stH (fun _ kk_ => XS.istore X91.here hx rfl (hb hby at_262) rfl (l' := #[iv p1, iv p2, iv p3, iv p4, .val (.long p5), .second, iv p6, iv l2, iv c2, iv (2 : Int32), iv (2 : Int32), iv a1, iv b1, iv sc, iv a2, iv b2, rv x66_y, rv x87_y, rv b88, rv b90, iv sm, iv xp, .unset]) rfl (XS.aload X91.here hx rfl (hb hby at_264) rfl rfl (XS.astore X91.here hx rfl (hb hby at_266) rfl rfl (l' := #[iv p1, iv p2, iv p3, iv p4, .val (.long p5), .second, iv p6, iv l2, iv c2, iv (2 : Int32), iv (2 : Int32), iv a1, iv b1, iv sc, iv a2, iv b2, rv x66_y, rv x87_y, rv b88, rv b90, iv sm, iv xp, rv x66_y]) rfl (XS.aload X91.here hx rfl (hb hby at_268) rfl rfl (XS.aload X91.here hx rfl (hb hby at_270) rfl rfl kk_))))) ?_
                      show own_GoesH _ _ _ _ _ _ _ _ _ T91 (mkF m 272 #[iv p1, iv p2, iv p3, iv p4, .val (.long p5), .second, iv p6, iv l2, iv c2, iv (2 : Int32), iv (2 : Int32), iv a1, iv b1, iv sc, iv a2, iv b2, rv x66_y, rv x87_y, rv b88, rv b90, iv sm, iv xp, rv x66_y] [(.ref b90), (.ref b88)])
                      obtain ⟨cq92, kq92, q92a, q92b, q92c⟩ := isOf hZ rfl f91_9
                      obtain ⟨_, _, ⟨T92, L92, k92, n92⟩, -, X92, ⟨Lc92, hQ92, l92, y92, z92⟩, st92⟩ := X91.virtualBack hx (y := yy14) (z := yy14) hown (mvT hZ (own_w hw 44 rfl)) (mvT hZ (own_w hw 45 rfl)) (notFace_of_selects (args := #[]) (mvT hZ (own_w hw 47 rfl))) (mvT hZ (own_w hw 47 rfl)) (mvT hZ (own_w hw 46 rfl)) (by decide) (backOf (W := 0) (rm7_2_2 l Z a0 hw [] (b88) (b90) (p1) (p2) (l2) (c2) (x66_y) (x87_y) ((own_by a1)) ((own_by b1)) ((own_by a2)) ((own_by b2)) (x66_d) (x87_d) (x66_kd) (x87_kd) (cs) T91.heap n0 Zs91 f91_10 f91_11 f91_12 f91_13 u91_0 u91_1 u91_2 f91_1 f91_2 f91_3 f91_5 f91_6 f91_7 f91_4 f91_8 f91_0 (by assumption) ne87_x66_y) hZ (own_w hw 48 rfl) (own_w hw 33 rfl) (by decide) (by decide)) q92a q92c (g := (mkF m 272 #[iv p1, iv p2, iv p3, iv p4, .val (.long p5), .second, iv p6, iv l2, iv c2, iv (2 : Int32), iv (2 : Int32), iv a1, iv b1, iv sc, iv a2, iv b2, rv x66_y, rv x87_y, rv b88, rv b90, iv sm, iv xp, rv x66_y] [(.ref b90), (.ref b88)])) rfl (by rw [hml]; rfl) (Steps.refl _) (argsL := [(.ref b90)]) (rest := []) (lenOf pd_10 rfl) rfl (by show 2 * 0 + _ ≤ _; exact Nat.le_of_eq rfl) (hb hby at_272) (fun _ _ => ⟨rfl, rfl, (by decide : 8 + 0 ≤ _), (by decide : 22 + 0 ≤ _)⟩)
                      dsimp only [Pt.U, Pt.locs, Pt.cells, Pt.slots] at X92 l92 y92 z92 st92 hQ92
                      subst l92 y92 z92
                      obtain ⟨rfl, Nq92, eq92⟩ := hQ92
                      have N92 := Fr.app N91 Nq92
                      refine own_stH (fun _ kk_ => st92.trans kk_) ?_
                      show own_GoesH _ _ _ _ _ _ _ _ _ T92 (mkF m 275 #[iv p1, iv p2, iv p3, iv p4, .val (.long p5), .second, iv p6, iv l2, iv c2, iv (2 : Int32), iv (2 : Int32), iv a1, iv b1, iv sc, iv a2, iv b2, rv x66_y, rv x87_y, rv b88, rv b90, iv sm, iv xp, rv x66_y] [(.int (own_b (p1 = l2 ∧ p2 = c2 ∧ ((own_by a1) = (own_by a2) ∧ (own_by b1) = (own_by b2)))))])
                      refine own_stH (fun _ kk_ => XS.iload X92.here hx rfl (hb hby at_275) rfl (XS.icmpNo X92.here hx rfl (hb hby at_277) rfl (XT.ii_ne_f ((own_bc (own_and3 Iff.rfl Iff.rfl (and_congr (own_byi hi_a1 hi_a2) (own_byi hi_b1 hi_b2)))).trans hxp.symm)) (XS.aload X92.here hx rfl (hb hby at_280) rfl rfl (XS.aload X92.here hx rfl (hb hby at_282) rfl rfl kk_)))) ?_
                      show own_GoesH _ _ _ _ _ _ _ _ _ T92 (mkF m 284 #[iv p1, iv p2, iv p3, iv p4, .val (.long p5), .second, iv p6, iv l2, iv c2, iv (2 : Int32), iv (2 : Int32), iv a1, iv b1, iv sc, iv a2, iv b2, rv x66_y, rv x87_y, rv b88, rv b90, iv sm, iv xp, rv x66_y] [(.ref b88), (.ref b90)])
                      obtain ⟨cq93, kq93, q93a, q93b, q93c⟩ := isOf hZ eq92 f91_13
                      obtain ⟨_, _, ⟨T93, L93, k93, n93⟩, -, X93, ⟨Lc93, hQ93, l93, y93, z93⟩, st93⟩ := X92.virtualBack hx (y := yy14) (z := yy14) hown (mvT hZ (own_w hw 44 rfl)) (mvT hZ (own_w hw 45 rfl)) (notFace_of_selects (args := #[]) (mvT hZ (own_w hw 47 rfl))) (mvT hZ (own_w hw 47 rfl)) (mvT hZ (own_w hw 46 rfl)) (by decide) (backOf (W := 0) (rm7_2_2 l Z a0 hw [] (b90) (b88) (l2) (c2) (p1) (p2) (x87_y) (x66_y) ((own_by a2)) ((own_by b2)) ((own_by a1)) ((own_by b1)) (x87_d) (x66_d) (x87_kd) (x66_kd) (cs) T91.heap n0 Zs91 u91_0 u91_1 u91_2 f91_9 f91_10 f91_11 f91_12 f91_5 f91_6 f91_7 f91_1 f91_2 f91_3 f91_8 f91_4 f91_0 (by assumption) (Ne.symm ne87_x66_y)) hZ (own_w hw 48 rfl) (own_w hw 33 rfl) (by decide) (by decide)) q93a q93c (g := (mkF m 284 #[iv p1, iv p2, iv p3, iv p4, .val (.long p5), .second, iv p6, iv l2, iv c2, iv (2 : Int32), iv (2 : Int32), iv a1, iv b1, iv sc, iv a2, iv b2, rv x66_y, rv x87_y, rv b88, rv b90, iv sm, iv xp, rv x66_y] [(.ref b88), (.ref b90)])) rfl (by rw [hml]; rfl) (Steps.refl _) (argsL := [(.ref b88)]) (rest := []) (lenOf pd_10 rfl) rfl (by show 2 * 0 + _ ≤ _; exact Nat.le_of_eq rfl) (hb hby at_284) (fun _ _ => ⟨rfl, eq92, (by decide : 8 + 0 ≤ _), (by decide : 22 + 0 ≤ _)⟩)
                      dsimp only [Pt.U, Pt.locs, Pt.cells, Pt.slots] at X93 l93 y93 z93 st93 hQ93
                      subst l93 y93 z93
                      obtain ⟨rfl, Nq93, eq93⟩ := hQ93
                      have N93 := Fr.app N92 Nq93
                      refine own_stH (fun _ kk_ => st93.trans kk_) ?_
                      show own_GoesH _ _ _ _ _ _ _ _ _ T93 (mkF m 287 #[iv p1, iv p2, iv p3, iv p4, .val (.long p5), .second, iv p6, iv l2, iv c2, iv (2 : Int32), iv (2 : Int32), iv a1, iv b1, iv sc, iv a2, iv b2, rv x66_y, rv x87_y, rv b88, rv b90, iv sm, iv xp, rv x66_y] [(.int (own_b (l2 = p1 ∧ c2 = p2 ∧ ((own_by a2) = (own_by a1) ∧ (own_by b2) = (own_by b1)))))])
                      refine own_stH (fun _ kk_ => XS.iload X93.here hx rfl (hb hby at_287) rfl (XS.icmpNo X93.here hx rfl (hb hby at_289) rfl (XT.ii_ne_f ((own_bc (own_and3 own_sy own_sy (and_congr ((own_byi hi_a2 hi_a1).trans own_sy) ((own_byi hi_b2 hi_b1).trans own_sy)))).trans hxp.symm)) (XS.aload X93.here hx rfl (hb hby at_292) rfl rfl (XS.aload X93.here hx rfl (hb hby at_294) rfl rfl kk_)))) ?_
                      show own_GoesH _ _ _ _ _ _ _ _ _ T93 (mkF m 296 #[iv p1, iv p2, iv p3, iv p4, .val (.long p5), .second, iv p6, iv l2, iv c2, iv (2 : Int32), iv (2 : Int32), iv a1, iv b1, iv sc, iv a2, iv b2, rv x66_y, rv x87_y, rv b88, rv b90, iv sm, iv xp, rv x66_y] [(.ref b88), (.ref b88)])
                      obtain ⟨cq94, kq94, q94a, q94b, q94c⟩ := isOf hZ eq93 f91_9
                      obtain ⟨_, _, ⟨T94, L94, k94, n94⟩, -, X94, ⟨Lc94, hQ94, l94, y94, z94⟩, st94⟩ := X93.virtualBack hx (y := yy14) (z := yy14) hown (mvT hZ (own_w hw 44 rfl)) (mvT hZ (own_w hw 45 rfl)) (notFace_of_selects (args := #[]) (mvT hZ (own_w hw 47 rfl))) (mvT hZ (own_w hw 47 rfl)) (mvT hZ (own_w hw 46 rfl)) (by decide) (backOf (W := 0) (rm7s l Z a0 hw [] (b88) (p1) (p2) (x66_y) T91.heap n0 Zs91 f91_9 f91_10 f91_11 f91_12 f91_1) hZ (own_w hw 48 rfl) (own_w hw 33 rfl) (by decide) (by decide)) q94a q94c (g := (mkF m 296 #[iv p1, iv p2, iv p3, iv p4, .val (.long p5), .second, iv p6, iv l2, iv c2, iv (2 : Int32), iv (2 : Int32), iv a1, iv b1, iv sc, iv a2, iv b2, rv x66_y, rv x87_y, rv b88, rv b90, iv sm, iv xp, rv x66_y] [(.ref b88), (.ref b88)])) rfl (by rw [hml]; rfl) (Steps.refl _) (argsL := [(.ref b88)]) (rest := []) (lenOf pd_10 rfl) rfl (by show 2 * 0 + _ ≤ _; exact Nat.le_of_eq rfl) (hb hby at_296) (fun _ _ => ⟨rfl, eq93, (by decide : 8 + 0 ≤ _), (by decide : 22 + 0 ≤ _)⟩)
                      dsimp only [Pt.U, Pt.locs, Pt.cells, Pt.slots] at X94 l94 y94 z94 st94 hQ94
                      subst l94 y94 z94
                      obtain ⟨rfl, Nq94, eq94⟩ := hQ94
                      have N94 := Fr.app N93 Nq94
                      refine own_stH (fun _ kk_ => st94.trans kk_) ?_
                      show own_GoesH _ _ _ _ _ _ _ _ _ T94 (mkF m 299 #[iv p1, iv p2, iv p3, iv p4, .val (.long p5), .second, iv p6, iv l2, iv c2, iv (2 : Int32), iv (2 : Int32), iv a1, iv b1, iv sc, iv a2, iv b2, rv x66_y, rv x87_y, rv b88, rv b90, iv sm, iv xp, rv x66_y] [(.int (1 : Int32))])
                      refine own_stH (fun _ kk_ => XS.ifNo X94.here hx rfl (hb hby at_299) rfl (XT.i0_eq_f (by decide)) (XS.aload X94.here hx rfl (hb hby at_302) rfl rfl (XS.aconstNull X94.here hx rfl (hb hby at_304) kk_))) ?_
                      show own_GoesH _ _ _ _ _ _ _ _ _ T94 (mkF m 305 #[iv p1, iv p2, iv p3, iv p4, .val (.long p5), .second, iv p6, iv l2, iv c2, iv (2 : Int32), iv (2 : Int32), iv a1, iv b1, iv sc, iv a2, iv b2, rv x66_y, rv x87_y, rv b88, rv b90, iv sm, iv xp, rv x66_y] [.null, (.ref b88)])
                      obtain ⟨cq95, kq95, q95a, q95b, q95c⟩ := isOf hZ eq94 f91_9
                      obtain ⟨_, _, ⟨T95, L95, k95, n95⟩, -, X95, ⟨Lc95, hQ95, l95, y95, z95⟩, st95⟩ := X94.virtualBack hx (y := yy14) (z := yy14) hown (mvT hZ (own_w hw 44 rfl)) (mvT hZ (own_w hw 45 rfl)) (notFace_of_selects (args := #[]) (mvT hZ (own_w hw 47 rfl))) (mvT hZ (own_w hw 47 rfl)) (mvT hZ (own_w hw 46 rfl)) (by decide) (backOf (W := 0) (rm7n l Z a0 hw [] (b88) T91.heap n0 Zs91) hZ (own_w hw 48 rfl) (own_w hw 33 rfl) (by decide) (by decide)) q95a q95c (g := (mkF m 305 #[iv p1, iv p2, iv p3, iv p4, .val (.long p5), .second, iv p6, iv l2, iv c2, iv (2 : Int32), iv (2 : Int32), iv a1, iv b1, iv sc, iv a2, iv b2, rv x66_y, rv x87_y, rv b88, rv b90, iv sm, iv xp, rv x66_y] [.null, (.ref b88)])) rfl (by rw [hml]; rfl) (Steps.refl _) (argsL := [.null]) (rest := []) (lenOf pd_10 rfl) rfl (by show 2 * 0 + _ ≤ _; exact Nat.le_of_eq rfl) (hb hby at_305) (fun _ _ => ⟨rfl, eq94, (by decide : 8 + 0 ≤ _), (by decide : 22 + 0 ≤ _)⟩)
                      dsimp only [Pt.U, Pt.locs, Pt.cells, Pt.slots] at X95 l95 y95 z95 st95 hQ95
                      subst l95 y95 z95
                      obtain ⟨rfl, Nq95, eq95⟩ := hQ95
                      have N95 := Fr.app N94 Nq95
                      refine own_stH (fun _ kk_ => st95.trans kk_) ?_
                      show own_GoesH _ _ _ _ _ _ _ _ _ T95 (mkF m 308 #[iv p1, iv p2, iv p3, iv p4, .val (.long p5), .second, iv p6, iv l2, iv c2, iv (2 : Int32), iv (2 : Int32), iv a1, iv b1, iv sc, iv a2, iv b2, rv x66_y, rv x87_y, rv b88, rv b90, iv sm, iv xp, rv x66_y] [(.int (0 : Int32))])
                      refine own_stH (fun _ kk_ => XS.ifNo X95.here hx rfl (hb hby at_308) rfl (XT.i0_ne_f (by decide)) (XS.aload X95.here hx rfl (hb hby at_311) rfl rfl (XS.aload X95.here hx rfl (hb hby at_313) rfl rfl kk_))) ?_
                      show own_GoesH _ _ _ _ _ _ _ _ _ T95 (mkF m 315 #[iv p1, iv p2, iv p3, iv p4, .val (.long p5), .second, iv p6, iv l2, iv c2, iv (2 : Int32), iv (2 : Int32), iv a1, iv b1, iv sc, iv a2, iv b2, rv x66_y, rv x87_y, rv b88, rv b90, iv sm, iv xp, rv x66_y] [(.ref x66_y), (.ref b88)])
                      obtain ⟨cq96, kq96, q96a, q96b, q96c⟩ := isOf hZ eq95 f91_9
                      obtain ⟨_, _, ⟨T96, L96, k96, n96⟩, -, X96, ⟨Lc96, hQ96, l96, y96, z96⟩, st96⟩ := X95.virtualBack hx (y := yy14) (z := yy14) hown (mvT hZ (own_w hw 44 rfl)) (mvT hZ (own_w hw 45 rfl)) (notFace_of_selects (args := #[]) (mvT hZ (own_w hw 47 rfl))) (mvT hZ (own_w hw 47 rfl)) (mvT hZ (own_w hw 46 rfl)) (by decide) (backOf (W := 0) (rm7x l Z a0 hw [] (b88) (x66_y) T91.heap n0 Zs91 f91_1) hZ (own_w hw 48 rfl) (own_w hw 33 rfl) (by decide) (by decide)) q96a q96c (g := (mkF m 315 #[iv p1, iv p2, iv p3, iv p4, .val (.long p5), .second, iv p6, iv l2, iv c2, iv (2 : Int32), iv (2 : Int32), iv a1, iv b1, iv sc, iv a2, iv b2, rv x66_y, rv x87_y, rv b88, rv b90, iv sm, iv xp, rv x66_y] [(.ref x66_y), (.ref b88)])) rfl (by rw [hml]; rfl) (Steps.refl _) (argsL := [(.ref x66_y)]) (rest := []) (lenOf pd_10 rfl) rfl (by show 2 * 0 + _ ≤ _; exact Nat.le_of_eq rfl) (hb hby at_315) (fun _ _ => ⟨rfl, eq95, (by decide : 8 + 0 ≤ _), (by decide : 22 + 0 ≤ _)⟩)
                      dsimp only [Pt.U, Pt.locs, Pt.cells, Pt.slots] at X96 l96 y96 z96 st96 hQ96
                      subst l96 y96 z96
                      obtain ⟨rfl, Nq96, eq96⟩ := hQ96
                      have N96 := Fr.app N95 Nq96
                      refine own_stH (fun _ kk_ => st96.trans kk_) ?_
                      show own_GoesH _ _ _ _ _ _ _ _ _ T96 (mkF m 318 #[iv p1, iv p2, iv p3, iv p4, .val (.long p5), .second, iv p6, iv l2, iv c2, iv (2 : Int32), iv (2 : Int32), iv a1, iv b1, iv sc, iv a2, iv b2, rv x66_y, rv x87_y, rv b88, rv b90, iv sm, iv xp, rv x66_y] [(.int (0 : Int32))])
                      refine own_stH (fun _ kk_ => XS.ifNo X96.here hx rfl (hb hby at_318) rfl (XT.i0_ne_f (by decide)) (XS.iconst X96.here hx rfl (hb hby at_321) (XS.goto X96.here hx rfl (pc0 := 322) (pc' := 326) rfl (hb hby at_322) (by decide) (by decide) kk_))) ?_
                      show own_GoesH _ _ _ _ _ _ _ _ _ T96 (mkF m 326 #[iv p1, iv p2, iv p3, iv p4, .val (.long p5), .second, iv p6, iv l2, iv c2, iv (2 : Int32), iv (2 : Int32), iv a1, iv b1, iv sc, iv a2, iv b2, rv x66_y, rv x87_y, rv b88, rv b90, iv sm, iv xp, rv x66_y] [(.int (1 : Int32))])
                      refine own_endH (v := (some (.int (nar .boolean (1 : Int32))))) X96 hlk hS2 (by rw [eq96]; exact Ks91) hZ hEL hh eq96 C91 (fun h => by rw [Bd.returns] at h; cases h) (by decide) (by decide) ?_ (fun fs hr => retN X96 hx (t := .boolean) Bd.returns (by simp) (hb hby at_326) hr)
                      show Q0 Z p1 p2 p3 p4 p5 p6 cs h0 n0 (some (.int (nar .boolean (1 : Int32)))) T96.heap _
                      rw [eq96]
                      exact ⟨rfl, N96⟩
                    rcases Classical.em (p1 = l2) with r0 | r0
                    · refine own_stH (fun _ kk_ => XS.icmpNo X91.here hx rfl (hb hby at_243) rfl (XT.ii_ne_f r0) (XS.iloadN X91.here hx rfl (hb hby at_246) rfl (XS.iload X91.here hx rfl (hb hby at_247) rfl kk_))) ?_
                      show own_GoesH _ _ _ _ _ _ _ _ _ T91 (mkF m 249 #[iv p1, iv p2, iv p3, iv p4, .val (.long p5), .second, iv p6, iv l2, iv c2, iv (2 : Int32), iv (2 : Int32), iv a1, iv b1, iv sc, iv a2, iv b2, rv x66_y, rv x87_y, rv b88, rv b90, iv sm, .unset, .unset] [(.int c2), (.int p2)])
                      rcases Classical.em (p2 = c2) with r1 | r1
                      · refine own_stH (fun _ kk_ => XS.icmpNo X91.here hx rfl (hb hby at_249) rfl (XT.ii_ne_f r1) (XS.iload X91.here hx rfl (hb hby at_252) rfl kk_)) ?_
                        show own_GoesH _ _ _ _ _ _ _ _ _ T91 (mkF m 254 #[iv p1, iv p2, iv p3, iv p4, .val (.long p5), .second, iv p6, iv l2, iv c2, iv (2 : Int32), iv (2 : Int32), iv a1, iv b1, iv sc, iv a2, iv b2, rv x66_y, rv x87_y, rv b88, rv b90, iv sm, .unset, .unset] [(.int sm)])
                        rcases Classical.em (sm = (0 : Int32)) with r2 | r2
                        · refine own_stH (fun _ kk_ => XS.ifYes X91.here hx rfl (pc0 := 254) (pc' := 261) rfl (hb hby at_254) rfl (XT.i0_eq_t r2) (by decide) (by decide) (XS.iconst X91.here hx rfl (hb hby at_261) kk_)) ?_
                          show own_GoesH _ _ _ _ _ _ _ _ _ T91 (mkF m 262 #[iv p1, iv p2, iv p3, iv p4, .val (.long p5), .second, iv p6, iv l2, iv c2, iv (2 : Int32), iv (2 : Int32), iv a1, iv b1, iv sc, iv a2, iv b2, rv x66_y, rv x87_y, rv b88, rv b90, iv sm, .unset, .unset] [(.int (0 : Int32))])
                          exact JE ((0 : Int32)) (own_b0 (fun k => by rw [hsm, own_b1 k.2.2] at r2; exact absurd r2 (by decide))).symm
                        · refine own_stH (fun _ kk_ => XS.ifNo X91.here hx rfl (hb hby at_254) rfl (XT.i0_eq_f r2) (XS.iconst X91.here hx rfl (hb hby at_257) (XS.goto X91.here hx rfl (pc0 := 258) (pc' := 262) rfl (hb hby at_258) (by decide) (by decide) kk_))) ?_
                          show own_GoesH _ _ _ _ _ _ _ _ _ T91 (mkF m 262 #[iv p1, iv p2, iv p3, iv p4, .val (.long p5), .second, iv p6, iv l2, iv c2, iv (2 : Int32), iv (2 : Int32), iv a1, iv b1, iv sc, iv a2, iv b2, rv x66_y, rv x87_y, rv b88, rv b90, iv sm, .unset, .unset] [(.int (1 : Int32))])
                          exact JE ((1 : Int32)) (own_b1 ⟨r0, r1, Classical.byContradiction fun k => r2 (hsm.trans (own_b0 k))⟩).symm
                      · refine own_stH (fun _ kk_ => XS.icmpYes X91.here hx rfl (pc0 := 249) (pc' := 261) rfl (hb hby at_249) rfl (XT.ii_ne_t r1) (by decide) (by decide) (XS.iconst X91.here hx rfl (hb hby at_261) kk_)) ?_
                        show own_GoesH _ _ _ _ _ _ _ _ _ T91 (mkF m 262 #[iv p1, iv p2, iv p3, iv p4, .val (.long p5), .second, iv p6, iv l2, iv c2, iv (2 : Int32), iv (2 : Int32), iv a1, iv b1, iv sc, iv a2, iv b2, rv x66_y, rv x87_y, rv b88, rv b90, iv sm, .unset, .unset] [(.int (0 : Int32))])
                        exact JE ((0 : Int32)) (own_b0 (fun k => r1 k.2.1)).symm
                    · refine own_stH (fun _ kk_ => XS.icmpYes X91.here hx rfl (pc0 := 243) (pc' := 261) rfl (hb hby at_243) rfl (XT.ii_ne_t r0) (by decide) (by decide) (XS.iconst X91.here hx rfl (hb hby at_261) kk_)) ?_
                      show own_GoesH _ _ _ _ _ _ _ _ _ T91 (mkF m 262 #[iv p1, iv p2, iv p3, iv p4, .val (.long p5), .second, iv p6, iv l2, iv c2, iv (2 : Int32), iv (2 : Int32), iv a1, iv b1, iv sc, iv a2, iv b2, rv x66_y, rv x87_y, rv b88, rv b90, iv sm, .unset, .unset] [(.int (0 : Int32))])
                      exact JE ((0 : Int32)) (own_b0 (fun k => r0 k.1)).symm
                  refine own_stH (fun _ kk_ => XS.iload X91.here hx rfl (hb hby at_200) rfl (XS.iload X91.here hx rfl (hb hby at_202) rfl (XS.icmpNo X91.here hx rfl (hb hby at_204) rfl (XT.ii_ne_f (by decide)) (XS.iload X91.here hx rfl (hb hby at_207) rfl (XS.iconst X91.here hx rfl (hb hby at_209) (XS.icmpNo X91.here hx rfl (hb hby at_210) rfl (XT.ii_lt_f (by decide)) (XS.iload X91.here hx rfl (hb hby at_213) rfl (XS.iload X91.here hx rfl (hb hby at_215) rfl kk_)))))))) ?_
                  show own_GoesH _ _ _ _ _ _ _ _ _ T91 (mkF m 217 #[iv p1, iv p2, iv p3, iv p4, .val (.long p5), .second, iv p6, iv l2, iv c2, iv (2 : Int32), iv (2 : Int32), iv a1, iv b1, iv sc, iv a2, iv b2, rv x66_y, rv x87_y, rv b88, rv b90, .unset, .unset, .unset] [(.int a2), (.int a1)])
                  rcases Classical.em (a1 = a2) with r0 | r0
                  · refine own_stH (fun _ kk_ => XS.icmpNo X91.here hx rfl (hb hby at_217) rfl (XT.ii_ne_f r0) (XS.iload X91.here hx rfl (hb hby at_220) rfl (XS.iconst X91.here hx rfl (hb hby at_222) (XS.icmpNo X91.here hx rfl (hb hby at_223) rfl (XT.ii_lt_f (by decide)) (XS.iload X91.here hx rfl (hb hby at_226) rfl (XS.iload X91.here hx rfl (hb hby at_228) rfl kk_)))))) ?_
                    show own_GoesH _ _ _ _ _ _ _ _ _ T91 (mkF m 230 #[iv p1, iv p2, iv p3, iv p4, .val (.long p5), .second, iv p6, iv l2, iv c2, iv (2 : Int32), iv (2 : Int32), iv a1, iv b1, iv sc, iv a2, iv b2, rv x66_y, rv x87_y, rv b88, rv b90, .unset, .unset, .unset] [(.int b2), (.int b1)])
                    rcases Classical.em (b1 = b2) with r1 | r1
                    · refine own_stH (fun _ kk_ => XS.icmpNo X91.here hx rfl (hb hby at_230) rfl (XT.ii_ne_f r1) (XS.iconst X91.here hx rfl (hb hby at_233) (XS.goto X91.here hx rfl (pc0 := 234) (pc' := 238) rfl (hb hby at_234) (by decide) (by decide) kk_))) ?_
                      show own_GoesH _ _ _ _ _ _ _ _ _ T91 (mkF m 238 #[iv p1, iv p2, iv p3, iv p4, .val (.long p5), .second, iv p6, iv l2, iv c2, iv (2 : Int32), iv (2 : Int32), iv a1, iv b1, iv sc, iv a2, iv b2, rv x66_y, rv x87_y, rv b88, rv b90, .unset, .unset, .unset] [(.int (1 : Int32))])
                      exact JM ((1 : Int32)) (own_b1 ⟨r0, r1⟩).symm
                    · refine own_stH (fun _ kk_ => XS.icmpYes X91.here hx rfl (pc0 := 230) (pc' := 237) rfl (hb hby at_230) rfl (XT.ii_ne_t r1) (by decide) (by decide) (XS.iconst X91.here hx rfl (hb hby at_237) kk_)) ?_
                      show own_GoesH _ _ _ _ _ _ _ _ _ T91 (mkF m 238 #[iv p1, iv p2, iv p3, iv p4, .val (.long p5), .second, iv p6, iv l2, iv c2, iv (2 : Int32), iv (2 : Int32), iv a1, iv b1, iv sc, iv a2, iv b2, rv x66_y, rv x87_y, rv b88, rv b90, .unset, .unset, .unset] [(.int (0 : Int32))])
                      exact JM ((0 : Int32)) (own_b0 (fun k => r1 k.2)).symm
                  · refine own_stH (fun _ kk_ => XS.icmpYes X91.here hx rfl (pc0 := 217) (pc' := 237) rfl (hb hby at_217) rfl (XT.ii_ne_t r0) (by decide) (by decide) (XS.iconst X91.here hx rfl (hb hby at_237) kk_)) ?_
                    show own_GoesH _ _ _ _ _ _ _ _ _ T91 (mkF m 238 #[iv p1, iv p2, iv p3, iv p4, .val (.long p5), .second, iv p6, iv l2, iv c2, iv (2 : Int32), iv (2 : Int32), iv a1, iv b1, iv sc, iv a2, iv b2, rv x66_y, rv x87_y, rv b88, rv b90, .unset, .unset, .unset] [(.int (0 : Int32))])
                    exact JM ((0 : Int32)) (own_b0 (fun k => r0 k.1)).symm
            rcases Classical.em (sc = (0 : Int32)) with q148 | q148
            · refine own_stH (fun _ kk_ => XS.ifYes X2.here hx rfl (pc0 := 129) (pc' := 137) rfl (hb hby at_129) rfl (XT.i0_eq_t q148) (by decide) (by decide) (XS.lload X2.here hx rfl (hb hby at_137) rfl (XS.bipush X2.here hx rfl (hb hby at_139) (XS.lushr X2.here hx rfl (hb hby at_141) rfl (X2.ldc2Long hx hown (mvT hZ (own_w hw 4 rfl)) (g := (mkF m 142 #[iv p1, iv p2, iv p3, iv p4, .val (.long p5), .second, iv p6, iv l2, iv c2, iv n1, iv n2, iv a1, iv b1, iv sc, iv a2, .unset, .unset, .unset, .unset, .unset, .unset, .unset, .unset] [(.long ((p5.toUInt64 >>> ((24 : Int32) &&& 0x3f).toInt64.toUInt64).toInt64))])) rfl (hb hby at_142) _ (XS.land X2.here hx rfl (hb hby at_145) rfl (XS.l2i X2.here hx rfl (hb hby at_146) rfl (XS.i2c X2.here hx rfl (hb hby at_147) rfl kk_)))))))) ?_
              show own_GoesH _ _ _ _ _ _ _ _ _ T2 (mkF m 148 #[iv p1, iv p2, iv p3, iv p4, .val (.long p5), .second, iv p6, iv l2, iv c2, iv n1, iv n2, iv a1, iv b1, iv sc, iv a2, .unset, .unset, .unset, .unset, .unset, .unset, .unset, .unset] [(.int (((((p5.toUInt64 >>> ((24 : Int32) &&& 0x3f).toInt64.toUInt64).toInt64) &&& (255 : Int64)).toInt32).toUInt32.toUInt16.toUInt32.toInt32))])
              exact J148 ((((((p5.toUInt64 >>> ((24 : Int32) &&& 0x3f).toInt64.toUInt64).toInt64) &&& (255 : Int64)).toInt32).toUInt32.toUInt16.toUInt32.toInt32)) (own_inc _)
            · refine own_stH (fun _ kk_ => XS.ifNo X2.here hx rfl (hb hby at_129) rfl (XT.i0_eq_f q148) (XS.iload X2.here hx rfl (hb hby at_132) rfl (XS.goto X2.here hx rfl (pc0 := 134) (pc' := 148) rfl (hb hby at_134) (by decide) (by decide) kk_))) ?_
              show own_GoesH _ _ _ _ _ _ _ _ _ T2 (mkF m 148 #[iv p1, iv p2, iv p3, iv p4, .val (.long p5), .second, iv p6, iv l2, iv c2, iv n1, iv n2, iv a1, iv b1, iv sc, iv a2, .unset, .unset, .unset, .unset, .unset, .unset, .unset, .unset] [(.int b1)])
              exact J148 (b1) hi_b1
          rcases Classical.em (sc = (0 : Int32)) with q125 | q125
          · refine own_stH (fun _ kk_ => XS.ifYes X2.here hx rfl (pc0 := 106) (pc' := 114) rfl (hb hby at_106) rfl (XT.i0_eq_t q125) (by decide) (by decide) (XS.lload X2.here hx rfl (hb hby at_114) rfl (XS.bipush X2.here hx rfl (hb hby at_116) (XS.lushr X2.here hx rfl (hb hby at_118) rfl (X2.ldc2Long hx hown (mvT hZ (own_w hw 4 rfl)) (g := (mkF m 119 #[iv p1, iv p2, iv p3, iv p4, .val (.long p5), .second, iv p6, iv l2, iv c2, iv n1, iv n2, iv a1, iv b1, iv sc, .unset, .unset, .unset, .unset, .unset, .unset, .unset, .unset, .unset] [(.long ((p5.toUInt64 >>> ((16 : Int32) &&& 0x3f).toInt64.toUInt64).toInt64))])) rfl (hb hby at_119) _ (XS.land X2.here hx rfl (hb hby at_122) rfl (XS.l2i X2.here hx rfl (hb hby at_123) rfl (XS.i2c X2.here hx rfl (hb hby at_124) rfl kk_)))))))) ?_
            show own_GoesH _ _ _ _ _ _ _ _ _ T2 (mkF m 125 #[iv p1, iv p2, iv p3, iv p4, .val (.long p5), .second, iv p6, iv l2, iv c2, iv n1, iv n2, iv a1, iv b1, iv sc, .unset, .unset, .unset, .unset, .unset, .unset, .unset, .unset, .unset] [(.int (((((p5.toUInt64 >>> ((16 : Int32) &&& 0x3f).toInt64.toUInt64).toInt64) &&& (255 : Int64)).toInt32).toUInt32.toUInt16.toUInt32.toInt32))])
            exact J125 ((((((p5.toUInt64 >>> ((16 : Int32) &&& 0x3f).toInt64.toUInt64).toInt64) &&& (255 : Int64)).toInt32).toUInt32.toUInt16.toUInt32.toInt32)) (own_inc _)
          · refine own_stH (fun _ kk_ => XS.ifNo X2.here hx rfl (hb hby at_106) rfl (XT.i0_eq_f q125) (XS.iload X2.here hx rfl (hb hby at_109) rfl (XS.goto X2.here hx rfl (pc0 := 111) (pc' := 125) rfl (hb hby at_111) (by decide) (by decide) kk_))) ?_
            show own_GoesH _ _ _ _ _ _ _ _ _ T2 (mkF m 125 #[iv p1, iv p2, iv p3, iv p4, .val (.long p5), .second, iv p6, iv l2, iv c2, iv n1, iv n2, iv a1, iv b1, iv sc, .unset, .unset, .unset, .unset, .unset, .unset, .unset, .unset, .unset] [(.int a1)])
            exact J125 (a1) hi_a1
        rcases Classical.em ((p6 &&& (128 : Int32)) = (0 : Int32)) with q94 | q94
        · refine own_stH (fun _ kk_ => XS.ifYes X2.here hx rfl (pc0 := 94) (pc' := 101) rfl (hb hby at_94) rfl (XT.i0_eq_t q94) (by decide) (by decide) (XS.iconst X2.here hx rfl (hb hby at_101) kk_)) ?_
          show own_GoesH _ _ _ _ _ _ _ _ _ T2 (mkF m 102 #[iv p1, iv p2, iv p3, iv p4, .val (.long p5), .second, iv p6, iv l2, iv c2, iv n1, iv n2, iv a1, iv b1, .unset, .unset, .unset, .unset, .unset, .unset, .unset, .unset, .unset, .unset] [(.int (0 : Int32))])
          exact J102 ((0 : Int32))
        · refine own_stH (fun _ kk_ => XS.ifNo X2.here hx rfl (hb hby at_94) rfl (XT.i0_eq_f q94) (XS.iconst X2.here hx rfl (hb hby at_97) (XS.goto X2.here hx rfl (pc0 := 98) (pc' := 102) rfl (hb hby at_98) (by decide) (by decide) kk_))) ?_
          show own_GoesH _ _ _ _ _ _ _ _ _ T2 (mkF m 102 #[iv p1, iv p2, iv p3, iv p4, .val (.long p5), .second, iv p6, iv l2, iv c2, iv n1, iv n2, iv a1, iv b1, .unset, .unset, .unset, .unset, .unset, .unset, .unset, .unset, .unset, .unset] [(.int (1 : Int32))])
          exact J102 ((1 : Int32))
      rcases Classical.em ((p6 &&& (16 : Int32)) = (0 : Int32)) with q45 | q45
      · refine own_stH (fun _ kk_ => XS.ifYes X1.here hx rfl (pc0 := 45) (pc' := 53) rfl (hb hby at_45) rfl (XT.i0_eq_t q45) (by decide) (by decide) (XS.iload X1.here hx rfl (hb hby at_53) rfl (XS.iconst X1.here hx rfl (hb hby at_55) (XS.iushr X1.here hx rfl (hb hby at_56) rfl (XS.iconst X1.here hx rfl (hb hby at_57) (XS.iand X1.here hx rfl (hb hby at_58) rfl (XS.iconst X1.here hx rfl (hb hby at_59) kk_))))))) ?_
        show own_GoesH _ _ _ _ _ _ _ _ _ T1 (mkF m 60 #[iv p1, iv p2, iv p3, iv p4, .val (.long p5), .second, iv p6, iv l2, iv c2, iv n1, .unset, .unset, .unset, .unset, .unset, .unset, .unset, .unset, .unset, .unset, .unset, .unset, .unset] [(.int (2 : Int32)), (.int (((p6.toUInt32 >>> ((5 : Int32) &&& 31).toUInt32).toInt32) &&& (3 : Int32)))])
        obtain ⟨_, _, ⟨T3, L3, k3, n3⟩, -, X3, ⟨Lc3, hQ3, l3, y3, z3⟩, st3⟩ := Jvm.LawKit.callS X1 hx (y := yy0) hown (mvT hZ (own_w hw 0 rfl)) (mvT hZ (own_w hw 1 rfl)) (mvT hZ (own_w hw 2 rfl)) (mvT hZ (own_w hw 3 rfl)) (by decide) (backOf (W := 0) (rm1 l Z a0 hw [] ((((p6.toUInt32 >>> ((5 : Int32) &&& 31).toUInt32).toInt32) &&& (3 : Int32))) ((2 : Int32)) h0 n0 Z0) hZ (own_w hw 3 rfl) (own_w hw 2 rfl) (by decide) (by decide)) (g := (mkF m 60 #[iv p1, iv p2, iv p3, iv p4, .val (.long p5), .second, iv p6, iv l2, iv c2, iv n1, .unset, .unset, .unset, .unset, .unset, .unset, .unset, .unset, .unset, .unset, .unset, .unset, .unset] [(.int (2 : Int32)), (.int (((p6.toUInt32 >>> ((5 : Int32) &&& 31).toUInt32).toInt32) &&& (3 : Int32)))])) rfl (by rw [hml]; rfl) (argsL := [(.int (((p6.toUInt32 >>> ((5 : Int32) &&& 31).toUInt32).toInt32) &&& (3 : Int32))), (.int (2 : Int32))]) (rest := []) (lenOf pd_11 rfl) rfl (by show 2 * 0 + _ ≤ _; exact Nat.le_of_eq rfl) (hb hby at_60) (fun _ _ => ⟨rfl, eq1, (by decide : 0 + 0 ≤ _), (by decide : 0 + 0 ≤ _)⟩)
        dsimp only [Pt.U, Pt.locs, Pt.cells, Pt.slots] at X3 l3 y3 z3 st3 hQ3
        subst l3 y3 z3
        obtain ⟨rfl, Nq3, eq3⟩ := hQ3
        have N3 := Fr.app N1 Nq3
        refine own_stH st3 ?_
        show own_GoesH _ _ _ _ _ _ _ _ _ T3 (mkF m 63 #[iv p1, iv p2, iv p3, iv p4, .val (.long p5), .second, iv p6, iv l2, iv c2, iv n1, .unset, .unset, .unset, .unset, .unset, .unset, .unset, .unset, .unset, .unset, .unset, .unset, .unset] [(.int (own_min (((p6.toUInt32 >>> ((5 : Int32) &&& 31).toUInt32).toInt32) &&& (3 : Int32)) (2 : Int32)))])
        exact J63 _ _ _ _ _ ((own_min (((p6.toUInt32 >>> ((5 : Int32) &&& 31).toUInt32).toInt32) &&& (3 : Int32)) (2 : Int32))) (X3.more (by decide) (by decide)) eq3 N3 Z0 hS0 Z0 hZ hown C0 p_0 (own_len _)
      · refine own_stH (fun _ kk_ => XS.ifNo X1.here hx rfl (hb hby at_45) rfl (XT.i0_eq_f q45) (XS.iload X1.here hx rfl (hb hby at_48) rfl (XS.goto X1.here hx rfl (pc0 := 50) (pc' := 63) rfl (hb hby at_50) (by decide) (by decide) kk_))) ?_
        show own_GoesH _ _ _ _ _ _ _ _ _ T1 (mkF m 63 #[iv p1, iv p2, iv p3, iv p4, .val (.long p5), .second, iv p6, iv l2, iv c2, iv n1, .unset, .unset, .unset, .unset, .unset, .unset, .unset, .unset, .unset, .unset, .unset, .unset, .unset] [(.int n1)])
        exact J63 _ _ _ _ _ (n1) (X1.more (by decide) (by decide)) eq1 N1 Z0 hS0 Z0 hZ hown C0 p_0 hn1
    rcases Classical.em ((p6 &&& (2 : Int32)) = (0 : Int32)) with q26 | q26
    · refine own_stH (fun _ kk_ => XS.ifYes X0.here hx rfl (pc0 := 18) (pc' := 25) rfl (hb hby at_18) rfl (XT.i0_eq_t q26) (by decide) (by decide) (XS.iloadN X0.here hx rfl (hb hby at_25) rfl kk_)) ?_
      show own_GoesH _ _ _ _ _ _ _ _ _ s₁ (mkF m 26 #[iv p1, iv p2, iv p3, iv p4, .val (.long p5), .second, iv p6, iv l2, .unset, .unset, .unset, .unset, .unset, .unset, .unset, .unset, .unset, .unset, .unset, .unset, .unset, .unset, .unset] [(.int p4)])
      exact J26 (p4)
    · refine own_stH (fun _ kk_ => XS.ifNo X0.here hx rfl (hb hby at_18) rfl (XT.i0_eq_f q26) (XS.iloadN X0.here hx rfl (hb hby at_21) rfl (XS.goto X0.here hx rfl (pc0 := 22) (pc' := 26) rfl (hb hby at_22) (by decide) (by decide) kk_))) ?_
      show own_GoesH _ _ _ _ _ _ _ _ _ s₁ (mkF m 26 #[iv p1, iv p2, iv p3, iv p4, .val (.long p5), .second, iv p6, iv l2, .unset, .unset, .unset, .unset, .unset, .unset, .unset, .unset, .unset, .unset, .unset, .unset, .unset, .unset, .unset] [(.int p2)])
      exact J26 (p2)
  rcases Classical.em ((p6 &&& (1 : Int32)) = (0 : Int32)) with q12 | q12
  · refine own_stH (fun _ kk_ => XS.ifYes X0.here hx rfl (pc0 := 4) (pc' := 11) rfl (hb hby at_4) rfl (XT.i0_eq_t q12) (by decide) (by decide) (XS.iloadN X0.here hx rfl (hb hby at_11) rfl kk_)) ?_
    show own_GoesH _ _ _ _ _ _ _ _ _ s₁ (mkF m 12 #[iv p1, iv p2, iv p3, iv p4, .val (.long p5), .second, iv p6, .unset, .unset, .unset, .unset, .unset, .unset, .unset, .unset, .unset, .unset, .unset, .unset, .unset, .unset, .unset, .unset] [(.int p3)])
    exact J12 (p3)
  · refine own_stH (fun _ kk_ => XS.ifNo X0.here hx rfl (hb hby at_4) rfl (XT.i0_eq_f q12) (XS.iloadN X0.here hx rfl (hb hby at_7) rfl (XS.goto X0.here hx rfl (pc0 := 8) (pc' := 12) rfl (hb hby at_8) (by decide) (by decide) kk_))) ?_
    show own_GoesH _ _ _ _ _ _ _ _ _ s₁ (mkF m 12 #[iv p1, iv p2, iv p3, iv p4, .val (.long p5), .second, iv p6, .unset, .unset, .unset, .unset, .unset, .unset, .unset, .unset, .unset, .unset, .unset, .unset, .unset, .unset, .unset, .unset] [(.int p1)])
    exact J12 (p1)
set_option maxRecDepth 65536 in
set_option maxHeartbeats 40000000 in
theorem comes_1 {Post : Tables → Env → Array Value → State → Outcome → State → Prop} (hpost : ∀ tb e args s v u, (limb_1_1.after args s (.returned v) u = true ∧ limb_1_2.after args s (.returned v) u = true ∧ True) → ReturnedEndW s (.returned v) u (Jvm.fieldLocs frame_1_writes args s ++ Jvm.arrayLocs frame_1_arrays args s ++ Jvm.staticLocs frame_1_statics s) 32 1152 → Post tb e args s (.returned v) u) :
    ArmFor flags0 classFile x code maxLocals ret World_1 tables_1 room_1 Calls_1 rest_1 Pre_1 Post := by
  intro l hfl _ _ p e ha hc hk s m args below hf hA hF happ hP
  obtain ⟨hcalls, hrest, hpre⟩ := hP
  obtain ⟨-, -, -, hnamed, -, -, -, hat⟩ := (Spec.applies_iff hf).mp happ
  obtain ⟨hg, hn⟩ := and_e (Cond.before_iff.mp (show (Jvm.Cond.and given_1 narrow_1).before args s = true from hpre))
  obtain ⟨h1, g0⟩ := and_e hg
  obtain ⟨w0, w1, w2, w3, w4, w5, rfl⟩ : ∃ w0 w1 w2 w3 w4 w5 : Value, args = #[w0, w1, w2, w3, w4, w5] := by
    have hs : args.size = 6 := by simpa [Cond.value, given_1] using h1
    obtain ⟨L⟩ := args
    match L, hs with
    | [w0, w1, w2, w3, w4, w5], _ => exact ⟨w0, w1, w2, w3, w4, w5, rfl⟩
  have hw := fun d (hd : d ∈ tables_1) => atoms_spec (ws := Jvm.Cond.code x code maxLocals ret :: tables_1) hat d (List.mem_cons_of_mem _ hd)
  have hfit : Fit s := fun {y c} hc i hi => by
    obtain ⟨ha, rfl⟩ := Array.getElem?_eq_some_iff.mp hc
    have q := List.all_eq_true.mp ((Array.all_eq_true_iff_forall_mem.mp hF) _ (Array.getElem_mem ha)) i (List.mem_range.mpr hi)
    simpa [Array.getElem?_eq_getElem hi] using q
  obtain ⟨k0, g1⟩ := and_e g0
  obtain ⟨i0, e0⟩ := is_v k0
  obtain rfl : w0 = (.int i0) := Option.some.inj e0
  obtain ⟨k1, g2⟩ := and_e g1
  obtain ⟨i1, e1⟩ := is_v k1
  obtain rfl : w1 = (.int i1) := Option.some.inj e1
  obtain ⟨k2, g3⟩ := and_e g2
  obtain ⟨i2, e2⟩ := is_v k2
  obtain rfl : w2 = (.int i2) := Option.some.inj e2
  obtain ⟨k3, g4⟩ := and_e g3
  obtain ⟨i3, e3⟩ := is_v k3
  obtain rfl : w3 = (.int i3) := Option.some.inj e3
  obtain ⟨k4, g5⟩ := and_e g4
  obtain ⟨i4, e4⟩ := isL_v k4
  obtain rfl : w4 = (.long i4) := Option.some.inj e4
  obtain ⟨i5, e5⟩ := is_v g5
  obtain rfl : w5 = (.int i5) := Option.some.inj e5
  obtain ⟨hsets, hown0⟩ := atoms_of _ (rest_1_c_eq ▸ (show rest_1_c.before _ s = true from hrest))
  obtain ⟨cs, ecs⟩ := is_v (Cond.before_iff.mp (hsets _ (List.mem_of_getElem? (i := 1) rfl)))
  have St_cs : Sta s s.heap "java/lang/String" "COMPACT_STRINGS" "Z" (.int cs) := Sta.start ecs (Or.inl (hsets _ (List.mem_of_getElem? (i := 0) rfl)))
  have hcs : ¬ cs = (0 : Int32) := gotF (Cond.eq_ints ecs (Term.int_eval (0))) (not_v (Cond.before_iff.mp (hsets _ (List.mem_of_getElem? (i := 2) rfl))))
  have hEL : EW s _ consts_1 := (EW.cons (own_w hw 23 rfl) (by decide) EW.nil)
  have hCH : CHv s consts_1 s.vm s.heap := CHv.start hEL (fun q hq => hcalls.1 q hq) (hsets _ (List.mem_of_getElem? (i := 2) rfl)) (own_w hw 24 rfl) (own_w hw 10 rfl)
  obtain ⟨n, o, h1, h2, h3, _, L, rfl, ⟨rfl, N⟩, -, hq⟩ := rm0 l s _ hw tables_1 hEL i0 i1 i2 i3 i4 i5 cs s.heap s.heap.size (Nat.le_refl _) St_cs hcs p e ha hc hk s m _ below hf ((Spec.applies_iff_loose hf).mp happ).1 ⟨rfl, State.Warmed39.refl s, rfl, hCH, fun _ q => nomatch q⟩ trivial
  refine ⟨n, _, h1, h2, h3, hpost _ _ _ _ _ _ ⟨Cond.after_iff.mpr rfl, Cond.after_iff.mpr (eq_i res_at (Term.int_eval (1)) rfl), trivial⟩ ⟨hq.1, hq.2.1, hq.2.2.1, (hq.2.2.2.sift fun y hy => Or.inr (N y hy)).mono (by decide) (by decide)⟩⟩
theorem main_1_1 : Claimed_1_1 := comes_1 fun _ _ _ _ _ _ h hF => ⟨h.1, hF⟩
theorem main_1_2 : Claimed_1_2 := comes_1 fun _ _ _ _ _ _ h hF => ⟨h.2.1, hF⟩
end Jvm.Pilot.@@N@@
namespace Jvm.Pilot.@@N@@
open Jvm Jvm.ClassFile Sem Op Lib Jvm.Free Jvm.Stand Jvm.Pilot.@@N@@.Jvm.D
/-! MADE BY PROGRAM (witnessworld.py) out of the Statement's table words and the real class files: 21 classes; the members and pool entries that the words name. The judged class is class 1, her method 2. -/
namespace start1
open Jvm.ClassFile
def u (s : String) : CpInfo := .utf8 (stringToUtf16 s)
/-- a pool by its gaps: so many unusable entries, then the entry; so many at the end -/
def gap : Nat → List CpInfo → List CpInfo
  | 0, r => r
  | n + 1, r => .unusable :: gap n r
def poolList (es : List (Nat × CpInfo)) (last : Nat) : List CpInfo := es.foldr (fun e r => gap e.1 (e.2 :: r)) (gap last [])
def pool (es : List (Nat × CpInfo)) (last : Nat) : Array CpInfo := ⟨poolList es last⟩
def fileOf (pool : Array CpInfo) (this : Nat) (attrs : Array Attribute := #[]) (ms : Array MethodInfo := #[]) (fl : Nat := 33) (sup : Nat := 0) (ifs : Array Nat := #[]) (fds : Array FieldInfo := #[]) : ClassFile where
  minorVersion := 0
  majorVersion := 65
  constantPool := pool
  accessFlags := fl
  thisClass := this
  superClass := sup
  interfaces := ifs
  fields := fds
  methods := ms
  attributes := attrs
def plain (name : String) (sup : Option ClassId) : Class where
  name := name
  kind := .ordinary
  loader := none
  accessFlags := 33
  super := sup
  interfaces := #[]
  cf := none
  fields := #[]
  methods := #[]
  instanceTypes := #[]
  staticTypes := #[]
  resolved := #[]
  callSites := []
  init := .initialized
  statics := none
  mirror := none

def pool0 : Array CpInfo := pool [(5, u "<init>"), (0, u "()V"), (1, .class_ 10), (1, u "java/lang/Object")] 113

def k0c0 : Code := { maxStack := 0, maxLocals := 1, code := object_method_1_code, exceptionTable := #[], attributes := #[] }
def k0m0 : Method := { name := "<init>", desc := "()V", sig := { parameters := [], returnType := none }, accessFlags := 1, code := some k0c0 }
/-- java/lang/Object -/
def k0 : Class := { plain "java/lang/Object" none with
  accessFlags := 33
  interfaces := #[]
  cf := some (fileOf pool0 8 #[] #[{ accessFlags := 1, nameIndex := 5, descriptorIndex := 6, attributes := #[] }] 33 0 #[] #[])
  fields := #[]
  methods := #[k0m0]
  instanceTypes := #[]
  staticTypes := #[]
  resolved := Array.replicate 124 none
  statics := none }

def pool1 : Array CpInfo := pool [(2, .class_ 4), (1, u "java/lang/Object"), (0, u "<init>"), (0, u "()V"), (0, .class_ 8), (0, u "java/lang/String"), (0, .methodref 7 10), (0, .nameAndType 5 11), (0, u "([C)V"), (0, .methodref 7 13), (0, .nameAndType 14 15), (0, u "valueOf"), (0, u "(C)Ljava/lang/String;"), (0, .methodref 17 18), (0, .class_ 19), (0, .nameAndType 20 21), (0, u "java/lang/Math"), (0, u "min"), (0, u "(II)I"), (0, .long 255), (1, .methodref 25 26), (0, .class_ 27), (0, .nameAndType 28 29), (0, u "com/example/majra/majra/lang/RefusalEqualsPinLaw"), (0, u "text"), (0, u "(ICC)Ljava/lang/String;"), (0, .class_ 31), (0, u "com/example/majra/majra/lang/Command$Refusal"), (0, .methodref 30 33), (0, .nameAndType 5 34), (0, u "(IILjava/lang/String;)V"), (0, .methodref 30 36), (0, .nameAndType 37 38), (0, u "equals"), (0, u "(Ljava/lang/Object;)Z"), (3, u "law"), (0, u "(IIIIJI)Z")] 6

def k1m0 : Method := { name := "<init>", desc := "()V", sig := { parameters := [], returnType := none }, accessFlags := 2, code := none }
def k1c1 : Code := { maxStack := 6, maxLocals := 3, code := method_2_code, exceptionTable := #[], attributes := #[] }
def k1m1 : Method := { name := "text", desc := "(ICC)Ljava/lang/String;", sig := { parameters := [.int, .char, .char], returnType := some (.object "java/lang/String") }, accessFlags := 10, code := some k1c1 }
def k1c2 : Code := { maxStack := 5, maxLocals := 23, code := code, exceptionTable := #[], attributes := #[] }
def k1m2 : Method := { name := "law", desc := "(IIIIJI)Z", sig := { parameters := [.int, .int, .int, .int, .long, .int], returnType := some .boolean }, accessFlags := 9, code := some k1c2 }
/-- com/example/majra/majra/lang/RefusalEqualsPinLaw -/
def k1 : Class := { plain "com/example/majra/majra/lang/RefusalEqualsPinLaw" (some 0) with
  accessFlags := 49
  interfaces := #[]
  cf := some (fileOf pool1 25 #[] #[{ accessFlags := 2, nameIndex := 5, descriptorIndex := 6, attributes := #[] }, { accessFlags := 10, nameIndex := 28, descriptorIndex := 29, attributes := #[] }, { accessFlags := 9, nameIndex := 42, descriptorIndex := 43, attributes := #[] }] 49 2 #[] #[])
  fields := #[]
  methods := #[k1m0, k1m1, k1m2]
  instanceTypes := #[]
  staticTypes := #[]
  resolved := Array.replicate 50 none
  statics := none }

def pool2 : Array CpInfo := pool [(1, .class_ 2), (0, u "java/lang/Math"), (1, .class_ 6), (1, u "java/lang/Object"), (0, u "<init>"), (0, u "()V"), (89, .class_ 100), (1, u "java/lang/Math$RandomNumberGeneratorHolder"), (71, u "negativeZeroFloatBits"), (0, u "J"), (2, u "negativeZeroDoubleBits"), (24, u "min"), (43, u "$assertionsDisabled"), (0, u "Z"), (88, u "(II)I"), (2, u "twoToTheDoubleScaleDown"), (0, u "D"), (4, u "twoToTheDoubleScaleUp"), (9, u "E"), (3, u "PI"), (2, u "TAU"), (2, u "DEGREES_TO_RADIANS"), (0, u "RADIANS_TO_DEGREES")] 94

def k2m0 : Method := { name := "<init>", desc := "()V", sig := { parameters := [], returnType := none }, accessFlags := 2, code := none }
def k2c1 : Code := { maxStack := 2, maxLocals := 2, code := jdk_29_method_69_code, exceptionTable := #[], attributes := #[] }
def k2m1 : Method := { name := "min", desc := "(II)I", sig := { parameters := [.int, .int], returnType := some .int }, accessFlags := 9, code := some k2c1 }
/-- java/lang/Math -/
def k2 : Class := { plain "java/lang/Math" (some 0) with
  accessFlags := 49
  interfaces := #[]
  cf := some (fileOf pool2 1 #[.nestMembers #[98]] #[{ accessFlags := 2, nameIndex := 7, descriptorIndex := 8, attributes := #[] }, { accessFlags := 9, nameIndex := 201, descriptorIndex := 335, attributes := #[] }] 49 4 #[] #[{ accessFlags := 25, nameIndex := 354, descriptorIndex := 339, attributes := #[] }, { accessFlags := 25, nameIndex := 358, descriptorIndex := 339, attributes := #[] }, { accessFlags := 25, nameIndex := 361, descriptorIndex := 339, attributes := #[] }, { accessFlags := 26, nameIndex := 364, descriptorIndex := 339, attributes := #[] }, { accessFlags := 26, nameIndex := 365, descriptorIndex := 339, attributes := #[] }, { accessFlags := 26, nameIndex := 172, descriptorIndex := 173, attributes := #[] }, { accessFlags := 26, nameIndex := 176, descriptorIndex := 173, attributes := #[] }, { accessFlags := 8, nameIndex := 344, descriptorIndex := 339, attributes := #[] }, { accessFlags := 8, nameIndex := 338, descriptorIndex := 339, attributes := #[] }, { accessFlags := 4120, nameIndex := 245, descriptorIndex := 246, attributes := #[] }])
  fields := #[{ name := "E", type := .double, accessFlags := 25, slot := 0, constantValue := 0 }, { name := "PI", type := .double, accessFlags := 25, slot := 1, constantValue := 0 }, { name := "TAU", type := .double, accessFlags := 25, slot := 2, constantValue := 0 }, { name := "DEGREES_TO_RADIANS", type := .double, accessFlags := 26, slot := 3, constantValue := 0 }, { name := "RADIANS_TO_DEGREES", type := .double, accessFlags := 26, slot := 4, constantValue := 0 }, { name := "negativeZeroFloatBits", type := .long, accessFlags := 26, slot := 5, constantValue := 0 }, { name := "negativeZeroDoubleBits", type := .long, accessFlags := 26, slot := 6, constantValue := 0 }, { name := "twoToTheDoubleScaleUp", type := .double, accessFlags := 8, slot := 7, constantValue := 0 }, { name := "twoToTheDoubleScaleDown", type := .double, accessFlags := 8, slot := 8, constantValue := 0 }, { name := "$assertionsDisabled", type := .boolean, accessFlags := 4120, slot := 9, constantValue := 0 }]
  methods := #[k2m0, k2m1]
  instanceTypes := #[]
  staticTypes := #[.double, .double, .double, .double, .double, .long, .long, .double, .double, .boolean]
  resolved := Array.replicate 460 none
  statics := none }

def pool3 : Array CpInfo := pool [(1, .class_ 2), (0, u "java/io/Serializable"), (0, .class_ 4), (0, u "java/lang/Object")] 2

/-- java/io/Serializable -/
def k3 : Class := { plain "java/io/Serializable" (some 0) with
  accessFlags := 1537
  interfaces := #[]
  cf := some (fileOf pool3 1 #[] #[] 1537 3 #[] #[])
  fields := #[]
  methods := #[]
  instanceTypes := #[]
  staticTypes := #[]
  resolved := Array.replicate 7 none
  statics := none }

def pool4 : Array CpInfo := pool [(1, .class_ 2), (0, u "java/lang/Comparable"), (0, .class_ 4), (0, u "java/lang/Object")] 7

/-- java/lang/Comparable -/
def k4 : Class := { plain "java/lang/Comparable" (some 0) with
  accessFlags := 1537
  interfaces := #[]
  cf := some (fileOf pool4 1 #[] #[] 1537 3 #[] #[])
  fields := #[]
  methods := #[]
  instanceTypes := #[]
  staticTypes := #[]
  resolved := Array.replicate 12 none
  statics := none }

def pool5 : Array CpInfo := pool [(2, .class_ 4), (1, u "java/lang/CharSequence"), (42, .class_ 48), (0, u "java/lang/CharSequence$1CodePointIterator"), (10, .class_ 60), (0, u "java/lang/CharSequence$1CharIterator"), (5, .class_ 67), (0, u "java/lang/Object")] 63

/-- java/lang/CharSequence -/
def k5 : Class := { plain "java/lang/CharSequence" (some 0) with
  accessFlags := 1537
  interfaces := #[]
  cf := some (fileOf pool5 2 #[.nestMembers #[47, 59]] #[] 1537 66 #[] #[])
  fields := #[]
  methods := #[]
  instanceTypes := #[]
  staticTypes := #[]
  resolved := Array.replicate 131 none
  statics := none }

def pool6 : Array CpInfo := pool [(1, .class_ 2), (0, u "java/lang/constant/Constable"), (0, .class_ 4), (0, u "java/lang/Object")] 6

/-- java/lang/constant/Constable -/
def k6 : Class := { plain "java/lang/constant/Constable" (some 0) with
  accessFlags := 1537
  interfaces := #[]
  cf := some (fileOf pool6 1 #[] #[] 1537 3 #[] #[])
  fields := #[]
  methods := #[]
  instanceTypes := #[]
  staticTypes := #[]
  resolved := Array.replicate 11 none
  statics := none }

def pool7 : Array CpInfo := pool [(1, .class_ 2), (0, u "java/lang/constant/ConstantDesc"), (0, .class_ 4), (0, u "java/lang/Object")] 32

/-- java/lang/constant/ConstantDesc -/
def k7 : Class := { plain "java/lang/constant/ConstantDesc" (some 0) with
  accessFlags := 1537
  interfaces := #[]
  cf := some (fileOf pool7 1 #[] #[] 1537 3 #[] #[])
  fields := #[]
  methods := #[]
  instanceTypes := #[]
  staticTypes := #[]
  resolved := Array.replicate 37 none
  statics := none }

def pool8 : Array CpInfo := pool [(1, .methodref 2 3), (0, .class_ 4), (0, .nameAndType 5 6), (0, u "java/lang/Object"), (0, u "<init>"), (0, u "()V"), (0, .string 8), (0, u ""), (0, .fieldref 10 11), (0, .class_ 12), (0, .nameAndType 13 14), (0, u "java/lang/String"), (0, u "value"), (0, u "[B"), (0, .fieldref 10 16), (0, .nameAndType 17 18), (0, u "coder"), (0, u "B"), (2, u "hash"), (0, u "I"), (2, u "hashIsZero"), (0, u "Z"), (0, .methodref 10 28), (0, .nameAndType 5 29), (0, u "([CIILjava/lang/Void;)V"), (8, .fieldref 10 39), (0, .nameAndType 40 26), (0, u "COMPACT_STRINGS"), (1, .class_ 44), (1, u "java/lang/StringUTF16"), (0, u "compress"), (1, .methodref 42 48), (0, .nameAndType 49 50), (0, u "coderFromArrayLen"), (0, u "([BI)B"), (2, u "toBytes"), (53, .class_ 109), (1, u "java/lang/StringLatin1"), (67, .methodref 42 178), (0, .nameAndType 45 179), (0, u "([CII)[B"), (29, .methodref 10 210), (0, .nameAndType 5 211), (0, u "([BB)V"), (157, u "(C)Z"), (171, .methodref 107 542), (0, .nameAndType 543 544), (0, u "equals"), (0, u "([B[B)Z"), (28, u "(Ljava/lang/Object;)Z"), (1, .class_ 576), (0, u "java/lang/CharSequence"), (22, u "CASE_INSENSITIVE_ORDER"), (0, u "Ljava/util/Comparator;"), (181, u "valueOf"), (0, u "(C)Ljava/lang/String;"), (226, u "([C)V"), (4, .methodref 107 1016), (0, .nameAndType 1017 369), (0, u "canEncode"), (0, .methodref 107 1019), (0, .nameAndType 53 1020), (0, u "(C)[B"), (80, u "serialPersistentFields"), (0, u "[Ljava/io/ObjectStreamField;"), (0, .class_ 1104), (0, u "java/lang/String$CaseInsensitiveComparator"), (1, .class_ 1107), (0, u "java/io/Serializable"), (0, .class_ 1109), (0, u "java/lang/Comparable"), (0, .class_ 1111), (0, u "java/lang/constant/Constable"), (0, .class_ 1113), (0, u "java/lang/constant/ConstantDesc"), (2, u "serialVersionUID"), (0, u "J"), (3, u "REPL"), (0, u "C"), (2, u "LATIN1"), (1, u "UTF16")] 323

def k8m0 : Method := { name := "<init>", desc := "()V", sig := { parameters := [], returnType := none }, accessFlags := 1, code := none }
def k8c1 : Code := { maxStack := 5, maxLocals := 2, code := jdk_42_method_3_code, exceptionTable := #[], attributes := #[] }
def k8m1 : Method := { name := "<init>", desc := "([C)V", sig := { parameters := [(.array .char)], returnType := none }, accessFlags := 1, code := some k8c1 }
def k8c2 : Code := { maxStack := 2, maxLocals := 3, code := jdk_42_method_66_code, exceptionTable := #[], attributes := #[] }
def k8m2 : Method := { name := "equals", desc := "(Ljava/lang/Object;)Z", sig := { parameters := [(.object "java/lang/Object")], returnType := some .boolean }, accessFlags := 1, code := some k8c2 }
def k8c3 : Code := { maxStack := 4, maxLocals := 1, code := jdk_42_method_139_code, exceptionTable := #[], attributes := #[] }
def k8m3 : Method := { name := "valueOf", desc := "(C)Ljava/lang/String;", sig := { parameters := [.char], returnType := some (.object "java/lang/String") }, accessFlags := 9, code := some k8c3 }
def k8c4 : Code := { maxStack := 4, maxLocals := 6, code := jdk_42_method_149_code, exceptionTable := #[], attributes := #[] }
def k8m4 : Method := { name := "<init>", desc := "([CIILjava/lang/Void;)V", sig := { parameters := [(.array .char), .int, .int, (.object "java/lang/Void")], returnType := none }, accessFlags := 2, code := some k8c4 }
def k8c5 : Code := { maxStack := 2, maxLocals := 3, code := jdk_42_method_151_code, exceptionTable := #[], attributes := #[] }
def k8m5 : Method := { name := "<init>", desc := "([BB)V", sig := { parameters := [(.array .byte), .byte], returnType := none }, accessFlags := 0, code := some k8c5 }
/-- java/lang/String -/
def k8 : Class := { plain "java/lang/String" (some 0) with
  accessFlags := 49
  interfaces := #[3, 4, 5, 6, 7]
  cf := some (fileOf pool8 10 #[.nestMembers #[1103]] #[{ accessFlags := 1, nameIndex := 5, descriptorIndex := 6, attributes := #[] }, { accessFlags := 1, nameIndex := 5, descriptorIndex := 1010, attributes := #[] }, { accessFlags := 1, nameIndex := 543, descriptorIndex := 573, attributes := #[] }, { accessFlags := 9, nameIndex := 782, descriptorIndex := 783, attributes := #[] }, { accessFlags := 2, nameIndex := 5, descriptorIndex := 29, attributes := #[] }, { accessFlags := 0, nameIndex := 5, descriptorIndex := 211, attributes := #[] }] 49 2 #[1106, 1108, 575, 1110, 1112] #[{ accessFlags := 18, nameIndex := 13, descriptorIndex := 14, attributes := #[] }, { accessFlags := 18, nameIndex := 17, descriptorIndex := 18, attributes := #[] }, { accessFlags := 2, nameIndex := 21, descriptorIndex := 22, attributes := #[] }, { accessFlags := 2, nameIndex := 25, descriptorIndex := 26, attributes := #[] }, { accessFlags := 26, nameIndex := 1116, descriptorIndex := 1117, attributes := #[] }, { accessFlags := 24, nameIndex := 40, descriptorIndex := 26, attributes := #[] }, { accessFlags := 26, nameIndex := 1101, descriptorIndex := 1102, attributes := #[] }, { accessFlags := 26, nameIndex := 1121, descriptorIndex := 1122, attributes := #[] }, { accessFlags := 25, nameIndex := 599, descriptorIndex := 600, attributes := #[] }, { accessFlags := 24, nameIndex := 1125, descriptorIndex := 18, attributes := #[] }, { accessFlags := 24, nameIndex := 1127, descriptorIndex := 18, attributes := #[] }])
  fields := #[{ name := "value", type := (.array .byte), accessFlags := 18, slot := 0, constantValue := 0 }, { name := "coder", type := .byte, accessFlags := 18, slot := 1, constantValue := 0 }, { name := "hash", type := .int, accessFlags := 2, slot := 2, constantValue := 0 }, { name := "hashIsZero", type := .boolean, accessFlags := 2, slot := 3, constantValue := 0 }, { name := "serialVersionUID", type := .long, accessFlags := 26, slot := 0, constantValue := 0 }, { name := "COMPACT_STRINGS", type := .boolean, accessFlags := 24, slot := 1, constantValue := 0 }, { name := "serialPersistentFields", type := (.array (.object "java/io/ObjectStreamField")), accessFlags := 26, slot := 2, constantValue := 0 }, { name := "REPL", type := .char, accessFlags := 26, slot := 3, constantValue := 0 }, { name := "CASE_INSENSITIVE_ORDER", type := (.object "java/util/Comparator"), accessFlags := 25, slot := 4, constantValue := 0 }, { name := "LATIN1", type := .byte, accessFlags := 24, slot := 5, constantValue := 0 }, { name := "UTF16", type := .byte, accessFlags := 24, slot := 6, constantValue := 0 }]
  methods := #[k8m0, k8m1, k8m2, k8m3, k8m4, k8m5]
  instanceTypes := #[(.array .byte), .byte, .int, .boolean]
  staticTypes := #[.long, .boolean, (.array (.object "java/io/ObjectStreamField")), .char, (.object "java/util/Comparator"), .byte, .byte]
  resolved := Array.replicate 1451 none
  statics := some 0 }

def pool9 : Array CpInfo := pool [(1, .methodref 2 3), (0, .class_ 4), (0, .nameAndType 5 6), (0, u "java/lang/Object"), (0, u "<init>"), (0, u "()V"), (0, .fieldref 8 9), (0, .class_ 10), (0, .nameAndType 11 12), (0, u "com/example/majra/majra/lang/Command$Refusal"), (0, u "line"), (0, u "I"), (0, .fieldref 8 14), (0, .nameAndType 15 12), (0, u "column"), (0, .fieldref 8 17), (0, .nameAndType 18 19), (0, u "message"), (0, u "Ljava/lang/String;"), (0, .methodref 21 22), (0, .class_ 23), (0, .nameAndType 24 25), (0, u "java/lang/String"), (0, u "equals"), (0, u "(Ljava/lang/Object;)Z"), (12, u "(IILjava/lang/String;)V"), (12, .class_ 52), (0, u "com/example/majra/majra/lang/Command")] 2

def k9c0 : Code := { maxStack := 2, maxLocals := 4, code := prog_31_method_1_code, exceptionTable := #[], attributes := #[] }
def k9m0 : Method := { name := "<init>", desc := "(IILjava/lang/String;)V", sig := { parameters := [.int, .int, (.object "java/lang/String")], returnType := none }, accessFlags := 0, code := some k9c0 }
def k9c1 : Code := { maxStack := 2, maxLocals := 3, code := prog_31_method_5_code, exceptionTable := #[], attributes := #[] }
def k9m1 : Method := { name := "equals", desc := "(Ljava/lang/Object;)Z", sig := { parameters := [(.object "java/lang/Object")], returnType := some .boolean }, accessFlags := 1, code := some k9c1 }
/-- com/example/majra/majra/lang/Command$Refusal -/
def k9 : Class := { plain "com/example/majra/majra/lang/Command$Refusal" (some 0) with
  accessFlags := 48
  interfaces := #[]
  cf := some (fileOf pool9 8 #[.nestHost 51] #[{ accessFlags := 0, nameIndex := 5, descriptorIndex := 38, attributes := #[] }, { accessFlags := 1, nameIndex := 24, descriptorIndex := 25, attributes := #[] }] 48 2 #[] #[{ accessFlags := 18, nameIndex := 11, descriptorIndex := 12, attributes := #[] }, { accessFlags := 18, nameIndex := 15, descriptorIndex := 12, attributes := #[] }, { accessFlags := 18, nameIndex := 18, descriptorIndex := 19, attributes := #[] }])
  fields := #[{ name := "line", type := .int, accessFlags := 18, slot := 0, constantValue := 0 }, { name := "column", type := .int, accessFlags := 18, slot := 1, constantValue := 0 }, { name := "message", type := (.object "java/lang/String"), accessFlags := 18, slot := 2, constantValue := 0 }]
  methods := #[k9m0, k9m1]
  instanceTypes := #[.int, .int, (.object "java/lang/String")]
  staticTypes := #[]
  resolved := Array.replicate 55 none
  statics := none }

def pool10 : Array CpInfo := pool [(6, .class_ 8), (1, u "java/lang/Object"), (0, u "<init>"), (0, u "()V"), (1, .class_ 14), (1, u "java/lang/StringUTF16"), (31, u "$assertionsDisabled"), (0, u "Z"), (13, u "HI_BYTE_SHIFT"), (0, u "I"), (2, u "LO_BYTE_SHIFT"), (49, .methodref 12 116), (0, .nameAndType 117 118), (0, u "compress"), (0, u "([CI[BII)I"), (3, u "([CII)[B"), (138, u "coderFromArrayLen"), (0, u "([BI)B"), (106, .class_ 371), (1, u "java/lang/StringUTF16$LinesSpliterator"), (58, u "MAX_LENGTH"), (196, .class_ 628), (0, u "java/lang/StringUTF16$CodePointsSpliterator"), (0, .class_ 630), (0, u "java/lang/StringUTF16$CharsSpliterator")] 4

def k10m0 : Method := { name := "<init>", desc := "()V", sig := { parameters := [], returnType := none }, accessFlags := 0, code := none }
def k10c1 : Code := { maxStack := 2, maxLocals := 2, code := jdk_52_method_15_code, exceptionTable := #[], attributes := #[] }
def k10m1 : Method := { name := "coderFromArrayLen", desc := "([BI)B", sig := { parameters := [(.array .byte), .int], returnType := some .byte }, accessFlags := 8, code := some k10c1 }
def k10c2 : Code := { maxStack := 5, maxLocals := 6, code := jdk_52_method_16_code, exceptionTable := #[], attributes := #[] }
def k10m2 : Method := { name := "compress", desc := "([CII)[B", sig := { parameters := [(.array .char), .int, .int], returnType := some (.array .byte) }, accessFlags := 9, code := some k10c2 }
def k10c3 : Code := { maxStack := 3, maxLocals := 7, code := jdk_52_method_21_code, exceptionTable := #[], attributes := #[] }
def k10m3 : Method := { name := "compress", desc := "([CI[BII)I", sig := { parameters := [(.array .char), .int, (.array .byte), .int, .int], returnType := some .int }, accessFlags := 9, code := some k10c3 }
/-- java/lang/StringUTF16 -/
def k10 : Class := { plain "java/lang/StringUTF16" (some 0) with
  accessFlags := 48
  interfaces := #[]
  cf := some (fileOf pool10 12 #[.nestMembers #[627, 629, 369]] #[{ accessFlags := 0, nameIndex := 9, descriptorIndex := 10, attributes := #[] }, { accessFlags := 8, nameIndex := 261, descriptorIndex := 262, attributes := #[] }, { accessFlags := 9, nameIndex := 117, descriptorIndex := 122, attributes := #[] }, { accessFlags := 9, nameIndex := 117, descriptorIndex := 118, attributes := #[] }] 48 6 #[] #[{ accessFlags := 26, nameIndex := 61, descriptorIndex := 62, attributes := #[] }, { accessFlags := 26, nameIndex := 65, descriptorIndex := 62, attributes := #[] }, { accessFlags := 24, nameIndex := 430, descriptorIndex := 62, attributes := #[] }, { accessFlags := 4120, nameIndex := 46, descriptorIndex := 47, attributes := #[] }])
  fields := #[{ name := "HI_BYTE_SHIFT", type := .int, accessFlags := 26, slot := 0, constantValue := 0 }, { name := "LO_BYTE_SHIFT", type := .int, accessFlags := 26, slot := 1, constantValue := 0 }, { name := "MAX_LENGTH", type := .int, accessFlags := 24, slot := 2, constantValue := 0 }, { name := "$assertionsDisabled", type := .boolean, accessFlags := 4120, slot := 3, constantValue := 0 }]
  methods := #[k10m0, k10m1, k10m2, k10m3]
  instanceTypes := #[]
  staticTypes := #[.int, .int, .int, .boolean]
  resolved := Array.replicate 635 none
  statics := none }

def pool11 : Array CpInfo := pool [(4, .class_ 6), (1, u "java/lang/Object"), (0, u "<init>"), (0, u "()V"), (5, .class_ 16), (1, u "java/lang/StringLatin1"), (73, u "canEncode"), (14, u "(C)Z"), (15, u "$assertionsDisabled"), (0, u "Z"), (98, .class_ 223), (1, u "java/lang/StringLatin1$LinesSpliterator"), (57, u "equals"), (0, u "([B[B)Z"), (97, u "toBytes"), (1, u "(C)[B"), (7, .class_ 391), (0, u "java/lang/StringLatin1$CharsSpliterator")] 3

def k11m0 : Method := { name := "<init>", desc := "()V", sig := { parameters := [], returnType := none }, accessFlags := 0, code := none }
def k11c1 : Code := { maxStack := 2, maxLocals := 1, code := jdk_43_method_3_code, exceptionTable := #[], attributes := #[] }
def k11m1 : Method := { name := "canEncode", desc := "(C)Z", sig := { parameters := [.char], returnType := some .boolean }, accessFlags := 9, code := some k11c1 }
def k11c2 : Code := { maxStack := 3, maxLocals := 3, code := jdk_43_method_13_code, exceptionTable := #[], attributes := #[] }
def k11m2 : Method := { name := "equals", desc := "([B[B)Z", sig := { parameters := [(.array .byte), (.array .byte)], returnType := some .boolean }, accessFlags := 9, code := some k11c2 }
def k11c3 : Code := { maxStack := 4, maxLocals := 1, code := jdk_43_method_46_code, exceptionTable := #[], attributes := #[] }
def k11m3 : Method := { name := "toBytes", desc := "(C)[B", sig := { parameters := [.char], returnType := some (.array .byte) }, accessFlags := 9, code := some k11c3 }
/-- java/lang/StringLatin1 -/
def k11 : Class := { plain "java/lang/StringLatin1" (some 0) with
  accessFlags := 48
  interfaces := #[]
  cf := some (fileOf pool11 14 #[.nestMembers #[390, 221]] #[{ accessFlags := 0, nameIndex := 7, descriptorIndex := 8, attributes := #[] }, { accessFlags := 9, nameIndex := 90, descriptorIndex := 105, attributes := #[] }, { accessFlags := 9, nameIndex := 281, descriptorIndex := 282, attributes := #[] }, { accessFlags := 9, nameIndex := 380, descriptorIndex := 382, attributes := #[] }] 48 4 #[] #[{ accessFlags := 4120, nameIndex := 121, descriptorIndex := 122, attributes := #[] }])
  fields := #[{ name := "$assertionsDisabled", type := .boolean, accessFlags := 4120, slot := 0, constantValue := 0 }]
  methods := #[k11m0, k11m1, k11m2, k11m3]
  instanceTypes := #[]
  staticTypes := #[.boolean]
  resolved := Array.replicate 395 none
  statics := none }

def pool12 : Array CpInfo := pool [(2, .class_ 4), (1, u "java/lang/Object"), (0, u "<init>"), (0, u "()V"), (17, .class_ 26), (1, u "jdk/internal/util/Preconditions"), (28, .class_ 56), (0, u "jdk/internal/util/Preconditions$4"), (57, .class_ 115), (0, u "jdk/internal/util/Preconditions$1"), (7, u "SIOOBE_FORMATTER"), (0, u "Ljava/util/function/BiFunction;"), (0, .class_ 126), (0, u "jdk/internal/util/Preconditions$2"), (3, u "AIOOBE_FORMATTER"), (0, .class_ 132), (0, u "jdk/internal/util/Preconditions$3"), (3, u "IOOBE_FORMATTER")] 57

def k12m0 : Method := { name := "<init>", desc := "()V", sig := { parameters := [], returnType := none }, accessFlags := 1, code := none }
/-- jdk/internal/util/Preconditions -/
def k12 : Class := { plain "jdk/internal/util/Preconditions" (some 0) with
  accessFlags := 33
  interfaces := #[]
  cf := some (fileOf pool12 24 #[.nestMembers #[55, 131, 125, 114]] #[{ accessFlags := 1, nameIndex := 5, descriptorIndex := 6, attributes := #[] }] 33 2 #[] #[{ accessFlags := 25, nameIndex := 123, descriptorIndex := 124, attributes := #[] }, { accessFlags := 25, nameIndex := 130, descriptorIndex := 124, attributes := #[] }, { accessFlags := 25, nameIndex := 136, descriptorIndex := 124, attributes := #[] }])
  fields := #[{ name := "SIOOBE_FORMATTER", type := (.object "java/util/function/BiFunction"), accessFlags := 25, slot := 0, constantValue := 0 }, { name := "AIOOBE_FORMATTER", type := (.object "java/util/function/BiFunction"), accessFlags := 25, slot := 1, constantValue := 0 }, { name := "IOOBE_FORMATTER", type := (.object "java/util/function/BiFunction"), accessFlags := 25, slot := 2, constantValue := 0 }]
  methods := #[k12m0]
  instanceTypes := #[]
  staticTypes := #[(.object "java/util/function/BiFunction"), (.object "java/util/function/BiFunction"), (.object "java/util/function/BiFunction")]
  resolved := Array.replicate 194 none
  statics := some 1 }

def pool13 : Array CpInfo := pool [(9, u "<init>"), (6, .class_ 18), (1, u "java/lang/Object"), (0, u "()V"), (1, .class_ 23), (1, u "jdk/internal/util/ArraysSupport"), (0, u "LOG2_ARRAY_LONG_INDEX_SCALE"), (0, u "I"), (2, u "U"), (0, u "Ljdk/internal/misc/Unsafe;"), (8, u "BIG_ENDIAN"), (0, u "Z"), (8, u "LOG2_BYTE_BIT_SIZE"), (4, u "LOG2_ARRAY_INT_INDEX_SCALE"), (54, u "JLA"), (0, u "Ljdk/internal/access/JavaLangAccess;"), (11, u "LOG2_ARRAY_BOOLEAN_INDEX_SCALE"), (9, u "LOG2_ARRAY_BYTE_INDEX_SCALE"), (5, u "LOG2_ARRAY_CHAR_INDEX_SCALE"), (5, u "LOG2_ARRAY_SHORT_INDEX_SCALE"), (18, u "LOG2_ARRAY_FLOAT_INDEX_SCALE"), (24, u "LOG2_ARRAY_DOUBLE_INDEX_SCALE"), (89, u "T_BOOLEAN"), (2, u "T_CHAR"), (1, u "T_FLOAT"), (1, u "T_DOUBLE"), (1, u "T_BYTE"), (1, u "T_SHORT"), (1, u "T_INT"), (1, u "T_LONG"), (1, u "SOFT_MAX_ARRAY_LENGTH")] 83

def k13m0 : Method := { name := "<init>", desc := "()V", sig := { parameters := [], returnType := none }, accessFlags := 2, code := none }
/-- jdk/internal/util/ArraysSupport -/
def k13 : Class := { plain "jdk/internal/util/ArraysSupport" (some 0) with
  accessFlags := 33
  interfaces := #[]
  cf := some (fileOf pool13 21 #[] #[{ accessFlags := 2, nameIndex := 9, descriptorIndex := 19, attributes := #[] }] 33 16 #[] #[{ accessFlags := 24, nameIndex := 28, descriptorIndex := 29, attributes := #[] }, { accessFlags := 26, nameIndex := 38, descriptorIndex := 39, attributes := #[] }, { accessFlags := 25, nameIndex := 121, descriptorIndex := 25, attributes := #[] }, { accessFlags := 25, nameIndex := 131, descriptorIndex := 25, attributes := #[] }, { accessFlags := 25, nameIndex := 137, descriptorIndex := 25, attributes := #[] }, { accessFlags := 25, nameIndex := 143, descriptorIndex := 25, attributes := #[] }, { accessFlags := 25, nameIndex := 53, descriptorIndex := 25, attributes := #[] }, { accessFlags := 25, nameIndex := 24, descriptorIndex := 25, attributes := #[] }, { accessFlags := 25, nameIndex := 162, descriptorIndex := 25, attributes := #[] }, { accessFlags := 25, nameIndex := 187, descriptorIndex := 25, attributes := #[] }, { accessFlags := 26, nameIndex := 48, descriptorIndex := 25, attributes := #[] }, { accessFlags := 25, nameIndex := 277, descriptorIndex := 25, attributes := #[] }, { accessFlags := 25, nameIndex := 280, descriptorIndex := 25, attributes := #[] }, { accessFlags := 25, nameIndex := 282, descriptorIndex := 25, attributes := #[] }, { accessFlags := 25, nameIndex := 284, descriptorIndex := 25, attributes := #[] }, { accessFlags := 25, nameIndex := 286, descriptorIndex := 25, attributes := #[] }, { accessFlags := 25, nameIndex := 288, descriptorIndex := 25, attributes := #[] }, { accessFlags := 25, nameIndex := 290, descriptorIndex := 25, attributes := #[] }, { accessFlags := 25, nameIndex := 292, descriptorIndex := 25, attributes := #[] }, { accessFlags := 26, nameIndex := 108, descriptorIndex := 109, attributes := #[] }, { accessFlags := 25, nameIndex := 294, descriptorIndex := 25, attributes := #[] }])
  fields := #[{ name := "U", type := (.object "jdk/internal/misc/Unsafe"), accessFlags := 24, slot := 0, constantValue := 0 }, { name := "BIG_ENDIAN", type := .boolean, accessFlags := 26, slot := 1, constantValue := 0 }, { name := "LOG2_ARRAY_BOOLEAN_INDEX_SCALE", type := .int, accessFlags := 25, slot := 2, constantValue := 0 }, { name := "LOG2_ARRAY_BYTE_INDEX_SCALE", type := .int, accessFlags := 25, slot := 3, constantValue := 0 }, { name := "LOG2_ARRAY_CHAR_INDEX_SCALE", type := .int, accessFlags := 25, slot := 4, constantValue := 0 }, { name := "LOG2_ARRAY_SHORT_INDEX_SCALE", type := .int, accessFlags := 25, slot := 5, constantValue := 0 }, { name := "LOG2_ARRAY_INT_INDEX_SCALE", type := .int, accessFlags := 25, slot := 6, constantValue := 0 }, { name := "LOG2_ARRAY_LONG_INDEX_SCALE", type := .int, accessFlags := 25, slot := 7, constantValue := 0 }, { name := "LOG2_ARRAY_FLOAT_INDEX_SCALE", type := .int, accessFlags := 25, slot := 8, constantValue := 0 }, { name := "LOG2_ARRAY_DOUBLE_INDEX_SCALE", type := .int, accessFlags := 25, slot := 9, constantValue := 0 }, { name := "LOG2_BYTE_BIT_SIZE", type := .int, accessFlags := 26, slot := 10, constantValue := 0 }, { name := "T_BOOLEAN", type := .int, accessFlags := 25, slot := 11, constantValue := 0 }, { name := "T_CHAR", type := .int, accessFlags := 25, slot := 12, constantValue := 0 }, { name := "T_FLOAT", type := .int, accessFlags := 25, slot := 13, constantValue := 0 }, { name := "T_DOUBLE", type := .int, accessFlags := 25, slot := 14, constantValue := 0 }, { name := "T_BYTE", type := .int, accessFlags := 25, slot := 15, constantValue := 0 }, { name := "T_SHORT", type := .int, accessFlags := 25, slot := 16, constantValue := 0 }, { name := "T_INT", type := .int, accessFlags := 25, slot := 17, constantValue := 0 }, { name := "T_LONG", type := .int, accessFlags := 25, slot := 18, constantValue := 0 }, { name := "JLA", type := (.object "jdk/internal/access/JavaLangAccess"), accessFlags := 26, slot := 19, constantValue := 0 }, { name := "SOFT_MAX_ARRAY_LENGTH", type := .int, accessFlags := 25, slot := 20, constantValue := 0 }]
  methods := #[k13m0]
  instanceTypes := #[]
  staticTypes := #[(.object "jdk/internal/misc/Unsafe"), .boolean, .int, .int, .int, .int, .int, .int, .int, .int, .int, .int, .int, .int, .int, .int, .int, .int, .int, (.object "jdk/internal/access/JavaLangAccess"), .int]
  resolved := Array.replicate 378 none
  statics := none }

def pool14 : Array CpInfo := pool [(1, u "java/lang/Cloneable"), (0, .class_ 1), (0, u "java/lang/Object"), (0, .class_ 3)] 3

/-- java/lang/Cloneable -/
def k14 : Class := { plain "java/lang/Cloneable" (some 0) with
  accessFlags := 1537
  interfaces := #[]
  cf := some (fileOf pool14 2 #[] #[] 1537 4 #[] #[])
  fields := #[]
  methods := #[]
  instanceTypes := #[]
  staticTypes := #[]
  resolved := Array.replicate 8 none
  statics := none }

/-- the primitive byte -/
def k15 : Class := { plain "byte" none with kind := .primitive 'B', accessFlags := 0x411 }
/-- [B -/
def k16 : Class := { plain "[B" (some 0) with kind := .array 15 .byte, interfaces := #[14, 3], accessFlags := 1041 }

/-- the primitive char -/
def k17 : Class := { plain "char" none with kind := .primitive 'C', accessFlags := 0x411 }
/-- [C -/
def k18 : Class := { plain "[C" (some 0) with kind := .array 17 .char, interfaces := #[14, 3], accessFlags := 1041 }

/-- the primitive int -/
def k19 : Class := { plain "int" none with kind := .primitive 'I', accessFlags := 0x411 }
/-- [I -/
def k20 : Class := { plain "[I" (some 0) with kind := .array 19 .int, interfaces := #[14, 3], accessFlags := 1041 }

def heap : Heap := #[{ cls := 8, slots := #[.long 0, .int 1, .null, .int 0, .null, .int 0, .int 0], vm := .statics 8 },
  { cls := 12, slots := #[.null, .null, .null], vm := .statics 12 }]
def classes : Array Class := #[k0, k1, k2, k3, k4, k5, k6, k7, k8, k9, k10, k11, k12, k13, k14, k15, k16, k17, k18, k19, k20]
def interned : List (Array UInt16 × Addr) := []
def slotsUsed : Nat := 10
def theMethod : MethodId := ⟨1, 2⟩
def args0 : Array Value := #[.int 1, .int 2, .int 3, .int 4, .long 5, .int 6]
def aboutOver (below : List Frame) : State where
  vm := { classes := classes, interned := interned.toArray }
  heap := heap
  slotsUsed := slotsUsed
  threads := #[{ frames := .invoking theMethod args0 :: below }]
def below0 : List Frame := [.native { method := ⟨0, 0⟩, args := #[] }]
def about1 : State := aboutOver below0
def p0 : Program := .bare "" "" ""
def e0 : Env := launch0.env 0 0 0
theorem w_frames : about1.frames = Frame.invoking theMethod args0 :: below0 := rfl
set_option maxRecDepth 65536 in
theorem w_args : argsFit about1.vm theMethod args0 = true := by decide +kernel
set_option maxRecDepth 65536 in
theorem w_heap : heapFits about1 = true := by decide +kernel
set_option maxRecDepth 65536 in
theorem w_runnable : about1.curStatus? = some .runnable := by decide +kernel
set_option maxRecDepth 65536 in
theorem w_alone : about1.alone = true := by decide +kernel
set_option maxRecDepth 65536 in
theorem w_named : about1.methodNamed? x = some theMethod := by decide +kernel
set_option maxRecDepth 65536 in
theorem w_hears : about1.hears theMethod below0 = true := by decide +kernel
set_option maxRecDepth 65536 in
theorem w_ripe : about1.ripe theMethod args0 below0 = true := by decide +kernel
theorem w_running : about1.status = .running := rfl
set_option maxRecDepth 65536 in
theorem w_room : about1.hasRoom e0.platform room_1 = true :=
  launch0.hasRoom_least _ room_1 (by decide +kernel) (by decide +kernel) (by decide +kernel) (by decide +kernel) (by decide +kernel) (by decide +kernel)
theorem allAtoms_all (ts : List Jvm.Cond) (a : Array Jvm.Value) (st : Jvm.State) : (allAtoms ts).before a st = ts.all (fun c => c.before a st) := by
  induction ts with
  | nil => rfl
  | cons c t ih =>
    show (Jvm.Cond.and c (allAtoms t)).before a st = _
    rw [Jvm.Cond.before_and, ih, List.all_cons]
def words1 : List Jvm.Cond := Jvm.Cond.code x code maxLocals ret :: tables_1
/-- a 'code' word, met by the world's own term for the bytes: nothing is compared byte by byte -/
theorem code_word {y : MethodName} {bytes : ByteArray} {mx : Nat} {rt : Option FieldType} {a : Array Value} {s : State} {m : MethodId} {meth : Method} {c : Code} (h1 : s.methodNamed? y = some m) (h2 : s.vm.method? m = some meth) (h3 : meth.code = some c) (h4 : c.code = bytes)
    (h5 : (c.maxLocals == mx && c.exceptionTable.isEmpty && decide (c.maxStack ≤ mostOperands) && decide (meth.sig.returnType = rt) && !meth.locks && decide (parseMethodDescriptor y.desc = some meth.sig)) = true) : (Jvm.Cond.code y bytes mx rt).before a s = true := by
  simp only [Bool.and_eq_true, beq_iff_eq, Bool.not_eq_true', decide_eq_true_eq] at h5
  obtain ⟨⟨⟨⟨⟨g1, g2⟩, g3⟩, g4⟩, g5⟩, g6⟩ := h5
  simp [Cond.before, Cond.holds, Cond.value, h1, h2, h3, h4, g1, g2, g3, g4, g5, g6]
def isCode : Jvm.Cond → Bool
  | .code _ _ _ _ => true
  | _ => false
theorem all_split {L : List Jvm.Cond} {P : Jvm.Cond → Bool} (h1 : L.all (fun c => isCode c || P c) = true) (h2 : ∀ c ∈ L.filter isCode, P c = true) : L.all P = true := by
  refine List.all_eq_true.mpr fun c hc => ?_
  have h := List.all_eq_true.mp h1 c hc
  rcases Bool.eq_false_or_eq_true (isCode c) with hi | hi
  · exact h2 c (List.mem_filter.mpr ⟨hc, hi⟩)
  · simpa [hi] using h
set_option maxRecDepth 65536 in
theorem w_c0 : (Jvm.Cond.code x code maxLocals ret).before args0 about1 = true := code_word (m := ⟨1, 2⟩) (meth := k1m2) (c := k1c2) (by decide +kernel) rfl rfl rfl (by decide +kernel)
set_option maxRecDepth 65536 in
theorem w_c1 : (Jvm.Cond.code ({ cls := "java/lang/Math", name := "min", desc := "(II)I" } : Jvm.MethodName) jdk_29_method_69_code (2 : Nat) (Option.some Jvm.ClassFile.FieldType.int)).before args0 about1 = true := code_word (m := ⟨2, 1⟩) (meth := k2m1) (c := k2c1) (by decide +kernel) rfl rfl rfl (by decide +kernel)
set_option maxRecDepth 65536 in
theorem w_c2 : (Jvm.Cond.code ({ cls := "com/example/majra/majra/lang/RefusalEqualsPinLaw", name := "text", desc := "(ICC)Ljava/lang/String;" } : Jvm.MethodName) method_2_code (3 : Nat) (Option.some (Jvm.ClassFile.FieldType.object "java/lang/String"))).before args0 about1 = true := code_word (m := ⟨1, 1⟩) (meth := k1m1) (c := k1c1) (by decide +kernel) rfl rfl rfl (by decide +kernel)
set_option maxRecDepth 65536 in
theorem w_c3 : (Jvm.Cond.code ({ cls := "java/lang/String", name := "<init>", desc := "([C)V" } : Jvm.MethodName) jdk_42_method_3_code (2 : Nat) (Option.none : Option Jvm.ClassFile.FieldType)).before args0 about1 = true := code_word (m := ⟨8, 1⟩) (meth := k8m1) (c := k8c1) (by decide +kernel) rfl rfl rfl (by decide +kernel)
set_option maxRecDepth 65536 in
theorem w_c4 : (Jvm.Cond.code ({ cls := "java/lang/String", name := "<init>", desc := "([CIILjava/lang/Void;)V" } : Jvm.MethodName) jdk_42_method_149_code (6 : Nat) (Option.none : Option Jvm.ClassFile.FieldType)).before args0 about1 = true := code_word (m := ⟨8, 4⟩) (meth := k8m4) (c := k8c4) (by decide +kernel) rfl rfl rfl (by decide +kernel)
set_option maxRecDepth 65536 in
theorem w_c5 : (Jvm.Cond.code ({ cls := "java/lang/Object", name := "<init>", desc := "()V" } : Jvm.MethodName) object_method_1_code (1 : Nat) (Option.none : Option Jvm.ClassFile.FieldType)).before args0 about1 = true := code_word (m := ⟨0, 0⟩) (meth := k0m0) (c := k0c0) (by decide +kernel) rfl rfl rfl (by decide +kernel)
set_option maxRecDepth 65536 in
theorem w_c6 : (Jvm.Cond.code ({ cls := "com/example/majra/majra/lang/Command$Refusal", name := "<init>", desc := "(IILjava/lang/String;)V" } : Jvm.MethodName) prog_31_method_1_code (4 : Nat) (Option.none : Option Jvm.ClassFile.FieldType)).before args0 about1 = true := code_word (m := ⟨9, 0⟩) (meth := k9m0) (c := k9c0) (by decide +kernel) rfl rfl rfl (by decide +kernel)
set_option maxRecDepth 65536 in
theorem w_c7 : (Jvm.Cond.code ({ cls := "com/example/majra/majra/lang/Command$Refusal", name := "equals", desc := "(Ljava/lang/Object;)Z" } : Jvm.MethodName) prog_31_method_5_code (3 : Nat) (Option.some Jvm.ClassFile.FieldType.boolean)).before args0 about1 = true := code_word (m := ⟨9, 1⟩) (meth := k9m1) (c := k9c1) (by decide +kernel) rfl rfl rfl (by decide +kernel)
set_option maxRecDepth 65536 in
theorem w_c8 : (Jvm.Cond.code ({ cls := "java/lang/String", name := "equals", desc := "(Ljava/lang/Object;)Z" } : Jvm.MethodName) jdk_42_method_66_code (3 : Nat) (Option.some Jvm.ClassFile.FieldType.boolean)).before args0 about1 = true := code_word (m := ⟨8, 2⟩) (meth := k8m2) (c := k8c2) (by decide +kernel) rfl rfl rfl (by decide +kernel)
set_option maxRecDepth 65536 in
theorem w_c9 : (Jvm.Cond.code ({ cls := "java/lang/StringUTF16", name := "compress", desc := "([CII)[B" } : Jvm.MethodName) jdk_52_method_16_code (6 : Nat) (Option.some (Jvm.ClassFile.FieldType.array Jvm.ClassFile.FieldType.byte))).before args0 about1 = true := code_word (m := ⟨10, 2⟩) (meth := k10m2) (c := k10c2) (by decide +kernel) rfl rfl rfl (by decide +kernel)
set_option maxRecDepth 65536 in
theorem w_c10 : (Jvm.Cond.code ({ cls := "java/lang/StringUTF16", name := "compress", desc := "([CI[BII)I" } : Jvm.MethodName) jdk_52_method_21_code (7 : Nat) (Option.some Jvm.ClassFile.FieldType.int)).before args0 about1 = true := code_word (m := ⟨10, 3⟩) (meth := k10m3) (c := k10c3) (by decide +kernel) rfl rfl rfl (by decide +kernel)
set_option maxRecDepth 65536 in
theorem w_c11 : (Jvm.Cond.code ({ cls := "java/lang/StringUTF16", name := "coderFromArrayLen", desc := "([BI)B" } : Jvm.MethodName) jdk_52_method_15_code (2 : Nat) (Option.some Jvm.ClassFile.FieldType.byte)).before args0 about1 = true := code_word (m := ⟨10, 1⟩) (meth := k10m1) (c := k10c1) (by decide +kernel) rfl rfl rfl (by decide +kernel)
set_option maxRecDepth 65536 in
theorem w_c12 : (Jvm.Cond.code ({ cls := "java/lang/String", name := "valueOf", desc := "(C)Ljava/lang/String;" } : Jvm.MethodName) jdk_42_method_139_code (1 : Nat) (Option.some (Jvm.ClassFile.FieldType.object "java/lang/String"))).before args0 about1 = true := code_word (m := ⟨8, 3⟩) (meth := k8m3) (c := k8c3) (by decide +kernel) rfl rfl rfl (by decide +kernel)
set_option maxRecDepth 65536 in
theorem w_c13 : (Jvm.Cond.code ({ cls := "java/lang/StringLatin1", name := "canEncode", desc := "(C)Z" } : Jvm.MethodName) jdk_43_method_3_code (1 : Nat) (Option.some Jvm.ClassFile.FieldType.boolean)).before args0 about1 = true := code_word (m := ⟨11, 1⟩) (meth := k11m1) (c := k11c1) (by decide +kernel) rfl rfl rfl (by decide +kernel)
set_option maxRecDepth 65536 in
theorem w_c14 : (Jvm.Cond.code ({ cls := "java/lang/StringLatin1", name := "toBytes", desc := "(C)[B" } : Jvm.MethodName) jdk_43_method_46_code (1 : Nat) (Option.some (Jvm.ClassFile.FieldType.array Jvm.ClassFile.FieldType.byte))).before args0 about1 = true := code_word (m := ⟨11, 3⟩) (meth := k11m3) (c := k11c3) (by decide +kernel) rfl rfl rfl (by decide +kernel)
set_option maxRecDepth 65536 in
theorem w_c15 : (Jvm.Cond.code ({ cls := "java/lang/String", name := "<init>", desc := "([BB)V" } : Jvm.MethodName) jdk_42_method_151_code (3 : Nat) (Option.none : Option Jvm.ClassFile.FieldType)).before args0 about1 = true := code_word (m := ⟨8, 5⟩) (meth := k8m5) (c := k8c5) (by decide +kernel) rfl rfl rfl (by decide +kernel)
set_option maxRecDepth 65536 in
theorem w_c16 : (Jvm.Cond.code ({ cls := "java/lang/StringLatin1", name := "equals", desc := "([B[B)Z" } : Jvm.MethodName) jdk_43_method_13_code (3 : Nat) (Option.some Jvm.ClassFile.FieldType.boolean)).before args0 about1 = true := code_word (m := ⟨11, 2⟩) (meth := k11m2) (c := k11c2) (by decide +kernel) rfl rfl rfl (by decide +kernel)
def codes1 : List Jvm.Cond := [Jvm.Cond.code x code maxLocals ret, Jvm.Cond.code ({ cls := "java/lang/Math", name := "min", desc := "(II)I" } : Jvm.MethodName) jdk_29_method_69_code (2 : Nat) (Option.some Jvm.ClassFile.FieldType.int), Jvm.Cond.code ({ cls := "com/example/majra/majra/lang/RefusalEqualsPinLaw", name := "text", desc := "(ICC)Ljava/lang/String;" } : Jvm.MethodName) method_2_code (3 : Nat) (Option.some (Jvm.ClassFile.FieldType.object "java/lang/String")), Jvm.Cond.code ({ cls := "java/lang/String", name := "<init>", desc := "([C)V" } : Jvm.MethodName) jdk_42_method_3_code (2 : Nat) (Option.none : Option Jvm.ClassFile.FieldType), Jvm.Cond.code ({ cls := "java/lang/String", name := "<init>", desc := "([CIILjava/lang/Void;)V" } : Jvm.MethodName) jdk_42_method_149_code (6 : Nat) (Option.none : Option Jvm.ClassFile.FieldType), Jvm.Cond.code ({ cls := "java/lang/Object", name := "<init>", desc := "()V" } : Jvm.MethodName) object_method_1_code (1 : Nat) (Option.none : Option Jvm.ClassFile.FieldType), Jvm.Cond.code ({ cls := "com/example/majra/majra/lang/Command$Refusal", name := "<init>", desc := "(IILjava/lang/String;)V" } : Jvm.MethodName) prog_31_method_1_code (4 : Nat) (Option.none : Option Jvm.ClassFile.FieldType), Jvm.Cond.code ({ cls := "com/example/majra/majra/lang/Command$Refusal", name := "equals", desc := "(Ljava/lang/Object;)Z" } : Jvm.MethodName) prog_31_method_5_code (3 : Nat) (Option.some Jvm.ClassFile.FieldType.boolean), Jvm.Cond.code ({ cls := "java/lang/String", name := "equals", desc := "(Ljava/lang/Object;)Z" } : Jvm.MethodName) jdk_42_method_66_code (3 : Nat) (Option.some Jvm.ClassFile.FieldType.boolean), Jvm.Cond.code ({ cls := "java/lang/StringUTF16", name := "compress", desc := "([CII)[B" } : Jvm.MethodName) jdk_52_method_16_code (6 : Nat) (Option.some (Jvm.ClassFile.FieldType.array Jvm.ClassFile.FieldType.byte)), Jvm.Cond.code ({ cls := "java/lang/StringUTF16", name := "compress", desc := "([CI[BII)I" } : Jvm.MethodName) jdk_52_method_21_code (7 : Nat) (Option.some Jvm.ClassFile.FieldType.int), Jvm.Cond.code ({ cls := "java/lang/StringUTF16", name := "coderFromArrayLen", desc := "([BI)B" } : Jvm.MethodName) jdk_52_method_15_code (2 : Nat) (Option.some Jvm.ClassFile.FieldType.byte), Jvm.Cond.code ({ cls := "java/lang/String", name := "valueOf", desc := "(C)Ljava/lang/String;" } : Jvm.MethodName) jdk_42_method_139_code (1 : Nat) (Option.some (Jvm.ClassFile.FieldType.object "java/lang/String")), Jvm.Cond.code ({ cls := "java/lang/StringLatin1", name := "canEncode", desc := "(C)Z" } : Jvm.MethodName) jdk_43_method_3_code (1 : Nat) (Option.some Jvm.ClassFile.FieldType.boolean), Jvm.Cond.code ({ cls := "java/lang/StringLatin1", name := "toBytes", desc := "(C)[B" } : Jvm.MethodName) jdk_43_method_46_code (1 : Nat) (Option.some (Jvm.ClassFile.FieldType.array Jvm.ClassFile.FieldType.byte)), Jvm.Cond.code ({ cls := "java/lang/String", name := "<init>", desc := "([BB)V" } : Jvm.MethodName) jdk_42_method_151_code (3 : Nat) (Option.none : Option Jvm.ClassFile.FieldType), Jvm.Cond.code ({ cls := "java/lang/StringLatin1", name := "equals", desc := "([B[B)Z" } : Jvm.MethodName) jdk_43_method_13_code (3 : Nat) (Option.some Jvm.ClassFile.FieldType.boolean)]
set_option maxRecDepth 65536 in
theorem codes_eq : words1.filter isCode = codes1 := rfl
theorem w_codes : ∀ c ∈ words1.filter isCode, c.before args0 about1 = true := by
  rw [codes_eq]
  intro c hc
  simp only [codes1, List.mem_cons, List.not_mem_nil, or_false] at hc
  rcases hc with rfl | rfl | rfl | rfl | rfl | rfl | rfl | rfl | rfl | rfl | rfl | rfl | rfl | rfl | rfl | rfl | rfl
  · exact w_c0
  · exact w_c1
  · exact w_c2
  · exact w_c3
  · exact w_c4
  · exact w_c5
  · exact w_c6
  · exact w_c7
  · exact w_c8
  · exact w_c9
  · exact w_c10
  · exact w_c11
  · exact w_c12
  · exact w_c13
  · exact w_c14
  · exact w_c15
  · exact w_c16
set_option maxRecDepth 65536 in
theorem w_t1 : (words1.take 24).all (fun c => isCode c || c.before args0 about1) = true := by decide +kernel
set_option maxRecDepth 65536 in
theorem w_t2 : ((words1.drop 24).take 24).all (fun c => isCode c || c.before args0 about1) = true := by decide +kernel
set_option maxRecDepth 65536 in
theorem w_t3 : (((words1.drop 24).drop 24).take 24).all (fun c => isCode c || c.before args0 about1) = true := by decide +kernel
set_option maxRecDepth 65536 in
theorem w_t4 : (((words1.drop 24).drop 24).drop 24).all (fun c => isCode c || c.before args0 about1) = true := by decide +kernel
theorem w_tables : (allAtoms (Jvm.Cond.code x code maxLocals ret :: tables_1)).before args0 about1 = true := by
  rw [allAtoms_all]
  show words1.all (fun c => c.before args0 about1) = true
  refine all_split ?_ w_codes
  rw [← List.take_append_drop 24 words1, List.all_append, w_t1, ← List.take_append_drop 24 (words1.drop 24), List.all_append, w_t2, ← List.take_append_drop 24 ((words1.drop 24).drop 24), List.all_append, w_t3, w_t4]
  rfl
set_option maxRecDepth 65536 in
theorem w_rest : rest_1_c.before args0 about1 = true := by decide +kernel
set_option maxRecDepth 65536 in
theorem w_case : (Jvm.Cond.and given_1 narrow_1).before args0 about1 = true := by decide +kernel
set_option maxRecDepth 65536 in
theorem w_consts : constsHeld consts_1 about1 := Jvm.Lit.constsHeldB_iff.mp (by decide +kernel)
theorem w_applies : (headSpec (Jvm.Cond.code x code maxLocals ret :: tables_1) room_1).applies x e0.platform about1 = true :=
  (Spec.applies_iff w_frames).mpr ⟨w_running, w_runnable, w_alone, w_named, w_hears, w_ripe, w_room, w_tables⟩
theorem atStart : AtStart classFile x code maxLocals ret World_1 tables_1 room_1 Calls_1 rest_1 Pre_1 launch0 p0 e0 about1 theMethod args0 below0 :=
  ⟨lists_1, trivial, launch0.admits_env _ _ _, launch0.least_env, fairChoices_fair.cas, fairChoices_fair.clock, w_frames, w_args, w_heap, w_applies, ⟨w_consts, trivial⟩, w_rest, w_case⟩
end start1
theorem witness_1 : WitnessClaimed_1 := ⟨start1.p0, start1.e0, start1.about1, start1.theMethod, start1.args0, start1.below0, start1.atStart⟩
end Jvm.Pilot.@@N@@
