import JvmDerived
import JvmDerived.Pilot.@@N@@Statement
import JvmDerived.Pilot.@@N@@Code
set_option linter.unusedVariables false
set_option linter.unusedSimpArgs false
namespace Jvm.RoadKit
open Sem ClassFile Op Lib Jvm.Stand Jvm.Free Jvm.LawKit
section New
variable {p : Program} {l : Launch} {e : Env} {R : Room} {s : State} {m : MethodId} {args : Array Value} {below : List Frame} {meth : Method} {c : Code} {T T' : State} {locs : List Loc} {cells slots : Nat} {Q : Option Value → Heap → List Loc → Prop} {cc ss : Nat} {g g' : JFrame} {pc : Nat} {Ls : Array Slot}
/-- from here the body comes to an end that meets Q -/
def own_Goes (p : Program) (e : Env) (below : List Frame) (s : State) (Q : Option Value → Heap → List Loc → Prop) (cc ss : Nat) (T : State) (g : JFrame) : Prop :=
  ∃ s₂ o, Steps p.tables e below (T.setTop g) s₂ ∧ s₂.status = .running ∧ Ended s₂ below o ∧ ∃ v L, o = .returned v ∧ Q v s₂.heap L ∧ FrameEnd s o s₂ L cc ss
theorem own_st (h : ∀ t, Steps p.tables e below (T'.setTop g') t → Steps p.tables e below (T.setTop g) t) (k : own_Goes p e below s Q cc ss T' g') : own_Goes p e below s Q cc ss T g := by
  obtain ⟨s₂, o, h1, r⟩ := k; exact ⟨s₂, o, h _ h1, r⟩
theorem own_end {v : Option Value} (X : Stand p l e R s m args below meth c T locs cells slots) (hlk : meth.locks = false) (hv : meth.sig.returnType = none → v = none) (hc : cells ≤ cc) (hs : slots ≤ ss) (hQ : Q v T.heap locs)
    (st : ∀ fs, (∀ (f : JFrame) (acts : List Action), f.method = m → f.locked = none → f.entered = [] → (doReturn e (T.setTop f) acts v).1 = T.setFrames fs) → Steps p.tables e below (T.setTop g) (T.setFrames fs)) : own_Goes p e below s Q cc ss T g := by
  obtain ⟨fs, hr, hrun, hended, hW, hsame⟩ := X.leave (v := v) hv hlk
  exact ⟨_, _, st fs hr, hrun, hended, _, _, rfl, hQ, ⟨_, rfl⟩, hW, hsame.mono hc hs⟩
theorem own_retN (X : Stand p l e R s m args below meth c T locs cells slots) (hx : p.tables.exec = Jvm.exec) (hlk : meth.locks = false) {t : FieldType} {z : Int32} {rest : List Value} (hret : meth.sig.returnType = some t) (ht : t = .boolean ∨ t = .byte ∨ t = .char ∨ t = .short) (hd : decode c.code pc = .ok (.ireturn, 1)) (hc : cells ≤ cc) (hs : slots ≤ ss) (hQ : Q (some (.int (nar t z))) T.heap locs) : own_Goes p e below s Q cc ss T (mkF m pc Ls (.int z :: rest)) :=
  own_end X hlk (fun h => by rw [hret] at h; cases h) hc hs hQ fun fs hr => retN X hx hret ht hd hr
theorem own_retI (X : Stand p l e R s m args below meth c T locs cells slots) (hx : p.tables.exec = Jvm.exec) (hlk : meth.locks = false) {z : Int32} {rest : List Value} (hret : meth.sig.returnType = some .int) (hd : decode c.code pc = .ok (.ireturn, 1)) (hc : cells ≤ cc) (hs : slots ≤ ss) (hQ : Q (some (.int z)) T.heap locs) : own_Goes p e below s Q cc ss T (mkF m pc Ls (.int z :: rest)) :=
  own_end X hlk (fun h => by rw [hret] at h; cases h) hc hs hQ fun fs hr => retOut X hx hret rfl (Or.inl ⟨rfl, Or.inl rfl, _, rfl⟩) hd hr
theorem own_retL (X : Stand p l e R s m args below meth c T locs cells slots) (hx : p.tables.exec = Jvm.exec) (hlk : meth.locks = false) {z : Int64} {rest : List Value} (hret : meth.sig.returnType = some .long) (hd : decode c.code pc = .ok (.lreturn, 1)) (hc : cells ≤ cc) (hs : slots ≤ ss) (hQ : Q (some (.long z)) T.heap locs) : own_Goes p e below s Q cc ss T (mkF m pc Ls (.long z :: rest)) :=
  own_end X hlk (fun h => by rw [hret] at h; cases h) hc hs hQ fun fs hr => retOut X hx hret rfl (Or.inr (Or.inl ⟨rfl, rfl, _, rfl⟩)) hd hr
theorem own_narR {t : FieldType} {w : Value} (hw : w.isRef = true) : narrow t w = w := by rcases ref_cases hw with rfl | ⟨a, rfl⟩ <;> cases t <;> rfl
theorem own_fitR {n : String} {w : Value} (hw : w.isRef = true) : fits (.object n) w = true := by rcases ref_cases hw with rfl | ⟨a, rfl⟩ <;> rfl
theorem own_retA (X : Stand p l e R s m args below meth c T locs cells slots) (hx : p.tables.exec = Jvm.exec) (hlk : meth.locks = false) {w : Value} {t : FieldType} {rest : List Value} (hw : w.isRef = true) (hret : meth.sig.returnType = some t) (ht : t.isReference = true) (hd : decode c.code pc = .ok (.areturn, 1)) (hc : cells ≤ cc) (hs : slots ≤ ss) (hQ : Q (some w) T.heap locs) : own_Goes p e below s Q cc ss T (mkF m pc Ls (w :: rest)) :=
  own_end X hlk (fun h => by rw [hret] at h; cases h) hc hs hQ fun fs hr => retOut X hx hret (own_narR hw) (Or.inr (Or.inr (Or.inr (Or.inr ⟨rfl, ht, hw⟩)))) hd hr
theorem own_ret0 (X : Stand p l e R s m args below meth c T locs cells slots) (hx : p.tables.exec = Jvm.exec) (hlk : meth.locks = false) (hret : meth.sig.returnType = none) (hd : decode c.code pc = .ok (.return_, 1)) (hc : cells ≤ cc) (hs : slots ≤ ss) (hQ : Q none T.heap locs) : own_Goes p e below s Q cc ss T (mkF m pc Ls []) :=
  own_end X hlk (fun _ => rfl) hc hs hQ fun fs hr => X.returnOut hx hret hd hr
def own_GoesW (p : Program) (e : Env) (below : List Frame) (s : State) (Q : Option Value → Heap → List Loc → Prop) (cc ss : Nat) (T : State) (g : JFrame) : Prop :=
  ∃ s₂ o, Steps p.tables e below (T.setTop g) s₂ ∧ s₂.status = .running ∧ Ended s₂ below o ∧ ∃ v L, o = .returned v ∧ Q v s₂.heap L ∧ ReturnedEndW s o s₂ L cc ss
theorem own_stW (h : ∀ t, Steps p.tables e below (T'.setTop g') t → Steps p.tables e below (T.setTop g) t) (k : own_GoesW p e below s Q cc ss T' g') : own_GoesW p e below s Q cc ss T g := by
  obtain ⟨s₂, o, h1, r⟩ := k; exact ⟨s₂, o, h _ h1, r⟩
theorem own_endW {v : Option Value} {vm₁ : Vm} {k0 : Nat} (X : Stand p l e R (s.setVm vm₁) m args below meth c T locs cells slots) (hlk : meth.locks = false) (hS : s.Since vm₁ k0) (hk : k0 ≤ T.heap.size) (hv : meth.sig.returnType = none → v = none) (hc : cells ≤ cc) (hs : slots ≤ ss) (hQ : Q v T.heap locs)
    (st : ∀ fs, (∀ (f : JFrame) (acts : List Action), f.method = m → f.locked = none → f.entered = [] → (doReturn e (T.setTop f) acts v).1 = T.setFrames fs) → Steps p.tables e below (T.setTop g) (T.setFrames fs)) : own_GoesW p e below s Q cc ss T g := by
  obtain ⟨fs, hr, hrun, hended, h1, h2, h3, h4⟩ := X.leaveW hS hk (v := v) hv hlk
  exact ⟨_, _, st fs hr, hrun, hended, _, _, rfl, hQ, h1, h2, h3, h4.mono hc hs⟩
theorem own_retNW {vm₁ : Vm} {k0 : Nat} (X : Stand p l e R (s.setVm vm₁) m args below meth c T locs cells slots) (hx : p.tables.exec = Jvm.exec) (hlk : meth.locks = false) (hS : s.Since vm₁ k0) (hk : k0 ≤ T.heap.size) {t : FieldType} {z : Int32} {rest : List Value} (hret : meth.sig.returnType = some t) (ht : t = .boolean ∨ t = .byte ∨ t = .char ∨ t = .short) (hd : decode c.code pc = .ok (.ireturn, 1)) (hc : cells ≤ cc) (hs : slots ≤ ss) (hQ : Q (some (.int (nar t z))) T.heap locs) : own_GoesW p e below s Q cc ss T (mkF m pc Ls (.int z :: rest)) :=
  own_endW X hlk hS hk (fun h => by rw [hret] at h; cases h) hc hs hQ fun fs hr => retN X hx hret ht hd hr
def own_GoesH (p : Program) (e : Env) (below : List Frame) (s Z : State) (EL : List (String × Nat)) (Q : Option Value → Heap → List Loc → Prop) (cc ss : Nat) (T : State) (g : JFrame) : Prop :=
  ∃ s₂ o, Steps p.tables e below (T.setTop g) s₂ ∧ s₂.status = .running ∧ Ended s₂ below o ∧ ∃ v L, o = .returned v ∧ Q v s₂.heap L ∧ CHr Z EL s.vm s.heap s₂.vm s₂.heap ∧ ReturnedEndW s o s₂ L cc ss
theorem own_stH {Z : State} {EL : List (String × Nat)} (h : ∀ t, Steps p.tables e below (T'.setTop g') t → Steps p.tables e below (T.setTop g) t) (k : own_GoesH p e below s Z EL Q cc ss T' g') : own_GoesH p e below s Z EL Q cc ss T g := by
  obtain ⟨s₂, o, h1, r⟩ := k; exact ⟨s₂, o, h _ h1, r⟩
theorem own_endH {Z : State} {EL : List (String × Nat)} {a0 : Array Value} {h h0 : Heap} {v : Option Value} {vm₁ : Vm} {k0 : Nat} (X : Stand p l e R (s.setVm vm₁) m args below meth c T locs cells slots) (hlk : meth.locks = false) (hS : s.Since vm₁ k0) (hk : k0 ≤ T.heap.size) (hZ : Z.Warmed39 vm₁) (hEL : EW Z a0 EL) (hh : s.heap = h0) (eT : T.heap = h) (hC : CHr Z EL s.vm h0 vm₁ h) (hv : meth.sig.returnType = none → v = none) (hc : cells ≤ cc) (hs : slots ≤ ss) (hQ : Q v T.heap locs)
    (st : ∀ fs, (∀ (f : JFrame) (acts : List Action), f.method = m → f.locked = none → f.entered = [] → (doReturn e (T.setTop f) acts v).1 = T.setFrames fs) → Steps p.tables e below (T.setTop g) (T.setFrames fs)) : own_GoesH p e below s Z EL Q cc ss T g := by
  obtain ⟨fs, hr, hrun, hended, h1, h2, h3, h4⟩ := X.leaveW hS hk (v := v) hv hlk
  subst eT hh
  have C := CHv.at X hZ hEL hC.1
  exact ⟨_, _, st fs hr, hrun, hended, _, _, rfl, hQ, hC.trans C, h1, h2, h3, h4.mono hc hs⟩
theorem own_sn {Z : State} {EL : List (String × Nat)} {vm : Vm} {h : Heap} : ∀ x ∈ ([] : List Addr), x < h.size ∧ Safe Z EL vm h x := fun _ q => nomatch q
theorem own_ss {Z : State} {EL : List (String × Nat)} {vm : Vm} {h : Heap} {y : Addr} {L : List Addr} (q : y < h.size) (n : Safe Z EL vm h y) (r : ∀ x ∈ L, x < h.size ∧ Safe Z EL vm h x) : ∀ x ∈ y :: L, x < h.size ∧ Safe Z EL vm h x := fun x z => (List.mem_cons.mp z).elim (fun u => u ▸ ⟨q, n⟩) (r x)
/-- a callee that may load the constants, that keeps what they say, and that is told which of its objects are none of them -/
theorem own_backH {Z : State} {EL : List (String × Nat)} {a0 : Array Value} {h : Heap} {vm0 : Vm} {y : MethodName} {bytes : ByteArray} {maxL : Nat} {ret : Option FieldType} {rm : Room} {len W : Nat} {as' : Array Value} {sl : List Addr} {Qc : Option Value → Heap → List Loc → Prop}
    (hM : MetFree l y (head1 [Cond.code y bytes maxL ret] rm) (fun a U => a = as' ∧ Z.Warmed39 U.vm ∧ U.heap = h ∧ CHv Z EL U.vm h ∧ ∀ x ∈ sl, Safe Z EL U.vm h x) (fun _ _ _ _ _ => True) (fun _ U o U' => ∃ v L, o = .returned v ∧ Qc v U'.heap L ∧ CHr Z EL U.vm U.heap U'.vm U'.heap ∧ ReturnedEndW U o U' L rm.cells rm.slots))
    (hZ : Z.Warmed39 vm0) (wc : (Cond.code y bytes maxL ret).before a0 Z = true) (wz : (Cond.initialized y.cls).before a0 Z = true) (hf : rm.frames + 1 ≤ R.frames) (hl : W + (maxL + 11) + rm.locals ≤ R.locals) (hEL : EW Z a0 EL) (H : CHv Z EL vm0 h) (hs : ∀ x ∈ sl, x < h.size ∧ Safe Z EL vm0 h x) :
    BackS l R p e below (s.setVm vm0) args y len W (fun A a => a = as' ∧ A.U.heap = h ∧ A.cells + rm.cells ≤ R.cells ∧ A.slots + rm.slots ≤ R.slots)
      (fun A _ v B => ∃ L, Qc v B.U.heap L ∧ B.locs = A.locs ++ L ∧ B.cells = A.cells + rm.cells ∧ B.slots = A.slots + rm.slots ∧ CHr Z EL vm0 h B.U.vm B.U.heap) := by
  refine BackS.of_freeW (bytes := bytes) (maxL := maxL) (ret := ret) (E := fun _ first o t L k n => k = rm.cells ∧ n = rm.slots ∧ (∃ v, o = .returned v ∧ Qc v t.heap L) ∧ CHr Z EL first.vm first.heap t.vm t.heap) hM hf hl ?_ ?_ (fun _ _ _ _ _ _ _ _ _ => trivial) ?_ ?_
  · intro m meth c A a Y hp
    have hU : Z.Warmed39 A.U.vm := wtrans (s := s.setVm vm0) hZ Y.warmed
    exact ⟨by show (Cond.and _ .tt).before a A.U = true; rw [Cond.before_and, mv hU wc]; rfl, mv hU wc, mv hU wz, hp.2.2.1, hp.2.2.2⟩
  · intro m meth c A a g mk Y hp
    have C := CHv.at Y hZ hEL H
    exact ⟨hp.1, wtrans (s := s.setVm vm0) hZ Y.warmed, hp.2.1, C.1, fun x hx => C.safe (hs x hx).1 (hs x hx).2⟩
  · rintro _ _ _ _ ⟨v, L, h1, h2, h3, h4⟩
    exact ⟨L, _, _, h4, rfl, rfl, ⟨v, h1, h2⟩, h3⟩
  · rintro m meth c A a g mk v t L k n Y hp _ _ ⟨e1, e2, ⟨v', e3, e4⟩, e5⟩
    cases e3; subst e1 e2
    refine ⟨L, e4, rfl, rfl, rfl, (CHv.at Y hZ hEL H).trans ?_⟩
    rw [← hp.2.1]; exact e5
theorem own_nsr {Z : State} {a0 : Array Value} {O K : String} {n : Nat} (w : (Cond.noSuperclass O).before a0 Z = true) (wk : (Cond.instantiable K n).before a0 Z = true) (hn : O ≠ K) : NS Z O K := by
  obtain ⟨c, k, h1, h2, h3, -, -⟩ := Cond.noSuperclass_spec w
  obtain ⟨t, kt, g1, -⟩ := Cond.instantiable_spec wk
  have ne := ids_ne h1 g1 hn
  refine ⟨c, t, h1, g1, fun fuel => ?_⟩
  cases fuel with
  | zero => rfl
  | succ f => simp [Vm.isSubclassAux, ne, h2, h3]
theorem own_nsn {Z : State} {a0 : Array Value} {C S K : String} {n : Nat} (w : (Cond.superclass C S).before a0 Z = true) (wk : (Cond.instantiable K n).before a0 Z = true) (q : NS Z C K) (hn : C ≠ K) : ∃ c t, Z.vm.findClass C = some c ∧ Z.vm.findClass K = some t ∧ Z.vm.assignable c t = false := by
  obtain ⟨c, t, h0, g0, n3⟩ := q
  obtain ⟨p, k, kp, h1, h2, h3, h4, h5, -, h7⟩ := Cond.superclass_spec h0 w
  obtain ⟨t', kt, g1, g2, g5, g6, -⟩ := Cond.instantiable_spec wk
  cases g0.symm.trans g1
  have g7 : kt.isInterface = false := by simp only [Bool.or_eq_false_iff] at g6; exact g6.1
  have ne := ids_ne h0 g0 hn
  refine ⟨c, t, h0, g0, ?_⟩
  show Z.vm.assignableAux (255 + 1) c t = false
  simp [Vm.assignableAux, ne, h2, g2, h5, g5, g7, Vm.isSubclass, n3]
theorem own_Sta_keep {Z : State} {h h' : Heap} {ws : List Addr} {C n d : String} {w : Value} (F : Sta Z h C n d w) (K : Keep h h' ws) (q : ∀ x ∈ ws, ∀ cell : Cell, h[x]? = some cell → cell.vm.isStatics = false) : Sta Z h' C n d w := by
  obtain ⟨cf, i, k, f, st, cell, h1, h2, h3, h4, h5, h6, h7⟩ := F
  exact ⟨cf, i, k, f, st, cell, h1, h2, h3, h4, K.2.1 st cell h5 (fun z => by rw [q st z cell h5] at h6; cases h6), h6, h7⟩
end New
end Jvm.RoadKit
/- laws to paste: Road.backV, Road.eqW (cut by pick.py; bodies as the Statement names them) -/
namespace Jvm.Pilot.@@N@@
namespace StrChars
open Jvm Sem ClassFile Op Lib Jvm.Stand Jvm.Free.XT Jvm.Free.ALB Jvm.Free.JM Jvm.Free
open Jvm.Lib.Cold (StaticIs)
/-- a char array whose places are chars -/
def Ch (a : Addr) (A : Cell) (U : State) : Prop := Arr .char a A U ∧ Typed .char A
theorem Ch.mv {a : Addr} {A : Cell} {U U' : State} (h : Ch a A U) (hal : U.vm.Alike U'.vm) (hh : U'.heap = U.heap) : Ch a A U' := ⟨h.1.mv hal hh, h.2⟩
theorem Ch.keep {a : Addr} {A : Cell} {U U' : State} (h : Ch a A U) (hal : U.vm.Alike U'.vm) (hk : U'.heap[a]? = some A) : Ch a A U' := ⟨h.1.keep hal hk, h.2⟩
/-- what place i of a char[]'s cell holds -/
def cv (A : Cell) (i : Nat) : Int32 := match A.slots[i]? with | some (.int x) => x | _ => 0
theorem Ch.get {a : Addr} {A : Cell} {U : State} (h : Ch a A U) {i : Nat} (hi : i < A.slots.size) : A.slots[i]? = some (.int (cv A i)) := by
  have e := Array.getElem?_eq_getElem hi
  have f := h.2 i _ e
  unfold cv; rw [e]
  generalize A.slots[i] = v at f
  cases v <;> simp [fits] at f ⊢
/-- the byte that i2b leaves of a char -/
def lo8 (x : Int32) : Int32 := x.toInt8.toInt32
theorem fits_lo8 (y : Int32) : fits .byte (.int (lo8 y)) = true := by
  have h1 := y.toInt8.le_toInt
  have h2 := y.toInt8.toInt_lt
  simp only [lo8, fits, Bool.and_eq_true, decide_eq_true_eq, Int32.le_iff_toInt_le, Int8.toInt_toInt32, show (-128 : Int32).toInt = -128 from by decide, show (127 : Int32).toInt = 127 from by decide]
  omega
/-- A' is A but that each place j of lo .. hi - 1 holds f j -/
def Laid (A A' : Cell) (lo hi : Nat) (f : Nat → Value) : Prop := A'.cls = A.cls ∧ A'.vm = A.vm ∧ A'.slots.size = A.slots.size ∧ ∀ i, A'.slots[i]? = if lo ≤ i ∧ i < hi then some (f i) else A.slots[i]?
theorem Laid.zero (A : Cell) (lo : Nat) (f : Nat → Value) : Laid A A lo (lo + 0) f := ⟨rfl, rfl, rfl, fun i => by rw [if_neg (by omega)]⟩
theorem Laid.step {A Ak : Cell} {lo k : Nat} {f : Nat → Value} {v : Value} (h : Laid A Ak lo k f) (hlo : lo ≤ k) (hk : k < Ak.slots.size) (hv : v = f k) : Laid A (Ak.setSlot k v) lo (k + 1) f := by
  refine ⟨h.1, h.2.1, by simpa [Cell.setSlot] using h.2.2.1, fun i => ?_⟩
  by_cases e : k = i
  · subst e; rw [Cell.slots_setSlot_self v hk, if_pos (by omega), hv]
  · rw [Cell.slots_setSlot_ne v e, h.2.2.2 i]
    by_cases q : lo ≤ i ∧ i < k
    · rw [if_pos q, if_pos (by omega)]
    · rw [if_neg q, if_neg (by omega)]
def U16 : String := "java/lang/StringUTF16"
namespace Cmp5
def yN : MethodName := ⟨"java/lang/StringUTF16", "compress", "([CI[BII)I"⟩
abbrev yB : ByteArray := jdk_52_method_21_code
theorem d0 : decode yB 0 = .ok (.iconst 0, 1) := by decide +kernel
theorem d1 : decode yB 1 = .ok (.istore 5, 2) := by decide +kernel
theorem d3 : decode yB 3 = .ok (.iload 5, 2) := by decide +kernel
theorem d5 : decode yB 5 = .ok (.iload 4, 2) := by decide +kernel
theorem d7 : decode yB 7 = .ok (.if_icmp (.ge) 37, 3) := by decide +kernel
theorem d10 : decode yB 10 = .ok (.aload_n 0, 1) := by decide +kernel
theorem d11 : decode yB 11 = .ok (.iload_n 1, 1) := by decide +kernel
theorem d12 : decode yB 12 = .ok (.caload, 1) := by decide +kernel
theorem d13 : decode yB 13 = .ok (.istore 6, 2) := by decide +kernel
theorem d15 : decode yB 15 = .ok (.iload 6, 2) := by decide +kernel
theorem d17 : decode yB 17 = .ok (.sipush 255, 3) := by decide +kernel
theorem d20 : decode yB 20 = .ok (.if_icmp (.le) 6, 3) := by decide +kernel
theorem d26 : decode yB 26 = .ok (.aload_n 2, 1) := by decide +kernel
theorem d27 : decode yB 27 = .ok (.iload_n 3, 1) := by decide +kernel
theorem d28 : decode yB 28 = .ok (.iload 6, 2) := by decide +kernel
theorem d30 : decode yB 30 = .ok (.i2b, 1) := by decide +kernel
theorem d31 : decode yB 31 = .ok (.bastore, 1) := by decide +kernel
theorem d32 : decode yB 32 = .ok (.iinc 1 1, 3) := by decide +kernel
theorem d35 : decode yB 35 = .ok (.iinc 3 1, 3) := by decide +kernel
theorem d38 : decode yB 38 = .ok (.iinc 5 1, 3) := by decide +kernel
theorem d41 : decode yB 41 = .ok (.goto (-38), 3) := by decide +kernel
theorem d44 : decode yB 44 = .ok (.iload 4, 2) := by decide +kernel
theorem d46 : decode yB 46 = .ok (.ireturn, 1) := by decide +kernel
def site : List Cond := []
def tab : Cond := tabOf yN yB 7 (some .int) site
def P (b : Addr) (A : Cell) (d : Addr) (B : Cell) (o q len : Nat) (args : Array Value) (s : State) : Prop := args = #[.ref b, .int (Int32.ofNat o), .ref d, .int (Int32.ofNat q), .int (Int32.ofNat len)] ∧ Ch b A s ∧ Arr .byte d B s ∧ b ≠ d ∧ o + len ≤ A.slots.size ∧ q + len ≤ B.slots.size ∧ ∀ i, i < len → ¬ 255 < cv A (o + i)
def E (b : Addr) (A : Cell) (d : Addr) (B : Cell) (o q len : Nat) (r : Option Value) (s u : State) : Prop := r = some (.int (Int32.ofNat len)) ∧ ∃ B', Put d B' s u ∧ Laid B B' q (q + len) (fun j => Value.int (lo8 (cv A (o + (j - q)))))
/-- no char of the range above 255: len; the places written hold each char's low byte -/
theorem law (l : Launch) (b : Addr) (A : Cell) (d : Addr) (B : Cell) (o q len : Nat) : Law l yN 5 5 0 0 yB 7 (some .int) site (P b A d B o q len) (E b A d B o q len) (copyLocs d q len) 0 0 := by
  refine Law.of_walk (plainFor_of_name (by decide +kernel)) (by decide +kernel) (by decide +kernel) (by decide) (fun _ _ h => by rw [h.1]; rfl) (fun _ U U' hal hh h => ⟨h.1, h.2.1.mv hal hh, h.2.2.1.mv hal hh, h.2.2.2⟩) (fun r U U' V V' h1 hal h2 h => ⟨h.1, h.2.elim fun B' q => ⟨B', q.1.mv h1 h2, q.2⟩⟩) ?_
  intro p e s m args below meth c s₁ X0 hexec hbytes hml hret hlk hnm hown hh0 W hP
  obtain ⟨rfl, hA, hB, hne, l1, l2, hp⟩ := hP
  have c1 : Steps p.tables e below (s₁.setTop (entryFrame m #[.ref b, .int (Int32.ofNat o), .ref d, .int (Int32.ofNat q), .int (Int32.ofNat len)] 7)) (s₁.setTop (mkF m 0 #[.val (.ref b), .val (.int (Int32.ofNat o)), .val (.ref d), .val (.int (Int32.ofNat q)), .val (.int (Int32.ofNat len)), .unset, .unset] [])) := entry rfl
  have hA0 := hA.1.mv X0.warmed.alike hh0
  have hB0 := hB.mv X0.warmed.alike hh0
  have a31 := hA.1.2.2.2
  have c2 : Steps p.tables e below (s₁.setTop (entryFrame m #[.ref b, .int (Int32.ofNat o), .ref d, .int (Int32.ofNat q), .int (Int32.ofNat len)] 7)) (s₁.setTop (mkF m 3 #[.val (.ref b), .val (.int (Int32.ofNat o)), .val (.ref d), .val (.int (Int32.ofNat q)), .val (.int (Int32.ofNat len)), .val (.int 0), .unset] [])) := c1.trans (by
    refine iconstV X0.here hexec rfl 0 (hb hbytes d0) (by decide) ?_
    refine XS.istore X0.here hexec rfl (hb hbytes d1) rfl rfl ?_
    exact Steps.refl _)
  have loop : ∀ (r i : Nat), i + r = len → ∀ (z : Slot), (z = .unset ∨ ∃ w, z = .val w ∧ w.category = 1) → ∀ (Tl : State) (Bk : Cell), Stand p l e { frames := 0, locals := 0, cells := 0, slots := 0 } s m #[.ref b, .int (Int32.ofNat o), .ref d, .int (Int32.ofNat q), .int (Int32.ofNat len)] below meth c Tl ([] ++ copyLocs d q i) 0 0 → Put d Bk s₁ Tl → Laid B Bk q (q + i) (fun j => Value.int (lo8 (cv A (o + (j - q))))) →
      Steps p.tables e below (s₁.setTop (entryFrame m #[.ref b, .int (Int32.ofNat o), .ref d, .int (Int32.ofNat q), .int (Int32.ofNat len)] 7)) (Tl.setTop (mkF m 3 #[.val (.ref b), .val (.int (Int32.ofNat (o + i))), .val (.ref d), .val (.int (Int32.ofNat (q + i))), .val (.int (Int32.ofNat len)), .val (.int (Int32.ofNat i)), z] [])) → ∃ (T' : State) (B' : Cell) (z' : Slot), Stand p l e { frames := 0, locals := 0, cells := 0, slots := 0 } s m #[.ref b, .int (Int32.ofNat o), .ref d, .int (Int32.ofNat q), .int (Int32.ofNat len)] below meth c T' ([] ++ copyLocs d q len) 0 0 ∧ Put d B' s₁ T' ∧ Laid B B' q (q + len) (fun j => Value.int (lo8 (cv A (o + (j - q))))) ∧
      Steps p.tables e below (s₁.setTop (entryFrame m #[.ref b, .int (Int32.ofNat o), .ref d, .int (Int32.ofNat q), .int (Int32.ofNat len)] 7)) (T'.setTop (mkF m 3 #[.val (.ref b), .val (.int (Int32.ofNat (o + len))), .val (.ref d), .val (.int (Int32.ofNat (q + len))), .val (.int (Int32.ofNat len)), .val (.int (Int32.ofNat len)), z'] [])) := by
    intro r
    induction r with
    | zero =>
      intro i hi z hz Tl Bk Xl pl fl cl
      have hil : i = len := by omega
      rw [hil] at Xl fl cl
      exact ⟨Tl, Bk, z, Xl, pl, fl, cl⟩
    | succ r ih =>
      intro i hi z hz Tl Bk Xl pl fl cl
      have all := X0.warmed.alike.symm.trans Xl.warmed.alike
      have hAl := hA0.keep all (pl.other hne hA0.1)
      have hBk := hB0.like all pl.1 fl.1 fl.2.1 fl.2.2.1
      have hlt : q + i < Bk.slots.size := by rw [fl.2.2.1]; omega
      have c3 : Steps p.tables e below (s₁.setTop (entryFrame m #[.ref b, .int (Int32.ofNat o), .ref d, .int (Int32.ofNat q), .int (Int32.ofNat len)] 7)) (Tl.setTop (mkF m 12 #[.val (.ref b), .val (.int (Int32.ofNat (o + i))), .val (.ref d), .val (.int (Int32.ofNat (q + i))), .val (.int (Int32.ofNat len)), .val (.int (Int32.ofNat i)), z] [.int (Int32.ofNat (o + i)), .ref b])) := cl.trans (by
        refine XS.iload Xl.here hexec rfl (hb hbytes d3) rfl ?_
        refine XS.iload Xl.here hexec rfl (hb hbytes d5) rfl ?_
        refine XS.icmpNo Xl.here hexec rfl (hb hbytes d7) rfl (ii_ge_f (lt32 (by omega) (by omega))) ?_
        refine XS.aloadN Xl.here hexec rfl (hb hbytes d10) rfl rfl ?_
        refine XS.iloadN Xl.here hexec rfl (hb hbytes d11) rfl ?_
        exact Steps.refl _)
      have c4 : Steps p.tables e below (s₁.setTop (entryFrame m #[.ref b, .int (Int32.ofNat o), .ref d, .int (Int32.ofNat q), .int (Int32.ofNat len)] 7)) (Tl.setTop (mkF m 13 #[.val (.ref b), .val (.int (Int32.ofNat (o + i))), .val (.ref d), .val (.int (Int32.ofNat (q + i))), .val (.int (Int32.ofNat len)), .val (.int (Int32.ofNat i)), z] [.int (cv A (o + i))])) := c3.trans (by
        refine Xl.aget hexec hAl rfl (hA.get (i := o + i) (by omega)) rfl rfl (hb hbytes d12) ?_
        exact Steps.refl _)
      have c5 : Steps p.tables e below (s₁.setTop (entryFrame m #[.ref b, .int (Int32.ofNat o), .ref d, .int (Int32.ofNat q), .int (Int32.ofNat len)] 7)) (Tl.setTop (mkF m 15 #[.val (.ref b), .val (.int (Int32.ofNat (o + i))), .val (.ref d), .val (.int (Int32.ofNat (q + i))), .val (.int (Int32.ofNat len)), .val (.int (Int32.ofNat i)), .val (.int (cv A (o + i)))] [])) := c4.trans (by
        refine XS.istoreS Xl.here hexec rfl (hb hbytes d13) rfl rfl hz ?_
        exact Steps.refl _)
      have c6 : Steps p.tables e below (s₁.setTop (entryFrame m #[.ref b, .int (Int32.ofNat o), .ref d, .int (Int32.ofNat q), .int (Int32.ofNat len)] 7)) (Tl.setTop (mkF m 31 #[.val (.ref b), .val (.int (Int32.ofNat (o + i))), .val (.ref d), .val (.int (Int32.ofNat (q + i))), .val (.int (Int32.ofNat len)), .val (.int (Int32.ofNat i)), .val (.int (cv A (o + i)))] [.int (lo8 (cv A (o + i))), .int (Int32.ofNat (q + i)), .ref d])) := c5.trans (by
        refine XS.iload Xl.here hexec rfl (hb hbytes d15) rfl ?_
        refine sipushV Xl.here hexec rfl 255 (hb hbytes d17) (by decide) ?_
        refine XS.icmpYes Xl.here hexec rfl (pc0 := 20) rfl (hb hbytes d20) rfl (ii_le_t (hp i (by omega))) (by decide) rfl ?_
        refine XS.aloadN Xl.here hexec rfl (hb hbytes d26) rfl rfl ?_
        refine XS.iloadN Xl.here hexec rfl (hb hbytes d27) rfl ?_
        refine XS.iload Xl.here hexec rfl (hb hbytes d28) rfl ?_
        refine i2b Xl.here hexec rfl (hb hbytes d30) rfl ?_
        exact Steps.refl _)
      obtain ⟨T7, X7, p7, st7⟩ := Xl.aput hexec hBk rfl hlt rfl (fits_lo8 (cv A (o + i))) (g := (mkF m 31 #[.val (.ref b), .val (.int (Int32.ofNat (o + i))), .val (.ref d), .val (.int (Int32.ofNat (q + i))), .val (.int (Int32.ofNat len)), .val (.int (Int32.ofNat i)), .val (.int (cv A (o + i)))] [.int (lo8 (cv A (o + i))), .int (Int32.ofNat (q + i)), .ref d])) rfl (rest := []) rfl (hb hbytes d31)
      have c8 : Steps p.tables e below (s₁.setTop (entryFrame m #[.ref b, .int (Int32.ofNat o), .ref d, .int (Int32.ofNat q), .int (Int32.ofNat len)] 7)) (T7.setTop (mkF m 32 #[.val (.ref b), .val (.int (Int32.ofNat (o + i))), .val (.ref d), .val (.int (Int32.ofNat (q + i))), .val (.int (Int32.ofNat len)), .val (.int (Int32.ofNat i)), .val (.int (cv A (o + i)))] [])) := c6.trans (st7 _ (Steps.refl _))
      have c9 : Steps p.tables e below (s₁.setTop (entryFrame m #[.ref b, .int (Int32.ofNat o), .ref d, .int (Int32.ofNat q), .int (Int32.ofNat len)] 7)) (T7.setTop (mkF m 3 #[.val (.ref b), .val (.int (Int32.ofNat (o + i) + 1)), .val (.ref d), .val (.int (Int32.ofNat (q + i) + 1)), .val (.int (Int32.ofNat len)), .val (.int (Int32.ofNat i + 1)), .val (.int (cv A (o + i)))] [])) := c8.trans (by
        refine iincV X7.here hexec rfl 1 (hb hbytes d32) (by decide) rfl rfl ?_
        refine iincV X7.here hexec rfl 1 (hb hbytes d35) (by decide) rfl rfl ?_
        refine iincV X7.here hexec rfl 1 (hb hbytes d38) (by decide) rfl rfl ?_
        refine XS.goto X7.here hexec rfl (pc0 := 41) rfl (hb hbytes d41) (by decide) rfl ?_
        exact Steps.refl _)
      have c10 : Steps p.tables e below (s₁.setTop (entryFrame m #[.ref b, .int (Int32.ofNat o), .ref d, .int (Int32.ofNat q), .int (Int32.ofNat len)] 7)) (T7.setTop (mkF m 3 #[.val (.ref b), .val (.int (Int32.ofNat (o + (i + 1)))), .val (.ref d), .val (.int (Int32.ofNat (q + (i + 1)))), .val (.int (Int32.ofNat len)), .val (.int (Int32.ofNat (i + 1))), .val (.int (cv A (o + i)))] [])) := by
        have := c9
        rw [succ32, succ32, succ32] at this
        exact this
      exact ih (i + 1) (by omega) _ (Or.inr ⟨_, rfl, rfl⟩) T7 _ (by rw [copyLocs_step, ← List.append_assoc]; exact X7) (pl.trans p7) (fl.step (by omega) hlt (by simp)) c10
  obtain ⟨T9, B9, z9, X9, p9, f9, g9⟩ := loop len 0 (by omega) .unset (Or.inl rfl) s₁ B (by simpa [copyLocs] using X0) ⟨hB0.1, fun _ _ => rfl, rfl⟩ (Laid.zero _ _ _) c2
  have c11 : Steps p.tables e below (s₁.setTop (entryFrame m #[.ref b, .int (Int32.ofNat o), .ref d, .int (Int32.ofNat q), .int (Int32.ofNat len)] 7)) (T9.setTop (mkF m 46 #[.val (.ref b), .val (.int (Int32.ofNat (o + len))), .val (.ref d), .val (.int (Int32.ofNat (q + len))), .val (.int (Int32.ofNat len)), .val (.int (Int32.ofNat len)), z9] [.int (Int32.ofNat len)])) := g9.trans (by
    refine XS.iload X9.here hexec rfl (hb hbytes d3) rfl ?_
    refine XS.iload X9.here hexec rfl (hb hbytes d5) rfl ?_
    refine XS.icmpYes X9.here hexec rfl (pc0 := 7) rfl (hb hbytes d7) rfl (ii_ge_t (nlt32 (by omega) (Nat.le_refl _))) (by decide) rfl ?_
    refine XS.iload X9.here hexec rfl (hb hbytes d44) rfl ?_
    exact Steps.refl _)
  exact ⟨T9, some (.int (Int32.ofNat len)), _, _, _, X9, by simp, rfl, rfl, (fun h => by cases h), ⟨rfl, B9, p9.from hh0, f9⟩, fun fs hl => c11.trans (X9.ireturnOut hexec hret rfl (Or.inl rfl) (hb hbytes d46) hl)⟩
end Cmp5
namespace Cmp3
def yN : MethodName := ⟨"java/lang/StringUTF16", "compress", "([CII)[B"⟩
abbrev yB : ByteArray := jdk_52_method_16_code
theorem d0 : decode yB 0 = .ok (.iload_n 2, 1) := by decide +kernel
theorem d1 : decode yB 1 = .ok (.newarray .byte, 2) := by decide +kernel
theorem d3 : decode yB 3 = .ok (.astore_n 3, 1) := by decide +kernel
theorem d4 : decode yB 4 = .ok (.aload_n 0, 1) := by decide +kernel
theorem d5 : decode yB 5 = .ok (.iload_n 1, 1) := by decide +kernel
theorem d6 : decode yB 6 = .ok (.aload_n 3, 1) := by decide +kernel
theorem d7 : decode yB 7 = .ok (.iconst 0, 1) := by decide +kernel
theorem d8 : decode yB 8 = .ok (.iload_n 2, 1) := by decide +kernel
theorem d9 : decode yB 9 = .ok (.invokestatic 115, 3) := by decide +kernel
theorem d12 : decode yB 12 = .ok (.istore 4, 2) := by decide +kernel
theorem d14 : decode yB 14 = .ok (.iload 4, 2) := by decide +kernel
theorem d16 : decode yB 16 = .ok (.iload_n 2, 1) := by decide +kernel
theorem d17 : decode yB 17 = .ok (.if_icmp (.eq) 40, 3) := by decide +kernel
theorem d57 : decode yB 57 = .ok (.aload_n 3, 1) := by decide +kernel
theorem d58 : decode yB 58 = .ok (.areturn, 1) := by decide +kernel
def site : List Cond := [.arrayClass .byte, Cmp5.tab] ++ staticW U16 115 Cmp5.yN
def tab : Cond := tabOf yN yB 6 (some (.array .byte)) site
def P (b : Addr) (A : Cell) (o len : Nat) (args : Array Value) (s : State) : Prop := args = #[.ref b, .int (Int32.ofNat o), .int (Int32.ofNat len)] ∧ Ch b A s ∧ o + len ≤ A.slots.size ∧ len ≤ 536870912 ∧ ∀ i, i < len → ¬ 255 < cv A (o + i)
def E (b : Addr) (A : Cell) (o len : Nat) (r : Option Value) (s u : State) : Prop := NewArr .byte "[B" len (fun j => .int (lo8 (cv A (o + j)))) r s u ∧ u.heap.size = s.heap.size + 1
/-- no char of the range above 255: a new byte[] of their low bytes -/
theorem law (l : Launch) (b : Addr) (A : Cell) (o len : Nat) : Law l yN 3 3 1 18 yB 6 (some (.array .byte)) site (P b A o len) (E b A o len) [] 1 len := by
  refine Law.of_walk (plainFor_of_name (by decide +kernel)) (by decide +kernel) (by decide +kernel) (by decide) (fun _ _ h => by rw [h.1]; rfl) (fun _ U U' hal hh h => ⟨h.1, h.2.1.mv hal hh, h.2.2⟩) (fun r U U' V V' h1 hal h2 h => ⟨NewArr.mv r U U' V V' h1 hal h2 h.1, by rw [h1, h2]; exact h.2⟩) ?_
  intro p e s m args below meth c s₁ X0 hexec hbytes hml hret hlk hnm hown hh0 W hP
  obtain ⟨rfl, hA, l1, l2, hp⟩ := hP
  have a31 := hA.1.2.2.2
  have c1 : Steps p.tables e below (s₁.setTop (entryFrame m #[.ref b, .int (Int32.ofNat o), .int (Int32.ofNat len)] 6)) (s₁.setTop (mkF m 0 #[.val (.ref b), .val (.int (Int32.ofNat o)), .val (.int (Int32.ofNat len)), .unset, .unset, .unset] [])) := entry rfl
  have c2 : Steps p.tables e below (s₁.setTop (entryFrame m #[.ref b, .int (Int32.ofNat o), .int (Int32.ofNat len)] 6)) (s₁.setTop (mkF m 1 #[.val (.ref b), .val (.int (Int32.ofNat o)), .val (.int (Int32.ofNat len)), .unset, .unset, .unset] [.int (Int32.ofNat len)])) := c1.trans (by
    refine XS.iloadN X0.here hexec rfl (hb hbytes d0) rfl ?_
    exact Steps.refl _)
  obtain ⟨T3, B3, X3, ba3, bs3, bv3, bh3, bf3, st3⟩ := X0.anew hexec (atype := .byte) (wk W (.arrayClass .byte)) rfl (by show len * 1 ≤ _; omega) (by omega) (g := (mkF m 1 #[.val (.ref b), .val (.int (Int32.ofNat o)), .val (.int (Int32.ofNat len)), .unset, .unset, .unset] [.int (Int32.ofNat len)])) rfl (hb hbytes d1) (rest := []) rfl (Nat.le_refl _) (by show 0 + len ≤ len; omega)
  rw [hh0] at ba3 st3
  have kp3 : XT.Kept s T3 := (XT.Kept.of_eq hh0).push bh3
  have hA3 := hA.keep X3.warmed.alike (kp3 _ _ hA.1.1)
  have hne : b ≠ s.heap.size := hA.1.ne
  have c4 : Steps p.tables e below (s₁.setTop (entryFrame m #[.ref b, .int (Int32.ofNat o), .int (Int32.ofNat len)] 6)) (T3.setTop (mkF m 3 #[.val (.ref b), .val (.int (Int32.ofNat o)), .val (.int (Int32.ofNat len)), .unset, .unset, .unset] [.ref s.heap.size])) := c2.trans (st3 _ (Steps.refl _))
  have c5 : Steps p.tables e below (s₁.setTop (entryFrame m #[.ref b, .int (Int32.ofNat o), .int (Int32.ofNat len)] 6)) (T3.setTop (mkF m 9 #[.val (.ref b), .val (.int (Int32.ofNat o)), .val (.int (Int32.ofNat len)), .val (.ref s.heap.size), .unset, .unset] [.int (Int32.ofNat len), .int 0, .ref s.heap.size, .int (Int32.ofNat o), .ref b])) := c4.trans (by
    refine XS.astoreN X3.here hexec rfl (hb hbytes d3) rfl rfl rfl ?_
    refine XS.aloadN X3.here hexec rfl (hb hbytes d4) rfl rfl ?_
    refine XS.iloadN X3.here hexec rfl (hb hbytes d5) rfl ?_
    refine XS.aloadN X3.here hexec rfl (hb hbytes d6) rfl rfl ?_
    refine iconstV X3.here hexec rfl 0 (hb hbytes d7) (by decide) ?_
    refine XS.iloadN X3.here hexec rfl (hb hbytes d8) rfl ?_
    exact Steps.refl _)
  obtain ⟨v6, T6, X6, E6, g6⟩ := X3.callS hexec (Cmp5.law l b A s.heap.size B3 o 0 len) hown (wks W (staticW U16 115 Cmp5.yN)) (wk W Cmp5.tab) (W := 0) (Nat.le_of_ble_eq_true rfl) (Nat.le_of_ble_eq_true rfl) (Nat.le_refl _) (by show 0 + len + 0 ≤ len; omega) (g := (mkF m 9 #[.val (.ref b), .val (.int (Int32.ofNat o)), .val (.int (Int32.ofNat len)), .val (.ref s.heap.size), .unset, .unset] [.int (Int32.ofNat len), .int (Int32.ofNat 0), .ref s.heap.size, .int (Int32.ofNat o), .ref b])) rfl (by rw [hml]; rfl) c5 (argsL := [.ref b, .int (Int32.ofNat o), .ref s.heap.size, .int (Int32.ofNat 0), .int (Int32.ofNat len)]) (rest := []) rfl rfl (by show 2 * 0 + 0 ≤ _; decide) (hb hbytes d9) (⟨rfl, hA3, ba3, hne, l1, by rw [bs3]; simp, hp⟩)
  obtain ⟨rfl, B6, p6, f6⟩ := E6
  have c7 : Steps p.tables e below (s₁.setTop (entryFrame m #[.ref b, .int (Int32.ofNat o), .int (Int32.ofNat len)] 6)) (T6.setTop (mkF m 12 #[.val (.ref b), .val (.int (Int32.ofNat o)), .val (.int (Int32.ofNat len)), .val (.ref s.heap.size), .unset, .unset] [.int (Int32.ofNat len)])) := g6
  have c8 : Steps p.tables e below (s₁.setTop (entryFrame m #[.ref b, .int (Int32.ofNat o), .int (Int32.ofNat len)] 6)) (T6.setTop (mkF m 58 #[.val (.ref b), .val (.int (Int32.ofNat o)), .val (.int (Int32.ofNat len)), .val (.ref s.heap.size), .val (.int (Int32.ofNat len)), .unset] [.ref s.heap.size])) := c7.trans (by
    refine XS.istore X6.here hexec rfl (hb hbytes d12) rfl rfl ?_
    refine XS.iload X6.here hexec rfl (hb hbytes d14) rfl ?_
    refine XS.iloadN X6.here hexec rfl (hb hbytes d16) rfl ?_
    refine XS.icmpYes X6.here hexec rfl (pc0 := 17) rfl (hb hbytes d17) rfl (ii_eq_t rfl) (by decide) rfl ?_
    refine XS.aloadN X6.here hexec rfl (hb hbytes d57) rfl rfl ?_
    exact Steps.refl _)
  have X8 := X6.wide (L' := []) (cells' := 1) (slots' := len) (fun x hx hlt => by
    simp only [List.nil_append, copyLocs, List.mem_map, List.mem_range] at hx
    obtain ⟨i, -, rfl⟩ := hx
    exact absurd hlt (Nat.lt_irrefl _)) (Nat.le_refl _) (by omega)
  exact ⟨T6, some (.ref s.heap.size), _, _, _, X8, rfl, rfl, rfl, (fun h => by cases h), ⟨⟨rfl, B6, ba3.like (X3.warmed.alike.symm.trans X6.warmed.alike) p6.1 f6.1 f6.2.1 f6.2.2.1, f6.2.1.trans bv3, by rw [X6.warmed.alike.findClass, f6.1]; exact bf3, by rw [f6.2.2.1, bs3]; simp, fun j hj => by rw [f6.2.2.2 j, if_pos (by omega)]; rfl, kp3.put p6 (Nat.le_refl _)⟩, by rw [p6.2.2, bh3, hh0]; simp⟩, fun fs hl => c8.trans (X8.areturnOut hexec rfl hret rfl (hb hbytes d58) hl)⟩
end Cmp3
namespace CodL
def yN : MethodName := ⟨"java/lang/StringUTF16", "coderFromArrayLen", "([BI)B"⟩
abbrev yB : ByteArray := jdk_52_method_15_code
theorem d0 : decode yB 0 = .ok (.iload_n 1, 1) := by decide +kernel
theorem d1 : decode yB 1 = .ok (.aload_n 0, 1) := by decide +kernel
theorem d2 : decode yB 2 = .ok (.arraylength, 1) := by decide +kernel
theorem d3 : decode yB 3 = .ok (.isub, 1) := by decide +kernel
theorem d4 : decode yB 4 = .ok (.bipush 31, 2) := by decide +kernel
theorem d6 : decode yB 6 = .ok (.iushr, 1) := by decide +kernel
theorem d7 : decode yB 7 = .ok (.i2b, 1) := by decide +kernel
theorem d8 : decode yB 8 = .ok (.ireturn, 1) := by decide +kernel
def site : List Cond := []
def tab : Cond := tabOf yN yB 2 (some .byte) site
def P (d : Addr) (B : Cell) (args : Array Value) (s : State) : Prop := args = #[.ref d, .int (Int32.ofNat B.slots.size)] ∧ Arr .byte d B s
def E (r : Option Value) (s u : State) : Prop := XT.PureE (some (.int 0)) r s u
/-- an array as long as the number of chars: LATIN1 -/
theorem law (l : Launch) (d : Addr) (B : Cell) : Law l yN 2 2 0 0 yB 2 (some .byte) site (P d B) E [] 0 0 := by
  refine Law.of_walk (plainFor_of_name (by decide +kernel)) (by decide +kernel) (by decide +kernel) (by decide) (fun _ _ h => by rw [h.1]; rfl) (fun _ U U' hal hh h => ⟨h.1, h.2.mv hal hh⟩) (fun r U U' V V' h1 hal h2 h => XT.PureE.mv r U U' V V' h1 hal h2 h) ?_
  intro p e s m args below meth c s₁ X0 hexec hbytes hml hret hlk hnm hown hh0 W hP
  obtain ⟨rfl, hB⟩ := hP
  have hB0 := hB.mv X0.warmed.alike hh0
  have c1 : Steps p.tables e below (s₁.setTop (entryFrame m #[.ref d, .int (Int32.ofNat B.slots.size)] 2)) (s₁.setTop (mkF m 0 #[.val (.ref d), .val (.int (Int32.ofNat B.slots.size))] [])) := entry rfl
  have c2 : Steps p.tables e below (s₁.setTop (entryFrame m #[.ref d, .int (Int32.ofNat B.slots.size)] 2)) (s₁.setTop (mkF m 2 #[.val (.ref d), .val (.int (Int32.ofNat B.slots.size))] [.ref d, .int (Int32.ofNat B.slots.size)])) := c1.trans (by
    refine XS.iloadN X0.here hexec rfl (hb hbytes d0) rfl ?_
    refine XS.aloadN X0.here hexec rfl (hb hbytes d1) rfl rfl ?_
    exact Steps.refl _)
  have c3 : Steps p.tables e below (s₁.setTop (entryFrame m #[.ref d, .int (Int32.ofNat B.slots.size)] 2)) (s₁.setTop (mkF m 8 #[.val (.ref d), .val (.int (Int32.ofNat B.slots.size))] [.int (lo8 (ushr (Int32.ofNat B.slots.size - Int32.ofNat B.slots.size) 31))])) := c2.trans (by
    refine X0.alen hexec hB0 rfl rfl (hb hbytes d2) ?_
    refine XS.isub X0.here hexec rfl (hb hbytes d3) rfl ?_
    refine bipushV X0.here hexec rfl 31 (hb hbytes d4) (by decide) ?_
    refine iushr X0.here hexec rfl (hb hbytes d6) rfl ?_
    refine i2b X0.here hexec rfl (hb hbytes d7) rfl ?_
    exact Steps.refl _)
  have e0 : lo8 (ushr (Int32.ofNat B.slots.size - Int32.ofNat B.slots.size) 31) = 0 := by rw [Int32.sub_self]; decide
  rw [e0] at c3
  exact ⟨s₁, some (.int 0), _, _, _, X0, rfl, rfl, rfl, (fun h => by cases h), ⟨rfl, hh0⟩, fun fs hl => c3.trans (X0.ireturnOut hexec hret rfl (Or.inr (Or.inr (Or.inl rfl))) (hb hbytes d8) hl)⟩
end CodL
/-- the String at a is Latin-1 over a new byte[] (the heap's one new cell): the low bytes of the len chars of A from o on; every cell but a is kept -/
def Got (a : Addr) (D : Cell) (fV fC : Field) (A : Cell) (o len : Nat) (r : Option Value) (s u : State) : Prop := r = none ∧ ∃ D' V : Cell, Blank "java/lang/String" a D' u ∧ Same D D' [fV.slot, fC.slot] ∧ D'.slots[fV.slot]? = some (.ref s.heap.size) ∧ D'.slots[fC.slot]? = some (.int 0) ∧ Arr .byte s.heap.size V u ∧ V.vm = .none ∧ u.vm.findClass "[B" = some V.cls ∧ V.slots.size = len ∧ (∀ j, j < len → V.slots[j]? = some (.int (lo8 (cv A (o + j))))) ∧ (∀ (y : Addr) (c : Cell), y ≠ a → s.heap[y]? = some c → u.heap[y]? = some c) ∧ u.heap.size = s.heap.size + 1
theorem Got.mv {a : Addr} {D A : Cell} {fV fC : Field} {o len : Nat} : ∀ r (U U' V V' : State), U'.heap = U.heap → V.vm.Alike V'.vm → V'.heap = V.heap → Got a D fV fC A o len r U V → Got a D fV fC A o len r U' V' :=
  fun r U U' V V' h1 hal h2 ⟨e0, D', X, a1, a2, a3, a4, a5, a6, a7, a8, a9, a10, a11⟩ => ⟨e0, D', X, a1.mv hal h2, a2, by rw [h1]; exact a3, a4, by rw [h1]; exact a5.mv hal h2, a6, by rw [hal.findClass]; exact a7, a8, a9, by rw [h1, h2]; exact a10, by rw [h1, h2]; exact a11⟩
namespace New4
def yN : MethodName := ⟨"java/lang/String", "<init>", "([CIILjava/lang/Void;)V"⟩
abbrev yB : ByteArray := jdk_42_method_149_code
theorem d0 : decode yB 0 = .ok (.aload_n 0, 1) := by decide +kernel
theorem d1 : decode yB 1 = .ok (.invokespecial 1, 3) := by decide +kernel
theorem d4 : decode yB 4 = .ok (.iload_n 3, 1) := by decide +kernel
theorem d5 : decode yB 5 = .ok (.ifCond (.ne) 22, 3) := by decide +kernel
theorem d27 : decode yB 27 = .ok (.getstatic 38, 3) := by decide +kernel
theorem d30 : decode yB 30 = .ok (.ifCond (.eq) 28, 3) := by decide +kernel
theorem d33 : decode yB 33 = .ok (.aload_n 1, 1) := by decide +kernel
theorem d34 : decode yB 34 = .ok (.iload_n 2, 1) := by decide +kernel
theorem d35 : decode yB 35 = .ok (.iload_n 3, 1) := by decide +kernel
theorem d36 : decode yB 36 = .ok (.invokestatic 177, 3) := by decide +kernel
theorem d39 : decode yB 39 = .ok (.astore 5, 2) := by decide +kernel
theorem d41 : decode yB 41 = .ok (.aload_n 0, 1) := by decide +kernel
theorem d42 : decode yB 42 = .ok (.aload 5, 2) := by decide +kernel
theorem d44 : decode yB 44 = .ok (.iload_n 3, 1) := by decide +kernel
theorem d45 : decode yB 45 = .ok (.invokestatic 47, 3) := by decide +kernel
theorem d48 : decode yB 48 = .ok (.putfield 15, 3) := by decide +kernel
theorem d51 : decode yB 51 = .ok (.aload_n 0, 1) := by decide +kernel
theorem d52 : decode yB 52 = .ok (.aload 5, 2) := by decide +kernel
theorem d54 : decode yB 54 = .ok (.putfield 9, 3) := by decide +kernel
theorem d57 : decode yB 57 = .ok (.return_, 1) := by decide +kernel
def site : List Cond := [.fieldLink "java/lang/String" 38 "java/lang/String" "COMPACT_STRINGS" "Z", Cmp3.tab, CodL.tab, .laysFinal "java/lang/String" "java/lang/String" "value" "[B", .fieldLink "java/lang/String" 9 "java/lang/String" "value" "[B", .laysFinal "java/lang/String" "java/lang/String" "coder" "B", .fieldLink "java/lang/String" 15 "java/lang/String" "coder" "B"] ++ objW "java/lang/String" 1 ++ staticW "java/lang/String" 177 Cmp3.yN ++ staticW "java/lang/String" 47 CodL.yN
def tab : Cond := tabOf yN yB 6 none site
def P (a : Addr) (D : Cell) (fV fC : Field) (b : Addr) (A : Cell) (z : Int32) (o len : Nat) (args : Array Value) (s : State) : Prop := args = #[.ref a, .ref b, .int (Int32.ofNat o), .int (Int32.ofNat len), .null] ∧ Blank "java/lang/String" a D s ∧ Found "java/lang/String" "value" "[B" fV s ∧ Found "java/lang/String" "coder" "B" fC s ∧ Ch b A s ∧ StaticIs s "java/lang/String" "COMPACT_STRINGS" "Z" (.int z) ∧ ¬ z = 0 ∧ 0 < len ∧ o + len ≤ A.slots.size ∧ len ≤ 536870912 ∧ ∀ i, i < len → ¬ 255 < cv A (o + i)
def E (a : Addr) (D : Cell) (fV fC : Field) (A : Cell) (o len : Nat) (r : Option Value) (s u : State) : Prop := Got a D fV fC A o len r s u
/-- len > 0, no char of the range above 255: a Latin-1 String of their low bytes -/
theorem law (l : Launch) (a : Addr) (D : Cell) (fV fC : Field) (b : Addr) (A : Cell) (z : Int32) (o len : Nat) : Law l yN 5 4 2 35 yB 6 none site (P a D fV fC b A z o len) (E a D fV fC A o len) [⟨a, fC.slot⟩, ⟨a, fV.slot⟩] 1 len := by
  refine Law.of_walk (plainFor_of_name (by decide +kernel)) (by decide +kernel) (by decide +kernel) (by decide) (fun _ _ h => by rw [h.1]; rfl) (fun _ U U' hal hh h => ⟨h.1, h.2.1.mv hal hh, h.2.2.1.al hal, h.2.2.2.1.al hal, h.2.2.2.2.1.mv hal hh, h.2.2.2.2.2.1.there hal hh, h.2.2.2.2.2.2⟩) (fun r U U' V V' h1 hal h2 h => Got.mv r U U' V V' h1 hal h2 h) ?_
  intro p e s m args below meth c s₁ X0 hexec hbytes hml hret hlk hnm hown hh0 W hP
  obtain ⟨rfl, hB, f1, f2, hA, s1, hz, l0, l1, l2, hp⟩ := hP
  have a31 := hA.1.2.2.2
  have c1 : Steps p.tables e below (s₁.setTop (entryFrame m #[.ref a, .ref b, .int (Int32.ofNat o), .int (Int32.ofNat len), .null] 6)) (s₁.setTop (mkF m 0 #[.val (.ref a), .val (.ref b), .val (.int (Int32.ofNat o)), .val (.int (Int32.ofNat len)), .val .null, .unset] [])) := entry rfl
  have c2 : Steps p.tables e below (s₁.setTop (entryFrame m #[.ref a, .ref b, .int (Int32.ofNat o), .int (Int32.ofNat len), .null] 6)) (s₁.setTop (mkF m 1 #[.val (.ref a), .val (.ref b), .val (.int (Int32.ofNat o)), .val (.int (Int32.ofNat len)), .val .null, .unset] [.ref a])) := c1.trans (by
    refine XS.aloadN X0.here hexec rfl (hb hbytes d0) rfl rfl ?_
    exact Steps.refl _)
  obtain ⟨T3, X3, q3, st3⟩ := X0.oinit hexec hown (wks W (objW "java/lang/String" 1)) (g := (mkF m 1 #[.val (.ref a), .val (.ref b), .val (.int (Int32.ofNat o)), .val (.int (Int32.ofNat len)), .val .null, .unset] [.ref a])) rfl (by rw [hml]; rfl) (rest := []) rfl (hb hbytes d1) (W := 0) (by show 2 * 0 + 0 ≤ _; decide) (Nat.le_of_ble_eq_true rfl) (Nat.le_of_ble_eq_true rfl)
  have hh3 := q3.trans hh0
  have c4 : Steps p.tables e below (s₁.setTop (entryFrame m #[.ref a, .ref b, .int (Int32.ofNat o), .int (Int32.ofNat len), .null] 6)) (T3.setTop (mkF m 27 #[.val (.ref a), .val (.ref b), .val (.int (Int32.ofNat o)), .val (.int (Int32.ofNat len)), .val .null, .unset] [])) := (c2.trans (st3 _ (Steps.refl _))).trans (by
    refine XS.iloadN X3.here hexec rfl (hb hbytes d4) rfl ?_
    refine XS.ifYes X3.here hexec rfl (pc0 := 5) rfl (hb hbytes d5) rfl (i0_ne_t (nz32 (by omega) l0)) (by decide) rfl ?_
    exact Steps.refl _)
  obtain ⟨T5, X5, q5, st5⟩ := X3.sget hexec hown (wk W (.fieldLink "java/lang/String" 38 "java/lang/String" "COMPACT_STRINGS" "Z")) s1 (fun _ _ h => by rw [hh3]; exact h) (g := (mkF m 27 #[.val (.ref a), .val (.ref b), .val (.int (Int32.ofNat o)), .val (.int (Int32.ofNat len)), .val .null, .unset] [])) rfl (hb hbytes d27)
  have hh5 := q5.trans hh3
  have c6 : Steps p.tables e below (s₁.setTop (entryFrame m #[.ref a, .ref b, .int (Int32.ofNat o), .int (Int32.ofNat len), .null] 6)) (T5.setTop (mkF m 30 #[.val (.ref a), .val (.ref b), .val (.int (Int32.ofNat o)), .val (.int (Int32.ofNat len)), .val .null, .unset] [.int z])) := c4.trans (st5 _ (Steps.refl _))
  have c7 : Steps p.tables e below (s₁.setTop (entryFrame m #[.ref a, .ref b, .int (Int32.ofNat o), .int (Int32.ofNat len), .null] 6)) (T5.setTop (mkF m 36 #[.val (.ref a), .val (.ref b), .val (.int (Int32.ofNat o)), .val (.int (Int32.ofNat len)), .val .null, .unset] [.int (Int32.ofNat len), .int (Int32.ofNat o), .ref b])) := c6.trans (by
    refine XS.ifNo X5.here hexec rfl (hb hbytes d30) rfl (i0_eq_f hz) ?_
    refine XS.aloadN X5.here hexec rfl (hb hbytes d33) rfl rfl ?_
    refine XS.iloadN X5.here hexec rfl (hb hbytes d34) rfl ?_
    refine XS.iloadN X5.here hexec rfl (hb hbytes d35) rfl ?_
    exact Steps.refl _)
  obtain ⟨v8, T8, X8, E8, g8⟩ := X5.callS hexec (Cmp3.law l b A o len) hown (wks W (staticW "java/lang/String" 177 Cmp3.yN)) (wk W Cmp3.tab) (W := 0) (Nat.le_of_ble_eq_true rfl) (Nat.le_of_ble_eq_true rfl) (Nat.le_refl _) (by show 0 + len ≤ len; omega) (g := (mkF m 36 #[.val (.ref a), .val (.ref b), .val (.int (Int32.ofNat o)), .val (.int (Int32.ofNat len)), .val .null, .unset] [.int (Int32.ofNat len), .int (Int32.ofNat o), .ref b])) rfl (by rw [hml]; rfl) c7 (argsL := [.ref b, .int (Int32.ofNat o), .int (Int32.ofNat len)]) (rest := []) rfl rfl (by show 2 * 0 + 0 ≤ _; decide) (hb hbytes d36) (⟨rfl, hA.mv X5.warmed.alike hh5, l1, l2, hp⟩)
  obtain ⟨e8, z8⟩ := E8
  obtain ⟨rfl, N, n1, n2, n3, n4, n5, n6⟩ := NewArr.mv _ T5 s _ _ hh5.symm (Vm.Alike.refl _) rfl e8
  rw [hh5] at z8
  have hB1 := hB.keep X8.warmed.alike (n6 _ _ hB.1)
  have hne : s.heap.size ≠ a := (Nat.ne_of_lt (Array.getElem?_eq_some_iff.mp hB.1).1).symm
  have c9 : Steps p.tables e below (s₁.setTop (entryFrame m #[.ref a, .ref b, .int (Int32.ofNat o), .int (Int32.ofNat len), .null] 6)) (T8.setTop (mkF m 39 #[.val (.ref a), .val (.ref b), .val (.int (Int32.ofNat o)), .val (.int (Int32.ofNat len)), .val .null, .unset] [.ref s.heap.size])) := g8
  have c10 : Steps p.tables e below (s₁.setTop (entryFrame m #[.ref a, .ref b, .int (Int32.ofNat o), .int (Int32.ofNat len), .null] 6)) (T8.setTop (mkF m 45 #[.val (.ref a), .val (.ref b), .val (.int (Int32.ofNat o)), .val (.int (Int32.ofNat len)), .val .null, .val (.ref s.heap.size)] [.int (Int32.ofNat N.slots.size), .ref s.heap.size, .ref a])) := by
    have hc : Steps p.tables e below (s₁.setTop (entryFrame m #[.ref a, .ref b, .int (Int32.ofNat o), .int (Int32.ofNat len), .null] 6)) (T8.setTop (mkF m 45 #[.val (.ref a), .val (.ref b), .val (.int (Int32.ofNat o)), .val (.int (Int32.ofNat len)), .val .null, .val (.ref s.heap.size)] [.int (Int32.ofNat len), .ref s.heap.size, .ref a])) := c9.trans (by
      refine XS.astore X8.here hexec rfl (hb hbytes d39) rfl rfl rfl ?_
      refine XS.aloadN X8.here hexec rfl (hb hbytes d41) rfl rfl ?_
      refine XS.aload X8.here hexec rfl (hb hbytes d42) rfl rfl ?_
      refine XS.iloadN X8.here hexec rfl (hb hbytes d44) rfl ?_
      exact Steps.refl _)
    rw [n4]; exact hc
  obtain ⟨v11, T11, X11, E11, g11⟩ := X8.callS hexec (CodL.law l s.heap.size N) hown (wks W (staticW "java/lang/String" 47 CodL.yN)) (wk W CodL.tab) (W := 1) (Nat.le_of_ble_eq_true rfl) (Nat.le_of_ble_eq_true rfl) (Nat.le_refl _) (by show 0 + len + 0 ≤ len; omega) (g := (mkF m 45 #[.val (.ref a), .val (.ref b), .val (.int (Int32.ofNat o)), .val (.int (Int32.ofNat len)), .val .null, .val (.ref s.heap.size)] [.int (Int32.ofNat N.slots.size), .ref s.heap.size, .ref a])) rfl (by rw [hml]; rfl) c10 (argsL := [.ref s.heap.size, .int (Int32.ofNat N.slots.size)]) (rest := [.ref a]) rfl rfl (by show 2 * 0 + (1 + 0) ≤ _; decide) (hb hbytes d45) (⟨rfl, n1⟩)
  obtain ⟨rfl, q11⟩ := E11
  have hB11 := hB1.mv (X8.warmed.alike.symm.trans X11.warmed.alike) q11
  have c12 : Steps p.tables e below (s₁.setTop (entryFrame m #[.ref a, .ref b, .int (Int32.ofNat o), .int (Int32.ofNat len), .null] 6)) (T11.setTop (mkF m 48 #[.val (.ref a), .val (.ref b), .val (.int (Int32.ofNat o)), .val (.int (Int32.ofNat len)), .val .null, .val (.ref s.heap.size)] [.int 0, .ref a])) := g11
  obtain ⟨T13, X13, p13, bl13, sl13, st13⟩ := X11.finit hexec hown (wk W (.fieldLink "java/lang/String" 15 "java/lang/String" "coder" "B")) (Or.inr ⟨_, (wk W (.laysFinal "java/lang/String" "java/lang/String" "coder" "B"))⟩) (Or.inl ⟨rfl, hnm⟩) f2 (Or.inl rfl) hB11 (t := .byte) (by decide +kernel) rfl (g := (mkF m 48 #[.val (.ref a), .val (.ref b), .val (.int (Int32.ofNat o)), .val (.int (Int32.ofNat len)), .val .null, .val (.ref s.heap.size)] [.int 0, .ref a])) rfl (rest := []) rfl (hb hbytes d48)
  have c14 : Steps p.tables e below (s₁.setTop (entryFrame m #[.ref a, .ref b, .int (Int32.ofNat o), .int (Int32.ofNat len), .null] 6)) (T13.setTop (mkF m 54 #[.val (.ref a), .val (.ref b), .val (.int (Int32.ofNat o)), .val (.int (Int32.ofNat len)), .val .null, .val (.ref s.heap.size)] [.ref s.heap.size, .ref a])) := (c12.trans (st13 _ (Steps.refl _))).trans (by
    refine XS.aloadN X13.here hexec rfl (hb hbytes d51) rfl rfl ?_
    refine XS.aload X13.here hexec rfl (hb hbytes d52) rfl rfl ?_
    exact Steps.refl _)
  obtain ⟨T15, X15, p15, bl15, sl15, st15⟩ := X13.finit hexec hown (wk W (.fieldLink "java/lang/String" 9 "java/lang/String" "value" "[B")) (Or.inr ⟨_, (wk W (.laysFinal "java/lang/String" "java/lang/String" "value" "[B"))⟩) (Or.inl ⟨rfl, hnm⟩) f1 (Or.inl rfl) bl13 (t := (.array .byte)) (by decide +kernel) rfl (g := (mkF m 54 #[.val (.ref a), .val (.ref b), .val (.int (Int32.ofNat o)), .val (.int (Int32.ofNat len)), .val .null, .val (.ref s.heap.size)] [.ref s.heap.size, .ref a])) rfl (rest := []) rfl (hb hbytes d54)
  have c16 : Steps p.tables e below (s₁.setTop (entryFrame m #[.ref a, .ref b, .int (Int32.ofNat o), .int (Int32.ofNat len), .null] 6)) (T15.setTop (mkF m 57 #[.val (.ref a), .val (.ref b), .val (.int (Int32.ofNat o)), .val (.int (Int32.ofNat len)), .val .null, .val (.ref s.heap.size)] [])) := c14.trans (st15 _ (Steps.refl _))
  have ap := apart (Or.inr ⟨_, (wk W (.laysFinal "java/lang/String" "java/lang/String" "value" "[B"))⟩) (Or.inr ⟨_, (wk W (.laysFinal "java/lang/String" "java/lang/String" "coder" "B"))⟩) f1 f2 (t₁ := .array .byte) (t₂ := .byte) (by decide +kernel) (by decide +kernel) (by decide)
  have al := X8.warmed.alike.symm.trans X15.warmed.alike
  have n7 : T11.heap[s.heap.size]? = some N := by rw [q11]; exact n1.1
  exact ⟨T15, none, _, _, _, X15, by simp, rfl, by omega, (fun _ => rfl), ⟨rfl, _, N, bl15, ((Same.refl D _).set _ (by simp)).set _ (by simp), sl15, (Cell.slots_setSlot_ne _ ap).trans sl13, n1.keep al (p15.other hne (p13.other hne n7)), n2, by rw [al.findClass]; exact n3, n4, n5, fun y c h1 h2 => p15.other h1 (p13.other h1 (by rw [q11]; exact n6 y c h2)), by rw [p15.2.2, p13.2.2, q11]; exact z8⟩, fun fs hl => c16.trans (X15.returnOut hexec hret (hb hbytes d57) hl)⟩
end New4
namespace New1
def yN : MethodName := ⟨"java/lang/String", "<init>", "([C)V"⟩
abbrev yB : ByteArray := jdk_42_method_3_code
theorem d0 : decode yB 0 = .ok (.aload_n 0, 1) := by decide +kernel
theorem d1 : decode yB 1 = .ok (.aload_n 1, 1) := by decide +kernel
theorem d2 : decode yB 2 = .ok (.iconst 0, 1) := by decide +kernel
theorem d3 : decode yB 3 = .ok (.aload_n 1, 1) := by decide +kernel
theorem d4 : decode yB 4 = .ok (.arraylength, 1) := by decide +kernel
theorem d5 : decode yB 5 = .ok (.aconst_null, 1) := by decide +kernel
theorem d6 : decode yB 6 = .ok (.invokespecial 27, 3) := by decide +kernel
theorem d9 : decode yB 9 = .ok (.return_, 1) := by decide +kernel
def site : List Cond := [New4.tab] ++ initW "java/lang/String" 27 New4.yN
def tab : Cond := tabOf yN yB 2 none site
def P (a : Addr) (D : Cell) (fV fC : Field) (b : Addr) (A : Cell) (z : Int32) (args : Array Value) (s : State) : Prop := args = #[.ref a, .ref b] ∧ Blank "java/lang/String" a D s ∧ Found "java/lang/String" "value" "[B" fV s ∧ Found "java/lang/String" "coder" "B" fC s ∧ Ch b A s ∧ StaticIs s "java/lang/String" "COMPACT_STRINGS" "Z" (.int z) ∧ ¬ z = 0 ∧ 0 < A.slots.size ∧ A.slots.size ≤ 536870912 ∧ ∀ i, i < A.slots.size → ¬ 255 < cv A i
def E (a : Addr) (D : Cell) (fV fC : Field) (A : Cell) (r : Option Value) (s u : State) : Prop := Got a D fV fC A 0 A.slots.size r s u
/-- new String(chars), not empty, no char above 255: a Latin-1 String of their low bytes -/
theorem law (l : Launch) (a : Addr) (D : Cell) (fV fC : Field) (b : Addr) (A : Cell) (z : Int32) : Law l yN 2 1 3 52 yB 2 none site (P a D fV fC b A z) (E a D fV fC A) [⟨a, fC.slot⟩, ⟨a, fV.slot⟩] 1 A.slots.size := by
  refine Law.of_walk (plainFor_of_name (by decide +kernel)) (by decide +kernel) (by decide +kernel) (by decide) (fun _ _ h => by rw [h.1]; rfl) (fun _ U U' hal hh h => ⟨h.1, h.2.1.mv hal hh, h.2.2.1.al hal, h.2.2.2.1.al hal, h.2.2.2.2.1.mv hal hh, h.2.2.2.2.2.1.there hal hh, h.2.2.2.2.2.2⟩) (fun r U U' V V' h1 hal h2 h => Got.mv r U U' V V' h1 hal h2 h) ?_
  intro p e s m args below meth c s₁ X0 hexec hbytes hml hret hlk hnm hown hh0 W hP
  obtain ⟨rfl, hB, f1, f2, hA, s1, hz, l0, l2, hp⟩ := hP
  have c1 : Steps p.tables e below (s₁.setTop (entryFrame m #[.ref a, .ref b] 2)) (s₁.setTop (mkF m 0 #[.val (.ref a), .val (.ref b)] [])) := entry rfl
  have c2 : Steps p.tables e below (s₁.setTop (entryFrame m #[.ref a, .ref b] 2)) (s₁.setTop (mkF m 6 #[.val (.ref a), .val (.ref b)] [.null, .int (Int32.ofNat A.slots.size), .int 0, .ref b, .ref a])) := c1.trans (by
    refine XS.aloadN X0.here hexec rfl (hb hbytes d0) rfl rfl ?_
    refine XS.aloadN X0.here hexec rfl (hb hbytes d1) rfl rfl ?_
    refine iconstV X0.here hexec rfl 0 (hb hbytes d2) (by decide) ?_
    refine XS.aloadN X0.here hexec rfl (hb hbytes d3) rfl rfl ?_
    refine X0.alen hexec (hA.1.mv X0.warmed.alike hh0) rfl rfl (hb hbytes d4) ?_
    refine XS.aconstNull X0.here hexec rfl (hb hbytes d5) ?_
    exact Steps.refl _)
  obtain ⟨v3, T3, X3, E3, g3⟩ := X0.callN hexec (New4.law l a D fV fC b A z 0 A.slots.size) rfl hown (wks W (initW "java/lang/String" 27 New4.yN)) (W New4.tab (by simp only [site, List.mem_cons, List.mem_append, true_or, or_true])) (W := 0) (Nat.le_of_ble_eq_true rfl) (Nat.le_of_ble_eq_true rfl) (Nat.le_refl _) (by show 0 + A.slots.size ≤ A.slots.size; omega) (g := (mkF m 6 #[.val (.ref a), .val (.ref b)] [.null, .int (Int32.ofNat A.slots.size), .int (Int32.ofNat 0), .ref b, .ref a])) rfl (by rw [hml]; rfl) c2 (argsL := [.ref b, .int (Int32.ofNat 0), .int (Int32.ofNat A.slots.size), .null]) (rest := []) rfl rfl (by show 2 * 0 + 0 ≤ _; decide) (hb hbytes d6) (⟨rfl, hB.mv X0.warmed.alike hh0, f1.al X0.warmed.alike, f2.al X0.warmed.alike, hA.mv X0.warmed.alike hh0, s1.there X0.warmed.alike hh0, hz, l0, by omega, l2, fun i hi => by rw [Nat.zero_add]; exact hp i hi⟩)
  have e0 := Got.mv _ s₁ s _ _ hh0.symm (Vm.Alike.refl _) rfl E3
  obtain rfl := e0.1
  have c4 : Steps p.tables e below (s₁.setTop (entryFrame m #[.ref a, .ref b] 2)) (T3.setTop (mkF m 9 #[.val (.ref a), .val (.ref b)] [])) := g3
  exact ⟨T3, none, _, _, _, X3, by simp, rfl, by omega, (fun _ => rfl), e0, fun fs hl => c4.trans (X3.returnOut hexec hret (hb hbytes d9) hl)⟩
theorem pays {l : Launch} {R : Room} {p : Program} {e : Env} {below : List Frame} {s : State} {sargs : Array Value} {len W : Nat} (a : Addr) (D : Cell) (fV fC : Field) (b : Addr) (A : Cell) (z : Int32) (htab : tab.before sargs s = true) (hfr : 4 ≤ R.frames) (hlo : W + 65 ≤ R.locals) :
    Back l R p e below s sargs yN len W (fun A₁ a₁ => A₁.cells + 1 ≤ R.cells ∧ A₁.slots + A.slots.size ≤ R.slots ∧ P a D fV fC b A z a₁ A₁.U) (fun A₁ _ v₁ B₁ => E a D fV fC A v₁ A₁.U B₁.U ∧ B₁.locs = A₁.locs ++ [⟨a, fC.slot⟩, ⟨a, fV.slot⟩] ∧ B₁.cells = A₁.cells + 1 ∧ B₁.slots = A₁.slots + A.slots.size) :=
  (law l a D fV fC b A z).pays htab hfr (by omega)
end New1
/-- the byte, read back as charAt reads it, is the char -/
theorem lo8_mask {x : Int32} (h0 : ¬ x < 0) (h1 : ¬ 255 < x) : lo8 x &&& 255 = x := by
  have t : ∀ k : Fin 256, lo8 (Int32.ofNat k.val) &&& 255 = Int32.ofNat k.val := by decide +kernel
  rw [Int32.lt_iff_toInt_lt] at h0 h1
  have e0 : (0 : Int32).toInt = 0 := rfl
  have e1 : (255 : Int32).toInt = 255 := rfl
  obtain ⟨k, hk⟩ : ∃ k : Nat, x.toInt = k := ⟨x.toInt.toNat, by omega⟩
  have hx : x = Int32.ofNat k := Int32.toInt_inj.mp (by rw [hk, Int32.toInt_ofNat_small (by omega)])
  rw [hx]
  exact t ⟨k, by omega⟩
end StrChars
namespace StrChars.Road
open Jvm Sem ClassFile Op Lib Jvm.Stand Jvm.Free Jvm.Free.XT
open Jvm.Lib.Cold (StaticIs)
abbrev ST : String := "java/lang/String"
/-- every table word that New1's law asks, flat -/
abbrev words : List Jvm.Cond := [.code New1.yN New1.yB 2 none, .initialized ST, .methodLink ST 27 New4.yN, .instanceMethod New4.yN,
  .code New4.yN New4.yB 6 none, .fieldLink ST 38 ST "COMPACT_STRINGS" "Z", .laysFinal ST ST "value" "[B", .fieldLink ST 9 ST "value" "[B", .laysFinal ST ST "coder" "B", .fieldLink ST 15 ST "coder" "B",
  .methodLink ST 1 Lib.objectInit, .instanceMethod Lib.objectInit, .code Lib.objectInit ⟨#[0xb1]⟩ 1 none, .methodLink ST 177 Cmp3.yN, .static Cmp3.yN, .methodLink ST 47 CodL.yN, .static CodL.yN,
  .code Cmp3.yN Cmp3.yB 6 (some (.array .byte)), .initialized U16, .arrayClass .byte, .methodLink U16 115 Cmp5.yN, .static Cmp5.yN, .code Cmp5.yN Cmp5.yB 7 (some .int), .code CodL.yN CodL.yB 2 (some .byte)]
theorem tab_of {a : Array Value} {s : State} (h : ∀ w ∈ words, w.before a s = true) : New1.tab.before a s = true := by
  have h5 : Cmp5.tab.before a s = true := unparts (wk h (.code Cmp5.yN Cmp5.yB 7 (some .int))) (wks h (.initialized Cmp5.yN.cls :: Cmp5.site))
  have hc : CodL.tab.before a s = true := unparts (wk h (.code CodL.yN CodL.yB 2 (some .byte))) (wks h (.initialized CodL.yN.cls :: CodL.site))
  have q5 : ∀ w ∈ Cmp5.tab :: words, w.before a s = true := fun w hw => (List.mem_cons.mp hw).elim (fun e => e ▸ h5) (h w)
  have h3 : Cmp3.tab.before a s = true := unparts (wk q5 (.code Cmp3.yN Cmp3.yB 6 (some (.array .byte)))) (wks q5 (.initialized Cmp3.yN.cls :: Cmp3.site))
  have q3 : ∀ w ∈ Cmp3.tab :: CodL.tab :: words, w.before a s = true := fun w hw => (List.mem_cons.mp hw).elim (fun e => e ▸ h3) fun hw => (List.mem_cons.mp hw).elim (fun e => e ▸ hc) (h w)
  have h4 : New4.tab.before a s = true := unparts (wk q3 (.code New4.yN New4.yB 6 none)) (wks q3 (.initialized New4.yN.cls :: New4.site))
  have q4 : ∀ w ∈ New4.tab :: words, w.before a s = true := fun w hw => (List.mem_cons.mp hw).elim (fun e => e ▸ h4) (h w)
  exact unparts (wk q4 (.code New1.yN New1.yB 2 none)) (wks q4 (.initialized New1.yN.cls :: New1.site))
/-- the words ride from the start Z to the walk's own state -/
theorem moved {Z s : State} {a0 args : Array Value} (hZ : Z.Warmed39 s.vm) (hw : ∀ d ∈ words, d.before a0 Z = true) : ∀ d ∈ words, d.before args s = true := fun d hd => by
  have q := hw d hd
  have t : ∀ d ∈ words, d = .arrayClass .byte ∨ (d.onTables && d.keepsFace) = true := by decide +kernel
  rcases t d hd with rfl | t
  · exact RoadKit.mvA hZ q
  · exact RoadKit.mv hZ q t
/-- WHAT COMES BACK, over the tables of the start Z: h the heap at the call, h' behind it -/
def Q (Z : State) (x : Addr) (A : Cell) (h : Heap) (v : Option Value) (h' : Heap) (L : List Loc) : Prop := v = none ∧ (∀ y ∈ L, y.base = x) ∧ RoadKit.Keep h h' [x] ∧ h'.size = h.size + 1 ∧ RoadKit.Exa Z h' x ST ∧ RoadKit.Fld Z h' x ST "value" "[B" (.ref h.size) ∧ RoadKit.Fld Z h' x ST "coder" "B" (.int 0) ∧
  (∃ V : Cell, RoadKit.Arr Z h' h.size V .byte ∧ V.vm = .none ∧ Z.vm.findClass "[B" = some V.cls ∧ V.slots.size = A.slots.size ∧ ∀ j, j < A.slots.size → V.slots[j]? = some (.int (lo8 (cv A j)))) ∧
  ∀ (O n d : String) (w : Value), RoadKit.Fld Z h x O n d w → RoadKit.slotOf Z O n d ≠ RoadKit.slotOf Z ST "value" "[B" → RoadKit.slotOf Z O n d ≠ RoadKit.slotOf Z ST "coder" "B" → RoadKit.Fld Z h' x O n d w
/-- **new String(chars) AT A CALL, IN THE ROAD'S FORM**: for specialBack behind newO: x the fresh String, b the char[] with the cell A -/
theorem back {p : Program} {l : Launch} {e : Env} {R : Room} {s : State} {args : Array Value} {below : List Frame} {len W : Nat} {Z : State} {a0 : Array Value} {h : Heap} (hZ : Z.Warmed39 s.vm) (hw : ∀ d ∈ words, d.before a0 Z = true) {kI : Nat} (wi : (Jvm.Cond.instantiable ST kI).before a0 Z = true)
    {x b : Addr} {A : Cell} {z : Int32} {v0 c0 : Value} (E : RoadKit.Exa Z h x ST) (V : RoadKit.Fld Z h x ST "value" "[B" v0) (C : RoadKit.Fld Z h x ST "coder" "B" c0) (K : RoadKit.Arr Z h b A .char) (hty : Typed .char A) (S : RoadKit.Sta Z h ST "COMPACT_STRINGS" "Z" (.int z)) (hz : ¬ z = 0)
    (l0 : 0 < A.slots.size) (l2 : A.slots.size ≤ 536870912) (hp : ∀ i, i < A.slots.size → ¬ 255 < cv A i) (hfr : 4 ≤ R.frames) (hlo : W + 65 ≤ R.locals) :
    Back l R p e below s args New1.yN len W (fun P a => a = #[.ref x, .ref b] ∧ P.U.heap = h ∧ P.cells + 1 ≤ R.cells ∧ P.slots + A.slots.size ≤ R.slots)
      (fun P _ v B => ∃ L, Q Z x A h v B.U.heap L ∧ B.locs = P.locs ++ L ∧ B.cells = P.cells + 1 ∧ B.slots = P.slots + A.slots.size) := by
  intro m meth c P g ig mk a X hg hsize hdg hW hn hp'
  obtain ⟨rfl, rfl, r1, r2⟩ := hp'
  have al : Z.vm.Alike P.U.vm := hZ.alike.trans X.warmed.alike
  obtain ⟨D, cfV, kV, iV, fV, hD, gV, stV, knV, obV, asV, slV⟩ := id V
  obtain ⟨D', cfC, kC, iC, fC, hD', gC, stC, -, -, asC, slC⟩ := id C
  cases hD.symm.trans hD'
  obtain ⟨D2, kD, e1, e2, e3, e4, e5⟩ := id E
  cases hD.symm.trans e1
  obtain ⟨c2, k2, i1, i2, i3, -⟩ := Cond.instantiable_spec wi
  cases e2.symm.trans i1
  cases e3.symm.trans i2
  obtain ⟨kU, u1, u2⟩ := al.2.2 _ _ e3
  have hB : Blank ST x D P.U := ⟨hD, ⟨knV, fun q hq => by rw [hq] at obV; cases obV⟩, by rw [al.findClass]; exact e2, kU, u1, by rw [u2]; exact i3, by rw [u2]; exact e5 i3⟩
  have F1 : Found ST "value" "[B" fV P.U := ⟨SBG.found_only al ⟨cfV, kV, iV, gV⟩, stV⟩
  have F2 : Found ST "coder" "B" fC P.U := ⟨SBG.found_only al ⟨cfC, kC, iC, gC⟩, stC⟩
  have hA : Ch b A P.U := ⟨⟨K.1, State.isArrayOf_alike al K.2.1, K.2.2, by omega⟩, hty⟩
  have hS : StaticIs P.U ST "COMPACT_STRINGS" "Z" (.int z) := by
    obtain ⟨cfS, iS, kS, fS, st, cS, t1, t2, t3, t4, t5, t6, t7⟩ := S
    exact StaticIs.there (s := { Z with heap := P.U.heap }) ⟨cfS, iS, kS, fS, st, cS, t1, t2, t3, t4, t5, (fun q => by rw [q] at t6; cases t6), t7⟩ al rfl
  obtain ⟨v, B, X', ⟨⟨hv, E', V', q1, q2, q3, q4, q5, q6, q7, q8, q9, q10, q11⟩, hl, hc, hs⟩, st⟩ := New1.pays x D fV fC b A z (tab_of (moved hZ hw)) hfr hlo m meth c P g ig mk _ X hg hsize hdg hW hn ⟨r1, r2, rfl, hB, F1, F2, hA, hS, hz, l0, l2, hp⟩
  have al' : Z.vm.Alike B.U.vm := hZ.alike.trans X'.warmed.alike
  have hsz : E'.slots.size = D.slots.size := by
    obtain ⟨-, -, -, kB, w1, w2, w3⟩ := q1
    obtain ⟨kB', y1, y2⟩ := al'.2.2 _ _ e3
    rw [q2.2.1] at w1
    cases w1.symm.trans y1
    rw [w3, e5 i3, y2]
  refine ⟨v, B, X', ⟨_, ⟨hv, ?_, ⟨by omega, fun y cy hy hn' => q10 y cy (by simpa using hn') hy, fun y cy hy => ?_⟩, q11, ⟨E', _, q1.1, by rw [q2.2.1]; exact e2, by rw [q2.2.1]; exact e3, by rw [q2.1]; exact obV, fun _ => by rw [hsz]; exact e5 i3⟩,
    ⟨E', cfV, kV, iV, fV, q1.1, gV, stV, by rw [q2.1]; exact knV, by rw [q2.1]; exact obV, by rw [q2.2.1]; exact asV, q3⟩, ⟨E', cfC, kC, iC, fC, q1.1, gC, stC, by rw [q2.1]; exact knV, by rw [q2.1]; exact obV, by rw [q2.2.1]; exact asC, q4⟩,
    ⟨V', ⟨q5.1, State.isArrayOf_alike al'.symm q5.2.1, q5.2.2.1⟩, q6, by rw [← al'.findClass]; exact q7, q8, fun j hj => by have := q9 j hj; rwa [Nat.zero_add] at this⟩, fun O n d w F n1 n2 => ?_⟩, hl, hc, hs⟩, st⟩
  · intro y hy
    simp only [List.mem_cons, List.not_mem_nil, or_false] at hy
    rcases hy with rfl | rfl <;> rfl
  · by_cases q : y = x
    · subst q
      cases hD.symm.trans hy
      exact ⟨E', q1.1, q2.2.1, q2.1, hsz⟩
    · exact ⟨cy, q10 y cy q hy, rfl, rfl, rfl⟩
  · obtain ⟨D3, cf, k, i, f, g1, g2, g3, g4, g5, g6, g7⟩ := F
    cases hD.symm.trans g1
    simp only [RoadKit.slotOf, g2, gV, gC, Option.map_some, Option.getD_some] at n1 n2
    exact ⟨E', cf, k, i, f, q1.1, g2, g3, by rw [q2.1]; exact g4, by rw [q2.1]; exact g5, by rw [q2.2.1]; exact g6, by rw [q2.2.2 f.slot (by simp [n1, n2])]; exact g7⟩
end StrChars.Road
namespace StrChars.Road
open Jvm Sem ClassFile Op Lib Jvm.Stand Jvm.Free Jvm.Free.XT
/-- WHAT COMES BACK, the byte[] as a list of values -/
def QA (Z : State) (x : Addr) (zn : Int32) (cs : List Int32) (h : Heap) (v : Option Value) (h' : Heap) (L : List Loc) : Prop := v = none ∧ (∀ y ∈ L, y.base = x) ∧ RoadKit.Keep h h' [x] ∧ h'.size = h.size + 1 ∧ RoadKit.Exa Z h' x ST ∧ RoadKit.Fld Z h' x ST "value" "[B" (.ref h.size) ∧ RoadKit.Fld Z h' x ST "coder" "B" (.int 0) ∧
  (∃ kb, Z.vm.findClass "[B" = some kb ∧ RoadKit.Arv Z h' h.size kb .byte zn (cs.map fun c => .int (lo8 c)) (.int 0)) ∧
  ∀ (O n d : String) (w : Value), RoadKit.Fld Z h x O n d w → RoadKit.slotOf Z O n d ≠ RoadKit.slotOf Z ST "value" "[B" → RoadKit.slotOf Z O n d ≠ RoadKit.slotOf Z ST "coder" "B" → RoadKit.Fld Z h' x O n d w
/-- **new String(chars) AT A CALL, THE ARRAYS AS LISTS**: the char[] at b holds cs, not empty, no char above 255 -/
theorem backArv {p : Program} {l : Launch} {e : Env} {R : Room} {s : State} {args : Array Value} {below : List Frame} {len W : Nat} {Z : State} {a0 : Array Value} {h : Heap} (hZ : Z.Warmed39 s.vm) (hw : ∀ d ∈ words, d.before a0 Z = true) {kI : Nat} (wi : (Jvm.Cond.instantiable ST kI).before a0 Z = true)
    {x b : Addr} {k : ClassId} {zn z : Int32} {cs : List Int32} {dv v0 c0 : Value} (E : RoadKit.Exa Z h x ST) (V : RoadKit.Fld Z h x ST "value" "[B" v0) (C : RoadKit.Fld Z h x ST "coder" "B" c0) (K : RoadKit.Arv Z h b k .char zn (cs.map Value.int) dv) (S : RoadKit.Sta Z h ST "COMPACT_STRINGS" "Z" (.int z)) (hz : ¬ z = 0)
    (hlen : zn.toNatClampNeg = cs.length) (h0 : 0 < cs.length) (hbig : cs.length ≤ 536870912) (hall : ∀ c ∈ cs, ¬ 255 < c) (hfr : 4 ≤ R.frames) (hlo : W + 65 ≤ R.locals) :
    Back l R p e below s args New1.yN len W (fun P a => a = #[.ref x, .ref b] ∧ P.U.heap = h ∧ P.cells + 1 ≤ R.cells ∧ P.slots + cs.length ≤ R.slots)
      (fun P _ v B => ∃ L, QA Z x zn cs h v B.U.heap L ∧ B.locs = P.locs ++ L ∧ B.cells = P.cells + 1 ∧ B.slots = P.slots + cs.length) := by
  obtain ⟨A, K1, K2, K3, K4, K5, K6⟩ := K
  have e : A.slots.size = cs.length := K3.trans hlen
  have hat : ∀ (i : Nat) (hi : i < cs.length), A.slots[i]? = some (.int cs[i]) := fun i hi => by rw [K5 i (by omega)]; simp [List.getD_eq_getElem?_getD, hi]
  have hcv : ∀ (i : Nat) (hi : i < cs.length), cv A i = cs[i] := fun i hi => by unfold cv; rw [hat i hi]
  have hty : Typed .char A := fun i v hv => by
    have hi : i < A.slots.size := (Array.getElem?_eq_some_iff.mp hv).1
    have q := K5 i hi
    rw [hv] at q
    rw [Option.some.inj q]
    exact K6 i hi
  refine Back.mono (back hZ hw wi E V C K1 hty S hz (by omega) (by omega) (fun i hi => by rw [hcv i (by omega)]; exact hall _ (List.getElem_mem _)) hfr hlo) (fun P a hp => ⟨hp.1, hp.2.1, hp.2.2.1, by rw [e]; exact hp.2.2.2⟩) (fun P a v B hp hq => ?_)
  obtain ⟨L, ⟨q1, q2, q3, q4, q5, q6, q7, ⟨V', v1, v2, v3, v4, v5⟩, q9⟩, hl, hc, hs⟩ := hq
  refine ⟨L, ⟨q1, q2, q3, q4, q5, q6, q7, ⟨V'.cls, v3, V', v1, rfl, by rw [v4, e, hlen], K4, fun i hi => ?_, fun i hi => ?_⟩, q9⟩, hl, hc, by rw [hs, e]⟩
  · have hi' : i < cs.length := by omega
    rw [v5 i (by omega), hcv i hi']; simp [List.getD_eq_getElem?_getD, hi']
  · have hi' : i < cs.length := by omega
    simp only [List.getD_eq_getElem?_getD, List.getElem?_map, List.getElem?_eq_getElem hi', Option.map_some, Option.getD_some]
    exact fits_lo8 _
end StrChars.Road
namespace StrChars.Road
open Jvm Sem ClassFile Op Lib Jvm.Stand Jvm.Free Jvm.Free.XT
/-- WHAT COMES BACK, in the writer's own shape -/
def QV (Z : State) (x : Addr) (N : Int32) (bs : List Int32) (h : Heap) (n0 : Nat) (v : Option Value) (h' : Heap) (L : List Loc) : Prop := v = none ∧ RoadKit.Fr n0 L ∧ RoadKit.Keep h h' [x] ∧ RoadKit.Exa Z h' x ST ∧ RoadKit.Fld Z h' x ST "coder" "B" (.int 0) ∧
  ∃ (t : Addr) (kb : ClassId), n0 ≤ t ∧ h.size ≤ t ∧ ¬ t = x ∧ RoadKit.Fld Z h' x ST "value" "[B" (.ref t) ∧ RoadKit.Arv Z h' t kb .byte N (bs.map Value.int) (.int 0)
/-- **new String(chars) AT A CALL, FOR THE WRITER**: a char[] of n known ints, each 0 to 255 -/
theorem backV {p : Program} {l : Launch} {e : Env} {R : Room} {s : State} {args : Array Value} {below : List Frame} {len W : Nat} {Z : State} {a0 : Array Value} {h : Heap} (hZ : Z.Warmed39 s.vm) (hw : ∀ d ∈ words, d.before a0 Z = true) {kI : Nat} (wi : (Jvm.Cond.instantiable ST kI).before a0 Z = true)
    {x b : Addr} {kC : ClassId} {cs bs : List Int32} {d v0 c0 : Value} {z N : Int32} {n n0 : Nat} (hx0 : n0 ≤ x) (hh0 : n0 ≤ h.size) (E : RoadKit.Exa Z h x ST) (V : RoadKit.Fld Z h x ST "value" "[B" v0) (C : RoadKit.Fld Z h x ST "coder" "B" c0) (K : RoadKit.Arv Z h b kC .char N (cs.map Value.int) d) (S : RoadKit.Sta Z h ST "COMPACT_STRINGS" "Z" (.int z)) (hz : ¬ z = 0)
    (hn : cs.length = n) (hN : N = Int32.ofNat n) (l0 : 0 < n) (l2 : n ≤ 4000) (hp : ∀ c ∈ cs, ¬ c < 0 ∧ ¬ (255 : Int32) < c) (hb : bs = cs.map (fun c => c.toInt8.toInt32)) (hfr : 4 ≤ R.frames) (hlo : W + 65 ≤ R.locals) :
    Back l R p e below s args (⟨"java/lang/String", "<init>", "([C)V"⟩ : MethodName) len W (fun P a => a = #[.ref x, .ref b] ∧ P.U.heap = h ∧ P.cells + 1 ≤ R.cells ∧ P.slots + n ≤ R.slots)
      (fun P _ v B => ∃ L, QV Z x N bs h n0 v B.U.heap L ∧ B.locs = P.locs ++ L ∧ B.cells = P.cells + 1 ∧ B.slots = P.slots + n) := by
  subst hn hN hb
  refine Back.mono (backArv hZ hw wi E V C K S hz (n32 (by omega)) l0 (by omega) (fun c hc => (hp c hc).2) hfr hlo) (fun P a hp => hp) (fun P a v B hp hq => ?_)
  obtain ⟨L, ⟨q1, q2, q3, q4, q5, q6, q7, ⟨kb, v1, v2⟩, q9⟩, hl, hc, hs⟩ := hq
  exact ⟨L, ⟨q1, fun y hy => by rw [q2 y hy]; exact hx0, q3, q5, q7, h.size, kb, hh0, Nat.le_refl _, Nat.ne_of_gt E.lt, q6, by rw [List.map_map]; exact v2⟩, hl, hc, hs⟩
end StrChars.Road
namespace StrChars
open Jvm Sem ClassFile Op Lib Jvm.Stand Jvm.Free.XT Jvm.Free.ALB Jvm.Free.JM Jvm.Free
open Jvm.Lib.Cold (StaticIs)
def hi8 (x : Int32) : Int32 := lo8 (x >>> ((8 : Int32) &&& 31))
/-- what StringUTF16.getChar makes of two bytes -/
def pairCh (u v : Int32) : Int32 := (((u &&& 255) <<< ((0 : Int32) &&& 31)) ||| ((v &&& 255) <<< ((8 : Int32) &&& 31))).toUInt32.toUInt16.toUInt32.toInt32
theorem lo8_and (x : Int32) : (lo8 x &&& 255).toBitVec.toNat = x.toBitVec.toNat % 256 := by
  have h : (lo8 x).toBitVec = (x.toBitVec.signExtend 8).signExtend 32 := by rw [lo8, Int8.toBitVec_toInt32, Int32.toBitVec_toInt8]
  rw [Int32.toBitVec_and, BitVec.toNat_and, h]
  have e : ((x.toBitVec.signExtend 8).signExtend 32).toNat % 256 = x.toBitVec.toNat % 256 := by
    rw [BitVec.toNat_signExtend]
    have hlt := x.toBitVec.isLt
    simp only [BitVec.toNat_setWidth, BitVec.toNat_signExtend]
    split <;> split <;> omega
  rw [← e]
  exact Nat.and_two_pow_sub_one_eq_mod _ 8
theorem pair_says {c : Int32} (h0 : ¬ c < 0) (h1 : ¬ 65535 < c) : pairCh (lo8 c) (hi8 c) = c := by
  rw [Int32.lt_iff_toInt_lt] at h0 h1
  have e0 : (0 : Int32).toInt = 0 := rfl
  have e1 : (65535 : Int32).toInt = 65535 := rfl
  have hc : c.toInt = c.toBitVec.toNat := by
    have := c.toBitVec.isLt
    have e : c.toInt = c.toBitVec.toInt := rfl
    rw [e] at h0 h1
    rw [e]
    rw [BitVec.toInt_eq_toNat_cond] at h0 h1 ⊢
    split at h0 <;> split <;> omega
  have hn : c.toBitVec.toNat < 65536 := by omega
  have a1 := lo8_and c
  have a2 : (hi8 c &&& 255).toBitVec.toNat = c.toBitVec.toNat / 256 := by
    rw [hi8, lo8_and]
    have e : ((8 : Int32) &&& 31) = 8 := by decide
    rw [e, Int32.toBitVec_shiftRight]
    have e2 : ((8 : Int32).toBitVec.smod 32) = 8#32 := by decide
    rw [e2, BitVec.sshiftRight_eq', BitVec.toNat_sshiftRight_of_msb_false (by rw [BitVec.msb_eq_false_iff_two_mul_lt]; omega)]
    show c.toBitVec.toNat >>> 8 % 256 = _
    rw [Nat.shiftRight_eq_div_pow]
    omega
  unfold pairCh
  apply Int32.toBitVec_inj.mp
  apply BitVec.eq_of_toNat_eq
  have f0 : ((0 : Int32) &&& 31) = 0 := by decide
  have f8 : ((8 : Int32) &&& 31) = 8 := by decide
  rw [f0, f8]
  have g : (((lo8 c &&& 255) <<< (0 : Int32)) ||| ((hi8 c &&& 255) <<< (8 : Int32))).toBitVec.toNat = c.toBitVec.toNat := by
    rw [Int32.toBitVec_or, Int32.toBitVec_shiftLeft, Int32.toBitVec_shiftLeft]
    have s0 : ((0 : Int32).toBitVec.smod 32) = 0#32 := by decide
    have s8 : ((8 : Int32).toBitVec.smod 32) = 8#32 := by decide
    rw [s0, s8, BitVec.toNat_or]
    simp only [BitVec.shiftLeft_eq', BitVec.toNat_shiftLeft, a1, a2]
    show (c.toBitVec.toNat % 256) <<< 0 % 2 ^ 32 ||| (c.toBitVec.toNat / 256) <<< 8 % 2 ^ 32 = _
    rw [Nat.shiftLeft_zero, Nat.mod_eq_of_lt (show c.toBitVec.toNat % 256 < 2 ^ 32 by omega), Nat.mod_eq_of_lt (show (c.toBitVec.toNat / 256) <<< 8 < 2 ^ 32 by rw [Nat.shiftLeft_eq]; omega), Nat.or_comm, ← Nat.shiftLeft_add_eq_or_of_lt (by omega), Nat.shiftLeft_eq]
    omega
  show BitVec.toNat (((((lo8 c &&& 255) <<< (0 : Int32)) ||| ((hi8 c &&& 255) <<< (8 : Int32))).toBitVec.setWidth 16).setWidth 32) = _
  rw [BitVec.toNat_setWidth, BitVec.toNat_setWidth, g]
  omega
end StrChars
namespace StrChars
open Jvm Sem ClassFile Op Lib Jvm.Stand Jvm.Free.XT Jvm.Free.ALB Jvm.Free.JM Jvm.Free
open Jvm.Lib.Cold (StaticIs)
/-- the array's cell V codes the n chars f 0 .. f (n - 1) by the coder cd, as the JDK does: coder 1 just where some char is above 255 -/
def Cod (cd : Int32) (n : Nat) (f : Nat → Int32) (V : Cell) : Prop := (cd = 0 ∧ V.slots.size = n ∧ ∀ j, j < n → V.slots[j]? = some (.int (lo8 (f j))) ∧ ¬ 255 < f j) ∨ (cd = 1 ∧ V.slots.size = 2 * n ∧ (∀ j, j < n → V.slots[2 * j]? = some (.int (lo8 (f j))) ∧ V.slots[2 * j + 1]? = some (.int (hi8 (f j)))) ∧ ∃ j, j < n ∧ 255 < f j)
/-- **x is a String of the n chars f 0 .. f (n - 1)**, Latin-1 or UTF-16; its array at t has the cell V -/
def Txt (x t : Addr) (V : Cell) (cd : Int32) (n : Nat) (f : Nat → Int32) (U : State) : Prop := Exact "java/lang/String" x U ∧ Has x "java/lang/String" "value" "[B" (.ref t) U ∧ Has x "java/lang/String" "coder" "B" (.int cd) U ∧ XT.Arr .byte t V U ∧ Cod cd n f V ∧ ∀ j, j < n → ¬ f j < 0 ∧ ¬ 65535 < f j
theorem Txt.mv {x t : Addr} {V : Cell} {cd : Int32} {n : Nat} {f : Nat → Int32} {U U' : State} (h : Txt x t V cd n f U) (hal : U.vm.Alike U'.vm) (hh : U'.heap = U.heap) : Txt x t V cd n f U' := ⟨h.1.mv hal hh, h.2.1.mv hal hh, h.2.2.1.mv hal hh, h.2.2.2.1.mv hal hh, h.2.2.2.2⟩
end StrChars
namespace StrChars.Road
open Jvm Sem ClassFile Op Lib Jvm.Stand Jvm.Free Jvm.Free.XT
open Jvm.Lib.Cold (StaticIs)
theorem consq {a : Array Value} {s : State} {c : Jvm.Cond} {L : List Jvm.Cond} (h0 : c.before a s = true) (h : ∀ w ∈ L, w.before a s = true) : ∀ w ∈ c :: L, w.before a s = true := fun w hw => (List.mem_cons.mp hw).elim (fun e => e ▸ h0) (h w)
/-- the bytes of the chars cs, low before high -/
def wideBytes : List Int32 → List Value
  | [] => []
  | c :: cs => .int (lo8 c) :: .int (hi8 c) :: wideBytes cs
theorem wide_lo (d : Value) : ∀ (cs : List Int32) (j : Nat), j < cs.length → (wideBytes cs).getD (2 * j) d = .int (lo8 (cs.getD j 0))
  | [], j, h => absurd h (Nat.not_lt_zero j)
  | c :: cs, 0, _ => rfl
  | c :: cs, j + 1, h => by
    have q := wide_lo d cs j (by simpa using h)
    rw [show 2 * (j + 1) = 2 * j + 1 + 1 from by omega]
    simpa [wideBytes] using q
theorem wide_hi (d : Value) : ∀ (cs : List Int32) (j : Nat), j < cs.length → (wideBytes cs).getD (2 * j + 1) d = .int (hi8 (cs.getD j 0))
  | [], j, h => absurd h (Nat.not_lt_zero j)
  | c :: cs, 0, _ => rfl
  | c :: cs, j + 1, h => by
    have q := wide_hi d cs j (by simpa using h)
    rw [show 2 * (j + 1) + 1 = 2 * j + 1 + 1 + 1 from by omega]
    simpa [wideBytes] using q
theorem low_at (d : Value) (cs : List Int32) (j : Nat) (h : j < cs.length) : (cs.map fun c => Value.int (lo8 c)).getD j d = .int (lo8 (cs.getD j 0)) := by
  simp [List.getD_eq_getElem?_getD, h]
/-- an array of N2 bytes vs codes the chars cs by the coder cd -/
def CodA (cs : List Int32) (cd N2 : Int32) (vs : List Value) : Prop := (cd = 0 ∧ N2 = Int32.ofNat cs.length ∧ vs = (cs.map fun c => Value.int (lo8 c)) ∧ ∀ c ∈ cs, ¬ 255 < c) ∨ (cd = 1 ∧ N2 = Int32.ofNat (2 * cs.length) ∧ vs = wideBytes cs ∧ ∃ c ∈ cs, 255 < c)
theorem CodA.cod {cs : List Int32} {cd N2 : Int32} {vs : List Value} {V : Cell} (h : CodA cs cd N2 vs) (hn : 2 * cs.length < 2 ^ 31) (hs : V.slots.size = N2.toNatClampNeg) (hv : RoadKit.Has V vs (.int 0)) : Cod cd cs.length (fun j => cs.getD j 0) V := by
  rcases h with ⟨rfl, rfl, rfl, h⟩ | ⟨rfl, rfl, rfl, c, hc, hw⟩
  · rw [n32 (by omega)] at hs
    exact Or.inl ⟨rfl, hs, fun j hj => ⟨by rw [hv j (by omega), low_at _ _ _ hj], by
      have e : cs.getD j 0 = cs[j] := by simp [List.getD_eq_getElem?_getD, hj]
      show ¬ 255 < cs.getD j 0
      rw [e]; exact h _ (List.getElem_mem _)⟩⟩
  · rw [n32 (by omega)] at hs
    obtain ⟨j, hj, rfl⟩ := List.getElem_of_mem hc
    exact Or.inr ⟨rfl, hs, fun j hj => ⟨by rw [hv _ (by omega), wide_lo _ _ _ hj], by rw [hv _ (by omega), wide_hi _ _ _ hj]⟩, j, hj, by
      have e : cs.getD j 0 = cs[j] := by simp [List.getD_eq_getElem?_getD, hj]
      show 255 < cs.getD j 0
      rw [e]; exact hw⟩
/-- an object of exactly java/lang/String, its two fields found: as the laws ask it -/
theorem strObj {Z U : State} {a0 : Array Value} {kI : Nat} (wi : (Jvm.Cond.instantiable ST kI).before a0 Z = true) (al : Z.vm.Alike U.vm) {x : Addr} {v0 c0 : Value} (E : RoadKit.Exa Z U.heap x ST) (V : RoadKit.Fld Z U.heap x ST "value" "[B" v0) (C : RoadKit.Fld Z U.heap x ST "coder" "B" c0) :
    ∃ (D : Cell) (fV fC : Field), Blank ST x D U ∧ Found ST "value" "[B" fV U ∧ Found ST "coder" "B" fC U ∧ D.slots[fV.slot]? = some v0 ∧ D.slots[fC.slot]? = some c0 ∧ RoadKit.slotOf Z ST "value" "[B" = fV.slot ∧ RoadKit.slotOf Z ST "coder" "B" = fC.slot := by
  obtain ⟨D, cfV, kV, iV, fV, hD, gV, stV, knV, obV, asV, slV⟩ := V
  obtain ⟨D', cfC, kC, iC, fC, hD', gC, stC, -, -, asC, slC⟩ := C
  cases hD.symm.trans hD'
  obtain ⟨D2, kD, e1, e2, e3, e4, e5⟩ := E
  cases hD.symm.trans e1
  obtain ⟨c2, k2, i1, i2, i3, -⟩ := Cond.instantiable_spec wi
  cases e2.symm.trans i1
  cases e3.symm.trans i2
  obtain ⟨kU, u1, u2⟩ := al.2.2 _ _ e3
  exact ⟨D, fV, fC, ⟨hD, ⟨knV, fun q hq => by rw [hq] at obV; cases obV⟩, by rw [al.findClass]; exact e2, kU, u1, by rw [u2]; exact i3, by rw [u2]; exact e5 i3⟩, ⟨SBG.found_only al ⟨cfV, kV, iV, gV⟩, stV⟩, ⟨SBG.found_only al ⟨cfC, kC, iC, gC⟩, stC⟩, slV, slC, by simp [RoadKit.slotOf, gV], by simp [RoadKit.slotOf, gC]⟩
theorem sta_is {Z U : State} (al : Z.vm.Alike U.vm) {C n d : String} {v : Value} (S : RoadKit.Sta Z U.heap C n d v) : StaticIs U C n d v := by
  obtain ⟨cfS, iS, kS, fS, st, cS, t1, t2, t3, t4, t5, t6, t7⟩ := S
  exact StaticIs.there (s := { Z with heap := U.heap }) ⟨cfS, iS, kS, fS, st, cS, t1, t2, t3, t4, t5, (fun q => by rw [q] at t6; cases t6), t7⟩ al rfl
end StrChars.Road
namespace StrChars
open Jvm Sem ClassFile Op Lib Jvm.Stand Jvm.Free.XT Jvm.Free.ALB Jvm.Free.JM Jvm.Free
open Jvm.Lib.Cold (StaticIs)
/-- what place i of a byte[]'s cell holds -/
def yv (A : Cell) (i : Nat) : Int32 := match A.slots[i]? with | some (.int x) => x | _ => 0
theorem yv_get {a : Addr} {A : Cell} {U : State} (h : XT.Arr .byte a A U) (ht : Typed .byte A) {i : Nat} (hi : i < A.slots.size) : A.slots[i]? = some (.int (yv A i)) := by
  have e := Array.getElem?_eq_getElem hi
  have f := ht i _ e
  unfold yv; rw [e]
  generalize A.slots[i] = v at f
  cases v <;> simp [fits] at f ⊢
/-- the two arrays are equal, place for place -/
def EqC (A B : Cell) : Prop := A.slots.size = B.slots.size ∧ ∀ i, i < A.slots.size → yv A i = yv B i
/-- a boolean that says whether p -/
def Says01 (q : Prop) (r : Option Value) (s u : State) : Prop := ∃ v : Int32, r = some (.int v) ∧ u.heap = s.heap ∧ ((v = 1 ∧ q) ∨ (v = 0 ∧ ¬ q))
theorem Says01.mv {q : Prop} : ∀ r (U U' V V' : State), U'.heap = U.heap → V.vm.Alike V'.vm → V'.heap = V.heap → Says01 q r U V → Says01 q r U' V' :=
  fun r U U' V V' h1 _ h2 ⟨v, a, b, c⟩ => ⟨v, a, by rw [h1, h2]; exact b, c⟩
namespace LEq
def yN : MethodName := ⟨"java/lang/StringLatin1", "equals", "([B[B)Z"⟩
abbrev yB : ByteArray := jdk_43_method_13_code
theorem d0 : decode yB 0 = .ok (.aload_n 0, 1) := by decide +kernel
theorem d1 : decode yB 1 = .ok (.arraylength, 1) := by decide +kernel
theorem d2 : decode yB 2 = .ok (.aload_n 1, 1) := by decide +kernel
theorem d3 : decode yB 3 = .ok (.arraylength, 1) := by decide +kernel
theorem d4 : decode yB 4 = .ok (.if_icmp (.ne) 30, 3) := by decide +kernel
theorem d7 : decode yB 7 = .ok (.iconst 0, 1) := by decide +kernel
theorem d8 : decode yB 8 = .ok (.istore_n 2, 1) := by decide +kernel
theorem d9 : decode yB 9 = .ok (.iload_n 2, 1) := by decide +kernel
theorem d10 : decode yB 10 = .ok (.aload_n 0, 1) := by decide +kernel
theorem d11 : decode yB 11 = .ok (.arraylength, 1) := by decide +kernel
theorem d12 : decode yB 12 = .ok (.if_icmp (.ge) 20, 3) := by decide +kernel
theorem d15 : decode yB 15 = .ok (.aload_n 0, 1) := by decide +kernel
theorem d16 : decode yB 16 = .ok (.iload_n 2, 1) := by decide +kernel
theorem d17 : decode yB 17 = .ok (.baload, 1) := by decide +kernel
theorem d18 : decode yB 18 = .ok (.aload_n 1, 1) := by decide +kernel
theorem d19 : decode yB 19 = .ok (.iload_n 2, 1) := by decide +kernel
theorem d20 : decode yB 20 = .ok (.baload, 1) := by decide +kernel
theorem d21 : decode yB 21 = .ok (.if_icmp (.eq) 5, 3) := by decide +kernel
theorem d24 : decode yB 24 = .ok (.iconst 0, 1) := by decide +kernel
theorem d25 : decode yB 25 = .ok (.ireturn, 1) := by decide +kernel
theorem d26 : decode yB 26 = .ok (.iinc 2 1, 3) := by decide +kernel
theorem d29 : decode yB 29 = .ok (.goto (-20), 3) := by decide +kernel
theorem d32 : decode yB 32 = .ok (.iconst 1, 1) := by decide +kernel
theorem d33 : decode yB 33 = .ok (.ireturn, 1) := by decide +kernel
theorem d34 : decode yB 34 = .ok (.iconst 0, 1) := by decide +kernel
theorem d35 : decode yB 35 = .ok (.ireturn, 1) := by decide +kernel
def site : List Cond := []
def tab : Cond := tabOf yN yB 3 (some .boolean) site
def P (a : Addr) (A : Cell) (b : Addr) (B : Cell) (args : Array Value) (s : State) : Prop := args = #[.ref a, .ref b] ∧ XT.Arr .byte a A s ∧ Typed .byte A ∧ XT.Arr .byte b B s ∧ Typed .byte B
/-- whether two byte[] are equal, place for place -/
theorem law (l : Launch) (a : Addr) (A : Cell) (b : Addr) (B : Cell) : Law l yN 2 2 0 0 yB 3 (some .boolean) site (P a A b B) (Says01 (EqC A B)) [] 0 0 := by
  refine Law.of_walk (plainFor_of_name (by decide +kernel)) (by decide +kernel) (by decide +kernel) (by decide) (fun _ _ h => by rw [h.1]; rfl) (fun _ U U' hal hh h => ⟨h.1, h.2.1.mv hal hh, h.2.2.1, h.2.2.2.1.mv hal hh, h.2.2.2.2⟩) (fun r U U' V V' h1 hal h2 h => Says01.mv r U U' V V' h1 hal h2 h) ?_
  intro p e s m args below meth c s₁ X0 hexec hbytes hml hret hlk hnm hown hh0 W hP
  obtain ⟨rfl, hA, tA, hB, tB⟩ := hP
  have a31 := hA.2.2.2
  have b31 := hB.2.2.2
  have hA0 := hA.mv X0.warmed.alike hh0
  have hB0 := hB.mv X0.warmed.alike hh0
  have c1 : Steps p.tables e below (s₁.setTop (entryFrame m #[.ref a, .ref b] 3)) (s₁.setTop (mkF m 0 #[.val (.ref a), .val (.ref b), .unset] [])) := entry rfl
  have c2 : Steps p.tables e below (s₁.setTop (entryFrame m #[.ref a, .ref b] 3)) (s₁.setTop (mkF m 4 #[.val (.ref a), .val (.ref b), .unset] [.int (Int32.ofNat B.slots.size), .int (Int32.ofNat A.slots.size)])) := c1.trans (by
    refine XS.aloadN X0.here hexec rfl (hb hbytes d0) rfl rfl ?_
    refine X0.alen hexec hA0 rfl rfl (hb hbytes d1) ?_
    refine XS.aloadN X0.here hexec rfl (hb hbytes d2) rfl rfl ?_
    refine X0.alen hexec hB0 rfl rfl (hb hbytes d3) ?_
    exact Steps.refl _)
  by_cases hs : A.slots.size = B.slots.size
  · have c3 : Steps p.tables e below (s₁.setTop (entryFrame m #[.ref a, .ref b] 3)) (s₁.setTop (mkF m 9 #[.val (.ref a), .val (.ref b), .val (.int 0)] [])) := c2.trans (by
      refine XS.icmpNo X0.here hexec rfl (hb hbytes d4) rfl (ii_ne_f (by rw [hs])) ?_
      refine iconstV X0.here hexec rfl 0 (hb hbytes d7) (by decide) ?_
      refine XS.istoreN X0.here hexec rfl (hb hbytes d8) rfl rfl ?_
      exact Steps.refl _)
    have loop : ∀ (r i : Nat), i + r = A.slots.size → (∀ j, j < i → yv A j = yv B j) → Steps p.tables e below (s₁.setTop (entryFrame m #[.ref a, .ref b] 3)) (s₁.setTop (mkF m 9 #[.val (.ref a), .val (.ref b), .val (.int (Int32.ofNat i))] [])) → ∃ (pc : Nat) (Ls : Array Slot) (v : Int32), (pc = 25 ∨ pc = 33) ∧ ((v = 1 ∧ EqC A B) ∨ (v = 0 ∧ ¬ EqC A B)) ∧ Steps p.tables e below (s₁.setTop (entryFrame m #[.ref a, .ref b] 3)) (s₁.setTop (mkF m pc Ls [.int v])) := by
      intro r
      induction r with
      | zero =>
        intro i hi he cl
        exact ⟨33, _, 1, Or.inr rfl, Or.inl ⟨rfl, hs, fun j hj => he j (by omega)⟩, cl.trans (by
          refine XS.iloadN X0.here hexec rfl (hb hbytes d9) rfl ?_
          refine XS.aloadN X0.here hexec rfl (hb hbytes d10) rfl rfl ?_
          refine X0.alen hexec hA0 rfl rfl (hb hbytes d11) ?_
          refine XS.icmpYes X0.here hexec rfl (pc0 := 12) rfl (hb hbytes d12) rfl (ii_ge_t (nlt32 (by omega) (by omega))) (by decide) rfl ?_
          refine iconstV X0.here hexec rfl 1 (hb hbytes d32) (by decide) ?_
          exact Steps.refl _)⟩
      | succ r ih =>
        intro i hi he cl
        have c4 : Steps p.tables e below (s₁.setTop (entryFrame m #[.ref a, .ref b] 3)) (s₁.setTop (mkF m 21 #[.val (.ref a), .val (.ref b), .val (.int (Int32.ofNat i))] [.int (yv B i), .int (yv A i)])) := cl.trans (by
          refine XS.iloadN X0.here hexec rfl (hb hbytes d9) rfl ?_
          refine XS.aloadN X0.here hexec rfl (hb hbytes d10) rfl rfl ?_
          refine X0.alen hexec hA0 rfl rfl (hb hbytes d11) ?_
          refine XS.icmpNo X0.here hexec rfl (hb hbytes d12) rfl (ii_ge_f (lt32 (by omega) (by omega))) ?_
          refine XS.aloadN X0.here hexec rfl (hb hbytes d15) rfl rfl ?_
          refine XS.iloadN X0.here hexec rfl (hb hbytes d16) rfl ?_
          refine X0.aget hexec hA0 rfl (yv_get hA tA (i := i) (by omega)) rfl rfl (hb hbytes d17) ?_
          refine XS.aloadN X0.here hexec rfl (hb hbytes d18) rfl rfl ?_
          refine XS.iloadN X0.here hexec rfl (hb hbytes d19) rfl ?_
          refine X0.aget hexec hB0 rfl (yv_get hB tB (i := i) (by omega)) rfl rfl (hb hbytes d20) ?_
          exact Steps.refl _)
        by_cases hv : yv A i = yv B i
        · have c5 : Steps p.tables e below (s₁.setTop (entryFrame m #[.ref a, .ref b] 3)) (s₁.setTop (mkF m 9 #[.val (.ref a), .val (.ref b), .val (.int (Int32.ofNat i + 1))] [])) := c4.trans (by
            refine XS.icmpYes X0.here hexec rfl (pc0 := 21) rfl (hb hbytes d21) rfl (ii_eq_t hv) (by decide) rfl ?_
            refine iincV X0.here hexec rfl 1 (hb hbytes d26) (by decide) rfl rfl ?_
            refine XS.goto X0.here hexec rfl (pc0 := 29) rfl (hb hbytes d29) (by decide) rfl ?_
            exact Steps.refl _)
          rw [succ32] at c5
          exact ih (i + 1) (by omega) (fun j hj => by
            by_cases e : j = i
            · rw [e]; exact hv
            · exact he j (by omega)) c5
        · exact ⟨25, _, 0, Or.inl rfl, Or.inr ⟨rfl, fun q => hv (q.2 i (by omega))⟩, c4.trans (by
            refine XS.icmpNo X0.here hexec rfl (hb hbytes d21) rfl (ii_eq_f hv) ?_
            refine iconstV X0.here hexec rfl 0 (hb hbytes d24) (by decide) ?_
            exact Steps.refl _)⟩
    obtain ⟨pc, Ls, v, hpc, hv, cz⟩ := loop A.slots.size 0 (by omega) (fun j hj => absurd hj (Nat.not_lt_zero j)) c3
    have nv : narrow .boolean (.int v) = .int v := by rcases hv with ⟨rfl, -⟩ | ⟨rfl, -⟩ <;> rfl
    rcases hpc with rfl | rfl
    · exact ⟨s₁, some (.int v), _, _, _, X0, rfl, rfl, rfl, (fun h => by cases h), ⟨v, rfl, hh0, hv⟩, fun fs hl => cz.trans (X0.ireturnOut hexec hret nv (Or.inr (Or.inl rfl)) (hb hbytes d25) hl)⟩
    · exact ⟨s₁, some (.int v), _, _, _, X0, rfl, rfl, rfl, (fun h => by cases h), ⟨v, rfl, hh0, hv⟩, fun fs hl => cz.trans (X0.ireturnOut hexec hret nv (Or.inr (Or.inl rfl)) (hb hbytes d33) hl)⟩
  · have c3 : Steps p.tables e below (s₁.setTop (entryFrame m #[.ref a, .ref b] 3)) (s₁.setTop (mkF m 35 #[.val (.ref a), .val (.ref b), .unset] [.int 0])) := c2.trans (by
      refine XS.icmpYes X0.here hexec rfl (pc0 := 4) rfl (hb hbytes d4) rfl (ii_ne_t (ne32 a31 b31 hs)) (by decide) rfl ?_
      refine iconstV X0.here hexec rfl 0 (hb hbytes d34) (by decide) ?_
      exact Steps.refl _)
    exact ⟨s₁, some (.int 0), _, _, _, X0, rfl, rfl, rfl, (fun h => by cases h), ⟨0, rfl, hh0, Or.inr ⟨rfl, fun q => hs q.1⟩⟩, fun fs hl => c3.trans (X0.ireturnOut hexec hret rfl (Or.inr (Or.inl rfl)) (hb hbytes d35) hl)⟩
end LEq
theorem Cod.ty {cd : Int32} {n : Nat} {f : Nat → Int32} {V : Cell} (h : Cod cd n f V) : Typed .byte V := fun i v hv => by
  have hi : i < V.slots.size := (Array.getElem?_eq_some_iff.mp hv).1
  rcases h with ⟨-, k1, k2⟩ | ⟨-, k1, k2, -⟩
  · rw [(k2 i (by omega)).1] at hv; cases hv; exact fits_lo8 _
  · rcases Nat.mod_two_eq_zero_or_one i with e | e
    · obtain ⟨j, rfl⟩ : ∃ j, i = 2 * j := ⟨i / 2, by omega⟩
      rw [(k2 j (by omega)).1] at hv; cases hv; exact fits_lo8 _
    · obtain ⟨j, rfl⟩ : ∃ j, i = 2 * j + 1 := ⟨i / 2, by omega⟩
      rw [(k2 j (by omega)).2] at hv; cases hv; exact fits_lo8 _
/-- the same text -/
def SameT (n : Nat) (f : Nat → Int32) (k : Nat) (g : Nat → Int32) : Prop := n = k ∧ ∀ j, j < n → f j = g j
theorem lo8_inj {x y : Int32} (h0 : ¬ x < 0) (h1 : ¬ 255 < x) (k0 : ¬ y < 0) (k1 : ¬ 255 < y) (h : lo8 x = lo8 y) : x = y := by
  rw [← lo8_mask h0 h1, ← lo8_mask k0 k1, h]
/-- arrays coded by one coder are equal just where the texts are -/
theorem Cod.eqv {cd : Int32} {n k : Nat} {f g : Nat → Int32} {V V' : Cell} (h : Cod cd n f V) (h' : Cod cd k g V') (hf : ∀ j, j < n → ¬ f j < 0 ∧ ¬ 65535 < f j) (hg : ∀ j, j < k → ¬ g j < 0 ∧ ¬ 65535 < g j) : EqC V V' ↔ SameT n f k g := by
  have yvv : ∀ {W : Cell} {i : Nat} {x : Int32}, W.slots[i]? = some (.int x) → yv W i = x := fun q => by unfold yv; rw [q]
  rcases h with ⟨rfl, k1, k2⟩ | ⟨rfl, k1, k2, -⟩
  · rcases h' with ⟨-, m1, m2⟩ | ⟨e, -⟩
    · constructor
      · rintro ⟨e1, e2⟩
        refine ⟨by omega, fun j hj => ?_⟩
        have q := e2 j (by omega)
        rw [yvv (k2 j hj).1, yvv (m2 j (by omega)).1] at q
        exact lo8_inj (hf j hj).1 (k2 j hj).2 (hg j (by omega)).1 (m2 j (by omega)).2 q
      · rintro ⟨rfl, e2⟩
        refine ⟨by omega, fun j hj => ?_⟩
        rw [yvv (k2 j (by omega)).1, yvv (m2 j (by omega)).1, e2 j (by omega)]
    · exact absurd e (by decide)
  · rcases h' with ⟨e, -⟩ | ⟨-, m1, m2, -⟩
    · exact absurd e (by decide)
    · constructor
      · rintro ⟨e1, e2⟩
        refine ⟨by omega, fun j hj => ?_⟩
        have q1 := e2 (2 * j) (by omega)
        have q2 := e2 (2 * j + 1) (by omega)
        rw [yvv (k2 j hj).1, yvv (m2 j (by omega)).1] at q1
        rw [yvv (k2 j hj).2, yvv (m2 j (by omega)).2] at q2
        rw [← pair_says (hf j hj).1 (hf j hj).2, ← pair_says (hg j (by omega)).1 (hg j (by omega)).2, q1, q2]
      · rintro ⟨rfl, e2⟩
        refine ⟨by omega, fun i hi => ?_⟩
        rcases Nat.mod_two_eq_zero_or_one i with e | e
        · obtain ⟨j, rfl⟩ : ∃ j, i = 2 * j := ⟨i / 2, by omega⟩
          rw [yvv (k2 j (by omega)).1, yvv (m2 j (by omega)).1, e2 j (by omega)]
        · obtain ⟨j, rfl⟩ : ∃ j, i = 2 * j + 1 := ⟨i / 2, by omega⟩
          rw [yvv (k2 j (by omega)).2, yvv (m2 j (by omega)).2, e2 j (by omega)]
/-- two codings differ: so do the texts -/
theorem Cod.dif {cd cd' : Int32} {n k : Nat} {f g : Nat → Int32} {V V' : Cell} (h : Cod cd n f V) (h' : Cod cd' k g V') (hne : ¬ cd = cd') : ¬ SameT n f k g := by
  rintro ⟨rfl, e⟩
  rcases h with ⟨rfl, -, k2⟩ | ⟨rfl, -, -, j, hj, hw⟩
  · rcases h' with ⟨rfl, -⟩ | ⟨-, -, -, j, hj, hw⟩
    · exact hne rfl
    · exact (k2 j hj).2 (by rw [e j hj]; exact hw)
  · rcases h' with ⟨-, -, m2⟩ | ⟨rfl, -⟩
    · exact (m2 j hj).2 (by rw [← e j hj]; exact hw)
    · exact hne rfl
/-- an object of exactly C is an instance of C -/
theorem cinst {p : Program} {l : Launch} {e : Env} {R : Room} {s : State} {m : MethodId} {args : Array Value} {below : List Frame} {meth : Method} {c : Code} {T : State} {locs : List Loc} {cells slots : Nat} (X : Stand p l e R s m args below meth c T locs cells slots) (hexec : p.tables.exec = Jvm.exec) {own C : String} {index : Nat} (hown : s.vm.findClass own = some m.cls) (hlink : (Cond.classLink own index C).before args s = true) {a : Addr} (hE : Exact C a T)
    {g : JFrame} (hg : g.method = m) {rest : List Value} (hstack : g.stack = .ref a :: rest) (hdg : decode c.code g.pc = .ok (.instanceof index, 3)) :
    ∃ T', Stand p l e R s m args below meth c T' locs cells slots ∧ T'.heap = T.heap ∧ ∀ target, Steps p.tables e below (T'.setTop { g with pc := g.pc + 3, stack := .int 1 :: rest }) target → Steps p.tables e below (T.setTop g) target := by
  obtain ⟨cB, h1, D, h2, h3, h4⟩ := hE
  have h1' : s.vm.findClass C = some cB := by rw [← X.warmed.alike.findClass]; exact h1
  obtain ⟨vm', X', st⟩ := X.instanceofYes hexec hown hlink h2 h4 h1' (by rw [h3]; exact Jvm.Free.SB.assignable_self _ _) hg hstack hdg
  exact ⟨_, X', rfl, st⟩
theorem cself {p : Program} {l : Launch} {e : Env} {R : Room} {s : State} {m : MethodId} {args : Array Value} {below : List Frame} {meth : Method} {c : Code} {T : State} {locs : List Loc} {cells slots : Nat} (X : Stand p l e R s m args below meth c T locs cells slots) (hexec : p.tables.exec = Jvm.exec) {own C : String} {index : Nat} (hown : s.vm.findClass own = some m.cls) (hlink : (Cond.classLink own index C).before args s = true) {a : Addr} (hE : Exact C a T)
    {g : JFrame} (hg : g.method = m) {rest : List Value} (hstack : g.stack = .ref a :: rest) (hdg : decode c.code g.pc = .ok (.checkcast index, 3)) :
    ∃ T', Stand p l e R s m args below meth c T' locs cells slots ∧ T'.heap = T.heap ∧ ∀ target, Steps p.tables e below (T'.setTop { g with pc := g.pc + 3, stack := .ref a :: rest }) target → Steps p.tables e below (T.setTop g) target := by
  obtain ⟨cB, h1, D, h2, h3, h4⟩ := hE
  have h1' : s.vm.findClass C = some cB := by rw [← X.warmed.alike.findClass]; exact h1
  obtain ⟨vm', X', st⟩ := X.checkcastYes hexec hown hlink h2 h4 h1' (by rw [h3]; exact Jvm.Free.SB.assignable_self _ _) hg hstack hdg
  exact ⟨_, X', rfl, fun t h => st t (by rw [← hstack] at h; exact h)⟩
namespace SEq
def yN : MethodName := ⟨"java/lang/String", "equals", "(Ljava/lang/Object;)Z"⟩
abbrev yB : ByteArray := jdk_42_method_66_code
theorem d0 : decode yB 0 = .ok (.aload_n 0, 1) := by decide +kernel
theorem d1 : decode yB 1 = .ok (.aload_n 1, 1) := by decide +kernel
theorem d2 : decode yB 2 = .ok (.if_acmp (.ne) 5, 3) := by decide +kernel
theorem d5 : decode yB 5 = .ok (.iconst 1, 1) := by decide +kernel
theorem d6 : decode yB 6 = .ok (.ireturn, 1) := by decide +kernel
theorem d7 : decode yB 7 = .ok (.aload_n 1, 1) := by decide +kernel
theorem d8 : decode yB 8 = .ok (.instanceof 10, 3) := by decide +kernel
theorem d11 : decode yB 11 = .ok (.ifCond (.eq) 43, 3) := by decide +kernel
theorem d14 : decode yB 14 = .ok (.aload_n 1, 1) := by decide +kernel
theorem d15 : decode yB 15 = .ok (.checkcast 10, 3) := by decide +kernel
theorem d18 : decode yB 18 = .ok (.astore_n 2, 1) := by decide +kernel
theorem d19 : decode yB 19 = .ok (.getstatic 38, 3) := by decide +kernel
theorem d22 : decode yB 22 = .ok (.ifCond (.eq) 14, 3) := by decide +kernel
theorem d25 : decode yB 25 = .ok (.aload_n 0, 1) := by decide +kernel
theorem d26 : decode yB 26 = .ok (.getfield 15, 3) := by decide +kernel
theorem d29 : decode yB 29 = .ok (.aload_n 2, 1) := by decide +kernel
theorem d30 : decode yB 30 = .ok (.getfield 15, 3) := by decide +kernel
theorem d33 : decode yB 33 = .ok (.if_icmp (.ne) 21, 3) := by decide +kernel
theorem d36 : decode yB 36 = .ok (.aload_n 0, 1) := by decide +kernel
theorem d37 : decode yB 37 = .ok (.getfield 9, 3) := by decide +kernel
theorem d40 : decode yB 40 = .ok (.aload_n 2, 1) := by decide +kernel
theorem d41 : decode yB 41 = .ok (.getfield 9, 3) := by decide +kernel
theorem d44 : decode yB 44 = .ok (.invokestatic 541, 3) := by decide +kernel
theorem d47 : decode yB 47 = .ok (.ifCond (.eq) 7, 3) := by decide +kernel
theorem d50 : decode yB 50 = .ok (.iconst 1, 1) := by decide +kernel
theorem d51 : decode yB 51 = .ok (.goto 4, 3) := by decide +kernel
theorem d54 : decode yB 54 = .ok (.iconst 0, 1) := by decide +kernel
theorem d55 : decode yB 55 = .ok (.ireturn, 1) := by decide +kernel
def site : List Cond := [.classLink "java/lang/String" 10 "java/lang/String", .fieldLink "java/lang/String" 38 "java/lang/String" "COMPACT_STRINGS" "Z", .fieldLink "java/lang/String" 15 "java/lang/String" "coder" "B", .fieldLink "java/lang/String" 9 "java/lang/String" "value" "[B", LEq.tab] ++ staticW "java/lang/String" 541 LEq.yN
def tab : Cond := tabOf yN yB 3 (some .boolean) site
def P (x t : Addr) (V : Cell) (cd : Int32) (n : Nat) (f : Nat → Int32) (y t' : Addr) (V' : Cell) (cd' : Int32) (k : Nat) (g : Nat → Int32) (z : Int32) (args : Array Value) (s : State) : Prop := args = #[.ref x, .ref y] ∧ Txt x t V cd n f s ∧ Txt y t' V' cd' k g s ∧ StaticIs s "java/lang/String" "COMPACT_STRINGS" "Z" (.int z) ∧ ¬ z = 0
/-- equals(Object) of two Strings: whether the texts are the same -/
theorem law (l : Launch) (x t : Addr) (V : Cell) (cd : Int32) (n : Nat) (f : Nat → Int32) (y t' : Addr) (V' : Cell) (cd' : Int32) (k : Nat) (g : Nat → Int32) (z : Int32) : Law l yN 2 1 1 14 yB 3 (some .boolean) site (P x t V cd n f y t' V' cd' k g z) (Says01 (SameT n f k g)) [] 0 0 := by
  refine Law.of_walk (plainFor_of_name (by decide +kernel)) (by decide +kernel) (by decide +kernel) (by decide) (fun _ _ h => by rw [h.1]; rfl) (fun _ U U' hal hh h => ⟨h.1, h.2.1.mv hal hh, h.2.2.1.mv hal hh, h.2.2.2.1.there hal hh, h.2.2.2.2⟩) (fun r U U' V V' h1 hal h2 h => Says01.mv r U U' V V' h1 hal h2 h) ?_
  intro p e s m args below meth c s₁ X0 hexec hbytes hml hret hlk hnm hown hh0 W hP
  obtain ⟨rfl, hx, hy, s1, hz⟩ := hP
  have c1 : Steps p.tables e below (s₁.setTop (entryFrame m #[.ref x, .ref y] 3)) (s₁.setTop (mkF m 2 #[.val (.ref x), .val (.ref y), .unset] [.ref y, .ref x])) := Steps.trans (entry rfl) (by
    show Steps p.tables e below (s₁.setTop (mkF m 0 #[.val (.ref x), .val (.ref y), .unset] [])) _
    refine XS.aloadN X0.here hexec rfl (hb hbytes d0) rfl rfl ?_
    refine XS.aloadN X0.here hexec rfl (hb hbytes d1) rfl rfl ?_
    exact Steps.refl _)
  by_cases hxy : x = y
  · have c2 : Steps p.tables e below (s₁.setTop (entryFrame m #[.ref x, .ref y] 3)) (s₁.setTop (mkF m 6 #[.val (.ref x), .val (.ref y), .unset] [.int 1])) := c1.trans (by
      refine acmpNo X0.here hexec rfl (hb hbytes d2) rfl rfl rfl (by simp [acmp, hxy]) ?_
      refine iconstV X0.here hexec rfl 1 (hb hbytes d5) (by decide) ?_
      exact Steps.refl _)
    subst hxy
    have ec : cd = cd' := by
      obtain ⟨D, fd, a1, a2, a3⟩ := hx.2.2.1
      obtain ⟨D', fd', b1, b2, b3⟩ := hy.2.2.1
      cases a1.symm.trans b1
      obtain ⟨q1, q2, q3, q4⟩ := a2.1
      obtain ⟨r1, r2, r3, r4⟩ := b2.1
      cases q4.symm.trans r4
      cases a3.symm.trans b3; rfl
    have et : t = t' := by
      obtain ⟨D, fd, a1, a2, a3⟩ := hx.2.1
      obtain ⟨D', fd', b1, b2, b3⟩ := hy.2.1
      cases a1.symm.trans b1
      obtain ⟨q1, q2, q3, q4⟩ := a2.1
      obtain ⟨r1, r2, r3, r4⟩ := b2.1
      cases q4.symm.trans r4
      cases a3.symm.trans b3; rfl
    subst ec et
    have ev : V = V' := by cases hx.2.2.2.1.1.symm.trans hy.2.2.2.1.1; rfl
    subst ev
    have hs : SameT n f k g := (Cod.eqv hx.2.2.2.2.1 hy.2.2.2.2.1 hx.2.2.2.2.2 hy.2.2.2.2.2).mp ⟨rfl, fun _ _ => rfl⟩
    exact ⟨s₁, some (.int 1), _, _, _, X0, rfl, rfl, rfl, (fun h => by cases h), ⟨1, rfl, hh0, Or.inl ⟨rfl, hs⟩⟩, fun fs hl => c2.trans (X0.ireturnOut hexec hret rfl (Or.inr (Or.inl rfl)) (hb hbytes d6) hl)⟩
  · have c2 : Steps p.tables e below (s₁.setTop (entryFrame m #[.ref x, .ref y] 3)) (s₁.setTop (mkF m 8 #[.val (.ref x), .val (.ref y), .unset] [.ref y])) := c1.trans (by
      refine acmpYes X0.here hexec rfl (pc0 := 2) rfl (hb hbytes d2) rfl rfl rfl (by simp [acmp, hxy]) (by decide) rfl ?_
      refine XS.aloadN X0.here hexec rfl (hb hbytes d7) rfl rfl ?_
      exact Steps.refl _)
    obtain ⟨T3, X3, q3, st3⟩ := cinst X0 hexec hown (wk W (.classLink "java/lang/String" 10 "java/lang/String")) (hy.mv X0.warmed.alike hh0).1 (g := (mkF m 8 #[.val (.ref x), .val (.ref y), .unset] [.ref y])) rfl (rest := []) rfl (hb hbytes d8)
    have hh3 := q3.trans hh0
    have c4 : Steps p.tables e below (s₁.setTop (entryFrame m #[.ref x, .ref y] 3)) (T3.setTop (mkF m 15 #[.val (.ref x), .val (.ref y), .unset] [.ref y])) := (c2.trans (st3 _ (Steps.refl _))).trans (by
      refine XS.ifNo X3.here hexec rfl (hb hbytes d11) rfl (i0_eq_f (by decide)) ?_
      refine XS.aloadN X3.here hexec rfl (hb hbytes d14) rfl rfl ?_
      exact Steps.refl _)
    obtain ⟨T5, X5, q5, st5⟩ := cself X3 hexec hown (wk W (.classLink "java/lang/String" 10 "java/lang/String")) (hy.mv X3.warmed.alike hh3).1 (g := (mkF m 15 #[.val (.ref x), .val (.ref y), .unset] [.ref y])) rfl (rest := []) rfl (hb hbytes d15)
    have hh5 := q5.trans hh3
    have c6 : Steps p.tables e below (s₁.setTop (entryFrame m #[.ref x, .ref y] 3)) (T5.setTop (mkF m 19 #[.val (.ref x), .val (.ref y), .val (.ref y)] [])) := (c4.trans (st5 _ (Steps.refl _))).trans (by
      refine XS.astoreN X5.here hexec rfl (hb hbytes d18) rfl rfl rfl ?_
      exact Steps.refl _)
    obtain ⟨T7, X7, q7, st7⟩ := X5.sget hexec hown (wk W (.fieldLink "java/lang/String" 38 "java/lang/String" "COMPACT_STRINGS" "Z")) s1 (fun _ _ h => by rw [hh5]; exact h) (g := (mkF m 19 #[.val (.ref x), .val (.ref y), .val (.ref y)] [])) rfl (hb hbytes d19)
    have hh7 := q7.trans hh5
    have c8 : Steps p.tables e below (s₁.setTop (entryFrame m #[.ref x, .ref y] 3)) (T7.setTop (mkF m 26 #[.val (.ref x), .val (.ref y), .val (.ref y)] [.ref x])) := (c6.trans (st7 _ (Steps.refl _))).trans (by
      refine XS.ifNo X7.here hexec rfl (hb hbytes d22) rfl (i0_eq_f hz) ?_
      refine XS.aloadN X7.here hexec rfl (hb hbytes d25) rfl rfl ?_
      exact Steps.refl _)
    obtain ⟨T9, X9, q9, st9⟩ := X7.hget hexec hown (wk W (.fieldLink "java/lang/String" 15 "java/lang/String" "coder" "B")) (hx.mv X7.warmed.alike hh7).2.2.1 (g := (mkF m 26 #[.val (.ref x), .val (.ref y), .val (.ref y)] [.ref x])) rfl (rest := []) rfl (hb hbytes d26)
    have hh9 := q9.trans hh7
    have c10 : Steps p.tables e below (s₁.setTop (entryFrame m #[.ref x, .ref y] 3)) (T9.setTop (mkF m 30 #[.val (.ref x), .val (.ref y), .val (.ref y)] [.ref y, .int cd])) := (c8.trans (st9 _ (Steps.refl _))).trans (by
      refine XS.aloadN X9.here hexec rfl (hb hbytes d29) rfl rfl ?_
      exact Steps.refl _)
    obtain ⟨T11, X11, q11, st11⟩ := X9.hget hexec hown (wk W (.fieldLink "java/lang/String" 15 "java/lang/String" "coder" "B")) (hy.mv X9.warmed.alike hh9).2.2.1 (g := (mkF m 30 #[.val (.ref x), .val (.ref y), .val (.ref y)] [.ref y, .int cd])) rfl (rest := [.int cd]) rfl (hb hbytes d30)
    have hh11 := q11.trans hh9
    have c12 : Steps p.tables e below (s₁.setTop (entryFrame m #[.ref x, .ref y] 3)) (T11.setTop (mkF m 33 #[.val (.ref x), .val (.ref y), .val (.ref y)] [.int cd', .int cd])) := c10.trans (st11 _ (Steps.refl _))
    by_cases hcd : cd = cd'
    · subst hcd
      have c13 : Steps p.tables e below (s₁.setTop (entryFrame m #[.ref x, .ref y] 3)) (T11.setTop (mkF m 37 #[.val (.ref x), .val (.ref y), .val (.ref y)] [.ref x])) := c12.trans (by
        refine XS.icmpNo X11.here hexec rfl (hb hbytes d33) rfl (ii_ne_f rfl) ?_
        refine XS.aloadN X11.here hexec rfl (hb hbytes d36) rfl rfl ?_
        exact Steps.refl _)
      obtain ⟨T14, X14, q14, st14⟩ := X11.hget hexec hown (wk W (.fieldLink "java/lang/String" 9 "java/lang/String" "value" "[B")) (hx.mv X11.warmed.alike hh11).2.1 (g := (mkF m 37 #[.val (.ref x), .val (.ref y), .val (.ref y)] [.ref x])) rfl (rest := []) rfl (hb hbytes d37)
      have hh14 := q14.trans hh11
      have c15 : Steps p.tables e below (s₁.setTop (entryFrame m #[.ref x, .ref y] 3)) (T14.setTop (mkF m 41 #[.val (.ref x), .val (.ref y), .val (.ref y)] [.ref y, .ref t])) := (c13.trans (st14 _ (Steps.refl _))).trans (by
        refine XS.aloadN X14.here hexec rfl (hb hbytes d40) rfl rfl ?_
        exact Steps.refl _)
      obtain ⟨T16, X16, q16, st16⟩ := X14.hget hexec hown (wk W (.fieldLink "java/lang/String" 9 "java/lang/String" "value" "[B")) (hy.mv X14.warmed.alike hh14).2.1 (g := (mkF m 41 #[.val (.ref x), .val (.ref y), .val (.ref y)] [.ref y, .ref t])) rfl (rest := [.ref t]) rfl (hb hbytes d41)
      have hh16 := q16.trans hh14
      have c17 : Steps p.tables e below (s₁.setTop (entryFrame m #[.ref x, .ref y] 3)) (T16.setTop (mkF m 44 #[.val (.ref x), .val (.ref y), .val (.ref y)] [.ref t', .ref t])) := c15.trans (st16 _ (Steps.refl _))
      obtain ⟨v18, T18, X18, E18, g18⟩ := X16.callS hexec (LEq.law l t V t' V') hown (wks W (staticW "java/lang/String" 541 LEq.yN)) (wk W LEq.tab) (W := 0) (Nat.le_of_ble_eq_true rfl) (Nat.le_of_ble_eq_true rfl) (Nat.le_refl _) (Nat.le_refl _) (g := (mkF m 44 #[.val (.ref x), .val (.ref y), .val (.ref y)] [.ref t', .ref t])) rfl (by rw [hml]; rfl) c17 (argsL := [.ref t, .ref t']) (rest := []) rfl rfl (by show 2 * 0 + 0 ≤ _; decide) (hb hbytes d44) (⟨rfl, hx.2.2.2.1.mv X16.warmed.alike hh16, hx.2.2.2.2.1.ty, hy.2.2.2.1.mv X16.warmed.alike hh16, hy.2.2.2.2.1.ty⟩)
      obtain ⟨v, rfl, q18, hv⟩ := E18
      have iff := Cod.eqv hx.2.2.2.2.1 hy.2.2.2.2.1 hx.2.2.2.2.2 hy.2.2.2.2.2
      rcases hv with ⟨rfl, he⟩ | ⟨rfl, he⟩
      · have c19 : Steps p.tables e below (s₁.setTop (entryFrame m #[.ref x, .ref y] 3)) (T18.setTop (mkF m 55 #[.val (.ref x), .val (.ref y), .val (.ref y)] [.int 1])) := Steps.trans g18 (by
          refine XS.ifNo X18.here hexec rfl (hb hbytes d47) rfl (i0_eq_f (by decide)) ?_
          refine iconstV X18.here hexec rfl 1 (hb hbytes d50) (by decide) ?_
          refine XS.goto X18.here hexec rfl (pc0 := 51) rfl (hb hbytes d51) (by decide) rfl ?_
          exact Steps.refl _)
        exact ⟨T18, some (.int 1), _, _, _, X18, rfl, rfl, rfl, (fun h => by cases h), ⟨1, rfl, q18.trans hh16, Or.inl ⟨rfl, iff.mp he⟩⟩, fun fs hl => c19.trans (X18.ireturnOut hexec hret rfl (Or.inr (Or.inl rfl)) (hb hbytes d55) hl)⟩
      · have c19 : Steps p.tables e below (s₁.setTop (entryFrame m #[.ref x, .ref y] 3)) (T18.setTop (mkF m 55 #[.val (.ref x), .val (.ref y), .val (.ref y)] [.int 0])) := Steps.trans g18 (by
          refine XS.ifYes X18.here hexec rfl (pc0 := 47) rfl (hb hbytes d47) rfl (i0_eq_t rfl) (by decide) rfl ?_
          refine iconstV X18.here hexec rfl 0 (hb hbytes d54) (by decide) ?_
          exact Steps.refl _)
        exact ⟨T18, some (.int 0), _, _, _, X18, rfl, rfl, rfl, (fun h => by cases h), ⟨0, rfl, q18.trans hh16, Or.inr ⟨rfl, fun q => he (iff.mpr q)⟩⟩, fun fs hl => c19.trans (X18.ireturnOut hexec hret rfl (Or.inr (Or.inl rfl)) (hb hbytes d55) hl)⟩
    · have c13 : Steps p.tables e below (s₁.setTop (entryFrame m #[.ref x, .ref y] 3)) (T11.setTop (mkF m 55 #[.val (.ref x), .val (.ref y), .val (.ref y)] [.int 0])) := c12.trans (by
        refine XS.icmpYes X11.here hexec rfl (pc0 := 33) rfl (hb hbytes d33) rfl (ii_ne_t hcd) (by decide) rfl ?_
        refine iconstV X11.here hexec rfl 0 (hb hbytes d54) (by decide) ?_
        exact Steps.refl _)
      exact ⟨T11, some (.int 0), _, _, _, X11, rfl, rfl, rfl, (fun h => by cases h), ⟨0, rfl, hh11, Or.inr ⟨rfl, Cod.dif hx.2.2.2.2.1 hy.2.2.2.2.1 hcd⟩⟩, fun fs hl => c13.trans (X11.ireturnOut hexec hret rfl (Or.inr (Or.inl rfl)) (hb hbytes d55) hl)⟩
theorem pays {l : Launch} {R : Room} {p : Program} {e : Env} {below : List Frame} {s : State} {sargs : Array Value} {len W : Nat} (x t : Addr) (V : Cell) (cd : Int32) (n : Nat) (f : Nat → Int32) (y t' : Addr) (V' : Cell) (cd' : Int32) (k : Nat) (g : Nat → Int32) (z : Int32) (htab : tab.before sargs s = true) (hfr : 2 ≤ R.frames) (hlo : W + 28 ≤ R.locals) :
    Back l R p e below s sargs yN len W (fun A₁ a₁ => A₁.cells + 0 ≤ R.cells ∧ A₁.slots + 0 ≤ R.slots ∧ P x t V cd n f y t' V' cd' k g z a₁ A₁.U) (fun A₁ _ v₁ B₁ => Says01 (SameT n f k g) v₁ A₁.U B₁.U ∧ B₁.locs = A₁.locs ++ [] ∧ B₁.cells = A₁.cells + 0 ∧ B₁.slots = A₁.slots + 0) :=
  (law l x t V cd n f y t' V' cd' k g z).pays htab hfr (by omega)
end SEq
end StrChars
namespace StrChars.Road
open Jvm Sem ClassFile Op Lib Jvm.Stand Jvm.Free Jvm.Free.XT
open Jvm.Lib.Cold (StaticIs)
/-- the words of String.equals(Object) -/
abbrev wordsEq : List Jvm.Cond := [.code SEq.yN SEq.yB 3 (some .boolean), .initialized ST, .classLink ST 10 ST, .fieldLink ST 38 ST "COMPACT_STRINGS" "Z", .fieldLink ST 15 ST "coder" "B", .fieldLink ST 9 ST "value" "[B", .methodLink ST 541 LEq.yN, .static LEq.yN, .code LEq.yN LEq.yB 3 (some .boolean), .initialized "java/lang/StringLatin1"]
theorem tabEq_of {a : Array Value} {s : State} (h : ∀ w ∈ wordsEq, w.before a s = true) : SEq.tab.before a s = true := by
  have hl : LEq.tab.before a s = true := unparts (wk h (.code LEq.yN LEq.yB 3 (some .boolean))) (wks h (.initialized LEq.yN.cls :: LEq.site))
  have q := consq hl h
  exact unparts (wk q (.code SEq.yN SEq.yB 3 (some .boolean))) (wks q (.initialized SEq.yN.cls :: SEq.site))
theorem movedEq {Z s : State} {a0 args : Array Value} (hZ : Z.Warmed39 s.vm) (hw : ∀ d ∈ wordsEq, d.before a0 Z = true) : ∀ d ∈ wordsEq, d.before args s = true := fun d hd => by
  have t : ∀ d ∈ wordsEq, (d.onTables && d.keepsFace) = true := by decide +kernel
  exact RoadKit.mv hZ (hw d hd) (t d hd)
/-- the road's facts of a String, as the laws ask it -/
theorem txt_of {Z U : State} {a0 : Array Value} {kI : Nat} (wi : (Jvm.Cond.instantiable ST kI).before a0 Z = true) (al : Z.vm.Alike U.vm) {x t : Addr} {kb : ClassId} {cs : List Int32} {cd N2 : Int32} {vs : List Value} (E : RoadKit.Exa Z U.heap x ST) (V : RoadKit.Fld Z U.heap x ST "value" "[B" (.ref t)) (C : RoadKit.Fld Z U.heap x ST "coder" "B" (.int cd)) (K : RoadKit.Arv Z U.heap t kb .byte N2 vs (.int 0)) (hc : CodA cs cd N2 vs) (hb : ∀ c ∈ cs, ¬ c < 0 ∧ ¬ (65535 : Int32) < c) (l2 : cs.length ≤ 4000) :
    ∃ A, Txt x t A cd cs.length (fun j => cs.getD j 0) U := by
  obtain ⟨A, K1, K2, K3, K4, K5, K6⟩ := K
  have hcod := hc.cod (by omega) K3 K5
  obtain ⟨D, fV, fC, hB, F1, F2, g1, g2, -, -⟩ := strObj wi al E V C
  exact ⟨A, ⟨_, hB.2.2.1, D, hB.1, rfl, by cases q : D.vm <;> first | rfl | exact absurd q (hB.2.1.2 _)⟩, Has.of hB F1 g1, Has.of hB F2 g2, ⟨K1.1, State.isArrayOf_alike al K1.2.1, K1.2.2, by rcases hcod with ⟨-, q, -⟩ | ⟨-, q, -⟩ <;> omega⟩, hcod, fun j hj => by
    have e : cs.getD j 0 = cs[j] := by simp [List.getD_eq_getElem?_getD, hj]
    show ¬ cs.getD j 0 < 0 ∧ ¬ 65535 < cs.getD j 0
    rw [e]; exact hb _ (List.getElem_mem _)⟩
theorem same_list (cs ds : List Int32) : SameT cs.length (fun j => cs.getD j 0) ds.length (fun j => ds.getD j 0) ↔ cs = ds := by
  constructor
  · rintro ⟨e, q⟩
    refine List.ext_getElem e fun j h1 h2 => ?_
    have := q j h1
    simpa [List.getD_eq_getElem?_getD, h1, h2] using this
  · rintro rfl
    exact ⟨rfl, fun _ _ => rfl⟩
/-- **equals(Object) OF TWO SUCH STRINGS**: 1 just where the chars are the same -/
theorem eqW {p : Program} {l : Launch} {e : Env} {R : Room} {s : State} {args : Array Value} {below : List Frame} {len W : Nat} {Z : State} {a0 : Array Value} {h : Heap} (hZ : Z.Warmed39 s.vm) (hw : ∀ d ∈ wordsEq, d.before a0 Z = true) {kI : Nat} (wi : (Jvm.Cond.instantiable ST kI).before a0 Z = true)
    {x t : Addr} {kb : ClassId} {cs : List Int32} {cd N2 : Int32} {vs : List Value} (E : RoadKit.Exa Z h x ST) (V : RoadKit.Fld Z h x ST "value" "[B" (.ref t)) (C : RoadKit.Fld Z h x ST "coder" "B" (.int cd)) (K : RoadKit.Arv Z h t kb .byte N2 vs (.int 0)) (hc : CodA cs cd N2 vs) (hb : ∀ c ∈ cs, ¬ c < 0 ∧ ¬ (65535 : Int32) < c) (l2 : cs.length ≤ 4000)
    {y t' : Addr} {kb' : ClassId} {ds : List Int32} {cd' N2' : Int32} {vs' : List Value} (E' : RoadKit.Exa Z h y ST) (V' : RoadKit.Fld Z h y ST "value" "[B" (.ref t')) (C' : RoadKit.Fld Z h y ST "coder" "B" (.int cd')) (K' : RoadKit.Arv Z h t' kb' .byte N2' vs' (.int 0)) (hc' : CodA ds cd' N2' vs') (hb' : ∀ c ∈ ds, ¬ c < 0 ∧ ¬ (65535 : Int32) < c) (l2' : ds.length ≤ 4000)
    {z : Int32} (S : RoadKit.Sta Z h ST "COMPACT_STRINGS" "Z" (.int z)) (hz : ¬ z = 0) (hfr : 2 ≤ R.frames) (hlo : W + 28 ≤ R.locals) :
    Back l R p e below s args (⟨"java/lang/String", "equals", "(Ljava/lang/Object;)Z"⟩ : MethodName) len W (fun P a => a = #[.ref x, .ref y] ∧ P.U.heap = h ∧ P.cells + 0 ≤ R.cells ∧ P.slots + 0 ≤ R.slots)
      (fun P _ v B => ∃ L, (((v = some (.int 1) ∧ cs = ds) ∨ (v = some (.int 0) ∧ ¬ cs = ds)) ∧ L = [] ∧ B.U.heap = h) ∧ B.locs = P.locs ++ L ∧ B.cells = P.cells + 0 ∧ B.slots = P.slots + 0) := by
  intro m meth c P g ig mk a X hg hsize hdg hW hn hp'
  obtain ⟨rfl, rfl, r1, r2⟩ := hp'
  have al : Z.vm.Alike P.U.vm := hZ.alike.trans X.warmed.alike
  obtain ⟨A, hx⟩ := txt_of wi al E V C K hc hb l2
  obtain ⟨A', hy⟩ := txt_of wi al E' V' C' K' hc' hb' l2'
  obtain ⟨v, B, X', ⟨⟨w, hv, hh, hq⟩, hl, hk, hs⟩, st⟩ := SEq.pays x t A cd cs.length (fun j => cs.getD j 0) y t' A' cd' ds.length (fun j => ds.getD j 0) z (tabEq_of (movedEq hZ hw)) hfr hlo m meth c P g ig mk _ X hg hsize hdg hW hn ⟨r1, r2, rfl, hx, hy, sta_is al S, hz⟩
  refine ⟨v, B, X', ⟨[], ⟨?_, rfl, hh⟩, hl, hk, hs⟩, st⟩
  rcases hq with ⟨rfl, q⟩ | ⟨rfl, q⟩
  · exact Or.inl ⟨hv, (same_list cs ds).mp q⟩
  · exact Or.inr ⟨hv, fun e => q ((same_list cs ds).mpr e)⟩
end StrChars.Road
end Jvm.Pilot.@@N@@
namespace Jvm.Pilot.@@N@@
open Jvm Jvm.ClassFile Sem Op Lib Jvm.Free Jvm.Stand Jvm.LawKit Jvm.RoadKit Bundle Jvm.Pilot.@@N@@.Jvm.D
theorem own_w {a0 : Array Value} {Z : State} (hw : ∀ d ∈ tables_1, d.before a0 Z = true) (i : Nat) {d : Jvm.Cond} (h : tables_1[i]? = some d) : d.before a0 Z = true := hw _ (List.mem_of_getElem? h)
abbrev yy0 : MethodName := ⟨"java/lang/String", "isLatin1", "()Z"⟩
abbrev yy1 : MethodName := ⟨"java/lang/String", "coder", "()B"⟩
abbrev yy2 : MethodName := ⟨"jdk/internal/util/Preconditions", "checkIndex", "(IILjava/util/function/BiFunction;)I"⟩
abbrev yy3 : MethodName := ⟨"java/lang/String", "checkIndex", "(II)V"⟩
abbrev yy4 : MethodName := ⟨"java/lang/String", "length", "()I"⟩
abbrev yy5 : MethodName := ⟨"java/lang/StringLatin1", "charAt", "([BI)C"⟩
abbrev yy6 : MethodName := ⟨"java/lang/String", "charAt", "(I)C"⟩
abbrev yy7 : MethodName := ⟨"com/example/majra/majra/lang/ParameterKindNamedPinLaw", "at", "(Ljava/lang/String;IZICC)C"⟩
abbrev yy8 : MethodName := ⟨"com/example/majra/majra/lang/ParameterKindNamedPinLaw", "keyword", "(I)Ljava/lang/String;"⟩
abbrev yy9 : MethodName := ⟨"java/lang/String", "<init>", "([CIILjava/lang/Void;)V"⟩
abbrev yy10 : MethodName := ⟨"java/lang/String", "<init>", "([C)V"⟩
abbrev yy11 : MethodName := ⟨"com/example/majra/majra/lang/ParameterKindNamedPinLaw", "make", "(ICCCCCCC)Ljava/lang/String;"⟩
abbrev yy12 : MethodName := ⟨"java/lang/String", "equals", "(Ljava/lang/Object;)Z"⟩
abbrev yy13 : MethodName := ⟨"com/example/majra/majra/lang/ParameterKindNamedPinLaw", "reference", "(Ljava/lang/String;)Lcom/example/majra/majra/lang/ParameterKind;"⟩
abbrev yy14 : MethodName := ⟨"com/example/majra/majra/lang/ParameterKind", "values", "()[Lcom/example/majra/majra/lang/ParameterKind;"⟩
abbrev yy15 : MethodName := ⟨"com/example/majra/majra/lang/ParameterKind", "named", "(Ljava/lang/String;)Lcom/example/majra/majra/lang/ParameterKind;"⟩
def own_b (P : Prop) [Decidable P] : Int32 := if P then 1 else 0
theorem own_bt {P : Prop} [Decidable P] (h : P) : (some (Value.int (nar .boolean 1)) : Option Value) = some (.int (own_b P)) := by rw [own_b, if_pos h]; rfl
theorem own_bf {P : Prop} [Decidable P] (h : ¬ P) : (some (Value.int (nar .boolean 0)) : Option Value) = some (.int (own_b P)) := by rw [own_b, if_neg h]; rfl
theorem own_b1 {P : Prop} [Decidable P] (h : P) : own_b P = 1 := if_pos h
theorem own_b0 {P : Prop} [Decidable P] (h : ¬ P) : own_b P = 0 := if_neg h
theorem own_bc {P P' : Prop} [Decidable P] [Decidable P'] (h : P ↔ P') : own_b P = own_b P' := by simp only [own_b, h]
def own_by (c : Int32) : Int32 := c.toInt8.toInt32
def own_in (c : Int32) : Prop := 0 ≤ c.toInt ∧ c.toInt ≤ 255
theorem own_narc {c : Int32} (h : own_in c) : nar .char c = c := by
  have h2 := c_i2c c; unfold own_in at h
  refine Int32.toInt_inj.mp ?_
  show (c.toUInt32.toUInt16.toUInt32.toInt32).toInt = _
  omega
theorem own_narb (c : Int32) : nar .byte (own_by c) = own_by c := by
  have h := c_i2b c; have h2 := c_i2b (c.toInt8.toInt32)
  refine Int32.toInt_inj.mp ?_
  show ((c.toInt8.toInt32).toInt8.toInt32).toInt = (c.toInt8.toInt32).toInt
  omega
theorem own_byc {c : Int32} (h : own_in c) : nar .byte ((nar .char c).toInt8.toInt32) = own_by c := by rw [own_narc h]; exact own_narb c
theorem own_byi {a b : Int32} (ha : own_in a) (hb : own_in b) : own_by a = own_by b ↔ a = b := by
  have h1 := c_i2b a; have h2 := c_i2b b; unfold own_in at ha hb
  refine ⟨fun q => Int32.toInt_inj.mp ?_, fun q => by rw [q]⟩
  have q2 := congrArg Int32.toInt q; unfold own_by at q2; omega
theorem own_255 {c : Int32} (h : own_in c) : ¬ (255 : Int32) < nar .char c := by
  rw [own_narc h]; unfold own_in at h; simp only [Int32.lt_iff_toInt_lt, Int32.reduceToInt]; omega
theorem own_fldeq {Z : State} {h : Heap} {a : Addr} {C n d : String} {v w : Value} (F : Fld Z h a C n d v) (G : Fld Z h a C n d w) : v = w := Classical.byContradiction fun q => Fld.ne F G q rfl
theorem own_arveq {Z : State} {h : Heap} {a : Addr} {k1 k2 : ClassId} {t1 t2 : FieldType} {z1 z2 : Int32} {v1 v2 : List Value} {d1 d2 : Value} (A : Arv Z h a k1 t1 z1 v1 d1) (B : Arv Z h a k2 t2 z2 v2 d2) : z1.toNatClampNeg = z2.toNatClampNeg ∧ ∀ i, i < z1.toNatClampNeg → v1.getD i d1 = v2.getD i d2 :=
  ⟨Classical.byContradiction fun q => arv_ne A B (Or.inl q) rfl, fun i hi => Classical.byContradiction fun q => arv_ne A B (Or.inr ⟨i, hi, q⟩) rfl⟩
theorem own_arvnn {Z : State} {h : Heap} {a : Addr} {k : ClassId} {t : FieldType} {z : Int32} {v : List Value} {d : Value} (A : Arv Z h a k t z v d) : ¬ z < 0 := by obtain ⟨_, _, _, _, q, _⟩ := A; exact q
theorem own_zeq {z1 z2 : Int32} (h1 : ¬ z1 < 0) (h2 : ¬ z2 < 0) (e : z1.toNatClampNeg = z2.toNatClampNeg) : z1 = z2 := by rw [← (back32 h1).1, ← (back32 h2).1, e]
theorem own_getI {l : List Value} {d : Value} (h : ∀ v ∈ l, ∃ x, v = Value.int x) (hd : ∃ x, d = Value.int x) (i : Nat) : ∃ x, l.getD i d = Value.int x := by
  induction l generalizing i with
  | nil => simpa using hd
  | cons v r ih =>
    cases i with
    | zero => simpa using h v (List.mem_cons_self ..)
    | succ j => simpa using ih (fun u hu => h u (List.mem_cons_of_mem _ hu)) j
theorem own_inb (x : Int32) : own_in (nar .char ((x &&& 255).toUInt32.toUInt16.toUInt32.toInt32)) := by
  have h1 := c_and x 255 (by decide); have h2 := c_i2c (x &&& 255); have h3 := c_i2c ((x &&& 255).toUInt32.toUInt16.toUInt32.toInt32)
  simp only [Int32.reduceToInt] at h1
  show 0 ≤ (((x &&& 255).toUInt32.toUInt16.toUInt32.toInt32).toUInt32.toUInt16.toUInt32.toInt32).toInt ∧ _ ≤ 255
  refine ⟨h3.2.1, ?_⟩
  show (((x &&& 255).toUInt32.toUInt16.toUInt32.toInt32).toUInt32.toUInt16.toUInt32.toInt32).toInt ≤ 255
  omega
theorem own_inv (x : Int32) : own_in ((x &&& 255).toUInt32.toUInt16.toUInt32.toInt32) := by
  have h1 := c_and x 255 (by decide); have h2 := c_i2c (x &&& 255); simp only [Int32.reduceToInt] at h1
  unfold own_in; omega
theorem own_inn {x : Int32} (h : own_in x) : own_in (nar .char x) := by rw [own_narc h]; exact h
theorem own_8 (x : Int32) : x &&& 7 = 0 ∨ x &&& 7 = 1 ∨ x &&& 7 = 2 ∨ x &&& 7 = 3 ∨ x &&& 7 = 4 ∨ x &&& 7 = 5 ∨ x &&& 7 = 6 ∨ x &&& 7 = 7 := by
  have h := c_and x 7 (by decide); simp only [Int32.reduceToInt] at h
  simp only [← Int32.toInt_inj, Int32.reduceToInt]; omega
theorem own_4 (x : Int32) : x &&& 3 = 0 ∨ x &&& 3 = 1 ∨ x &&& 3 = 2 ∨ x &&& 3 = 3 := by
  have h := c_and x 3 (by decide); simp only [Int32.reduceToInt] at h
  simp only [← Int32.toInt_inj, Int32.reduceToInt]; omega
abbrev rRrm6 : Room := { frames := 0, cells := 0, slots := 0, locals := 0 }
theorem d6_0 : decode jdk_42_method_154_code 0 = .ok (.getstatic 38, 3) := by decide +kernel
theorem d6_3 : decode jdk_42_method_154_code 3 = .ok (.ifCond .eq 14, 3) := by decide +kernel
theorem d6_6 : decode jdk_42_method_154_code 6 = .ok (.aload_n 0, 1) := by decide +kernel
theorem d6_7 : decode jdk_42_method_154_code 7 = .ok (.getfield 15, 3) := by decide +kernel
theorem d6_10 : decode jdk_42_method_154_code 10 = .ok (.ifCond .ne 7, 3) := by decide +kernel
theorem d6_13 : decode jdk_42_method_154_code 13 = .ok (.iconst 1, 1) := by decide +kernel
theorem d6_14 : decode jdk_42_method_154_code 14 = .ok (.goto 4, 3) := by decide +kernel
theorem d6_18 : decode jdk_42_method_154_code 18 = .ok (.ireturn, 1) := by decide +kernel
theorem pn_rm6 : plainFor yy0 = true := by first | exact plainFor_of_name (by first | (simp [plainName, overriddenIn]; done) | decide +kernel) | decide +kernel
theorem ef_rm6 (m : MethodId) (a : Addr) : entryFrame m #[(.ref a)] 1 = (mkF m 0 #[rv a] []) := by first | (simp [entryFrame, mkF, argsToLocals, Value.category]; done) | rfl
def Q6 (Z : State) (a : Addr) (cs : Int32) (h0 : Heap) (n0 : Nat) (v_ : Option Value) (h_ : Heap) (L_ : List Loc) : Prop := (v_ = some (.int (1 : Int32))) ∧ (Fr n0 L_) ∧ (h_ = h0)
set_option maxRecDepth 65536 in
set_option maxHeartbeats 40000000 in
theorem rm6 (l : Launch) (Z : State) (a0 : Array Value) (hw : ∀ d ∈ tables_1, d.before a0 Z = true) (ws : List Jvm.Cond) (a : Addr) (cs : Int32) (h0 : Heap) (n0 : Nat) (Z0 : n0 ≤ h0.size) (p_0 : Fld Z h0 a "java/lang/String" "coder" "B" (.int (0 : Int32))) (p_1 : Sta Z h0 "java/lang/String" "COMPACT_STRINGS" "Z" (.int cs)) (hcs : ¬ cs = (0 : Int32)) :
    MetFree l yy0 (head1 (Jvm.Cond.code yy0 jdk_42_method_154_code 1 (some .boolean) :: ws) rRrm6) (fun a_ U_ => a_ = #[(.ref a)] ∧ Z.Warmed39 U_.vm ∧ U_.heap = h0) (fun _ _ _ _ _ => True) (fun _ U_ o_ U1_ => ∃ v_ L_, o_ = .returned v_ ∧ Q6 Z a cs h0 n0 v_ U1_.heap L_ ∧ FrameEnd U_ o_ U1_ L_ rRrm6.cells rRrm6.slots) := by
  refine MetFree.of_bodySF pn_rm6 hisR ?_
  intro p e s m args below meth c s₁ Bd hml0 hP hK
  obtain ⟨rfl, hZ, hh⟩ := hP
  have hx := Bd.exec
  have hby := Bd.bytes
  have hlk : meth.locks = false := Bd.notSynchronized
  have hml : c.maxLocals = 1 := hml0
  have hown : s.vm.findClass "java/lang/String" = some m.cls := findClass_of_methodNamed Bd.named
  have hnm := (name_of_methodNamed Bd.named Bd.method).1
  have X0 : Stand p l e rRrm6 s m #[(.ref a)] below meth c s₁ [] 0 0 := Stand.of_body Bd
  have e0 : s₁.heap = h0 := by rw [← hh, Bd.state]; rfl
  have N0 := Fr.nil n0
  show own_Goes p e below s (Q6 Z a cs h0 n0) rRrm6.cells rRrm6.slots s₁ (entryFrame m #[(.ref a)] 1)
  rw [ef_rm6 m a]
  show own_Goes p e below s (Q6 Z a cs h0 n0) rRrm6.cells rRrm6.slots s₁ (mkF m 0 #[rv a] [])
  obtain ⟨T1, X1, e1, st1⟩ := getS2 X0 hx hZ hown (host := "") (Or.inl (own_w hw 26 rfl)) Via.refl e0 p_1 (g := (mkF m 0 #[rv a] [])) rfl (hb hby d6_0)
  refine own_st st1 ?_
  show own_Goes _ _ _ _ _ _ _ T1 (mkF m 3 #[rv a] [(.int cs)])
  refine own_st (fun _ kk_ => XS.ifNo X1.here hx rfl (hb hby d6_3) rfl (XT.i0_eq_f hcs) (XS.aloadN X1.here hx rfl (hb hby d6_6) rfl rfl kk_)) ?_
  show own_Goes _ _ _ _ _ _ _ T1 (mkF m 7 #[rv a] [(.ref a)])
  obtain ⟨T2, X2, e2, st2⟩ := getF X1 hx hZ hown (host := "") (Or.inl (own_w hw 27 rfl)) Via.refl e1 p_0 (g := (mkF m 7 #[rv a] [(.ref a)])) rfl rfl (hb hby d6_7)
  refine own_st st2 ?_
  show own_Goes _ _ _ _ _ _ _ T2 (mkF m 10 #[rv a] [(.int (0 : Int32))])
  refine own_st (fun _ kk_ => XS.ifNo X2.here hx rfl (hb hby d6_10) rfl (XT.i0_ne_f (by decide)) (XS.iconst X2.here hx rfl (hb hby d6_13) (XS.goto X2.here hx rfl (pc0 := 14) (pc' := 18) rfl (hb hby d6_14) (by decide) (by decide) kk_))) ?_
  show own_Goes _ _ _ _ _ _ _ T2 (mkF m 18 #[rv a] [(.int (1 : Int32))])
  refine own_retN X2 hx hlk (t := .boolean) Bd.returns (by simp) (hb hby d6_18) (by decide) (by decide) ?_
  show Q6 Z a cs h0 n0 (some (.int (nar .boolean (1 : Int32)))) T2.heap _
  rw [e2]
  exact ⟨rfl, N0, rfl⟩
abbrev rRrm4 : Room := { frames := 0, cells := 0, slots := 0, locals := 0 }
theorem d4_0 : decode jdk_42_method_152_code 0 = .ok (.getstatic 38, 3) := by decide +kernel
theorem d4_3 : decode jdk_42_method_152_code 3 = .ok (.ifCond .eq 10, 3) := by decide +kernel
theorem d4_6 : decode jdk_42_method_152_code 6 = .ok (.aload_n 0, 1) := by decide +kernel
theorem d4_7 : decode jdk_42_method_152_code 7 = .ok (.getfield 15, 3) := by decide +kernel
theorem d4_10 : decode jdk_42_method_152_code 10 = .ok (.goto 4, 3) := by decide +kernel
theorem d4_14 : decode jdk_42_method_152_code 14 = .ok (.ireturn, 1) := by decide +kernel
theorem pn_rm4 : plainFor yy1 = true := by first | exact plainFor_of_name (by first | (simp [plainName, overriddenIn]; done) | decide +kernel) | decide +kernel
theorem ef_rm4 (m : MethodId) (a : Addr) : entryFrame m #[(.ref a)] 1 = (mkF m 0 #[rv a] []) := by first | (simp [entryFrame, mkF, argsToLocals, Value.category]; done) | rfl
def Q4 (Z : State) (a : Addr) (cs : Int32) (h0 : Heap) (n0 : Nat) (v_ : Option Value) (h_ : Heap) (L_ : List Loc) : Prop := (v_ = some (.int (0 : Int32))) ∧ (Fr n0 L_) ∧ (h_ = h0)
set_option maxRecDepth 65536 in
set_option maxHeartbeats 40000000 in
theorem rm4 (l : Launch) (Z : State) (a0 : Array Value) (hw : ∀ d ∈ tables_1, d.before a0 Z = true) (ws : List Jvm.Cond) (a : Addr) (cs : Int32) (h0 : Heap) (n0 : Nat) (Z0 : n0 ≤ h0.size) (p_0 : Fld Z h0 a "java/lang/String" "coder" "B" (.int (0 : Int32))) (p_1 : Sta Z h0 "java/lang/String" "COMPACT_STRINGS" "Z" (.int cs)) (hcs : ¬ cs = (0 : Int32)) :
    MetFree l yy1 (head1 (Jvm.Cond.code yy1 jdk_42_method_152_code 1 (some .byte) :: ws) rRrm4) (fun a_ U_ => a_ = #[(.ref a)] ∧ Z.Warmed39 U_.vm ∧ U_.heap = h0) (fun _ _ _ _ _ => True) (fun _ U_ o_ U1_ => ∃ v_ L_, o_ = .returned v_ ∧ Q4 Z a cs h0 n0 v_ U1_.heap L_ ∧ FrameEnd U_ o_ U1_ L_ rRrm4.cells rRrm4.slots) := by
  refine MetFree.of_bodySF pn_rm4 hisR ?_
  intro p e s m args below meth c s₁ Bd hml0 hP hK
  obtain ⟨rfl, hZ, hh⟩ := hP
  have hx := Bd.exec
  have hby := Bd.bytes
  have hlk : meth.locks = false := Bd.notSynchronized
  have hml : c.maxLocals = 1 := hml0
  have hown : s.vm.findClass "java/lang/String" = some m.cls := findClass_of_methodNamed Bd.named
  have hnm := (name_of_methodNamed Bd.named Bd.method).1
  have X0 : Stand p l e rRrm4 s m #[(.ref a)] below meth c s₁ [] 0 0 := Stand.of_body Bd
  have e0 : s₁.heap = h0 := by rw [← hh, Bd.state]; rfl
  have N0 := Fr.nil n0
  show own_Goes p e below s (Q4 Z a cs h0 n0) rRrm4.cells rRrm4.slots s₁ (entryFrame m #[(.ref a)] 1)
  rw [ef_rm4 m a]
  show own_Goes p e below s (Q4 Z a cs h0 n0) rRrm4.cells rRrm4.slots s₁ (mkF m 0 #[rv a] [])
  obtain ⟨T1, X1, e1, st1⟩ := getS2 X0 hx hZ hown (host := "") (Or.inl (own_w hw 26 rfl)) Via.refl e0 p_1 (g := (mkF m 0 #[rv a] [])) rfl (hb hby d4_0)
  refine own_st st1 ?_
  show own_Goes _ _ _ _ _ _ _ T1 (mkF m 3 #[rv a] [(.int cs)])
  refine own_st (fun _ kk_ => XS.ifNo X1.here hx rfl (hb hby d4_3) rfl (XT.i0_eq_f hcs) (XS.aloadN X1.here hx rfl (hb hby d4_6) rfl rfl kk_)) ?_
  show own_Goes _ _ _ _ _ _ _ T1 (mkF m 7 #[rv a] [(.ref a)])
  obtain ⟨T2, X2, e2, st2⟩ := getF X1 hx hZ hown (host := "") (Or.inl (own_w hw 27 rfl)) Via.refl e1 p_0 (g := (mkF m 7 #[rv a] [(.ref a)])) rfl rfl (hb hby d4_7)
  refine own_st st2 ?_
  show own_Goes _ _ _ _ _ _ _ T2 (mkF m 10 #[rv a] [(.int (0 : Int32))])
  refine own_st (fun _ kk_ => XS.goto X2.here hx rfl (pc0 := 10) (pc' := 14) rfl (hb hby d4_10) (by decide) (by decide) kk_) ?_
  show own_Goes _ _ _ _ _ _ _ T2 (mkF m 14 #[rv a] [(.int (0 : Int32))])
  refine own_retN X2 hx hlk (t := .byte) Bd.returns (by simp) (hb hby d4_14) (by decide) (by decide) ?_
  show Q4 Z a cs h0 n0 (some (.int (nar .byte (0 : Int32)))) T2.heap _
  rw [e2]
  exact ⟨rfl, N0, rfl⟩
abbrev rRrm9 : Room := { frames := 0, cells := 0, slots := 0, locals := 0 }
theorem d9_0 : decode jdk_41_method_11_code 0 = .ok (.iload_n 0, 1) := by decide +kernel
theorem d9_1 : decode jdk_41_method_11_code 1 = .ok (.ifCond .lt 8, 3) := by decide +kernel
theorem d9_4 : decode jdk_41_method_11_code 4 = .ok (.iload_n 0, 1) := by decide +kernel
theorem d9_5 : decode jdk_41_method_11_code 5 = .ok (.iload_n 1, 1) := by decide +kernel
theorem d9_6 : decode jdk_41_method_11_code 6 = .ok (.if_icmp .lt 10, 3) := by decide +kernel
theorem d9_16 : decode jdk_41_method_11_code 16 = .ok (.iload_n 0, 1) := by decide +kernel
theorem d9_17 : decode jdk_41_method_11_code 17 = .ok (.ireturn, 1) := by decide +kernel
theorem pn_rm9 : plainFor yy2 = true := by first | exact plainFor_of_name (by first | (simp [plainName, overriddenIn]; done) | decide +kernel) | decide +kernel
theorem ef_rm9 (m : MethodId) (i9 : Int32) (n9 : Int32) (f9 : Value) (hr_f9 : f9.isRef = true) : entryFrame m #[(.int i9), (.int n9), f9] 3 = (mkF m 0 #[iv i9, iv n9, .val f9] []) := by
  rcases ref_cases hr_f9 with rfl | ⟨_, rfl⟩ <;> rfl
def Q9 (Z : State) (i9 : Int32) (n9 : Int32) (f9 : Value) (h0 : Heap) (n0 : Nat) (v_ : Option Value) (h_ : Heap) (L_ : List Loc) : Prop := (v_ = some (.int i9)) ∧ (Fr n0 L_) ∧ (h_ = h0)
set_option maxRecDepth 65536 in
set_option maxHeartbeats 40000000 in
theorem rm9 (l : Launch) (Z : State) (a0 : Array Value) (hw : ∀ d ∈ tables_1, d.before a0 Z = true) (ws : List Jvm.Cond) (i9 : Int32) (n9 : Int32) (f9 : Value) (hr_f9 : f9.isRef = true) (h0 : Heap) (n0 : Nat) (Z0 : n0 ≤ h0.size) (h1 : ¬ i9 < (0 : Int32)) (h2 : i9 < n9) :
    MetFree l yy2 (head1 (Jvm.Cond.code yy2 jdk_41_method_11_code 3 (some .int) :: ws) rRrm9) (fun a_ U_ => a_ = #[(.int i9), (.int n9), f9] ∧ Z.Warmed39 U_.vm ∧ U_.heap = h0) (fun _ _ _ _ _ => True) (fun _ U_ o_ U1_ => ∃ v_ L_, o_ = .returned v_ ∧ Q9 Z i9 n9 f9 h0 n0 v_ U1_.heap L_ ∧ FrameEnd U_ o_ U1_ L_ rRrm9.cells rRrm9.slots) := by
  refine MetFree.of_bodySF pn_rm9 hisR ?_
  intro p e s m args below meth c s₁ Bd hml0 hP hK
  obtain ⟨rfl, hZ, hh⟩ := hP
  have hx := Bd.exec
  have hby := Bd.bytes
  have hlk : meth.locks = false := Bd.notSynchronized
  have hml : c.maxLocals = 3 := hml0
  have hown : s.vm.findClass "jdk/internal/util/Preconditions" = some m.cls := findClass_of_methodNamed Bd.named
  have hnm := (name_of_methodNamed Bd.named Bd.method).1
  have X0 : Stand p l e rRrm9 s m #[(.int i9), (.int n9), f9] below meth c s₁ [] 0 0 := Stand.of_body Bd
  have e0 : s₁.heap = h0 := by rw [← hh, Bd.state]; rfl
  have N0 := Fr.nil n0
  show own_Goes p e below s (Q9 Z i9 n9 f9 h0 n0) rRrm9.cells rRrm9.slots s₁ (entryFrame m #[(.int i9), (.int n9), f9] 3)
  rw [ef_rm9 m i9 n9 f9 hr_f9]
  show own_Goes p e below s (Q9 Z i9 n9 f9 h0 n0) rRrm9.cells rRrm9.slots s₁ (mkF m 0 #[iv i9, iv n9, .val f9] [])
  refine own_st (fun _ kk_ => XS.iloadN X0.here hx rfl (hb hby d9_0) rfl (XS.ifNo X0.here hx rfl (hb hby d9_1) rfl (XT.i0_lt_f h1) (XS.iloadN X0.here hx rfl (hb hby d9_4) rfl (XS.iloadN X0.here hx rfl (hb hby d9_5) rfl (XS.icmpYes X0.here hx rfl (pc0 := 6) (pc' := 16) rfl (hb hby d9_6) rfl (XT.ii_lt_t h2) (by decide) (by decide) (XS.iloadN X0.here hx rfl (hb hby d9_16) rfl kk_)))))) ?_
  show own_Goes _ _ _ _ _ _ _ s₁ (mkF m 17 #[iv i9, iv n9, .val f9] [(.int i9)])
  refine own_retI X0 hx hlk Bd.returns (hb hby d9_17) (by decide) (by decide) ?_
  show Q9 Z i9 n9 f9 h0 n0 (some (.int i9)) s₁.heap _
  rw [e0]
  exact ⟨rfl, N0, rfl⟩
abbrev rRrm8 : Room := { frames := 1, cells := 0, slots := 0, locals := 14 }
theorem d8_0 : decode jdk_42_method_155_code 0 = .ok (.iload_n 0, 1) := by decide +kernel
theorem d8_1 : decode jdk_42_method_155_code 1 = .ok (.iload_n 1, 1) := by decide +kernel
theorem d8_2 : decode jdk_42_method_155_code 2 = .ok (.getstatic 1053, 3) := by decide +kernel
theorem d8_5 : decode jdk_42_method_155_code 5 = .ok (.invokestatic 1059, 3) := by decide +kernel
theorem d8_8 : decode jdk_42_method_155_code 8 = .ok (.pop, 1) := by decide +kernel
theorem d8_9 : decode jdk_42_method_155_code 9 = .ok (.return_, 1) := by decide +kernel
theorem pd_0 : parseMethodDescriptor "(IILjava/util/function/BiFunction;)I" = some ⟨[.int, .int, (.object "java/util/function/BiFunction")], some .int⟩ := by decide +kernel
theorem pn_rm8 : plainFor yy3 = true := by first | exact plainFor_of_name (by first | (simp [plainName, overriddenIn]; done) | decide +kernel) | decide +kernel
theorem ef_rm8 (m : MethodId) (i9 : Int32) (n9 : Int32) : entryFrame m #[(.int i9), (.int n9)] 2 = (mkF m 0 #[iv i9, iv n9] []) := by first | (simp [entryFrame, mkF, argsToLocals, Value.category]; done) | rfl
def Q8 (Z : State) (i9 : Int32) (n9 : Int32) (f9 : Value) (h0 : Heap) (n0 : Nat) (v_ : Option Value) (h_ : Heap) (L_ : List Loc) : Prop := (v_ = none) ∧ (Fr n0 L_) ∧ (h_ = h0)
set_option maxRecDepth 65536 in
set_option maxHeartbeats 40000000 in
theorem rm8 (l : Launch) (Z : State) (a0 : Array Value) (hw : ∀ d ∈ tables_1, d.before a0 Z = true) (ws : List Jvm.Cond) (i9 : Int32) (n9 : Int32) (f9 : Value) (h0 : Heap) (n0 : Nat) (Z0 : n0 ≤ h0.size) (p_0 : Sta Z h0 "jdk/internal/util/Preconditions" "SIOOBE_FORMATTER" "Ljava/util/function/BiFunction;" f9) (hf9 : f9.isRef = true) (h1 : ¬ i9 < (0 : Int32)) (h2 : i9 < n9) :
    MetFree l yy3 (head1 (Jvm.Cond.code yy3 jdk_42_method_155_code 2 none :: ws) rRrm8) (fun a_ U_ => a_ = #[(.int i9), (.int n9)] ∧ Z.Warmed39 U_.vm ∧ U_.heap = h0) (fun _ _ _ _ _ => True) (fun _ U_ o_ U1_ => ∃ v_ L_, o_ = .returned v_ ∧ Q8 Z i9 n9 f9 h0 n0 v_ U1_.heap L_ ∧ FrameEnd U_ o_ U1_ L_ rRrm8.cells rRrm8.slots) := by
  refine MetFree.of_bodySF pn_rm8 hisR ?_
  intro p e s m args below meth c s₁ Bd hml0 hP hK
  obtain ⟨rfl, hZ, hh⟩ := hP
  have hx := Bd.exec
  have hby := Bd.bytes
  have hlk : meth.locks = false := Bd.notSynchronized
  have hml : c.maxLocals = 2 := hml0
  have hown : s.vm.findClass "java/lang/String" = some m.cls := findClass_of_methodNamed Bd.named
  have hnm := (name_of_methodNamed Bd.named Bd.method).1
  have X0 : Stand p l e rRrm8 s m #[(.int i9), (.int n9)] below meth c s₁ [] 0 0 := Stand.of_body Bd
  have e0 : s₁.heap = h0 := by rw [← hh, Bd.state]; rfl
  have N0 := Fr.nil n0
  show own_Goes p e below s (Q8 Z i9 n9 f9 h0 n0) rRrm8.cells rRrm8.slots s₁ (entryFrame m #[(.int i9), (.int n9)] 2)
  rw [ef_rm8 m i9 n9]
  show own_Goes p e below s (Q8 Z i9 n9 f9 h0 n0) rRrm8.cells rRrm8.slots s₁ (mkF m 0 #[iv i9, iv n9] [])
  refine own_st (fun _ kk_ => XS.iloadN X0.here hx rfl (hb hby d8_0) rfl (XS.iloadN X0.here hx rfl (hb hby d8_1) rfl kk_)) ?_
  show own_Goes _ _ _ _ _ _ _ s₁ (mkF m 2 #[iv i9, iv n9] [(.int n9), (.int i9)])
  obtain ⟨T1, X1, e1, st1⟩ := getS2 X0 hx hZ hown (host := "") (Or.inl (own_w hw 45 rfl)) Via.refl e0 p_0 (g := (mkF m 2 #[iv i9, iv n9] [(.int n9), (.int i9)])) rfl (hb hby d8_2)
  refine own_st st1 ?_
  show own_Goes _ _ _ _ _ _ _ T1 (mkF m 5 #[iv i9, iv n9] [f9, (.int n9), (.int i9)])
  obtain ⟨_, _, ⟨T2, L2, k2, n2⟩, -, X2, ⟨Lc2, hQ2, l2, y2, z2⟩, st2⟩ := Jvm.LawKit.callS X1 hx (y := yy2) hown (mvT hZ (own_w hw 47 rfl)) (mvT hZ (own_w hw 48 rfl)) (mvT hZ (own_w hw 46 rfl)) (mvT hZ (own_w hw 49 rfl)) (by decide) (backOf (W := 0) (rm9 l Z a0 hw [] (i9) (n9) f9 hf9 h0 n0 Z0 (by assumption) (by assumption)) hZ (own_w hw 49 rfl) (own_w hw 46 rfl) (by decide) (by decide)) (g := (mkF m 5 #[iv i9, iv n9] [f9, (.int n9), (.int i9)])) rfl (by rw [hml]; rfl) (argsL := [(.int i9), (.int n9), f9]) (rest := []) (lenOf pd_0 rfl) rfl (by show 2 * 0 + _ ≤ _; exact Nat.le_of_eq rfl) (hb hby d8_5) (fun _ _ => ⟨rfl, e1, (by decide : 0 + 0 ≤ _), (by decide : 0 + 0 ≤ _)⟩)
  dsimp only [Pt.U, Pt.locs, Pt.cells, Pt.slots] at X2 l2 y2 z2 st2 hQ2
  subst l2 y2 z2
  obtain ⟨rfl, Nq2, eq2⟩ := hQ2
  have N2 := Fr.app N0 Nq2
  refine own_st st2 ?_
  show own_Goes _ _ _ _ _ _ _ T2 (mkF m 8 #[iv i9, iv n9] [(.int i9)])
  refine own_st (fun _ kk_ => XS.pop X2.here hx rfl (hb hby d8_8) rfl rfl kk_) ?_
  show own_Goes _ _ _ _ _ _ _ T2 (mkF m 9 #[iv i9, iv n9] [])
  refine own_ret0 X2 hx hlk Bd.returns (hb hby d8_9) (by decide) (by decide) ?_
  show Q8 Z i9 n9 f9 h0 n0 none T2.heap _
  rw [eq2]
  exact ⟨rfl, N2, rfl⟩
theorem own_sh0 (z : Int32) : z >>> ((0 : Int32) &&& 31) = z := by
  have e := c_ishr z 0 0 (by decide)
  refine Int32.toInt_inj.mp ?_; rw [e]; omega
abbrev rRrm3 : Room := { frames := 1, cells := 0, slots := 0, locals := 13 }
theorem d3_0 : decode jdk_42_method_54_code 0 = .ok (.aload_n 0, 1) := by decide +kernel
theorem d3_1 : decode jdk_42_method_54_code 1 = .ok (.getfield 9, 3) := by decide +kernel
theorem d3_4 : decode jdk_42_method_54_code 4 = .ok (.arraylength, 1) := by decide +kernel
theorem d3_5 : decode jdk_42_method_54_code 5 = .ok (.aload_n 0, 1) := by decide +kernel
theorem d3_6 : decode jdk_42_method_54_code 6 = .ok (.invokevirtual 335, 3) := by decide +kernel
theorem d3_9 : decode jdk_42_method_54_code 9 = .ok (.ishr, 1) := by decide +kernel
theorem d3_10 : decode jdk_42_method_54_code 10 = .ok (.ireturn, 1) := by decide +kernel
theorem pd_1 : parseMethodDescriptor "()B" = some ⟨[], some .byte⟩ := by decide +kernel
theorem pn_rm3 : plainFor yy4 = true := by first | exact plainFor_of_name (by first | (simp [plainName, overriddenIn]; done) | decide +kernel) | decide +kernel
theorem ef_rm3 (m : MethodId) (a : Addr) : entryFrame m #[(.ref a)] 1 = (mkF m 0 #[rv a] []) := by first | (simp [entryFrame, mkF, argsToLocals, Value.category]; done) | rfl
def Q3 (Z : State) (a : Addr) (d : Addr) (kd : ClassId) (z1 : Int32) (vs1 : List Value) (cs : Int32) (h0 : Heap) (n0 : Nat) (v_ : Option Value) (h_ : Heap) (L_ : List Loc) : Prop := (v_ = some (.int z1)) ∧ (Fr n0 L_) ∧ (h_ = h0)
set_option maxRecDepth 65536 in
set_option maxHeartbeats 40000000 in
theorem rm3 (l : Launch) (Z : State) (a0 : Array Value) (hw : ∀ d ∈ tables_1, d.before a0 Z = true) (ws : List Jvm.Cond) (a : Addr) (d : Addr) (kd : ClassId) (z1 : Int32) (vs1 : List Value) (cs : Int32) (h0 : Heap) (n0 : Nat) (Z0 : n0 ≤ h0.size) (p_0 : Exa Z h0 a "java/lang/String") (p_1 : Fld Z h0 a "java/lang/String" "coder" "B" (.int (0 : Int32))) (p_2 : Fld Z h0 a "java/lang/String" "value" "[B" (.ref d)) (hA : Arv Z h0 d kd .byte z1 vs1 (.int (0 : Int32))) (hvs : ∀ v ∈ vs1, ∃ x, v = Value.int x) (p_5 : Sta Z h0 "java/lang/String" "COMPACT_STRINGS" "Z" (.int cs)) (hcs : ¬ cs = (0 : Int32)) :
    MetFree l yy4 (head1 (Jvm.Cond.code yy4 jdk_42_method_54_code 1 (some .int) :: ws) rRrm3) (fun a_ U_ => a_ = #[(.ref a)] ∧ Z.Warmed39 U_.vm ∧ U_.heap = h0) (fun _ _ _ _ _ => True) (fun _ U_ o_ U1_ => ∃ v_ L_, o_ = .returned v_ ∧ Q3 Z a d kd z1 vs1 cs h0 n0 v_ U1_.heap L_ ∧ FrameEnd U_ o_ U1_ L_ rRrm3.cells rRrm3.slots) := by
  refine MetFree.of_bodySF pn_rm3 hisR ?_
  intro p e s m args below meth c s₁ Bd hml0 hP hK
  obtain ⟨rfl, hZ, hh⟩ := hP
  have hx := Bd.exec
  have hby := Bd.bytes
  have hlk : meth.locks = false := Bd.notSynchronized
  have hml : c.maxLocals = 1 := hml0
  have hown : s.vm.findClass "java/lang/String" = some m.cls := findClass_of_methodNamed Bd.named
  have hnm := (name_of_methodNamed Bd.named Bd.method).1
  have X0 : Stand p l e rRrm3 s m #[(.ref a)] below meth c s₁ [] 0 0 := Stand.of_body Bd
  have e0 : s₁.heap = h0 := by rw [← hh, Bd.state]; rfl
  have N0 := Fr.nil n0
  show own_Goes p e below s (Q3 Z a d kd z1 vs1 cs h0 n0) rRrm3.cells rRrm3.slots s₁ (entryFrame m #[(.ref a)] 1)
  rw [ef_rm3 m a]
  show own_Goes p e below s (Q3 Z a d kd z1 vs1 cs h0 n0) rRrm3.cells rRrm3.slots s₁ (mkF m 0 #[rv a] [])
  refine own_st (fun _ kk_ => XS.aloadN X0.here hx rfl (hb hby d3_0) rfl rfl kk_) ?_
  show own_Goes _ _ _ _ _ _ _ s₁ (mkF m 1 #[rv a] [(.ref a)])
  obtain ⟨T1, X1, e1, st1⟩ := getF X0 hx hZ hown (host := "") (Or.inl (own_w hw 20 rfl)) Via.refl e0 p_2 (g := (mkF m 1 #[rv a] [(.ref a)])) rfl rfl (hb hby d3_1)
  refine own_st st1 ?_
  show own_Goes _ _ _ _ _ _ _ T1 (mkF m 4 #[rv a] [(.ref d)])
  obtain ⟨cl2, Ar2, -, Sz2, Nn2, -, -⟩ := id hA
  refine own_st (fun _ kk_ => X1.arraylength hx (by rw [e1]; exact Ar2.1) (State.isArrayOf_alike hZ.alike Ar2.2.1) (g := (mkF m 4 #[rv a] [(.ref d)])) rfl rfl (hb hby d3_4) _ kk_) ?_
  rw [len_of Sz2 Nn2]
  show own_Goes _ _ _ _ _ _ _ T1 (mkF m 5 #[rv a] [(.int z1)])
  refine own_st (fun _ kk_ => XS.aloadN X1.here hx rfl (hb hby d3_5) rfl rfl kk_) ?_
  show own_Goes _ _ _ _ _ _ _ T1 (mkF m 6 #[rv a] [(.ref a), (.int z1)])
  obtain ⟨cq3, kq3, q3a, q3b, q3c⟩ := isOf hZ e1 p_0
  obtain ⟨_, _, ⟨T3, L3, k3, n3⟩, -, X3, ⟨Lc3, hQ3, l3, y3, z3⟩, st3⟩ := X1.virtualBack hx (y := yy1) (z := yy1) hown (mvT hZ (own_w hw 21 rfl)) (mvT hZ (own_w hw 22 rfl)) (notFace_of_selects (args := #[]) (mvT hZ (own_w hw 24 rfl))) (mvT hZ (own_w hw 24 rfl)) (mvT hZ (own_w hw 23 rfl)) (by decide) (backOf (W := 1) (rm4 l Z a0 hw [] (a) (cs) h0 n0 Z0 p_1 p_5 (by assumption)) hZ (own_w hw 25 rfl) (own_w hw 5 rfl) (by decide) (by decide)) q3a q3c (g := (mkF m 6 #[rv a] [(.ref a), (.int z1)])) rfl (by rw [hml]; rfl) (Steps.refl _) (argsL := []) (rest := [(.int z1)]) (lenOf pd_1 rfl) rfl (by show 2 * 0 + _ ≤ _; exact Nat.le_of_eq rfl) (hb hby d3_6) (fun _ _ => ⟨rfl, e1, (by decide : 0 + 0 ≤ _), (by decide : 0 + 0 ≤ _)⟩)
  dsimp only [Pt.U, Pt.locs, Pt.cells, Pt.slots] at X3 l3 y3 z3 st3 hQ3
  subst l3 y3 z3
  obtain ⟨rfl, Nq3, eq3⟩ := hQ3
  have N3 := Fr.app N0 Nq3
  refine own_st (fun _ kk_ => st3.trans kk_) ?_
  show own_Goes _ _ _ _ _ _ _ T3 (mkF m 9 #[rv a] [(.int (0 : Int32)), (.int z1)])
  refine own_st (fun _ kk_ => XS.ishr X3.here hx rfl (hb hby d3_9) rfl kk_) ?_
  show own_Goes _ _ _ _ _ _ _ T3 (mkF m 10 #[rv a] [(.int (z1 >>> ((0 : Int32) &&& 31)))])
  refine own_retI X3 hx hlk Bd.returns (hb hby d3_10) (by decide) (by decide) ?_
  show Q3 Z a d kd z1 vs1 cs h0 n0 (some (.int (z1 >>> ((0 : Int32) &&& 31)))) T3.heap _
  rw [eq3]
  exact ⟨by exact congrArg (fun z => some (Value.int z)) (own_sh0 z1), N3, rfl⟩
abbrev rRrm7 : Room := { frames := 2, cells := 0, slots := 0, locals := 27 }
theorem d7_0 : decode jdk_43_method_2_code 0 = .ok (.iload_n 1, 1) := by decide +kernel
theorem d7_1 : decode jdk_43_method_2_code 1 = .ok (.aload_n 0, 1) := by decide +kernel
theorem d7_2 : decode jdk_43_method_2_code 2 = .ok (.arraylength, 1) := by decide +kernel
theorem d7_3 : decode jdk_43_method_2_code 3 = .ok (.invokestatic 9, 3) := by decide +kernel
theorem d7_6 : decode jdk_43_method_2_code 6 = .ok (.aload_n 0, 1) := by decide +kernel
theorem d7_7 : decode jdk_43_method_2_code 7 = .ok (.iload_n 1, 1) := by decide +kernel
theorem d7_8 : decode jdk_43_method_2_code 8 = .ok (.baload, 1) := by decide +kernel
theorem d7_9 : decode jdk_43_method_2_code 9 = .ok (.sipush 255, 3) := by decide +kernel
theorem d7_12 : decode jdk_43_method_2_code 12 = .ok (.iand, 1) := by decide +kernel
theorem d7_13 : decode jdk_43_method_2_code 13 = .ok (.i2c, 1) := by decide +kernel
theorem d7_14 : decode jdk_43_method_2_code 14 = .ok (.ireturn, 1) := by decide +kernel
theorem pd_2 : parseMethodDescriptor "(II)V" = some ⟨[.int, .int], none⟩ := by decide +kernel
theorem pn_rm7 : plainFor yy5 = true := by first | exact plainFor_of_name (by first | (simp [plainName, overriddenIn]; done) | decide +kernel) | decide +kernel
theorem ef_rm7 (m : MethodId) (d : Addr) (i9 : Int32) : entryFrame m #[(.ref d), (.int i9)] 2 = (mkF m 0 #[rv d, iv i9] []) := by first | (simp [entryFrame, mkF, argsToLocals, Value.category]; done) | rfl
def Q7 (Z : State) (d : Addr) (i9 : Int32) (kd : ClassId) (z1 : Int32) (vs1 : List Value) (f9 : Value) (h0 : Heap) (n0 : Nat) (v_ : Option Value) (h_ : Heap) (L_ : List Loc) : Prop := ∃ r : Int32, (v_ = some (.int r)) ∧ (Fr n0 L_) ∧ (h_ = h0) ∧ (own_in r)
set_option maxRecDepth 65536 in
set_option maxHeartbeats 40000000 in
theorem rm7 (l : Launch) (Z : State) (a0 : Array Value) (hw : ∀ d ∈ tables_1, d.before a0 Z = true) (ws : List Jvm.Cond) (d : Addr) (i9 : Int32) (kd : ClassId) (z1 : Int32) (vs1 : List Value) (f9 : Value) (h0 : Heap) (n0 : Nat) (Z0 : n0 ≤ h0.size) (hA : Arv Z h0 d kd .byte z1 vs1 (.int (0 : Int32))) (hvs : ∀ v ∈ vs1, ∃ x, v = Value.int x) (p_2 : Sta Z h0 "jdk/internal/util/Preconditions" "SIOOBE_FORMATTER" "Ljava/util/function/BiFunction;" f9) (hf9 : f9.isRef = true) (h1 : ¬ i9 < (0 : Int32)) (h2 : i9 < z1) :
    MetFree l yy5 (head1 (Jvm.Cond.code yy5 jdk_43_method_2_code 2 (some .char) :: ws) rRrm7) (fun a_ U_ => a_ = #[(.ref d), (.int i9)] ∧ Z.Warmed39 U_.vm ∧ U_.heap = h0) (fun _ _ _ _ _ => True) (fun _ U_ o_ U1_ => ∃ v_ L_, o_ = .returned v_ ∧ Q7 Z d i9 kd z1 vs1 f9 h0 n0 v_ U1_.heap L_ ∧ FrameEnd U_ o_ U1_ L_ rRrm7.cells rRrm7.slots) := by
  refine MetFree.of_bodySF pn_rm7 hisR ?_
  intro p e s m args below meth c s₁ Bd hml0 hP hK
  obtain ⟨rfl, hZ, hh⟩ := hP
  have hx := Bd.exec
  have hby := Bd.bytes
  have hlk : meth.locks = false := Bd.notSynchronized
  have hml : c.maxLocals = 2 := hml0
  have hown : s.vm.findClass "java/lang/StringLatin1" = some m.cls := findClass_of_methodNamed Bd.named
  have hnm := (name_of_methodNamed Bd.named Bd.method).1
  have X0 : Stand p l e rRrm7 s m #[(.ref d), (.int i9)] below meth c s₁ [] 0 0 := Stand.of_body Bd
  have e0 : s₁.heap = h0 := by rw [← hh, Bd.state]; rfl
  have N0 := Fr.nil n0
  show own_Goes p e below s (Q7 Z d i9 kd z1 vs1 f9 h0 n0) rRrm7.cells rRrm7.slots s₁ (entryFrame m #[(.ref d), (.int i9)] 2)
  rw [ef_rm7 m d i9]
  show own_Goes p e below s (Q7 Z d i9 kd z1 vs1 f9 h0 n0) rRrm7.cells rRrm7.slots s₁ (mkF m 0 #[rv d, iv i9] [])
  refine own_st (fun _ kk_ => XS.iloadN X0.here hx rfl (hb hby d7_0) rfl (XS.aloadN X0.here hx rfl (hb hby d7_1) rfl rfl kk_)) ?_
  show own_Goes _ _ _ _ _ _ _ s₁ (mkF m 2 #[rv d, iv i9] [(.ref d), (.int i9)])
  obtain ⟨cl1, Ar1, -, Sz1, Nn1, -, -⟩ := id hA
  refine own_st (fun _ kk_ => X0.arraylength hx (by rw [e0]; exact Ar1.1) (State.isArrayOf_alike hZ.alike Ar1.2.1) (g := (mkF m 2 #[rv d, iv i9] [(.ref d), (.int i9)])) rfl rfl (hb hby d7_2) _ kk_) ?_
  rw [len_of Sz1 Nn1]
  show own_Goes _ _ _ _ _ _ _ s₁ (mkF m 3 #[rv d, iv i9] [(.int z1), (.int i9)])
  obtain ⟨_, _, ⟨T2, L2, k2, n2⟩, -, X2, ⟨Lc2, hQ2, l2, y2, z2⟩, st2⟩ := Jvm.LawKit.callS X0 hx (y := yy3) hown (mvT hZ (own_w hw 42 rfl)) (mvT hZ (own_w hw 43 rfl)) (mvT hZ (own_w hw 5 rfl)) (mvT hZ (own_w hw 44 rfl)) (by decide) (backOf (W := 0) (rm8 l Z a0 hw [] (i9) (z1) f9 h0 n0 Z0 p_2 (by assumption) (by assumption) (by assumption)) hZ (own_w hw 44 rfl) (own_w hw 5 rfl) (by decide) (by decide)) (g := (mkF m 3 #[rv d, iv i9] [(.int z1), (.int i9)])) rfl (by rw [hml]; rfl) (argsL := [(.int i9), (.int z1)]) (rest := []) (lenOf pd_2 rfl) rfl (by show 2 * 0 + _ ≤ _; exact Nat.le_of_eq rfl) (hb hby d7_3) (fun _ _ => ⟨rfl, e0, (by decide : 0 + 0 ≤ _), (by decide : 0 + 0 ≤ _)⟩)
  dsimp only [Pt.U, Pt.locs, Pt.cells, Pt.slots] at X2 l2 y2 z2 st2 hQ2
  subst l2 y2 z2
  obtain ⟨rfl, Nq2, eq2⟩ := hQ2
  have N2 := Fr.app N0 Nq2
  refine own_st st2 ?_
  show own_Goes _ _ _ _ _ _ _ T2 (mkF m 6 #[rv d, iv i9] [])
  refine own_st (fun _ kk_ => XS.aloadN X2.here hx rfl (hb hby d7_6) rfl rfl (XS.iloadN X2.here hx rfl (hb hby d7_7) rfl kk_)) ?_
  show own_Goes _ _ _ _ _ _ _ T2 (mkF m 8 #[rv d, iv i9] [(.int i9), (.ref d)])
  obtain ⟨xv, hxv⟩ := own_getI (l := vs1) (d := (.int (0 : Int32))) hvs ⟨_, rfl⟩ i9.toNatClampNeg
  obtain ⟨cl3, Ar3, q3, Sz3, Nn3, Hh3, Gg3⟩ := id hA
  refine own_st (fun _ kk_ => X2.baloadBytes hx (j := i9) (v := (.int xv)) (by rw [eq2]; exact Ar3.1) (State.isArrayOf_alike hZ.alike Ar3.2.1) Ar3.2.2 (inb_of Sz3 ⟨h1, h2⟩) (Hh3.at (inb_of Sz3 ⟨h1, h2⟩) hxv) (g := (mkF m 8 #[rv d, iv i9] [(.int i9), (.ref d)])) rfl rfl (hb hby d7_8) _ kk_) ?_
  show own_Goes _ _ _ _ _ _ _ T2 (mkF m 9 #[rv d, iv i9] [(.int xv)])
  refine own_st (fun _ kk_ => XS.sipush X2.here hx rfl (hb hby d7_9) (XS.iand X2.here hx rfl (hb hby d7_12) rfl (XS.i2c X2.here hx rfl (hb hby d7_13) rfl kk_))) ?_
  show own_Goes _ _ _ _ _ _ _ T2 (mkF m 14 #[rv d, iv i9] [(.int ((xv &&& (255 : Int32)).toUInt32.toUInt16.toUInt32.toInt32))])
  refine own_retN X2 hx hlk (t := .char) Bd.returns (by simp) (hb hby d7_14) (by decide) (by decide) ?_
  show Q7 Z d i9 kd z1 vs1 f9 h0 n0 (some (.int (nar .char ((xv &&& (255 : Int32)).toUInt32.toUInt16.toUInt32.toInt32)))) T2.heap _
  rw [eq2]
  exact ⟨_, rfl, N2, rfl, own_inb xv⟩
abbrev rRrm5 : Room := { frames := 3, cells := 0, slots := 0, locals := 40 }
theorem d5_0 : decode jdk_42_method_56_code 0 = .ok (.aload_n 0, 1) := by decide +kernel
theorem d5_1 : decode jdk_42_method_56_code 1 = .ok (.invokevirtual 492, 3) := by decide +kernel
theorem d5_4 : decode jdk_42_method_56_code 4 = .ok (.ifCond .eq 12, 3) := by decide +kernel
theorem d5_7 : decode jdk_42_method_56_code 7 = .ok (.aload_n 0, 1) := by decide +kernel
theorem d5_8 : decode jdk_42_method_56_code 8 = .ok (.getfield 9, 3) := by decide +kernel
theorem d5_11 : decode jdk_42_method_56_code 11 = .ok (.iload_n 1, 1) := by decide +kernel
theorem d5_12 : decode jdk_42_method_56_code 12 = .ok (.invokestatic 495, 3) := by decide +kernel
theorem d5_15 : decode jdk_42_method_56_code 15 = .ok (.ireturn, 1) := by decide +kernel
theorem pd_3 : parseMethodDescriptor "()Z" = some ⟨[], some .boolean⟩ := by decide +kernel
theorem pd_4 : parseMethodDescriptor "([BI)C" = some ⟨[(.array .byte), .int], some .char⟩ := by decide +kernel
theorem pn_rm5 : plainFor yy6 = true := by first | exact plainFor_of_name (by first | (simp [plainName, overriddenIn]; done) | decide +kernel) | decide +kernel
theorem ef_rm5 (m : MethodId) (a : Addr) (i9 : Int32) : entryFrame m #[(.ref a), (.int i9)] 2 = (mkF m 0 #[rv a, iv i9] []) := by first | (simp [entryFrame, mkF, argsToLocals, Value.category]; done) | rfl
def Q5 (Z : State) (a : Addr) (i9 : Int32) (d : Addr) (kd : ClassId) (z1 : Int32) (vs1 : List Value) (cs : Int32) (f9 : Value) (h0 : Heap) (n0 : Nat) (v_ : Option Value) (h_ : Heap) (L_ : List Loc) : Prop := ∃ r : Int32, (v_ = some (.int r)) ∧ (Fr n0 L_) ∧ (h_ = h0) ∧ (own_in r)
set_option maxRecDepth 65536 in
set_option maxHeartbeats 40000000 in
theorem rm5 (l : Launch) (Z : State) (a0 : Array Value) (hw : ∀ d ∈ tables_1, d.before a0 Z = true) (ws : List Jvm.Cond) (a : Addr) (i9 : Int32) (d : Addr) (kd : ClassId) (z1 : Int32) (vs1 : List Value) (cs : Int32) (f9 : Value) (h0 : Heap) (n0 : Nat) (Z0 : n0 ≤ h0.size) (p_0 : Exa Z h0 a "java/lang/String") (p_1 : Fld Z h0 a "java/lang/String" "coder" "B" (.int (0 : Int32))) (p_2 : Fld Z h0 a "java/lang/String" "value" "[B" (.ref d)) (hA : Arv Z h0 d kd .byte z1 vs1 (.int (0 : Int32))) (hvs : ∀ v ∈ vs1, ∃ x, v = Value.int x) (p_5 : Sta Z h0 "java/lang/String" "COMPACT_STRINGS" "Z" (.int cs)) (hcs : ¬ cs = (0 : Int32)) (p_7 : Sta Z h0 "jdk/internal/util/Preconditions" "SIOOBE_FORMATTER" "Ljava/util/function/BiFunction;" f9) (hf9 : f9.isRef = true) (h1 : ¬ i9 < (0 : Int32)) (h2 : i9 < z1) :
    MetFree l yy6 (head1 (Jvm.Cond.code yy6 jdk_42_method_56_code 2 (some .char) :: ws) rRrm5) (fun a_ U_ => a_ = #[(.ref a), (.int i9)] ∧ Z.Warmed39 U_.vm ∧ U_.heap = h0) (fun _ _ _ _ _ => True) (fun _ U_ o_ U1_ => ∃ v_ L_, o_ = .returned v_ ∧ Q5 Z a i9 d kd z1 vs1 cs f9 h0 n0 v_ U1_.heap L_ ∧ FrameEnd U_ o_ U1_ L_ rRrm5.cells rRrm5.slots) := by
  refine MetFree.of_bodySF pn_rm5 hisR ?_
  intro p e s m args below meth c s₁ Bd hml0 hP hK
  obtain ⟨rfl, hZ, hh⟩ := hP
  have hx := Bd.exec
  have hby := Bd.bytes
  have hlk : meth.locks = false := Bd.notSynchronized
  have hml : c.maxLocals = 2 := hml0
  have hown : s.vm.findClass "java/lang/String" = some m.cls := findClass_of_methodNamed Bd.named
  have hnm := (name_of_methodNamed Bd.named Bd.method).1
  have X0 : Stand p l e rRrm5 s m #[(.ref a), (.int i9)] below meth c s₁ [] 0 0 := Stand.of_body Bd
  have e0 : s₁.heap = h0 := by rw [← hh, Bd.state]; rfl
  have N0 := Fr.nil n0
  show own_Goes p e below s (Q5 Z a i9 d kd z1 vs1 cs f9 h0 n0) rRrm5.cells rRrm5.slots s₁ (entryFrame m #[(.ref a), (.int i9)] 2)
  rw [ef_rm5 m a i9]
  show own_Goes p e below s (Q5 Z a i9 d kd z1 vs1 cs f9 h0 n0) rRrm5.cells rRrm5.slots s₁ (mkF m 0 #[rv a, iv i9] [])
  refine own_st (fun _ kk_ => XS.aloadN X0.here hx rfl (hb hby d5_0) rfl rfl kk_) ?_
  show own_Goes _ _ _ _ _ _ _ s₁ (mkF m 1 #[rv a, iv i9] [(.ref a)])
  obtain ⟨cq1, kq1, q1a, q1b, q1c⟩ := isOf hZ e0 p_0
  obtain ⟨_, _, ⟨T1, L1, k1, n1⟩, -, X1, ⟨Lc1, hQ1, l1, y1, z1⟩, st1⟩ := X0.virtualBack hx (y := yy0) (z := yy0) hown (mvT hZ (own_w hw 33 rfl)) (mvT hZ (own_w hw 34 rfl)) (notFace_of_selects (args := #[]) (mvT hZ (own_w hw 36 rfl))) (mvT hZ (own_w hw 36 rfl)) (mvT hZ (own_w hw 35 rfl)) (by decide) (backOf (W := 0) (rm6 l Z a0 hw [] (a) (cs) h0 n0 Z0 p_1 p_5 (by assumption)) hZ (own_w hw 37 rfl) (own_w hw 5 rfl) (by decide) (by decide)) q1a q1c (g := (mkF m 1 #[rv a, iv i9] [(.ref a)])) rfl (by rw [hml]; rfl) (Steps.refl _) (argsL := []) (rest := []) (lenOf pd_3 rfl) rfl (by show 2 * 0 + _ ≤ _; exact Nat.le_of_eq rfl) (hb hby d5_1) (fun _ _ => ⟨rfl, e0, (by decide : 0 + 0 ≤ _), (by decide : 0 + 0 ≤ _)⟩)
  dsimp only [Pt.U, Pt.locs, Pt.cells, Pt.slots] at X1 l1 y1 z1 st1 hQ1
  subst l1 y1 z1
  obtain ⟨rfl, Nq1, eq1⟩ := hQ1
  have N1 := Fr.app N0 Nq1
  refine own_st (fun _ kk_ => st1.trans kk_) ?_
  show own_Goes _ _ _ _ _ _ _ T1 (mkF m 4 #[rv a, iv i9] [(.int (1 : Int32))])
  refine own_st (fun _ kk_ => XS.ifNo X1.here hx rfl (hb hby d5_4) rfl (XT.i0_eq_f (by decide)) (XS.aloadN X1.here hx rfl (hb hby d5_7) rfl rfl kk_)) ?_
  show own_Goes _ _ _ _ _ _ _ T1 (mkF m 8 #[rv a, iv i9] [(.ref a)])
  obtain ⟨T2, X2, e2, st2⟩ := getF X1 hx hZ hown (host := "") (Or.inl (own_w hw 20 rfl)) Via.refl eq1 p_2 (g := (mkF m 8 #[rv a, iv i9] [(.ref a)])) rfl rfl (hb hby d5_8)
  refine own_st st2 ?_
  show own_Goes _ _ _ _ _ _ _ T2 (mkF m 11 #[rv a, iv i9] [(.ref d)])
  refine own_st (fun _ kk_ => XS.iloadN X2.here hx rfl (hb hby d5_11) rfl kk_) ?_
  show own_Goes _ _ _ _ _ _ _ T2 (mkF m 12 #[rv a, iv i9] [(.int i9), (.ref d)])
  obtain ⟨_, _, ⟨T3, L3, k3, n3⟩, -, X3, ⟨Lc3, hQ3, l3, y3, z3⟩, st3⟩ := Jvm.LawKit.callS X2 hx (y := yy5) hown (mvT hZ (own_w hw 38 rfl)) (mvT hZ (own_w hw 39 rfl)) (mvT hZ (own_w hw 40 rfl)) (mvT hZ (own_w hw 41 rfl)) (by decide) (backOf (W := 0) (rm7 l Z a0 hw [] (d) (i9) (kd) (z1) (vs1) f9 h0 n0 Z0 hA hvs p_7 (by assumption) (by assumption) (by assumption)) hZ (own_w hw 41 rfl) (own_w hw 40 rfl) (by decide) (by decide)) (g := (mkF m 12 #[rv a, iv i9] [(.int i9), (.ref d)])) rfl (by rw [hml]; rfl) (argsL := [(.ref d), (.int i9)]) (rest := []) (lenOf pd_4 rfl) rfl (by show 2 * 0 + _ ≤ _; exact Nat.le_of_eq rfl) (hb hby d5_12) (fun _ _ => ⟨rfl, e2, (by decide : 0 + 0 ≤ _), (by decide : 0 + 0 ≤ _)⟩)
  dsimp only [Pt.U, Pt.locs, Pt.cells, Pt.slots] at X3 l3 y3 z3 st3 hQ3
  subst l3 y3 z3
  obtain ⟨x3_r, rfl, Nq3, eq3, u3_0⟩ := hQ3
  have N3 := Fr.app N1 Nq3
  refine own_st st3 ?_
  show own_Goes _ _ _ _ _ _ _ T3 (mkF m 15 #[rv a, iv i9] [(.int x3_r)])
  refine own_retN X3 hx hlk (t := .char) Bd.returns (by simp) (hb hby d5_15) (by decide) (by decide) ?_
  show Q5 Z a i9 d kd z1 vs1 cs f9 h0 n0 (some (.int (nar .char x3_r))) T3.heap _
  rw [eq3]
  exact ⟨_, rfl, N3, rfl, own_inn u3_0⟩
abbrev rRrm2 : Room := { frames := 4, cells := 0, slots := 0, locals := 53 }
theorem d2_0 : decode method_4_code 0 = .ok (.iload_n 2, 1) := by decide +kernel
theorem d2_1 : decode method_4_code 1 = .ok (.ifCond .eq 11, 3) := by decide +kernel
theorem d2_4 : decode method_4_code 4 = .ok (.iload_n 1, 1) := by decide +kernel
theorem d2_5 : decode method_4_code 5 = .ok (.iload_n 3, 1) := by decide +kernel
theorem d2_6 : decode method_4_code 6 = .ok (.if_icmp .ne 6, 3) := by decide +kernel
theorem d2_9 : decode method_4_code 9 = .ok (.iload 4, 2) := by decide +kernel
theorem d2_11 : decode method_4_code 11 = .ok (.ireturn, 1) := by decide +kernel
theorem d2_12 : decode method_4_code 12 = .ok (.iload_n 1, 1) := by decide +kernel
theorem d2_13 : decode method_4_code 13 = .ok (.aload_n 0, 1) := by decide +kernel
theorem d2_14 : decode method_4_code 14 = .ok (.invokevirtual 38, 3) := by decide +kernel
theorem d2_17 : decode method_4_code 17 = .ok (.if_icmp .ge 9, 3) := by decide +kernel
theorem d2_20 : decode method_4_code 20 = .ok (.aload_n 0, 1) := by decide +kernel
theorem d2_21 : decode method_4_code 21 = .ok (.iload_n 1, 1) := by decide +kernel
theorem d2_22 : decode method_4_code 22 = .ok (.invokevirtual 44, 3) := by decide +kernel
theorem d2_25 : decode method_4_code 25 = .ok (.ireturn, 1) := by decide +kernel
theorem d2_26 : decode method_4_code 26 = .ok (.iload 5, 2) := by decide +kernel
theorem d2_28 : decode method_4_code 28 = .ok (.ireturn, 1) := by decide +kernel
theorem pd_5 : parseMethodDescriptor "()I" = some ⟨[], some .int⟩ := by decide +kernel
theorem pd_6 : parseMethodDescriptor "(I)C" = some ⟨[.int], some .char⟩ := by decide +kernel
theorem pn_rm2 : plainFor yy7 = true := by first | exact plainFor_of_name (by first | (simp [plainName, overriddenIn]; done) | decide +kernel) | decide +kernel
theorem ef_rm2 (m : MethodId) (a : Addr) (i9 : Int32) (mu : Int32) (pp : Int32) (mm : Int32) (fi : Int32) : entryFrame m #[(.ref a), (.int i9), (.int mu), (.int pp), (.int mm), (.int fi)] 6 = (mkF m 0 #[rv a, iv i9, iv mu, iv pp, iv mm, iv fi] []) := by first | (simp [entryFrame, mkF, argsToLocals, Value.category]; done) | rfl
def Q2 (Z : State) (a : Addr) (i9 : Int32) (mu : Int32) (pp : Int32) (mm : Int32) (fi : Int32) (d : Addr) (kd : ClassId) (z1 : Int32) (vs1 : List Value) (cs : Int32) (f9 : Value) (h0 : Heap) (n0 : Nat) (v_ : Option Value) (h_ : Heap) (L_ : List Loc) : Prop := ∃ r : Int32, (v_ = some (.int r)) ∧ (Fr n0 L_) ∧ (h_ = h0) ∧ (own_in r)
set_option maxRecDepth 65536 in
set_option maxHeartbeats 40000000 in
theorem rm2 (l : Launch) (Z : State) (a0 : Array Value) (hw : ∀ d ∈ tables_1, d.before a0 Z = true) (ws : List Jvm.Cond) (a : Addr) (i9 : Int32) (mu : Int32) (pp : Int32) (mm : Int32) (fi : Int32) (d : Addr) (kd : ClassId) (z1 : Int32) (vs1 : List Value) (cs : Int32) (f9 : Value) (h0 : Heap) (n0 : Nat) (Z0 : n0 ≤ h0.size) (p_0 : Exa Z h0 a "java/lang/String") (p_1 : Fld Z h0 a "java/lang/String" "coder" "B" (.int (0 : Int32))) (p_2 : Fld Z h0 a "java/lang/String" "value" "[B" (.ref d)) (hA : Arv Z h0 d kd .byte z1 vs1 (.int (0 : Int32))) (hvs : ∀ v ∈ vs1, ∃ x, v = Value.int x) (p_5 : Sta Z h0 "java/lang/String" "COMPACT_STRINGS" "Z" (.int cs)) (hcs : ¬ cs = (0 : Int32)) (p_7 : Sta Z h0 "jdk/internal/util/Preconditions" "SIOOBE_FORMATTER" "Ljava/util/function/BiFunction;" f9) (hf9 : f9.isRef = true) (h1 : ¬ i9 < (0 : Int32)) (hm : own_in mm) (hfi : own_in fi) :
    MetFree l yy7 (head1 (Jvm.Cond.code yy7 method_4_code 6 (some .char) :: ws) rRrm2) (fun a_ U_ => a_ = #[(.ref a), (.int i9), (.int mu), (.int pp), (.int mm), (.int fi)] ∧ Z.Warmed39 U_.vm ∧ U_.heap = h0) (fun _ _ _ _ _ => True) (fun _ U_ o_ U1_ => ∃ v_ L_, o_ = .returned v_ ∧ Q2 Z a i9 mu pp mm fi d kd z1 vs1 cs f9 h0 n0 v_ U1_.heap L_ ∧ FrameEnd U_ o_ U1_ L_ rRrm2.cells rRrm2.slots) := by
  refine MetFree.of_bodySF pn_rm2 hisR ?_
  intro p e s m args below meth c s₁ Bd hml0 hP hK
  obtain ⟨rfl, hZ, hh⟩ := hP
  have hx := Bd.exec
  have hby := Bd.bytes
  have hlk : meth.locks = false := Bd.notSynchronized
  have hml : c.maxLocals = 6 := hml0
  have hown : s.vm.findClass "com/example/majra/majra/lang/ParameterKindNamedPinLaw" = some m.cls := findClass_of_methodNamed Bd.named
  have hnm := (name_of_methodNamed Bd.named Bd.method).1
  have X0 : Stand p l e rRrm2 s m #[(.ref a), (.int i9), (.int mu), (.int pp), (.int mm), (.int fi)] below meth c s₁ [] 0 0 := Stand.of_body Bd
  have e0 : s₁.heap = h0 := by rw [← hh, Bd.state]; rfl
  have N0 := Fr.nil n0
  show own_Goes p e below s (Q2 Z a i9 mu pp mm fi d kd z1 vs1 cs f9 h0 n0) rRrm2.cells rRrm2.slots s₁ (entryFrame m #[(.ref a), (.int i9), (.int mu), (.int pp), (.int mm), (.int fi)] 6)
  rw [ef_rm2 m a i9 mu pp mm fi]
  show own_Goes p e below s (Q2 Z a i9 mu pp mm fi d kd z1 vs1 cs f9 h0 n0) rRrm2.cells rRrm2.slots s₁ (mkF m 0 #[rv a, iv i9, iv mu, iv pp, iv mm, iv fi] [])
  refine own_st (fun _ kk_ => XS.iloadN X0.here hx rfl (hb hby d2_0) rfl kk_) ?_
  show own_Goes _ _ _ _ _ _ _ s₁ (mkF m 1 #[rv a, iv i9, iv mu, iv pp, iv mm, iv fi] [(.int mu)])
  rcases Classical.em (mu = (0 : Int32)) with qm | qm
  · refine own_st (fun _ kk_ => XS.ifYes X0.here hx rfl (pc0 := 1) (pc' := 12) rfl (hb hby d2_1) rfl (XT.i0_eq_t qm) (by decide) (by decide) (XS.iloadN X0.here hx rfl (hb hby d2_12) rfl (XS.aloadN X0.here hx rfl (hb hby d2_13) rfl rfl kk_))) ?_
    show own_Goes _ _ _ _ _ _ _ s₁ (mkF m 14 #[rv a, iv i9, iv mu, iv pp, iv mm, iv fi] [(.ref a), (.int i9)])
    obtain ⟨cq1, kq1, q1a, q1b, q1c⟩ := isOf hZ e0 p_0
    obtain ⟨_, _, ⟨T1, L1, k1, n1⟩, -, X1, ⟨Lc1, hQ1, l1, y1, z1⟩, st1⟩ := X0.virtualBack hx (y := yy4) (z := yy4) hown (mvT hZ (own_w hw 15 rfl)) (mvT hZ (own_w hw 16 rfl)) (notFace_of_selects (args := #[]) (mvT hZ (own_w hw 18 rfl))) (mvT hZ (own_w hw 18 rfl)) (mvT hZ (own_w hw 17 rfl)) (by decide) (backOf (W := 1) (rm3 l Z a0 hw [] (a) (d) (kd) (z1) (vs1) (cs) h0 n0 Z0 p_0 p_1 p_2 hA hvs p_5 (by assumption)) hZ (own_w hw 19 rfl) (own_w hw 5 rfl) (by decide) (by decide)) q1a q1c (g := (mkF m 14 #[rv a, iv i9, iv mu, iv pp, iv mm, iv fi] [(.ref a), (.int i9)])) rfl (by rw [hml]; rfl) (Steps.refl _) (argsL := []) (rest := [(.int i9)]) (lenOf pd_5 rfl) rfl (by show 2 * 0 + _ ≤ _; exact Nat.le_of_eq rfl) (hb hby d2_14) (fun _ _ => ⟨rfl, e0, (by decide : 0 + 0 ≤ _), (by decide : 0 + 0 ≤ _)⟩)
    dsimp only [Pt.U, Pt.locs, Pt.cells, Pt.slots] at X1 l1 y1 z1 st1 hQ1
    subst l1 y1 z1
    obtain ⟨rfl, Nq1, eq1⟩ := hQ1
    have N1 := Fr.app N0 Nq1
    refine own_st (fun _ kk_ => st1.trans kk_) ?_
    show own_Goes _ _ _ _ _ _ _ T1 (mkF m 17 #[rv a, iv i9, iv mu, iv pp, iv mm, iv fi] [(.int z1), (.int i9)])
    rcases Classical.em (i9 < z1) with ql0 | ql0
    · refine own_st (fun _ kk_ => XS.icmpNo X1.here hx rfl (hb hby d2_17) rfl (XT.ii_ge_f ql0) (XS.aloadN X1.here hx rfl (hb hby d2_20) rfl rfl (XS.iloadN X1.here hx rfl (hb hby d2_21) rfl kk_))) ?_
      show own_Goes _ _ _ _ _ _ _ T1 (mkF m 22 #[rv a, iv i9, iv mu, iv pp, iv mm, iv fi] [(.int i9), (.ref a)])
      obtain ⟨cq2, kq2, q2a, q2b, q2c⟩ := isOf hZ eq1 p_0
      obtain ⟨_, _, ⟨T2, L2, k2, n2⟩, -, X2, ⟨Lc2, hQ2, l2, y2, z2⟩, st2⟩ := X1.virtualBack hx (y := yy6) (z := yy6) hown (mvT hZ (own_w hw 28 rfl)) (mvT hZ (own_w hw 29 rfl)) (notFace_of_selects (args := #[]) (mvT hZ (own_w hw 31 rfl))) (mvT hZ (own_w hw 31 rfl)) (mvT hZ (own_w hw 30 rfl)) (by decide) (backOf (W := 0) (rm5 l Z a0 hw [] (a) (i9) (d) (kd) (z1) (vs1) (cs) f9 h0 n0 Z0 p_0 p_1 p_2 hA hvs p_5 (by assumption) p_7 (by assumption) h1 ql0) hZ (own_w hw 32 rfl) (own_w hw 5 rfl) (by decide) (by decide)) q2a q2c (g := (mkF m 22 #[rv a, iv i9, iv mu, iv pp, iv mm, iv fi] [(.int i9), (.ref a)])) rfl (by rw [hml]; rfl) (Steps.refl _) (argsL := [(.int i9)]) (rest := []) (lenOf pd_6 rfl) rfl (by show 2 * 0 + _ ≤ _; exact Nat.le_of_eq rfl) (hb hby d2_22) (fun _ _ => ⟨rfl, eq1, (by decide : 0 + 0 ≤ _), (by decide : 0 + 0 ≤ _)⟩)
      dsimp only [Pt.U, Pt.locs, Pt.cells, Pt.slots] at X2 l2 y2 z2 st2 hQ2
      subst l2 y2 z2
      obtain ⟨x2_r, rfl, Nq2, eq2, u2_0⟩ := hQ2
      have N2 := Fr.app N1 Nq2
      refine own_st (fun _ kk_ => st2.trans kk_) ?_
      show own_Goes _ _ _ _ _ _ _ T2 (mkF m 25 #[rv a, iv i9, iv mu, iv pp, iv mm, iv fi] [(.int x2_r)])
      refine own_retN X2 hx hlk (t := .char) Bd.returns (by simp) (hb hby d2_25) (by decide) (by decide) ?_
      show Q2 Z a i9 mu pp mm fi d kd z1 vs1 cs f9 h0 n0 (some (.int (nar .char x2_r))) T2.heap _
      rw [eq2]
      exact ⟨_, rfl, N2, rfl, own_inn u2_0⟩
    · refine own_st (fun _ kk_ => XS.icmpYes X1.here hx rfl (pc0 := 17) (pc' := 26) rfl (hb hby d2_17) rfl (XT.ii_ge_t ql0) (by decide) (by decide) (XS.iload X1.here hx rfl (hb hby d2_26) rfl kk_)) ?_
      show own_Goes _ _ _ _ _ _ _ T1 (mkF m 28 #[rv a, iv i9, iv mu, iv pp, iv mm, iv fi] [(.int fi)])
      refine own_retN X1 hx hlk (t := .char) Bd.returns (by simp) (hb hby d2_28) (by decide) (by decide) ?_
      show Q2 Z a i9 mu pp mm fi d kd z1 vs1 cs f9 h0 n0 (some (.int (nar .char fi))) T1.heap _
      rw [eq1]
      exact ⟨_, rfl, N1, rfl, own_inn hfi⟩
  · refine own_st (fun _ kk_ => XS.ifNo X0.here hx rfl (hb hby d2_1) rfl (XT.i0_eq_f qm) (XS.iloadN X0.here hx rfl (hb hby d2_4) rfl (XS.iloadN X0.here hx rfl (hb hby d2_5) rfl kk_))) ?_
    show own_Goes _ _ _ _ _ _ _ s₁ (mkF m 6 #[rv a, iv i9, iv mu, iv pp, iv mm, iv fi] [(.int pp), (.int i9)])
    rcases Classical.em (i9 = pp) with qp | qp
    · refine own_st (fun _ kk_ => XS.icmpNo X0.here hx rfl (hb hby d2_6) rfl (XT.ii_ne_f qp) (XS.iload X0.here hx rfl (hb hby d2_9) rfl kk_)) ?_
      show own_Goes _ _ _ _ _ _ _ s₁ (mkF m 11 #[rv a, iv i9, iv mu, iv pp, iv mm, iv fi] [(.int mm)])
      refine own_retN X0 hx hlk (t := .char) Bd.returns (by simp) (hb hby d2_11) (by decide) (by decide) ?_
      show Q2 Z a i9 mu pp mm fi d kd z1 vs1 cs f9 h0 n0 (some (.int (nar .char mm))) s₁.heap _
      rw [e0]
      exact ⟨_, rfl, N0, rfl, own_inn hm⟩
    · refine own_st (fun _ kk_ => XS.icmpYes X0.here hx rfl (pc0 := 6) (pc' := 12) rfl (hb hby d2_6) rfl (XT.ii_ne_t qp) (by decide) (by decide) (XS.iloadN X0.here hx rfl (hb hby d2_12) rfl (XS.aloadN X0.here hx rfl (hb hby d2_13) rfl rfl kk_))) ?_
      show own_Goes _ _ _ _ _ _ _ s₁ (mkF m 14 #[rv a, iv i9, iv mu, iv pp, iv mm, iv fi] [(.ref a), (.int i9)])
      obtain ⟨cq3, kq3, q3a, q3b, q3c⟩ := isOf hZ e0 p_0
      obtain ⟨_, _, ⟨T3, L3, k3, n3⟩, -, X3, ⟨Lc3, hQ3, l3, y3, z3⟩, st3⟩ := X0.virtualBack hx (y := yy4) (z := yy4) hown (mvT hZ (own_w hw 15 rfl)) (mvT hZ (own_w hw 16 rfl)) (notFace_of_selects (args := #[]) (mvT hZ (own_w hw 18 rfl))) (mvT hZ (own_w hw 18 rfl)) (mvT hZ (own_w hw 17 rfl)) (by decide) (backOf (W := 1) (rm3 l Z a0 hw [] (a) (d) (kd) (z1) (vs1) (cs) h0 n0 Z0 p_0 p_1 p_2 hA hvs p_5 (by assumption)) hZ (own_w hw 19 rfl) (own_w hw 5 rfl) (by decide) (by decide)) q3a q3c (g := (mkF m 14 #[rv a, iv i9, iv mu, iv pp, iv mm, iv fi] [(.ref a), (.int i9)])) rfl (by rw [hml]; rfl) (Steps.refl _) (argsL := []) (rest := [(.int i9)]) (lenOf pd_5 rfl) rfl (by show 2 * 0 + _ ≤ _; exact Nat.le_of_eq rfl) (hb hby d2_14) (fun _ _ => ⟨rfl, e0, (by decide : 0 + 0 ≤ _), (by decide : 0 + 0 ≤ _)⟩)
      dsimp only [Pt.U, Pt.locs, Pt.cells, Pt.slots] at X3 l3 y3 z3 st3 hQ3
      subst l3 y3 z3
      obtain ⟨rfl, Nq3, eq3⟩ := hQ3
      have N3 := Fr.app N0 Nq3
      refine own_st (fun _ kk_ => st3.trans kk_) ?_
      show own_Goes _ _ _ _ _ _ _ T3 (mkF m 17 #[rv a, iv i9, iv mu, iv pp, iv mm, iv fi] [(.int z1), (.int i9)])
      rcases Classical.em (i9 < z1) with ql1 | ql1
      · refine own_st (fun _ kk_ => XS.icmpNo X3.here hx rfl (hb hby d2_17) rfl (XT.ii_ge_f ql1) (XS.aloadN X3.here hx rfl (hb hby d2_20) rfl rfl (XS.iloadN X3.here hx rfl (hb hby d2_21) rfl kk_))) ?_
        show own_Goes _ _ _ _ _ _ _ T3 (mkF m 22 #[rv a, iv i9, iv mu, iv pp, iv mm, iv fi] [(.int i9), (.ref a)])
        obtain ⟨cq4, kq4, q4a, q4b, q4c⟩ := isOf hZ eq3 p_0
        obtain ⟨_, _, ⟨T4, L4, k4, n4⟩, -, X4, ⟨Lc4, hQ4, l4, y4, z4⟩, st4⟩ := X3.virtualBack hx (y := yy6) (z := yy6) hown (mvT hZ (own_w hw 28 rfl)) (mvT hZ (own_w hw 29 rfl)) (notFace_of_selects (args := #[]) (mvT hZ (own_w hw 31 rfl))) (mvT hZ (own_w hw 31 rfl)) (mvT hZ (own_w hw 30 rfl)) (by decide) (backOf (W := 0) (rm5 l Z a0 hw [] (a) (i9) (d) (kd) (z1) (vs1) (cs) f9 h0 n0 Z0 p_0 p_1 p_2 hA hvs p_5 (by assumption) p_7 (by assumption) h1 ql1) hZ (own_w hw 32 rfl) (own_w hw 5 rfl) (by decide) (by decide)) q4a q4c (g := (mkF m 22 #[rv a, iv i9, iv mu, iv pp, iv mm, iv fi] [(.int i9), (.ref a)])) rfl (by rw [hml]; rfl) (Steps.refl _) (argsL := [(.int i9)]) (rest := []) (lenOf pd_6 rfl) rfl (by show 2 * 0 + _ ≤ _; exact Nat.le_of_eq rfl) (hb hby d2_22) (fun _ _ => ⟨rfl, eq3, (by decide : 0 + 0 ≤ _), (by decide : 0 + 0 ≤ _)⟩)
        dsimp only [Pt.U, Pt.locs, Pt.cells, Pt.slots] at X4 l4 y4 z4 st4 hQ4
        subst l4 y4 z4
        obtain ⟨x4_r, rfl, Nq4, eq4, u4_0⟩ := hQ4
        have N4 := Fr.app N3 Nq4
        refine own_st (fun _ kk_ => st4.trans kk_) ?_
        show own_Goes _ _ _ _ _ _ _ T4 (mkF m 25 #[rv a, iv i9, iv mu, iv pp, iv mm, iv fi] [(.int x4_r)])
        refine own_retN X4 hx hlk (t := .char) Bd.returns (by simp) (hb hby d2_25) (by decide) (by decide) ?_
        show Q2 Z a i9 mu pp mm fi d kd z1 vs1 cs f9 h0 n0 (some (.int (nar .char x4_r))) T4.heap _
        rw [eq4]
        exact ⟨_, rfl, N4, rfl, own_inn u4_0⟩
      · refine own_st (fun _ kk_ => XS.icmpYes X3.here hx rfl (pc0 := 17) (pc' := 26) rfl (hb hby d2_17) rfl (XT.ii_ge_t ql1) (by decide) (by decide) (XS.iload X3.here hx rfl (hb hby d2_26) rfl kk_)) ?_
        show own_Goes _ _ _ _ _ _ _ T3 (mkF m 28 #[rv a, iv i9, iv mu, iv pp, iv mm, iv fi] [(.int fi)])
        refine own_retN X3 hx hlk (t := .char) Bd.returns (by simp) (hb hby d2_28) (by decide) (by decide) ?_
        show Q2 Z a i9 mu pp mm fi d kd z1 vs1 cs f9 h0 n0 (some (.int (nar .char fi))) T3.heap _
        rw [eq3]
        exact ⟨_, rfl, N3, rfl, own_inn hfi⟩
abbrev rRrm1_0 : Room := { frames := 0, cells := 2, slots := 16, locals := 0 }
theorem d1_0 : decode method_3_code 0 = .ok (.iload_n 0, 1) := by decide +kernel
theorem d1_1 : decode method_3_code 1 = .ok (.ifCond .ne 6, 3) := by decide +kernel
theorem d1_4 : decode method_3_code 4 = .ok (.ldc 30, 2) := by decide +kernel
theorem d1_6 : decode method_3_code 6 = .ok (.areturn, 1) := by decide +kernel
theorem pn_rm1_0 : plainFor yy8 = true := by first | exact plainFor_of_name (by first | (simp [plainName, overriddenIn]; done) | decide +kernel) | decide +kernel
theorem ef_rm1_0 (m : MethodId) : entryFrame m #[(.int (0 : Int32))] 1 = (mkF m 0 #[iv (0 : Int32)] []) := by first | (simp [entryFrame, mkF, argsToLocals, Value.category]; done) | rfl
def Q1_0 (Z : State) (h0 : Heap) (n0 : Nat) (v_ : Option Value) (h_ : Heap) (L_ : List Loc) : Prop := ∃ y : Addr, ∃ d : Addr, ∃ kd : ClassId, (v_ = some (.ref y)) ∧ (Fr n0 L_) ∧ (Keep h0 h_ []) ∧ (Exa Z h_ y "java/lang/String") ∧ (Fld Z h_ y "java/lang/String" "coder" "B" (.int (0 : Int32))) ∧ (Fld Z h_ y "java/lang/String" "value" "[B" (.ref d)) ∧ (Arv Z h_ d kd .byte (3 : Int32) [(.int (105 : Int32)), (.int (110 : Int32)), (.int (116 : Int32))] (.int (0 : Int32)))
set_option maxRecDepth 65536 in
set_option maxHeartbeats 40000000 in
theorem rm1_0 (l : Launch) (Z : State) (a0 : Array Value) (hw : ∀ d ∈ tables_1, d.before a0 Z = true) (ws : List Jvm.Cond) (hEL : EW Z a0 consts_1) (h0 : Heap) (n0 : Nat) (Z0 : n0 ≤ h0.size) :
    MetFree l yy8 (head1 (Jvm.Cond.code yy8 method_3_code 1 (some (.object "java/lang/String")) :: ws) rRrm1_0) (fun a_ U_ => a_ = #[(.int (0 : Int32))] ∧ Z.Warmed39 U_.vm ∧ U_.heap = h0 ∧ CHv Z consts_1 U_.vm h0 ∧ ∀ x_ ∈ ([] : List Addr), Safe Z consts_1 U_.vm h0 x_) (fun _ _ _ _ _ => True) (fun _ U_ o_ U1_ => ∃ v_ L_, o_ = .returned v_ ∧ Q1_0 Z h0 n0 v_ U1_.heap L_ ∧ CHr Z consts_1 U_.vm U_.heap U1_.vm U1_.heap ∧ ReturnedEndW U_ o_ U1_ L_ rRrm1_0.cells rRrm1_0.slots) := by
  refine MetFree.of_bodySF pn_rm1_0 hisR ?_
  intro p e s m args below meth c s₁ Bd hml0 hP hK
  obtain ⟨rfl, hZ, hh, hCH, hSf⟩ := hP
  have hx := Bd.exec
  have hby := Bd.bytes
  have hlk : meth.locks = false := Bd.notSynchronized
  have hml : c.maxLocals = 1 := hml0
  have hown : s.vm.findClass "com/example/majra/majra/lang/ParameterKindNamedPinLaw" = some m.cls := findClass_of_methodNamed Bd.named
  have hnm := (name_of_methodNamed Bd.named Bd.method).1
  have X0 : Stand p l e rRrm1_0 (s.setVm s.vm) m #[(.int (0 : Int32))] below meth c s₁ [] 0 0 := Stand.of_body Bd
  have e0 : s₁.heap = h0 := by rw [← hh, Bd.state]; rfl
  have N0 := Fr.nil n0
  have hS0 : s.Since s.vm n0 := (State.WarmedH.refl s).since n0
  have wS : ∀ d ∈ Bundle.stringAtoms, d.before a0 Z = true := by
    intro d hd
    simp only [Bundle.stringAtoms, List.mem_cons, List.not_mem_nil, or_false] at hd
    rcases hd with rfl | rfl | rfl | rfl | rfl | rfl | rfl
    · exact (own_w hw 5 rfl)
    · exact (own_w hw 6 rfl)
    · exact (own_w hw 7 rfl)
    · exact (own_w hw 8 rfl)
    · exact (own_w hw 9 rfl)
    · exact (own_w hw 10 rfl)
    · exact (own_w hw 11 rfl)
  have C0 := CHr.refl hCH
  show own_GoesH p e below s Z consts_1 (Q1_0 Z h0 n0) rRrm1_0.cells rRrm1_0.slots s₁ (entryFrame m #[(.int (0 : Int32))] 1)
  rw [ef_rm1_0 m]
  show own_GoesH p e below s Z consts_1 (Q1_0 Z h0 n0) rRrm1_0.cells rRrm1_0.slots s₁ (mkF m 0 #[iv (0 : Int32)] [])
  refine own_stH (fun _ kk_ => XS.iloadN X0.here hx rfl (hb hby d1_0) rfl (XS.ifNo X0.here hx rfl (hb hby d1_1) rfl (XT.i0_ne_f (by decide)) kk_)) ?_
  show own_GoesH _ _ _ _ _ _ _ _ _ s₁ (mkF m 4 #[iv (0 : Int32)] [])
  obtain ⟨b1, T1, h1, k1, d1, kc1, X1, e1, E1, hS1, Ka1, hZ, hown, Ex1, Fc1, Fv1, Av1, -, -, hC1, -, hsa1, st1⟩ := ldcCH X0 hx hZ hown (own_w hw 4 rfl) wS e0 hS0 Z0 hEL (List.mem_of_getElem? (i := 0) rfl) C0.1 (vs := [(.int (105 : Int32)), (.int (110 : Int32)), (.int (116 : Int32))]) (z := (3 : Int32)) ⟨by decide, by decide⟩ (by decide) (by decide) (g := (mkF m 4 #[iv (0 : Int32)] [])) rfl (hb hby d1_4) (n := 12) (by decide) (by decide) (by decide) (by decide)
  have C1 := C0.trans hC1
  have Zs1 : n0 ≤ h1.size := Nat.le_trans Z0 E1.1
  have K1 := (Keep.refl h0 []).ext E1
  have Ks1 := Nat.le_trans Z0 E1.1
  refine own_stH st1 ?_
  show own_GoesH _ _ _ _ _ _ _ _ _ T1 (mkF m 6 #[iv (0 : Int32)] [(.ref b1)])
  refine own_endH (v := (some (.ref b1))) X1 hlk hS1 (by rw [e1]; exact Ka1) hZ hEL hh e1 C1 (fun h => by rw [Bd.returns] at h; cases h) (by decide) (by decide) ?_ (fun fs hr => retOut X1 hx Bd.returns (own_narR rfl) (Or.inr (Or.inr (Or.inr (Or.inr ⟨rfl, rfl, rfl⟩)))) (hb hby d1_6) hr)
  show Q1_0 Z h0 n0 (some (.ref b1)) T1.heap _
  rw [e1]
  exact ⟨b1, d1, kc1, rfl, N0, K1, Ex1, Fc1, Fv1, Av1⟩
abbrev rRrm1_1 : Room := { frames := 0, cells := 2, slots := 24, locals := 0 }
theorem d1_7 : decode method_3_code 7 = .ok (.iload_n 0, 1) := by decide +kernel
theorem d1_8 : decode method_3_code 8 = .ok (.iconst 1, 1) := by decide +kernel
theorem d1_9 : decode method_3_code 9 = .ok (.if_icmp .ne 6, 3) := by decide +kernel
theorem d1_12 : decode method_3_code 12 = .ok (.ldc 32, 2) := by decide +kernel
theorem d1_14 : decode method_3_code 14 = .ok (.areturn, 1) := by decide +kernel
theorem pn_rm1_1 : plainFor yy8 = true := by first | exact plainFor_of_name (by first | (simp [plainName, overriddenIn]; done) | decide +kernel) | decide +kernel
theorem ef_rm1_1 (m : MethodId) : entryFrame m #[(.int (1 : Int32))] 1 = (mkF m 0 #[iv (1 : Int32)] []) := by first | (simp [entryFrame, mkF, argsToLocals, Value.category]; done) | rfl
def Q1_1 (Z : State) (h0 : Heap) (n0 : Nat) (v_ : Option Value) (h_ : Heap) (L_ : List Loc) : Prop := ∃ y : Addr, ∃ d : Addr, ∃ kd : ClassId, (v_ = some (.ref y)) ∧ (Fr n0 L_) ∧ (Keep h0 h_ []) ∧ (Exa Z h_ y "java/lang/String") ∧ (Fld Z h_ y "java/lang/String" "coder" "B" (.int (0 : Int32))) ∧ (Fld Z h_ y "java/lang/String" "value" "[B" (.ref d)) ∧ (Arv Z h_ d kd .byte (5 : Int32) [(.int (102 : Int32)), (.int (108 : Int32)), (.int (111 : Int32)), (.int (97 : Int32)), (.int (116 : Int32))] (.int (0 : Int32)))
set_option maxRecDepth 65536 in
set_option maxHeartbeats 40000000 in
theorem rm1_1 (l : Launch) (Z : State) (a0 : Array Value) (hw : ∀ d ∈ tables_1, d.before a0 Z = true) (ws : List Jvm.Cond) (hEL : EW Z a0 consts_1) (h0 : Heap) (n0 : Nat) (Z0 : n0 ≤ h0.size) :
    MetFree l yy8 (head1 (Jvm.Cond.code yy8 method_3_code 1 (some (.object "java/lang/String")) :: ws) rRrm1_1) (fun a_ U_ => a_ = #[(.int (1 : Int32))] ∧ Z.Warmed39 U_.vm ∧ U_.heap = h0 ∧ CHv Z consts_1 U_.vm h0 ∧ ∀ x_ ∈ ([] : List Addr), Safe Z consts_1 U_.vm h0 x_) (fun _ _ _ _ _ => True) (fun _ U_ o_ U1_ => ∃ v_ L_, o_ = .returned v_ ∧ Q1_1 Z h0 n0 v_ U1_.heap L_ ∧ CHr Z consts_1 U_.vm U_.heap U1_.vm U1_.heap ∧ ReturnedEndW U_ o_ U1_ L_ rRrm1_1.cells rRrm1_1.slots) := by
  refine MetFree.of_bodySF pn_rm1_1 hisR ?_
  intro p e s m args below meth c s₁ Bd hml0 hP hK
  obtain ⟨rfl, hZ, hh, hCH, hSf⟩ := hP
  have hx := Bd.exec
  have hby := Bd.bytes
  have hlk : meth.locks = false := Bd.notSynchronized
  have hml : c.maxLocals = 1 := hml0
  have hown : s.vm.findClass "com/example/majra/majra/lang/ParameterKindNamedPinLaw" = some m.cls := findClass_of_methodNamed Bd.named
  have hnm := (name_of_methodNamed Bd.named Bd.method).1
  have X0 : Stand p l e rRrm1_1 (s.setVm s.vm) m #[(.int (1 : Int32))] below meth c s₁ [] 0 0 := Stand.of_body Bd
  have e0 : s₁.heap = h0 := by rw [← hh, Bd.state]; rfl
  have N0 := Fr.nil n0
  have hS0 : s.Since s.vm n0 := (State.WarmedH.refl s).since n0
  have wS : ∀ d ∈ Bundle.stringAtoms, d.before a0 Z = true := by
    intro d hd
    simp only [Bundle.stringAtoms, List.mem_cons, List.not_mem_nil, or_false] at hd
    rcases hd with rfl | rfl | rfl | rfl | rfl | rfl | rfl
    · exact (own_w hw 5 rfl)
    · exact (own_w hw 6 rfl)
    · exact (own_w hw 7 rfl)
    · exact (own_w hw 8 rfl)
    · exact (own_w hw 9 rfl)
    · exact (own_w hw 10 rfl)
    · exact (own_w hw 11 rfl)
  have C0 := CHr.refl hCH
  show own_GoesH p e below s Z consts_1 (Q1_1 Z h0 n0) rRrm1_1.cells rRrm1_1.slots s₁ (entryFrame m #[(.int (1 : Int32))] 1)
  rw [ef_rm1_1 m]
  show own_GoesH p e below s Z consts_1 (Q1_1 Z h0 n0) rRrm1_1.cells rRrm1_1.slots s₁ (mkF m 0 #[iv (1 : Int32)] [])
  refine own_stH (fun _ kk_ => XS.iloadN X0.here hx rfl (hb hby d1_0) rfl (XS.ifYes X0.here hx rfl (pc0 := 1) (pc' := 7) rfl (hb hby d1_1) rfl (XT.i0_ne_t (by decide)) (by decide) (by decide) (XS.iloadN X0.here hx rfl (hb hby d1_7) rfl (XS.iconst X0.here hx rfl (hb hby d1_8) (XS.icmpNo X0.here hx rfl (hb hby d1_9) rfl (XT.ii_ne_f (by decide)) kk_))))) ?_
  show own_GoesH _ _ _ _ _ _ _ _ _ s₁ (mkF m 12 #[iv (1 : Int32)] [])
  obtain ⟨b1, T1, h1, k1, d1, kc1, X1, e1, E1, hS1, Ka1, hZ, hown, Ex1, Fc1, Fv1, Av1, -, -, hC1, -, hsa1, st1⟩ := ldcCH X0 hx hZ hown (own_w hw 115 rfl) wS e0 hS0 Z0 hEL (List.mem_of_getElem? (i := 1) rfl) C0.1 (vs := [(.int (102 : Int32)), (.int (108 : Int32)), (.int (111 : Int32)), (.int (97 : Int32)), (.int (116 : Int32))]) (z := (5 : Int32)) ⟨by decide, by decide⟩ (by decide) (by decide) (g := (mkF m 12 #[iv (1 : Int32)] [])) rfl (hb hby d1_12) (n := 20) (by decide) (by decide) (by decide) (by decide)
  have C1 := C0.trans hC1
  have Zs1 : n0 ≤ h1.size := Nat.le_trans Z0 E1.1
  have K1 := (Keep.refl h0 []).ext E1
  have Ks1 := Nat.le_trans Z0 E1.1
  refine own_stH st1 ?_
  show own_GoesH _ _ _ _ _ _ _ _ _ T1 (mkF m 14 #[iv (1 : Int32)] [(.ref b1)])
  refine own_endH (v := (some (.ref b1))) X1 hlk hS1 (by rw [e1]; exact Ka1) hZ hEL hh e1 C1 (fun h => by rw [Bd.returns] at h; cases h) (by decide) (by decide) ?_ (fun fs hr => retOut X1 hx Bd.returns (own_narR rfl) (Or.inr (Or.inr (Or.inr (Or.inr ⟨rfl, rfl, rfl⟩)))) (hb hby d1_14) hr)
  show Q1_1 Z h0 n0 (some (.ref b1)) T1.heap _
  rw [e1]
  exact ⟨b1, d1, kc1, rfl, N0, K1, Ex1, Fc1, Fv1, Av1⟩
abbrev rRrm1_2 : Room := { frames := 0, cells := 2, slots := 32, locals := 0 }
theorem d1_15 : decode method_3_code 15 = .ok (.iload_n 0, 1) := by decide +kernel
theorem d1_16 : decode method_3_code 16 = .ok (.iconst 2, 1) := by decide +kernel
theorem d1_17 : decode method_3_code 17 = .ok (.if_icmp .ne 6, 3) := by decide +kernel
theorem d1_20 : decode method_3_code 20 = .ok (.ldc 34, 2) := by decide +kernel
theorem d1_22 : decode method_3_code 22 = .ok (.areturn, 1) := by decide +kernel
theorem pn_rm1_2 : plainFor yy8 = true := by first | exact plainFor_of_name (by first | (simp [plainName, overriddenIn]; done) | decide +kernel) | decide +kernel
theorem ef_rm1_2 (m : MethodId) : entryFrame m #[(.int (2 : Int32))] 1 = (mkF m 0 #[iv (2 : Int32)] []) := by first | (simp [entryFrame, mkF, argsToLocals, Value.category]; done) | rfl
def Q1_2 (Z : State) (h0 : Heap) (n0 : Nat) (v_ : Option Value) (h_ : Heap) (L_ : List Loc) : Prop := ∃ y : Addr, ∃ d : Addr, ∃ kd : ClassId, (v_ = some (.ref y)) ∧ (Fr n0 L_) ∧ (Keep h0 h_ []) ∧ (Exa Z h_ y "java/lang/String") ∧ (Fld Z h_ y "java/lang/String" "coder" "B" (.int (0 : Int32))) ∧ (Fld Z h_ y "java/lang/String" "value" "[B" (.ref d)) ∧ (Arv Z h_ d kd .byte (7 : Int32) [(.int (98 : Int32)), (.int (111 : Int32)), (.int (111 : Int32)), (.int (108 : Int32)), (.int (101 : Int32)), (.int (97 : Int32)), (.int (110 : Int32))] (.int (0 : Int32)))
set_option maxRecDepth 65536 in
set_option maxHeartbeats 40000000 in
theorem rm1_2 (l : Launch) (Z : State) (a0 : Array Value) (hw : ∀ d ∈ tables_1, d.before a0 Z = true) (ws : List Jvm.Cond) (hEL : EW Z a0 consts_1) (h0 : Heap) (n0 : Nat) (Z0 : n0 ≤ h0.size) :
    MetFree l yy8 (head1 (Jvm.Cond.code yy8 method_3_code 1 (some (.object "java/lang/String")) :: ws) rRrm1_2) (fun a_ U_ => a_ = #[(.int (2 : Int32))] ∧ Z.Warmed39 U_.vm ∧ U_.heap = h0 ∧ CHv Z consts_1 U_.vm h0 ∧ ∀ x_ ∈ ([] : List Addr), Safe Z consts_1 U_.vm h0 x_) (fun _ _ _ _ _ => True) (fun _ U_ o_ U1_ => ∃ v_ L_, o_ = .returned v_ ∧ Q1_2 Z h0 n0 v_ U1_.heap L_ ∧ CHr Z consts_1 U_.vm U_.heap U1_.vm U1_.heap ∧ ReturnedEndW U_ o_ U1_ L_ rRrm1_2.cells rRrm1_2.slots) := by
  refine MetFree.of_bodySF pn_rm1_2 hisR ?_
  intro p e s m args below meth c s₁ Bd hml0 hP hK
  obtain ⟨rfl, hZ, hh, hCH, hSf⟩ := hP
  have hx := Bd.exec
  have hby := Bd.bytes
  have hlk : meth.locks = false := Bd.notSynchronized
  have hml : c.maxLocals = 1 := hml0
  have hown : s.vm.findClass "com/example/majra/majra/lang/ParameterKindNamedPinLaw" = some m.cls := findClass_of_methodNamed Bd.named
  have hnm := (name_of_methodNamed Bd.named Bd.method).1
  have X0 : Stand p l e rRrm1_2 (s.setVm s.vm) m #[(.int (2 : Int32))] below meth c s₁ [] 0 0 := Stand.of_body Bd
  have e0 : s₁.heap = h0 := by rw [← hh, Bd.state]; rfl
  have N0 := Fr.nil n0
  have hS0 : s.Since s.vm n0 := (State.WarmedH.refl s).since n0
  have wS : ∀ d ∈ Bundle.stringAtoms, d.before a0 Z = true := by
    intro d hd
    simp only [Bundle.stringAtoms, List.mem_cons, List.not_mem_nil, or_false] at hd
    rcases hd with rfl | rfl | rfl | rfl | rfl | rfl | rfl
    · exact (own_w hw 5 rfl)
    · exact (own_w hw 6 rfl)
    · exact (own_w hw 7 rfl)
    · exact (own_w hw 8 rfl)
    · exact (own_w hw 9 rfl)
    · exact (own_w hw 10 rfl)
    · exact (own_w hw 11 rfl)
  have C0 := CHr.refl hCH
  show own_GoesH p e below s Z consts_1 (Q1_2 Z h0 n0) rRrm1_2.cells rRrm1_2.slots s₁ (entryFrame m #[(.int (2 : Int32))] 1)
  rw [ef_rm1_2 m]
  show own_GoesH p e below s Z consts_1 (Q1_2 Z h0 n0) rRrm1_2.cells rRrm1_2.slots s₁ (mkF m 0 #[iv (2 : Int32)] [])
  refine own_stH (fun _ kk_ => XS.iloadN X0.here hx rfl (hb hby d1_0) rfl (XS.ifYes X0.here hx rfl (pc0 := 1) (pc' := 7) rfl (hb hby d1_1) rfl (XT.i0_ne_t (by decide)) (by decide) (by decide) (XS.iloadN X0.here hx rfl (hb hby d1_7) rfl (XS.iconst X0.here hx rfl (hb hby d1_8) (XS.icmpYes X0.here hx rfl (pc0 := 9) (pc' := 15) rfl (hb hby d1_9) rfl (XT.ii_ne_t (by decide)) (by decide) (by decide) (XS.iloadN X0.here hx rfl (hb hby d1_15) rfl (XS.iconst X0.here hx rfl (hb hby d1_16) (XS.icmpNo X0.here hx rfl (hb hby d1_17) rfl (XT.ii_ne_f (by decide)) kk_)))))))) ?_
  show own_GoesH _ _ _ _ _ _ _ _ _ s₁ (mkF m 20 #[iv (2 : Int32)] [])
  obtain ⟨b1, T1, h1, k1, d1, kc1, X1, e1, E1, hS1, Ka1, hZ, hown, Ex1, Fc1, Fv1, Av1, -, -, hC1, -, hsa1, st1⟩ := ldcCH X0 hx hZ hown (own_w hw 116 rfl) wS e0 hS0 Z0 hEL (List.mem_of_getElem? (i := 2) rfl) C0.1 (vs := [(.int (98 : Int32)), (.int (111 : Int32)), (.int (111 : Int32)), (.int (108 : Int32)), (.int (101 : Int32)), (.int (97 : Int32)), (.int (110 : Int32))]) (z := (7 : Int32)) ⟨by decide, by decide⟩ (by decide) (by decide) (g := (mkF m 20 #[iv (2 : Int32)] [])) rfl (hb hby d1_20) (n := 28) (by decide) (by decide) (by decide) (by decide)
  have C1 := C0.trans hC1
  have Zs1 : n0 ≤ h1.size := Nat.le_trans Z0 E1.1
  have K1 := (Keep.refl h0 []).ext E1
  have Ks1 := Nat.le_trans Z0 E1.1
  refine own_stH st1 ?_
  show own_GoesH _ _ _ _ _ _ _ _ _ T1 (mkF m 22 #[iv (2 : Int32)] [(.ref b1)])
  refine own_endH (v := (some (.ref b1))) X1 hlk hS1 (by rw [e1]; exact Ka1) hZ hEL hh e1 C1 (fun h => by rw [Bd.returns] at h; cases h) (by decide) (by decide) ?_ (fun fs hr => retOut X1 hx Bd.returns (own_narR rfl) (Or.inr (Or.inr (Or.inr (Or.inr ⟨rfl, rfl, rfl⟩)))) (hb hby d1_22) hr)
  show Q1_2 Z h0 n0 (some (.ref b1)) T1.heap _
  rw [e1]
  exact ⟨b1, d1, kc1, rfl, N0, K1, Ex1, Fc1, Fv1, Av1⟩
abbrev rRrm1_3 : Room := { frames := 0, cells := 2, slots := 28, locals := 0 }
theorem d1_23 : decode method_3_code 23 = .ok (.ldc 36, 2) := by decide +kernel
theorem d1_25 : decode method_3_code 25 = .ok (.areturn, 1) := by decide +kernel
theorem pn_rm1_3 : plainFor yy8 = true := by first | exact plainFor_of_name (by first | (simp [plainName, overriddenIn]; done) | decide +kernel) | decide +kernel
theorem ef_rm1_3 (m : MethodId) : entryFrame m #[(.int (3 : Int32))] 1 = (mkF m 0 #[iv (3 : Int32)] []) := by first | (simp [entryFrame, mkF, argsToLocals, Value.category]; done) | rfl
def Q1_3 (Z : State) (h0 : Heap) (n0 : Nat) (v_ : Option Value) (h_ : Heap) (L_ : List Loc) : Prop := ∃ y : Addr, ∃ d : Addr, ∃ kd : ClassId, (v_ = some (.ref y)) ∧ (Fr n0 L_) ∧ (Keep h0 h_ []) ∧ (Exa Z h_ y "java/lang/String") ∧ (Fld Z h_ y "java/lang/String" "coder" "B" (.int (0 : Int32))) ∧ (Fld Z h_ y "java/lang/String" "value" "[B" (.ref d)) ∧ (Arv Z h_ d kd .byte (6 : Int32) [(.int (115 : Int32)), (.int (116 : Int32)), (.int (114 : Int32)), (.int (105 : Int32)), (.int (110 : Int32)), (.int (103 : Int32))] (.int (0 : Int32)))
set_option maxRecDepth 65536 in
set_option maxHeartbeats 40000000 in
theorem rm1_3 (l : Launch) (Z : State) (a0 : Array Value) (hw : ∀ d ∈ tables_1, d.before a0 Z = true) (ws : List Jvm.Cond) (hEL : EW Z a0 consts_1) (h0 : Heap) (n0 : Nat) (Z0 : n0 ≤ h0.size) :
    MetFree l yy8 (head1 (Jvm.Cond.code yy8 method_3_code 1 (some (.object "java/lang/String")) :: ws) rRrm1_3) (fun a_ U_ => a_ = #[(.int (3 : Int32))] ∧ Z.Warmed39 U_.vm ∧ U_.heap = h0 ∧ CHv Z consts_1 U_.vm h0 ∧ ∀ x_ ∈ ([] : List Addr), Safe Z consts_1 U_.vm h0 x_) (fun _ _ _ _ _ => True) (fun _ U_ o_ U1_ => ∃ v_ L_, o_ = .returned v_ ∧ Q1_3 Z h0 n0 v_ U1_.heap L_ ∧ CHr Z consts_1 U_.vm U_.heap U1_.vm U1_.heap ∧ ReturnedEndW U_ o_ U1_ L_ rRrm1_3.cells rRrm1_3.slots) := by
  refine MetFree.of_bodySF pn_rm1_3 hisR ?_
  intro p e s m args below meth c s₁ Bd hml0 hP hK
  obtain ⟨rfl, hZ, hh, hCH, hSf⟩ := hP
  have hx := Bd.exec
  have hby := Bd.bytes
  have hlk : meth.locks = false := Bd.notSynchronized
  have hml : c.maxLocals = 1 := hml0
  have hown : s.vm.findClass "com/example/majra/majra/lang/ParameterKindNamedPinLaw" = some m.cls := findClass_of_methodNamed Bd.named
  have hnm := (name_of_methodNamed Bd.named Bd.method).1
  have X0 : Stand p l e rRrm1_3 (s.setVm s.vm) m #[(.int (3 : Int32))] below meth c s₁ [] 0 0 := Stand.of_body Bd
  have e0 : s₁.heap = h0 := by rw [← hh, Bd.state]; rfl
  have N0 := Fr.nil n0
  have hS0 : s.Since s.vm n0 := (State.WarmedH.refl s).since n0
  have wS : ∀ d ∈ Bundle.stringAtoms, d.before a0 Z = true := by
    intro d hd
    simp only [Bundle.stringAtoms, List.mem_cons, List.not_mem_nil, or_false] at hd
    rcases hd with rfl | rfl | rfl | rfl | rfl | rfl | rfl
    · exact (own_w hw 5 rfl)
    · exact (own_w hw 6 rfl)
    · exact (own_w hw 7 rfl)
    · exact (own_w hw 8 rfl)
    · exact (own_w hw 9 rfl)
    · exact (own_w hw 10 rfl)
    · exact (own_w hw 11 rfl)
  have C0 := CHr.refl hCH
  show own_GoesH p e below s Z consts_1 (Q1_3 Z h0 n0) rRrm1_3.cells rRrm1_3.slots s₁ (entryFrame m #[(.int (3 : Int32))] 1)
  rw [ef_rm1_3 m]
  show own_GoesH p e below s Z consts_1 (Q1_3 Z h0 n0) rRrm1_3.cells rRrm1_3.slots s₁ (mkF m 0 #[iv (3 : Int32)] [])
  refine own_stH (fun _ kk_ => XS.iloadN X0.here hx rfl (hb hby d1_0) rfl (XS.ifYes X0.here hx rfl (pc0 := 1) (pc' := 7) rfl (hb hby d1_1) rfl (XT.i0_ne_t (by decide)) (by decide) (by decide) (XS.iloadN X0.here hx rfl (hb hby d1_7) rfl (XS.iconst X0.here hx rfl (hb hby d1_8) (XS.icmpYes X0.here hx rfl (pc0 := 9) (pc' := 15) rfl (hb hby d1_9) rfl (XT.ii_ne_t (by decide)) (by decide) (by decide) (XS.iloadN X0.here hx rfl (hb hby d1_15) rfl (XS.iconst X0.here hx rfl (hb hby d1_16) (XS.icmpYes X0.here hx rfl (pc0 := 17) (pc' := 23) rfl (hb hby d1_17) rfl (XT.ii_ne_t (by decide)) (by decide) (by decide) kk_)))))))) ?_
  show own_GoesH _ _ _ _ _ _ _ _ _ s₁ (mkF m 23 #[iv (3 : Int32)] [])
  obtain ⟨b1, T1, h1, k1, d1, kc1, X1, e1, E1, hS1, Ka1, hZ, hown, Ex1, Fc1, Fv1, Av1, -, -, hC1, -, hsa1, st1⟩ := ldcCH X0 hx hZ hown (own_w hw 114 rfl) wS e0 hS0 Z0 hEL (List.mem_of_getElem? (i := 3) rfl) C0.1 (vs := [(.int (115 : Int32)), (.int (116 : Int32)), (.int (114 : Int32)), (.int (105 : Int32)), (.int (110 : Int32)), (.int (103 : Int32))]) (z := (6 : Int32)) ⟨by decide, by decide⟩ (by decide) (by decide) (g := (mkF m 23 #[iv (3 : Int32)] [])) rfl (hb hby d1_23) (n := 24) (by decide) (by decide) (by decide) (by decide)
  have C1 := C0.trans hC1
  have Zs1 : n0 ≤ h1.size := Nat.le_trans Z0 E1.1
  have K1 := (Keep.refl h0 []).ext E1
  have Ks1 := Nat.le_trans Z0 E1.1
  refine own_stH st1 ?_
  show own_GoesH _ _ _ _ _ _ _ _ _ T1 (mkF m 25 #[iv (3 : Int32)] [(.ref b1)])
  refine own_endH (v := (some (.ref b1))) X1 hlk hS1 (by rw [e1]; exact Ka1) hZ hEL hh e1 C1 (fun h => by rw [Bd.returns] at h; cases h) (by decide) (by decide) ?_ (fun fs hr => retOut X1 hx Bd.returns (own_narR rfl) (Or.inr (Or.inr (Or.inr (Or.inr ⟨rfl, rfl, rfl⟩)))) (hb hby d1_25) hr)
  show Q1_3 Z h0 n0 (some (.ref b1)) T1.heap _
  rw [e1]
  exact ⟨b1, d1, kc1, rfl, N0, K1, Ex1, Fc1, Fv1, Av1⟩
abbrev rRrmCv0 : Room := { frames := 1, cells := 4, slots := 8, locals := 12 }
theorem d12_0 : decode jdk_42_method_149_code 0 = .ok (.aload_n 0, 1) := by decide +kernel
theorem d12_1 : decode jdk_42_method_149_code 1 = .ok (.invokespecial 1, 3) := by decide +kernel
theorem d12_4 : decode jdk_42_method_149_code 4 = .ok (.iload_n 3, 1) := by decide +kernel
theorem d12_5 : decode jdk_42_method_149_code 5 = .ok (.ifCond .ne 22, 3) := by decide +kernel
theorem d12_8 : decode jdk_42_method_149_code 8 = .ok (.aload_n 0, 1) := by decide +kernel
theorem d12_9 : decode jdk_42_method_149_code 9 = .ok (.ldc 7, 2) := by decide +kernel
theorem d12_11 : decode jdk_42_method_149_code 11 = .ok (.getfield 9, 3) := by decide +kernel
theorem d12_14 : decode jdk_42_method_149_code 14 = .ok (.putfield 9, 3) := by decide +kernel
theorem d12_17 : decode jdk_42_method_149_code 17 = .ok (.aload_n 0, 1) := by decide +kernel
theorem d12_18 : decode jdk_42_method_149_code 18 = .ok (.ldc 7, 2) := by decide +kernel
theorem d12_20 : decode jdk_42_method_149_code 20 = .ok (.getfield 15, 3) := by decide +kernel
theorem d12_23 : decode jdk_42_method_149_code 23 = .ok (.putfield 15, 3) := by decide +kernel
theorem d12_26 : decode jdk_42_method_149_code 26 = .ok (.return_, 1) := by decide +kernel
theorem pn_rmCv0 : plainFor yy9 = true := by first | exact plainFor_of_name (by first | (simp [plainName, overriddenIn]; done) | decide +kernel) | decide +kernel
theorem ef_rmCv0 (m : MethodId) (s9 : Addr) (ca : Addr) : entryFrame m #[(.ref s9), (.ref ca), (.int (0 : Int32)), (.int (0 : Int32)), .null] 6 = (mkF m 0 #[rv s9, rv ca, iv (0 : Int32), iv (0 : Int32), .val .null, .unset] []) := by first | (simp [entryFrame, mkF, argsToLocals, Value.category]; done) | rfl
def QCv0 (Z : State) (s9 : Addr) (ca : Addr) (kc : ClassId) (h0 : Heap) (n0 : Nat) (v_ : Option Value) (h_ : Heap) (L_ : List Loc) : Prop := ∃ d : Addr, ∃ kd : ClassId, (v_ = none) ∧ (Fr n0 L_) ∧ (Keep h0 h_ [s9]) ∧ (Fld Z h_ s9 "java/lang/String" "coder" "B" (.int (0 : Int32))) ∧ (Fld Z h_ s9 "java/lang/String" "value" "[B" (.ref d)) ∧ (Arv Z h_ d kd .byte (0 : Int32) [] (.int (0 : Int32)))
set_option maxRecDepth 65536 in
set_option maxHeartbeats 40000000 in
theorem rmCv0 (l : Launch) (Z : State) (a0 : Array Value) (hw : ∀ d ∈ tables_1, d.before a0 Z = true) (ws : List Jvm.Cond) (hEL : EW Z a0 consts_1) (s9 : Addr) (ca : Addr) (kc : ClassId) (h0 : Heap) (n0 : Nat) (Z0 : n0 ≤ h0.size) (p_0 : Exa Z h0 s9 "java/lang/String") (p_1 : Fld Z h0 s9 "java/lang/String" "value" "[B" .null) (p_2 : Fld Z h0 s9 "java/lang/String" "coder" "B" (.int (0 : Int32))) (p_3 : n0 ≤ s9) (p_4 : Arv Z h0 ca kc .char (0 : Int32) [] (.int (0 : Int32))) :
    MetFree l yy9 (head1 (Jvm.Cond.code yy9 jdk_42_method_149_code 6 none :: ws) rRrmCv0) (fun a_ U_ => a_ = #[(.ref s9), (.ref ca), (.int (0 : Int32)), (.int (0 : Int32)), .null] ∧ Z.Warmed39 U_.vm ∧ U_.heap = h0 ∧ CHv Z consts_1 U_.vm h0 ∧ ∀ x_ ∈ ([s9] : List Addr), Safe Z consts_1 U_.vm h0 x_) (fun _ _ _ _ _ => True) (fun _ U_ o_ U1_ => ∃ v_ L_, o_ = .returned v_ ∧ QCv0 Z s9 ca kc h0 n0 v_ U1_.heap L_ ∧ CHr Z consts_1 U_.vm U_.heap U1_.vm U1_.heap ∧ ReturnedEndW U_ o_ U1_ L_ rRrmCv0.cells rRrmCv0.slots) := by
  refine MetFree.of_bodySF pn_rmCv0 hisR ?_
  intro p e s m args below meth c s₁ Bd hml0 hP hK
  obtain ⟨rfl, hZ, hh, hCH, hSf⟩ := hP
  have hx := Bd.exec
  have hby := Bd.bytes
  have hlk : meth.locks = false := Bd.notSynchronized
  have hml : c.maxLocals = 6 := hml0
  have hown : s.vm.findClass "java/lang/String" = some m.cls := findClass_of_methodNamed Bd.named
  have hnm := (name_of_methodNamed Bd.named Bd.method).1
  have X0 : Stand p l e rRrmCv0 (s.setVm s.vm) m #[(.ref s9), (.ref ca), (.int (0 : Int32)), (.int (0 : Int32)), .null] below meth c s₁ [] 0 0 := Stand.of_body Bd
  have e0 : s₁.heap = h0 := by rw [← hh, Bd.state]; rfl
  have N0 := Fr.nil n0
  have hS0 : s.Since s.vm n0 := (State.WarmedH.refl s).since n0
  have wS : ∀ d ∈ Bundle.stringAtoms, d.before a0 Z = true := by
    intro d hd
    simp only [Bundle.stringAtoms, List.mem_cons, List.not_mem_nil, or_false] at hd
    rcases hd with rfl | rfl | rfl | rfl | rfl | rfl | rfl
    · exact (own_w hw 5 rfl)
    · exact (own_w hw 6 rfl)
    · exact (own_w hw 7 rfl)
    · exact (own_w hw 8 rfl)
    · exact (own_w hw 9 rfl)
    · exact (own_w hw 10 rfl)
    · exact (own_w hw 11 rfl)
  have C0 := CHr.refl hCH
  have sf_s9 := hSf s9 (List.mem_of_getElem? (i := 0) rfl)
  show own_GoesH p e below s Z consts_1 (QCv0 Z s9 ca kc h0 n0) rRrmCv0.cells rRrmCv0.slots s₁ (entryFrame m #[(.ref s9), (.ref ca), (.int (0 : Int32)), (.int (0 : Int32)), .null] 6)
  rw [ef_rmCv0 m s9 ca]
  show own_GoesH p e below s Z consts_1 (QCv0 Z s9 ca kc h0 n0) rRrmCv0.cells rRrmCv0.slots s₁ (mkF m 0 #[rv s9, rv ca, iv (0 : Int32), iv (0 : Int32), .val .null, .unset] [])
  refine own_stH (fun _ kk_ => XS.aloadN X0.here hx rfl (hb hby d12_0) rfl rfl kk_) ?_
  show own_GoesH _ _ _ _ _ _ _ _ _ s₁ (mkF m 1 #[rv s9, rv ca, iv (0 : Int32), iv (0 : Int32), .val .null, .unset] [(.ref s9)])
  obtain ⟨T1, X1, e1, st1⟩ := initO X0 hx hZ hown (own_w hw 62 rfl) (own_w hw 63 rfl) (own_w hw 64 rfl) e0 (g := (mkF m 1 #[rv s9, rv ca, iv (0 : Int32), iv (0 : Int32), .val .null, .unset] [(.ref s9)])) rfl (by rw [hml]; rfl) rfl (hb hby d12_1) (by decide) (W := 0) (by show 2 * 0 + _ ≤ _; exact Nat.le_of_eq rfl) (by decide)
  refine own_stH st1 ?_
  show own_GoesH _ _ _ _ _ _ _ _ _ T1 (mkF m 4 #[rv s9, rv ca, iv (0 : Int32), iv (0 : Int32), .val .null, .unset] [])
  refine own_stH (fun _ kk_ => XS.iloadN X1.here hx rfl (hb hby d12_4) rfl (XS.ifNo X1.here hx rfl (hb hby d12_5) rfl (XT.i0_ne_f (by decide)) (XS.aloadN X1.here hx rfl (hb hby d12_8) rfl rfl kk_))) ?_
  show own_GoesH _ _ _ _ _ _ _ _ _ T1 (mkF m 9 #[rv s9, rv ca, iv (0 : Int32), iv (0 : Int32), .val .null, .unset] [(.ref s9)])
  obtain ⟨b2, T2, h2, k2, d2, kc2, X2, e2, E2, hS2, Ka2, hZ, hown, Ex2, Fc2, Fv2, Av2, -, -, hC2, -, hsa2, st2⟩ := ldcCH X1 hx hZ hown (own_w hw 117 rfl) wS e1 hS0 Z0 hEL (List.mem_of_getElem? (i := 4) rfl) C0.1 (vs := []) (z := (0 : Int32)) ⟨by decide, by decide⟩ (by decide) (by decide) (g := (mkF m 9 #[rv s9, rv ca, iv (0 : Int32), iv (0 : Int32), .val .null, .unset] [(.ref s9)])) rfl (hb hby d12_9) (n := 0) (by decide) (by decide) (by decide) (by decide)
  have f2_0 := p_0.ext E2
  have f2_1 := p_1.ext E2
  have f2_2 := p_2.ext E2
  have f2_3 := p_4.ext E2
  have f2_4 := CHr.safe hC2 p_0.lt sf_s9
  have C2 := C0.trans hC2
  have Zs2 : n0 ≤ h2.size := Nat.le_trans Z0 E2.1
  have K2 := (Keep.refl h0 [s9]).ext E2
  have Ks2 := Nat.le_trans Z0 E2.1
  have nl2_s9 := hsa2 s9 f2_4
  have nl2_ca := hsa2 ca (Safe.arv hZ.alike f2_3 (by decide))
  refine own_stH st2 ?_
  show own_GoesH _ _ _ _ _ _ _ _ _ T2 (mkF m 11 #[rv s9, rv ca, iv (0 : Int32), iv (0 : Int32), .val .null, .unset] [(.ref b2), (.ref s9)])
  obtain ⟨T3, X3, e3, st3⟩ := getF X2 hx hZ hown (host := "") (Or.inl (own_w hw 20 rfl)) Via.refl e2 Fv2 (g := (mkF m 11 #[rv s9, rv ca, iv (0 : Int32), iv (0 : Int32), .val .null, .unset] [(.ref b2), (.ref s9)])) rfl rfl (hb hby d12_11)
  refine own_stH st3 ?_
  show own_GoesH _ _ _ _ _ _ _ _ _ T3 (mkF m 14 #[rv s9, rv ca, iv (0 : Int32), iv (0 : Int32), .val .null, .unset] [(.ref d2), (.ref s9)])
  obtain ⟨T4, h4, X4, e4, W4, st4⟩ := putF X3 hx hZ hown (host := "") (Or.inl (own_w hw 20 rfl)) Via.refl e3 f2_1 f2_0 (Or.inr ⟨(own_w hw 8 rfl), rfl, hnm⟩) (own_w hw 6 rfl) (ty := (.array .byte)) (by decide) rfl rfl (g := (mkF m 14 #[rv s9, rv ca, iv (0 : Int32), iv (0 : Int32), .val .null, .unset] [(.ref d2), (.ref s9)])) rfl rfl (hb hby d12_14)
  have fw4 : Fld Z h4 s9 "java/lang/String" "value" "[B" (.ref d2) := f2_1.same W4
  have f4_0 := f2_0.wr W4
  have f4_2 := f2_2.other W4 (Or.inr (slot_ne (Or.inr (own_w hw 9 rfl)) (Or.inr (own_w hw 8 rfl)) (by decide) (t := .byte) (t' := (.array .byte)) (by decide) (by decide)))
  have f4_4 := Safe.wr W4 f2_4 C2.1 f2_4
  have f4_5 := Ex2.wr W4
  have f4_6 := Fc2.other W4 (Or.inl (Ne.symm nl2_s9.1))
  have f4_7 := Fv2.other W4 (Or.inl (Ne.symm nl2_s9.1))
  have f4_8 := Av2.other W4 (Ne.symm nl2_s9.2)
  have C4 := C2.trans (CHr.wr W4 f2_4 C2.1)
  have Zs4 : n0 ≤ h4.size := Nat.le_trans Zs2 (Nat.le_of_eq W4.size.symm)
  have K4 := K2.wr W4 (Or.inl (List.mem_of_getElem? (i := 0) rfl))
  have Ks4 := Nat.le_trans Ka2 (Nat.le_of_eq W4.size.symm)
  have N4 := Fr.snoc X4 N0 p_3
  refine own_stH st4 ?_
  show own_GoesH _ _ _ _ _ _ _ _ _ T4 (mkF m 17 #[rv s9, rv ca, iv (0 : Int32), iv (0 : Int32), .val .null, .unset] [])
  refine own_stH (fun _ kk_ => XS.aloadN X4.here hx rfl (hb hby d12_17) rfl rfl kk_) ?_
  show own_GoesH _ _ _ _ _ _ _ _ _ T4 (mkF m 18 #[rv s9, rv ca, iv (0 : Int32), iv (0 : Int32), .val .null, .unset] [(.ref s9)])
  obtain ⟨b5, T5, h5, k5, d5, kc5, X5, e5, E5, hS5, Ka5, hZ, hown, Ex5, Fc5, Fv5, Av5, -, -, hC5, -, hsa5, st5⟩ := ldcCH X4 hx hZ hown (own_w hw 117 rfl) wS e4 hS2 Ks4 hEL (List.mem_of_getElem? (i := 4) rfl) C4.1 (vs := []) (z := (0 : Int32)) ⟨by decide, by decide⟩ (by decide) (by decide) (g := (mkF m 18 #[rv s9, rv ca, iv (0 : Int32), iv (0 : Int32), .val .null, .unset] [(.ref s9)])) rfl (hb hby d12_18) (n := 0) (by decide) (by decide) (by decide) (by decide)
  have f5_0 := f4_0.ext E5
  have f5_1 := f4_2.ext E5
  have f5_2 := CHr.safe hC5 f4_0.lt f4_4
  have f5_3 := f4_5.ext E5
  have f5_4 := f4_6.ext E5
  have f5_5 := f4_7.ext E5
  have f5_6 := f4_8.ext E5
  have f5_7 := fw4.ext E5
  have C5 := C4.trans hC5
  have Zs5 : n0 ≤ h5.size := Nat.le_trans Zs4 E5.1
  have K5 := K4.ext E5
  have Ks5 := Nat.le_trans Ks4 E5.1
  have nl5_s9 := hsa5 s9 f5_2
  refine own_stH st5 ?_
  show own_GoesH _ _ _ _ _ _ _ _ _ T5 (mkF m 20 #[rv s9, rv ca, iv (0 : Int32), iv (0 : Int32), .val .null, .unset] [(.ref b5), (.ref s9)])
  obtain ⟨T6, X6, e6, st6⟩ := getF X5 hx hZ hown (host := "") (Or.inl (own_w hw 27 rfl)) Via.refl e5 Fc5 (g := (mkF m 20 #[rv s9, rv ca, iv (0 : Int32), iv (0 : Int32), .val .null, .unset] [(.ref b5), (.ref s9)])) rfl rfl (hb hby d12_20)
  refine own_stH st6 ?_
  show own_GoesH _ _ _ _ _ _ _ _ _ T6 (mkF m 23 #[rv s9, rv ca, iv (0 : Int32), iv (0 : Int32), .val .null, .unset] [(.int (0 : Int32)), (.ref s9)])
  obtain ⟨T7, h7, X7, e7, W7, st7⟩ := putFN X6 hx hZ hown (own_w hw 27 rfl) Via.refl e6 f5_1 f5_0 (Or.inr ⟨(own_w hw 9 rfl), rfl, hnm⟩) (own_w hw 6 rfl) (ty := .byte) (v' := (.int (nar .byte (0 : Int32)))) (by decide) rfl (fits_nar_byte _) (g := (mkF m 23 #[rv s9, rv ca, iv (0 : Int32), iv (0 : Int32), .val .null, .unset] [(.int (0 : Int32)), (.ref s9)])) rfl rfl (hb hby d12_23)
  have fw7 : Fld Z h7 s9 "java/lang/String" "coder" "B" (.int (nar .byte (0 : Int32))) := f5_1.same W7
  have f7_0 := f5_0.wr W7
  have f7_2 := Safe.wr W7 f5_2 C5.1 f5_2
  have f7_3 := f5_3.wr W7
  have f7_4 := f5_4.other W7 (Or.inl (Ne.symm nl2_s9.1))
  have f7_5 := f5_5.other W7 (Or.inl (Ne.symm nl2_s9.1))
  have f7_6 := f5_6.other W7 (Ne.symm nl2_s9.2)
  have f7_7 := f5_7.other W7 (Or.inr (slot_ne (Or.inr (own_w hw 8 rfl)) (Or.inr (own_w hw 9 rfl)) (by decide) (t := (.array .byte)) (t' := .byte) (by decide) (by decide)))
  have f7_8 := Ex5.wr W7
  have f7_9 := Fc5.other W7 (Or.inl (Ne.symm nl5_s9.1))
  have f7_10 := Fv5.other W7 (Or.inl (Ne.symm nl5_s9.1))
  have f7_11 := Av5.other W7 (Ne.symm nl5_s9.2)
  have C7 := C5.trans (CHr.wr W7 f5_2 C5.1)
  have Zs7 : n0 ≤ h7.size := Nat.le_trans Zs5 (Nat.le_of_eq W7.size.symm)
  have K7 := K5.wr W7 (Or.inl (List.mem_of_getElem? (i := 0) rfl))
  have Ks7 := Nat.le_trans Ka5 (Nat.le_of_eq W7.size.symm)
  have N7 := Fr.snoc X7 N4 p_3
  refine own_stH st7 ?_
  show own_GoesH _ _ _ _ _ _ _ _ _ T7 (mkF m 26 #[rv s9, rv ca, iv (0 : Int32), iv (0 : Int32), .val .null, .unset] [])
  refine own_endH (v := none) X7 hlk hS5 (by rw [e7]; exact Ks7) hZ hEL hh e7 C7 (fun _ => rfl) (by decide) (by decide) ?_ (fun fs hr => X7.returnOut hx Bd.returns (hb hby d12_26) hr)
  show QCv0 Z s9 ca kc h0 n0 none T7.heap _
  rw [e7]
  exact ⟨d2, kc2, rfl, N7, K7, fw7, f7_7, f7_6⟩
abbrev rRrmCs0 : Room := { frames := 2, cells := 4, slots := 8, locals := 29 }
theorem d11_0 : decode jdk_42_method_3_code 0 = .ok (.aload_n 0, 1) := by decide +kernel
theorem d11_1 : decode jdk_42_method_3_code 1 = .ok (.aload_n 1, 1) := by decide +kernel
theorem d11_2 : decode jdk_42_method_3_code 2 = .ok (.iconst 0, 1) := by decide +kernel
theorem d11_3 : decode jdk_42_method_3_code 3 = .ok (.aload_n 1, 1) := by decide +kernel
theorem d11_4 : decode jdk_42_method_3_code 4 = .ok (.arraylength, 1) := by decide +kernel
theorem d11_5 : decode jdk_42_method_3_code 5 = .ok (.aconst_null, 1) := by decide +kernel
theorem d11_6 : decode jdk_42_method_3_code 6 = .ok (.invokespecial 27, 3) := by decide +kernel
theorem d11_9 : decode jdk_42_method_3_code 9 = .ok (.return_, 1) := by decide +kernel
theorem pd_7 : parseMethodDescriptor "([CIILjava/lang/Void;)V" = some ⟨[(.array .char), .int, .int, (.object "java/lang/Void")], none⟩ := by decide +kernel
theorem pn_rmCs0 : plainFor yy10 = true := by first | exact plainFor_of_name (by first | (simp [plainName, overriddenIn]; done) | decide +kernel) | decide +kernel
theorem ef_rmCs0 (m : MethodId) (s9 : Addr) (ca : Addr) : entryFrame m #[(.ref s9), (.ref ca)] 2 = (mkF m 0 #[rv s9, rv ca] []) := by first | (simp [entryFrame, mkF, argsToLocals, Value.category]; done) | rfl
def QCs0 (Z : State) (s9 : Addr) (ca : Addr) (kc : ClassId) (h0 : Heap) (n0 : Nat) (v_ : Option Value) (h_ : Heap) (L_ : List Loc) : Prop := ∃ d : Addr, ∃ kd : ClassId, (v_ = none) ∧ (Fr n0 L_) ∧ (Keep h0 h_ [s9]) ∧ (Fld Z h_ s9 "java/lang/String" "coder" "B" (.int (0 : Int32))) ∧ (Fld Z h_ s9 "java/lang/String" "value" "[B" (.ref d)) ∧ (Arv Z h_ d kd .byte (0 : Int32) [] (.int (0 : Int32)))
set_option maxRecDepth 65536 in
set_option maxHeartbeats 40000000 in
theorem rmCs0 (l : Launch) (Z : State) (a0 : Array Value) (hw : ∀ d ∈ tables_1, d.before a0 Z = true) (ws : List Jvm.Cond) (hEL : EW Z a0 consts_1) (s9 : Addr) (ca : Addr) (kc : ClassId) (h0 : Heap) (n0 : Nat) (Z0 : n0 ≤ h0.size) (p_0 : Exa Z h0 s9 "java/lang/String") (p_1 : Fld Z h0 s9 "java/lang/String" "value" "[B" .null) (p_2 : Fld Z h0 s9 "java/lang/String" "coder" "B" (.int (0 : Int32))) (p_3 : n0 ≤ s9) (p_4 : Arv Z h0 ca kc .char (0 : Int32) [] (.int (0 : Int32))) :
    MetFree l yy10 (head1 (Jvm.Cond.code yy10 jdk_42_method_3_code 2 none :: ws) rRrmCs0) (fun a_ U_ => a_ = #[(.ref s9), (.ref ca)] ∧ Z.Warmed39 U_.vm ∧ U_.heap = h0 ∧ CHv Z consts_1 U_.vm h0 ∧ ∀ x_ ∈ ([s9] : List Addr), Safe Z consts_1 U_.vm h0 x_) (fun _ _ _ _ _ => True) (fun _ U_ o_ U1_ => ∃ v_ L_, o_ = .returned v_ ∧ QCs0 Z s9 ca kc h0 n0 v_ U1_.heap L_ ∧ CHr Z consts_1 U_.vm U_.heap U1_.vm U1_.heap ∧ ReturnedEndW U_ o_ U1_ L_ rRrmCs0.cells rRrmCs0.slots) := by
  refine MetFree.of_bodySF pn_rmCs0 hisR ?_
  intro p e s m args below meth c s₁ Bd hml0 hP hK
  obtain ⟨rfl, hZ, hh, hCH, hSf⟩ := hP
  have hx := Bd.exec
  have hby := Bd.bytes
  have hlk : meth.locks = false := Bd.notSynchronized
  have hml : c.maxLocals = 2 := hml0
  have hown : s.vm.findClass "java/lang/String" = some m.cls := findClass_of_methodNamed Bd.named
  have hnm := (name_of_methodNamed Bd.named Bd.method).1
  have X0 : Stand p l e rRrmCs0 (s.setVm s.vm) m #[(.ref s9), (.ref ca)] below meth c s₁ [] 0 0 := Stand.of_body Bd
  have e0 : s₁.heap = h0 := by rw [← hh, Bd.state]; rfl
  have N0 := Fr.nil n0
  have hS0 : s.Since s.vm n0 := (State.WarmedH.refl s).since n0
  have wS : ∀ d ∈ Bundle.stringAtoms, d.before a0 Z = true := by
    intro d hd
    simp only [Bundle.stringAtoms, List.mem_cons, List.not_mem_nil, or_false] at hd
    rcases hd with rfl | rfl | rfl | rfl | rfl | rfl | rfl
    · exact (own_w hw 5 rfl)
    · exact (own_w hw 6 rfl)
    · exact (own_w hw 7 rfl)
    · exact (own_w hw 8 rfl)
    · exact (own_w hw 9 rfl)
    · exact (own_w hw 10 rfl)
    · exact (own_w hw 11 rfl)
  have C0 := CHr.refl hCH
  have sf_s9 := hSf s9 (List.mem_of_getElem? (i := 0) rfl)
  show own_GoesH p e below s Z consts_1 (QCs0 Z s9 ca kc h0 n0) rRrmCs0.cells rRrmCs0.slots s₁ (entryFrame m #[(.ref s9), (.ref ca)] 2)
  rw [ef_rmCs0 m s9 ca]
  show own_GoesH p e below s Z consts_1 (QCs0 Z s9 ca kc h0 n0) rRrmCs0.cells rRrmCs0.slots s₁ (mkF m 0 #[rv s9, rv ca] [])
  refine own_stH (fun _ kk_ => XS.aloadN X0.here hx rfl (hb hby d11_0) rfl rfl (XS.aloadN X0.here hx rfl (hb hby d11_1) rfl rfl (XS.iconst X0.here hx rfl (hb hby d11_2) (XS.aloadN X0.here hx rfl (hb hby d11_3) rfl rfl kk_)))) ?_
  show own_GoesH _ _ _ _ _ _ _ _ _ s₁ (mkF m 4 #[rv s9, rv ca] [(.ref ca), (.int (0 : Int32)), (.ref ca), (.ref s9)])
  obtain ⟨cl1, Ar1, -, Sz1, Nn1, -, -⟩ := id p_4
  refine own_stH (fun _ kk_ => X0.arraylength hx (by rw [e0]; exact Ar1.1) (State.isArrayOf_alike hZ.alike Ar1.2.1) (g := (mkF m 4 #[rv s9, rv ca] [(.ref ca), (.int (0 : Int32)), (.ref ca), (.ref s9)])) rfl rfl (hb hby d11_4) _ kk_) ?_
  rw [len_of Sz1 Nn1]
  show own_GoesH _ _ _ _ _ _ _ _ _ s₁ (mkF m 5 #[rv s9, rv ca] [(.int (0 : Int32)), (.int (0 : Int32)), (.ref ca), (.ref s9)])
  refine own_stH (fun _ kk_ => XS.aconstNull X0.here hx rfl (hb hby d11_5) kk_) ?_
  show own_GoesH _ _ _ _ _ _ _ _ _ s₁ (mkF m 6 #[rv s9, rv ca] [.null, (.int (0 : Int32)), (.int (0 : Int32)), (.ref ca), (.ref s9)])
  obtain ⟨_, _, ⟨T2, L2, k2, n2⟩, -, X2, hSn2, hgn2, ⟨Lc2, hQ2, l2, y2, z2, hC2⟩, st2⟩ := X0.specialBackS hx (y := yy9) rfl hown (mvT hZ (own_w hw 58 rfl)) (mvT hZ (own_w hw 59 rfl)) (mvT hZ (own_w hw 61 rfl)) (by decide) (own_backH (sl := [s9]) (W := 0) (rmCv0 l Z a0 hw [] hEL (s9) (ca) (kc) h0 n0 Z0 p_0 p_1 p_2 p_3 p_4) hZ (own_w hw 61 rfl) (own_w hw 5 rfl) (by decide) (by decide) hEL C0.1 (own_ss p_0.lt sf_s9 own_sn)) (g := (mkF m 6 #[rv s9, rv ca] [.null, (.int (0 : Int32)), (.int (0 : Int32)), (.ref ca), (.ref s9)])) rfl (by rw [hml]; rfl) (Steps.refl _) (a := s9) (argsL := [(.ref ca), (.int (0 : Int32)), (.int (0 : Int32)), .null]) (rest := []) (lenOf pd_7 rfl) rfl (by show 2 * 0 + _ ≤ _; exact Nat.le_of_eq rfl) (hb hby d11_6) (fun _ _ => ⟨rfl, e0, (by decide : 0 + 4 ≤ _), (by decide : 0 + 8 ≤ _)⟩)
  dsimp only [Pt.U, Pt.locs, Pt.cells, Pt.slots] at X2 l2 y2 z2 st2 hQ2 hSn2 hgn2 hC2
  subst l2 y2 z2
  have X2 : Stand p l e rRrmCs0 (s.setVm T2.vm) m _ below meth c T2 _ _ _ := X2
  have hS2 := foldS hS0 (by rw [e0]; exact Z0) hSn2 hgn2
  have hown : (s.setVm T2.vm).vm.findClass "java/lang/String" = some m.cls := by rw [show (s.setVm T2.vm).vm = T2.vm from rfl, hSn2.1.alike.findClass]; exact hown
  obtain ⟨x2_d, x2_kd, rfl, Nq2, Kq2, u2_0, u2_1, u2_2⟩ := hQ2
  have N2 := Fr.app N0 Nq2
  have hZ : Z.Warmed39 (s.setVm T2.vm).vm := State.Warmed39.trans (t := (s.setVm s.vm)) hZ hSn2.1
  have f2_0 := p_0.keep Kq2
  have f2_4 := CHr.safe hC2 p_0.lt sf_s9
  have C2 := C0.trans hC2
  have Ks2 := Nat.le_trans Z0 Kq2.1
  have Zs2 : n0 ≤ T2.heap.size := Nat.le_trans Z0 Kq2.1
  have K2 := (Keep.refl h0 [s9]).trans Kq2 (allS (Or.inl (List.mem_of_getElem? (i := 0) rfl)) all0)
  refine own_stH (fun _ kk_ => st2.trans kk_) ?_
  show own_GoesH _ _ _ _ _ _ _ _ _ T2 (mkF m 9 #[rv s9, rv ca] [])
  refine own_endH (v := none) X2 hlk hS2 (Nat.le_refl T2.heap.size) hZ hEL hh rfl C2 (fun _ => rfl) (by decide) (by decide) ?_ (fun fs hr => X2.returnOut hx Bd.returns (hb hby d11_9) hr)
  show QCs0 Z s9 ca kc h0 n0 none T2.heap _
  exact ⟨x2_d, x2_kd, rfl, N2, K2, u2_0, u2_1, u2_2⟩
theorem own_hws {a0 : Array Value} {Z : State} (hw : ∀ d ∈ tables_1, d.before a0 Z = true) : ∀ d ∈ StrChars.Road.words, d.before a0 Z = true := fun d hd => hw d ((by decide +kernel : ∀ d ∈ StrChars.Road.words, d ∈ tables_1) d hd)
theorem own_hp {c : Int32} (h : own_in c) : ¬ nar .char c < 0 ∧ ¬ (255 : Int32) < nar .char c := by
  refine ⟨?_, own_255 h⟩
  rw [own_narc h]; unfold own_in at h; simp only [Int32.lt_iff_toInt_lt, Int32.reduceToInt]; omega
abbrev rRrm10_0 : Room := { frames := 3, cells := 6, slots := 12, locals := 43 }
theorem d10_0 : decode method_5_code 0 = .ok (.iload_n 0, 1) := by decide +kernel
theorem d10_1 : decode method_5_code 1 = .ok (.ifCond .ne 14, 3) := by decide +kernel
theorem d10_4 : decode method_5_code 4 = .ok (.new 39, 3) := by decide +kernel
theorem d10_7 : decode method_5_code 7 = .ok (.dup, 1) := by decide +kernel
theorem d10_8 : decode method_5_code 8 = .ok (.iconst 0, 1) := by decide +kernel
theorem d10_9 : decode method_5_code 9 = .ok (.newarray .char, 2) := by decide +kernel
theorem d10_11 : decode method_5_code 11 = .ok (.invokespecial 48, 3) := by decide +kernel
theorem d10_14 : decode method_5_code 14 = .ok (.areturn, 1) := by decide +kernel
theorem pd_8 : parseMethodDescriptor "([C)V" = some ⟨[(.array .char)], none⟩ := by decide +kernel
theorem pn_rm10_0 : plainFor yy11 = true := by first | exact plainFor_of_name (by first | (simp [plainName, overriddenIn]; done) | decide +kernel) | decide +kernel
theorem ef_rm10_0 (m : MethodId) (c0 : Int32) (c1 : Int32) (c2 : Int32) (c3 : Int32) (c4 : Int32) (c5 : Int32) (c6 : Int32) : entryFrame m #[(.int (0 : Int32)), (.int c0), (.int c1), (.int c2), (.int c3), (.int c4), (.int c5), (.int c6)] 8 = (mkF m 0 #[iv (0 : Int32), iv c0, iv c1, iv c2, iv c3, iv c4, iv c5, iv c6] []) := by first | (simp [entryFrame, mkF, argsToLocals, Value.category]; done) | rfl
def Q10_0 (Z : State) (c0 : Int32) (c1 : Int32) (c2 : Int32) (c3 : Int32) (c4 : Int32) (c5 : Int32) (c6 : Int32) (cs : Int32) (h0 : Heap) (n0 : Nat) (v_ : Option Value) (h_ : Heap) (L_ : List Loc) : Prop := ∃ y : Addr, ∃ d : Addr, ∃ kd : ClassId, (v_ = some (.ref y)) ∧ (Fr n0 L_) ∧ (Keep h0 h_ []) ∧ (h0.size ≤ y) ∧ (Exa Z h_ y "java/lang/String") ∧ (Fld Z h_ y "java/lang/String" "coder" "B" (.int (0 : Int32))) ∧ (Fld Z h_ y "java/lang/String" "value" "[B" (.ref d)) ∧ (Arv Z h_ d kd .byte (0 : Int32) [] (.int (0 : Int32)))
set_option maxRecDepth 65536 in
set_option maxHeartbeats 40000000 in
theorem rm10_0 (l : Launch) (Z : State) (a0 : Array Value) (hw : ∀ d ∈ tables_1, d.before a0 Z = true) (ws : List Jvm.Cond) (hEL : EW Z a0 consts_1) (c0 : Int32) (c1 : Int32) (c2 : Int32) (c3 : Int32) (c4 : Int32) (c5 : Int32) (c6 : Int32) (cs : Int32) (h0 : Heap) (n0 : Nat) (Z0 : n0 ≤ h0.size) (p_0 : Sta Z h0 "java/lang/String" "COMPACT_STRINGS" "Z" (.int cs)) (hcs : ¬ cs = (0 : Int32)) :
    MetFree l yy11 (head1 (Jvm.Cond.code yy11 method_5_code 8 (some (.object "java/lang/String")) :: ws) rRrm10_0) (fun a_ U_ => a_ = #[(.int (0 : Int32)), (.int c0), (.int c1), (.int c2), (.int c3), (.int c4), (.int c5), (.int c6)] ∧ Z.Warmed39 U_.vm ∧ U_.heap = h0 ∧ CHv Z consts_1 U_.vm h0 ∧ ∀ x_ ∈ ([] : List Addr), Safe Z consts_1 U_.vm h0 x_) (fun _ _ _ _ _ => True) (fun _ U_ o_ U1_ => ∃ v_ L_, o_ = .returned v_ ∧ Q10_0 Z c0 c1 c2 c3 c4 c5 c6 cs h0 n0 v_ U1_.heap L_ ∧ CHr Z consts_1 U_.vm U_.heap U1_.vm U1_.heap ∧ ReturnedEndW U_ o_ U1_ L_ rRrm10_0.cells rRrm10_0.slots) := by
  refine MetFree.of_bodySF pn_rm10_0 hisR ?_
  intro p e s m args below meth c s₁ Bd hml0 hP hK
  obtain ⟨rfl, hZ, hh, hCH, hSf⟩ := hP
  have hx := Bd.exec
  have hby := Bd.bytes
  have hlk : meth.locks = false := Bd.notSynchronized
  have hml : c.maxLocals = 8 := hml0
  have hown : s.vm.findClass "com/example/majra/majra/lang/ParameterKindNamedPinLaw" = some m.cls := findClass_of_methodNamed Bd.named
  have hnm := (name_of_methodNamed Bd.named Bd.method).1
  have X0 : Stand p l e rRrm10_0 (s.setVm s.vm) m #[(.int (0 : Int32)), (.int c0), (.int c1), (.int c2), (.int c3), (.int c4), (.int c5), (.int c6)] below meth c s₁ [] 0 0 := Stand.of_body Bd
  have e0 : s₁.heap = h0 := by rw [← hh, Bd.state]; rfl
  have N0 := Fr.nil n0
  have hS0 : s.Since s.vm n0 := (State.WarmedH.refl s).since n0
  have wS : ∀ d ∈ Bundle.stringAtoms, d.before a0 Z = true := by
    intro d hd
    simp only [Bundle.stringAtoms, List.mem_cons, List.not_mem_nil, or_false] at hd
    rcases hd with rfl | rfl | rfl | rfl | rfl | rfl | rfl
    · exact (own_w hw 5 rfl)
    · exact (own_w hw 6 rfl)
    · exact (own_w hw 7 rfl)
    · exact (own_w hw 8 rfl)
    · exact (own_w hw 9 rfl)
    · exact (own_w hw 10 rfl)
    · exact (own_w hw 11 rfl)
  have C0 := CHr.refl hCH
  show own_GoesH p e below s Z consts_1 (Q10_0 Z c0 c1 c2 c3 c4 c5 c6 cs h0 n0) rRrm10_0.cells rRrm10_0.slots s₁ (entryFrame m #[(.int (0 : Int32)), (.int c0), (.int c1), (.int c2), (.int c3), (.int c4), (.int c5), (.int c6)] 8)
  rw [ef_rm10_0 m c0 c1 c2 c3 c4 c5 c6]
  show own_GoesH p e below s Z consts_1 (Q10_0 Z c0 c1 c2 c3 c4 c5 c6 cs h0 n0) rRrm10_0.cells rRrm10_0.slots s₁ (mkF m 0 #[iv (0 : Int32), iv c0, iv c1, iv c2, iv c3, iv c4, iv c5, iv c6] [])
  refine own_stH (fun _ kk_ => XS.iloadN X0.here hx rfl (hb hby d10_0) rfl (XS.ifNo X0.here hx rfl (hb hby d10_1) rfl (XT.i0_ne_f (by decide)) kk_)) ?_
  show own_GoesH _ _ _ _ _ _ _ _ _ s₁ (mkF m 4 #[iv (0 : Int32), iv c0, iv c1, iv c2, iv c3, iv c4, iv c5, iv c6] [])
  obtain ⟨T1, h1, X1, e1, E1, A1, D1, -, st1⟩ := newO X0 hx hZ hown (own_w hw 53 rfl) (own_w hw 6 rfl) (own_w hw 5 rfl) e0 (g := (mkF m 4 #[iv (0 : Int32), iv c0, iv c1, iv c2, iv c3, iv c4, iv c5, iv c6] [])) rfl (hb hby d10_4) (by decide) (by decide)
  obtain ⟨b1, gx1⟩ : ∃ z, z = h0.size := ⟨_, rfl⟩
  rw [← gx1] at A1 D1 st1
  have gg1 : n0 ≤ b1 := Nat.le_trans Z0 (Nat.le_of_eq gx1.symm)
  have sz1 : h0.size ≤ b1 := Nat.le_trans (Keep.refl h0 []).1 (Nat.le_of_eq gx1.symm)
  have f1_0 := p_0.ext E1
  have C1 := C0.trans (CHr.ext E1 C0.1)
  have Zs1 : n0 ≤ h1.size := Nat.le_trans Z0 E1.1
  have K1 := (Keep.refl h0 []).ext E1
  have Ks1 := Nat.le_trans Z0 E1.1
  have sf1 := Safe.ext E1 C0.1 (Safe.new (x := b1) (Nat.le_of_eq gx1.symm))
  have fn1_value : Fld Z h1 b1 "java/lang/String" "value" "[B" .null := D1 (Or.inr (own_w hw 8 rfl)) (ty := (.array .byte)) (by decide)
  have fn1_coder : Fld Z h1 b1 "java/lang/String" "coder" "B" (.int (0 : Int32)) := D1 (Or.inr (own_w hw 9 rfl)) (ty := .byte) (by decide)
  refine own_stH st1 ?_
  show own_GoesH _ _ _ _ _ _ _ _ _ T1 (mkF m 7 #[iv (0 : Int32), iv c0, iv c1, iv c2, iv c3, iv c4, iv c5, iv c6] [(.ref b1)])
  refine own_stH (fun _ kk_ => XS.dup X1.here hx rfl (hb hby d10_7) rfl rfl (XS.iconst X1.here hx rfl (hb hby d10_8) kk_)) ?_
  show own_GoesH _ _ _ _ _ _ _ _ _ T1 (mkF m 9 #[iv (0 : Int32), iv c0, iv c1, iv c2, iv c3, iv c4, iv c5, iv c6] [(.int (0 : Int32)), (.ref b1), (.ref b1)])
  obtain ⟨T2, h2, k2, X2, e2, E2, A2, st2⟩ := newP X1 hx hZ (own_w hw 54 rfl) e1 (g := (mkF m 9 #[iv (0 : Int32), iv c0, iv c1, iv c2, iv c3, iv c4, iv c5, iv c6] [(.int (0 : Int32)), (.ref b1), (.ref b1)])) rfl (hb hby d10_9) rfl (by decide) (cap := 0) (by decide) (by decide) (by decide) (by decide)
  obtain ⟨b2, gx2⟩ : ∃ z, z = h1.size := ⟨_, rfl⟩
  rw [← gx2] at A2 st2
  have ne2_b1 : b1 ≠ b2 := Nat.ne_of_lt (Nat.lt_of_lt_of_eq A1.lt gx2.symm)
  have gg2 : n0 ≤ b2 := Nat.le_trans Zs1 (Nat.le_of_eq gx2.symm)
  have sz2 : h0.size ≤ b2 := Nat.le_trans K1.1 (Nat.le_of_eq gx2.symm)
  have f2_0 := f1_0.ext E2
  have f2_1 := Safe.ext E2 C1.1 sf1
  have f2_2 := A1.ext E2
  have f2_3 := fn1_value.ext E2
  have f2_4 := fn1_coder.ext E2
  have C2 := C1.trans (CHr.ext E2 C1.1)
  have Zs2 : n0 ≤ h2.size := Nat.le_trans Zs1 E2.1
  have K2 := K1.ext E2
  have Ks2 := Nat.le_trans Ks1 E2.1
  have V2 : Arv Z h2 b2 k2 .char (0 : Int32) [] (.int (0 : Int32)) := Arv.new A2 (by decide)
  refine own_stH st2 ?_
  show own_GoesH _ _ _ _ _ _ _ _ _ T2 (mkF m 11 #[iv (0 : Int32), iv c0, iv c1, iv c2, iv c3, iv c4, iv c5, iv c6] [(.ref b2), (.ref b1), (.ref b1)])
  obtain ⟨_, _, ⟨T3, L3, k3, n3⟩, -, X3, hSn3, hgn3, ⟨Lc3, hQ3, l3, y3, z3, hC3⟩, st3⟩ := X2.specialBackS hx (y := yy10) rfl hown (mvT hZ (own_w hw 55 rfl)) (mvT hZ (own_w hw 56 rfl)) (mvT hZ (own_w hw 57 rfl)) (by decide) (own_backH (sl := [b1]) (W := 1) (rmCs0 l Z a0 hw [] hEL (b1) (b2) (k2) h2 n0 Zs2 f2_2 f2_3 f2_4 gg1 V2) hZ (own_w hw 57 rfl) (own_w hw 5 rfl) (by decide) (by decide) hEL C2.1 (own_ss f2_2.lt f2_1 own_sn)) (g := (mkF m 11 #[iv (0 : Int32), iv c0, iv c1, iv c2, iv c3, iv c4, iv c5, iv c6] [(.ref b2), (.ref b1), (.ref b1)])) rfl (by rw [hml]; rfl) (Steps.refl _) (a := b1) (argsL := [(.ref b2)]) (rest := [(.ref b1)]) (lenOf pd_8 rfl) rfl (by show 2 * 0 + _ ≤ _; exact Nat.le_of_eq rfl) (hb hby d10_11) (fun _ _ => ⟨rfl, e2, (by decide : 2 + 4 ≤ _), (by decide : 4 + 8 ≤ _)⟩)
  dsimp only [Pt.U, Pt.locs, Pt.cells, Pt.slots] at X3 l3 y3 z3 st3 hQ3 hSn3 hgn3 hC3
  subst l3 y3 z3
  have X3 : Stand p l e rRrm10_0 (s.setVm T3.vm) m _ below meth c T3 _ _ _ := X3
  have hS3 := foldS hS0 (by rw [e2]; exact Ks2) hSn3 hgn3
  have hown : (s.setVm T3.vm).vm.findClass "com/example/majra/majra/lang/ParameterKindNamedPinLaw" = some m.cls := by rw [show (s.setVm T3.vm).vm = T3.vm from rfl, hSn3.1.alike.findClass]; exact hown
  obtain ⟨x3_d, x3_kd, rfl, Nq3, Kq3, u3_0, u3_1, u3_2⟩ := hQ3
  have N3 := Fr.app N0 Nq3
  have hZ : Z.Warmed39 (s.setVm T3.vm).vm := State.Warmed39.trans (t := (s.setVm s.vm)) hZ hSn3.1
  have f3_0 := own_Sta_keep f2_0 Kq3 (nsS f2_2.nostat ns0)
  have f3_1 := CHr.safe hC3 f2_2.lt f2_1
  have f3_2 := f2_2.keep Kq3
  have f3_5 := V2.keep Kq3 (ninS (Ne.symm ne2_b1) nin0)
  have C3 := C2.trans hC3
  have Ks3 := Nat.le_trans Ks2 Kq3.1
  have Zs3 : n0 ≤ T3.heap.size := Nat.le_trans Zs2 Kq3.1
  have K3 := K2.trans Kq3 (allS (Or.inr sz1) all0)
  refine own_stH (fun _ kk_ => st3.trans kk_) ?_
  show own_GoesH _ _ _ _ _ _ _ _ _ T3 (mkF m 14 #[iv (0 : Int32), iv c0, iv c1, iv c2, iv c3, iv c4, iv c5, iv c6] [(.ref b1)])
  refine own_endH (v := (some (.ref b1))) X3 hlk hS3 (Nat.le_refl T3.heap.size) hZ hEL hh rfl C3 (fun h => by rw [Bd.returns] at h; cases h) (by decide) (by decide) ?_ (fun fs hr => retOut X3 hx Bd.returns (own_narR rfl) (Or.inr (Or.inr (Or.inr (Or.inr ⟨rfl, rfl, rfl⟩)))) (hb hby d10_14) hr)
  show Q10_0 Z c0 c1 c2 c3 c4 c5 c6 cs h0 n0 (some (.ref b1)) T3.heap _
  exact ⟨b1, x3_d, x3_kd, rfl, N3, K3, sz1, f3_2, u3_0, u3_1, u3_2⟩
abbrev rRrm10_1 : Room := { frames := 4, cells := 3, slots := 6, locals := 66 }
theorem d10_15 : decode method_5_code 15 = .ok (.iload_n 0, 1) := by decide +kernel
theorem d10_16 : decode method_5_code 16 = .ok (.iconst 1, 1) := by decide +kernel
theorem d10_17 : decode method_5_code 17 = .ok (.if_icmp .ne 18, 3) := by decide +kernel
theorem d10_20 : decode method_5_code 20 = .ok (.new 39, 3) := by decide +kernel
theorem d10_23 : decode method_5_code 23 = .ok (.dup, 1) := by decide +kernel
theorem d10_24 : decode method_5_code 24 = .ok (.iconst 1, 1) := by decide +kernel
theorem d10_25 : decode method_5_code 25 = .ok (.newarray .char, 2) := by decide +kernel
theorem d10_27 : decode method_5_code 27 = .ok (.dup, 1) := by decide +kernel
theorem d10_28 : decode method_5_code 28 = .ok (.iconst 0, 1) := by decide +kernel
theorem d10_29 : decode method_5_code 29 = .ok (.iload_n 1, 1) := by decide +kernel
theorem d10_30 : decode method_5_code 30 = .ok (.castore, 1) := by decide +kernel
theorem d10_31 : decode method_5_code 31 = .ok (.invokespecial 48, 3) := by decide +kernel
theorem d10_34 : decode method_5_code 34 = .ok (.areturn, 1) := by decide +kernel
theorem pn_rm10_1 : plainFor yy11 = true := by first | exact plainFor_of_name (by first | (simp [plainName, overriddenIn]; done) | decide +kernel) | decide +kernel
theorem ef_rm10_1 (m : MethodId) (c0 : Int32) (c1 : Int32) (c2 : Int32) (c3 : Int32) (c4 : Int32) (c5 : Int32) (c6 : Int32) : entryFrame m #[(.int (1 : Int32)), (.int c0), (.int c1), (.int c2), (.int c3), (.int c4), (.int c5), (.int c6)] 8 = (mkF m 0 #[iv (1 : Int32), iv c0, iv c1, iv c2, iv c3, iv c4, iv c5, iv c6] []) := by first | (simp [entryFrame, mkF, argsToLocals, Value.category]; done) | rfl
def Q10_1 (Z : State) (c0 : Int32) (c1 : Int32) (c2 : Int32) (c3 : Int32) (c4 : Int32) (c5 : Int32) (c6 : Int32) (cs : Int32) (h0 : Heap) (n0 : Nat) (v_ : Option Value) (h_ : Heap) (L_ : List Loc) : Prop := ∃ y : Addr, ∃ d : Addr, ∃ kd : ClassId, (v_ = some (.ref y)) ∧ (Fr n0 L_) ∧ (Keep h0 h_ []) ∧ (h0.size ≤ y) ∧ (Exa Z h_ y "java/lang/String") ∧ (Fld Z h_ y "java/lang/String" "coder" "B" (.int (0 : Int32))) ∧ (Fld Z h_ y "java/lang/String" "value" "[B" (.ref d)) ∧ (Arv Z h_ d kd .byte (1 : Int32) [(.int (own_by c0))] (.int (0 : Int32)))
set_option maxRecDepth 65536 in
set_option maxHeartbeats 40000000 in
theorem rm10_1 (l : Launch) (Z : State) (a0 : Array Value) (hw : ∀ d ∈ tables_1, d.before a0 Z = true) (ws : List Jvm.Cond) (c0 : Int32) (c1 : Int32) (c2 : Int32) (c3 : Int32) (c4 : Int32) (c5 : Int32) (c6 : Int32) (cs : Int32) (h0 : Heap) (n0 : Nat) (Z0 : n0 ≤ h0.size) (p_0 : Sta Z h0 "java/lang/String" "COMPACT_STRINGS" "Z" (.int cs)) (hcs : ¬ cs = (0 : Int32)) (hi0 : own_in c0) :
    MetFree l yy11 (head1 (Jvm.Cond.code yy11 method_5_code 8 (some (.object "java/lang/String")) :: ws) rRrm10_1) (fun a_ U_ => a_ = #[(.int (1 : Int32)), (.int c0), (.int c1), (.int c2), (.int c3), (.int c4), (.int c5), (.int c6)] ∧ Z.Warmed39 U_.vm ∧ U_.heap = h0) (fun _ _ _ _ _ => True) (fun _ U_ o_ U1_ => ∃ v_ L_, o_ = .returned v_ ∧ Q10_1 Z c0 c1 c2 c3 c4 c5 c6 cs h0 n0 v_ U1_.heap L_ ∧ FrameEnd U_ o_ U1_ L_ rRrm10_1.cells rRrm10_1.slots) := by
  refine MetFree.of_bodySF pn_rm10_1 hisR ?_
  intro p e s m args below meth c s₁ Bd hml0 hP hK
  obtain ⟨rfl, hZ, hh⟩ := hP
  have hx := Bd.exec
  have hby := Bd.bytes
  have hlk : meth.locks = false := Bd.notSynchronized
  have hml : c.maxLocals = 8 := hml0
  have hown : s.vm.findClass "com/example/majra/majra/lang/ParameterKindNamedPinLaw" = some m.cls := findClass_of_methodNamed Bd.named
  have hnm := (name_of_methodNamed Bd.named Bd.method).1
  have X0 : Stand p l e rRrm10_1 s m #[(.int (1 : Int32)), (.int c0), (.int c1), (.int c2), (.int c3), (.int c4), (.int c5), (.int c6)] below meth c s₁ [] 0 0 := Stand.of_body Bd
  have e0 : s₁.heap = h0 := by rw [← hh, Bd.state]; rfl
  have N0 := Fr.nil n0
  show own_Goes p e below s (Q10_1 Z c0 c1 c2 c3 c4 c5 c6 cs h0 n0) rRrm10_1.cells rRrm10_1.slots s₁ (entryFrame m #[(.int (1 : Int32)), (.int c0), (.int c1), (.int c2), (.int c3), (.int c4), (.int c5), (.int c6)] 8)
  rw [ef_rm10_1 m c0 c1 c2 c3 c4 c5 c6]
  show own_Goes p e below s (Q10_1 Z c0 c1 c2 c3 c4 c5 c6 cs h0 n0) rRrm10_1.cells rRrm10_1.slots s₁ (mkF m 0 #[iv (1 : Int32), iv c0, iv c1, iv c2, iv c3, iv c4, iv c5, iv c6] [])
  refine own_st (fun _ kk_ => XS.iloadN X0.here hx rfl (hb hby d10_0) rfl (XS.ifYes X0.here hx rfl (pc0 := 1) (pc' := 15) rfl (hb hby d10_1) rfl (XT.i0_ne_t (by decide)) (by decide) (by decide) (XS.iloadN X0.here hx rfl (hb hby d10_15) rfl (XS.iconst X0.here hx rfl (hb hby d10_16) (XS.icmpNo X0.here hx rfl (hb hby d10_17) rfl (XT.ii_ne_f (by decide)) kk_))))) ?_
  show own_Goes _ _ _ _ _ _ _ s₁ (mkF m 20 #[iv (1 : Int32), iv c0, iv c1, iv c2, iv c3, iv c4, iv c5, iv c6] [])
  obtain ⟨T1, h1, X1, e1, E1, A1, D1, -, st1⟩ := newO X0 hx hZ hown (own_w hw 53 rfl) (own_w hw 6 rfl) (own_w hw 5 rfl) e0 (g := (mkF m 20 #[iv (1 : Int32), iv c0, iv c1, iv c2, iv c3, iv c4, iv c5, iv c6] [])) rfl (hb hby d10_20) (by decide) (by decide)
  obtain ⟨b1, gx1⟩ : ∃ z, z = h0.size := ⟨_, rfl⟩
  rw [← gx1] at A1 D1 st1
  have gg1 : n0 ≤ b1 := Nat.le_trans Z0 (Nat.le_of_eq gx1.symm)
  have sz1 : h0.size ≤ b1 := Nat.le_trans (Keep.refl h0 []).1 (Nat.le_of_eq gx1.symm)
  have f1_0 := p_0.ext E1
  have Zs1 : n0 ≤ h1.size := Nat.le_trans Z0 E1.1
  have K1 := (Keep.refl h0 []).ext E1
  have fn1_value : Fld Z h1 b1 "java/lang/String" "value" "[B" .null := D1 (Or.inr (own_w hw 8 rfl)) (ty := (.array .byte)) (by decide)
  have fn1_coder : Fld Z h1 b1 "java/lang/String" "coder" "B" (.int (0 : Int32)) := D1 (Or.inr (own_w hw 9 rfl)) (ty := .byte) (by decide)
  refine own_st st1 ?_
  show own_Goes _ _ _ _ _ _ _ T1 (mkF m 23 #[iv (1 : Int32), iv c0, iv c1, iv c2, iv c3, iv c4, iv c5, iv c6] [(.ref b1)])
  refine own_st (fun _ kk_ => XS.dup X1.here hx rfl (hb hby d10_23) rfl rfl (XS.iconst X1.here hx rfl (hb hby d10_24) kk_)) ?_
  show own_Goes _ _ _ _ _ _ _ T1 (mkF m 25 #[iv (1 : Int32), iv c0, iv c1, iv c2, iv c3, iv c4, iv c5, iv c6] [(.int (1 : Int32)), (.ref b1), (.ref b1)])
  obtain ⟨T2, h2, k2, X2, e2, E2, A2, st2⟩ := newP X1 hx hZ (own_w hw 54 rfl) e1 (g := (mkF m 25 #[iv (1 : Int32), iv c0, iv c1, iv c2, iv c3, iv c4, iv c5, iv c6] [(.int (1 : Int32)), (.ref b1), (.ref b1)])) rfl (hb hby d10_25) rfl (by decide) (cap := 1) (by decide) (by decide) (by decide) (by decide)
  obtain ⟨b2, gx2⟩ : ∃ z, z = h1.size := ⟨_, rfl⟩
  rw [← gx2] at A2 st2
  have ne2_b1 : b1 ≠ b2 := Nat.ne_of_lt (Nat.lt_of_lt_of_eq A1.lt gx2.symm)
  have gg2 : n0 ≤ b2 := Nat.le_trans Zs1 (Nat.le_of_eq gx2.symm)
  have sz2 : h0.size ≤ b2 := Nat.le_trans K1.1 (Nat.le_of_eq gx2.symm)
  have f2_0 := f1_0.ext E2
  have f2_1 := A1.ext E2
  have f2_2 := fn1_value.ext E2
  have f2_3 := fn1_coder.ext E2
  have Zs2 : n0 ≤ h2.size := Nat.le_trans Zs1 E2.1
  have K2 := K1.ext E2
  have V2 : Arv Z h2 b2 k2 .char (1 : Int32) [(.int (0 : Int32))] (.int (0 : Int32)) := (Arv.new A2 (by decide)).pad (pad_rep [] (.int (0 : Int32)) 1)
  refine own_st st2 ?_
  show own_Goes _ _ _ _ _ _ _ T2 (mkF m 27 #[iv (1 : Int32), iv c0, iv c1, iv c2, iv c3, iv c4, iv c5, iv c6] [(.ref b2), (.ref b1), (.ref b1)])
  refine own_st (fun _ kk_ => XS.dup X2.here hx rfl (hb hby d10_27) rfl rfl (XS.iconst X2.here hx rfl (hb hby d10_28) (XS.iloadN X2.here hx rfl (hb hby d10_29) rfl kk_))) ?_
  show own_Goes _ _ _ _ _ _ _ T2 (mkF m 30 #[iv (1 : Int32), iv c0, iv c1, iv c2, iv c3, iv c4, iv c5, iv c6] [(.int c0), (.int (0 : Int32)), (.ref b2), (.ref b2), (.ref b1), (.ref b1)])
  obtain ⟨cl3, Ar3, q3, Sz3, Nn3, Hh3, Gg3⟩ := id V2
  obtain ⟨T3, h3, X3, e3, W3, st3⟩ := stC X2 hx hZ e2 Ar3 (j := (0 : Int32)) (inb_of Sz3 ⟨by decide, by decide⟩) (g := (mkF m 30 #[iv (1 : Int32), iv c0, iv c1, iv c2, iv c3, iv c4, iv c5, iv c6] [(.int c0), (.int (0 : Int32)), (.ref b2), (.ref b2), (.ref b1), (.ref b1)])) rfl rfl (hb hby d10_30)
  have V3 : Arv Z h3 b2 k2 .char (1 : Int32) [(.int (nar .char c0))] (.int (0 : Int32)) := Arv.set Ar3 q3 Sz3 Nn3 Hh3 Gg3 (fits_nar_char _) W3 0 rfl (Nat.le_of_ble_eq_true rfl)
  have f3_0 := f2_0.wr W3
  have f3_1 := f2_1.wr W3
  have f3_2 := f2_2.other W3 (Or.inl ne2_b1)
  have f3_3 := f2_3.other W3 (Or.inl ne2_b1)
  have Zs3 : n0 ≤ h3.size := Nat.le_trans Zs2 (Nat.le_of_eq W3.size.symm)
  have K3 := K2.wr W3 (Or.inr sz2)
  have N3 := Fr.snoc X3 N0 gg2
  refine own_st st3 ?_
  show own_Goes _ _ _ _ _ _ _ T3 (mkF m 31 #[iv (1 : Int32), iv c0, iv c1, iv c2, iv c3, iv c4, iv c5, iv c6] [(.ref b2), (.ref b1), (.ref b1)])
  obtain ⟨_, _, ⟨T4, L4, k4, n4⟩, -, X4, ⟨Lc4, hQ4, l4, y4, z4⟩, st4⟩ := X3.specialBack hx (y := yy10) rfl hown (mvT hZ (own_w hw 55 rfl)) (mvT hZ (own_w hw 56 rfl)) (mvT hZ (own_w hw 57 rfl)) (by decide) (StrChars.Road.backV (W := 1) hZ (own_hws hw) (kI := 4) (own_w hw 6 rfl) (cs := [(nar .char c0)]) (bs := [(own_by c0)]) (n := 1) gg1 Zs3 f3_1 f3_2 f3_3 V3 f3_0 (by assumption) rfl rfl (by decide) (by decide) (List.forall_mem_cons.mpr ⟨own_hp (by assumption), (fun _ q => nomatch q)⟩) (by rw [own_narc (by assumption)]; rfl) (by decide) (by decide)) (g := (mkF m 31 #[iv (1 : Int32), iv c0, iv c1, iv c2, iv c3, iv c4, iv c5, iv c6] [(.ref b2), (.ref b1), (.ref b1)])) rfl (by rw [hml]; rfl) (Steps.refl _) (a := b1) (argsL := [(.ref b2)]) (rest := [(.ref b1)]) (lenOf pd_8 rfl) rfl (by show 2 * 0 + _ ≤ _; exact Nat.le_of_eq rfl) (hb hby d10_31) (fun _ _ => ⟨rfl, e3, (by decide : 2 + 1 ≤ _), (by decide : 5 + 1 ≤ _)⟩)
  dsimp only [Pt.U, Pt.locs, Pt.cells, Pt.slots] at X4 l4 y4 z4 st4 hQ4
  subst l4 y4 z4
  obtain ⟨rfl, Nq4, Kq4, u4_0, u4_1, x4_d, x4_kd, u4_2, u4_3, u4_4, u4_5, u4_6⟩ := hQ4
  have N4 := Fr.app N3 Nq4
  have f4_0 := own_Sta_keep f3_0 Kq4 (nsS f3_1.nostat ns0)
  have f4_1 := f3_1.keep Kq4
  have f4_4 := V3.keep Kq4 (ninS (Ne.symm ne2_b1) nin0)
  have Zs4 : n0 ≤ T4.heap.size := Nat.le_trans Zs3 Kq4.1
  have K4 := K3.trans Kq4 (allS (Or.inr sz1) all0)
  have ne4_b1 : b1 ≠ x4_d := Nat.ne_of_lt (Nat.lt_of_lt_of_le f3_1.lt u4_3)
  have ne4_b2 : b2 ≠ x4_d := Nat.ne_of_lt (Nat.lt_of_lt_of_le V3.lt u4_3)
  have sz4_d : h0.size ≤ x4_d := Nat.le_trans K3.1 u4_3
  have gg4_d : n0 ≤ x4_d := Nat.le_trans Zs3 u4_3
  refine own_st (fun _ kk_ => st4.trans kk_) ?_
  show own_Goes _ _ _ _ _ _ _ T4 (mkF m 34 #[iv (1 : Int32), iv c0, iv c1, iv c2, iv c3, iv c4, iv c5, iv c6] [(.ref b1)])
  refine own_retA X4 hx hlk rfl Bd.returns rfl (hb hby d10_34) (by decide) (by decide) ?_
  show Q10_1 Z c0 c1 c2 c3 c4 c5 c6 cs h0 n0 (some (.ref b1)) T4.heap _
  exact ⟨b1, x4_d, x4_kd, rfl, N4, K4, sz1, u4_0, u4_1, u4_5, u4_6⟩
abbrev rRrm10_2 : Room := { frames := 4, cells := 3, slots := 8, locals := 66 }
theorem d10_35 : decode method_5_code 35 = .ok (.iload_n 0, 1) := by decide +kernel
theorem d10_36 : decode method_5_code 36 = .ok (.iconst 2, 1) := by decide +kernel
theorem d10_37 : decode method_5_code 37 = .ok (.if_icmp .ne 22, 3) := by decide +kernel
theorem d10_40 : decode method_5_code 40 = .ok (.new 39, 3) := by decide +kernel
theorem d10_43 : decode method_5_code 43 = .ok (.dup, 1) := by decide +kernel
theorem d10_44 : decode method_5_code 44 = .ok (.iconst 2, 1) := by decide +kernel
theorem d10_45 : decode method_5_code 45 = .ok (.newarray .char, 2) := by decide +kernel
theorem d10_47 : decode method_5_code 47 = .ok (.dup, 1) := by decide +kernel
theorem d10_48 : decode method_5_code 48 = .ok (.iconst 0, 1) := by decide +kernel
theorem d10_49 : decode method_5_code 49 = .ok (.iload_n 1, 1) := by decide +kernel
theorem d10_50 : decode method_5_code 50 = .ok (.castore, 1) := by decide +kernel
theorem d10_51 : decode method_5_code 51 = .ok (.dup, 1) := by decide +kernel
theorem d10_52 : decode method_5_code 52 = .ok (.iconst 1, 1) := by decide +kernel
theorem d10_53 : decode method_5_code 53 = .ok (.iload_n 2, 1) := by decide +kernel
theorem d10_54 : decode method_5_code 54 = .ok (.castore, 1) := by decide +kernel
theorem d10_55 : decode method_5_code 55 = .ok (.invokespecial 48, 3) := by decide +kernel
theorem d10_58 : decode method_5_code 58 = .ok (.areturn, 1) := by decide +kernel
theorem pn_rm10_2 : plainFor yy11 = true := by first | exact plainFor_of_name (by first | (simp [plainName, overriddenIn]; done) | decide +kernel) | decide +kernel
theorem ef_rm10_2 (m : MethodId) (c0 : Int32) (c1 : Int32) (c2 : Int32) (c3 : Int32) (c4 : Int32) (c5 : Int32) (c6 : Int32) : entryFrame m #[(.int (2 : Int32)), (.int c0), (.int c1), (.int c2), (.int c3), (.int c4), (.int c5), (.int c6)] 8 = (mkF m 0 #[iv (2 : Int32), iv c0, iv c1, iv c2, iv c3, iv c4, iv c5, iv c6] []) := by first | (simp [entryFrame, mkF, argsToLocals, Value.category]; done) | rfl
def Q10_2 (Z : State) (c0 : Int32) (c1 : Int32) (c2 : Int32) (c3 : Int32) (c4 : Int32) (c5 : Int32) (c6 : Int32) (cs : Int32) (h0 : Heap) (n0 : Nat) (v_ : Option Value) (h_ : Heap) (L_ : List Loc) : Prop := ∃ y : Addr, ∃ d : Addr, ∃ kd : ClassId, (v_ = some (.ref y)) ∧ (Fr n0 L_) ∧ (Keep h0 h_ []) ∧ (h0.size ≤ y) ∧ (Exa Z h_ y "java/lang/String") ∧ (Fld Z h_ y "java/lang/String" "coder" "B" (.int (0 : Int32))) ∧ (Fld Z h_ y "java/lang/String" "value" "[B" (.ref d)) ∧ (Arv Z h_ d kd .byte (2 : Int32) [(.int (own_by c0)), (.int (own_by c1))] (.int (0 : Int32)))
set_option maxRecDepth 65536 in
set_option maxHeartbeats 40000000 in
theorem rm10_2 (l : Launch) (Z : State) (a0 : Array Value) (hw : ∀ d ∈ tables_1, d.before a0 Z = true) (ws : List Jvm.Cond) (c0 : Int32) (c1 : Int32) (c2 : Int32) (c3 : Int32) (c4 : Int32) (c5 : Int32) (c6 : Int32) (cs : Int32) (h0 : Heap) (n0 : Nat) (Z0 : n0 ≤ h0.size) (p_0 : Sta Z h0 "java/lang/String" "COMPACT_STRINGS" "Z" (.int cs)) (hcs : ¬ cs = (0 : Int32)) (hi0 : own_in c0) (hi1 : own_in c1) :
    MetFree l yy11 (head1 (Jvm.Cond.code yy11 method_5_code 8 (some (.object "java/lang/String")) :: ws) rRrm10_2) (fun a_ U_ => a_ = #[(.int (2 : Int32)), (.int c0), (.int c1), (.int c2), (.int c3), (.int c4), (.int c5), (.int c6)] ∧ Z.Warmed39 U_.vm ∧ U_.heap = h0) (fun _ _ _ _ _ => True) (fun _ U_ o_ U1_ => ∃ v_ L_, o_ = .returned v_ ∧ Q10_2 Z c0 c1 c2 c3 c4 c5 c6 cs h0 n0 v_ U1_.heap L_ ∧ FrameEnd U_ o_ U1_ L_ rRrm10_2.cells rRrm10_2.slots) := by
  refine MetFree.of_bodySF pn_rm10_2 hisR ?_
  intro p e s m args below meth c s₁ Bd hml0 hP hK
  obtain ⟨rfl, hZ, hh⟩ := hP
  have hx := Bd.exec
  have hby := Bd.bytes
  have hlk : meth.locks = false := Bd.notSynchronized
  have hml : c.maxLocals = 8 := hml0
  have hown : s.vm.findClass "com/example/majra/majra/lang/ParameterKindNamedPinLaw" = some m.cls := findClass_of_methodNamed Bd.named
  have hnm := (name_of_methodNamed Bd.named Bd.method).1
  have X0 : Stand p l e rRrm10_2 s m #[(.int (2 : Int32)), (.int c0), (.int c1), (.int c2), (.int c3), (.int c4), (.int c5), (.int c6)] below meth c s₁ [] 0 0 := Stand.of_body Bd
  have e0 : s₁.heap = h0 := by rw [← hh, Bd.state]; rfl
  have N0 := Fr.nil n0
  show own_Goes p e below s (Q10_2 Z c0 c1 c2 c3 c4 c5 c6 cs h0 n0) rRrm10_2.cells rRrm10_2.slots s₁ (entryFrame m #[(.int (2 : Int32)), (.int c0), (.int c1), (.int c2), (.int c3), (.int c4), (.int c5), (.int c6)] 8)
  rw [ef_rm10_2 m c0 c1 c2 c3 c4 c5 c6]
  show own_Goes p e below s (Q10_2 Z c0 c1 c2 c3 c4 c5 c6 cs h0 n0) rRrm10_2.cells rRrm10_2.slots s₁ (mkF m 0 #[iv (2 : Int32), iv c0, iv c1, iv c2, iv c3, iv c4, iv c5, iv c6] [])
  refine own_st (fun _ kk_ => XS.iloadN X0.here hx rfl (hb hby d10_0) rfl (XS.ifYes X0.here hx rfl (pc0 := 1) (pc' := 15) rfl (hb hby d10_1) rfl (XT.i0_ne_t (by decide)) (by decide) (by decide) (XS.iloadN X0.here hx rfl (hb hby d10_15) rfl (XS.iconst X0.here hx rfl (hb hby d10_16) (XS.icmpYes X0.here hx rfl (pc0 := 17) (pc' := 35) rfl (hb hby d10_17) rfl (XT.ii_ne_t (by decide)) (by decide) (by decide) (XS.iloadN X0.here hx rfl (hb hby d10_35) rfl (XS.iconst X0.here hx rfl (hb hby d10_36) (XS.icmpNo X0.here hx rfl (hb hby d10_37) rfl (XT.ii_ne_f (by decide)) kk_)))))))) ?_
  show own_Goes _ _ _ _ _ _ _ s₁ (mkF m 40 #[iv (2 : Int32), iv c0, iv c1, iv c2, iv c3, iv c4, iv c5, iv c6] [])
  obtain ⟨T1, h1, X1, e1, E1, A1, D1, -, st1⟩ := newO X0 hx hZ hown (own_w hw 53 rfl) (own_w hw 6 rfl) (own_w hw 5 rfl) e0 (g := (mkF m 40 #[iv (2 : Int32), iv c0, iv c1, iv c2, iv c3, iv c4, iv c5, iv c6] [])) rfl (hb hby d10_40) (by decide) (by decide)
  obtain ⟨b1, gx1⟩ : ∃ z, z = h0.size := ⟨_, rfl⟩
  rw [← gx1] at A1 D1 st1
  have gg1 : n0 ≤ b1 := Nat.le_trans Z0 (Nat.le_of_eq gx1.symm)
  have sz1 : h0.size ≤ b1 := Nat.le_trans (Keep.refl h0 []).1 (Nat.le_of_eq gx1.symm)
  have f1_0 := p_0.ext E1
  have Zs1 : n0 ≤ h1.size := Nat.le_trans Z0 E1.1
  have K1 := (Keep.refl h0 []).ext E1
  have fn1_value : Fld Z h1 b1 "java/lang/String" "value" "[B" .null := D1 (Or.inr (own_w hw 8 rfl)) (ty := (.array .byte)) (by decide)
  have fn1_coder : Fld Z h1 b1 "java/lang/String" "coder" "B" (.int (0 : Int32)) := D1 (Or.inr (own_w hw 9 rfl)) (ty := .byte) (by decide)
  refine own_st st1 ?_
  show own_Goes _ _ _ _ _ _ _ T1 (mkF m 43 #[iv (2 : Int32), iv c0, iv c1, iv c2, iv c3, iv c4, iv c5, iv c6] [(.ref b1)])
  refine own_st (fun _ kk_ => XS.dup X1.here hx rfl (hb hby d10_43) rfl rfl (XS.iconst X1.here hx rfl (hb hby d10_44) kk_)) ?_
  show own_Goes _ _ _ _ _ _ _ T1 (mkF m 45 #[iv (2 : Int32), iv c0, iv c1, iv c2, iv c3, iv c4, iv c5, iv c6] [(.int (2 : Int32)), (.ref b1), (.ref b1)])
  obtain ⟨T2, h2, k2, X2, e2, E2, A2, st2⟩ := newP X1 hx hZ (own_w hw 54 rfl) e1 (g := (mkF m 45 #[iv (2 : Int32), iv c0, iv c1, iv c2, iv c3, iv c4, iv c5, iv c6] [(.int (2 : Int32)), (.ref b1), (.ref b1)])) rfl (hb hby d10_45) rfl (by decide) (cap := 2) (by decide) (by decide) (by decide) (by decide)
  obtain ⟨b2, gx2⟩ : ∃ z, z = h1.size := ⟨_, rfl⟩
  rw [← gx2] at A2 st2
  have ne2_b1 : b1 ≠ b2 := Nat.ne_of_lt (Nat.lt_of_lt_of_eq A1.lt gx2.symm)
  have gg2 : n0 ≤ b2 := Nat.le_trans Zs1 (Nat.le_of_eq gx2.symm)
  have sz2 : h0.size ≤ b2 := Nat.le_trans K1.1 (Nat.le_of_eq gx2.symm)
  have f2_0 := f1_0.ext E2
  have f2_1 := A1.ext E2
  have f2_2 := fn1_value.ext E2
  have f2_3 := fn1_coder.ext E2
  have Zs2 : n0 ≤ h2.size := Nat.le_trans Zs1 E2.1
  have K2 := K1.ext E2
  have V2 : Arv Z h2 b2 k2 .char (2 : Int32) [(.int (0 : Int32)), (.int (0 : Int32))] (.int (0 : Int32)) := (Arv.new A2 (by decide)).pad (pad_rep [] (.int (0 : Int32)) 2)
  refine own_st st2 ?_
  show own_Goes _ _ _ _ _ _ _ T2 (mkF m 47 #[iv (2 : Int32), iv c0, iv c1, iv c2, iv c3, iv c4, iv c5, iv c6] [(.ref b2), (.ref b1), (.ref b1)])
  refine own_st (fun _ kk_ => XS.dup X2.here hx rfl (hb hby d10_47) rfl rfl (XS.iconst X2.here hx rfl (hb hby d10_48) (XS.iloadN X2.here hx rfl (hb hby d10_49) rfl kk_))) ?_
  show own_Goes _ _ _ _ _ _ _ T2 (mkF m 50 #[iv (2 : Int32), iv c0, iv c1, iv c2, iv c3, iv c4, iv c5, iv c6] [(.int c0), (.int (0 : Int32)), (.ref b2), (.ref b2), (.ref b1), (.ref b1)])
  obtain ⟨cl3, Ar3, q3, Sz3, Nn3, Hh3, Gg3⟩ := id V2
  obtain ⟨T3, h3, X3, e3, W3, st3⟩ := stC X2 hx hZ e2 Ar3 (j := (0 : Int32)) (inb_of Sz3 ⟨by decide, by decide⟩) (g := (mkF m 50 #[iv (2 : Int32), iv c0, iv c1, iv c2, iv c3, iv c4, iv c5, iv c6] [(.int c0), (.int (0 : Int32)), (.ref b2), (.ref b2), (.ref b1), (.ref b1)])) rfl rfl (hb hby d10_50)
  have V3 : Arv Z h3 b2 k2 .char (2 : Int32) [(.int (nar .char c0)), (.int (0 : Int32))] (.int (0 : Int32)) := Arv.set Ar3 q3 Sz3 Nn3 Hh3 Gg3 (fits_nar_char _) W3 0 rfl (Nat.le_of_ble_eq_true rfl)
  have f3_0 := f2_0.wr W3
  have f3_1 := f2_1.wr W3
  have f3_2 := f2_2.other W3 (Or.inl ne2_b1)
  have f3_3 := f2_3.other W3 (Or.inl ne2_b1)
  have Zs3 : n0 ≤ h3.size := Nat.le_trans Zs2 (Nat.le_of_eq W3.size.symm)
  have K3 := K2.wr W3 (Or.inr sz2)
  have N3 := Fr.snoc X3 N0 gg2
  refine own_st st3 ?_
  show own_Goes _ _ _ _ _ _ _ T3 (mkF m 51 #[iv (2 : Int32), iv c0, iv c1, iv c2, iv c3, iv c4, iv c5, iv c6] [(.ref b2), (.ref b1), (.ref b1)])
  refine own_st (fun _ kk_ => XS.dup X3.here hx rfl (hb hby d10_51) rfl rfl (XS.iconst X3.here hx rfl (hb hby d10_52) (XS.iloadN X3.here hx rfl (hb hby d10_53) rfl kk_))) ?_
  show own_Goes _ _ _ _ _ _ _ T3 (mkF m 54 #[iv (2 : Int32), iv c0, iv c1, iv c2, iv c3, iv c4, iv c5, iv c6] [(.int c1), (.int (1 : Int32)), (.ref b2), (.ref b2), (.ref b1), (.ref b1)])
  obtain ⟨cl4, Ar4, q4, Sz4, Nn4, Hh4, Gg4⟩ := id V3
  obtain ⟨T4, h4, X4, e4, W4, st4⟩ := stC X3 hx hZ e3 Ar4 (j := (1 : Int32)) (inb_of Sz4 ⟨by decide, by decide⟩) (g := (mkF m 54 #[iv (2 : Int32), iv c0, iv c1, iv c2, iv c3, iv c4, iv c5, iv c6] [(.int c1), (.int (1 : Int32)), (.ref b2), (.ref b2), (.ref b1), (.ref b1)])) rfl rfl (hb hby d10_54)
  have V4 : Arv Z h4 b2 k2 .char (2 : Int32) [(.int (nar .char c0)), (.int (nar .char c1))] (.int (0 : Int32)) := Arv.set Ar4 q4 Sz4 Nn4 Hh4 Gg4 (fits_nar_char _) W4 1 rfl (Nat.le_of_ble_eq_true rfl)
  have f4_0 := f3_0.wr W4
  have f4_1 := f3_1.wr W4
  have f4_2 := f3_2.other W4 (Or.inl ne2_b1)
  have f4_3 := f3_3.other W4 (Or.inl ne2_b1)
  have Zs4 : n0 ≤ h4.size := Nat.le_trans Zs3 (Nat.le_of_eq W4.size.symm)
  have K4 := K3.wr W4 (Or.inr sz2)
  have N4 := Fr.snoc X4 N3 gg2
  refine own_st st4 ?_
  show own_Goes _ _ _ _ _ _ _ T4 (mkF m 55 #[iv (2 : Int32), iv c0, iv c1, iv c2, iv c3, iv c4, iv c5, iv c6] [(.ref b2), (.ref b1), (.ref b1)])
  obtain ⟨_, _, ⟨T5, L5, k5, n5⟩, -, X5, ⟨Lc5, hQ5, l5, y5, z5⟩, st5⟩ := X4.specialBack hx (y := yy10) rfl hown (mvT hZ (own_w hw 55 rfl)) (mvT hZ (own_w hw 56 rfl)) (mvT hZ (own_w hw 57 rfl)) (by decide) (StrChars.Road.backV (W := 1) hZ (own_hws hw) (kI := 4) (own_w hw 6 rfl) (cs := [(nar .char c0), (nar .char c1)]) (bs := [(own_by c0), (own_by c1)]) (n := 2) gg1 Zs4 f4_1 f4_2 f4_3 V4 f4_0 (by assumption) rfl rfl (by decide) (by decide) (List.forall_mem_cons.mpr ⟨own_hp (by assumption), (List.forall_mem_cons.mpr ⟨own_hp (by assumption), (fun _ q => nomatch q)⟩)⟩) (by rw [own_narc (by assumption), own_narc (by assumption)]; rfl) (by decide) (by decide)) (g := (mkF m 55 #[iv (2 : Int32), iv c0, iv c1, iv c2, iv c3, iv c4, iv c5, iv c6] [(.ref b2), (.ref b1), (.ref b1)])) rfl (by rw [hml]; rfl) (Steps.refl _) (a := b1) (argsL := [(.ref b2)]) (rest := [(.ref b1)]) (lenOf pd_8 rfl) rfl (by show 2 * 0 + _ ≤ _; exact Nat.le_of_eq rfl) (hb hby d10_55) (fun _ _ => ⟨rfl, e4, (by decide : 2 + 1 ≤ _), (by decide : 6 + 2 ≤ _)⟩)
  dsimp only [Pt.U, Pt.locs, Pt.cells, Pt.slots] at X5 l5 y5 z5 st5 hQ5
  subst l5 y5 z5
  obtain ⟨rfl, Nq5, Kq5, u5_0, u5_1, x5_d, x5_kd, u5_2, u5_3, u5_4, u5_5, u5_6⟩ := hQ5
  have N5 := Fr.app N4 Nq5
  have f5_0 := own_Sta_keep f4_0 Kq5 (nsS f4_1.nostat ns0)
  have f5_1 := f4_1.keep Kq5
  have f5_4 := V4.keep Kq5 (ninS (Ne.symm ne2_b1) nin0)
  have Zs5 : n0 ≤ T5.heap.size := Nat.le_trans Zs4 Kq5.1
  have K5 := K4.trans Kq5 (allS (Or.inr sz1) all0)
  have ne5_b1 : b1 ≠ x5_d := Nat.ne_of_lt (Nat.lt_of_lt_of_le f4_1.lt u5_3)
  have ne5_b2 : b2 ≠ x5_d := Nat.ne_of_lt (Nat.lt_of_lt_of_le V4.lt u5_3)
  have sz5_d : h0.size ≤ x5_d := Nat.le_trans K4.1 u5_3
  have gg5_d : n0 ≤ x5_d := Nat.le_trans Zs4 u5_3
  refine own_st (fun _ kk_ => st5.trans kk_) ?_
  show own_Goes _ _ _ _ _ _ _ T5 (mkF m 58 #[iv (2 : Int32), iv c0, iv c1, iv c2, iv c3, iv c4, iv c5, iv c6] [(.ref b1)])
  refine own_retA X5 hx hlk rfl Bd.returns rfl (hb hby d10_58) (by decide) (by decide) ?_
  show Q10_2 Z c0 c1 c2 c3 c4 c5 c6 cs h0 n0 (some (.ref b1)) T5.heap _
  exact ⟨b1, x5_d, x5_kd, rfl, N5, K5, sz1, u5_0, u5_1, u5_5, u5_6⟩
abbrev rRrm10_3 : Room := { frames := 4, cells := 3, slots := 10, locals := 66 }
theorem d10_59 : decode method_5_code 59 = .ok (.iload_n 0, 1) := by decide +kernel
theorem d10_60 : decode method_5_code 60 = .ok (.iconst 3, 1) := by decide +kernel
theorem d10_61 : decode method_5_code 61 = .ok (.if_icmp .ne 26, 3) := by decide +kernel
theorem d10_64 : decode method_5_code 64 = .ok (.new 39, 3) := by decide +kernel
theorem d10_67 : decode method_5_code 67 = .ok (.dup, 1) := by decide +kernel
theorem d10_68 : decode method_5_code 68 = .ok (.iconst 3, 1) := by decide +kernel
theorem d10_69 : decode method_5_code 69 = .ok (.newarray .char, 2) := by decide +kernel
theorem d10_71 : decode method_5_code 71 = .ok (.dup, 1) := by decide +kernel
theorem d10_72 : decode method_5_code 72 = .ok (.iconst 0, 1) := by decide +kernel
theorem d10_73 : decode method_5_code 73 = .ok (.iload_n 1, 1) := by decide +kernel
theorem d10_74 : decode method_5_code 74 = .ok (.castore, 1) := by decide +kernel
theorem d10_75 : decode method_5_code 75 = .ok (.dup, 1) := by decide +kernel
theorem d10_76 : decode method_5_code 76 = .ok (.iconst 1, 1) := by decide +kernel
theorem d10_77 : decode method_5_code 77 = .ok (.iload_n 2, 1) := by decide +kernel
theorem d10_78 : decode method_5_code 78 = .ok (.castore, 1) := by decide +kernel
theorem d10_79 : decode method_5_code 79 = .ok (.dup, 1) := by decide +kernel
theorem d10_80 : decode method_5_code 80 = .ok (.iconst 2, 1) := by decide +kernel
theorem d10_81 : decode method_5_code 81 = .ok (.iload_n 3, 1) := by decide +kernel
theorem d10_82 : decode method_5_code 82 = .ok (.castore, 1) := by decide +kernel
theorem d10_83 : decode method_5_code 83 = .ok (.invokespecial 48, 3) := by decide +kernel
theorem d10_86 : decode method_5_code 86 = .ok (.areturn, 1) := by decide +kernel
theorem pn_rm10_3 : plainFor yy11 = true := by first | exact plainFor_of_name (by first | (simp [plainName, overriddenIn]; done) | decide +kernel) | decide +kernel
theorem ef_rm10_3 (m : MethodId) (c0 : Int32) (c1 : Int32) (c2 : Int32) (c3 : Int32) (c4 : Int32) (c5 : Int32) (c6 : Int32) : entryFrame m #[(.int (3 : Int32)), (.int c0), (.int c1), (.int c2), (.int c3), (.int c4), (.int c5), (.int c6)] 8 = (mkF m 0 #[iv (3 : Int32), iv c0, iv c1, iv c2, iv c3, iv c4, iv c5, iv c6] []) := by first | (simp [entryFrame, mkF, argsToLocals, Value.category]; done) | rfl
def Q10_3 (Z : State) (c0 : Int32) (c1 : Int32) (c2 : Int32) (c3 : Int32) (c4 : Int32) (c5 : Int32) (c6 : Int32) (cs : Int32) (h0 : Heap) (n0 : Nat) (v_ : Option Value) (h_ : Heap) (L_ : List Loc) : Prop := ∃ y : Addr, ∃ d : Addr, ∃ kd : ClassId, (v_ = some (.ref y)) ∧ (Fr n0 L_) ∧ (Keep h0 h_ []) ∧ (h0.size ≤ y) ∧ (Exa Z h_ y "java/lang/String") ∧ (Fld Z h_ y "java/lang/String" "coder" "B" (.int (0 : Int32))) ∧ (Fld Z h_ y "java/lang/String" "value" "[B" (.ref d)) ∧ (Arv Z h_ d kd .byte (3 : Int32) [(.int (own_by c0)), (.int (own_by c1)), (.int (own_by c2))] (.int (0 : Int32)))
set_option maxRecDepth 65536 in
set_option maxHeartbeats 40000000 in
theorem rm10_3 (l : Launch) (Z : State) (a0 : Array Value) (hw : ∀ d ∈ tables_1, d.before a0 Z = true) (ws : List Jvm.Cond) (c0 : Int32) (c1 : Int32) (c2 : Int32) (c3 : Int32) (c4 : Int32) (c5 : Int32) (c6 : Int32) (cs : Int32) (h0 : Heap) (n0 : Nat) (Z0 : n0 ≤ h0.size) (p_0 : Sta Z h0 "java/lang/String" "COMPACT_STRINGS" "Z" (.int cs)) (hcs : ¬ cs = (0 : Int32)) (hi0 : own_in c0) (hi1 : own_in c1) (hi2 : own_in c2) :
    MetFree l yy11 (head1 (Jvm.Cond.code yy11 method_5_code 8 (some (.object "java/lang/String")) :: ws) rRrm10_3) (fun a_ U_ => a_ = #[(.int (3 : Int32)), (.int c0), (.int c1), (.int c2), (.int c3), (.int c4), (.int c5), (.int c6)] ∧ Z.Warmed39 U_.vm ∧ U_.heap = h0) (fun _ _ _ _ _ => True) (fun _ U_ o_ U1_ => ∃ v_ L_, o_ = .returned v_ ∧ Q10_3 Z c0 c1 c2 c3 c4 c5 c6 cs h0 n0 v_ U1_.heap L_ ∧ FrameEnd U_ o_ U1_ L_ rRrm10_3.cells rRrm10_3.slots) := by
  refine MetFree.of_bodySF pn_rm10_3 hisR ?_
  intro p e s m args below meth c s₁ Bd hml0 hP hK
  obtain ⟨rfl, hZ, hh⟩ := hP
  have hx := Bd.exec
  have hby := Bd.bytes
  have hlk : meth.locks = false := Bd.notSynchronized
  have hml : c.maxLocals = 8 := hml0
  have hown : s.vm.findClass "com/example/majra/majra/lang/ParameterKindNamedPinLaw" = some m.cls := findClass_of_methodNamed Bd.named
  have hnm := (name_of_methodNamed Bd.named Bd.method).1
  have X0 : Stand p l e rRrm10_3 s m #[(.int (3 : Int32)), (.int c0), (.int c1), (.int c2), (.int c3), (.int c4), (.int c5), (.int c6)] below meth c s₁ [] 0 0 := Stand.of_body Bd
  have e0 : s₁.heap = h0 := by rw [← hh, Bd.state]; rfl
  have N0 := Fr.nil n0
  show own_Goes p e below s (Q10_3 Z c0 c1 c2 c3 c4 c5 c6 cs h0 n0) rRrm10_3.cells rRrm10_3.slots s₁ (entryFrame m #[(.int (3 : Int32)), (.int c0), (.int c1), (.int c2), (.int c3), (.int c4), (.int c5), (.int c6)] 8)
  rw [ef_rm10_3 m c0 c1 c2 c3 c4 c5 c6]
  show own_Goes p e below s (Q10_3 Z c0 c1 c2 c3 c4 c5 c6 cs h0 n0) rRrm10_3.cells rRrm10_3.slots s₁ (mkF m 0 #[iv (3 : Int32), iv c0, iv c1, iv c2, iv c3, iv c4, iv c5, iv c6] [])
  refine own_st (fun _ kk_ => XS.iloadN X0.here hx rfl (hb hby d10_0) rfl (XS.ifYes X0.here hx rfl (pc0 := 1) (pc' := 15) rfl (hb hby d10_1) rfl (XT.i0_ne_t (by decide)) (by decide) (by decide) (XS.iloadN X0.here hx rfl (hb hby d10_15) rfl (XS.iconst X0.here hx rfl (hb hby d10_16) (XS.icmpYes X0.here hx rfl (pc0 := 17) (pc' := 35) rfl (hb hby d10_17) rfl (XT.ii_ne_t (by decide)) (by decide) (by decide) (XS.iloadN X0.here hx rfl (hb hby d10_35) rfl (XS.iconst X0.here hx rfl (hb hby d10_36) (XS.icmpYes X0.here hx rfl (pc0 := 37) (pc' := 59) rfl (hb hby d10_37) rfl (XT.ii_ne_t (by decide)) (by decide) (by decide) (XS.iloadN X0.here hx rfl (hb hby d10_59) rfl (XS.iconst X0.here hx rfl (hb hby d10_60) (XS.icmpNo X0.here hx rfl (hb hby d10_61) rfl (XT.ii_ne_f (by decide)) kk_))))))))))) ?_
  show own_Goes _ _ _ _ _ _ _ s₁ (mkF m 64 #[iv (3 : Int32), iv c0, iv c1, iv c2, iv c3, iv c4, iv c5, iv c6] [])
  obtain ⟨T1, h1, X1, e1, E1, A1, D1, -, st1⟩ := newO X0 hx hZ hown (own_w hw 53 rfl) (own_w hw 6 rfl) (own_w hw 5 rfl) e0 (g := (mkF m 64 #[iv (3 : Int32), iv c0, iv c1, iv c2, iv c3, iv c4, iv c5, iv c6] [])) rfl (hb hby d10_64) (by decide) (by decide)
  obtain ⟨b1, gx1⟩ : ∃ z, z = h0.size := ⟨_, rfl⟩
  rw [← gx1] at A1 D1 st1
  have gg1 : n0 ≤ b1 := Nat.le_trans Z0 (Nat.le_of_eq gx1.symm)
  have sz1 : h0.size ≤ b1 := Nat.le_trans (Keep.refl h0 []).1 (Nat.le_of_eq gx1.symm)
  have f1_0 := p_0.ext E1
  have Zs1 : n0 ≤ h1.size := Nat.le_trans Z0 E1.1
  have K1 := (Keep.refl h0 []).ext E1
  have fn1_value : Fld Z h1 b1 "java/lang/String" "value" "[B" .null := D1 (Or.inr (own_w hw 8 rfl)) (ty := (.array .byte)) (by decide)
  have fn1_coder : Fld Z h1 b1 "java/lang/String" "coder" "B" (.int (0 : Int32)) := D1 (Or.inr (own_w hw 9 rfl)) (ty := .byte) (by decide)
  refine own_st st1 ?_
  show own_Goes _ _ _ _ _ _ _ T1 (mkF m 67 #[iv (3 : Int32), iv c0, iv c1, iv c2, iv c3, iv c4, iv c5, iv c6] [(.ref b1)])
  refine own_st (fun _ kk_ => XS.dup X1.here hx rfl (hb hby d10_67) rfl rfl (XS.iconst X1.here hx rfl (hb hby d10_68) kk_)) ?_
  show own_Goes _ _ _ _ _ _ _ T1 (mkF m 69 #[iv (3 : Int32), iv c0, iv c1, iv c2, iv c3, iv c4, iv c5, iv c6] [(.int (3 : Int32)), (.ref b1), (.ref b1)])
  obtain ⟨T2, h2, k2, X2, e2, E2, A2, st2⟩ := newP X1 hx hZ (own_w hw 54 rfl) e1 (g := (mkF m 69 #[iv (3 : Int32), iv c0, iv c1, iv c2, iv c3, iv c4, iv c5, iv c6] [(.int (3 : Int32)), (.ref b1), (.ref b1)])) rfl (hb hby d10_69) rfl (by decide) (cap := 3) (by decide) (by decide) (by decide) (by decide)
  obtain ⟨b2, gx2⟩ : ∃ z, z = h1.size := ⟨_, rfl⟩
  rw [← gx2] at A2 st2
  have ne2_b1 : b1 ≠ b2 := Nat.ne_of_lt (Nat.lt_of_lt_of_eq A1.lt gx2.symm)
  have gg2 : n0 ≤ b2 := Nat.le_trans Zs1 (Nat.le_of_eq gx2.symm)
  have sz2 : h0.size ≤ b2 := Nat.le_trans K1.1 (Nat.le_of_eq gx2.symm)
  have f2_0 := f1_0.ext E2
  have f2_1 := A1.ext E2
  have f2_2 := fn1_value.ext E2
  have f2_3 := fn1_coder.ext E2
  have Zs2 : n0 ≤ h2.size := Nat.le_trans Zs1 E2.1
  have K2 := K1.ext E2
  have V2 : Arv Z h2 b2 k2 .char (3 : Int32) [(.int (0 : Int32)), (.int (0 : Int32)), (.int (0 : Int32))] (.int (0 : Int32)) := (Arv.new A2 (by decide)).pad (pad_rep [] (.int (0 : Int32)) 3)
  refine own_st st2 ?_
  show own_Goes _ _ _ _ _ _ _ T2 (mkF m 71 #[iv (3 : Int32), iv c0, iv c1, iv c2, iv c3, iv c4, iv c5, iv c6] [(.ref b2), (.ref b1), (.ref b1)])
  refine own_st (fun _ kk_ => XS.dup X2.here hx rfl (hb hby d10_71) rfl rfl (XS.iconst X2.here hx rfl (hb hby d10_72) (XS.iloadN X2.here hx rfl (hb hby d10_73) rfl kk_))) ?_
  show own_Goes _ _ _ _ _ _ _ T2 (mkF m 74 #[iv (3 : Int32), iv c0, iv c1, iv c2, iv c3, iv c4, iv c5, iv c6] [(.int c0), (.int (0 : Int32)), (.ref b2), (.ref b2), (.ref b1), (.ref b1)])
  obtain ⟨cl3, Ar3, q3, Sz3, Nn3, Hh3, Gg3⟩ := id V2
  obtain ⟨T3, h3, X3, e3, W3, st3⟩ := stC X2 hx hZ e2 Ar3 (j := (0 : Int32)) (inb_of Sz3 ⟨by decide, by decide⟩) (g := (mkF m 74 #[iv (3 : Int32), iv c0, iv c1, iv c2, iv c3, iv c4, iv c5, iv c6] [(.int c0), (.int (0 : Int32)), (.ref b2), (.ref b2), (.ref b1), (.ref b1)])) rfl rfl (hb hby d10_74)
  have V3 : Arv Z h3 b2 k2 .char (3 : Int32) [(.int (nar .char c0)), (.int (0 : Int32)), (.int (0 : Int32))] (.int (0 : Int32)) := Arv.set Ar3 q3 Sz3 Nn3 Hh3 Gg3 (fits_nar_char _) W3 0 rfl (Nat.le_of_ble_eq_true rfl)
  have f3_0 := f2_0.wr W3
  have f3_1 := f2_1.wr W3
  have f3_2 := f2_2.other W3 (Or.inl ne2_b1)
  have f3_3 := f2_3.other W3 (Or.inl ne2_b1)
  have Zs3 : n0 ≤ h3.size := Nat.le_trans Zs2 (Nat.le_of_eq W3.size.symm)
  have K3 := K2.wr W3 (Or.inr sz2)
  have N3 := Fr.snoc X3 N0 gg2
  refine own_st st3 ?_
  show own_Goes _ _ _ _ _ _ _ T3 (mkF m 75 #[iv (3 : Int32), iv c0, iv c1, iv c2, iv c3, iv c4, iv c5, iv c6] [(.ref b2), (.ref b1), (.ref b1)])
  refine own_st (fun _ kk_ => XS.dup X3.here hx rfl (hb hby d10_75) rfl rfl (XS.iconst X3.here hx rfl (hb hby d10_76) (XS.iloadN X3.here hx rfl (hb hby d10_77) rfl kk_))) ?_
  show own_Goes _ _ _ _ _ _ _ T3 (mkF m 78 #[iv (3 : Int32), iv c0, iv c1, iv c2, iv c3, iv c4, iv c5, iv c6] [(.int c1), (.int (1 : Int32)), (.ref b2), (.ref b2), (.ref b1), (.ref b1)])
  obtain ⟨cl4, Ar4, q4, Sz4, Nn4, Hh4, Gg4⟩ := id V3
  obtain ⟨T4, h4, X4, e4, W4, st4⟩ := stC X3 hx hZ e3 Ar4 (j := (1 : Int32)) (inb_of Sz4 ⟨by decide, by decide⟩) (g := (mkF m 78 #[iv (3 : Int32), iv c0, iv c1, iv c2, iv c3, iv c4, iv c5, iv c6] [(.int c1), (.int (1 : Int32)), (.ref b2), (.ref b2), (.ref b1), (.ref b1)])) rfl rfl (hb hby d10_78)
  have V4 : Arv Z h4 b2 k2 .char (3 : Int32) [(.int (nar .char c0)), (.int (nar .char c1)), (.int (0 : Int32))] (.int (0 : Int32)) := Arv.set Ar4 q4 Sz4 Nn4 Hh4 Gg4 (fits_nar_char _) W4 1 rfl (Nat.le_of_ble_eq_true rfl)
  have f4_0 := f3_0.wr W4
  have f4_1 := f3_1.wr W4
  have f4_2 := f3_2.other W4 (Or.inl ne2_b1)
  have f4_3 := f3_3.other W4 (Or.inl ne2_b1)
  have Zs4 : n0 ≤ h4.size := Nat.le_trans Zs3 (Nat.le_of_eq W4.size.symm)
  have K4 := K3.wr W4 (Or.inr sz2)
  have N4 := Fr.snoc X4 N3 gg2
  refine own_st st4 ?_
  show own_Goes _ _ _ _ _ _ _ T4 (mkF m 79 #[iv (3 : Int32), iv c0, iv c1, iv c2, iv c3, iv c4, iv c5, iv c6] [(.ref b2), (.ref b1), (.ref b1)])
  refine own_st (fun _ kk_ => XS.dup X4.here hx rfl (hb hby d10_79) rfl rfl (XS.iconst X4.here hx rfl (hb hby d10_80) (XS.iloadN X4.here hx rfl (hb hby d10_81) rfl kk_))) ?_
  show own_Goes _ _ _ _ _ _ _ T4 (mkF m 82 #[iv (3 : Int32), iv c0, iv c1, iv c2, iv c3, iv c4, iv c5, iv c6] [(.int c2), (.int (2 : Int32)), (.ref b2), (.ref b2), (.ref b1), (.ref b1)])
  obtain ⟨cl5, Ar5, q5, Sz5, Nn5, Hh5, Gg5⟩ := id V4
  obtain ⟨T5, h5, X5, e5, W5, st5⟩ := stC X4 hx hZ e4 Ar5 (j := (2 : Int32)) (inb_of Sz5 ⟨by decide, by decide⟩) (g := (mkF m 82 #[iv (3 : Int32), iv c0, iv c1, iv c2, iv c3, iv c4, iv c5, iv c6] [(.int c2), (.int (2 : Int32)), (.ref b2), (.ref b2), (.ref b1), (.ref b1)])) rfl rfl (hb hby d10_82)
  have V5 : Arv Z h5 b2 k2 .char (3 : Int32) [(.int (nar .char c0)), (.int (nar .char c1)), (.int (nar .char c2))] (.int (0 : Int32)) := Arv.set Ar5 q5 Sz5 Nn5 Hh5 Gg5 (fits_nar_char _) W5 2 rfl (Nat.le_of_ble_eq_true rfl)
  have f5_0 := f4_0.wr W5
  have f5_1 := f4_1.wr W5
  have f5_2 := f4_2.other W5 (Or.inl ne2_b1)
  have f5_3 := f4_3.other W5 (Or.inl ne2_b1)
  have Zs5 : n0 ≤ h5.size := Nat.le_trans Zs4 (Nat.le_of_eq W5.size.symm)
  have K5 := K4.wr W5 (Or.inr sz2)
  have N5 := Fr.snoc X5 N4 gg2
  refine own_st st5 ?_
  show own_Goes _ _ _ _ _ _ _ T5 (mkF m 83 #[iv (3 : Int32), iv c0, iv c1, iv c2, iv c3, iv c4, iv c5, iv c6] [(.ref b2), (.ref b1), (.ref b1)])
  obtain ⟨_, _, ⟨T6, L6, k6, n6⟩, -, X6, ⟨Lc6, hQ6, l6, y6, z6⟩, st6⟩ := X5.specialBack hx (y := yy10) rfl hown (mvT hZ (own_w hw 55 rfl)) (mvT hZ (own_w hw 56 rfl)) (mvT hZ (own_w hw 57 rfl)) (by decide) (StrChars.Road.backV (W := 1) hZ (own_hws hw) (kI := 4) (own_w hw 6 rfl) (cs := [(nar .char c0), (nar .char c1), (nar .char c2)]) (bs := [(own_by c0), (own_by c1), (own_by c2)]) (n := 3) gg1 Zs5 f5_1 f5_2 f5_3 V5 f5_0 (by assumption) rfl rfl (by decide) (by decide) (List.forall_mem_cons.mpr ⟨own_hp (by assumption), (List.forall_mem_cons.mpr ⟨own_hp (by assumption), (List.forall_mem_cons.mpr ⟨own_hp (by assumption), (fun _ q => nomatch q)⟩)⟩)⟩) (by rw [own_narc (by assumption), own_narc (by assumption), own_narc (by assumption)]; rfl) (by decide) (by decide)) (g := (mkF m 83 #[iv (3 : Int32), iv c0, iv c1, iv c2, iv c3, iv c4, iv c5, iv c6] [(.ref b2), (.ref b1), (.ref b1)])) rfl (by rw [hml]; rfl) (Steps.refl _) (a := b1) (argsL := [(.ref b2)]) (rest := [(.ref b1)]) (lenOf pd_8 rfl) rfl (by show 2 * 0 + _ ≤ _; exact Nat.le_of_eq rfl) (hb hby d10_83) (fun _ _ => ⟨rfl, e5, (by decide : 2 + 1 ≤ _), (by decide : 7 + 3 ≤ _)⟩)
  dsimp only [Pt.U, Pt.locs, Pt.cells, Pt.slots] at X6 l6 y6 z6 st6 hQ6
  subst l6 y6 z6
  obtain ⟨rfl, Nq6, Kq6, u6_0, u6_1, x6_d, x6_kd, u6_2, u6_3, u6_4, u6_5, u6_6⟩ := hQ6
  have N6 := Fr.app N5 Nq6
  have f6_0 := own_Sta_keep f5_0 Kq6 (nsS f5_1.nostat ns0)
  have f6_1 := f5_1.keep Kq6
  have f6_4 := V5.keep Kq6 (ninS (Ne.symm ne2_b1) nin0)
  have Zs6 : n0 ≤ T6.heap.size := Nat.le_trans Zs5 Kq6.1
  have K6 := K5.trans Kq6 (allS (Or.inr sz1) all0)
  have ne6_b1 : b1 ≠ x6_d := Nat.ne_of_lt (Nat.lt_of_lt_of_le f5_1.lt u6_3)
  have ne6_b2 : b2 ≠ x6_d := Nat.ne_of_lt (Nat.lt_of_lt_of_le V5.lt u6_3)
  have sz6_d : h0.size ≤ x6_d := Nat.le_trans K5.1 u6_3
  have gg6_d : n0 ≤ x6_d := Nat.le_trans Zs5 u6_3
  refine own_st (fun _ kk_ => st6.trans kk_) ?_
  show own_Goes _ _ _ _ _ _ _ T6 (mkF m 86 #[iv (3 : Int32), iv c0, iv c1, iv c2, iv c3, iv c4, iv c5, iv c6] [(.ref b1)])
  refine own_retA X6 hx hlk rfl Bd.returns rfl (hb hby d10_86) (by decide) (by decide) ?_
  show Q10_3 Z c0 c1 c2 c3 c4 c5 c6 cs h0 n0 (some (.ref b1)) T6.heap _
  exact ⟨b1, x6_d, x6_kd, rfl, N6, K6, sz1, u6_0, u6_1, u6_5, u6_6⟩
abbrev rRrm10_4 : Room := { frames := 4, cells := 3, slots := 12, locals := 66 }
theorem d10_87 : decode method_5_code 87 = .ok (.iload_n 0, 1) := by decide +kernel
theorem d10_88 : decode method_5_code 88 = .ok (.iconst 4, 1) := by decide +kernel
theorem d10_89 : decode method_5_code 89 = .ok (.if_icmp .ne 31, 3) := by decide +kernel
theorem d10_92 : decode method_5_code 92 = .ok (.new 39, 3) := by decide +kernel
theorem d10_95 : decode method_5_code 95 = .ok (.dup, 1) := by decide +kernel
theorem d10_96 : decode method_5_code 96 = .ok (.iconst 4, 1) := by decide +kernel
theorem d10_97 : decode method_5_code 97 = .ok (.newarray .char, 2) := by decide +kernel
theorem d10_99 : decode method_5_code 99 = .ok (.dup, 1) := by decide +kernel
theorem d10_100 : decode method_5_code 100 = .ok (.iconst 0, 1) := by decide +kernel
theorem d10_101 : decode method_5_code 101 = .ok (.iload_n 1, 1) := by decide +kernel
theorem d10_102 : decode method_5_code 102 = .ok (.castore, 1) := by decide +kernel
theorem d10_103 : decode method_5_code 103 = .ok (.dup, 1) := by decide +kernel
theorem d10_104 : decode method_5_code 104 = .ok (.iconst 1, 1) := by decide +kernel
theorem d10_105 : decode method_5_code 105 = .ok (.iload_n 2, 1) := by decide +kernel
theorem d10_106 : decode method_5_code 106 = .ok (.castore, 1) := by decide +kernel
theorem d10_107 : decode method_5_code 107 = .ok (.dup, 1) := by decide +kernel
theorem d10_108 : decode method_5_code 108 = .ok (.iconst 2, 1) := by decide +kernel
theorem d10_109 : decode method_5_code 109 = .ok (.iload_n 3, 1) := by decide +kernel
theorem d10_110 : decode method_5_code 110 = .ok (.castore, 1) := by decide +kernel
theorem d10_111 : decode method_5_code 111 = .ok (.dup, 1) := by decide +kernel
theorem d10_112 : decode method_5_code 112 = .ok (.iconst 3, 1) := by decide +kernel
theorem d10_113 : decode method_5_code 113 = .ok (.iload 4, 2) := by decide +kernel
theorem d10_115 : decode method_5_code 115 = .ok (.castore, 1) := by decide +kernel
theorem d10_116 : decode method_5_code 116 = .ok (.invokespecial 48, 3) := by decide +kernel
theorem d10_119 : decode method_5_code 119 = .ok (.areturn, 1) := by decide +kernel
theorem pn_rm10_4 : plainFor yy11 = true := by first | exact plainFor_of_name (by first | (simp [plainName, overriddenIn]; done) | decide +kernel) | decide +kernel
theorem ef_rm10_4 (m : MethodId) (c0 : Int32) (c1 : Int32) (c2 : Int32) (c3 : Int32) (c4 : Int32) (c5 : Int32) (c6 : Int32) : entryFrame m #[(.int (4 : Int32)), (.int c0), (.int c1), (.int c2), (.int c3), (.int c4), (.int c5), (.int c6)] 8 = (mkF m 0 #[iv (4 : Int32), iv c0, iv c1, iv c2, iv c3, iv c4, iv c5, iv c6] []) := by first | (simp [entryFrame, mkF, argsToLocals, Value.category]; done) | rfl
def Q10_4 (Z : State) (c0 : Int32) (c1 : Int32) (c2 : Int32) (c3 : Int32) (c4 : Int32) (c5 : Int32) (c6 : Int32) (cs : Int32) (h0 : Heap) (n0 : Nat) (v_ : Option Value) (h_ : Heap) (L_ : List Loc) : Prop := ∃ y : Addr, ∃ d : Addr, ∃ kd : ClassId, (v_ = some (.ref y)) ∧ (Fr n0 L_) ∧ (Keep h0 h_ []) ∧ (h0.size ≤ y) ∧ (Exa Z h_ y "java/lang/String") ∧ (Fld Z h_ y "java/lang/String" "coder" "B" (.int (0 : Int32))) ∧ (Fld Z h_ y "java/lang/String" "value" "[B" (.ref d)) ∧ (Arv Z h_ d kd .byte (4 : Int32) [(.int (own_by c0)), (.int (own_by c1)), (.int (own_by c2)), (.int (own_by c3))] (.int (0 : Int32)))
set_option maxRecDepth 65536 in
set_option maxHeartbeats 40000000 in
theorem rm10_4 (l : Launch) (Z : State) (a0 : Array Value) (hw : ∀ d ∈ tables_1, d.before a0 Z = true) (ws : List Jvm.Cond) (c0 : Int32) (c1 : Int32) (c2 : Int32) (c3 : Int32) (c4 : Int32) (c5 : Int32) (c6 : Int32) (cs : Int32) (h0 : Heap) (n0 : Nat) (Z0 : n0 ≤ h0.size) (p_0 : Sta Z h0 "java/lang/String" "COMPACT_STRINGS" "Z" (.int cs)) (hcs : ¬ cs = (0 : Int32)) (hi0 : own_in c0) (hi1 : own_in c1) (hi2 : own_in c2) (hi3 : own_in c3) :
    MetFree l yy11 (head1 (Jvm.Cond.code yy11 method_5_code 8 (some (.object "java/lang/String")) :: ws) rRrm10_4) (fun a_ U_ => a_ = #[(.int (4 : Int32)), (.int c0), (.int c1), (.int c2), (.int c3), (.int c4), (.int c5), (.int c6)] ∧ Z.Warmed39 U_.vm ∧ U_.heap = h0) (fun _ _ _ _ _ => True) (fun _ U_ o_ U1_ => ∃ v_ L_, o_ = .returned v_ ∧ Q10_4 Z c0 c1 c2 c3 c4 c5 c6 cs h0 n0 v_ U1_.heap L_ ∧ FrameEnd U_ o_ U1_ L_ rRrm10_4.cells rRrm10_4.slots) := by
  refine MetFree.of_bodySF pn_rm10_4 hisR ?_
  intro p e s m args below meth c s₁ Bd hml0 hP hK
  obtain ⟨rfl, hZ, hh⟩ := hP
  have hx := Bd.exec
  have hby := Bd.bytes
  have hlk : meth.locks = false := Bd.notSynchronized
  have hml : c.maxLocals = 8 := hml0
  have hown : s.vm.findClass "com/example/majra/majra/lang/ParameterKindNamedPinLaw" = some m.cls := findClass_of_methodNamed Bd.named
  have hnm := (name_of_methodNamed Bd.named Bd.method).1
  have X0 : Stand p l e rRrm10_4 s m #[(.int (4 : Int32)), (.int c0), (.int c1), (.int c2), (.int c3), (.int c4), (.int c5), (.int c6)] below meth c s₁ [] 0 0 := Stand.of_body Bd
  have e0 : s₁.heap = h0 := by rw [← hh, Bd.state]; rfl
  have N0 := Fr.nil n0
  show own_Goes p e below s (Q10_4 Z c0 c1 c2 c3 c4 c5 c6 cs h0 n0) rRrm10_4.cells rRrm10_4.slots s₁ (entryFrame m #[(.int (4 : Int32)), (.int c0), (.int c1), (.int c2), (.int c3), (.int c4), (.int c5), (.int c6)] 8)
  rw [ef_rm10_4 m c0 c1 c2 c3 c4 c5 c6]
  show own_Goes p e below s (Q10_4 Z c0 c1 c2 c3 c4 c5 c6 cs h0 n0) rRrm10_4.cells rRrm10_4.slots s₁ (mkF m 0 #[iv (4 : Int32), iv c0, iv c1, iv c2, iv c3, iv c4, iv c5, iv c6] [])
  refine own_st (fun _ kk_ => XS.iloadN X0.here hx rfl (hb hby d10_0) rfl (XS.ifYes X0.here hx rfl (pc0 := 1) (pc' := 15) rfl (hb hby d10_1) rfl (XT.i0_ne_t (by decide)) (by decide) (by decide) (XS.iloadN X0.here hx rfl (hb hby d10_15) rfl (XS.iconst X0.here hx rfl (hb hby d10_16) (XS.icmpYes X0.here hx rfl (pc0 := 17) (pc' := 35) rfl (hb hby d10_17) rfl (XT.ii_ne_t (by decide)) (by decide) (by decide) (XS.iloadN X0.here hx rfl (hb hby d10_35) rfl (XS.iconst X0.here hx rfl (hb hby d10_36) (XS.icmpYes X0.here hx rfl (pc0 := 37) (pc' := 59) rfl (hb hby d10_37) rfl (XT.ii_ne_t (by decide)) (by decide) (by decide) (XS.iloadN X0.here hx rfl (hb hby d10_59) rfl (XS.iconst X0.here hx rfl (hb hby d10_60) (XS.icmpYes X0.here hx rfl (pc0 := 61) (pc' := 87) rfl (hb hby d10_61) rfl (XT.ii_ne_t (by decide)) (by decide) (by decide) (XS.iloadN X0.here hx rfl (hb hby d10_87) rfl kk_)))))))))))) ?_
  show own_Goes _ _ _ _ _ _ _ s₁ (mkF m 88 #[iv (4 : Int32), iv c0, iv c1, iv c2, iv c3, iv c4, iv c5, iv c6] [(.int (4 : Int32))])
  refine own_st (fun _ kk_ => XS.iconst X0.here hx rfl (hb hby d10_88) (XS.icmpNo X0.here hx rfl (hb hby d10_89) rfl (XT.ii_ne_f (by decide)) kk_)) ?_
  show own_Goes _ _ _ _ _ _ _ s₁ (mkF m 92 #[iv (4 : Int32), iv c0, iv c1, iv c2, iv c3, iv c4, iv c5, iv c6] [])
  obtain ⟨T1, h1, X1, e1, E1, A1, D1, -, st1⟩ := newO X0 hx hZ hown (own_w hw 53 rfl) (own_w hw 6 rfl) (own_w hw 5 rfl) e0 (g := (mkF m 92 #[iv (4 : Int32), iv c0, iv c1, iv c2, iv c3, iv c4, iv c5, iv c6] [])) rfl (hb hby d10_92) (by decide) (by decide)
  obtain ⟨b1, gx1⟩ : ∃ z, z = h0.size := ⟨_, rfl⟩
  rw [← gx1] at A1 D1 st1
  have gg1 : n0 ≤ b1 := Nat.le_trans Z0 (Nat.le_of_eq gx1.symm)
  have sz1 : h0.size ≤ b1 := Nat.le_trans (Keep.refl h0 []).1 (Nat.le_of_eq gx1.symm)
  have f1_0 := p_0.ext E1
  have Zs1 : n0 ≤ h1.size := Nat.le_trans Z0 E1.1
  have K1 := (Keep.refl h0 []).ext E1
  have fn1_value : Fld Z h1 b1 "java/lang/String" "value" "[B" .null := D1 (Or.inr (own_w hw 8 rfl)) (ty := (.array .byte)) (by decide)
  have fn1_coder : Fld Z h1 b1 "java/lang/String" "coder" "B" (.int (0 : Int32)) := D1 (Or.inr (own_w hw 9 rfl)) (ty := .byte) (by decide)
  refine own_st st1 ?_
  show own_Goes _ _ _ _ _ _ _ T1 (mkF m 95 #[iv (4 : Int32), iv c0, iv c1, iv c2, iv c3, iv c4, iv c5, iv c6] [(.ref b1)])
  refine own_st (fun _ kk_ => XS.dup X1.here hx rfl (hb hby d10_95) rfl rfl (XS.iconst X1.here hx rfl (hb hby d10_96) kk_)) ?_
  show own_Goes _ _ _ _ _ _ _ T1 (mkF m 97 #[iv (4 : Int32), iv c0, iv c1, iv c2, iv c3, iv c4, iv c5, iv c6] [(.int (4 : Int32)), (.ref b1), (.ref b1)])
  obtain ⟨T2, h2, k2, X2, e2, E2, A2, st2⟩ := newP X1 hx hZ (own_w hw 54 rfl) e1 (g := (mkF m 97 #[iv (4 : Int32), iv c0, iv c1, iv c2, iv c3, iv c4, iv c5, iv c6] [(.int (4 : Int32)), (.ref b1), (.ref b1)])) rfl (hb hby d10_97) rfl (by decide) (cap := 4) (by decide) (by decide) (by decide) (by decide)
  obtain ⟨b2, gx2⟩ : ∃ z, z = h1.size := ⟨_, rfl⟩
  rw [← gx2] at A2 st2
  have ne2_b1 : b1 ≠ b2 := Nat.ne_of_lt (Nat.lt_of_lt_of_eq A1.lt gx2.symm)
  have gg2 : n0 ≤ b2 := Nat.le_trans Zs1 (Nat.le_of_eq gx2.symm)
  have sz2 : h0.size ≤ b2 := Nat.le_trans K1.1 (Nat.le_of_eq gx2.symm)
  have f2_0 := f1_0.ext E2
  have f2_1 := A1.ext E2
  have f2_2 := fn1_value.ext E2
  have f2_3 := fn1_coder.ext E2
  have Zs2 : n0 ≤ h2.size := Nat.le_trans Zs1 E2.1
  have K2 := K1.ext E2
  have V2 : Arv Z h2 b2 k2 .char (4 : Int32) [(.int (0 : Int32)), (.int (0 : Int32)), (.int (0 : Int32)), (.int (0 : Int32))] (.int (0 : Int32)) := (Arv.new A2 (by decide)).pad (pad_rep [] (.int (0 : Int32)) 4)
  refine own_st st2 ?_
  show own_Goes _ _ _ _ _ _ _ T2 (mkF m 99 #[iv (4 : Int32), iv c0, iv c1, iv c2, iv c3, iv c4, iv c5, iv c6] [(.ref b2), (.ref b1), (.ref b1)])
  refine own_st (fun _ kk_ => XS.dup X2.here hx rfl (hb hby d10_99) rfl rfl (XS.iconst X2.here hx rfl (hb hby d10_100) (XS.iloadN X2.here hx rfl (hb hby d10_101) rfl kk_))) ?_
  show own_Goes _ _ _ _ _ _ _ T2 (mkF m 102 #[iv (4 : Int32), iv c0, iv c1, iv c2, iv c3, iv c4, iv c5, iv c6] [(.int c0), (.int (0 : Int32)), (.ref b2), (.ref b2), (.ref b1), (.ref b1)])
  obtain ⟨cl3, Ar3, q3, Sz3, Nn3, Hh3, Gg3⟩ := id V2
  obtain ⟨T3, h3, X3, e3, W3, st3⟩ := stC X2 hx hZ e2 Ar3 (j := (0 : Int32)) (inb_of Sz3 ⟨by decide, by decide⟩) (g := (mkF m 102 #[iv (4 : Int32), iv c0, iv c1, iv c2, iv c3, iv c4, iv c5, iv c6] [(.int c0), (.int (0 : Int32)), (.ref b2), (.ref b2), (.ref b1), (.ref b1)])) rfl rfl (hb hby d10_102)
  have V3 : Arv Z h3 b2 k2 .char (4 : Int32) [(.int (nar .char c0)), (.int (0 : Int32)), (.int (0 : Int32)), (.int (0 : Int32))] (.int (0 : Int32)) := Arv.set Ar3 q3 Sz3 Nn3 Hh3 Gg3 (fits_nar_char _) W3 0 rfl (Nat.le_of_ble_eq_true rfl)
  have f3_0 := f2_0.wr W3
  have f3_1 := f2_1.wr W3
  have f3_2 := f2_2.other W3 (Or.inl ne2_b1)
  have f3_3 := f2_3.other W3 (Or.inl ne2_b1)
  have Zs3 : n0 ≤ h3.size := Nat.le_trans Zs2 (Nat.le_of_eq W3.size.symm)
  have K3 := K2.wr W3 (Or.inr sz2)
  have N3 := Fr.snoc X3 N0 gg2
  refine own_st st3 ?_
  show own_Goes _ _ _ _ _ _ _ T3 (mkF m 103 #[iv (4 : Int32), iv c0, iv c1, iv c2, iv c3, iv c4, iv c5, iv c6] [(.ref b2), (.ref b1), (.ref b1)])
  refine own_st (fun _ kk_ => XS.dup X3.here hx rfl (hb hby d10_103) rfl rfl (XS.iconst X3.here hx rfl (hb hby d10_104) (XS.iloadN X3.here hx rfl (hb hby d10_105) rfl kk_))) ?_
  show own_Goes _ _ _ _ _ _ _ T3 (mkF m 106 #[iv (4 : Int32), iv c0, iv c1, iv c2, iv c3, iv c4, iv c5, iv c6] [(.int c1), (.int (1 : Int32)), (.ref b2), (.ref b2), (.ref b1), (.ref b1)])
  obtain ⟨cl4, Ar4, q4, Sz4, Nn4, Hh4, Gg4⟩ := id V3
  obtain ⟨T4, h4, X4, e4, W4, st4⟩ := stC X3 hx hZ e3 Ar4 (j := (1 : Int32)) (inb_of Sz4 ⟨by decide, by decide⟩) (g := (mkF m 106 #[iv (4 : Int32), iv c0, iv c1, iv c2, iv c3, iv c4, iv c5, iv c6] [(.int c1), (.int (1 : Int32)), (.ref b2), (.ref b2), (.ref b1), (.ref b1)])) rfl rfl (hb hby d10_106)
  have V4 : Arv Z h4 b2 k2 .char (4 : Int32) [(.int (nar .char c0)), (.int (nar .char c1)), (.int (0 : Int32)), (.int (0 : Int32))] (.int (0 : Int32)) := Arv.set Ar4 q4 Sz4 Nn4 Hh4 Gg4 (fits_nar_char _) W4 1 rfl (Nat.le_of_ble_eq_true rfl)
  have f4_0 := f3_0.wr W4
  have f4_1 := f3_1.wr W4
  have f4_2 := f3_2.other W4 (Or.inl ne2_b1)
  have f4_3 := f3_3.other W4 (Or.inl ne2_b1)
  have Zs4 : n0 ≤ h4.size := Nat.le_trans Zs3 (Nat.le_of_eq W4.size.symm)
  have K4 := K3.wr W4 (Or.inr sz2)
  have N4 := Fr.snoc X4 N3 gg2
  refine own_st st4 ?_
  show own_Goes _ _ _ _ _ _ _ T4 (mkF m 107 #[iv (4 : Int32), iv c0, iv c1, iv c2, iv c3, iv c4, iv c5, iv c6] [(.ref b2), (.ref b1), (.ref b1)])
  refine own_st (fun _ kk_ => XS.dup X4.here hx rfl (hb hby d10_107) rfl rfl (XS.iconst X4.here hx rfl (hb hby d10_108) (XS.iloadN X4.here hx rfl (hb hby d10_109) rfl kk_))) ?_
  show own_Goes _ _ _ _ _ _ _ T4 (mkF m 110 #[iv (4 : Int32), iv c0, iv c1, iv c2, iv c3, iv c4, iv c5, iv c6] [(.int c2), (.int (2 : Int32)), (.ref b2), (.ref b2), (.ref b1), (.ref b1)])
  obtain ⟨cl5, Ar5, q5, Sz5, Nn5, Hh5, Gg5⟩ := id V4
  obtain ⟨T5, h5, X5, e5, W5, st5⟩ := stC X4 hx hZ e4 Ar5 (j := (2 : Int32)) (inb_of Sz5 ⟨by decide, by decide⟩) (g := (mkF m 110 #[iv (4 : Int32), iv c0, iv c1, iv c2, iv c3, iv c4, iv c5, iv c6] [(.int c2), (.int (2 : Int32)), (.ref b2), (.ref b2), (.ref b1), (.ref b1)])) rfl rfl (hb hby d10_110)
  have V5 : Arv Z h5 b2 k2 .char (4 : Int32) [(.int (nar .char c0)), (.int (nar .char c1)), (.int (nar .char c2)), (.int (0 : Int32))] (.int (0 : Int32)) := Arv.set Ar5 q5 Sz5 Nn5 Hh5 Gg5 (fits_nar_char _) W5 2 rfl (Nat.le_of_ble_eq_true rfl)
  have f5_0 := f4_0.wr W5
  have f5_1 := f4_1.wr W5
  have f5_2 := f4_2.other W5 (Or.inl ne2_b1)
  have f5_3 := f4_3.other W5 (Or.inl ne2_b1)
  have Zs5 : n0 ≤ h5.size := Nat.le_trans Zs4 (Nat.le_of_eq W5.size.symm)
  have K5 := K4.wr W5 (Or.inr sz2)
  have N5 := Fr.snoc X5 N4 gg2
  refine own_st st5 ?_
  show own_Goes _ _ _ _ _ _ _ T5 (mkF m 111 #[iv (4 : Int32), iv c0, iv c1, iv c2, iv c3, iv c4, iv c5, iv c6] [(.ref b2), (.ref b1), (.ref b1)])
  refine own_st (fun _ kk_ => XS.dup X5.here hx rfl (hb hby d10_111) rfl rfl (XS.iconst X5.here hx rfl (hb hby d10_112) (XS.iload X5.here hx rfl (hb hby d10_113) rfl kk_))) ?_
  show own_Goes _ _ _ _ _ _ _ T5 (mkF m 115 #[iv (4 : Int32), iv c0, iv c1, iv c2, iv c3, iv c4, iv c5, iv c6] [(.int c3), (.int (3 : Int32)), (.ref b2), (.ref b2), (.ref b1), (.ref b1)])
  obtain ⟨cl6, Ar6, q6, Sz6, Nn6, Hh6, Gg6⟩ := id V5
  obtain ⟨T6, h6, X6, e6, W6, st6⟩ := stC X5 hx hZ e5 Ar6 (j := (3 : Int32)) (inb_of Sz6 ⟨by decide, by decide⟩) (g := (mkF m 115 #[iv (4 : Int32), iv c0, iv c1, iv c2, iv c3, iv c4, iv c5, iv c6] [(.int c3), (.int (3 : Int32)), (.ref b2), (.ref b2), (.ref b1), (.ref b1)])) rfl rfl (hb hby d10_115)
  have V6 : Arv Z h6 b2 k2 .char (4 : Int32) [(.int (nar .char c0)), (.int (nar .char c1)), (.int (nar .char c2)), (.int (nar .char c3))] (.int (0 : Int32)) := Arv.set Ar6 q6 Sz6 Nn6 Hh6 Gg6 (fits_nar_char _) W6 3 rfl (Nat.le_of_ble_eq_true rfl)
  have f6_0 := f5_0.wr W6
  have f6_1 := f5_1.wr W6
  have f6_2 := f5_2.other W6 (Or.inl ne2_b1)
  have f6_3 := f5_3.other W6 (Or.inl ne2_b1)
  have Zs6 : n0 ≤ h6.size := Nat.le_trans Zs5 (Nat.le_of_eq W6.size.symm)
  have K6 := K5.wr W6 (Or.inr sz2)
  have N6 := Fr.snoc X6 N5 gg2
  refine own_st st6 ?_
  show own_Goes _ _ _ _ _ _ _ T6 (mkF m 116 #[iv (4 : Int32), iv c0, iv c1, iv c2, iv c3, iv c4, iv c5, iv c6] [(.ref b2), (.ref b1), (.ref b1)])
  obtain ⟨_, _, ⟨T7, L7, k7, n7⟩, -, X7, ⟨Lc7, hQ7, l7, y7, z7⟩, st7⟩ := X6.specialBack hx (y := yy10) rfl hown (mvT hZ (own_w hw 55 rfl)) (mvT hZ (own_w hw 56 rfl)) (mvT hZ (own_w hw 57 rfl)) (by decide) (StrChars.Road.backV (W := 1) hZ (own_hws hw) (kI := 4) (own_w hw 6 rfl) (cs := [(nar .char c0), (nar .char c1), (nar .char c2), (nar .char c3)]) (bs := [(own_by c0), (own_by c1), (own_by c2), (own_by c3)]) (n := 4) gg1 Zs6 f6_1 f6_2 f6_3 V6 f6_0 (by assumption) rfl rfl (by decide) (by decide) (List.forall_mem_cons.mpr ⟨own_hp (by assumption), (List.forall_mem_cons.mpr ⟨own_hp (by assumption), (List.forall_mem_cons.mpr ⟨own_hp (by assumption), (List.forall_mem_cons.mpr ⟨own_hp (by assumption), (fun _ q => nomatch q)⟩)⟩)⟩)⟩) (by rw [own_narc (by assumption), own_narc (by assumption), own_narc (by assumption), own_narc (by assumption)]; rfl) (by decide) (by decide)) (g := (mkF m 116 #[iv (4 : Int32), iv c0, iv c1, iv c2, iv c3, iv c4, iv c5, iv c6] [(.ref b2), (.ref b1), (.ref b1)])) rfl (by rw [hml]; rfl) (Steps.refl _) (a := b1) (argsL := [(.ref b2)]) (rest := [(.ref b1)]) (lenOf pd_8 rfl) rfl (by show 2 * 0 + _ ≤ _; exact Nat.le_of_eq rfl) (hb hby d10_116) (fun _ _ => ⟨rfl, e6, (by decide : 2 + 1 ≤ _), (by decide : 8 + 4 ≤ _)⟩)
  dsimp only [Pt.U, Pt.locs, Pt.cells, Pt.slots] at X7 l7 y7 z7 st7 hQ7
  subst l7 y7 z7
  obtain ⟨rfl, Nq7, Kq7, u7_0, u7_1, x7_d, x7_kd, u7_2, u7_3, u7_4, u7_5, u7_6⟩ := hQ7
  have N7 := Fr.app N6 Nq7
  have f7_0 := own_Sta_keep f6_0 Kq7 (nsS f6_1.nostat ns0)
  have f7_1 := f6_1.keep Kq7
  have f7_4 := V6.keep Kq7 (ninS (Ne.symm ne2_b1) nin0)
  have Zs7 : n0 ≤ T7.heap.size := Nat.le_trans Zs6 Kq7.1
  have K7 := K6.trans Kq7 (allS (Or.inr sz1) all0)
  have ne7_b1 : b1 ≠ x7_d := Nat.ne_of_lt (Nat.lt_of_lt_of_le f6_1.lt u7_3)
  have ne7_b2 : b2 ≠ x7_d := Nat.ne_of_lt (Nat.lt_of_lt_of_le V6.lt u7_3)
  have sz7_d : h0.size ≤ x7_d := Nat.le_trans K6.1 u7_3
  have gg7_d : n0 ≤ x7_d := Nat.le_trans Zs6 u7_3
  refine own_st (fun _ kk_ => st7.trans kk_) ?_
  show own_Goes _ _ _ _ _ _ _ T7 (mkF m 119 #[iv (4 : Int32), iv c0, iv c1, iv c2, iv c3, iv c4, iv c5, iv c6] [(.ref b1)])
  refine own_retA X7 hx hlk rfl Bd.returns rfl (hb hby d10_119) (by decide) (by decide) ?_
  show Q10_4 Z c0 c1 c2 c3 c4 c5 c6 cs h0 n0 (some (.ref b1)) T7.heap _
  exact ⟨b1, x7_d, x7_kd, rfl, N7, K7, sz1, u7_0, u7_1, u7_5, u7_6⟩
abbrev rRrm10_5 : Room := { frames := 4, cells := 3, slots := 14, locals := 66 }
theorem d10_120 : decode method_5_code 120 = .ok (.iload_n 0, 1) := by decide +kernel
theorem d10_121 : decode method_5_code 121 = .ok (.iconst 5, 1) := by decide +kernel
theorem d10_122 : decode method_5_code 122 = .ok (.if_icmp .ne 36, 3) := by decide +kernel
theorem d10_125 : decode method_5_code 125 = .ok (.new 39, 3) := by decide +kernel
theorem d10_128 : decode method_5_code 128 = .ok (.dup, 1) := by decide +kernel
theorem d10_129 : decode method_5_code 129 = .ok (.iconst 5, 1) := by decide +kernel
theorem d10_130 : decode method_5_code 130 = .ok (.newarray .char, 2) := by decide +kernel
theorem d10_132 : decode method_5_code 132 = .ok (.dup, 1) := by decide +kernel
theorem d10_133 : decode method_5_code 133 = .ok (.iconst 0, 1) := by decide +kernel
theorem d10_134 : decode method_5_code 134 = .ok (.iload_n 1, 1) := by decide +kernel
theorem d10_135 : decode method_5_code 135 = .ok (.castore, 1) := by decide +kernel
theorem d10_136 : decode method_5_code 136 = .ok (.dup, 1) := by decide +kernel
theorem d10_137 : decode method_5_code 137 = .ok (.iconst 1, 1) := by decide +kernel
theorem d10_138 : decode method_5_code 138 = .ok (.iload_n 2, 1) := by decide +kernel
theorem d10_139 : decode method_5_code 139 = .ok (.castore, 1) := by decide +kernel
theorem d10_140 : decode method_5_code 140 = .ok (.dup, 1) := by decide +kernel
theorem d10_141 : decode method_5_code 141 = .ok (.iconst 2, 1) := by decide +kernel
theorem d10_142 : decode method_5_code 142 = .ok (.iload_n 3, 1) := by decide +kernel
theorem d10_143 : decode method_5_code 143 = .ok (.castore, 1) := by decide +kernel
theorem d10_144 : decode method_5_code 144 = .ok (.dup, 1) := by decide +kernel
theorem d10_145 : decode method_5_code 145 = .ok (.iconst 3, 1) := by decide +kernel
theorem d10_146 : decode method_5_code 146 = .ok (.iload 4, 2) := by decide +kernel
theorem d10_148 : decode method_5_code 148 = .ok (.castore, 1) := by decide +kernel
theorem d10_149 : decode method_5_code 149 = .ok (.dup, 1) := by decide +kernel
theorem d10_150 : decode method_5_code 150 = .ok (.iconst 4, 1) := by decide +kernel
theorem d10_151 : decode method_5_code 151 = .ok (.iload 5, 2) := by decide +kernel
theorem d10_153 : decode method_5_code 153 = .ok (.castore, 1) := by decide +kernel
theorem d10_154 : decode method_5_code 154 = .ok (.invokespecial 48, 3) := by decide +kernel
theorem d10_157 : decode method_5_code 157 = .ok (.areturn, 1) := by decide +kernel
theorem pn_rm10_5 : plainFor yy11 = true := by first | exact plainFor_of_name (by first | (simp [plainName, overriddenIn]; done) | decide +kernel) | decide +kernel
theorem ef_rm10_5 (m : MethodId) (c0 : Int32) (c1 : Int32) (c2 : Int32) (c3 : Int32) (c4 : Int32) (c5 : Int32) (c6 : Int32) : entryFrame m #[(.int (5 : Int32)), (.int c0), (.int c1), (.int c2), (.int c3), (.int c4), (.int c5), (.int c6)] 8 = (mkF m 0 #[iv (5 : Int32), iv c0, iv c1, iv c2, iv c3, iv c4, iv c5, iv c6] []) := by first | (simp [entryFrame, mkF, argsToLocals, Value.category]; done) | rfl
def Q10_5 (Z : State) (c0 : Int32) (c1 : Int32) (c2 : Int32) (c3 : Int32) (c4 : Int32) (c5 : Int32) (c6 : Int32) (cs : Int32) (h0 : Heap) (n0 : Nat) (v_ : Option Value) (h_ : Heap) (L_ : List Loc) : Prop := ∃ y : Addr, ∃ d : Addr, ∃ kd : ClassId, (v_ = some (.ref y)) ∧ (Fr n0 L_) ∧ (Keep h0 h_ []) ∧ (h0.size ≤ y) ∧ (Exa Z h_ y "java/lang/String") ∧ (Fld Z h_ y "java/lang/String" "coder" "B" (.int (0 : Int32))) ∧ (Fld Z h_ y "java/lang/String" "value" "[B" (.ref d)) ∧ (Arv Z h_ d kd .byte (5 : Int32) [(.int (own_by c0)), (.int (own_by c1)), (.int (own_by c2)), (.int (own_by c3)), (.int (own_by c4))] (.int (0 : Int32)))
set_option maxRecDepth 65536 in
set_option maxHeartbeats 40000000 in
theorem rm10_5 (l : Launch) (Z : State) (a0 : Array Value) (hw : ∀ d ∈ tables_1, d.before a0 Z = true) (ws : List Jvm.Cond) (c0 : Int32) (c1 : Int32) (c2 : Int32) (c3 : Int32) (c4 : Int32) (c5 : Int32) (c6 : Int32) (cs : Int32) (h0 : Heap) (n0 : Nat) (Z0 : n0 ≤ h0.size) (p_0 : Sta Z h0 "java/lang/String" "COMPACT_STRINGS" "Z" (.int cs)) (hcs : ¬ cs = (0 : Int32)) (hi0 : own_in c0) (hi1 : own_in c1) (hi2 : own_in c2) (hi3 : own_in c3) (hi4 : own_in c4) :
    MetFree l yy11 (head1 (Jvm.Cond.code yy11 method_5_code 8 (some (.object "java/lang/String")) :: ws) rRrm10_5) (fun a_ U_ => a_ = #[(.int (5 : Int32)), (.int c0), (.int c1), (.int c2), (.int c3), (.int c4), (.int c5), (.int c6)] ∧ Z.Warmed39 U_.vm ∧ U_.heap = h0) (fun _ _ _ _ _ => True) (fun _ U_ o_ U1_ => ∃ v_ L_, o_ = .returned v_ ∧ Q10_5 Z c0 c1 c2 c3 c4 c5 c6 cs h0 n0 v_ U1_.heap L_ ∧ FrameEnd U_ o_ U1_ L_ rRrm10_5.cells rRrm10_5.slots) := by
  refine MetFree.of_bodySF pn_rm10_5 hisR ?_
  intro p e s m args below meth c s₁ Bd hml0 hP hK
  obtain ⟨rfl, hZ, hh⟩ := hP
  have hx := Bd.exec
  have hby := Bd.bytes
  have hlk : meth.locks = false := Bd.notSynchronized
  have hml : c.maxLocals = 8 := hml0
  have hown : s.vm.findClass "com/example/majra/majra/lang/ParameterKindNamedPinLaw" = some m.cls := findClass_of_methodNamed Bd.named
  have hnm := (name_of_methodNamed Bd.named Bd.method).1
  have X0 : Stand p l e rRrm10_5 s m #[(.int (5 : Int32)), (.int c0), (.int c1), (.int c2), (.int c3), (.int c4), (.int c5), (.int c6)] below meth c s₁ [] 0 0 := Stand.of_body Bd
  have e0 : s₁.heap = h0 := by rw [← hh, Bd.state]; rfl
  have N0 := Fr.nil n0
  show own_Goes p e below s (Q10_5 Z c0 c1 c2 c3 c4 c5 c6 cs h0 n0) rRrm10_5.cells rRrm10_5.slots s₁ (entryFrame m #[(.int (5 : Int32)), (.int c0), (.int c1), (.int c2), (.int c3), (.int c4), (.int c5), (.int c6)] 8)
  rw [ef_rm10_5 m c0 c1 c2 c3 c4 c5 c6]
  show own_Goes p e below s (Q10_5 Z c0 c1 c2 c3 c4 c5 c6 cs h0 n0) rRrm10_5.cells rRrm10_5.slots s₁ (mkF m 0 #[iv (5 : Int32), iv c0, iv c1, iv c2, iv c3, iv c4, iv c5, iv c6] [])
  refine own_st (fun _ kk_ => XS.iloadN X0.here hx rfl (hb hby d10_0) rfl (XS.ifYes X0.here hx rfl (pc0 := 1) (pc' := 15) rfl (hb hby d10_1) rfl (XT.i0_ne_t (by decide)) (by decide) (by decide) (XS.iloadN X0.here hx rfl (hb hby d10_15) rfl (XS.iconst X0.here hx rfl (hb hby d10_16) (XS.icmpYes X0.here hx rfl (pc0 := 17) (pc' := 35) rfl (hb hby d10_17) rfl (XT.ii_ne_t (by decide)) (by decide) (by decide) (XS.iloadN X0.here hx rfl (hb hby d10_35) rfl (XS.iconst X0.here hx rfl (hb hby d10_36) (XS.icmpYes X0.here hx rfl (pc0 := 37) (pc' := 59) rfl (hb hby d10_37) rfl (XT.ii_ne_t (by decide)) (by decide) (by decide) (XS.iloadN X0.here hx rfl (hb hby d10_59) rfl (XS.iconst X0.here hx rfl (hb hby d10_60) (XS.icmpYes X0.here hx rfl (pc0 := 61) (pc' := 87) rfl (hb hby d10_61) rfl (XT.ii_ne_t (by decide)) (by decide) (by decide) (XS.iloadN X0.here hx rfl (hb hby d10_87) rfl kk_)))))))))))) ?_
  show own_Goes _ _ _ _ _ _ _ s₁ (mkF m 88 #[iv (5 : Int32), iv c0, iv c1, iv c2, iv c3, iv c4, iv c5, iv c6] [(.int (5 : Int32))])
  refine own_st (fun _ kk_ => XS.iconst X0.here hx rfl (hb hby d10_88) (XS.icmpYes X0.here hx rfl (pc0 := 89) (pc' := 120) rfl (hb hby d10_89) rfl (XT.ii_ne_t (by decide)) (by decide) (by decide) (XS.iloadN X0.here hx rfl (hb hby d10_120) rfl (XS.iconst X0.here hx rfl (hb hby d10_121) (XS.icmpNo X0.here hx rfl (hb hby d10_122) rfl (XT.ii_ne_f (by decide)) kk_))))) ?_
  show own_Goes _ _ _ _ _ _ _ s₁ (mkF m 125 #[iv (5 : Int32), iv c0, iv c1, iv c2, iv c3, iv c4, iv c5, iv c6] [])
  obtain ⟨T1, h1, X1, e1, E1, A1, D1, -, st1⟩ := newO X0 hx hZ hown (own_w hw 53 rfl) (own_w hw 6 rfl) (own_w hw 5 rfl) e0 (g := (mkF m 125 #[iv (5 : Int32), iv c0, iv c1, iv c2, iv c3, iv c4, iv c5, iv c6] [])) rfl (hb hby d10_125) (by decide) (by decide)
  obtain ⟨b1, gx1⟩ : ∃ z, z = h0.size := ⟨_, rfl⟩
  rw [← gx1] at A1 D1 st1
  have gg1 : n0 ≤ b1 := Nat.le_trans Z0 (Nat.le_of_eq gx1.symm)
  have sz1 : h0.size ≤ b1 := Nat.le_trans (Keep.refl h0 []).1 (Nat.le_of_eq gx1.symm)
  have f1_0 := p_0.ext E1
  have Zs1 : n0 ≤ h1.size := Nat.le_trans Z0 E1.1
  have K1 := (Keep.refl h0 []).ext E1
  have fn1_value : Fld Z h1 b1 "java/lang/String" "value" "[B" .null := D1 (Or.inr (own_w hw 8 rfl)) (ty := (.array .byte)) (by decide)
  have fn1_coder : Fld Z h1 b1 "java/lang/String" "coder" "B" (.int (0 : Int32)) := D1 (Or.inr (own_w hw 9 rfl)) (ty := .byte) (by decide)
  refine own_st st1 ?_
  show own_Goes _ _ _ _ _ _ _ T1 (mkF m 128 #[iv (5 : Int32), iv c0, iv c1, iv c2, iv c3, iv c4, iv c5, iv c6] [(.ref b1)])
  refine own_st (fun _ kk_ => XS.dup X1.here hx rfl (hb hby d10_128) rfl rfl (XS.iconst X1.here hx rfl (hb hby d10_129) kk_)) ?_
  show own_Goes _ _ _ _ _ _ _ T1 (mkF m 130 #[iv (5 : Int32), iv c0, iv c1, iv c2, iv c3, iv c4, iv c5, iv c6] [(.int (5 : Int32)), (.ref b1), (.ref b1)])
  obtain ⟨T2, h2, k2, X2, e2, E2, A2, st2⟩ := newP X1 hx hZ (own_w hw 54 rfl) e1 (g := (mkF m 130 #[iv (5 : Int32), iv c0, iv c1, iv c2, iv c3, iv c4, iv c5, iv c6] [(.int (5 : Int32)), (.ref b1), (.ref b1)])) rfl (hb hby d10_130) rfl (by decide) (cap := 5) (by decide) (by decide) (by decide) (by decide)
  obtain ⟨b2, gx2⟩ : ∃ z, z = h1.size := ⟨_, rfl⟩
  rw [← gx2] at A2 st2
  have ne2_b1 : b1 ≠ b2 := Nat.ne_of_lt (Nat.lt_of_lt_of_eq A1.lt gx2.symm)
  have gg2 : n0 ≤ b2 := Nat.le_trans Zs1 (Nat.le_of_eq gx2.symm)
  have sz2 : h0.size ≤ b2 := Nat.le_trans K1.1 (Nat.le_of_eq gx2.symm)
  have f2_0 := f1_0.ext E2
  have f2_1 := A1.ext E2
  have f2_2 := fn1_value.ext E2
  have f2_3 := fn1_coder.ext E2
  have Zs2 : n0 ≤ h2.size := Nat.le_trans Zs1 E2.1
  have K2 := K1.ext E2
  have V2 : Arv Z h2 b2 k2 .char (5 : Int32) [(.int (0 : Int32)), (.int (0 : Int32)), (.int (0 : Int32)), (.int (0 : Int32)), (.int (0 : Int32))] (.int (0 : Int32)) := (Arv.new A2 (by decide)).pad (pad_rep [] (.int (0 : Int32)) 5)
  refine own_st st2 ?_
  show own_Goes _ _ _ _ _ _ _ T2 (mkF m 132 #[iv (5 : Int32), iv c0, iv c1, iv c2, iv c3, iv c4, iv c5, iv c6] [(.ref b2), (.ref b1), (.ref b1)])
  refine own_st (fun _ kk_ => XS.dup X2.here hx rfl (hb hby d10_132) rfl rfl (XS.iconst X2.here hx rfl (hb hby d10_133) (XS.iloadN X2.here hx rfl (hb hby d10_134) rfl kk_))) ?_
  show own_Goes _ _ _ _ _ _ _ T2 (mkF m 135 #[iv (5 : Int32), iv c0, iv c1, iv c2, iv c3, iv c4, iv c5, iv c6] [(.int c0), (.int (0 : Int32)), (.ref b2), (.ref b2), (.ref b1), (.ref b1)])
  obtain ⟨cl3, Ar3, q3, Sz3, Nn3, Hh3, Gg3⟩ := id V2
  obtain ⟨T3, h3, X3, e3, W3, st3⟩ := stC X2 hx hZ e2 Ar3 (j := (0 : Int32)) (inb_of Sz3 ⟨by decide, by decide⟩) (g := (mkF m 135 #[iv (5 : Int32), iv c0, iv c1, iv c2, iv c3, iv c4, iv c5, iv c6] [(.int c0), (.int (0 : Int32)), (.ref b2), (.ref b2), (.ref b1), (.ref b1)])) rfl rfl (hb hby d10_135)
  have V3 : Arv Z h3 b2 k2 .char (5 : Int32) [(.int (nar .char c0)), (.int (0 : Int32)), (.int (0 : Int32)), (.int (0 : Int32)), (.int (0 : Int32))] (.int (0 : Int32)) := Arv.set Ar3 q3 Sz3 Nn3 Hh3 Gg3 (fits_nar_char _) W3 0 rfl (Nat.le_of_ble_eq_true rfl)
  have f3_0 := f2_0.wr W3
  have f3_1 := f2_1.wr W3
  have f3_2 := f2_2.other W3 (Or.inl ne2_b1)
  have f3_3 := f2_3.other W3 (Or.inl ne2_b1)
  have Zs3 : n0 ≤ h3.size := Nat.le_trans Zs2 (Nat.le_of_eq W3.size.symm)
  have K3 := K2.wr W3 (Or.inr sz2)
  have N3 := Fr.snoc X3 N0 gg2
  refine own_st st3 ?_
  show own_Goes _ _ _ _ _ _ _ T3 (mkF m 136 #[iv (5 : Int32), iv c0, iv c1, iv c2, iv c3, iv c4, iv c5, iv c6] [(.ref b2), (.ref b1), (.ref b1)])
  refine own_st (fun _ kk_ => XS.dup X3.here hx rfl (hb hby d10_136) rfl rfl (XS.iconst X3.here hx rfl (hb hby d10_137) (XS.iloadN X3.here hx rfl (hb hby d10_138) rfl kk_))) ?_
  show own_Goes _ _ _ _ _ _ _ T3 (mkF m 139 #[iv (5 : Int32), iv c0, iv c1, iv c2, iv c3, iv c4, iv c5, iv c6] [(.int c1), (.int (1 : Int32)), (.ref b2), (.ref b2), (.ref b1), (.ref b1)])
  obtain ⟨cl4, Ar4, q4, Sz4, Nn4, Hh4, Gg4⟩ := id V3
  obtain ⟨T4, h4, X4, e4, W4, st4⟩ := stC X3 hx hZ e3 Ar4 (j := (1 : Int32)) (inb_of Sz4 ⟨by decide, by decide⟩) (g := (mkF m 139 #[iv (5 : Int32), iv c0, iv c1, iv c2, iv c3, iv c4, iv c5, iv c6] [(.int c1), (.int (1 : Int32)), (.ref b2), (.ref b2), (.ref b1), (.ref b1)])) rfl rfl (hb hby d10_139)
  have V4 : Arv Z h4 b2 k2 .char (5 : Int32) [(.int (nar .char c0)), (.int (nar .char c1)), (.int (0 : Int32)), (.int (0 : Int32)), (.int (0 : Int32))] (.int (0 : Int32)) := Arv.set Ar4 q4 Sz4 Nn4 Hh4 Gg4 (fits_nar_char _) W4 1 rfl (Nat.le_of_ble_eq_true rfl)
  have f4_0 := f3_0.wr W4
  have f4_1 := f3_1.wr W4
  have f4_2 := f3_2.other W4 (Or.inl ne2_b1)
  have f4_3 := f3_3.other W4 (Or.inl ne2_b1)
  have Zs4 : n0 ≤ h4.size := Nat.le_trans Zs3 (Nat.le_of_eq W4.size.symm)
  have K4 := K3.wr W4 (Or.inr sz2)
  have N4 := Fr.snoc X4 N3 gg2
  refine own_st st4 ?_
  show own_Goes _ _ _ _ _ _ _ T4 (mkF m 140 #[iv (5 : Int32), iv c0, iv c1, iv c2, iv c3, iv c4, iv c5, iv c6] [(.ref b2), (.ref b1), (.ref b1)])
  refine own_st (fun _ kk_ => XS.dup X4.here hx rfl (hb hby d10_140) rfl rfl (XS.iconst X4.here hx rfl (hb hby d10_141) (XS.iloadN X4.here hx rfl (hb hby d10_142) rfl kk_))) ?_
  show own_Goes _ _ _ _ _ _ _ T4 (mkF m 143 #[iv (5 : Int32), iv c0, iv c1, iv c2, iv c3, iv c4, iv c5, iv c6] [(.int c2), (.int (2 : Int32)), (.ref b2), (.ref b2), (.ref b1), (.ref b1)])
  obtain ⟨cl5, Ar5, q5, Sz5, Nn5, Hh5, Gg5⟩ := id V4
  obtain ⟨T5, h5, X5, e5, W5, st5⟩ := stC X4 hx hZ e4 Ar5 (j := (2 : Int32)) (inb_of Sz5 ⟨by decide, by decide⟩) (g := (mkF m 143 #[iv (5 : Int32), iv c0, iv c1, iv c2, iv c3, iv c4, iv c5, iv c6] [(.int c2), (.int (2 : Int32)), (.ref b2), (.ref b2), (.ref b1), (.ref b1)])) rfl rfl (hb hby d10_143)
  have V5 : Arv Z h5 b2 k2 .char (5 : Int32) [(.int (nar .char c0)), (.int (nar .char c1)), (.int (nar .char c2)), (.int (0 : Int32)), (.int (0 : Int32))] (.int (0 : Int32)) := Arv.set Ar5 q5 Sz5 Nn5 Hh5 Gg5 (fits_nar_char _) W5 2 rfl (Nat.le_of_ble_eq_true rfl)
  have f5_0 := f4_0.wr W5
  have f5_1 := f4_1.wr W5
  have f5_2 := f4_2.other W5 (Or.inl ne2_b1)
  have f5_3 := f4_3.other W5 (Or.inl ne2_b1)
  have Zs5 : n0 ≤ h5.size := Nat.le_trans Zs4 (Nat.le_of_eq W5.size.symm)
  have K5 := K4.wr W5 (Or.inr sz2)
  have N5 := Fr.snoc X5 N4 gg2
  refine own_st st5 ?_
  show own_Goes _ _ _ _ _ _ _ T5 (mkF m 144 #[iv (5 : Int32), iv c0, iv c1, iv c2, iv c3, iv c4, iv c5, iv c6] [(.ref b2), (.ref b1), (.ref b1)])
  refine own_st (fun _ kk_ => XS.dup X5.here hx rfl (hb hby d10_144) rfl rfl (XS.iconst X5.here hx rfl (hb hby d10_145) (XS.iload X5.here hx rfl (hb hby d10_146) rfl kk_))) ?_
  show own_Goes _ _ _ _ _ _ _ T5 (mkF m 148 #[iv (5 : Int32), iv c0, iv c1, iv c2, iv c3, iv c4, iv c5, iv c6] [(.int c3), (.int (3 : Int32)), (.ref b2), (.ref b2), (.ref b1), (.ref b1)])
  obtain ⟨cl6, Ar6, q6, Sz6, Nn6, Hh6, Gg6⟩ := id V5
  obtain ⟨T6, h6, X6, e6, W6, st6⟩ := stC X5 hx hZ e5 Ar6 (j := (3 : Int32)) (inb_of Sz6 ⟨by decide, by decide⟩) (g := (mkF m 148 #[iv (5 : Int32), iv c0, iv c1, iv c2, iv c3, iv c4, iv c5, iv c6] [(.int c3), (.int (3 : Int32)), (.ref b2), (.ref b2), (.ref b1), (.ref b1)])) rfl rfl (hb hby d10_148)
  have V6 : Arv Z h6 b2 k2 .char (5 : Int32) [(.int (nar .char c0)), (.int (nar .char c1)), (.int (nar .char c2)), (.int (nar .char c3)), (.int (0 : Int32))] (.int (0 : Int32)) := Arv.set Ar6 q6 Sz6 Nn6 Hh6 Gg6 (fits_nar_char _) W6 3 rfl (Nat.le_of_ble_eq_true rfl)
  have f6_0 := f5_0.wr W6
  have f6_1 := f5_1.wr W6
  have f6_2 := f5_2.other W6 (Or.inl ne2_b1)
  have f6_3 := f5_3.other W6 (Or.inl ne2_b1)
  have Zs6 : n0 ≤ h6.size := Nat.le_trans Zs5 (Nat.le_of_eq W6.size.symm)
  have K6 := K5.wr W6 (Or.inr sz2)
  have N6 := Fr.snoc X6 N5 gg2
  refine own_st st6 ?_
  show own_Goes _ _ _ _ _ _ _ T6 (mkF m 149 #[iv (5 : Int32), iv c0, iv c1, iv c2, iv c3, iv c4, iv c5, iv c6] [(.ref b2), (.ref b1), (.ref b1)])
  refine own_st (fun _ kk_ => XS.dup X6.here hx rfl (hb hby d10_149) rfl rfl (XS.iconst X6.here hx rfl (hb hby d10_150) (XS.iload X6.here hx rfl (hb hby d10_151) rfl kk_))) ?_
  show own_Goes _ _ _ _ _ _ _ T6 (mkF m 153 #[iv (5 : Int32), iv c0, iv c1, iv c2, iv c3, iv c4, iv c5, iv c6] [(.int c4), (.int (4 : Int32)), (.ref b2), (.ref b2), (.ref b1), (.ref b1)])
  obtain ⟨cl7, Ar7, q7, Sz7, Nn7, Hh7, Gg7⟩ := id V6
  obtain ⟨T7, h7, X7, e7, W7, st7⟩ := stC X6 hx hZ e6 Ar7 (j := (4 : Int32)) (inb_of Sz7 ⟨by decide, by decide⟩) (g := (mkF m 153 #[iv (5 : Int32), iv c0, iv c1, iv c2, iv c3, iv c4, iv c5, iv c6] [(.int c4), (.int (4 : Int32)), (.ref b2), (.ref b2), (.ref b1), (.ref b1)])) rfl rfl (hb hby d10_153)
  have V7 : Arv Z h7 b2 k2 .char (5 : Int32) [(.int (nar .char c0)), (.int (nar .char c1)), (.int (nar .char c2)), (.int (nar .char c3)), (.int (nar .char c4))] (.int (0 : Int32)) := Arv.set Ar7 q7 Sz7 Nn7 Hh7 Gg7 (fits_nar_char _) W7 4 rfl (Nat.le_of_ble_eq_true rfl)
  have f7_0 := f6_0.wr W7
  have f7_1 := f6_1.wr W7
  have f7_2 := f6_2.other W7 (Or.inl ne2_b1)
  have f7_3 := f6_3.other W7 (Or.inl ne2_b1)
  have Zs7 : n0 ≤ h7.size := Nat.le_trans Zs6 (Nat.le_of_eq W7.size.symm)
  have K7 := K6.wr W7 (Or.inr sz2)
  have N7 := Fr.snoc X7 N6 gg2
  refine own_st st7 ?_
  show own_Goes _ _ _ _ _ _ _ T7 (mkF m 154 #[iv (5 : Int32), iv c0, iv c1, iv c2, iv c3, iv c4, iv c5, iv c6] [(.ref b2), (.ref b1), (.ref b1)])
  obtain ⟨_, _, ⟨T8, L8, k8, n8⟩, -, X8, ⟨Lc8, hQ8, l8, y8, z8⟩, st8⟩ := X7.specialBack hx (y := yy10) rfl hown (mvT hZ (own_w hw 55 rfl)) (mvT hZ (own_w hw 56 rfl)) (mvT hZ (own_w hw 57 rfl)) (by decide) (StrChars.Road.backV (W := 1) hZ (own_hws hw) (kI := 4) (own_w hw 6 rfl) (cs := [(nar .char c0), (nar .char c1), (nar .char c2), (nar .char c3), (nar .char c4)]) (bs := [(own_by c0), (own_by c1), (own_by c2), (own_by c3), (own_by c4)]) (n := 5) gg1 Zs7 f7_1 f7_2 f7_3 V7 f7_0 (by assumption) rfl rfl (by decide) (by decide) (List.forall_mem_cons.mpr ⟨own_hp (by assumption), (List.forall_mem_cons.mpr ⟨own_hp (by assumption), (List.forall_mem_cons.mpr ⟨own_hp (by assumption), (List.forall_mem_cons.mpr ⟨own_hp (by assumption), (List.forall_mem_cons.mpr ⟨own_hp (by assumption), (fun _ q => nomatch q)⟩)⟩)⟩)⟩)⟩) (by rw [own_narc (by assumption), own_narc (by assumption), own_narc (by assumption), own_narc (by assumption), own_narc (by assumption)]; rfl) (by decide) (by decide)) (g := (mkF m 154 #[iv (5 : Int32), iv c0, iv c1, iv c2, iv c3, iv c4, iv c5, iv c6] [(.ref b2), (.ref b1), (.ref b1)])) rfl (by rw [hml]; rfl) (Steps.refl _) (a := b1) (argsL := [(.ref b2)]) (rest := [(.ref b1)]) (lenOf pd_8 rfl) rfl (by show 2 * 0 + _ ≤ _; exact Nat.le_of_eq rfl) (hb hby d10_154) (fun _ _ => ⟨rfl, e7, (by decide : 2 + 1 ≤ _), (by decide : 9 + 5 ≤ _)⟩)
  dsimp only [Pt.U, Pt.locs, Pt.cells, Pt.slots] at X8 l8 y8 z8 st8 hQ8
  subst l8 y8 z8
  obtain ⟨rfl, Nq8, Kq8, u8_0, u8_1, x8_d, x8_kd, u8_2, u8_3, u8_4, u8_5, u8_6⟩ := hQ8
  have N8 := Fr.app N7 Nq8
  have f8_0 := own_Sta_keep f7_0 Kq8 (nsS f7_1.nostat ns0)
  have f8_1 := f7_1.keep Kq8
  have f8_4 := V7.keep Kq8 (ninS (Ne.symm ne2_b1) nin0)
  have Zs8 : n0 ≤ T8.heap.size := Nat.le_trans Zs7 Kq8.1
  have K8 := K7.trans Kq8 (allS (Or.inr sz1) all0)
  have ne8_b1 : b1 ≠ x8_d := Nat.ne_of_lt (Nat.lt_of_lt_of_le f7_1.lt u8_3)
  have ne8_b2 : b2 ≠ x8_d := Nat.ne_of_lt (Nat.lt_of_lt_of_le V7.lt u8_3)
  have sz8_d : h0.size ≤ x8_d := Nat.le_trans K7.1 u8_3
  have gg8_d : n0 ≤ x8_d := Nat.le_trans Zs7 u8_3
  refine own_st (fun _ kk_ => st8.trans kk_) ?_
  show own_Goes _ _ _ _ _ _ _ T8 (mkF m 157 #[iv (5 : Int32), iv c0, iv c1, iv c2, iv c3, iv c4, iv c5, iv c6] [(.ref b1)])
  refine own_retA X8 hx hlk rfl Bd.returns rfl (hb hby d10_157) (by decide) (by decide) ?_
  show Q10_5 Z c0 c1 c2 c3 c4 c5 c6 cs h0 n0 (some (.ref b1)) T8.heap _
  exact ⟨b1, x8_d, x8_kd, rfl, N8, K8, sz1, u8_0, u8_1, u8_5, u8_6⟩
abbrev rRrm10_6 : Room := { frames := 4, cells := 3, slots := 16, locals := 66 }
theorem d10_158 : decode method_5_code 158 = .ok (.iload_n 0, 1) := by decide +kernel
theorem d10_159 : decode method_5_code 159 = .ok (.bipush 6, 2) := by decide +kernel
theorem d10_161 : decode method_5_code 161 = .ok (.if_icmp .ne 42, 3) := by decide +kernel
theorem d10_164 : decode method_5_code 164 = .ok (.new 39, 3) := by decide +kernel
theorem d10_167 : decode method_5_code 167 = .ok (.dup, 1) := by decide +kernel
theorem d10_168 : decode method_5_code 168 = .ok (.bipush 6, 2) := by decide +kernel
theorem d10_170 : decode method_5_code 170 = .ok (.newarray .char, 2) := by decide +kernel
theorem d10_172 : decode method_5_code 172 = .ok (.dup, 1) := by decide +kernel
theorem d10_173 : decode method_5_code 173 = .ok (.iconst 0, 1) := by decide +kernel
theorem d10_174 : decode method_5_code 174 = .ok (.iload_n 1, 1) := by decide +kernel
theorem d10_175 : decode method_5_code 175 = .ok (.castore, 1) := by decide +kernel
theorem d10_176 : decode method_5_code 176 = .ok (.dup, 1) := by decide +kernel
theorem d10_177 : decode method_5_code 177 = .ok (.iconst 1, 1) := by decide +kernel
theorem d10_178 : decode method_5_code 178 = .ok (.iload_n 2, 1) := by decide +kernel
theorem d10_179 : decode method_5_code 179 = .ok (.castore, 1) := by decide +kernel
theorem d10_180 : decode method_5_code 180 = .ok (.dup, 1) := by decide +kernel
theorem d10_181 : decode method_5_code 181 = .ok (.iconst 2, 1) := by decide +kernel
theorem d10_182 : decode method_5_code 182 = .ok (.iload_n 3, 1) := by decide +kernel
theorem d10_183 : decode method_5_code 183 = .ok (.castore, 1) := by decide +kernel
theorem d10_184 : decode method_5_code 184 = .ok (.dup, 1) := by decide +kernel
theorem d10_185 : decode method_5_code 185 = .ok (.iconst 3, 1) := by decide +kernel
theorem d10_186 : decode method_5_code 186 = .ok (.iload 4, 2) := by decide +kernel
theorem d10_188 : decode method_5_code 188 = .ok (.castore, 1) := by decide +kernel
theorem d10_189 : decode method_5_code 189 = .ok (.dup, 1) := by decide +kernel
theorem d10_190 : decode method_5_code 190 = .ok (.iconst 4, 1) := by decide +kernel
theorem d10_191 : decode method_5_code 191 = .ok (.iload 5, 2) := by decide +kernel
theorem d10_193 : decode method_5_code 193 = .ok (.castore, 1) := by decide +kernel
theorem d10_194 : decode method_5_code 194 = .ok (.dup, 1) := by decide +kernel
theorem d10_195 : decode method_5_code 195 = .ok (.iconst 5, 1) := by decide +kernel
theorem d10_196 : decode method_5_code 196 = .ok (.iload 6, 2) := by decide +kernel
theorem d10_198 : decode method_5_code 198 = .ok (.castore, 1) := by decide +kernel
theorem d10_199 : decode method_5_code 199 = .ok (.invokespecial 48, 3) := by decide +kernel
theorem d10_202 : decode method_5_code 202 = .ok (.areturn, 1) := by decide +kernel
theorem pn_rm10_6 : plainFor yy11 = true := by first | exact plainFor_of_name (by first | (simp [plainName, overriddenIn]; done) | decide +kernel) | decide +kernel
theorem ef_rm10_6 (m : MethodId) (c0 : Int32) (c1 : Int32) (c2 : Int32) (c3 : Int32) (c4 : Int32) (c5 : Int32) (c6 : Int32) : entryFrame m #[(.int (6 : Int32)), (.int c0), (.int c1), (.int c2), (.int c3), (.int c4), (.int c5), (.int c6)] 8 = (mkF m 0 #[iv (6 : Int32), iv c0, iv c1, iv c2, iv c3, iv c4, iv c5, iv c6] []) := by first | (simp [entryFrame, mkF, argsToLocals, Value.category]; done) | rfl
def Q10_6 (Z : State) (c0 : Int32) (c1 : Int32) (c2 : Int32) (c3 : Int32) (c4 : Int32) (c5 : Int32) (c6 : Int32) (cs : Int32) (h0 : Heap) (n0 : Nat) (v_ : Option Value) (h_ : Heap) (L_ : List Loc) : Prop := ∃ y : Addr, ∃ d : Addr, ∃ kd : ClassId, (v_ = some (.ref y)) ∧ (Fr n0 L_) ∧ (Keep h0 h_ []) ∧ (h0.size ≤ y) ∧ (Exa Z h_ y "java/lang/String") ∧ (Fld Z h_ y "java/lang/String" "coder" "B" (.int (0 : Int32))) ∧ (Fld Z h_ y "java/lang/String" "value" "[B" (.ref d)) ∧ (Arv Z h_ d kd .byte (6 : Int32) [(.int (own_by c0)), (.int (own_by c1)), (.int (own_by c2)), (.int (own_by c3)), (.int (own_by c4)), (.int (own_by c5))] (.int (0 : Int32)))
set_option maxRecDepth 65536 in
set_option maxHeartbeats 40000000 in
theorem rm10_6 (l : Launch) (Z : State) (a0 : Array Value) (hw : ∀ d ∈ tables_1, d.before a0 Z = true) (ws : List Jvm.Cond) (c0 : Int32) (c1 : Int32) (c2 : Int32) (c3 : Int32) (c4 : Int32) (c5 : Int32) (c6 : Int32) (cs : Int32) (h0 : Heap) (n0 : Nat) (Z0 : n0 ≤ h0.size) (p_0 : Sta Z h0 "java/lang/String" "COMPACT_STRINGS" "Z" (.int cs)) (hcs : ¬ cs = (0 : Int32)) (hi0 : own_in c0) (hi1 : own_in c1) (hi2 : own_in c2) (hi3 : own_in c3) (hi4 : own_in c4) (hi5 : own_in c5) :
    MetFree l yy11 (head1 (Jvm.Cond.code yy11 method_5_code 8 (some (.object "java/lang/String")) :: ws) rRrm10_6) (fun a_ U_ => a_ = #[(.int (6 : Int32)), (.int c0), (.int c1), (.int c2), (.int c3), (.int c4), (.int c5), (.int c6)] ∧ Z.Warmed39 U_.vm ∧ U_.heap = h0) (fun _ _ _ _ _ => True) (fun _ U_ o_ U1_ => ∃ v_ L_, o_ = .returned v_ ∧ Q10_6 Z c0 c1 c2 c3 c4 c5 c6 cs h0 n0 v_ U1_.heap L_ ∧ FrameEnd U_ o_ U1_ L_ rRrm10_6.cells rRrm10_6.slots) := by
  refine MetFree.of_bodySF pn_rm10_6 hisR ?_
  intro p e s m args below meth c s₁ Bd hml0 hP hK
  obtain ⟨rfl, hZ, hh⟩ := hP
  have hx := Bd.exec
  have hby := Bd.bytes
  have hlk : meth.locks = false := Bd.notSynchronized
  have hml : c.maxLocals = 8 := hml0
  have hown : s.vm.findClass "com/example/majra/majra/lang/ParameterKindNamedPinLaw" = some m.cls := findClass_of_methodNamed Bd.named
  have hnm := (name_of_methodNamed Bd.named Bd.method).1
  have X0 : Stand p l e rRrm10_6 s m #[(.int (6 : Int32)), (.int c0), (.int c1), (.int c2), (.int c3), (.int c4), (.int c5), (.int c6)] below meth c s₁ [] 0 0 := Stand.of_body Bd
  have e0 : s₁.heap = h0 := by rw [← hh, Bd.state]; rfl
  have N0 := Fr.nil n0
  show own_Goes p e below s (Q10_6 Z c0 c1 c2 c3 c4 c5 c6 cs h0 n0) rRrm10_6.cells rRrm10_6.slots s₁ (entryFrame m #[(.int (6 : Int32)), (.int c0), (.int c1), (.int c2), (.int c3), (.int c4), (.int c5), (.int c6)] 8)
  rw [ef_rm10_6 m c0 c1 c2 c3 c4 c5 c6]
  show own_Goes p e below s (Q10_6 Z c0 c1 c2 c3 c4 c5 c6 cs h0 n0) rRrm10_6.cells rRrm10_6.slots s₁ (mkF m 0 #[iv (6 : Int32), iv c0, iv c1, iv c2, iv c3, iv c4, iv c5, iv c6] [])
  refine own_st (fun _ kk_ => XS.iloadN X0.here hx rfl (hb hby d10_0) rfl (XS.ifYes X0.here hx rfl (pc0 := 1) (pc' := 15) rfl (hb hby d10_1) rfl (XT.i0_ne_t (by decide)) (by decide) (by decide) (XS.iloadN X0.here hx rfl (hb hby d10_15) rfl (XS.iconst X0.here hx rfl (hb hby d10_16) (XS.icmpYes X0.here hx rfl (pc0 := 17) (pc' := 35) rfl (hb hby d10_17) rfl (XT.ii_ne_t (by decide)) (by decide) (by decide) (XS.iloadN X0.here hx rfl (hb hby d10_35) rfl (XS.iconst X0.here hx rfl (hb hby d10_36) (XS.icmpYes X0.here hx rfl (pc0 := 37) (pc' := 59) rfl (hb hby d10_37) rfl (XT.ii_ne_t (by decide)) (by decide) (by decide) (XS.iloadN X0.here hx rfl (hb hby d10_59) rfl (XS.iconst X0.here hx rfl (hb hby d10_60) (XS.icmpYes X0.here hx rfl (pc0 := 61) (pc' := 87) rfl (hb hby d10_61) rfl (XT.ii_ne_t (by decide)) (by decide) (by decide) (XS.iloadN X0.here hx rfl (hb hby d10_87) rfl kk_)))))))))))) ?_
  show own_Goes _ _ _ _ _ _ _ s₁ (mkF m 88 #[iv (6 : Int32), iv c0, iv c1, iv c2, iv c3, iv c4, iv c5, iv c6] [(.int (6 : Int32))])
  refine own_st (fun _ kk_ => XS.iconst X0.here hx rfl (hb hby d10_88) (XS.icmpYes X0.here hx rfl (pc0 := 89) (pc' := 120) rfl (hb hby d10_89) rfl (XT.ii_ne_t (by decide)) (by decide) (by decide) (XS.iloadN X0.here hx rfl (hb hby d10_120) rfl (XS.iconst X0.here hx rfl (hb hby d10_121) (XS.icmpYes X0.here hx rfl (pc0 := 122) (pc' := 158) rfl (hb hby d10_122) rfl (XT.ii_ne_t (by decide)) (by decide) (by decide) (XS.iloadN X0.here hx rfl (hb hby d10_158) rfl (XS.bipush X0.here hx rfl (hb hby d10_159) (XS.icmpNo X0.here hx rfl (hb hby d10_161) rfl (XT.ii_ne_f (by decide)) kk_)))))))) ?_
  show own_Goes _ _ _ _ _ _ _ s₁ (mkF m 164 #[iv (6 : Int32), iv c0, iv c1, iv c2, iv c3, iv c4, iv c5, iv c6] [])
  obtain ⟨T1, h1, X1, e1, E1, A1, D1, -, st1⟩ := newO X0 hx hZ hown (own_w hw 53 rfl) (own_w hw 6 rfl) (own_w hw 5 rfl) e0 (g := (mkF m 164 #[iv (6 : Int32), iv c0, iv c1, iv c2, iv c3, iv c4, iv c5, iv c6] [])) rfl (hb hby d10_164) (by decide) (by decide)
  obtain ⟨b1, gx1⟩ : ∃ z, z = h0.size := ⟨_, rfl⟩
  rw [← gx1] at A1 D1 st1
  have gg1 : n0 ≤ b1 := Nat.le_trans Z0 (Nat.le_of_eq gx1.symm)
  have sz1 : h0.size ≤ b1 := Nat.le_trans (Keep.refl h0 []).1 (Nat.le_of_eq gx1.symm)
  have f1_0 := p_0.ext E1
  have Zs1 : n0 ≤ h1.size := Nat.le_trans Z0 E1.1
  have K1 := (Keep.refl h0 []).ext E1
  have fn1_value : Fld Z h1 b1 "java/lang/String" "value" "[B" .null := D1 (Or.inr (own_w hw 8 rfl)) (ty := (.array .byte)) (by decide)
  have fn1_coder : Fld Z h1 b1 "java/lang/String" "coder" "B" (.int (0 : Int32)) := D1 (Or.inr (own_w hw 9 rfl)) (ty := .byte) (by decide)
  refine own_st st1 ?_
  show own_Goes _ _ _ _ _ _ _ T1 (mkF m 167 #[iv (6 : Int32), iv c0, iv c1, iv c2, iv c3, iv c4, iv c5, iv c6] [(.ref b1)])
  refine own_st (fun _ kk_ => XS.dup X1.here hx rfl (hb hby d10_167) rfl rfl (XS.bipush X1.here hx rfl (hb hby d10_168) kk_)) ?_
  show own_Goes _ _ _ _ _ _ _ T1 (mkF m 170 #[iv (6 : Int32), iv c0, iv c1, iv c2, iv c3, iv c4, iv c5, iv c6] [(.int (6 : Int32)), (.ref b1), (.ref b1)])
  obtain ⟨T2, h2, k2, X2, e2, E2, A2, st2⟩ := newP X1 hx hZ (own_w hw 54 rfl) e1 (g := (mkF m 170 #[iv (6 : Int32), iv c0, iv c1, iv c2, iv c3, iv c4, iv c5, iv c6] [(.int (6 : Int32)), (.ref b1), (.ref b1)])) rfl (hb hby d10_170) rfl (by decide) (cap := 6) (by decide) (by decide) (by decide) (by decide)
  obtain ⟨b2, gx2⟩ : ∃ z, z = h1.size := ⟨_, rfl⟩
  rw [← gx2] at A2 st2
  have ne2_b1 : b1 ≠ b2 := Nat.ne_of_lt (Nat.lt_of_lt_of_eq A1.lt gx2.symm)
  have gg2 : n0 ≤ b2 := Nat.le_trans Zs1 (Nat.le_of_eq gx2.symm)
  have sz2 : h0.size ≤ b2 := Nat.le_trans K1.1 (Nat.le_of_eq gx2.symm)
  have f2_0 := f1_0.ext E2
  have f2_1 := A1.ext E2
  have f2_2 := fn1_value.ext E2
  have f2_3 := fn1_coder.ext E2
  have Zs2 : n0 ≤ h2.size := Nat.le_trans Zs1 E2.1
  have K2 := K1.ext E2
  have V2 : Arv Z h2 b2 k2 .char (6 : Int32) [(.int (0 : Int32)), (.int (0 : Int32)), (.int (0 : Int32)), (.int (0 : Int32)), (.int (0 : Int32)), (.int (0 : Int32))] (.int (0 : Int32)) := (Arv.new A2 (by decide)).pad (pad_rep [] (.int (0 : Int32)) 6)
  refine own_st st2 ?_
  show own_Goes _ _ _ _ _ _ _ T2 (mkF m 172 #[iv (6 : Int32), iv c0, iv c1, iv c2, iv c3, iv c4, iv c5, iv c6] [(.ref b2), (.ref b1), (.ref b1)])
  refine own_st (fun _ kk_ => XS.dup X2.here hx rfl (hb hby d10_172) rfl rfl (XS.iconst X2.here hx rfl (hb hby d10_173) (XS.iloadN X2.here hx rfl (hb hby d10_174) rfl kk_))) ?_
  show own_Goes _ _ _ _ _ _ _ T2 (mkF m 175 #[iv (6 : Int32), iv c0, iv c1, iv c2, iv c3, iv c4, iv c5, iv c6] [(.int c0), (.int (0 : Int32)), (.ref b2), (.ref b2), (.ref b1), (.ref b1)])
  obtain ⟨cl3, Ar3, q3, Sz3, Nn3, Hh3, Gg3⟩ := id V2
  obtain ⟨T3, h3, X3, e3, W3, st3⟩ := stC X2 hx hZ e2 Ar3 (j := (0 : Int32)) (inb_of Sz3 ⟨by decide, by decide⟩) (g := (mkF m 175 #[iv (6 : Int32), iv c0, iv c1, iv c2, iv c3, iv c4, iv c5, iv c6] [(.int c0), (.int (0 : Int32)), (.ref b2), (.ref b2), (.ref b1), (.ref b1)])) rfl rfl (hb hby d10_175)
  have V3 : Arv Z h3 b2 k2 .char (6 : Int32) [(.int (nar .char c0)), (.int (0 : Int32)), (.int (0 : Int32)), (.int (0 : Int32)), (.int (0 : Int32)), (.int (0 : Int32))] (.int (0 : Int32)) := Arv.set Ar3 q3 Sz3 Nn3 Hh3 Gg3 (fits_nar_char _) W3 0 rfl (Nat.le_of_ble_eq_true rfl)
  have f3_0 := f2_0.wr W3
  have f3_1 := f2_1.wr W3
  have f3_2 := f2_2.other W3 (Or.inl ne2_b1)
  have f3_3 := f2_3.other W3 (Or.inl ne2_b1)
  have Zs3 : n0 ≤ h3.size := Nat.le_trans Zs2 (Nat.le_of_eq W3.size.symm)
  have K3 := K2.wr W3 (Or.inr sz2)
  have N3 := Fr.snoc X3 N0 gg2
  refine own_st st3 ?_
  show own_Goes _ _ _ _ _ _ _ T3 (mkF m 176 #[iv (6 : Int32), iv c0, iv c1, iv c2, iv c3, iv c4, iv c5, iv c6] [(.ref b2), (.ref b1), (.ref b1)])
  refine own_st (fun _ kk_ => XS.dup X3.here hx rfl (hb hby d10_176) rfl rfl (XS.iconst X3.here hx rfl (hb hby d10_177) (XS.iloadN X3.here hx rfl (hb hby d10_178) rfl kk_))) ?_
  show own_Goes _ _ _ _ _ _ _ T3 (mkF m 179 #[iv (6 : Int32), iv c0, iv c1, iv c2, iv c3, iv c4, iv c5, iv c6] [(.int c1), (.int (1 : Int32)), (.ref b2), (.ref b2), (.ref b1), (.ref b1)])
  obtain ⟨cl4, Ar4, q4, Sz4, Nn4, Hh4, Gg4⟩ := id V3
  obtain ⟨T4, h4, X4, e4, W4, st4⟩ := stC X3 hx hZ e3 Ar4 (j := (1 : Int32)) (inb_of Sz4 ⟨by decide, by decide⟩) (g := (mkF m 179 #[iv (6 : Int32), iv c0, iv c1, iv c2, iv c3, iv c4, iv c5, iv c6] [(.int c1), (.int (1 : Int32)), (.ref b2), (.ref b2), (.ref b1), (.ref b1)])) rfl rfl (hb hby d10_179)
  have V4 : Arv Z h4 b2 k2 .char (6 : Int32) [(.int (nar .char c0)), (.int (nar .char c1)), (.int (0 : Int32)), (.int (0 : Int32)), (.int (0 : Int32)), (.int (0 : Int32))] (.int (0 : Int32)) := Arv.set Ar4 q4 Sz4 Nn4 Hh4 Gg4 (fits_nar_char _) W4 1 rfl (Nat.le_of_ble_eq_true rfl)
  have f4_0 := f3_0.wr W4
  have f4_1 := f3_1.wr W4
  have f4_2 := f3_2.other W4 (Or.inl ne2_b1)
  have f4_3 := f3_3.other W4 (Or.inl ne2_b1)
  have Zs4 : n0 ≤ h4.size := Nat.le_trans Zs3 (Nat.le_of_eq W4.size.symm)
  have K4 := K3.wr W4 (Or.inr sz2)
  have N4 := Fr.snoc X4 N3 gg2
  refine own_st st4 ?_
  show own_Goes _ _ _ _ _ _ _ T4 (mkF m 180 #[iv (6 : Int32), iv c0, iv c1, iv c2, iv c3, iv c4, iv c5, iv c6] [(.ref b2), (.ref b1), (.ref b1)])
  refine own_st (fun _ kk_ => XS.dup X4.here hx rfl (hb hby d10_180) rfl rfl (XS.iconst X4.here hx rfl (hb hby d10_181) (XS.iloadN X4.here hx rfl (hb hby d10_182) rfl kk_))) ?_
  show own_Goes _ _ _ _ _ _ _ T4 (mkF m 183 #[iv (6 : Int32), iv c0, iv c1, iv c2, iv c3, iv c4, iv c5, iv c6] [(.int c2), (.int (2 : Int32)), (.ref b2), (.ref b2), (.ref b1), (.ref b1)])
  obtain ⟨cl5, Ar5, q5, Sz5, Nn5, Hh5, Gg5⟩ := id V4
  obtain ⟨T5, h5, X5, e5, W5, st5⟩ := stC X4 hx hZ e4 Ar5 (j := (2 : Int32)) (inb_of Sz5 ⟨by decide, by decide⟩) (g := (mkF m 183 #[iv (6 : Int32), iv c0, iv c1, iv c2, iv c3, iv c4, iv c5, iv c6] [(.int c2), (.int (2 : Int32)), (.ref b2), (.ref b2), (.ref b1), (.ref b1)])) rfl rfl (hb hby d10_183)
  have V5 : Arv Z h5 b2 k2 .char (6 : Int32) [(.int (nar .char c0)), (.int (nar .char c1)), (.int (nar .char c2)), (.int (0 : Int32)), (.int (0 : Int32)), (.int (0 : Int32))] (.int (0 : Int32)) := Arv.set Ar5 q5 Sz5 Nn5 Hh5 Gg5 (fits_nar_char _) W5 2 rfl (Nat.le_of_ble_eq_true rfl)
  have f5_0 := f4_0.wr W5
  have f5_1 := f4_1.wr W5
  have f5_2 := f4_2.other W5 (Or.inl ne2_b1)
  have f5_3 := f4_3.other W5 (Or.inl ne2_b1)
  have Zs5 : n0 ≤ h5.size := Nat.le_trans Zs4 (Nat.le_of_eq W5.size.symm)
  have K5 := K4.wr W5 (Or.inr sz2)
  have N5 := Fr.snoc X5 N4 gg2
  refine own_st st5 ?_
  show own_Goes _ _ _ _ _ _ _ T5 (mkF m 184 #[iv (6 : Int32), iv c0, iv c1, iv c2, iv c3, iv c4, iv c5, iv c6] [(.ref b2), (.ref b1), (.ref b1)])
  refine own_st (fun _ kk_ => XS.dup X5.here hx rfl (hb hby d10_184) rfl rfl (XS.iconst X5.here hx rfl (hb hby d10_185) (XS.iload X5.here hx rfl (hb hby d10_186) rfl kk_))) ?_
  show own_Goes _ _ _ _ _ _ _ T5 (mkF m 188 #[iv (6 : Int32), iv c0, iv c1, iv c2, iv c3, iv c4, iv c5, iv c6] [(.int c3), (.int (3 : Int32)), (.ref b2), (.ref b2), (.ref b1), (.ref b1)])
  obtain ⟨cl6, Ar6, q6, Sz6, Nn6, Hh6, Gg6⟩ := id V5
  obtain ⟨T6, h6, X6, e6, W6, st6⟩ := stC X5 hx hZ e5 Ar6 (j := (3 : Int32)) (inb_of Sz6 ⟨by decide, by decide⟩) (g := (mkF m 188 #[iv (6 : Int32), iv c0, iv c1, iv c2, iv c3, iv c4, iv c5, iv c6] [(.int c3), (.int (3 : Int32)), (.ref b2), (.ref b2), (.ref b1), (.ref b1)])) rfl rfl (hb hby d10_188)
  have V6 : Arv Z h6 b2 k2 .char (6 : Int32) [(.int (nar .char c0)), (.int (nar .char c1)), (.int (nar .char c2)), (.int (nar .char c3)), (.int (0 : Int32)), (.int (0 : Int32))] (.int (0 : Int32)) := Arv.set Ar6 q6 Sz6 Nn6 Hh6 Gg6 (fits_nar_char _) W6 3 rfl (Nat.le_of_ble_eq_true rfl)
  have f6_0 := f5_0.wr W6
  have f6_1 := f5_1.wr W6
  have f6_2 := f5_2.other W6 (Or.inl ne2_b1)
  have f6_3 := f5_3.other W6 (Or.inl ne2_b1)
  have Zs6 : n0 ≤ h6.size := Nat.le_trans Zs5 (Nat.le_of_eq W6.size.symm)
  have K6 := K5.wr W6 (Or.inr sz2)
  have N6 := Fr.snoc X6 N5 gg2
  refine own_st st6 ?_
  show own_Goes _ _ _ _ _ _ _ T6 (mkF m 189 #[iv (6 : Int32), iv c0, iv c1, iv c2, iv c3, iv c4, iv c5, iv c6] [(.ref b2), (.ref b1), (.ref b1)])
  refine own_st (fun _ kk_ => XS.dup X6.here hx rfl (hb hby d10_189) rfl rfl (XS.iconst X6.here hx rfl (hb hby d10_190) (XS.iload X6.here hx rfl (hb hby d10_191) rfl kk_))) ?_
  show own_Goes _ _ _ _ _ _ _ T6 (mkF m 193 #[iv (6 : Int32), iv c0, iv c1, iv c2, iv c3, iv c4, iv c5, iv c6] [(.int c4), (.int (4 : Int32)), (.ref b2), (.ref b2), (.ref b1), (.ref b1)])
  obtain ⟨cl7, Ar7, q7, Sz7, Nn7, Hh7, Gg7⟩ := id V6
  obtain ⟨T7, h7, X7, e7, W7, st7⟩ := stC X6 hx hZ e6 Ar7 (j := (4 : Int32)) (inb_of Sz7 ⟨by decide, by decide⟩) (g := (mkF m 193 #[iv (6 : Int32), iv c0, iv c1, iv c2, iv c3, iv c4, iv c5, iv c6] [(.int c4), (.int (4 : Int32)), (.ref b2), (.ref b2), (.ref b1), (.ref b1)])) rfl rfl (hb hby d10_193)
  have V7 : Arv Z h7 b2 k2 .char (6 : Int32) [(.int (nar .char c0)), (.int (nar .char c1)), (.int (nar .char c2)), (.int (nar .char c3)), (.int (nar .char c4)), (.int (0 : Int32))] (.int (0 : Int32)) := Arv.set Ar7 q7 Sz7 Nn7 Hh7 Gg7 (fits_nar_char _) W7 4 rfl (Nat.le_of_ble_eq_true rfl)
  have f7_0 := f6_0.wr W7
  have f7_1 := f6_1.wr W7
  have f7_2 := f6_2.other W7 (Or.inl ne2_b1)
  have f7_3 := f6_3.other W7 (Or.inl ne2_b1)
  have Zs7 : n0 ≤ h7.size := Nat.le_trans Zs6 (Nat.le_of_eq W7.size.symm)
  have K7 := K6.wr W7 (Or.inr sz2)
  have N7 := Fr.snoc X7 N6 gg2
  refine own_st st7 ?_
  show own_Goes _ _ _ _ _ _ _ T7 (mkF m 194 #[iv (6 : Int32), iv c0, iv c1, iv c2, iv c3, iv c4, iv c5, iv c6] [(.ref b2), (.ref b1), (.ref b1)])
  refine own_st (fun _ kk_ => XS.dup X7.here hx rfl (hb hby d10_194) rfl rfl (XS.iconst X7.here hx rfl (hb hby d10_195) (XS.iload X7.here hx rfl (hb hby d10_196) rfl kk_))) ?_
  show own_Goes _ _ _ _ _ _ _ T7 (mkF m 198 #[iv (6 : Int32), iv c0, iv c1, iv c2, iv c3, iv c4, iv c5, iv c6] [(.int c5), (.int (5 : Int32)), (.ref b2), (.ref b2), (.ref b1), (.ref b1)])
  obtain ⟨cl8, Ar8, q8, Sz8, Nn8, Hh8, Gg8⟩ := id V7
  obtain ⟨T8, h8, X8, e8, W8, st8⟩ := stC X7 hx hZ e7 Ar8 (j := (5 : Int32)) (inb_of Sz8 ⟨by decide, by decide⟩) (g := (mkF m 198 #[iv (6 : Int32), iv c0, iv c1, iv c2, iv c3, iv c4, iv c5, iv c6] [(.int c5), (.int (5 : Int32)), (.ref b2), (.ref b2), (.ref b1), (.ref b1)])) rfl rfl (hb hby d10_198)
  have V8 : Arv Z h8 b2 k2 .char (6 : Int32) [(.int (nar .char c0)), (.int (nar .char c1)), (.int (nar .char c2)), (.int (nar .char c3)), (.int (nar .char c4)), (.int (nar .char c5))] (.int (0 : Int32)) := Arv.set Ar8 q8 Sz8 Nn8 Hh8 Gg8 (fits_nar_char _) W8 5 rfl (Nat.le_of_ble_eq_true rfl)
  have f8_0 := f7_0.wr W8
  have f8_1 := f7_1.wr W8
  have f8_2 := f7_2.other W8 (Or.inl ne2_b1)
  have f8_3 := f7_3.other W8 (Or.inl ne2_b1)
  have Zs8 : n0 ≤ h8.size := Nat.le_trans Zs7 (Nat.le_of_eq W8.size.symm)
  have K8 := K7.wr W8 (Or.inr sz2)
  have N8 := Fr.snoc X8 N7 gg2
  refine own_st st8 ?_
  show own_Goes _ _ _ _ _ _ _ T8 (mkF m 199 #[iv (6 : Int32), iv c0, iv c1, iv c2, iv c3, iv c4, iv c5, iv c6] [(.ref b2), (.ref b1), (.ref b1)])
  obtain ⟨_, _, ⟨T9, L9, k9, n9⟩, -, X9, ⟨Lc9, hQ9, l9, y9, z9⟩, st9⟩ := X8.specialBack hx (y := yy10) rfl hown (mvT hZ (own_w hw 55 rfl)) (mvT hZ (own_w hw 56 rfl)) (mvT hZ (own_w hw 57 rfl)) (by decide) (StrChars.Road.backV (W := 1) hZ (own_hws hw) (kI := 4) (own_w hw 6 rfl) (cs := [(nar .char c0), (nar .char c1), (nar .char c2), (nar .char c3), (nar .char c4), (nar .char c5)]) (bs := [(own_by c0), (own_by c1), (own_by c2), (own_by c3), (own_by c4), (own_by c5)]) (n := 6) gg1 Zs8 f8_1 f8_2 f8_3 V8 f8_0 (by assumption) rfl rfl (by decide) (by decide) (List.forall_mem_cons.mpr ⟨own_hp (by assumption), (List.forall_mem_cons.mpr ⟨own_hp (by assumption), (List.forall_mem_cons.mpr ⟨own_hp (by assumption), (List.forall_mem_cons.mpr ⟨own_hp (by assumption), (List.forall_mem_cons.mpr ⟨own_hp (by assumption), (List.forall_mem_cons.mpr ⟨own_hp (by assumption), (fun _ q => nomatch q)⟩)⟩)⟩)⟩)⟩)⟩) (by rw [own_narc (by assumption), own_narc (by assumption), own_narc (by assumption), own_narc (by assumption), own_narc (by assumption), own_narc (by assumption)]; rfl) (by decide) (by decide)) (g := (mkF m 199 #[iv (6 : Int32), iv c0, iv c1, iv c2, iv c3, iv c4, iv c5, iv c6] [(.ref b2), (.ref b1), (.ref b1)])) rfl (by rw [hml]; rfl) (Steps.refl _) (a := b1) (argsL := [(.ref b2)]) (rest := [(.ref b1)]) (lenOf pd_8 rfl) rfl (by show 2 * 0 + _ ≤ _; exact Nat.le_of_eq rfl) (hb hby d10_199) (fun _ _ => ⟨rfl, e8, (by decide : 2 + 1 ≤ _), (by decide : 10 + 6 ≤ _)⟩)
  dsimp only [Pt.U, Pt.locs, Pt.cells, Pt.slots] at X9 l9 y9 z9 st9 hQ9
  subst l9 y9 z9
  obtain ⟨rfl, Nq9, Kq9, u9_0, u9_1, x9_d, x9_kd, u9_2, u9_3, u9_4, u9_5, u9_6⟩ := hQ9
  have N9 := Fr.app N8 Nq9
  have f9_0 := own_Sta_keep f8_0 Kq9 (nsS f8_1.nostat ns0)
  have f9_1 := f8_1.keep Kq9
  have f9_4 := V8.keep Kq9 (ninS (Ne.symm ne2_b1) nin0)
  have Zs9 : n0 ≤ T9.heap.size := Nat.le_trans Zs8 Kq9.1
  have K9 := K8.trans Kq9 (allS (Or.inr sz1) all0)
  have ne9_b1 : b1 ≠ x9_d := Nat.ne_of_lt (Nat.lt_of_lt_of_le f8_1.lt u9_3)
  have ne9_b2 : b2 ≠ x9_d := Nat.ne_of_lt (Nat.lt_of_lt_of_le V8.lt u9_3)
  have sz9_d : h0.size ≤ x9_d := Nat.le_trans K8.1 u9_3
  have gg9_d : n0 ≤ x9_d := Nat.le_trans Zs8 u9_3
  refine own_st (fun _ kk_ => st9.trans kk_) ?_
  show own_Goes _ _ _ _ _ _ _ T9 (mkF m 202 #[iv (6 : Int32), iv c0, iv c1, iv c2, iv c3, iv c4, iv c5, iv c6] [(.ref b1)])
  refine own_retA X9 hx hlk rfl Bd.returns rfl (hb hby d10_202) (by decide) (by decide) ?_
  show Q10_6 Z c0 c1 c2 c3 c4 c5 c6 cs h0 n0 (some (.ref b1)) T9.heap _
  exact ⟨b1, x9_d, x9_kd, rfl, N9, K9, sz1, u9_0, u9_1, u9_5, u9_6⟩
abbrev rRrm10_7 : Room := { frames := 4, cells := 3, slots := 18, locals := 66 }
theorem d10_203 : decode method_5_code 203 = .ok (.new 39, 3) := by decide +kernel
theorem d10_206 : decode method_5_code 206 = .ok (.dup, 1) := by decide +kernel
theorem d10_207 : decode method_5_code 207 = .ok (.bipush 7, 2) := by decide +kernel
theorem d10_209 : decode method_5_code 209 = .ok (.newarray .char, 2) := by decide +kernel
theorem d10_211 : decode method_5_code 211 = .ok (.dup, 1) := by decide +kernel
theorem d10_212 : decode method_5_code 212 = .ok (.iconst 0, 1) := by decide +kernel
theorem d10_213 : decode method_5_code 213 = .ok (.iload_n 1, 1) := by decide +kernel
theorem d10_214 : decode method_5_code 214 = .ok (.castore, 1) := by decide +kernel
theorem d10_215 : decode method_5_code 215 = .ok (.dup, 1) := by decide +kernel
theorem d10_216 : decode method_5_code 216 = .ok (.iconst 1, 1) := by decide +kernel
theorem d10_217 : decode method_5_code 217 = .ok (.iload_n 2, 1) := by decide +kernel
theorem d10_218 : decode method_5_code 218 = .ok (.castore, 1) := by decide +kernel
theorem d10_219 : decode method_5_code 219 = .ok (.dup, 1) := by decide +kernel
theorem d10_220 : decode method_5_code 220 = .ok (.iconst 2, 1) := by decide +kernel
theorem d10_221 : decode method_5_code 221 = .ok (.iload_n 3, 1) := by decide +kernel
theorem d10_222 : decode method_5_code 222 = .ok (.castore, 1) := by decide +kernel
theorem d10_223 : decode method_5_code 223 = .ok (.dup, 1) := by decide +kernel
theorem d10_224 : decode method_5_code 224 = .ok (.iconst 3, 1) := by decide +kernel
theorem d10_225 : decode method_5_code 225 = .ok (.iload 4, 2) := by decide +kernel
theorem d10_227 : decode method_5_code 227 = .ok (.castore, 1) := by decide +kernel
theorem d10_228 : decode method_5_code 228 = .ok (.dup, 1) := by decide +kernel
theorem d10_229 : decode method_5_code 229 = .ok (.iconst 4, 1) := by decide +kernel
theorem d10_230 : decode method_5_code 230 = .ok (.iload 5, 2) := by decide +kernel
theorem d10_232 : decode method_5_code 232 = .ok (.castore, 1) := by decide +kernel
theorem d10_233 : decode method_5_code 233 = .ok (.dup, 1) := by decide +kernel
theorem d10_234 : decode method_5_code 234 = .ok (.iconst 5, 1) := by decide +kernel
theorem d10_235 : decode method_5_code 235 = .ok (.iload 6, 2) := by decide +kernel
theorem d10_237 : decode method_5_code 237 = .ok (.castore, 1) := by decide +kernel
theorem d10_238 : decode method_5_code 238 = .ok (.dup, 1) := by decide +kernel
theorem d10_239 : decode method_5_code 239 = .ok (.bipush 6, 2) := by decide +kernel
theorem d10_241 : decode method_5_code 241 = .ok (.iload 7, 2) := by decide +kernel
theorem d10_243 : decode method_5_code 243 = .ok (.castore, 1) := by decide +kernel
theorem d10_244 : decode method_5_code 244 = .ok (.invokespecial 48, 3) := by decide +kernel
theorem d10_247 : decode method_5_code 247 = .ok (.areturn, 1) := by decide +kernel
theorem pn_rm10_7 : plainFor yy11 = true := by first | exact plainFor_of_name (by first | (simp [plainName, overriddenIn]; done) | decide +kernel) | decide +kernel
theorem ef_rm10_7 (m : MethodId) (c0 : Int32) (c1 : Int32) (c2 : Int32) (c3 : Int32) (c4 : Int32) (c5 : Int32) (c6 : Int32) : entryFrame m #[(.int (7 : Int32)), (.int c0), (.int c1), (.int c2), (.int c3), (.int c4), (.int c5), (.int c6)] 8 = (mkF m 0 #[iv (7 : Int32), iv c0, iv c1, iv c2, iv c3, iv c4, iv c5, iv c6] []) := by first | (simp [entryFrame, mkF, argsToLocals, Value.category]; done) | rfl
def Q10_7 (Z : State) (c0 : Int32) (c1 : Int32) (c2 : Int32) (c3 : Int32) (c4 : Int32) (c5 : Int32) (c6 : Int32) (cs : Int32) (h0 : Heap) (n0 : Nat) (v_ : Option Value) (h_ : Heap) (L_ : List Loc) : Prop := ∃ y : Addr, ∃ d : Addr, ∃ kd : ClassId, (v_ = some (.ref y)) ∧ (Fr n0 L_) ∧ (Keep h0 h_ []) ∧ (h0.size ≤ y) ∧ (Exa Z h_ y "java/lang/String") ∧ (Fld Z h_ y "java/lang/String" "coder" "B" (.int (0 : Int32))) ∧ (Fld Z h_ y "java/lang/String" "value" "[B" (.ref d)) ∧ (Arv Z h_ d kd .byte (7 : Int32) [(.int (own_by c0)), (.int (own_by c1)), (.int (own_by c2)), (.int (own_by c3)), (.int (own_by c4)), (.int (own_by c5)), (.int (own_by c6))] (.int (0 : Int32)))
set_option maxRecDepth 65536 in
set_option maxHeartbeats 40000000 in
theorem rm10_7 (l : Launch) (Z : State) (a0 : Array Value) (hw : ∀ d ∈ tables_1, d.before a0 Z = true) (ws : List Jvm.Cond) (c0 : Int32) (c1 : Int32) (c2 : Int32) (c3 : Int32) (c4 : Int32) (c5 : Int32) (c6 : Int32) (cs : Int32) (h0 : Heap) (n0 : Nat) (Z0 : n0 ≤ h0.size) (p_0 : Sta Z h0 "java/lang/String" "COMPACT_STRINGS" "Z" (.int cs)) (hcs : ¬ cs = (0 : Int32)) (hi0 : own_in c0) (hi1 : own_in c1) (hi2 : own_in c2) (hi3 : own_in c3) (hi4 : own_in c4) (hi5 : own_in c5) (hi6 : own_in c6) :
    MetFree l yy11 (head1 (Jvm.Cond.code yy11 method_5_code 8 (some (.object "java/lang/String")) :: ws) rRrm10_7) (fun a_ U_ => a_ = #[(.int (7 : Int32)), (.int c0), (.int c1), (.int c2), (.int c3), (.int c4), (.int c5), (.int c6)] ∧ Z.Warmed39 U_.vm ∧ U_.heap = h0) (fun _ _ _ _ _ => True) (fun _ U_ o_ U1_ => ∃ v_ L_, o_ = .returned v_ ∧ Q10_7 Z c0 c1 c2 c3 c4 c5 c6 cs h0 n0 v_ U1_.heap L_ ∧ FrameEnd U_ o_ U1_ L_ rRrm10_7.cells rRrm10_7.slots) := by
  refine MetFree.of_bodySF pn_rm10_7 hisR ?_
  intro p e s m args below meth c s₁ Bd hml0 hP hK
  obtain ⟨rfl, hZ, hh⟩ := hP
  have hx := Bd.exec
  have hby := Bd.bytes
  have hlk : meth.locks = false := Bd.notSynchronized
  have hml : c.maxLocals = 8 := hml0
  have hown : s.vm.findClass "com/example/majra/majra/lang/ParameterKindNamedPinLaw" = some m.cls := findClass_of_methodNamed Bd.named
  have hnm := (name_of_methodNamed Bd.named Bd.method).1
  have X0 : Stand p l e rRrm10_7 s m #[(.int (7 : Int32)), (.int c0), (.int c1), (.int c2), (.int c3), (.int c4), (.int c5), (.int c6)] below meth c s₁ [] 0 0 := Stand.of_body Bd
  have e0 : s₁.heap = h0 := by rw [← hh, Bd.state]; rfl
  have N0 := Fr.nil n0
  show own_Goes p e below s (Q10_7 Z c0 c1 c2 c3 c4 c5 c6 cs h0 n0) rRrm10_7.cells rRrm10_7.slots s₁ (entryFrame m #[(.int (7 : Int32)), (.int c0), (.int c1), (.int c2), (.int c3), (.int c4), (.int c5), (.int c6)] 8)
  rw [ef_rm10_7 m c0 c1 c2 c3 c4 c5 c6]
  show own_Goes p e below s (Q10_7 Z c0 c1 c2 c3 c4 c5 c6 cs h0 n0) rRrm10_7.cells rRrm10_7.slots s₁ (mkF m 0 #[iv (7 : Int32), iv c0, iv c1, iv c2, iv c3, iv c4, iv c5, iv c6] [])
  refine own_st (fun _ kk_ => XS.iloadN X0.here hx rfl (hb hby d10_0) rfl (XS.ifYes X0.here hx rfl (pc0 := 1) (pc' := 15) rfl (hb hby d10_1) rfl (XT.i0_ne_t (by decide)) (by decide) (by decide) (XS.iloadN X0.here hx rfl (hb hby d10_15) rfl (XS.iconst X0.here hx rfl (hb hby d10_16) (XS.icmpYes X0.here hx rfl (pc0 := 17) (pc' := 35) rfl (hb hby d10_17) rfl (XT.ii_ne_t (by decide)) (by decide) (by decide) (XS.iloadN X0.here hx rfl (hb hby d10_35) rfl (XS.iconst X0.here hx rfl (hb hby d10_36) (XS.icmpYes X0.here hx rfl (pc0 := 37) (pc' := 59) rfl (hb hby d10_37) rfl (XT.ii_ne_t (by decide)) (by decide) (by decide) (XS.iloadN X0.here hx rfl (hb hby d10_59) rfl (XS.iconst X0.here hx rfl (hb hby d10_60) (XS.icmpYes X0.here hx rfl (pc0 := 61) (pc' := 87) rfl (hb hby d10_61) rfl (XT.ii_ne_t (by decide)) (by decide) (by decide) (XS.iloadN X0.here hx rfl (hb hby d10_87) rfl kk_)))))))))))) ?_
  show own_Goes _ _ _ _ _ _ _ s₁ (mkF m 88 #[iv (7 : Int32), iv c0, iv c1, iv c2, iv c3, iv c4, iv c5, iv c6] [(.int (7 : Int32))])
  refine own_st (fun _ kk_ => XS.iconst X0.here hx rfl (hb hby d10_88) (XS.icmpYes X0.here hx rfl (pc0 := 89) (pc' := 120) rfl (hb hby d10_89) rfl (XT.ii_ne_t (by decide)) (by decide) (by decide) (XS.iloadN X0.here hx rfl (hb hby d10_120) rfl (XS.iconst X0.here hx rfl (hb hby d10_121) (XS.icmpYes X0.here hx rfl (pc0 := 122) (pc' := 158) rfl (hb hby d10_122) rfl (XT.ii_ne_t (by decide)) (by decide) (by decide) (XS.iloadN X0.here hx rfl (hb hby d10_158) rfl (XS.bipush X0.here hx rfl (hb hby d10_159) (XS.icmpYes X0.here hx rfl (pc0 := 161) (pc' := 203) rfl (hb hby d10_161) rfl (XT.ii_ne_t (by decide)) (by decide) (by decide) kk_)))))))) ?_
  show own_Goes _ _ _ _ _ _ _ s₁ (mkF m 203 #[iv (7 : Int32), iv c0, iv c1, iv c2, iv c3, iv c4, iv c5, iv c6] [])
  obtain ⟨T1, h1, X1, e1, E1, A1, D1, -, st1⟩ := newO X0 hx hZ hown (own_w hw 53 rfl) (own_w hw 6 rfl) (own_w hw 5 rfl) e0 (g := (mkF m 203 #[iv (7 : Int32), iv c0, iv c1, iv c2, iv c3, iv c4, iv c5, iv c6] [])) rfl (hb hby d10_203) (by decide) (by decide)
  obtain ⟨b1, gx1⟩ : ∃ z, z = h0.size := ⟨_, rfl⟩
  rw [← gx1] at A1 D1 st1
  have gg1 : n0 ≤ b1 := Nat.le_trans Z0 (Nat.le_of_eq gx1.symm)
  have sz1 : h0.size ≤ b1 := Nat.le_trans (Keep.refl h0 []).1 (Nat.le_of_eq gx1.symm)
  have f1_0 := p_0.ext E1
  have Zs1 : n0 ≤ h1.size := Nat.le_trans Z0 E1.1
  have K1 := (Keep.refl h0 []).ext E1
  have fn1_value : Fld Z h1 b1 "java/lang/String" "value" "[B" .null := D1 (Or.inr (own_w hw 8 rfl)) (ty := (.array .byte)) (by decide)
  have fn1_coder : Fld Z h1 b1 "java/lang/String" "coder" "B" (.int (0 : Int32)) := D1 (Or.inr (own_w hw 9 rfl)) (ty := .byte) (by decide)
  refine own_st st1 ?_
  show own_Goes _ _ _ _ _ _ _ T1 (mkF m 206 #[iv (7 : Int32), iv c0, iv c1, iv c2, iv c3, iv c4, iv c5, iv c6] [(.ref b1)])
  refine own_st (fun _ kk_ => XS.dup X1.here hx rfl (hb hby d10_206) rfl rfl (XS.bipush X1.here hx rfl (hb hby d10_207) kk_)) ?_
  show own_Goes _ _ _ _ _ _ _ T1 (mkF m 209 #[iv (7 : Int32), iv c0, iv c1, iv c2, iv c3, iv c4, iv c5, iv c6] [(.int (7 : Int32)), (.ref b1), (.ref b1)])
  obtain ⟨T2, h2, k2, X2, e2, E2, A2, st2⟩ := newP X1 hx hZ (own_w hw 54 rfl) e1 (g := (mkF m 209 #[iv (7 : Int32), iv c0, iv c1, iv c2, iv c3, iv c4, iv c5, iv c6] [(.int (7 : Int32)), (.ref b1), (.ref b1)])) rfl (hb hby d10_209) rfl (by decide) (cap := 7) (by decide) (by decide) (by decide) (by decide)
  obtain ⟨b2, gx2⟩ : ∃ z, z = h1.size := ⟨_, rfl⟩
  rw [← gx2] at A2 st2
  have ne2_b1 : b1 ≠ b2 := Nat.ne_of_lt (Nat.lt_of_lt_of_eq A1.lt gx2.symm)
  have gg2 : n0 ≤ b2 := Nat.le_trans Zs1 (Nat.le_of_eq gx2.symm)
  have sz2 : h0.size ≤ b2 := Nat.le_trans K1.1 (Nat.le_of_eq gx2.symm)
  have f2_0 := f1_0.ext E2
  have f2_1 := A1.ext E2
  have f2_2 := fn1_value.ext E2
  have f2_3 := fn1_coder.ext E2
  have Zs2 : n0 ≤ h2.size := Nat.le_trans Zs1 E2.1
  have K2 := K1.ext E2
  have V2 : Arv Z h2 b2 k2 .char (7 : Int32) [(.int (0 : Int32)), (.int (0 : Int32)), (.int (0 : Int32)), (.int (0 : Int32)), (.int (0 : Int32)), (.int (0 : Int32)), (.int (0 : Int32))] (.int (0 : Int32)) := (Arv.new A2 (by decide)).pad (pad_rep [] (.int (0 : Int32)) 7)
  refine own_st st2 ?_
  show own_Goes _ _ _ _ _ _ _ T2 (mkF m 211 #[iv (7 : Int32), iv c0, iv c1, iv c2, iv c3, iv c4, iv c5, iv c6] [(.ref b2), (.ref b1), (.ref b1)])
  refine own_st (fun _ kk_ => XS.dup X2.here hx rfl (hb hby d10_211) rfl rfl (XS.iconst X2.here hx rfl (hb hby d10_212) (XS.iloadN X2.here hx rfl (hb hby d10_213) rfl kk_))) ?_
  show own_Goes _ _ _ _ _ _ _ T2 (mkF m 214 #[iv (7 : Int32), iv c0, iv c1, iv c2, iv c3, iv c4, iv c5, iv c6] [(.int c0), (.int (0 : Int32)), (.ref b2), (.ref b2), (.ref b1), (.ref b1)])
  obtain ⟨cl3, Ar3, q3, Sz3, Nn3, Hh3, Gg3⟩ := id V2
  obtain ⟨T3, h3, X3, e3, W3, st3⟩ := stC X2 hx hZ e2 Ar3 (j := (0 : Int32)) (inb_of Sz3 ⟨by decide, by decide⟩) (g := (mkF m 214 #[iv (7 : Int32), iv c0, iv c1, iv c2, iv c3, iv c4, iv c5, iv c6] [(.int c0), (.int (0 : Int32)), (.ref b2), (.ref b2), (.ref b1), (.ref b1)])) rfl rfl (hb hby d10_214)
  have V3 : Arv Z h3 b2 k2 .char (7 : Int32) [(.int (nar .char c0)), (.int (0 : Int32)), (.int (0 : Int32)), (.int (0 : Int32)), (.int (0 : Int32)), (.int (0 : Int32)), (.int (0 : Int32))] (.int (0 : Int32)) := Arv.set Ar3 q3 Sz3 Nn3 Hh3 Gg3 (fits_nar_char _) W3 0 rfl (Nat.le_of_ble_eq_true rfl)
  have f3_0 := f2_0.wr W3
  have f3_1 := f2_1.wr W3
  have f3_2 := f2_2.other W3 (Or.inl ne2_b1)
  have f3_3 := f2_3.other W3 (Or.inl ne2_b1)
  have Zs3 : n0 ≤ h3.size := Nat.le_trans Zs2 (Nat.le_of_eq W3.size.symm)
  have K3 := K2.wr W3 (Or.inr sz2)
  have N3 := Fr.snoc X3 N0 gg2
  refine own_st st3 ?_
  show own_Goes _ _ _ _ _ _ _ T3 (mkF m 215 #[iv (7 : Int32), iv c0, iv c1, iv c2, iv c3, iv c4, iv c5, iv c6] [(.ref b2), (.ref b1), (.ref b1)])
  refine own_st (fun _ kk_ => XS.dup X3.here hx rfl (hb hby d10_215) rfl rfl (XS.iconst X3.here hx rfl (hb hby d10_216) (XS.iloadN X3.here hx rfl (hb hby d10_217) rfl kk_))) ?_
  show own_Goes _ _ _ _ _ _ _ T3 (mkF m 218 #[iv (7 : Int32), iv c0, iv c1, iv c2, iv c3, iv c4, iv c5, iv c6] [(.int c1), (.int (1 : Int32)), (.ref b2), (.ref b2), (.ref b1), (.ref b1)])
  obtain ⟨cl4, Ar4, q4, Sz4, Nn4, Hh4, Gg4⟩ := id V3
  obtain ⟨T4, h4, X4, e4, W4, st4⟩ := stC X3 hx hZ e3 Ar4 (j := (1 : Int32)) (inb_of Sz4 ⟨by decide, by decide⟩) (g := (mkF m 218 #[iv (7 : Int32), iv c0, iv c1, iv c2, iv c3, iv c4, iv c5, iv c6] [(.int c1), (.int (1 : Int32)), (.ref b2), (.ref b2), (.ref b1), (.ref b1)])) rfl rfl (hb hby d10_218)
  have V4 : Arv Z h4 b2 k2 .char (7 : Int32) [(.int (nar .char c0)), (.int (nar .char c1)), (.int (0 : Int32)), (.int (0 : Int32)), (.int (0 : Int32)), (.int (0 : Int32)), (.int (0 : Int32))] (.int (0 : Int32)) := Arv.set Ar4 q4 Sz4 Nn4 Hh4 Gg4 (fits_nar_char _) W4 1 rfl (Nat.le_of_ble_eq_true rfl)
  have f4_0 := f3_0.wr W4
  have f4_1 := f3_1.wr W4
  have f4_2 := f3_2.other W4 (Or.inl ne2_b1)
  have f4_3 := f3_3.other W4 (Or.inl ne2_b1)
  have Zs4 : n0 ≤ h4.size := Nat.le_trans Zs3 (Nat.le_of_eq W4.size.symm)
  have K4 := K3.wr W4 (Or.inr sz2)
  have N4 := Fr.snoc X4 N3 gg2
  refine own_st st4 ?_
  show own_Goes _ _ _ _ _ _ _ T4 (mkF m 219 #[iv (7 : Int32), iv c0, iv c1, iv c2, iv c3, iv c4, iv c5, iv c6] [(.ref b2), (.ref b1), (.ref b1)])
  refine own_st (fun _ kk_ => XS.dup X4.here hx rfl (hb hby d10_219) rfl rfl (XS.iconst X4.here hx rfl (hb hby d10_220) (XS.iloadN X4.here hx rfl (hb hby d10_221) rfl kk_))) ?_
  show own_Goes _ _ _ _ _ _ _ T4 (mkF m 222 #[iv (7 : Int32), iv c0, iv c1, iv c2, iv c3, iv c4, iv c5, iv c6] [(.int c2), (.int (2 : Int32)), (.ref b2), (.ref b2), (.ref b1), (.ref b1)])
  obtain ⟨cl5, Ar5, q5, Sz5, Nn5, Hh5, Gg5⟩ := id V4
  obtain ⟨T5, h5, X5, e5, W5, st5⟩ := stC X4 hx hZ e4 Ar5 (j := (2 : Int32)) (inb_of Sz5 ⟨by decide, by decide⟩) (g := (mkF m 222 #[iv (7 : Int32), iv c0, iv c1, iv c2, iv c3, iv c4, iv c5, iv c6] [(.int c2), (.int (2 : Int32)), (.ref b2), (.ref b2), (.ref b1), (.ref b1)])) rfl rfl (hb hby d10_222)
  have V5 : Arv Z h5 b2 k2 .char (7 : Int32) [(.int (nar .char c0)), (.int (nar .char c1)), (.int (nar .char c2)), (.int (0 : Int32)), (.int (0 : Int32)), (.int (0 : Int32)), (.int (0 : Int32))] (.int (0 : Int32)) := Arv.set Ar5 q5 Sz5 Nn5 Hh5 Gg5 (fits_nar_char _) W5 2 rfl (Nat.le_of_ble_eq_true rfl)
  have f5_0 := f4_0.wr W5
  have f5_1 := f4_1.wr W5
  have f5_2 := f4_2.other W5 (Or.inl ne2_b1)
  have f5_3 := f4_3.other W5 (Or.inl ne2_b1)
  have Zs5 : n0 ≤ h5.size := Nat.le_trans Zs4 (Nat.le_of_eq W5.size.symm)
  have K5 := K4.wr W5 (Or.inr sz2)
  have N5 := Fr.snoc X5 N4 gg2
  refine own_st st5 ?_
  show own_Goes _ _ _ _ _ _ _ T5 (mkF m 223 #[iv (7 : Int32), iv c0, iv c1, iv c2, iv c3, iv c4, iv c5, iv c6] [(.ref b2), (.ref b1), (.ref b1)])
  refine own_st (fun _ kk_ => XS.dup X5.here hx rfl (hb hby d10_223) rfl rfl (XS.iconst X5.here hx rfl (hb hby d10_224) (XS.iload X5.here hx rfl (hb hby d10_225) rfl kk_))) ?_
  show own_Goes _ _ _ _ _ _ _ T5 (mkF m 227 #[iv (7 : Int32), iv c0, iv c1, iv c2, iv c3, iv c4, iv c5, iv c6] [(.int c3), (.int (3 : Int32)), (.ref b2), (.ref b2), (.ref b1), (.ref b1)])
  obtain ⟨cl6, Ar6, q6, Sz6, Nn6, Hh6, Gg6⟩ := id V5
  obtain ⟨T6, h6, X6, e6, W6, st6⟩ := stC X5 hx hZ e5 Ar6 (j := (3 : Int32)) (inb_of Sz6 ⟨by decide, by decide⟩) (g := (mkF m 227 #[iv (7 : Int32), iv c0, iv c1, iv c2, iv c3, iv c4, iv c5, iv c6] [(.int c3), (.int (3 : Int32)), (.ref b2), (.ref b2), (.ref b1), (.ref b1)])) rfl rfl (hb hby d10_227)
  have V6 : Arv Z h6 b2 k2 .char (7 : Int32) [(.int (nar .char c0)), (.int (nar .char c1)), (.int (nar .char c2)), (.int (nar .char c3)), (.int (0 : Int32)), (.int (0 : Int32)), (.int (0 : Int32))] (.int (0 : Int32)) := Arv.set Ar6 q6 Sz6 Nn6 Hh6 Gg6 (fits_nar_char _) W6 3 rfl (Nat.le_of_ble_eq_true rfl)
  have f6_0 := f5_0.wr W6
  have f6_1 := f5_1.wr W6
  have f6_2 := f5_2.other W6 (Or.inl ne2_b1)
  have f6_3 := f5_3.other W6 (Or.inl ne2_b1)
  have Zs6 : n0 ≤ h6.size := Nat.le_trans Zs5 (Nat.le_of_eq W6.size.symm)
  have K6 := K5.wr W6 (Or.inr sz2)
  have N6 := Fr.snoc X6 N5 gg2
  refine own_st st6 ?_
  show own_Goes _ _ _ _ _ _ _ T6 (mkF m 228 #[iv (7 : Int32), iv c0, iv c1, iv c2, iv c3, iv c4, iv c5, iv c6] [(.ref b2), (.ref b1), (.ref b1)])
  refine own_st (fun _ kk_ => XS.dup X6.here hx rfl (hb hby d10_228) rfl rfl (XS.iconst X6.here hx rfl (hb hby d10_229) (XS.iload X6.here hx rfl (hb hby d10_230) rfl kk_))) ?_
  show own_Goes _ _ _ _ _ _ _ T6 (mkF m 232 #[iv (7 : Int32), iv c0, iv c1, iv c2, iv c3, iv c4, iv c5, iv c6] [(.int c4), (.int (4 : Int32)), (.ref b2), (.ref b2), (.ref b1), (.ref b1)])
  obtain ⟨cl7, Ar7, q7, Sz7, Nn7, Hh7, Gg7⟩ := id V6
  obtain ⟨T7, h7, X7, e7, W7, st7⟩ := stC X6 hx hZ e6 Ar7 (j := (4 : Int32)) (inb_of Sz7 ⟨by decide, by decide⟩) (g := (mkF m 232 #[iv (7 : Int32), iv c0, iv c1, iv c2, iv c3, iv c4, iv c5, iv c6] [(.int c4), (.int (4 : Int32)), (.ref b2), (.ref b2), (.ref b1), (.ref b1)])) rfl rfl (hb hby d10_232)
  have V7 : Arv Z h7 b2 k2 .char (7 : Int32) [(.int (nar .char c0)), (.int (nar .char c1)), (.int (nar .char c2)), (.int (nar .char c3)), (.int (nar .char c4)), (.int (0 : Int32)), (.int (0 : Int32))] (.int (0 : Int32)) := Arv.set Ar7 q7 Sz7 Nn7 Hh7 Gg7 (fits_nar_char _) W7 4 rfl (Nat.le_of_ble_eq_true rfl)
  have f7_0 := f6_0.wr W7
  have f7_1 := f6_1.wr W7
  have f7_2 := f6_2.other W7 (Or.inl ne2_b1)
  have f7_3 := f6_3.other W7 (Or.inl ne2_b1)
  have Zs7 : n0 ≤ h7.size := Nat.le_trans Zs6 (Nat.le_of_eq W7.size.symm)
  have K7 := K6.wr W7 (Or.inr sz2)
  have N7 := Fr.snoc X7 N6 gg2
  refine own_st st7 ?_
  show own_Goes _ _ _ _ _ _ _ T7 (mkF m 233 #[iv (7 : Int32), iv c0, iv c1, iv c2, iv c3, iv c4, iv c5, iv c6] [(.ref b2), (.ref b1), (.ref b1)])
  refine own_st (fun _ kk_ => XS.dup X7.here hx rfl (hb hby d10_233) rfl rfl (XS.iconst X7.here hx rfl (hb hby d10_234) (XS.iload X7.here hx rfl (hb hby d10_235) rfl kk_))) ?_
  show own_Goes _ _ _ _ _ _ _ T7 (mkF m 237 #[iv (7 : Int32), iv c0, iv c1, iv c2, iv c3, iv c4, iv c5, iv c6] [(.int c5), (.int (5 : Int32)), (.ref b2), (.ref b2), (.ref b1), (.ref b1)])
  obtain ⟨cl8, Ar8, q8, Sz8, Nn8, Hh8, Gg8⟩ := id V7
  obtain ⟨T8, h8, X8, e8, W8, st8⟩ := stC X7 hx hZ e7 Ar8 (j := (5 : Int32)) (inb_of Sz8 ⟨by decide, by decide⟩) (g := (mkF m 237 #[iv (7 : Int32), iv c0, iv c1, iv c2, iv c3, iv c4, iv c5, iv c6] [(.int c5), (.int (5 : Int32)), (.ref b2), (.ref b2), (.ref b1), (.ref b1)])) rfl rfl (hb hby d10_237)
  have V8 : Arv Z h8 b2 k2 .char (7 : Int32) [(.int (nar .char c0)), (.int (nar .char c1)), (.int (nar .char c2)), (.int (nar .char c3)), (.int (nar .char c4)), (.int (nar .char c5)), (.int (0 : Int32))] (.int (0 : Int32)) := Arv.set Ar8 q8 Sz8 Nn8 Hh8 Gg8 (fits_nar_char _) W8 5 rfl (Nat.le_of_ble_eq_true rfl)
  have f8_0 := f7_0.wr W8
  have f8_1 := f7_1.wr W8
  have f8_2 := f7_2.other W8 (Or.inl ne2_b1)
  have f8_3 := f7_3.other W8 (Or.inl ne2_b1)
  have Zs8 : n0 ≤ h8.size := Nat.le_trans Zs7 (Nat.le_of_eq W8.size.symm)
  have K8 := K7.wr W8 (Or.inr sz2)
  have N8 := Fr.snoc X8 N7 gg2
  refine own_st st8 ?_
  show own_Goes _ _ _ _ _ _ _ T8 (mkF m 238 #[iv (7 : Int32), iv c0, iv c1, iv c2, iv c3, iv c4, iv c5, iv c6] [(.ref b2), (.ref b1), (.ref b1)])
  refine own_st (fun _ kk_ => XS.dup X8.here hx rfl (hb hby d10_238) rfl rfl (XS.bipush X8.here hx rfl (hb hby d10_239) (XS.iload X8.here hx rfl (hb hby d10_241) rfl kk_))) ?_
  show own_Goes _ _ _ _ _ _ _ T8 (mkF m 243 #[iv (7 : Int32), iv c0, iv c1, iv c2, iv c3, iv c4, iv c5, iv c6] [(.int c6), (.int (6 : Int32)), (.ref b2), (.ref b2), (.ref b1), (.ref b1)])
  obtain ⟨cl9, Ar9, q9, Sz9, Nn9, Hh9, Gg9⟩ := id V8
  obtain ⟨T9, h9, X9, e9, W9, st9⟩ := stC X8 hx hZ e8 Ar9 (j := (6 : Int32)) (inb_of Sz9 ⟨by decide, by decide⟩) (g := (mkF m 243 #[iv (7 : Int32), iv c0, iv c1, iv c2, iv c3, iv c4, iv c5, iv c6] [(.int c6), (.int (6 : Int32)), (.ref b2), (.ref b2), (.ref b1), (.ref b1)])) rfl rfl (hb hby d10_243)
  have V9 : Arv Z h9 b2 k2 .char (7 : Int32) [(.int (nar .char c0)), (.int (nar .char c1)), (.int (nar .char c2)), (.int (nar .char c3)), (.int (nar .char c4)), (.int (nar .char c5)), (.int (nar .char c6))] (.int (0 : Int32)) := Arv.set Ar9 q9 Sz9 Nn9 Hh9 Gg9 (fits_nar_char _) W9 6 rfl (Nat.le_of_ble_eq_true rfl)
  have f9_0 := f8_0.wr W9
  have f9_1 := f8_1.wr W9
  have f9_2 := f8_2.other W9 (Or.inl ne2_b1)
  have f9_3 := f8_3.other W9 (Or.inl ne2_b1)
  have Zs9 : n0 ≤ h9.size := Nat.le_trans Zs8 (Nat.le_of_eq W9.size.symm)
  have K9 := K8.wr W9 (Or.inr sz2)
  have N9 := Fr.snoc X9 N8 gg2
  refine own_st st9 ?_
  show own_Goes _ _ _ _ _ _ _ T9 (mkF m 244 #[iv (7 : Int32), iv c0, iv c1, iv c2, iv c3, iv c4, iv c5, iv c6] [(.ref b2), (.ref b1), (.ref b1)])
  obtain ⟨_, _, ⟨T10, L10, k10, n10⟩, -, X10, ⟨Lc10, hQ10, l10, y10, z10⟩, st10⟩ := X9.specialBack hx (y := yy10) rfl hown (mvT hZ (own_w hw 55 rfl)) (mvT hZ (own_w hw 56 rfl)) (mvT hZ (own_w hw 57 rfl)) (by decide) (StrChars.Road.backV (W := 1) hZ (own_hws hw) (kI := 4) (own_w hw 6 rfl) (cs := [(nar .char c0), (nar .char c1), (nar .char c2), (nar .char c3), (nar .char c4), (nar .char c5), (nar .char c6)]) (bs := [(own_by c0), (own_by c1), (own_by c2), (own_by c3), (own_by c4), (own_by c5), (own_by c6)]) (n := 7) gg1 Zs9 f9_1 f9_2 f9_3 V9 f9_0 (by assumption) rfl rfl (by decide) (by decide) (List.forall_mem_cons.mpr ⟨own_hp (by assumption), (List.forall_mem_cons.mpr ⟨own_hp (by assumption), (List.forall_mem_cons.mpr ⟨own_hp (by assumption), (List.forall_mem_cons.mpr ⟨own_hp (by assumption), (List.forall_mem_cons.mpr ⟨own_hp (by assumption), (List.forall_mem_cons.mpr ⟨own_hp (by assumption), (List.forall_mem_cons.mpr ⟨own_hp (by assumption), (fun _ q => nomatch q)⟩)⟩)⟩)⟩)⟩)⟩)⟩) (by rw [own_narc (by assumption), own_narc (by assumption), own_narc (by assumption), own_narc (by assumption), own_narc (by assumption), own_narc (by assumption), own_narc (by assumption)]; rfl) (by decide) (by decide)) (g := (mkF m 244 #[iv (7 : Int32), iv c0, iv c1, iv c2, iv c3, iv c4, iv c5, iv c6] [(.ref b2), (.ref b1), (.ref b1)])) rfl (by rw [hml]; rfl) (Steps.refl _) (a := b1) (argsL := [(.ref b2)]) (rest := [(.ref b1)]) (lenOf pd_8 rfl) rfl (by show 2 * 0 + _ ≤ _; exact Nat.le_of_eq rfl) (hb hby d10_244) (fun _ _ => ⟨rfl, e9, (by decide : 2 + 1 ≤ _), (by decide : 11 + 7 ≤ _)⟩)
  dsimp only [Pt.U, Pt.locs, Pt.cells, Pt.slots] at X10 l10 y10 z10 st10 hQ10
  subst l10 y10 z10
  obtain ⟨rfl, Nq10, Kq10, u10_0, u10_1, x10_d, x10_kd, u10_2, u10_3, u10_4, u10_5, u10_6⟩ := hQ10
  have N10 := Fr.app N9 Nq10
  have f10_0 := own_Sta_keep f9_0 Kq10 (nsS f9_1.nostat ns0)
  have f10_1 := f9_1.keep Kq10
  have f10_4 := V9.keep Kq10 (ninS (Ne.symm ne2_b1) nin0)
  have Zs10 : n0 ≤ T10.heap.size := Nat.le_trans Zs9 Kq10.1
  have K10 := K9.trans Kq10 (allS (Or.inr sz1) all0)
  have ne10_b1 : b1 ≠ x10_d := Nat.ne_of_lt (Nat.lt_of_lt_of_le f9_1.lt u10_3)
  have ne10_b2 : b2 ≠ x10_d := Nat.ne_of_lt (Nat.lt_of_lt_of_le V9.lt u10_3)
  have sz10_d : h0.size ≤ x10_d := Nat.le_trans K9.1 u10_3
  have gg10_d : n0 ≤ x10_d := Nat.le_trans Zs9 u10_3
  refine own_st (fun _ kk_ => st10.trans kk_) ?_
  show own_Goes _ _ _ _ _ _ _ T10 (mkF m 247 #[iv (7 : Int32), iv c0, iv c1, iv c2, iv c3, iv c4, iv c5, iv c6] [(.ref b1)])
  refine own_retA X10 hx hlk rfl Bd.returns rfl (hb hby d10_247) (by decide) (by decide) ?_
  show Q10_7 Z c0 c1 c2 c3 c4 c5 c6 cs h0 n0 (some (.ref b1)) T10.heap _
  exact ⟨b1, x10_d, x10_kd, rfl, N10, K10, sz1, u10_0, u10_1, u10_5, u10_6⟩
theorem own_hwe {a0 : Array Value} {Z : State} (hw : ∀ d ∈ tables_1, d.before a0 Z = true) : ∀ d ∈ StrChars.Road.wordsEq, d.before a0 Z = true := fun d hd => hw d ((by decide +kernel : ∀ d ∈ StrChars.Road.wordsEq, d ∈ tables_1) d hd)
def own_ok (us : List Int32) (z : Int32) (vs : List Value) : Prop := StrChars.Road.CodA us 0 z vs ∧ (∀ c ∈ us, ¬ c < 0 ∧ ¬ (65535 : Int32) < c) ∧ us.length ≤ 4000
theorem own_okn {us : List Int32} (h : ∀ c ∈ us, own_in c) (hl : us.length ≤ 4000) : own_ok us (Int32.ofNat us.length) (us.map fun c => Value.int (own_by c)) := by
  refine ⟨Or.inl ⟨rfl, rfl, rfl, fun c hc => ?_⟩, fun c hc => ?_, hl⟩ <;> (have q := h c hc; unfold own_in at q; simp only [Int32.lt_iff_toInt_lt, Int32.reduceToInt]; omega)
theorem own_eqW {p : Program} {l : Launch} {e : Env} {R : Room} {s : State} {args : Array Value} {below : List Frame} {len W : Nat} {Z : State} {a0 : Array Value} {h : Heap} {n0 : Nat} (hZ : Z.Warmed39 s.vm) (hw : ∀ d ∈ tables_1, d.before a0 Z = true) {kI : Nat} (wi : (Jvm.Cond.instantiable "java/lang/String" kI).before a0 Z = true)
    {x t : Addr} {kb : ClassId} {us : List Int32} {N2 : Int32} {vs : List Value} (E : Exa Z h x "java/lang/String") (C : Fld Z h x "java/lang/String" "coder" "B" (.int 0)) (V : Fld Z h x "java/lang/String" "value" "[B" (.ref t)) {y t' : Addr} {kb' : ClassId} {ds : List Int32} {N2' : Int32} {vs' : List Value} (E' : Exa Z h y "java/lang/String") (C' : Fld Z h y "java/lang/String" "coder" "B" (.int 0)) (V' : Fld Z h y "java/lang/String" "value" "[B" (.ref t'))
    (K : Arv Z h t kb .byte N2 vs (.int 0)) (K' : Arv Z h t' kb' .byte N2' vs' (.int 0)) (o : own_ok us N2 vs) (o' : own_ok ds N2' vs') {z : Int32} (S : Sta Z h "java/lang/String" "COMPACT_STRINGS" "Z" (.int z)) (hz : ¬ z = 0) (hfr : 2 ≤ R.frames) (hlo : W + 28 ≤ R.locals) :
    Back l R p e below s args (⟨"java/lang/String", "equals", "(Ljava/lang/Object;)Z"⟩ : MethodName) len W (fun P a => a = #[.ref x, .ref y] ∧ P.U.heap = h ∧ P.cells + 0 ≤ R.cells ∧ P.slots + 0 ≤ R.slots)
      (fun P _ v B => ∃ L, (v = some (.int (own_b (us = ds))) ∧ Fr n0 L ∧ B.U.heap = h) ∧ B.locs = P.locs ++ L ∧ B.cells = P.cells + 0 ∧ B.slots = P.slots + 0) := by
  intro m meth c P g ig mk a X hg hsize hdg hW hn hp'
  obtain ⟨v, B, X', ⟨L, ⟨hq, hL, hh⟩, hl, hk, hs⟩, st⟩ := StrChars.Road.eqW hZ (own_hwe hw) wi E V C K o.1 o.2.1 o.2.2 E' V' C' K' o'.1 o'.2.1 o'.2.2 S hz hfr hlo m meth c P g ig mk a X hg hsize hdg hW hn hp'
  refine ⟨v, B, X', ⟨L, ⟨?_, ?_, hh⟩, hl, hk, hs⟩, st⟩
  · rcases hq with ⟨hv, q⟩ | ⟨hv, q⟩
    · rw [hv, own_b1 q]
    · rw [hv, own_b0 q]
  · rw [hL]; intro _ q; cases q
theorem own_kw0 : own_ok [(105 : Int32), (110 : Int32), (116 : Int32)] (3 : Int32) [(.int (105 : Int32)), (.int (110 : Int32)), (.int (116 : Int32))] := ⟨Or.inl ⟨rfl, by decide, by decide +kernel, by decide⟩, by decide, by decide⟩
theorem own_kw1 : own_ok [(102 : Int32), (108 : Int32), (111 : Int32), (97 : Int32), (116 : Int32)] (5 : Int32) [(.int (102 : Int32)), (.int (108 : Int32)), (.int (111 : Int32)), (.int (97 : Int32)), (.int (116 : Int32))] := ⟨Or.inl ⟨rfl, by decide, by decide +kernel, by decide⟩, by decide, by decide⟩
theorem own_kw2 : own_ok [(98 : Int32), (111 : Int32), (111 : Int32), (108 : Int32), (101 : Int32), (97 : Int32), (110 : Int32)] (7 : Int32) [(.int (98 : Int32)), (.int (111 : Int32)), (.int (111 : Int32)), (.int (108 : Int32)), (.int (101 : Int32)), (.int (97 : Int32)), (.int (110 : Int32))] := ⟨Or.inl ⟨rfl, by decide, by decide +kernel, by decide⟩, by decide, by decide⟩
theorem own_kw3 : own_ok [(115 : Int32), (116 : Int32), (114 : Int32), (105 : Int32), (110 : Int32), (103 : Int32)] (6 : Int32) [(.int (115 : Int32)), (.int (116 : Int32)), (.int (114 : Int32)), (.int (105 : Int32)), (.int (110 : Int32)), (.int (103 : Int32))] := ⟨Or.inl ⟨rfl, by decide, by decide +kernel, by decide⟩, by decide, by decide⟩
def own_pk (P : Prop) [Decidable P] (a : Addr) (v : Value) : Value := if P then .ref a else v
theorem own_pk1 {P : Prop} [Decidable P] {a : Addr} {v : Value} (h : P) : own_pk P a v = .ref a := if_pos h
theorem own_pk0 {P : Prop} [Decidable P] {a : Addr} {v : Value} (h : ¬ P) : own_pk P a v = v := if_neg h
theorem own_pkr {P : Prop} [Decidable P] {a : Addr} {v : Value} (h : v.isRef = true) : (own_pk P a v).isRef = true := by unfold own_pk; split; exact rfl; exact h
def own_rf (us : List Int32) (s0 s1 s2 s3 : Addr) : Value := own_pk (us = [(105 : Int32), (110 : Int32), (116 : Int32)]) s0 (own_pk (us = [(102 : Int32), (108 : Int32), (111 : Int32), (97 : Int32), (116 : Int32)]) s1 (own_pk (us = [(98 : Int32), (111 : Int32), (111 : Int32), (108 : Int32), (101 : Int32), (97 : Int32), (110 : Int32)]) s2 (own_pk (us = [(115 : Int32), (116 : Int32), (114 : Int32), (105 : Int32), (110 : Int32), (103 : Int32)]) s3 .null)))
def own_nd (us : List Int32) (s0 s1 s2 s3 : Addr) : Value := own_pk ([(115 : Int32), (116 : Int32), (114 : Int32), (105 : Int32), (110 : Int32), (103 : Int32)] = us) s3 (own_pk ([(98 : Int32), (111 : Int32), (111 : Int32), (108 : Int32), (101 : Int32), (97 : Int32), (110 : Int32)] = us) s2 (own_pk ([(102 : Int32), (108 : Int32), (111 : Int32), (97 : Int32), (116 : Int32)] = us) s1 (own_pk ([(105 : Int32), (110 : Int32), (116 : Int32)] = us) s0 .null)))
theorem own_rfr (us : List Int32) (s0 s1 s2 s3 : Addr) : (own_rf us s0 s1 s2 s3).isRef = true := own_pkr (own_pkr (own_pkr (own_pkr rfl)))
theorem own_ndr (us : List Int32) (s0 s1 s2 s3 : Addr) : (own_nd us s0 s1 s2 s3).isRef = true := own_pkr (own_pkr (own_pkr (own_pkr rfl)))
theorem own_same (us : List Int32) (s0 s1 s2 s3 : Addr) : own_nd us s0 s1 s2 s3 = own_rf us s0 s1 s2 s3 := by
  unfold own_nd own_rf own_pk
  split
  · rename_i h; subst h; rfl
  split
  · rename_i h; subst h; rfl
  split
  · rename_i h; subst h; rfl
  split
  · rename_i h; subst h; rfl
  · rename_i a b c d; rw [if_neg (fun q => d q.symm), if_neg (fun q => c q.symm), if_neg (fun q => b q.symm), if_neg (fun q => a q.symm)]
abbrev rRrm17 : Room := { frames := 2, cells := 8, slots := 100, locals := 28 }
theorem d17_0 : decode method_6_code 0 = .ok (.aload_n 0, 1) := by decide +kernel
theorem d17_1 : decode method_6_code 1 = .ok (.ldc 30, 2) := by decide +kernel
theorem d17_3 : decode method_6_code 3 = .ok (.invokevirtual 51, 3) := by decide +kernel
theorem d17_6 : decode method_6_code 6 = .ok (.ifCond .eq 7, 3) := by decide +kernel
theorem d17_9 : decode method_6_code 9 = .ok (.getstatic 55, 3) := by decide +kernel
theorem d17_12 : decode method_6_code 12 = .ok (.areturn, 1) := by decide +kernel
theorem d17_13 : decode method_6_code 13 = .ok (.aload_n 0, 1) := by decide +kernel
theorem d17_14 : decode method_6_code 14 = .ok (.ldc 32, 2) := by decide +kernel
theorem d17_16 : decode method_6_code 16 = .ok (.invokevirtual 51, 3) := by decide +kernel
theorem d17_19 : decode method_6_code 19 = .ok (.ifCond .eq 7, 3) := by decide +kernel
theorem d17_22 : decode method_6_code 22 = .ok (.getstatic 59, 3) := by decide +kernel
theorem d17_25 : decode method_6_code 25 = .ok (.areturn, 1) := by decide +kernel
theorem d17_26 : decode method_6_code 26 = .ok (.aload_n 0, 1) := by decide +kernel
theorem d17_27 : decode method_6_code 27 = .ok (.ldc 34, 2) := by decide +kernel
theorem d17_29 : decode method_6_code 29 = .ok (.invokevirtual 51, 3) := by decide +kernel
theorem d17_32 : decode method_6_code 32 = .ok (.ifCond .eq 7, 3) := by decide +kernel
theorem d17_35 : decode method_6_code 35 = .ok (.getstatic 62, 3) := by decide +kernel
theorem d17_38 : decode method_6_code 38 = .ok (.areturn, 1) := by decide +kernel
theorem d17_39 : decode method_6_code 39 = .ok (.aload_n 0, 1) := by decide +kernel
theorem d17_40 : decode method_6_code 40 = .ok (.ldc 36, 2) := by decide +kernel
theorem d17_42 : decode method_6_code 42 = .ok (.invokevirtual 51, 3) := by decide +kernel
theorem d17_45 : decode method_6_code 45 = .ok (.ifCond .eq 7, 3) := by decide +kernel
theorem d17_48 : decode method_6_code 48 = .ok (.getstatic 65, 3) := by decide +kernel
theorem d17_51 : decode method_6_code 51 = .ok (.areturn, 1) := by decide +kernel
theorem d17_52 : decode method_6_code 52 = .ok (.aconst_null, 1) := by decide +kernel
theorem d17_53 : decode method_6_code 53 = .ok (.areturn, 1) := by decide +kernel
theorem pd_9 : parseMethodDescriptor "(Ljava/lang/Object;)Z" = some ⟨[(.object "java/lang/Object")], some .boolean⟩ := by decide +kernel
theorem pn_rm17 : plainFor yy13 = true := by first | exact plainFor_of_name (by first | (simp [plainName, overriddenIn]; done) | decide +kernel) | decide +kernel
theorem ef_rm17 (m : MethodId) (wd : Addr) : entryFrame m #[(.ref wd)] 1 = (mkF m 0 #[rv wd] []) := by first | (simp [entryFrame, mkF, argsToLocals, Value.category]; done) | rfl
def Q17 (Z : State) (wd : Addr) (wv : Addr) (kw9 : ClassId) (cs : Int32) (z1 : Int32) (vs1 : List Value) (us1 : List Int32) (s0 : Addr) (s1 : Addr) (s2 : Addr) (s3 : Addr) (h0 : Heap) (n0 : Nat) (v_ : Option Value) (h_ : Heap) (L_ : List Loc) : Prop := (v_ = some (own_rf us1 s0 s1 s2 s3)) ∧ (Fr n0 L_) ∧ (Keep h0 h_ []) ∧ ((own_rf us1 s0 s1 s2 s3).isRef = true)
set_option maxRecDepth 65536 in
set_option maxHeartbeats 40000000 in
theorem rm17 (l : Launch) (Z : State) (a0 : Array Value) (hw : ∀ d ∈ tables_1, d.before a0 Z = true) (ws : List Jvm.Cond) (hEL : EW Z a0 consts_1) (wd : Addr) (wv : Addr) (kw9 : ClassId) (cs : Int32) (z1 : Int32) (vs1 : List Value) (us1 : List Int32) (s0 : Addr) (s1 : Addr) (s2 : Addr) (s3 : Addr) (h0 : Heap) (n0 : Nat) (Z0 : n0 ≤ h0.size) (p_0 : Exa Z h0 wd "java/lang/String") (p_1 : Fld Z h0 wd "java/lang/String" "coder" "B" (.int (0 : Int32))) (p_2 : Fld Z h0 wd "java/lang/String" "value" "[B" (.ref wv)) (p_3 : Arv Z h0 wv kw9 .byte z1 vs1 (.int (0 : Int32))) (hok : own_ok us1 z1 vs1) (p_5 : Sta Z h0 "java/lang/String" "COMPACT_STRINGS" "Z" (.int cs)) (hcs : ¬ cs = (0 : Int32)) (p_7 : Sta Z h0 "com/example/majra/majra/lang/ParameterKind" "INT" "Lcom/example/majra/majra/lang/ParameterKind;" (.ref s0)) (p_8 : Sta Z h0 "com/example/majra/majra/lang/ParameterKind" "FLOAT" "Lcom/example/majra/majra/lang/ParameterKind;" (.ref s1)) (p_9 : Sta Z h0 "com/example/majra/majra/lang/ParameterKind" "BOOLEAN" "Lcom/example/majra/majra/lang/ParameterKind;" (.ref s2)) (p_10 : Sta Z h0 "com/example/majra/majra/lang/ParameterKind" "STRING" "Lcom/example/majra/majra/lang/ParameterKind;" (.ref s3)) :
    MetFree l yy13 (head1 (Jvm.Cond.code yy13 method_6_code 1 (some (.object "com/example/majra/majra/lang/ParameterKind")) :: ws) rRrm17) (fun a_ U_ => a_ = #[(.ref wd)] ∧ Z.Warmed39 U_.vm ∧ U_.heap = h0 ∧ CHv Z consts_1 U_.vm h0 ∧ ∀ x_ ∈ ([] : List Addr), Safe Z consts_1 U_.vm h0 x_) (fun _ _ _ _ _ => True) (fun _ U_ o_ U1_ => ∃ v_ L_, o_ = .returned v_ ∧ Q17 Z wd wv kw9 cs z1 vs1 us1 s0 s1 s2 s3 h0 n0 v_ U1_.heap L_ ∧ CHr Z consts_1 U_.vm U_.heap U1_.vm U1_.heap ∧ ReturnedEndW U_ o_ U1_ L_ rRrm17.cells rRrm17.slots) := by
  refine MetFree.of_bodySF pn_rm17 hisR ?_
  intro p e s m args below meth c s₁ Bd hml0 hP hK
  obtain ⟨rfl, hZ, hh, hCH, hSf⟩ := hP
  have hx := Bd.exec
  have hby := Bd.bytes
  have hlk : meth.locks = false := Bd.notSynchronized
  have hml : c.maxLocals = 1 := hml0
  have hown : s.vm.findClass "com/example/majra/majra/lang/ParameterKindNamedPinLaw" = some m.cls := findClass_of_methodNamed Bd.named
  have hnm := (name_of_methodNamed Bd.named Bd.method).1
  have X0 : Stand p l e rRrm17 (s.setVm s.vm) m #[(.ref wd)] below meth c s₁ [] 0 0 := Stand.of_body Bd
  have e0 : s₁.heap = h0 := by rw [← hh, Bd.state]; rfl
  have N0 := Fr.nil n0
  have hS0 : s.Since s.vm n0 := (State.WarmedH.refl s).since n0
  have wS : ∀ d ∈ Bundle.stringAtoms, d.before a0 Z = true := by
    intro d hd
    simp only [Bundle.stringAtoms, List.mem_cons, List.not_mem_nil, or_false] at hd
    rcases hd with rfl | rfl | rfl | rfl | rfl | rfl | rfl
    · exact (own_w hw 5 rfl)
    · exact (own_w hw 6 rfl)
    · exact (own_w hw 7 rfl)
    · exact (own_w hw 8 rfl)
    · exact (own_w hw 9 rfl)
    · exact (own_w hw 10 rfl)
    · exact (own_w hw 11 rfl)
  have C0 := CHr.refl hCH
  show own_GoesH p e below s Z consts_1 (Q17 Z wd wv kw9 cs z1 vs1 us1 s0 s1 s2 s3 h0 n0) rRrm17.cells rRrm17.slots s₁ (entryFrame m #[(.ref wd)] 1)
  rw [ef_rm17 m wd]
  show own_GoesH p e below s Z consts_1 (Q17 Z wd wv kw9 cs z1 vs1 us1 s0 s1 s2 s3 h0 n0) rRrm17.cells rRrm17.slots s₁ (mkF m 0 #[rv wd] [])
  refine own_stH (fun _ kk_ => XS.aloadN X0.here hx rfl (hb hby d17_0) rfl rfl kk_) ?_
  show own_GoesH _ _ _ _ _ _ _ _ _ s₁ (mkF m 1 #[rv wd] [(.ref wd)])
  obtain ⟨b1, T1, h1, k1, d1, kc1, X1, e1, E1, hS1, Ka1, hZ, hown, Ex1, Fc1, Fv1, Av1, -, -, hC1, -, hsa1, st1⟩ := ldcCH X0 hx hZ hown (own_w hw 4 rfl) wS e0 hS0 Z0 hEL (List.mem_of_getElem? (i := 0) rfl) C0.1 (vs := [(.int (105 : Int32)), (.int (110 : Int32)), (.int (116 : Int32))]) (z := (3 : Int32)) ⟨by decide, by decide⟩ (by decide) (by decide) (g := (mkF m 1 #[rv wd] [(.ref wd)])) rfl (hb hby d17_1) (n := 12) (by decide) (by decide) (by decide) (by decide)
  have f1_0 := p_0.ext E1
  have f1_1 := p_1.ext E1
  have f1_2 := p_2.ext E1
  have f1_3 := p_3.ext E1
  have f1_4 := p_5.ext E1
  have f1_5 := p_7.ext E1
  have f1_6 := p_8.ext E1
  have f1_7 := p_9.ext E1
  have f1_8 := p_10.ext E1
  have C1 := C0.trans hC1
  have Zs1 : n0 ≤ h1.size := Nat.le_trans Z0 E1.1
  have K1 := (Keep.refl h0 []).ext E1
  have Ks1 := Nat.le_trans Z0 E1.1
  refine own_stH st1 ?_
  show own_GoesH _ _ _ _ _ _ _ _ _ T1 (mkF m 3 #[rv wd] [(.ref b1), (.ref wd)])
  obtain ⟨cq2, kq2, q2a, q2b, q2c⟩ := isOf hZ e1 f1_0
  obtain ⟨_, _, ⟨T2, L2, k2, n2⟩, -, X2, ⟨Lc2, hQ2, l2, y2, z2⟩, st2⟩ := X1.virtualBack hx (y := yy12) (z := yy12) hown (mvT hZ (own_w hw 78 rfl)) (mvT hZ (own_w hw 79 rfl)) (notFace_of_selects (args := #[]) (mvT hZ (own_w hw 81 rfl))) (mvT hZ (own_w hw 81 rfl)) (mvT hZ (own_w hw 80 rfl)) (by decide) (own_eqW (W := 0) (n0 := n0) hZ hw (kI := 4) (own_w hw 6 rfl) (us := us1) (ds := [(105 : Int32), (110 : Int32), (116 : Int32)]) f1_0 f1_1 f1_2 Ex1 Fc1 Fv1 f1_3 Av1 hok own_kw0 f1_4 (by assumption) (by decide) (by decide)) q2a q2c (g := (mkF m 3 #[rv wd] [(.ref b1), (.ref wd)])) rfl (by rw [hml]; rfl) (Steps.refl _) (argsL := [(.ref b1)]) (rest := []) (lenOf pd_9 rfl) rfl (by show 2 * 0 + _ ≤ _; exact Nat.le_of_eq rfl) (hb hby d17_3) (fun _ _ => ⟨rfl, e1, (by decide : 2 + 0 ≤ _), (by decide : 16 + 0 ≤ _)⟩)
  dsimp only [Pt.U, Pt.locs, Pt.cells, Pt.slots] at X2 l2 y2 z2 st2 hQ2
  subst l2 y2 z2
  obtain ⟨rfl, Nq2, eq2⟩ := hQ2
  have N2 := Fr.app N0 Nq2
  refine own_stH (fun _ kk_ => st2.trans kk_) ?_
  show own_GoesH _ _ _ _ _ _ _ _ _ T2 (mkF m 6 #[rv wd] [(.int (own_b (us1 = [(105 : Int32), (110 : Int32), (116 : Int32)])))])
  rcases Classical.em (us1 = [(105 : Int32), (110 : Int32), (116 : Int32)]) with hM0 | hM0
  · refine own_stH (fun _ kk_ => XS.ifNo X2.here hx rfl (hb hby d17_6) rfl (XT.i0_eq_f (by rw [own_b1 hM0]; decide)) kk_) ?_
    show own_GoesH _ _ _ _ _ _ _ _ _ T2 (mkF m 9 #[rv wd] [])
    obtain ⟨T3, X3, e3, st3⟩ := getS2 X2 hx hZ hown (host := "") (Or.inl (own_w hw 87 rfl)) Via.refl eq2 f1_5 (g := (mkF m 9 #[rv wd] [])) rfl (hb hby d17_9)
    refine own_stH st3 ?_
    show own_GoesH _ _ _ _ _ _ _ _ _ T3 (mkF m 12 #[rv wd] [(.ref s0)])
    refine own_endH (v := (some (.ref s0))) X3 hlk hS1 (by rw [e3]; exact Ka1) hZ hEL hh e3 C1 (fun h => by rw [Bd.returns] at h; cases h) (by decide) (by decide) ?_ (fun fs hr => retOut X3 hx Bd.returns (own_narR rfl) (Or.inr (Or.inr (Or.inr (Or.inr ⟨rfl, rfl, rfl⟩)))) (hb hby d17_12) hr)
    show Q17 Z wd wv kw9 cs z1 vs1 us1 s0 s1 s2 s3 h0 n0 (some (.ref s0)) T3.heap _
    rw [e3]
    exact ⟨by rw [own_rf, own_pk1 hM0], N2, K1, own_rfr us1 s0 s1 s2 s3⟩
  · refine own_stH (fun _ kk_ => XS.ifYes X2.here hx rfl (pc0 := 6) (pc' := 13) rfl (hb hby d17_6) rfl (XT.i0_eq_t (own_b0 hM0)) (by decide) (by decide) (XS.aloadN X2.here hx rfl (hb hby d17_13) rfl rfl kk_)) ?_
    show own_GoesH _ _ _ _ _ _ _ _ _ T2 (mkF m 14 #[rv wd] [(.ref wd)])
    obtain ⟨b4, T4, h4, k4, d4, kc4, X4, e4, E4, hS4, Ka4, hZ, hown, Ex4, Fc4, Fv4, Av4, -, -, hC4, -, hsa4, st4⟩ := ldcCH X2 hx hZ hown (own_w hw 115 rfl) wS eq2 hS1 Ka1 hEL (List.mem_of_getElem? (i := 1) rfl) C1.1 (vs := [(.int (102 : Int32)), (.int (108 : Int32)), (.int (111 : Int32)), (.int (97 : Int32)), (.int (116 : Int32))]) (z := (5 : Int32)) ⟨by decide, by decide⟩ (by decide) (by decide) (g := (mkF m 14 #[rv wd] [(.ref wd)])) rfl (hb hby d17_14) (n := 20) (by decide) (by decide) (by decide) (by decide)
    have f4_0 := f1_0.ext E4
    have f4_1 := f1_1.ext E4
    have f4_2 := f1_2.ext E4
    have f4_3 := f1_3.ext E4
    have f4_4 := f1_4.ext E4
    have f4_5 := f1_5.ext E4
    have f4_6 := f1_6.ext E4
    have f4_7 := f1_7.ext E4
    have f4_8 := f1_8.ext E4
    have f4_9 := Ex1.ext E4
    have f4_10 := Fc1.ext E4
    have f4_11 := Fv1.ext E4
    have f4_12 := Av1.ext E4
    have C4 := C1.trans hC4
    have Zs4 : n0 ≤ h4.size := Nat.le_trans Zs1 E4.1
    have K4 := K1.ext E4
    have Ks4 := Nat.le_trans Ka1 E4.1
    refine own_stH st4 ?_
    show own_GoesH _ _ _ _ _ _ _ _ _ T4 (mkF m 16 #[rv wd] [(.ref b4), (.ref wd)])
    obtain ⟨cq5, kq5, q5a, q5b, q5c⟩ := isOf hZ e4 f4_0
    obtain ⟨_, _, ⟨T5, L5, k5, n5⟩, -, X5, ⟨Lc5, hQ5, l5, y5, z5⟩, st5⟩ := X4.virtualBack hx (y := yy12) (z := yy12) hown (mvT hZ (own_w hw 78 rfl)) (mvT hZ (own_w hw 79 rfl)) (notFace_of_selects (args := #[]) (mvT hZ (own_w hw 81 rfl))) (mvT hZ (own_w hw 81 rfl)) (mvT hZ (own_w hw 80 rfl)) (by decide) (own_eqW (W := 0) (n0 := n0) hZ hw (kI := 4) (own_w hw 6 rfl) (us := us1) (ds := [(102 : Int32), (108 : Int32), (111 : Int32), (97 : Int32), (116 : Int32)]) f4_0 f4_1 f4_2 Ex4 Fc4 Fv4 f4_3 Av4 hok own_kw1 f4_4 (by assumption) (by decide) (by decide)) q5a q5c (g := (mkF m 16 #[rv wd] [(.ref b4), (.ref wd)])) rfl (by rw [hml]; rfl) (Steps.refl _) (argsL := [(.ref b4)]) (rest := []) (lenOf pd_9 rfl) rfl (by show 2 * 0 + _ ≤ _; exact Nat.le_of_eq rfl) (hb hby d17_16) (fun _ _ => ⟨rfl, e4, (by decide : 4 + 0 ≤ _), (by decide : 40 + 0 ≤ _)⟩)
    dsimp only [Pt.U, Pt.locs, Pt.cells, Pt.slots] at X5 l5 y5 z5 st5 hQ5
    subst l5 y5 z5
    obtain ⟨rfl, Nq5, eq5⟩ := hQ5
    have N5 := Fr.app N2 Nq5
    refine own_stH (fun _ kk_ => st5.trans kk_) ?_
    show own_GoesH _ _ _ _ _ _ _ _ _ T5 (mkF m 19 #[rv wd] [(.int (own_b (us1 = [(102 : Int32), (108 : Int32), (111 : Int32), (97 : Int32), (116 : Int32)])))])
    rcases Classical.em (us1 = [(102 : Int32), (108 : Int32), (111 : Int32), (97 : Int32), (116 : Int32)]) with hM1 | hM1
    · refine own_stH (fun _ kk_ => XS.ifNo X5.here hx rfl (hb hby d17_19) rfl (XT.i0_eq_f (by rw [own_b1 hM1]; decide)) kk_) ?_
      show own_GoesH _ _ _ _ _ _ _ _ _ T5 (mkF m 22 #[rv wd] [])
      obtain ⟨T6, X6, e6, st6⟩ := getS2 X5 hx hZ hown (host := "") (Or.inl (own_w hw 118 rfl)) Via.refl eq5 f4_6 (g := (mkF m 22 #[rv wd] [])) rfl (hb hby d17_22)
      refine own_stH st6 ?_
      show own_GoesH _ _ _ _ _ _ _ _ _ T6 (mkF m 25 #[rv wd] [(.ref s1)])
      refine own_endH (v := (some (.ref s1))) X6 hlk hS4 (by rw [e6]; exact Ka4) hZ hEL hh e6 C4 (fun h => by rw [Bd.returns] at h; cases h) (by decide) (by decide) ?_ (fun fs hr => retOut X6 hx Bd.returns (own_narR rfl) (Or.inr (Or.inr (Or.inr (Or.inr ⟨rfl, rfl, rfl⟩)))) (hb hby d17_25) hr)
      show Q17 Z wd wv kw9 cs z1 vs1 us1 s0 s1 s2 s3 h0 n0 (some (.ref s1)) T6.heap _
      rw [e6]
      exact ⟨by rw [own_rf, own_pk0 hM0, own_pk1 hM1], N5, K4, own_rfr us1 s0 s1 s2 s3⟩
    · refine own_stH (fun _ kk_ => XS.ifYes X5.here hx rfl (pc0 := 19) (pc' := 26) rfl (hb hby d17_19) rfl (XT.i0_eq_t (own_b0 hM1)) (by decide) (by decide) (XS.aloadN X5.here hx rfl (hb hby d17_26) rfl rfl kk_)) ?_
      show own_GoesH _ _ _ _ _ _ _ _ _ T5 (mkF m 27 #[rv wd] [(.ref wd)])
      obtain ⟨b7, T7, h7, k7, d7, kc7, X7, e7, E7, hS7, Ka7, hZ, hown, Ex7, Fc7, Fv7, Av7, -, -, hC7, -, hsa7, st7⟩ := ldcCH X5 hx hZ hown (own_w hw 116 rfl) wS eq5 hS4 Ka4 hEL (List.mem_of_getElem? (i := 2) rfl) C4.1 (vs := [(.int (98 : Int32)), (.int (111 : Int32)), (.int (111 : Int32)), (.int (108 : Int32)), (.int (101 : Int32)), (.int (97 : Int32)), (.int (110 : Int32))]) (z := (7 : Int32)) ⟨by decide, by decide⟩ (by decide) (by decide) (g := (mkF m 27 #[rv wd] [(.ref wd)])) rfl (hb hby d17_27) (n := 28) (by decide) (by decide) (by decide) (by decide)
      have f7_0 := f4_0.ext E7
      have f7_1 := f4_1.ext E7
      have f7_2 := f4_2.ext E7
      have f7_3 := f4_3.ext E7
      have f7_4 := f4_4.ext E7
      have f7_5 := f4_5.ext E7
      have f7_6 := f4_6.ext E7
      have f7_7 := f4_7.ext E7
      have f7_8 := f4_8.ext E7
      have f7_9 := f4_9.ext E7
      have f7_10 := f4_10.ext E7
      have f7_11 := f4_11.ext E7
      have f7_12 := f4_12.ext E7
      have f7_13 := Ex4.ext E7
      have f7_14 := Fc4.ext E7
      have f7_15 := Fv4.ext E7
      have f7_16 := Av4.ext E7
      have C7 := C4.trans hC7
      have Zs7 : n0 ≤ h7.size := Nat.le_trans Zs4 E7.1
      have K7 := K4.ext E7
      have Ks7 := Nat.le_trans Ka4 E7.1
      refine own_stH st7 ?_
      show own_GoesH _ _ _ _ _ _ _ _ _ T7 (mkF m 29 #[rv wd] [(.ref b7), (.ref wd)])
      obtain ⟨cq8, kq8, q8a, q8b, q8c⟩ := isOf hZ e7 f7_0
      obtain ⟨_, _, ⟨T8, L8, k8, n8⟩, -, X8, ⟨Lc8, hQ8, l8, y8, z8⟩, st8⟩ := X7.virtualBack hx (y := yy12) (z := yy12) hown (mvT hZ (own_w hw 78 rfl)) (mvT hZ (own_w hw 79 rfl)) (notFace_of_selects (args := #[]) (mvT hZ (own_w hw 81 rfl))) (mvT hZ (own_w hw 81 rfl)) (mvT hZ (own_w hw 80 rfl)) (by decide) (own_eqW (W := 0) (n0 := n0) hZ hw (kI := 4) (own_w hw 6 rfl) (us := us1) (ds := [(98 : Int32), (111 : Int32), (111 : Int32), (108 : Int32), (101 : Int32), (97 : Int32), (110 : Int32)]) f7_0 f7_1 f7_2 Ex7 Fc7 Fv7 f7_3 Av7 hok own_kw2 f7_4 (by assumption) (by decide) (by decide)) q8a q8c (g := (mkF m 29 #[rv wd] [(.ref b7), (.ref wd)])) rfl (by rw [hml]; rfl) (Steps.refl _) (argsL := [(.ref b7)]) (rest := []) (lenOf pd_9 rfl) rfl (by show 2 * 0 + _ ≤ _; exact Nat.le_of_eq rfl) (hb hby d17_29) (fun _ _ => ⟨rfl, e7, (by decide : 6 + 0 ≤ _), (by decide : 72 + 0 ≤ _)⟩)
      dsimp only [Pt.U, Pt.locs, Pt.cells, Pt.slots] at X8 l8 y8 z8 st8 hQ8
      subst l8 y8 z8
      obtain ⟨rfl, Nq8, eq8⟩ := hQ8
      have N8 := Fr.app N5 Nq8
      refine own_stH (fun _ kk_ => st8.trans kk_) ?_
      show own_GoesH _ _ _ _ _ _ _ _ _ T8 (mkF m 32 #[rv wd] [(.int (own_b (us1 = [(98 : Int32), (111 : Int32), (111 : Int32), (108 : Int32), (101 : Int32), (97 : Int32), (110 : Int32)])))])
      rcases Classical.em (us1 = [(98 : Int32), (111 : Int32), (111 : Int32), (108 : Int32), (101 : Int32), (97 : Int32), (110 : Int32)]) with hM2 | hM2
      · refine own_stH (fun _ kk_ => XS.ifNo X8.here hx rfl (hb hby d17_32) rfl (XT.i0_eq_f (by rw [own_b1 hM2]; decide)) kk_) ?_
        show own_GoesH _ _ _ _ _ _ _ _ _ T8 (mkF m 35 #[rv wd] [])
        obtain ⟨T9, X9, e9, st9⟩ := getS2 X8 hx hZ hown (host := "") (Or.inl (own_w hw 120 rfl)) Via.refl eq8 f7_7 (g := (mkF m 35 #[rv wd] [])) rfl (hb hby d17_35)
        refine own_stH st9 ?_
        show own_GoesH _ _ _ _ _ _ _ _ _ T9 (mkF m 38 #[rv wd] [(.ref s2)])
        refine own_endH (v := (some (.ref s2))) X9 hlk hS7 (by rw [e9]; exact Ka7) hZ hEL hh e9 C7 (fun h => by rw [Bd.returns] at h; cases h) (by decide) (by decide) ?_ (fun fs hr => retOut X9 hx Bd.returns (own_narR rfl) (Or.inr (Or.inr (Or.inr (Or.inr ⟨rfl, rfl, rfl⟩)))) (hb hby d17_38) hr)
        show Q17 Z wd wv kw9 cs z1 vs1 us1 s0 s1 s2 s3 h0 n0 (some (.ref s2)) T9.heap _
        rw [e9]
        exact ⟨by rw [own_rf, own_pk0 hM0, own_pk0 hM1, own_pk1 hM2], N8, K7, own_rfr us1 s0 s1 s2 s3⟩
      · refine own_stH (fun _ kk_ => XS.ifYes X8.here hx rfl (pc0 := 32) (pc' := 39) rfl (hb hby d17_32) rfl (XT.i0_eq_t (own_b0 hM2)) (by decide) (by decide) (XS.aloadN X8.here hx rfl (hb hby d17_39) rfl rfl kk_)) ?_
        show own_GoesH _ _ _ _ _ _ _ _ _ T8 (mkF m 40 #[rv wd] [(.ref wd)])
        obtain ⟨b10, T10, h10, k10, d10, kc10, X10, e10, E10, hS10, Ka10, hZ, hown, Ex10, Fc10, Fv10, Av10, -, -, hC10, -, hsa10, st10⟩ := ldcCH X8 hx hZ hown (own_w hw 114 rfl) wS eq8 hS7 Ka7 hEL (List.mem_of_getElem? (i := 3) rfl) C7.1 (vs := [(.int (115 : Int32)), (.int (116 : Int32)), (.int (114 : Int32)), (.int (105 : Int32)), (.int (110 : Int32)), (.int (103 : Int32))]) (z := (6 : Int32)) ⟨by decide, by decide⟩ (by decide) (by decide) (g := (mkF m 40 #[rv wd] [(.ref wd)])) rfl (hb hby d17_40) (n := 24) (by decide) (by decide) (by decide) (by decide)
        have f10_0 := f7_0.ext E10
        have f10_1 := f7_1.ext E10
        have f10_2 := f7_2.ext E10
        have f10_3 := f7_3.ext E10
        have f10_4 := f7_4.ext E10
        have f10_5 := f7_5.ext E10
        have f10_6 := f7_6.ext E10
        have f10_7 := f7_7.ext E10
        have f10_8 := f7_8.ext E10
        have f10_9 := f7_9.ext E10
        have f10_10 := f7_10.ext E10
        have f10_11 := f7_11.ext E10
        have f10_12 := f7_12.ext E10
        have f10_13 := f7_13.ext E10
        have f10_14 := f7_14.ext E10
        have f10_15 := f7_15.ext E10
        have f10_16 := f7_16.ext E10
        have f10_17 := Ex7.ext E10
        have f10_18 := Fc7.ext E10
        have f10_19 := Fv7.ext E10
        have f10_20 := Av7.ext E10
        have C10 := C7.trans hC10
        have Zs10 : n0 ≤ h10.size := Nat.le_trans Zs7 E10.1
        have K10 := K7.ext E10
        have Ks10 := Nat.le_trans Ka7 E10.1
        refine own_stH st10 ?_
        show own_GoesH _ _ _ _ _ _ _ _ _ T10 (mkF m 42 #[rv wd] [(.ref b10), (.ref wd)])
        obtain ⟨cq11, kq11, q11a, q11b, q11c⟩ := isOf hZ e10 f10_0
        obtain ⟨_, _, ⟨T11, L11, k11, n11⟩, -, X11, ⟨Lc11, hQ11, l11, y11, z11⟩, st11⟩ := X10.virtualBack hx (y := yy12) (z := yy12) hown (mvT hZ (own_w hw 78 rfl)) (mvT hZ (own_w hw 79 rfl)) (notFace_of_selects (args := #[]) (mvT hZ (own_w hw 81 rfl))) (mvT hZ (own_w hw 81 rfl)) (mvT hZ (own_w hw 80 rfl)) (by decide) (own_eqW (W := 0) (n0 := n0) hZ hw (kI := 4) (own_w hw 6 rfl) (us := us1) (ds := [(115 : Int32), (116 : Int32), (114 : Int32), (105 : Int32), (110 : Int32), (103 : Int32)]) f10_0 f10_1 f10_2 Ex10 Fc10 Fv10 f10_3 Av10 hok own_kw3 f10_4 (by assumption) (by decide) (by decide)) q11a q11c (g := (mkF m 42 #[rv wd] [(.ref b10), (.ref wd)])) rfl (by rw [hml]; rfl) (Steps.refl _) (argsL := [(.ref b10)]) (rest := []) (lenOf pd_9 rfl) rfl (by show 2 * 0 + _ ≤ _; exact Nat.le_of_eq rfl) (hb hby d17_42) (fun _ _ => ⟨rfl, e10, (by decide : 8 + 0 ≤ _), (by decide : 100 + 0 ≤ _)⟩)
        dsimp only [Pt.U, Pt.locs, Pt.cells, Pt.slots] at X11 l11 y11 z11 st11 hQ11
        subst l11 y11 z11
        obtain ⟨rfl, Nq11, eq11⟩ := hQ11
        have N11 := Fr.app N8 Nq11
        refine own_stH (fun _ kk_ => st11.trans kk_) ?_
        show own_GoesH _ _ _ _ _ _ _ _ _ T11 (mkF m 45 #[rv wd] [(.int (own_b (us1 = [(115 : Int32), (116 : Int32), (114 : Int32), (105 : Int32), (110 : Int32), (103 : Int32)])))])
        rcases Classical.em (us1 = [(115 : Int32), (116 : Int32), (114 : Int32), (105 : Int32), (110 : Int32), (103 : Int32)]) with hM3 | hM3
        · refine own_stH (fun _ kk_ => XS.ifNo X11.here hx rfl (hb hby d17_45) rfl (XT.i0_eq_f (by rw [own_b1 hM3]; decide)) kk_) ?_
          show own_GoesH _ _ _ _ _ _ _ _ _ T11 (mkF m 48 #[rv wd] [])
          obtain ⟨T12, X12, e12, st12⟩ := getS2 X11 hx hZ hown (host := "") (Or.inl (own_w hw 119 rfl)) Via.refl eq11 f10_8 (g := (mkF m 48 #[rv wd] [])) rfl (hb hby d17_48)
          refine own_stH st12 ?_
          show own_GoesH _ _ _ _ _ _ _ _ _ T12 (mkF m 51 #[rv wd] [(.ref s3)])
          refine own_endH (v := (some (.ref s3))) X12 hlk hS10 (by rw [e12]; exact Ka10) hZ hEL hh e12 C10 (fun h => by rw [Bd.returns] at h; cases h) (by decide) (by decide) ?_ (fun fs hr => retOut X12 hx Bd.returns (own_narR rfl) (Or.inr (Or.inr (Or.inr (Or.inr ⟨rfl, rfl, rfl⟩)))) (hb hby d17_51) hr)
          show Q17 Z wd wv kw9 cs z1 vs1 us1 s0 s1 s2 s3 h0 n0 (some (.ref s3)) T12.heap _
          rw [e12]
          exact ⟨by rw [own_rf, own_pk0 hM0, own_pk0 hM1, own_pk0 hM2, own_pk1 hM3], N11, K10, own_rfr us1 s0 s1 s2 s3⟩
        · refine own_stH (fun _ kk_ => XS.ifYes X11.here hx rfl (pc0 := 45) (pc' := 52) rfl (hb hby d17_45) rfl (XT.i0_eq_t (own_b0 hM3)) (by decide) (by decide) (XS.aconstNull X11.here hx rfl (hb hby d17_52) kk_)) ?_
          show own_GoesH _ _ _ _ _ _ _ _ _ T11 (mkF m 53 #[rv wd] [.null])
          refine own_endH (v := (some .null)) X11 hlk hS10 (by rw [eq11]; exact Ka10) hZ hEL hh eq11 C10 (fun h => by rw [Bd.returns] at h; cases h) (by decide) (by decide) ?_ (fun fs hr => retOut X11 hx Bd.returns (own_narR rfl) (Or.inr (Or.inr (Or.inr (Or.inr ⟨rfl, rfl, rfl⟩)))) (hb hby d17_53) hr)
          show Q17 Z wd wv kw9 cs z1 vs1 us1 s0 s1 s2 s3 h0 n0 (some .null) T11.heap _
          rw [eq11]
          exact ⟨by rw [own_rf, own_pk0 hM0, own_pk0 hM1, own_pk0 hM2, own_pk0 hM3], N11, K10, own_rfr us1 s0 s1 s2 s3⟩
abbrev rRrm21 : Room := { frames := 1, cells := 1, slots := 4, locals := 14 }
theorem d21_0 : decode prog_64_method_1_code 0 = .ok (.getstatic 16, 3) := by decide +kernel
theorem d21_3 : decode prog_64_method_1_code 3 = .ok (.invokevirtual 20, 3) := by decide +kernel
theorem d21_6 : decode prog_64_method_1_code 6 = .ok (.checkcast 21, 3) := by decide +kernel
theorem d21_9 : decode prog_64_method_1_code 9 = .ok (.areturn, 1) := by decide +kernel
theorem pn_rm21 : plainFor yy14 = true := by first | exact plainFor_of_name (by first | (simp [plainName, overriddenIn]; done) | decide +kernel) | decide +kernel
theorem ef_rm21 (m : MethodId) : entryFrame m #[] 0 = (mkF m 0 #[] []) := by first | (simp [entryFrame, mkF, argsToLocals, Value.category]; done) | rfl
def Q21 (Z : State) (va : Addr) (vk : ClassId) (s0 : Addr) (s1 : Addr) (s2 : Addr) (s3 : Addr) (h0 : Heap) (n0 : Nat) (v_ : Option Value) (h_ : Heap) (L_ : List Loc) : Prop := ∃ y : Addr, (v_ = some (.ref y)) ∧ (Fr n0 L_) ∧ (Keep h0 h_ []) ∧ (h0.size ≤ y) ∧ (Arv Z h_ y vk (.object "com/example/majra/majra/lang/ParameterKind") (4 : Int32) [(.ref s0), (.ref s1), (.ref s2), (.ref s3)] .null)
set_option maxRecDepth 65536 in
set_option maxHeartbeats 40000000 in
theorem rm21 (l : Launch) (Z : State) (a0 : Array Value) (hw : ∀ d ∈ tables_1, d.before a0 Z = true) (ws : List Jvm.Cond) (va : Addr) (vk : ClassId) (s0 : Addr) (s1 : Addr) (s2 : Addr) (s3 : Addr) (h0 : Heap) (n0 : Nat) (Z0 : n0 ≤ h0.size) (p_0 : Sta Z h0 "com/example/majra/majra/lang/ParameterKind" "$VALUES" "[Lcom/example/majra/majra/lang/ParameterKind;" (.ref va)) (p_1 : Exa Z h0 va "[Lcom/example/majra/majra/lang/ParameterKind;") (p_2 : Arv Z h0 va vk (.object "com/example/majra/majra/lang/ParameterKind") (4 : Int32) [(.ref s0), (.ref s1), (.ref s2), (.ref s3)] .null) :
    MetFree l yy14 (head1 (Jvm.Cond.code yy14 prog_64_method_1_code 0 (some (.array (.object "com/example/majra/majra/lang/ParameterKind"))) :: ws) rRrm21) (fun a_ U_ => a_ = #[] ∧ Z.Warmed39 U_.vm ∧ U_.heap = h0) (fun _ _ _ _ _ => True) (fun _ U_ o_ U1_ => ∃ v_ L_, o_ = .returned v_ ∧ Q21 Z va vk s0 s1 s2 s3 h0 n0 v_ U1_.heap L_ ∧ FrameEnd U_ o_ U1_ L_ rRrm21.cells rRrm21.slots) := by
  refine MetFree.of_bodySF pn_rm21 hisR ?_
  intro p e s m args below meth c s₁ Bd hml0 hP hK
  obtain ⟨rfl, hZ, hh⟩ := hP
  have hx := Bd.exec
  have hby := Bd.bytes
  have hlk : meth.locks = false := Bd.notSynchronized
  have hml : c.maxLocals = 0 := hml0
  have hown : s.vm.findClass "com/example/majra/majra/lang/ParameterKind" = some m.cls := findClass_of_methodNamed Bd.named
  have hnm := (name_of_methodNamed Bd.named Bd.method).1
  have X0 : Stand p l e rRrm21 s m #[] below meth c s₁ [] 0 0 := Stand.of_body Bd
  have e0 : s₁.heap = h0 := by rw [← hh, Bd.state]; rfl
  have N0 := Fr.nil n0
  show own_Goes p e below s (Q21 Z va vk s0 s1 s2 s3 h0 n0) rRrm21.cells rRrm21.slots s₁ (entryFrame m #[] 0)
  rw [ef_rm21 m]
  show own_Goes p e below s (Q21 Z va vk s0 s1 s2 s3 h0 n0) rRrm21.cells rRrm21.slots s₁ (mkF m 0 #[] [])
  obtain ⟨T1, X1, e1, st1⟩ := getS2 X0 hx hZ hown (host := "") (Or.inl (own_w hw 96 rfl)) Via.refl e0 p_0 (g := (mkF m 0 #[] [])) rfl (hb hby d21_0)
  refine own_st st1 ?_
  show own_Goes _ _ _ _ _ _ _ T1 (mkF m 3 #[] [(.ref va)])
  obtain ⟨T2, h2, X2, e2, E2, A2, Ea2, st2⟩ := cloneH X1 hx hZ hown (own_w hw 98 rfl) (own_w hw 99 rfl) (own_w hw 103 rfl) (own_w hw 101 rfl) (own_w hw 102 rfl) (own_w hw 104 rfl) e1 (Arv.arh p_2) p_1 (g := (mkF m 3 #[] [(.ref va)])) rfl (by rw [hml]; rfl) rfl (hb hby d21_3) (by decide) (W := 0) (cap := 4) (by show 2 * 0 + _ ≤ _; exact Nat.le_of_eq rfl) (by decide) (by decide) (by decide) (by decide)
  obtain ⟨b2, gx2⟩ : ∃ z, z = h0.size := ⟨_, rfl⟩
  rw [← gx2] at A2 Ea2 st2
  have ne2_va : va ≠ b2 := Nat.ne_of_lt (Nat.lt_of_lt_of_eq p_1.lt gx2.symm)
  have gg2 : n0 ≤ b2 := Nat.le_trans Z0 (Nat.le_of_eq gx2.symm)
  have sz2 : h0.size ≤ b2 := Nat.le_trans (Keep.refl h0 []).1 (Nat.le_of_eq gx2.symm)
  have f2_0 := p_0.ext E2
  have f2_1 := p_1.ext E2
  have f2_2 := p_2.ext E2
  have Zs2 : n0 ≤ h2.size := Nat.le_trans Z0 E2.1
  have K2 := (Keep.refl h0 []).ext E2
  have V2 : Arv Z h2 b2 vk (.object "com/example/majra/majra/lang/ParameterKind") (4 : Int32) [(.ref s0), (.ref s1), (.ref s2), (.ref s3)] .null := A2
  refine own_st st2 ?_
  show own_Goes _ _ _ _ _ _ _ T2 (mkF m 6 #[] [(.ref b2)])
  obtain ⟨T3, X3, e3, st3⟩ := castY X2 hx hZ hown (own_w hw 109 rfl) e2 (Ins.self Ea2) (g := (mkF m 6 #[] [(.ref b2)])) rfl rfl (hb hby d21_6)
  refine own_st st3 ?_
  show own_Goes _ _ _ _ _ _ _ T3 (mkF m 9 #[] [(.ref b2)])
  refine own_retA X3 hx hlk rfl Bd.returns rfl (hb hby d21_9) (by decide) (by decide) ?_
  show Q21 Z va vk s0 s1 s2 s3 h0 n0 (some (.ref b2)) T3.heap _
  rw [e3]
  exact ⟨b2, rfl, N0, K2, sz2, V2⟩
abbrev rRrm20 : Room := { frames := 2, cells := 1, slots := 4, locals := 28 }
theorem d20_0 : decode prog_64_method_4_code 0 = .ok (.aconst_null, 1) := by decide +kernel
theorem d20_1 : decode prog_64_method_4_code 1 = .ok (.astore_n 1, 1) := by decide +kernel
theorem d20_2 : decode prog_64_method_4_code 2 = .ok (.invokestatic 39, 3) := by decide +kernel
theorem d20_5 : decode prog_64_method_4_code 5 = .ok (.astore_n 2, 1) := by decide +kernel
theorem d20_6 : decode prog_64_method_4_code 6 = .ok (.aload_n 2, 1) := by decide +kernel
theorem d20_7 : decode prog_64_method_4_code 7 = .ok (.arraylength, 1) := by decide +kernel
theorem d20_8 : decode prog_64_method_4_code 8 = .ok (.istore_n 3, 1) := by decide +kernel
theorem d20_9 : decode prog_64_method_4_code 9 = .ok (.iconst 0, 1) := by decide +kernel
theorem d20_10 : decode prog_64_method_4_code 10 = .ok (.istore 4, 2) := by decide +kernel
theorem d20_12 : decode prog_64_method_4_code 12 = .ok (.iload 4, 2) := by decide +kernel
theorem d20_14 : decode prog_64_method_4_code 14 = .ok (.iload_n 3, 1) := by decide +kernel
theorem d20_15 : decode prog_64_method_4_code 15 = .ok (.if_icmp .ge 30, 3) := by decide +kernel
theorem d20_18 : decode prog_64_method_4_code 18 = .ok (.aload_n 2, 1) := by decide +kernel
theorem d20_19 : decode prog_64_method_4_code 19 = .ok (.iload 4, 2) := by decide +kernel
theorem d20_21 : decode prog_64_method_4_code 21 = .ok (.aaload, 1) := by decide +kernel
theorem d20_22 : decode prog_64_method_4_code 22 = .ok (.astore 5, 2) := by decide +kernel
theorem d20_24 : decode prog_64_method_4_code 24 = .ok (.aload 5, 2) := by decide +kernel
theorem d20_26 : decode prog_64_method_4_code 26 = .ok (.getfield 35, 3) := by decide +kernel
theorem d20_29 : decode prog_64_method_4_code 29 = .ok (.aload_n 0, 1) := by decide +kernel
theorem d20_30 : decode prog_64_method_4_code 30 = .ok (.invokevirtual 43, 3) := by decide +kernel
theorem d20_33 : decode prog_64_method_4_code 33 = .ok (.ifCond .eq 6, 3) := by decide +kernel
theorem d20_36 : decode prog_64_method_4_code 36 = .ok (.aload 5, 2) := by decide +kernel
theorem d20_38 : decode prog_64_method_4_code 38 = .ok (.astore_n 1, 1) := by decide +kernel
theorem d20_39 : decode prog_64_method_4_code 39 = .ok (.iinc 4 1, 3) := by decide +kernel
theorem d20_42 : decode prog_64_method_4_code 42 = .ok (.goto (-30), 3) := by decide +kernel
theorem d20_45 : decode prog_64_method_4_code 45 = .ok (.aload_n 1, 1) := by decide +kernel
theorem d20_46 : decode prog_64_method_4_code 46 = .ok (.areturn, 1) := by decide +kernel
theorem pd_10 : parseMethodDescriptor "()[Lcom/example/majra/majra/lang/ParameterKind;" = some ⟨[], some (.array (.object "com/example/majra/majra/lang/ParameterKind"))⟩ := by decide +kernel
theorem pn_rm20 : plainFor yy15 = true := by first | exact plainFor_of_name (by first | (simp [plainName, overriddenIn]; done) | decide +kernel) | decide +kernel
theorem ef_rm20 (m : MethodId) (wd : Addr) : entryFrame m #[(.ref wd)] 6 = (mkF m 0 #[rv wd, .unset, .unset, .unset, .unset, .unset] []) := by first | (simp [entryFrame, mkF, argsToLocals, Value.category]; done) | rfl
def Q20 (Z : State) (wd : Addr) (wv : Addr) (kw9 : ClassId) (cs : Int32) (z1 : Int32) (vs1 : List Value) (us1 : List Int32) (va : Addr) (vk : ClassId) (s0 : Addr) (s1 : Addr) (s2 : Addr) (s3 : Addr) (k0a : Addr) (k0b : Addr) (k0c : ClassId) (k1a : Addr) (k1b : Addr) (k1c : ClassId) (k2a : Addr) (k2b : Addr) (k2c : ClassId) (k3a : Addr) (k3b : Addr) (k3c : ClassId) (h0 : Heap) (n0 : Nat) (v_ : Option Value) (h_ : Heap) (L_ : List Loc) : Prop := (v_ = some (own_nd us1 s0 s1 s2 s3)) ∧ (Fr n0 L_) ∧ (Keep h0 h_ []) ∧ ((own_nd us1 s0 s1 s2 s3).isRef = true)
set_option maxRecDepth 65536 in
set_option maxHeartbeats 40000000 in
theorem rm20 (l : Launch) (Z : State) (a0 : Array Value) (hw : ∀ d ∈ tables_1, d.before a0 Z = true) (ws : List Jvm.Cond) (wd : Addr) (wv : Addr) (kw9 : ClassId) (cs : Int32) (z1 : Int32) (vs1 : List Value) (us1 : List Int32) (va : Addr) (vk : ClassId) (s0 : Addr) (s1 : Addr) (s2 : Addr) (s3 : Addr) (k0a : Addr) (k0b : Addr) (k0c : ClassId) (k1a : Addr) (k1b : Addr) (k1c : ClassId) (k2a : Addr) (k2b : Addr) (k2c : ClassId) (k3a : Addr) (k3b : Addr) (k3c : ClassId) (h0 : Heap) (n0 : Nat) (Z0 : n0 ≤ h0.size) (p_0 : Exa Z h0 wd "java/lang/String") (p_1 : Fld Z h0 wd "java/lang/String" "coder" "B" (.int (0 : Int32))) (p_2 : Fld Z h0 wd "java/lang/String" "value" "[B" (.ref wv)) (p_3 : Arv Z h0 wv kw9 .byte z1 vs1 (.int (0 : Int32))) (hok : own_ok us1 z1 vs1) (p_5 : Sta Z h0 "java/lang/String" "COMPACT_STRINGS" "Z" (.int cs)) (hcs : ¬ cs = (0 : Int32)) (p_7 : Sta Z h0 "com/example/majra/majra/lang/ParameterKind" "$VALUES" "[Lcom/example/majra/majra/lang/ParameterKind;" (.ref va)) (p_8 : Exa Z h0 va "[Lcom/example/majra/majra/lang/ParameterKind;") (p_9 : Arv Z h0 va vk (.object "com/example/majra/majra/lang/ParameterKind") (4 : Int32) [(.ref s0), (.ref s1), (.ref s2), (.ref s3)] .null) (p_10 : Fld Z h0 s0 "com/example/majra/majra/lang/ParameterKind" "keyword" "Ljava/lang/String;" (.ref k0a)) (p_11 : Exa Z h0 k0a "java/lang/String") (p_12 : Fld Z h0 k0a "java/lang/String" "coder" "B" (.int (0 : Int32))) (p_13 : Fld Z h0 k0a "java/lang/String" "value" "[B" (.ref k0b)) (p_14 : Arv Z h0 k0b k0c .byte (3 : Int32) [(.int (105 : Int32)), (.int (110 : Int32)), (.int (116 : Int32))] (.int (0 : Int32))) (p_15 : Fld Z h0 s1 "com/example/majra/majra/lang/ParameterKind" "keyword" "Ljava/lang/String;" (.ref k1a)) (p_16 : Exa Z h0 k1a "java/lang/String") (p_17 : Fld Z h0 k1a "java/lang/String" "coder" "B" (.int (0 : Int32))) (p_18 : Fld Z h0 k1a "java/lang/String" "value" "[B" (.ref k1b)) (p_19 : Arv Z h0 k1b k1c .byte (5 : Int32) [(.int (102 : Int32)), (.int (108 : Int32)), (.int (111 : Int32)), (.int (97 : Int32)), (.int (116 : Int32))] (.int (0 : Int32))) (p_20 : Fld Z h0 s2 "com/example/majra/majra/lang/ParameterKind" "keyword" "Ljava/lang/String;" (.ref k2a)) (p_21 : Exa Z h0 k2a "java/lang/String") (p_22 : Fld Z h0 k2a "java/lang/String" "coder" "B" (.int (0 : Int32))) (p_23 : Fld Z h0 k2a "java/lang/String" "value" "[B" (.ref k2b)) (p_24 : Arv Z h0 k2b k2c .byte (7 : Int32) [(.int (98 : Int32)), (.int (111 : Int32)), (.int (111 : Int32)), (.int (108 : Int32)), (.int (101 : Int32)), (.int (97 : Int32)), (.int (110 : Int32))] (.int (0 : Int32))) (p_25 : Fld Z h0 s3 "com/example/majra/majra/lang/ParameterKind" "keyword" "Ljava/lang/String;" (.ref k3a)) (p_26 : Exa Z h0 k3a "java/lang/String") (p_27 : Fld Z h0 k3a "java/lang/String" "coder" "B" (.int (0 : Int32))) (p_28 : Fld Z h0 k3a "java/lang/String" "value" "[B" (.ref k3b)) (p_29 : Arv Z h0 k3b k3c .byte (6 : Int32) [(.int (115 : Int32)), (.int (116 : Int32)), (.int (114 : Int32)), (.int (105 : Int32)), (.int (110 : Int32)), (.int (103 : Int32))] (.int (0 : Int32))) :
    MetFree l yy15 (head1 (Jvm.Cond.code yy15 prog_64_method_4_code 6 (some (.object "com/example/majra/majra/lang/ParameterKind")) :: ws) rRrm20) (fun a_ U_ => a_ = #[(.ref wd)] ∧ Z.Warmed39 U_.vm ∧ U_.heap = h0) (fun _ _ _ _ _ => True) (fun _ U_ o_ U1_ => ∃ v_ L_, o_ = .returned v_ ∧ Q20 Z wd wv kw9 cs z1 vs1 us1 va vk s0 s1 s2 s3 k0a k0b k0c k1a k1b k1c k2a k2b k2c k3a k3b k3c h0 n0 v_ U1_.heap L_ ∧ FrameEnd U_ o_ U1_ L_ rRrm20.cells rRrm20.slots) := by
  refine MetFree.of_bodySF pn_rm20 hisR ?_
  intro p e s m args below meth c s₁ Bd hml0 hP hK
  obtain ⟨rfl, hZ, hh⟩ := hP
  have hx := Bd.exec
  have hby := Bd.bytes
  have hlk : meth.locks = false := Bd.notSynchronized
  have hml : c.maxLocals = 6 := hml0
  have hown : s.vm.findClass "com/example/majra/majra/lang/ParameterKind" = some m.cls := findClass_of_methodNamed Bd.named
  have hnm := (name_of_methodNamed Bd.named Bd.method).1
  have X0 : Stand p l e rRrm20 s m #[(.ref wd)] below meth c s₁ [] 0 0 := Stand.of_body Bd
  have e0 : s₁.heap = h0 := by rw [← hh, Bd.state]; rfl
  have N0 := Fr.nil n0
  show own_Goes p e below s (Q20 Z wd wv kw9 cs z1 vs1 us1 va vk s0 s1 s2 s3 k0a k0b k0c k1a k1b k1c k2a k2b k2c k3a k3b k3c h0 n0) rRrm20.cells rRrm20.slots s₁ (entryFrame m #[(.ref wd)] 6)
  rw [ef_rm20 m wd]
  show own_Goes p e below s (Q20 Z wd wv kw9 cs z1 vs1 us1 va vk s0 s1 s2 s3 k0a k0b k0c k1a k1b k1c k2a k2b k2c k3a k3b k3c h0 n0) rRrm20.cells rRrm20.slots s₁ (mkF m 0 #[rv wd, .unset, .unset, .unset, .unset, .unset] [])
  refine own_st (fun _ kk_ => XS.aconstNull X0.here hx rfl (hb hby d20_0) (XS.astoreN X0.here hx rfl (hb hby d20_1) rfl rfl (l' := #[rv wd, .val .null, .unset, .unset, .unset, .unset]) rfl kk_)) ?_
  show own_Goes _ _ _ _ _ _ _ s₁ (mkF m 2 #[rv wd, .val .null, .unset, .unset, .unset, .unset] [])
  obtain ⟨_, _, ⟨T1, L1, k1, n1⟩, -, X1, ⟨Lc1, hQ1, l1, y1, z1⟩, st1⟩ := Jvm.LawKit.callS X0 hx (y := yy14) hown (mvT hZ (own_w hw 93 rfl)) (mvT hZ (own_w hw 94 rfl)) (mvT hZ (own_w hw 88 rfl)) (mvT hZ (own_w hw 95 rfl)) (by decide) (backOf (W := 0) (rm21 l Z a0 hw []  (va) (vk) (s0) (s1) (s2) (s3) h0 n0 Z0 p_7 p_8 p_9) hZ (own_w hw 95 rfl) (own_w hw 88 rfl) (by decide) (by decide)) (g := (mkF m 2 #[rv wd, .val .null, .unset, .unset, .unset, .unset] [])) rfl (by rw [hml]; rfl) (argsL := []) (rest := []) (lenOf pd_10 rfl) rfl (by show 2 * 0 + _ ≤ _; exact Nat.le_of_eq rfl) (hb hby d20_2) (fun _ _ => ⟨rfl, e0, (by decide : 0 + 1 ≤ _), (by decide : 0 + 4 ≤ _)⟩)
  dsimp only [Pt.U, Pt.locs, Pt.cells, Pt.slots] at X1 l1 y1 z1 st1 hQ1
  subst l1 y1 z1
  obtain ⟨x1_y, rfl, Nq1, Kq1, u1_0, u1_1⟩ := hQ1
  have N1 := Fr.app N0 Nq1
  have f1_0 := p_0.keep Kq1
  have f1_1 := p_1.keep Kq1 nin0
  have f1_2 := p_2.keep Kq1 nin0
  have f1_3 := p_3.keep Kq1 nin0
  have f1_4 := own_Sta_keep p_5 Kq1 ns0
  have f1_5 := own_Sta_keep p_7 Kq1 ns0
  have f1_6 := p_8.keep Kq1
  have f1_7 := p_9.keep Kq1 nin0
  have f1_8 := p_10.keep Kq1 nin0
  have f1_9 := p_11.keep Kq1
  have f1_10 := p_12.keep Kq1 nin0
  have f1_11 := p_13.keep Kq1 nin0
  have f1_12 := p_14.keep Kq1 nin0
  have f1_13 := p_15.keep Kq1 nin0
  have f1_14 := p_16.keep Kq1
  have f1_15 := p_17.keep Kq1 nin0
  have f1_16 := p_18.keep Kq1 nin0
  have f1_17 := p_19.keep Kq1 nin0
  have f1_18 := p_20.keep Kq1 nin0
  have f1_19 := p_21.keep Kq1
  have f1_20 := p_22.keep Kq1 nin0
  have f1_21 := p_23.keep Kq1 nin0
  have f1_22 := p_24.keep Kq1 nin0
  have f1_23 := p_25.keep Kq1 nin0
  have f1_24 := p_26.keep Kq1
  have f1_25 := p_27.keep Kq1 nin0
  have f1_26 := p_28.keep Kq1 nin0
  have f1_27 := p_29.keep Kq1 nin0
  have Zs1 : n0 ≤ T1.heap.size := Nat.le_trans Z0 Kq1.1
  have K1 := (Keep.refl h0 []).trans Kq1 all0
  have ne1_wd : wd ≠ x1_y := Nat.ne_of_lt (Nat.lt_of_lt_of_le p_0.lt u1_0)
  have ne1_wv : wv ≠ x1_y := Nat.ne_of_lt (Nat.lt_of_lt_of_le p_3.lt u1_0)
  have ne1_va : va ≠ x1_y := Nat.ne_of_lt (Nat.lt_of_lt_of_le p_8.lt u1_0)
  have ne1_s0 : s0 ≠ x1_y := Nat.ne_of_lt (Nat.lt_of_lt_of_le p_10.lt u1_0)
  have ne1_k0a : k0a ≠ x1_y := Nat.ne_of_lt (Nat.lt_of_lt_of_le p_11.lt u1_0)
  have ne1_k0b : k0b ≠ x1_y := Nat.ne_of_lt (Nat.lt_of_lt_of_le p_14.lt u1_0)
  have ne1_s1 : s1 ≠ x1_y := Nat.ne_of_lt (Nat.lt_of_lt_of_le p_15.lt u1_0)
  have ne1_k1a : k1a ≠ x1_y := Nat.ne_of_lt (Nat.lt_of_lt_of_le p_16.lt u1_0)
  have ne1_k1b : k1b ≠ x1_y := Nat.ne_of_lt (Nat.lt_of_lt_of_le p_19.lt u1_0)
  have ne1_s2 : s2 ≠ x1_y := Nat.ne_of_lt (Nat.lt_of_lt_of_le p_20.lt u1_0)
  have ne1_k2a : k2a ≠ x1_y := Nat.ne_of_lt (Nat.lt_of_lt_of_le p_21.lt u1_0)
  have ne1_k2b : k2b ≠ x1_y := Nat.ne_of_lt (Nat.lt_of_lt_of_le p_24.lt u1_0)
  have ne1_s3 : s3 ≠ x1_y := Nat.ne_of_lt (Nat.lt_of_lt_of_le p_25.lt u1_0)
  have ne1_k3a : k3a ≠ x1_y := Nat.ne_of_lt (Nat.lt_of_lt_of_le p_26.lt u1_0)
  have ne1_k3b : k3b ≠ x1_y := Nat.ne_of_lt (Nat.lt_of_lt_of_le p_29.lt u1_0)
  have sz1_y : h0.size ≤ x1_y := Nat.le_trans (Keep.refl h0 []).1 u1_0
  have gg1_y : n0 ≤ x1_y := Nat.le_trans Z0 u1_0
  refine own_st st1 ?_
  show own_Goes _ _ _ _ _ _ _ T1 (mkF m 5 #[rv wd, .val .null, .unset, .unset, .unset, .unset] [(.ref x1_y)])
  refine own_st (fun _ kk_ => XS.astoreN X1.here hx rfl (hb hby d20_5) rfl rfl (l' := #[rv wd, .val .null, rv x1_y, .unset, .unset, .unset]) rfl (XS.aloadN X1.here hx rfl (hb hby d20_6) rfl rfl kk_)) ?_
  show own_Goes _ _ _ _ _ _ _ T1 (mkF m 7 #[rv wd, .val .null, rv x1_y, .unset, .unset, .unset] [(.ref x1_y)])
  obtain ⟨cl2, Ar2, -, Sz2, Nn2, -, -⟩ := id u1_1
  refine own_st (fun _ kk_ => X1.arraylength hx Ar2.1 (State.isArrayOf_alike hZ.alike Ar2.2.1) (g := (mkF m 7 #[rv wd, .val .null, rv x1_y, .unset, .unset, .unset] [(.ref x1_y)])) rfl rfl (hb hby d20_7) _ kk_) ?_
  rw [len_of Sz2 Nn2]
  show own_Goes _ _ _ _ _ _ _ T1 (mkF m 8 #[rv wd, .val .null, rv x1_y, .unset, .unset, .unset] [(.int (4 : Int32))])
  refine own_st (fun _ kk_ => XS.istoreN X1.here hx rfl (hb hby d20_8) rfl (l' := #[rv wd, .val .null, rv x1_y, iv (4 : Int32), .unset, .unset]) rfl (XS.iconst X1.here hx rfl (hb hby d20_9) (XS.istore X1.here hx rfl (hb hby d20_10) rfl (l' := #[rv wd, .val .null, rv x1_y, iv (4 : Int32), iv (0 : Int32), .unset]) rfl (XS.iload X1.here hx rfl (hb hby d20_12) rfl (XS.iloadN X1.here hx rfl (hb hby d20_14) rfl (XS.icmpNo X1.here hx rfl (hb hby d20_15) rfl (XT.ii_ge_f (by decide)) (XS.aloadN X1.here hx rfl (hb hby d20_18) rfl rfl (XS.iload X1.here hx rfl (hb hby d20_19) rfl kk_)))))))) ?_
  show own_Goes _ _ _ _ _ _ _ T1 (mkF m 21 #[rv wd, .val .null, rv x1_y, iv (4 : Int32), iv (0 : Int32), .unset] [(.int (0 : Int32)), (.ref x1_y)])
  obtain ⟨cl3, Ar3, q3, Sz3, Nn3, Hh3, Gg3⟩ := id u1_1
  refine own_st (fun _ kk_ => X1.aaload hx (j := (0 : Int32)) (v := (.ref s0)) Ar3.1 (State.isArrayOf_alike hZ.alike Ar3.2.1) rfl Ar3.2.2 (inb_of Sz3 ⟨by decide, by decide⟩) (Hh3.at (inb_of Sz3 ⟨by decide, by decide⟩) rfl) (g := (mkF m 21 #[rv wd, .val .null, rv x1_y, iv (4 : Int32), iv (0 : Int32), .unset] [(.int (0 : Int32)), (.ref x1_y)])) rfl rfl (hb hby d20_21) _ kk_) ?_
  show own_Goes _ _ _ _ _ _ _ T1 (mkF m 22 #[rv wd, .val .null, rv x1_y, iv (4 : Int32), iv (0 : Int32), .unset] [(.ref s0)])
  refine own_st (fun _ kk_ => XS.astore X1.here hx rfl (hb hby d20_22) rfl rfl (l' := #[rv wd, .val .null, rv x1_y, iv (4 : Int32), iv (0 : Int32), rv s0]) rfl (XS.aload X1.here hx rfl (hb hby d20_24) rfl rfl kk_)) ?_
  show own_Goes _ _ _ _ _ _ _ T1 (mkF m 26 #[rv wd, .val .null, rv x1_y, iv (4 : Int32), iv (0 : Int32), rv s0] [(.ref s0)])
  obtain ⟨T4, X4, e4, st4⟩ := getF X1 hx hZ hown (host := "") (Or.inl (own_w hw 111 rfl)) Via.refl rfl f1_8 (g := (mkF m 26 #[rv wd, .val .null, rv x1_y, iv (4 : Int32), iv (0 : Int32), rv s0] [(.ref s0)])) rfl rfl (hb hby d20_26)
  refine own_st st4 ?_
  show own_Goes _ _ _ _ _ _ _ T4 (mkF m 29 #[rv wd, .val .null, rv x1_y, iv (4 : Int32), iv (0 : Int32), rv s0] [(.ref k0a)])
  refine own_st (fun _ kk_ => XS.aloadN X4.here hx rfl (hb hby d20_29) rfl rfl kk_) ?_
  show own_Goes _ _ _ _ _ _ _ T4 (mkF m 30 #[rv wd, .val .null, rv x1_y, iv (4 : Int32), iv (0 : Int32), rv s0] [(.ref wd), (.ref k0a)])
  obtain ⟨cq5, kq5, q5a, q5b, q5c⟩ := isOf hZ e4 f1_9
  obtain ⟨_, _, ⟨T5, L5, k5, n5⟩, -, X5, ⟨Lc5, hQ5, l5, y5, z5⟩, st5⟩ := X4.virtualBack hx (y := yy12) (z := yy12) hown (mvT hZ (own_w hw 113 rfl)) (mvT hZ (own_w hw 79 rfl)) (notFace_of_selects (args := #[]) (mvT hZ (own_w hw 81 rfl))) (mvT hZ (own_w hw 81 rfl)) (mvT hZ (own_w hw 80 rfl)) (by decide) (own_eqW (W := 0) (n0 := n0) hZ hw (kI := 4) (own_w hw 6 rfl) (us := [(105 : Int32), (110 : Int32), (116 : Int32)]) (ds := us1) f1_9 f1_10 f1_11 f1_0 f1_1 f1_2 f1_12 f1_3 own_kw0 hok f1_4 (by assumption) (by decide) (by decide)) q5a q5c (g := (mkF m 30 #[rv wd, .val .null, rv x1_y, iv (4 : Int32), iv (0 : Int32), rv s0] [(.ref wd), (.ref k0a)])) rfl (by rw [hml]; rfl) (Steps.refl _) (argsL := [(.ref wd)]) (rest := []) (lenOf pd_9 rfl) rfl (by show 2 * 0 + _ ≤ _; exact Nat.le_of_eq rfl) (hb hby d20_30) (fun _ _ => ⟨rfl, e4, (by decide : 1 + 0 ≤ _), (by decide : 4 + 0 ≤ _)⟩)
  dsimp only [Pt.U, Pt.locs, Pt.cells, Pt.slots] at X5 l5 y5 z5 st5 hQ5
  subst l5 y5 z5
  obtain ⟨rfl, Nq5, eq5⟩ := hQ5
  have N5 := Fr.app N1 Nq5
  refine own_st (fun _ kk_ => st5.trans kk_) ?_
  show own_Goes _ _ _ _ _ _ _ T5 (mkF m 33 #[rv wd, .val .null, rv x1_y, iv (4 : Int32), iv (0 : Int32), rv s0] [(.int (own_b ([(105 : Int32), (110 : Int32), (116 : Int32)] = us1)))])
  have J39_0 : ∀ (r0a : Value), (r0a = own_pk ([(105 : Int32), (110 : Int32), (116 : Int32)] = us1) s0 .null) → (r0a.isRef = true) → own_Goes p e below s (Q20 Z wd wv kw9 cs z1 vs1 us1 va vk s0 s1 s2 s3 k0a k0b k0c k1a k1b k1c k2a k2b k2c k3a k3b k3c h0 n0) rRrm20.cells rRrm20.slots T5 (mkF m 39 #[rv wd, .val r0a, rv x1_y, iv (4 : Int32), iv (0 : Int32), rv s0] []) := by
    intro r0a he0a hi0a
    show own_Goes _ _ _ _ _ _ _ T5 (mkF m 39 #[rv wd, .val r0a, rv x1_y, iv (4 : Int32), iv (0 : Int32), rv s0] [])
    refine own_st (fun _ kk_ => XS.iinc X5.here hx rfl (hb hby d20_39) rfl (l' := #[rv wd, .val r0a, rv x1_y, iv (4 : Int32), iv (1 : Int32), rv s0]) rfl (XS.goto X5.here hx rfl (pc0 := 42) (pc' := 12) rfl (hb hby d20_42) (by decide) (by decide) (XS.iload X5.here hx rfl (hb hby d20_12) rfl (XS.iloadN X5.here hx rfl (hb hby d20_14) rfl (XS.icmpNo X5.here hx rfl (hb hby d20_15) rfl (XT.ii_ge_f (by decide)) (XS.aloadN X5.here hx rfl (hb hby d20_18) rfl rfl (XS.iload X5.here hx rfl (hb hby d20_19) rfl kk_))))))) ?_
    show own_Goes _ _ _ _ _ _ _ T5 (mkF m 21 #[rv wd, .val r0a, rv x1_y, iv (4 : Int32), iv (1 : Int32), rv s0] [(.int (1 : Int32)), (.ref x1_y)])
    obtain ⟨cl6, Ar6, q6, Sz6, Nn6, Hh6, Gg6⟩ := id u1_1
    refine own_st (fun _ kk_ => X5.aaload hx (j := (1 : Int32)) (v := (.ref s1)) (by rw [eq5]; exact Ar6.1) (State.isArrayOf_alike hZ.alike Ar6.2.1) rfl Ar6.2.2 (inb_of Sz6 ⟨by decide, by decide⟩) (Hh6.at (inb_of Sz6 ⟨by decide, by decide⟩) rfl) (g := (mkF m 21 #[rv wd, .val r0a, rv x1_y, iv (4 : Int32), iv (1 : Int32), rv s0] [(.int (1 : Int32)), (.ref x1_y)])) rfl rfl (hb hby d20_21) _ kk_) ?_
    show own_Goes _ _ _ _ _ _ _ T5 (mkF m 22 #[rv wd, .val r0a, rv x1_y, iv (4 : Int32), iv (1 : Int32), rv s0] [(.ref s1)])
    refine own_st (fun _ kk_ => XS.astore X5.here hx rfl (hb hby d20_22) rfl rfl (l' := #[rv wd, .val r0a, rv x1_y, iv (4 : Int32), iv (1 : Int32), rv s1]) rfl (XS.aload X5.here hx rfl (hb hby d20_24) rfl rfl kk_)) ?_
    show own_Goes _ _ _ _ _ _ _ T5 (mkF m 26 #[rv wd, .val r0a, rv x1_y, iv (4 : Int32), iv (1 : Int32), rv s1] [(.ref s1)])
    obtain ⟨T7, X7, e7, st7⟩ := getF X5 hx hZ hown (host := "") (Or.inl (own_w hw 111 rfl)) Via.refl eq5 f1_13 (g := (mkF m 26 #[rv wd, .val r0a, rv x1_y, iv (4 : Int32), iv (1 : Int32), rv s1] [(.ref s1)])) rfl rfl (hb hby d20_26)
    refine own_st st7 ?_
    show own_Goes _ _ _ _ _ _ _ T7 (mkF m 29 #[rv wd, .val r0a, rv x1_y, iv (4 : Int32), iv (1 : Int32), rv s1] [(.ref k1a)])
    refine own_st (fun _ kk_ => XS.aloadN X7.here hx rfl (hb hby d20_29) rfl rfl kk_) ?_
    show own_Goes _ _ _ _ _ _ _ T7 (mkF m 30 #[rv wd, .val r0a, rv x1_y, iv (4 : Int32), iv (1 : Int32), rv s1] [(.ref wd), (.ref k1a)])
    obtain ⟨cq8, kq8, q8a, q8b, q8c⟩ := isOf hZ e7 f1_14
    obtain ⟨_, _, ⟨T8, L8, k8, n8⟩, -, X8, ⟨Lc8, hQ8, l8, y8, z8⟩, st8⟩ := X7.virtualBack hx (y := yy12) (z := yy12) hown (mvT hZ (own_w hw 113 rfl)) (mvT hZ (own_w hw 79 rfl)) (notFace_of_selects (args := #[]) (mvT hZ (own_w hw 81 rfl))) (mvT hZ (own_w hw 81 rfl)) (mvT hZ (own_w hw 80 rfl)) (by decide) (own_eqW (W := 0) (n0 := n0) hZ hw (kI := 4) (own_w hw 6 rfl) (us := [(102 : Int32), (108 : Int32), (111 : Int32), (97 : Int32), (116 : Int32)]) (ds := us1) f1_14 f1_15 f1_16 f1_0 f1_1 f1_2 f1_17 f1_3 own_kw1 hok f1_4 (by assumption) (by decide) (by decide)) q8a q8c (g := (mkF m 30 #[rv wd, .val r0a, rv x1_y, iv (4 : Int32), iv (1 : Int32), rv s1] [(.ref wd), (.ref k1a)])) rfl (by rw [hml]; rfl) (Steps.refl _) (argsL := [(.ref wd)]) (rest := []) (lenOf pd_9 rfl) rfl (by show 2 * 0 + _ ≤ _; exact Nat.le_of_eq rfl) (hb hby d20_30) (fun _ _ => ⟨rfl, e7, (by decide : 1 + 0 ≤ _), (by decide : 4 + 0 ≤ _)⟩)
    dsimp only [Pt.U, Pt.locs, Pt.cells, Pt.slots] at X8 l8 y8 z8 st8 hQ8
    subst l8 y8 z8
    obtain ⟨rfl, Nq8, eq8⟩ := hQ8
    have N8 := Fr.app N5 Nq8
    refine own_st (fun _ kk_ => st8.trans kk_) ?_
    show own_Goes _ _ _ _ _ _ _ T8 (mkF m 33 #[rv wd, .val r0a, rv x1_y, iv (4 : Int32), iv (1 : Int32), rv s1] [(.int (own_b ([(102 : Int32), (108 : Int32), (111 : Int32), (97 : Int32), (116 : Int32)] = us1)))])
    have J39_1 : ∀ (r1a : Value), (r1a = own_pk ([(102 : Int32), (108 : Int32), (111 : Int32), (97 : Int32), (116 : Int32)] = us1) s1 r0a) → (r1a.isRef = true) → own_Goes p e below s (Q20 Z wd wv kw9 cs z1 vs1 us1 va vk s0 s1 s2 s3 k0a k0b k0c k1a k1b k1c k2a k2b k2c k3a k3b k3c h0 n0) rRrm20.cells rRrm20.slots T8 (mkF m 39 #[rv wd, .val r1a, rv x1_y, iv (4 : Int32), iv (1 : Int32), rv s1] []) := by
      intro r1a he1a hi1a
      show own_Goes _ _ _ _ _ _ _ T8 (mkF m 39 #[rv wd, .val r1a, rv x1_y, iv (4 : Int32), iv (1 : Int32), rv s1] [])
      refine own_st (fun _ kk_ => XS.iinc X8.here hx rfl (hb hby d20_39) rfl (l' := #[rv wd, .val r1a, rv x1_y, iv (4 : Int32), iv (2 : Int32), rv s1]) rfl (XS.goto X8.here hx rfl (pc0 := 42) (pc' := 12) rfl (hb hby d20_42) (by decide) (by decide) (XS.iload X8.here hx rfl (hb hby d20_12) rfl (XS.iloadN X8.here hx rfl (hb hby d20_14) rfl (XS.icmpNo X8.here hx rfl (hb hby d20_15) rfl (XT.ii_ge_f (by decide)) (XS.aloadN X8.here hx rfl (hb hby d20_18) rfl rfl (XS.iload X8.here hx rfl (hb hby d20_19) rfl kk_))))))) ?_
      show own_Goes _ _ _ _ _ _ _ T8 (mkF m 21 #[rv wd, .val r1a, rv x1_y, iv (4 : Int32), iv (2 : Int32), rv s1] [(.int (2 : Int32)), (.ref x1_y)])
      obtain ⟨cl9, Ar9, q9, Sz9, Nn9, Hh9, Gg9⟩ := id u1_1
      refine own_st (fun _ kk_ => X8.aaload hx (j := (2 : Int32)) (v := (.ref s2)) (by rw [eq8]; exact Ar9.1) (State.isArrayOf_alike hZ.alike Ar9.2.1) rfl Ar9.2.2 (inb_of Sz9 ⟨by decide, by decide⟩) (Hh9.at (inb_of Sz9 ⟨by decide, by decide⟩) rfl) (g := (mkF m 21 #[rv wd, .val r1a, rv x1_y, iv (4 : Int32), iv (2 : Int32), rv s1] [(.int (2 : Int32)), (.ref x1_y)])) rfl rfl (hb hby d20_21) _ kk_) ?_
      show own_Goes _ _ _ _ _ _ _ T8 (mkF m 22 #[rv wd, .val r1a, rv x1_y, iv (4 : Int32), iv (2 : Int32), rv s1] [(.ref s2)])
      refine own_st (fun _ kk_ => XS.astore X8.here hx rfl (hb hby d20_22) rfl rfl (l' := #[rv wd, .val r1a, rv x1_y, iv (4 : Int32), iv (2 : Int32), rv s2]) rfl (XS.aload X8.here hx rfl (hb hby d20_24) rfl rfl kk_)) ?_
      show own_Goes _ _ _ _ _ _ _ T8 (mkF m 26 #[rv wd, .val r1a, rv x1_y, iv (4 : Int32), iv (2 : Int32), rv s2] [(.ref s2)])
      obtain ⟨T10, X10, e10, st10⟩ := getF X8 hx hZ hown (host := "") (Or.inl (own_w hw 111 rfl)) Via.refl eq8 f1_18 (g := (mkF m 26 #[rv wd, .val r1a, rv x1_y, iv (4 : Int32), iv (2 : Int32), rv s2] [(.ref s2)])) rfl rfl (hb hby d20_26)
      refine own_st st10 ?_
      show own_Goes _ _ _ _ _ _ _ T10 (mkF m 29 #[rv wd, .val r1a, rv x1_y, iv (4 : Int32), iv (2 : Int32), rv s2] [(.ref k2a)])
      refine own_st (fun _ kk_ => XS.aloadN X10.here hx rfl (hb hby d20_29) rfl rfl kk_) ?_
      show own_Goes _ _ _ _ _ _ _ T10 (mkF m 30 #[rv wd, .val r1a, rv x1_y, iv (4 : Int32), iv (2 : Int32), rv s2] [(.ref wd), (.ref k2a)])
      obtain ⟨cq11, kq11, q11a, q11b, q11c⟩ := isOf hZ e10 f1_19
      obtain ⟨_, _, ⟨T11, L11, k11, n11⟩, -, X11, ⟨Lc11, hQ11, l11, y11, z11⟩, st11⟩ := X10.virtualBack hx (y := yy12) (z := yy12) hown (mvT hZ (own_w hw 113 rfl)) (mvT hZ (own_w hw 79 rfl)) (notFace_of_selects (args := #[]) (mvT hZ (own_w hw 81 rfl))) (mvT hZ (own_w hw 81 rfl)) (mvT hZ (own_w hw 80 rfl)) (by decide) (own_eqW (W := 0) (n0 := n0) hZ hw (kI := 4) (own_w hw 6 rfl) (us := [(98 : Int32), (111 : Int32), (111 : Int32), (108 : Int32), (101 : Int32), (97 : Int32), (110 : Int32)]) (ds := us1) f1_19 f1_20 f1_21 f1_0 f1_1 f1_2 f1_22 f1_3 own_kw2 hok f1_4 (by assumption) (by decide) (by decide)) q11a q11c (g := (mkF m 30 #[rv wd, .val r1a, rv x1_y, iv (4 : Int32), iv (2 : Int32), rv s2] [(.ref wd), (.ref k2a)])) rfl (by rw [hml]; rfl) (Steps.refl _) (argsL := [(.ref wd)]) (rest := []) (lenOf pd_9 rfl) rfl (by show 2 * 0 + _ ≤ _; exact Nat.le_of_eq rfl) (hb hby d20_30) (fun _ _ => ⟨rfl, e10, (by decide : 1 + 0 ≤ _), (by decide : 4 + 0 ≤ _)⟩)
      dsimp only [Pt.U, Pt.locs, Pt.cells, Pt.slots] at X11 l11 y11 z11 st11 hQ11
      subst l11 y11 z11
      obtain ⟨rfl, Nq11, eq11⟩ := hQ11
      have N11 := Fr.app N8 Nq11
      refine own_st (fun _ kk_ => st11.trans kk_) ?_
      show own_Goes _ _ _ _ _ _ _ T11 (mkF m 33 #[rv wd, .val r1a, rv x1_y, iv (4 : Int32), iv (2 : Int32), rv s2] [(.int (own_b ([(98 : Int32), (111 : Int32), (111 : Int32), (108 : Int32), (101 : Int32), (97 : Int32), (110 : Int32)] = us1)))])
      have J39_2 : ∀ (r2a : Value), (r2a = own_pk ([(98 : Int32), (111 : Int32), (111 : Int32), (108 : Int32), (101 : Int32), (97 : Int32), (110 : Int32)] = us1) s2 r1a) → (r2a.isRef = true) → own_Goes p e below s (Q20 Z wd wv kw9 cs z1 vs1 us1 va vk s0 s1 s2 s3 k0a k0b k0c k1a k1b k1c k2a k2b k2c k3a k3b k3c h0 n0) rRrm20.cells rRrm20.slots T11 (mkF m 39 #[rv wd, .val r2a, rv x1_y, iv (4 : Int32), iv (2 : Int32), rv s2] []) := by
        intro r2a he2a hi2a
        show own_Goes _ _ _ _ _ _ _ T11 (mkF m 39 #[rv wd, .val r2a, rv x1_y, iv (4 : Int32), iv (2 : Int32), rv s2] [])
        refine own_st (fun _ kk_ => XS.iinc X11.here hx rfl (hb hby d20_39) rfl (l' := #[rv wd, .val r2a, rv x1_y, iv (4 : Int32), iv (3 : Int32), rv s2]) rfl (XS.goto X11.here hx rfl (pc0 := 42) (pc' := 12) rfl (hb hby d20_42) (by decide) (by decide) (XS.iload X11.here hx rfl (hb hby d20_12) rfl (XS.iloadN X11.here hx rfl (hb hby d20_14) rfl (XS.icmpNo X11.here hx rfl (hb hby d20_15) rfl (XT.ii_ge_f (by decide)) (XS.aloadN X11.here hx rfl (hb hby d20_18) rfl rfl (XS.iload X11.here hx rfl (hb hby d20_19) rfl kk_))))))) ?_
        show own_Goes _ _ _ _ _ _ _ T11 (mkF m 21 #[rv wd, .val r2a, rv x1_y, iv (4 : Int32), iv (3 : Int32), rv s2] [(.int (3 : Int32)), (.ref x1_y)])
        obtain ⟨cl12, Ar12, q12, Sz12, Nn12, Hh12, Gg12⟩ := id u1_1
        refine own_st (fun _ kk_ => X11.aaload hx (j := (3 : Int32)) (v := (.ref s3)) (by rw [eq11]; exact Ar12.1) (State.isArrayOf_alike hZ.alike Ar12.2.1) rfl Ar12.2.2 (inb_of Sz12 ⟨by decide, by decide⟩) (Hh12.at (inb_of Sz12 ⟨by decide, by decide⟩) rfl) (g := (mkF m 21 #[rv wd, .val r2a, rv x1_y, iv (4 : Int32), iv (3 : Int32), rv s2] [(.int (3 : Int32)), (.ref x1_y)])) rfl rfl (hb hby d20_21) _ kk_) ?_
        show own_Goes _ _ _ _ _ _ _ T11 (mkF m 22 #[rv wd, .val r2a, rv x1_y, iv (4 : Int32), iv (3 : Int32), rv s2] [(.ref s3)])
        refine own_st (fun _ kk_ => XS.astore X11.here hx rfl (hb hby d20_22) rfl rfl (l' := #[rv wd, .val r2a, rv x1_y, iv (4 : Int32), iv (3 : Int32), rv s3]) rfl (XS.aload X11.here hx rfl (hb hby d20_24) rfl rfl kk_)) ?_
        show own_Goes _ _ _ _ _ _ _ T11 (mkF m 26 #[rv wd, .val r2a, rv x1_y, iv (4 : Int32), iv (3 : Int32), rv s3] [(.ref s3)])
        obtain ⟨T13, X13, e13, st13⟩ := getF X11 hx hZ hown (host := "") (Or.inl (own_w hw 111 rfl)) Via.refl eq11 f1_23 (g := (mkF m 26 #[rv wd, .val r2a, rv x1_y, iv (4 : Int32), iv (3 : Int32), rv s3] [(.ref s3)])) rfl rfl (hb hby d20_26)
        refine own_st st13 ?_
        show own_Goes _ _ _ _ _ _ _ T13 (mkF m 29 #[rv wd, .val r2a, rv x1_y, iv (4 : Int32), iv (3 : Int32), rv s3] [(.ref k3a)])
        refine own_st (fun _ kk_ => XS.aloadN X13.here hx rfl (hb hby d20_29) rfl rfl kk_) ?_
        show own_Goes _ _ _ _ _ _ _ T13 (mkF m 30 #[rv wd, .val r2a, rv x1_y, iv (4 : Int32), iv (3 : Int32), rv s3] [(.ref wd), (.ref k3a)])
        obtain ⟨cq14, kq14, q14a, q14b, q14c⟩ := isOf hZ e13 f1_24
        obtain ⟨_, _, ⟨T14, L14, k14, n14⟩, -, X14, ⟨Lc14, hQ14, l14, y14, z14⟩, st14⟩ := X13.virtualBack hx (y := yy12) (z := yy12) hown (mvT hZ (own_w hw 113 rfl)) (mvT hZ (own_w hw 79 rfl)) (notFace_of_selects (args := #[]) (mvT hZ (own_w hw 81 rfl))) (mvT hZ (own_w hw 81 rfl)) (mvT hZ (own_w hw 80 rfl)) (by decide) (own_eqW (W := 0) (n0 := n0) hZ hw (kI := 4) (own_w hw 6 rfl) (us := [(115 : Int32), (116 : Int32), (114 : Int32), (105 : Int32), (110 : Int32), (103 : Int32)]) (ds := us1) f1_24 f1_25 f1_26 f1_0 f1_1 f1_2 f1_27 f1_3 own_kw3 hok f1_4 (by assumption) (by decide) (by decide)) q14a q14c (g := (mkF m 30 #[rv wd, .val r2a, rv x1_y, iv (4 : Int32), iv (3 : Int32), rv s3] [(.ref wd), (.ref k3a)])) rfl (by rw [hml]; rfl) (Steps.refl _) (argsL := [(.ref wd)]) (rest := []) (lenOf pd_9 rfl) rfl (by show 2 * 0 + _ ≤ _; exact Nat.le_of_eq rfl) (hb hby d20_30) (fun _ _ => ⟨rfl, e13, (by decide : 1 + 0 ≤ _), (by decide : 4 + 0 ≤ _)⟩)
        dsimp only [Pt.U, Pt.locs, Pt.cells, Pt.slots] at X14 l14 y14 z14 st14 hQ14
        subst l14 y14 z14
        obtain ⟨rfl, Nq14, eq14⟩ := hQ14
        have N14 := Fr.app N11 Nq14
        refine own_st (fun _ kk_ => st14.trans kk_) ?_
        show own_Goes _ _ _ _ _ _ _ T14 (mkF m 33 #[rv wd, .val r2a, rv x1_y, iv (4 : Int32), iv (3 : Int32), rv s3] [(.int (own_b ([(115 : Int32), (116 : Int32), (114 : Int32), (105 : Int32), (110 : Int32), (103 : Int32)] = us1)))])
        have J39_3 : ∀ (r3a : Value), (r3a = own_pk ([(115 : Int32), (116 : Int32), (114 : Int32), (105 : Int32), (110 : Int32), (103 : Int32)] = us1) s3 r2a) → (r3a.isRef = true) → own_Goes p e below s (Q20 Z wd wv kw9 cs z1 vs1 us1 va vk s0 s1 s2 s3 k0a k0b k0c k1a k1b k1c k2a k2b k2c k3a k3b k3c h0 n0) rRrm20.cells rRrm20.slots T14 (mkF m 39 #[rv wd, .val r3a, rv x1_y, iv (4 : Int32), iv (3 : Int32), rv s3] []) := by
          intro r3a he3a hi3a
          show own_Goes _ _ _ _ _ _ _ T14 (mkF m 39 #[rv wd, .val r3a, rv x1_y, iv (4 : Int32), iv (3 : Int32), rv s3] [])
          refine own_st (fun _ kk_ => XS.iinc X14.here hx rfl (hb hby d20_39) rfl (l' := #[rv wd, .val r3a, rv x1_y, iv (4 : Int32), iv (4 : Int32), rv s3]) rfl (XS.goto X14.here hx rfl (pc0 := 42) (pc' := 12) rfl (hb hby d20_42) (by decide) (by decide) (XS.iload X14.here hx rfl (hb hby d20_12) rfl (XS.iloadN X14.here hx rfl (hb hby d20_14) rfl (XS.icmpYes X14.here hx rfl (pc0 := 15) (pc' := 45) rfl (hb hby d20_15) rfl (XT.ii_ge_t (by decide)) (by decide) (by decide) (XS.aloadN X14.here hx rfl (hb hby d20_45) rfl hi3a kk_)))))) ?_
          show own_Goes _ _ _ _ _ _ _ T14 (mkF m 46 #[rv wd, .val r3a, rv x1_y, iv (4 : Int32), iv (4 : Int32), rv s3] [r3a])
          refine own_retA X14 hx hlk hi3a Bd.returns rfl (hb hby d20_46) (by decide) (by decide) ?_
          show Q20 Z wd wv kw9 cs z1 vs1 us1 va vk s0 s1 s2 s3 k0a k0b k0c k1a k1b k1c k2a k2b k2c k3a k3b k3c h0 n0 (some r3a) T14.heap _
          rw [eq14]
          exact ⟨by rw [he3a, he2a, he1a, he0a]; rfl, N14, K1, own_ndr us1 s0 s1 s2 s3⟩
        rcases Classical.em ([(115 : Int32), (116 : Int32), (114 : Int32), (105 : Int32), (110 : Int32), (103 : Int32)] = us1) with hM | hM
        · refine own_st (fun _ kk_ => XS.ifNo X14.here hx rfl (hb hby d20_33) rfl (XT.i0_eq_f (by rw [own_b1 hM]; decide)) (XS.aload X14.here hx rfl (hb hby d20_36) rfl rfl kk_)) ?_
          show own_Goes _ _ _ _ _ _ _ T14 (mkF m 38 #[rv wd, .val r2a, rv x1_y, iv (4 : Int32), iv (3 : Int32), rv s3] [(.ref s3)])
          rcases ref_cases hi2a with rfl | ⟨q9, rfl⟩
          · show own_Goes _ _ _ _ _ _ _ T14 (mkF m 38 #[rv wd, .val .null, rv x1_y, iv (4 : Int32), iv (3 : Int32), rv s3] [(.ref s3)])
            refine own_st (fun _ kk_ => XS.astoreN X14.here hx rfl (hb hby d20_38) rfl rfl (l' := #[rv wd, rv s3, rv x1_y, iv (4 : Int32), iv (3 : Int32), rv s3]) rfl kk_) ?_
            show own_Goes _ _ _ _ _ _ _ T14 (mkF m 39 #[rv wd, rv s3, rv x1_y, iv (4 : Int32), iv (3 : Int32), rv s3] [])
            exact J39_3 ((.ref s3)) (own_pk1 hM).symm rfl
          · show own_Goes _ _ _ _ _ _ _ T14 (mkF m 38 #[rv wd, rv q9, rv x1_y, iv (4 : Int32), iv (3 : Int32), rv s3] [(.ref s3)])
            refine own_st (fun _ kk_ => XS.astoreN X14.here hx rfl (hb hby d20_38) rfl rfl (l' := #[rv wd, rv s3, rv x1_y, iv (4 : Int32), iv (3 : Int32), rv s3]) rfl kk_) ?_
            show own_Goes _ _ _ _ _ _ _ T14 (mkF m 39 #[rv wd, rv s3, rv x1_y, iv (4 : Int32), iv (3 : Int32), rv s3] [])
            exact J39_3 ((.ref s3)) (own_pk1 hM).symm rfl
        · refine own_st (fun _ kk_ => XS.ifYes X14.here hx rfl (pc0 := 33) (pc' := 39) rfl (hb hby d20_33) rfl (XT.i0_eq_t (own_b0 hM)) (by decide) (by decide) kk_) ?_
          show own_Goes _ _ _ _ _ _ _ T14 (mkF m 39 #[rv wd, .val r2a, rv x1_y, iv (4 : Int32), iv (3 : Int32), rv s3] [])
          exact J39_3 (r2a) (own_pk0 hM).symm hi2a
      rcases Classical.em ([(98 : Int32), (111 : Int32), (111 : Int32), (108 : Int32), (101 : Int32), (97 : Int32), (110 : Int32)] = us1) with hM | hM
      · refine own_st (fun _ kk_ => XS.ifNo X11.here hx rfl (hb hby d20_33) rfl (XT.i0_eq_f (by rw [own_b1 hM]; decide)) (XS.aload X11.here hx rfl (hb hby d20_36) rfl rfl kk_)) ?_
        show own_Goes _ _ _ _ _ _ _ T11 (mkF m 38 #[rv wd, .val r1a, rv x1_y, iv (4 : Int32), iv (2 : Int32), rv s2] [(.ref s2)])
        rcases ref_cases hi1a with rfl | ⟨q9, rfl⟩
        · show own_Goes _ _ _ _ _ _ _ T11 (mkF m 38 #[rv wd, .val .null, rv x1_y, iv (4 : Int32), iv (2 : Int32), rv s2] [(.ref s2)])
          refine own_st (fun _ kk_ => XS.astoreN X11.here hx rfl (hb hby d20_38) rfl rfl (l' := #[rv wd, rv s2, rv x1_y, iv (4 : Int32), iv (2 : Int32), rv s2]) rfl kk_) ?_
          show own_Goes _ _ _ _ _ _ _ T11 (mkF m 39 #[rv wd, rv s2, rv x1_y, iv (4 : Int32), iv (2 : Int32), rv s2] [])
          exact J39_2 ((.ref s2)) (own_pk1 hM).symm rfl
        · show own_Goes _ _ _ _ _ _ _ T11 (mkF m 38 #[rv wd, rv q9, rv x1_y, iv (4 : Int32), iv (2 : Int32), rv s2] [(.ref s2)])
          refine own_st (fun _ kk_ => XS.astoreN X11.here hx rfl (hb hby d20_38) rfl rfl (l' := #[rv wd, rv s2, rv x1_y, iv (4 : Int32), iv (2 : Int32), rv s2]) rfl kk_) ?_
          show own_Goes _ _ _ _ _ _ _ T11 (mkF m 39 #[rv wd, rv s2, rv x1_y, iv (4 : Int32), iv (2 : Int32), rv s2] [])
          exact J39_2 ((.ref s2)) (own_pk1 hM).symm rfl
      · refine own_st (fun _ kk_ => XS.ifYes X11.here hx rfl (pc0 := 33) (pc' := 39) rfl (hb hby d20_33) rfl (XT.i0_eq_t (own_b0 hM)) (by decide) (by decide) kk_) ?_
        show own_Goes _ _ _ _ _ _ _ T11 (mkF m 39 #[rv wd, .val r1a, rv x1_y, iv (4 : Int32), iv (2 : Int32), rv s2] [])
        exact J39_2 (r1a) (own_pk0 hM).symm hi1a
    rcases Classical.em ([(102 : Int32), (108 : Int32), (111 : Int32), (97 : Int32), (116 : Int32)] = us1) with hM | hM
    · refine own_st (fun _ kk_ => XS.ifNo X8.here hx rfl (hb hby d20_33) rfl (XT.i0_eq_f (by rw [own_b1 hM]; decide)) (XS.aload X8.here hx rfl (hb hby d20_36) rfl rfl kk_)) ?_
      show own_Goes _ _ _ _ _ _ _ T8 (mkF m 38 #[rv wd, .val r0a, rv x1_y, iv (4 : Int32), iv (1 : Int32), rv s1] [(.ref s1)])
      rcases ref_cases hi0a with rfl | ⟨q9, rfl⟩
      · show own_Goes _ _ _ _ _ _ _ T8 (mkF m 38 #[rv wd, .val .null, rv x1_y, iv (4 : Int32), iv (1 : Int32), rv s1] [(.ref s1)])
        refine own_st (fun _ kk_ => XS.astoreN X8.here hx rfl (hb hby d20_38) rfl rfl (l' := #[rv wd, rv s1, rv x1_y, iv (4 : Int32), iv (1 : Int32), rv s1]) rfl kk_) ?_
        show own_Goes _ _ _ _ _ _ _ T8 (mkF m 39 #[rv wd, rv s1, rv x1_y, iv (4 : Int32), iv (1 : Int32), rv s1] [])
        exact J39_1 ((.ref s1)) (own_pk1 hM).symm rfl
      · show own_Goes _ _ _ _ _ _ _ T8 (mkF m 38 #[rv wd, rv q9, rv x1_y, iv (4 : Int32), iv (1 : Int32), rv s1] [(.ref s1)])
        refine own_st (fun _ kk_ => XS.astoreN X8.here hx rfl (hb hby d20_38) rfl rfl (l' := #[rv wd, rv s1, rv x1_y, iv (4 : Int32), iv (1 : Int32), rv s1]) rfl kk_) ?_
        show own_Goes _ _ _ _ _ _ _ T8 (mkF m 39 #[rv wd, rv s1, rv x1_y, iv (4 : Int32), iv (1 : Int32), rv s1] [])
        exact J39_1 ((.ref s1)) (own_pk1 hM).symm rfl
    · refine own_st (fun _ kk_ => XS.ifYes X8.here hx rfl (pc0 := 33) (pc' := 39) rfl (hb hby d20_33) rfl (XT.i0_eq_t (own_b0 hM)) (by decide) (by decide) kk_) ?_
      show own_Goes _ _ _ _ _ _ _ T8 (mkF m 39 #[rv wd, .val r0a, rv x1_y, iv (4 : Int32), iv (1 : Int32), rv s1] [])
      exact J39_1 (r0a) (own_pk0 hM).symm hi0a
  rcases Classical.em ([(105 : Int32), (110 : Int32), (116 : Int32)] = us1) with hM | hM
  · refine own_st (fun _ kk_ => XS.ifNo X5.here hx rfl (hb hby d20_33) rfl (XT.i0_eq_f (by rw [own_b1 hM]; decide)) (XS.aload X5.here hx rfl (hb hby d20_36) rfl rfl (XS.astoreN X5.here hx rfl (hb hby d20_38) rfl rfl (l' := #[rv wd, rv s0, rv x1_y, iv (4 : Int32), iv (0 : Int32), rv s0]) rfl kk_))) ?_
    show own_Goes _ _ _ _ _ _ _ T5 (mkF m 39 #[rv wd, rv s0, rv x1_y, iv (4 : Int32), iv (0 : Int32), rv s0] [])
    exact J39_0 ((.ref s0)) (own_pk1 hM).symm rfl
  · refine own_st (fun _ kk_ => XS.ifYes X5.here hx rfl (pc0 := 33) (pc' := 39) rfl (hb hby d20_33) rfl (XT.i0_eq_t (own_b0 hM)) (by decide) (by decide) kk_) ?_
    show own_Goes _ _ _ _ _ _ _ T5 (mkF m 39 #[rv wd, .val .null, rv x1_y, iv (4 : Int32), iv (0 : Int32), rv s0] [])
    exact J39_0 (.null) (own_pk0 hM).symm rfl
theorem own_ord {args : Array Value} {s : State} {t : Term} {a : Addr} {C n d : String} {k : Int32} (et : t.eval args s none [] s = some (.ref a)) (h : (Jvm.Cond.eq (.field t C n d) (.int k)).value args s none s [] = some true) : Fld s s.heap a C n d (.int k) := by
  refine Fld.start ?_
  have e1 := fld_at (C := C) (n := n) (dd := d) et
  obtain ⟨x, y, h1, h2, h3, -⟩ := cmp_v (Or.inl h)
  rw [e1] at h1
  have h4 : y = .int k := (Option.some.inj h2).symm
  subst h4
  cases x <;> simp [Kin, Value.isRef] at h3
  rename_i z
  have q : (Jvm.Cond.eq (.field t C n d) (.int k)).value args s none s [] = some (decide (z = k)) := by simp [Cond.value, Term.eval, et, h1]
  rw [h1, gotT q h]
theorem own_fref {args : Array Value} {s : State} {t : Term} {a : Addr} {C n d K : String} (et : t.eval args s none [] s = some (.ref a)) (h : (Jvm.Cond.exactly (.field t C n d) K).value args s none s [] = some true) : ∃ k, Fld s s.heap a C n d (.ref k) := by
  obtain ⟨k, e⟩ := exa_v h
  exact ⟨k, Fld.start ((fld_at et).symm.trans e)⟩
theorem own_fnull {args : Array Value} {s : State} {t : Term} {a : Addr} {C n d : String} (et : t.eval args s none [] s = some (.ref a)) (h : (Jvm.Cond.eq (.field t C n d) .null).value args s none s [] = some true) : Fld s s.heap a C n d .null :=
  Fld.start ((fld_at et).symm.trans (null_v h))
theorem own_fe {args : Array Value} {s : State} {t : Term} {a : Addr} {C n d K : String} (et : t.eval args s none [] s = some (.ref a)) (h : (Jvm.Cond.exactly (.field t C n d) K).value args s none s [] = some true) : ∃ k, Fld s s.heap a C n d (.ref k) ∧ (Term.field t C n d).eval args s none [] s = some (.ref k) ∧ Exa s s.heap k K := by
  obtain ⟨k, ek⟩ := exa_v h
  exact ⟨k, Fld.start ((fld_at et).symm.trans ek), ek, Exa.start ek h⟩
theorem own_lz {args : Array Value} {s : State} {t : Term} {a : Addr} {z : Int32} {c : Cell} {ty : FieldType} (hl : (Jvm.Cond.eq (.length t) (.int z)).value args s none s [] = some true) (et : t.eval args s none [] s = some (.ref a)) (A : Arr s s.heap a c ty) : c.slots.size < 2 ^ 31 ∧ c.slots.size.toInt32 = z := by
  have ha := Arr.fin (Vm.Alike.refl _) A
  by_cases q : c.slots.size < 2 ^ 31
  · exact ⟨q, gotT (Cond.eq_ints (len_f et ha q) (Term.int_eval z)) hl⟩
  · obtain ⟨x, y, e1, -⟩ := cmp_v (Or.inl hl)
    simp [Term.eval, et, ha] at e1
    exact absurd e1.1 (by omega)
theorem own_el {args : Array Value} {s : State} {t : Term} {a : Addr} {c : Cell} {j k : Int32} {i : Nat} (h : (Jvm.Cond.eq (.elem t (.int j)) (.int k)).value args s none s [] = some true) (et : t.eval args s none [] s = some (.ref a)) (hc : s.heap[a]? = some c) (hi : j.toNatClampNeg = i) : c.slots[i]? = some (.int k) := by
  obtain ⟨x, y, e1, e2, -, ky⟩ := cmp_v (Or.inl h)
  cases (Term.int_eval k).symm.trans e2
  obtain ⟨z, rfl⟩ := ky
  have q := gotT (Cond.eq_ints e1 (Term.int_eval k)) h
  subst q hi
  exact (elem_in e1 et (Term.int_eval j) hc).2
theorem own_elR {args : Array Value} {s : State} {t u : Term} {a b : Addr} {c : Cell} {j : Int32} {i : Nat} (h : (Jvm.Cond.eq (.elem t (.int j)) u).value args s none s [] = some true) (et : t.eval args s none [] s = some (.ref a)) (hc : s.heap[a]? = some c) (eu : u.eval args s none [] s = some (.ref b)) (hi : j.toNatClampNeg = i) : c.slots[i]? = some (.ref b) := by
  obtain ⟨x, y, e1, e2, -, ky⟩ := cmp_v (Or.inl h)
  cases eu.symm.trans e2
  have q := gotT (eq_R e1 eu ky.2 rfl) h
  subst q hi
  exact (elem_in e1 et (Term.int_eval j) hc).2
theorem own_av {args : Array Value} {s : State} {t : Term} {a : Addr} {z : Int32} {ty : FieldType} {vs : List Value} {dv : Value} (hfit : Fit s) (et : t.eval args s none [] s = some (.ref a)) (h : (Jvm.Cond.arrayOf t ty).value args s none s [] = some true) (hl : (Jvm.Cond.eq (.length t) (.int z)).value args s none s [] = some true) (hz : ¬ z < 0) (hn : z.toNatClampNeg = vs.length) (H : ∀ c, s.heap[a]? = some c → HasL c 0 vs) : ∃ k, Arv s s.heap a k ty z vs dv := by
  obtain ⟨c, A⟩ := Arr.start et h
  obtain ⟨q1, q2⟩ := own_lz hl et A
  exact ⟨_, Arv.start hfit A q1 q2 hz hn (H c A.1)⟩
theorem pd_11 : parseMethodDescriptor "(I)Ljava/lang/String;" = some ⟨[.int], some (.object "java/lang/String")⟩ := by decide +kernel
theorem pd_12 : parseMethodDescriptor "(Ljava/lang/String;IZICC)C" = some ⟨[(.object "java/lang/String"), .int, .boolean, .int, .char, .char], some .char⟩ := by decide +kernel
theorem pd_13 : parseMethodDescriptor "(ICCCCCCC)Ljava/lang/String;" = some ⟨[.int, .char, .char, .char, .char, .char, .char, .char], some (.object "java/lang/String")⟩ := by decide +kernel
theorem pd_14 : parseMethodDescriptor "(Ljava/lang/String;)Lcom/example/majra/majra/lang/ParameterKind;" = some ⟨[(.object "java/lang/String")], some (.object "com/example/majra/majra/lang/ParameterKind")⟩ := by decide +kernel
theorem pn_rm0 : plainFor x = true := by first | exact plainFor_of_name (by first | (simp [plainName, overriddenIn]; done) | decide +kernel) | decide +kernel
theorem ef_rm0 (m : MethodId) (p1 : Int32) (p2 : Int32) (p3 : Int32) (p4 : Int32) : entryFrame m #[(.int p1), (.int p2), (.int p3), (.int p4)] maxLocals = (mkF m 0 #[iv p1, iv p2, iv p3, iv p4, .unset, .unset, .unset, .unset, .unset, .unset, .unset, .unset, .unset, .unset, .unset, .unset, .unset, .unset, .unset, .unset] []) := by first | (simp [entryFrame, mkF, argsToLocals, Value.category, maxLocals]; done) | rfl
def Q0 (Z : State) (p1 : Int32) (p2 : Int32) (p3 : Int32) (p4 : Int32) (cs : Int32) (f9 : Value) (va : Addr) (vk : ClassId) (s0 : Addr) (s1 : Addr) (s2 : Addr) (s3 : Addr) (k0a : Addr) (k0b : Addr) (k0c : ClassId) (k1a : Addr) (k1b : Addr) (k1c : ClassId) (k2a : Addr) (k2b : Addr) (k2c : ClassId) (k3a : Addr) (k3b : Addr) (k3c : ClassId) (h0 : Heap) (n0 : Nat) (v_ : Option Value) (h_ : Heap) (L_ : List Loc) : Prop := (v_ = some (.int (1 : Int32))) ∧ (Fr n0 L_)
set_option maxRecDepth 65536 in
set_option maxHeartbeats 40000000 in
theorem rm0 (l : Launch) (Z : State) (a0 : Array Value) (hw : ∀ d ∈ tables_1, d.before a0 Z = true) (ws : List Jvm.Cond) (hEL : EW Z a0 consts_1) (p1 : Int32) (p2 : Int32) (p3 : Int32) (p4 : Int32) (cs : Int32) (f9 : Value) (va : Addr) (vk : ClassId) (s0 : Addr) (s1 : Addr) (s2 : Addr) (s3 : Addr) (k0a : Addr) (k0b : Addr) (k0c : ClassId) (k1a : Addr) (k1b : Addr) (k1c : ClassId) (k2a : Addr) (k2b : Addr) (k2c : ClassId) (k3a : Addr) (k3b : Addr) (k3c : ClassId) (h0 : Heap) (n0 : Nat) (Z0 : n0 ≤ h0.size) (p_0 : Sta Z h0 "java/lang/String" "COMPACT_STRINGS" "Z" (.int cs)) (hcs : ¬ cs = (0 : Int32)) (p_2 : Sta Z h0 "jdk/internal/util/Preconditions" "SIOOBE_FORMATTER" "Ljava/util/function/BiFunction;" f9) (hf9 : f9.isRef = true) (p_4 : Sta Z h0 "com/example/majra/majra/lang/ParameterKind" "INT" "Lcom/example/majra/majra/lang/ParameterKind;" (.ref s0)) (p_5 : Sta Z h0 "com/example/majra/majra/lang/ParameterKind" "FLOAT" "Lcom/example/majra/majra/lang/ParameterKind;" (.ref s1)) (p_6 : Sta Z h0 "com/example/majra/majra/lang/ParameterKind" "BOOLEAN" "Lcom/example/majra/majra/lang/ParameterKind;" (.ref s2)) (p_7 : Sta Z h0 "com/example/majra/majra/lang/ParameterKind" "STRING" "Lcom/example/majra/majra/lang/ParameterKind;" (.ref s3)) (p_8 : Sta Z h0 "com/example/majra/majra/lang/ParameterKind" "$VALUES" "[Lcom/example/majra/majra/lang/ParameterKind;" (.ref va)) (p_9 : Exa Z h0 va "[Lcom/example/majra/majra/lang/ParameterKind;") (p_10 : Arv Z h0 va vk (.object "com/example/majra/majra/lang/ParameterKind") (4 : Int32) [(.ref s0), (.ref s1), (.ref s2), (.ref s3)] .null) (p_11 : Fld Z h0 s0 "com/example/majra/majra/lang/ParameterKind" "keyword" "Ljava/lang/String;" (.ref k0a)) (p_12 : Exa Z h0 k0a "java/lang/String") (p_13 : Fld Z h0 k0a "java/lang/String" "coder" "B" (.int (0 : Int32))) (p_14 : Fld Z h0 k0a "java/lang/String" "value" "[B" (.ref k0b)) (p_15 : Arv Z h0 k0b k0c .byte (3 : Int32) [(.int (105 : Int32)), (.int (110 : Int32)), (.int (116 : Int32))] (.int (0 : Int32))) (p_16 : Fld Z h0 s1 "com/example/majra/majra/lang/ParameterKind" "keyword" "Ljava/lang/String;" (.ref k1a)) (p_17 : Exa Z h0 k1a "java/lang/String") (p_18 : Fld Z h0 k1a "java/lang/String" "coder" "B" (.int (0 : Int32))) (p_19 : Fld Z h0 k1a "java/lang/String" "value" "[B" (.ref k1b)) (p_20 : Arv Z h0 k1b k1c .byte (5 : Int32) [(.int (102 : Int32)), (.int (108 : Int32)), (.int (111 : Int32)), (.int (97 : Int32)), (.int (116 : Int32))] (.int (0 : Int32))) (p_21 : Fld Z h0 s2 "com/example/majra/majra/lang/ParameterKind" "keyword" "Ljava/lang/String;" (.ref k2a)) (p_22 : Exa Z h0 k2a "java/lang/String") (p_23 : Fld Z h0 k2a "java/lang/String" "coder" "B" (.int (0 : Int32))) (p_24 : Fld Z h0 k2a "java/lang/String" "value" "[B" (.ref k2b)) (p_25 : Arv Z h0 k2b k2c .byte (7 : Int32) [(.int (98 : Int32)), (.int (111 : Int32)), (.int (111 : Int32)), (.int (108 : Int32)), (.int (101 : Int32)), (.int (97 : Int32)), (.int (110 : Int32))] (.int (0 : Int32))) (p_26 : Fld Z h0 s3 "com/example/majra/majra/lang/ParameterKind" "keyword" "Ljava/lang/String;" (.ref k3a)) (p_27 : Exa Z h0 k3a "java/lang/String") (p_28 : Fld Z h0 k3a "java/lang/String" "coder" "B" (.int (0 : Int32))) (p_29 : Fld Z h0 k3a "java/lang/String" "value" "[B" (.ref k3b)) (p_30 : Arv Z h0 k3b k3c .byte (6 : Int32) [(.int (115 : Int32)), (.int (116 : Int32)), (.int (114 : Int32)), (.int (105 : Int32)), (.int (110 : Int32)), (.int (103 : Int32))] (.int (0 : Int32))) :
    MetFree l x (head1 (Jvm.Cond.code x code maxLocals ret :: ws) room_1) (fun a_ U_ => a_ = #[(.int p1), (.int p2), (.int p3), (.int p4)] ∧ Z.Warmed39 U_.vm ∧ U_.heap = h0 ∧ CHv Z consts_1 U_.vm h0 ∧ ∀ x_ ∈ ([] : List Addr), Safe Z consts_1 U_.vm h0 x_) (fun _ _ _ _ _ => True) (fun _ U_ o_ U1_ => ∃ v_ L_, o_ = .returned v_ ∧ Q0 Z p1 p2 p3 p4 cs f9 va vk s0 s1 s2 s3 k0a k0b k0c k1a k1b k1c k2a k2b k2c k3a k3b k3c h0 n0 v_ U1_.heap L_ ∧ CHr Z consts_1 U_.vm U_.heap U1_.vm U1_.heap ∧ ReturnedEndW U_ o_ U1_ L_ 32 5248) := by
  refine MetFree.of_bodySF pn_rm0 hisR ?_
  intro p e s m args below meth c s₁ Bd hml0 hP hK
  obtain ⟨rfl, hZ, hh, hCH, hSf⟩ := hP
  have hx := Bd.exec
  have hby := Bd.bytes
  have hlk : meth.locks = false := Bd.notSynchronized
  have hml : c.maxLocals = 20 := hml0
  have hown : s.vm.findClass "com/example/majra/majra/lang/ParameterKindNamedPinLaw" = some m.cls := findClass_of_methodNamed Bd.named
  have hnm := (name_of_methodNamed Bd.named Bd.method).1
  have X0 : Stand p l e room_1 (s.setVm s.vm) m #[(.int p1), (.int p2), (.int p3), (.int p4)] below meth c s₁ [] 0 0 := Stand.of_body Bd
  have e0 : s₁.heap = h0 := by rw [← hh, Bd.state]; rfl
  have N0 := Fr.nil n0
  have hS0 : s.Since s.vm n0 := (State.WarmedH.refl s).since n0
  have wS : ∀ d ∈ Bundle.stringAtoms, d.before a0 Z = true := by
    intro d hd
    simp only [Bundle.stringAtoms, List.mem_cons, List.not_mem_nil, or_false] at hd
    rcases hd with rfl | rfl | rfl | rfl | rfl | rfl | rfl
    · exact (own_w hw 5 rfl)
    · exact (own_w hw 6 rfl)
    · exact (own_w hw 7 rfl)
    · exact (own_w hw 8 rfl)
    · exact (own_w hw 9 rfl)
    · exact (own_w hw 10 rfl)
    · exact (own_w hw 11 rfl)
  have C0 := CHr.refl hCH
  show own_GoesH p e below s Z consts_1 (Q0 Z p1 p2 p3 p4 cs f9 va vk s0 s1 s2 s3 k0a k0b k0c k1a k1b k1c k2a k2b k2c k3a k3b k3c h0 n0) 32 5248 s₁ (entryFrame m #[(.int p1), (.int p2), (.int p3), (.int p4)] maxLocals)
  rw [ef_rm0 m p1 p2 p3 p4]
  show own_GoesH p e below s Z consts_1 (Q0 Z p1 p2 p3 p4 cs f9 va vk s0 s1 s2 s3 k0a k0b k0c k1a k1b k1c k2a k2b k2c k3a k3b k3c h0 n0) 32 5248 s₁ (mkF m 0 #[iv p1, iv p2, iv p3, iv p4, .unset, .unset, .unset, .unset, .unset, .unset, .unset, .unset, .unset, .unset, .unset, .unset, .unset, .unset, .unset, .unset] [])
  refine own_stH (fun _ kk_ => XS.iloadN X0.here hx rfl (hb hby at_0) rfl (XS.iconst X0.here hx rfl (hb hby at_1) (XS.iand X0.here hx rfl (hb hby at_2) rfl kk_))) ?_
  show own_GoesH _ _ _ _ _ _ _ _ _ s₁ (mkF m 3 #[iv p1, iv p2, iv p3, iv p4, .unset, .unset, .unset, .unset, .unset, .unset, .unset, .unset, .unset, .unset, .unset, .unset, .unset, .unset, .unset, .unset] [(.int (p1 &&& (3 : Int32)))])
  have hk4 := own_4 p1
  obtain ⟨q4, h_q4⟩ : ∃ z, z = (p1 &&& (3 : Int32)) := ⟨_, rfl⟩
  rw [← h_q4]
  show own_GoesH _ _ _ _ _ _ _ _ _ s₁ (mkF m 3 #[iv p1, iv p2, iv p3, iv p4, .unset, .unset, .unset, .unset, .unset, .unset, .unset, .unset, .unset, .unset, .unset, .unset, .unset, .unset, .unset, .unset] [(.int q4)])
  rw [← h_q4] at hk4
  have J167 : ∀ (T1 : State) (L1 : List Loc) (h1 : Heap) (vm1 : Vm) (k1 : Nat) (kwv : Addr) (mu : Int32) (mm : Int32) (fi : Int32) (c0 : Int32) (c1 : Int32) (c2 : Int32) (c3 : Int32) (c4 : Int32) (c5 : Int32) (c6 : Int32), Stand p l e room_1 (s.setVm vm1) m #[(.int p1), (.int p2), (.int p3), (.int p4)] below meth c T1 L1 2 32 → T1.heap = h1 → Fr n0 L1 → n0 ≤ h1.size → s.Since vm1 k1 → k1 ≤ h1.size → Z.Warmed39 (s.setVm vm1).vm → (s.setVm vm1).vm.findClass "com/example/majra/majra/lang/ParameterKindNamedPinLaw" = some m.cls → CHr Z consts_1 s.vm h0 vm1 h1 → Sta Z h1 "java/lang/String" "COMPACT_STRINGS" "Z" (.int cs) → Sta Z h1 "jdk/internal/util/Preconditions" "SIOOBE_FORMATTER" "Ljava/util/function/BiFunction;" f9 → Sta Z h1 "com/example/majra/majra/lang/ParameterKind" "INT" "Lcom/example/majra/majra/lang/ParameterKind;" (.ref s0) → Sta Z h1 "com/example/majra/majra/lang/ParameterKind" "FLOAT" "Lcom/example/majra/majra/lang/ParameterKind;" (.ref s1) → Sta Z h1 "com/example/majra/majra/lang/ParameterKind" "BOOLEAN" "Lcom/example/majra/majra/lang/ParameterKind;" (.ref s2) → Sta Z h1 "com/example/majra/majra/lang/ParameterKind" "STRING" "Lcom/example/majra/majra/lang/ParameterKind;" (.ref s3) → Sta Z h1 "com/example/majra/majra/lang/ParameterKind" "$VALUES" "[Lcom/example/majra/majra/lang/ParameterKind;" (.ref va) → Exa Z h1 va "[Lcom/example/majra/majra/lang/ParameterKind;" → Arv Z h1 va vk (.object "com/example/majra/majra/lang/ParameterKind") (4 : Int32) [(.ref s0), (.ref s1), (.ref s2), (.ref s3)] .null → Fld Z h1 s0 "com/example/majra/majra/lang/ParameterKind" "keyword" "Ljava/lang/String;" (.ref k0a) → Exa Z h1 k0a "java/lang/String" → Fld Z h1 k0a "java/lang/String" "coder" "B" (.int (0 : Int32)) → Fld Z h1 k0a "java/lang/String" "value" "[B" (.ref k0b) → Arv Z h1 k0b k0c .byte (3 : Int32) [(.int (105 : Int32)), (.int (110 : Int32)), (.int (116 : Int32))] (.int (0 : Int32)) → Fld Z h1 s1 "com/example/majra/majra/lang/ParameterKind" "keyword" "Ljava/lang/String;" (.ref k1a) → Exa Z h1 k1a "java/lang/String" → Fld Z h1 k1a "java/lang/String" "coder" "B" (.int (0 : Int32)) → Fld Z h1 k1a "java/lang/String" "value" "[B" (.ref k1b) → Arv Z h1 k1b k1c .byte (5 : Int32) [(.int (102 : Int32)), (.int (108 : Int32)), (.int (111 : Int32)), (.int (97 : Int32)), (.int (116 : Int32))] (.int (0 : Int32)) → Fld Z h1 s2 "com/example/majra/majra/lang/ParameterKind" "keyword" "Ljava/lang/String;" (.ref k2a) → Exa Z h1 k2a "java/lang/String" → Fld Z h1 k2a "java/lang/String" "coder" "B" (.int (0 : Int32)) → Fld Z h1 k2a "java/lang/String" "value" "[B" (.ref k2b) → Arv Z h1 k2b k2c .byte (7 : Int32) [(.int (98 : Int32)), (.int (111 : Int32)), (.int (111 : Int32)), (.int (108 : Int32)), (.int (101 : Int32)), (.int (97 : Int32)), (.int (110 : Int32))] (.int (0 : Int32)) → Fld Z h1 s3 "com/example/majra/majra/lang/ParameterKind" "keyword" "Ljava/lang/String;" (.ref k3a) → Exa Z h1 k3a "java/lang/String" → Fld Z h1 k3a "java/lang/String" "coder" "B" (.int (0 : Int32)) → Fld Z h1 k3a "java/lang/String" "value" "[B" (.ref k3b) → Arv Z h1 k3b k3c .byte (6 : Int32) [(.int (115 : Int32)), (.int (116 : Int32)), (.int (114 : Int32)), (.int (105 : Int32)), (.int (110 : Int32)), (.int (103 : Int32))] (.int (0 : Int32)) → own_in c0 → own_in c1 → own_in c2 → own_in c3 → own_in c4 → own_in c5 → own_in c6 → own_GoesH p e below s Z consts_1 (Q0 Z p1 p2 p3 p4 cs f9 va vk s0 s1 s2 s3 k0a k0b k0c k1a k1b k1c k2a k2b k2c k3a k3b k3c h0 n0) 32 5248 T1 (mkF m 167 #[iv p1, iv p2, iv p3, iv p4, rv kwv, iv (p2 &&& (7 : Int32)), iv mu, iv (p3 &&& (7 : Int32)), iv mm, iv fi, iv c0, iv c1, iv c2, iv c3, iv c4, iv c5, iv c6, .unset, .unset, .unset] []) := by
    intro T1 L1 h1 vm1 k1 kwv mu mm fi c0 c1 c2 c3 c4 c5 c6 X1 e1 N1 Zs1 hS1 Ks1 hZ hown C1 j1_0 j1_1 j1_2 j1_3 j1_4 j1_5 j1_6 j1_7 j1_8 j1_9 j1_10 j1_11 j1_12 j1_13 j1_14 j1_15 j1_16 j1_17 j1_18 j1_19 j1_20 j1_21 j1_22 j1_23 j1_24 j1_25 j1_26 j1_27 j1_28 j1_29 j1_30 j1_31 j1_32 j1_33 j1_34 j1_35
    show own_GoesH _ _ _ _ _ _ _ _ _ T1 (mkF m 167 #[iv p1, iv p2, iv p3, iv p4, rv kwv, iv (p2 &&& (7 : Int32)), iv mu, iv (p3 &&& (7 : Int32)), iv mm, iv fi, iv c0, iv c1, iv c2, iv c3, iv c4, iv c5, iv c6, .unset, .unset, .unset] [])
    refine own_stH (fun _ kk_ => XS.iload X1.here hx rfl (hb hby at_167) rfl (XS.iload X1.here hx rfl (hb hby at_169) rfl (XS.iload X1.here hx rfl (hb hby at_171) rfl (XS.iload X1.here hx rfl (hb hby at_173) rfl (XS.iload X1.here hx rfl (hb hby at_175) rfl (XS.iload X1.here hx rfl (hb hby at_177) rfl (XS.iload X1.here hx rfl (hb hby at_179) rfl (XS.iload X1.here hx rfl (hb hby at_181) rfl kk_)))))))) ?_
    show own_GoesH _ _ _ _ _ _ _ _ _ T1 (mkF m 183 #[iv p1, iv p2, iv p3, iv p4, rv kwv, iv (p2 &&& (7 : Int32)), iv mu, iv (p3 &&& (7 : Int32)), iv mm, iv fi, iv c0, iv c1, iv c2, iv c3, iv c4, iv c5, iv c6, .unset, .unset, .unset] [(.int c6), (.int c5), (.int c4), (.int c3), (.int c2), (.int c1), (.int c0), (.int (p2 &&& (7 : Int32)))])
    have J190 : ∀ (T34 : State) (L34 : List Loc) (h34 : Heap) (vm34 : Vm) (k34 : Nat) (n9 : Int32) (wd : Addr) (wv : Addr) (kw9 : ClassId) (z1 : Int32) (vs1 : List Value) (us1 : List Int32), Stand p l e room_1 (s.setVm vm34) m #[(.int p1), (.int p2), (.int p3), (.int p4)] below meth c T34 L34 8 64 → T34.heap = h34 → Fr n0 L34 → n0 ≤ h34.size → s.Since vm34 k34 → k34 ≤ h34.size → Z.Warmed39 (s.setVm vm34).vm → (s.setVm vm34).vm.findClass "com/example/majra/majra/lang/ParameterKindNamedPinLaw" = some m.cls → CHr Z consts_1 s.vm h0 vm34 h34 → Sta Z h34 "java/lang/String" "COMPACT_STRINGS" "Z" (.int cs) → Sta Z h34 "jdk/internal/util/Preconditions" "SIOOBE_FORMATTER" "Ljava/util/function/BiFunction;" f9 → Sta Z h34 "com/example/majra/majra/lang/ParameterKind" "INT" "Lcom/example/majra/majra/lang/ParameterKind;" (.ref s0) → Sta Z h34 "com/example/majra/majra/lang/ParameterKind" "FLOAT" "Lcom/example/majra/majra/lang/ParameterKind;" (.ref s1) → Sta Z h34 "com/example/majra/majra/lang/ParameterKind" "BOOLEAN" "Lcom/example/majra/majra/lang/ParameterKind;" (.ref s2) → Sta Z h34 "com/example/majra/majra/lang/ParameterKind" "STRING" "Lcom/example/majra/majra/lang/ParameterKind;" (.ref s3) → Sta Z h34 "com/example/majra/majra/lang/ParameterKind" "$VALUES" "[Lcom/example/majra/majra/lang/ParameterKind;" (.ref va) → Exa Z h34 va "[Lcom/example/majra/majra/lang/ParameterKind;" → Arv Z h34 va vk (.object "com/example/majra/majra/lang/ParameterKind") (4 : Int32) [(.ref s0), (.ref s1), (.ref s2), (.ref s3)] .null → Fld Z h34 s0 "com/example/majra/majra/lang/ParameterKind" "keyword" "Ljava/lang/String;" (.ref k0a) → Exa Z h34 k0a "java/lang/String" → Fld Z h34 k0a "java/lang/String" "coder" "B" (.int (0 : Int32)) → Fld Z h34 k0a "java/lang/String" "value" "[B" (.ref k0b) → Arv Z h34 k0b k0c .byte (3 : Int32) [(.int (105 : Int32)), (.int (110 : Int32)), (.int (116 : Int32))] (.int (0 : Int32)) → Fld Z h34 s1 "com/example/majra/majra/lang/ParameterKind" "keyword" "Ljava/lang/String;" (.ref k1a) → Exa Z h34 k1a "java/lang/String" → Fld Z h34 k1a "java/lang/String" "coder" "B" (.int (0 : Int32)) → Fld Z h34 k1a "java/lang/String" "value" "[B" (.ref k1b) → Arv Z h34 k1b k1c .byte (5 : Int32) [(.int (102 : Int32)), (.int (108 : Int32)), (.int (111 : Int32)), (.int (97 : Int32)), (.int (116 : Int32))] (.int (0 : Int32)) → Fld Z h34 s2 "com/example/majra/majra/lang/ParameterKind" "keyword" "Ljava/lang/String;" (.ref k2a) → Exa Z h34 k2a "java/lang/String" → Fld Z h34 k2a "java/lang/String" "coder" "B" (.int (0 : Int32)) → Fld Z h34 k2a "java/lang/String" "value" "[B" (.ref k2b) → Arv Z h34 k2b k2c .byte (7 : Int32) [(.int (98 : Int32)), (.int (111 : Int32)), (.int (111 : Int32)), (.int (108 : Int32)), (.int (101 : Int32)), (.int (97 : Int32)), (.int (110 : Int32))] (.int (0 : Int32)) → Fld Z h34 s3 "com/example/majra/majra/lang/ParameterKind" "keyword" "Ljava/lang/String;" (.ref k3a) → Exa Z h34 k3a "java/lang/String" → Fld Z h34 k3a "java/lang/String" "coder" "B" (.int (0 : Int32)) → Fld Z h34 k3a "java/lang/String" "value" "[B" (.ref k3b) → Arv Z h34 k3b k3c .byte (6 : Int32) [(.int (115 : Int32)), (.int (116 : Int32)), (.int (114 : Int32)), (.int (105 : Int32)), (.int (110 : Int32)), (.int (103 : Int32))] (.int (0 : Int32)) → Exa Z h34 wd "java/lang/String" → Fld Z h34 wd "java/lang/String" "coder" "B" (.int (0 : Int32)) → Fld Z h34 wd "java/lang/String" "value" "[B" (.ref wv) → Arv Z h34 wv kw9 .byte z1 vs1 (.int (0 : Int32)) → own_ok us1 z1 vs1 → own_GoesH p e below s Z consts_1 (Q0 Z p1 p2 p3 p4 cs f9 va vk s0 s1 s2 s3 k0a k0b k0c k1a k1b k1c k2a k2b k2c k3a k3b k3c h0 n0) 32 5248 T34 (mkF m 190 #[iv p1, iv p2, iv p3, iv p4, rv kwv, iv n9, iv mu, iv (p3 &&& (7 : Int32)), iv mm, iv fi, iv c0, iv c1, iv c2, iv c3, iv c4, iv c5, iv c6, rv wd, .unset, .unset] [(.ref wd)]) := by
      intro T34 L34 h34 vm34 k34 n9 wd wv kw9 z1 vs1 us1 X34 e34 N34 Zs34 hS34 Ks34 hZ hown C34 j34_0 j34_1 j34_2 j34_3 j34_4 j34_5 j34_6 j34_7 j34_8 j34_9 j34_10 j34_11 j34_12 j34_13 j34_14 j34_15 j34_16 j34_17 j34_18 j34_19 j34_20 j34_21 j34_22 j34_23 j34_24 j34_25 j34_26 j34_27 j34_28 j34_29 j34_30 j34_31 j34_32 j34_33
      show own_GoesH _ _ _ _ _ _ _ _ _ T34 (mkF m 190 #[iv p1, iv p2, iv p3, iv p4, rv kwv, iv n9, iv mu, iv (p3 &&& (7 : Int32)), iv mm, iv fi, iv c0, iv c1, iv c2, iv c3, iv c4, iv c5, iv c6, rv wd, .unset, .unset] [(.ref wd)])
      obtain ⟨_, _, ⟨T43, L43, k43, n43⟩, -, X43, hSn43, hgn43, ⟨Lc43, hQ43, l43, y43, z43, hC43⟩, st43⟩ := callSS X34 hx (y := yy13) hown (mvT hZ (own_w hw 75 rfl)) (mvT hZ (own_w hw 76 rfl)) (mvT hZ (own_w hw 2 rfl)) (mvT hZ (own_w hw 77 rfl)) (by decide) (own_backH (sl := []) (W := 0) (rm17 l Z a0 hw [] hEL (wd) (wv) (kw9) (cs) (z1) (vs1) (us1) (s0) (s1) (s2) (s3) h34 n0 Zs34 j34_29 j34_30 j34_31 j34_32 j34_33 j34_0 (by assumption) j34_2 j34_3 j34_4 j34_5) hZ (own_w hw 77 rfl) (own_w hw 2 rfl) (by decide) (by decide) hEL C34.1 own_sn) (g := (mkF m 190 #[iv p1, iv p2, iv p3, iv p4, rv kwv, iv n9, iv mu, iv (p3 &&& (7 : Int32)), iv mm, iv fi, iv c0, iv c1, iv c2, iv c3, iv c4, iv c5, iv c6, rv wd, .unset, .unset] [(.ref wd)])) rfl (by rw [hml]; rfl) (argsL := [(.ref wd)]) (rest := []) (lenOf pd_14 rfl) rfl (by show 2 * 0 + _ ≤ _; exact Nat.le_of_eq rfl) (hb hby at_190) (fun _ _ => ⟨rfl, e34, (by decide : 8 + 8 ≤ _), (by decide : 64 + 100 ≤ _)⟩)
      dsimp only [Pt.U, Pt.locs, Pt.cells, Pt.slots] at X43 l43 y43 z43 st43 hQ43 hSn43 hgn43 hC43
      subst l43 y43 z43
      have X43 : Stand p l e room_1 (s.setVm T43.vm) m _ below meth c T43 _ _ _ := X43
      have hS43 := foldS hS34 (by rw [e34]; exact Ks34) hSn43 hgn43
      have hown : (s.setVm T43.vm).vm.findClass "com/example/majra/majra/lang/ParameterKindNamedPinLaw" = some m.cls := by rw [show (s.setVm T43.vm).vm = T43.vm from rfl, hSn43.1.alike.findClass]; exact hown
      obtain ⟨rfl, Nq43, Kq43, u43_0⟩ := hQ43
      have N43 := Fr.app N34 Nq43
      have hZ : Z.Warmed39 (s.setVm T43.vm).vm := State.Warmed39.trans (t := (s.setVm vm34)) hZ hSn43.1
      have f43_0 := own_Sta_keep j34_0 Kq43 ns0
      have f43_1 := own_Sta_keep j34_1 Kq43 ns0
      have f43_2 := own_Sta_keep j34_2 Kq43 ns0
      have f43_3 := own_Sta_keep j34_3 Kq43 ns0
      have f43_4 := own_Sta_keep j34_4 Kq43 ns0
      have f43_5 := own_Sta_keep j34_5 Kq43 ns0
      have f43_6 := own_Sta_keep j34_6 Kq43 ns0
      have f43_7 := j34_7.keep Kq43
      have f43_8 := j34_8.keep Kq43 nin0
      have f43_9 := j34_9.keep Kq43 nin0
      have f43_10 := j34_10.keep Kq43
      have f43_11 := j34_11.keep Kq43 nin0
      have f43_12 := j34_12.keep Kq43 nin0
      have f43_13 := j34_13.keep Kq43 nin0
      have f43_14 := j34_14.keep Kq43 nin0
      have f43_15 := j34_15.keep Kq43
      have f43_16 := j34_16.keep Kq43 nin0
      have f43_17 := j34_17.keep Kq43 nin0
      have f43_18 := j34_18.keep Kq43 nin0
      have f43_19 := j34_19.keep Kq43 nin0
      have f43_20 := j34_20.keep Kq43
      have f43_21 := j34_21.keep Kq43 nin0
      have f43_22 := j34_22.keep Kq43 nin0
      have f43_23 := j34_23.keep Kq43 nin0
      have f43_24 := j34_24.keep Kq43 nin0
      have f43_25 := j34_25.keep Kq43
      have f43_26 := j34_26.keep Kq43 nin0
      have f43_27 := j34_27.keep Kq43 nin0
      have f43_28 := j34_28.keep Kq43 nin0
      have f43_29 := j34_29.keep Kq43
      have f43_30 := j34_30.keep Kq43 nin0
      have f43_31 := j34_31.keep Kq43 nin0
      have f43_32 := j34_32.keep Kq43 nin0
      have C43 := C34.trans hC43
      have Ks43 := Nat.le_trans Ks34 Kq43.1
      have Zs43 : n0 ≤ T43.heap.size := Nat.le_trans Zs34 Kq43.1
      refine own_stH (fun _ kk_ => st43.trans kk_) ?_
      show own_GoesH _ _ _ _ _ _ _ _ _ T43 (mkF m 193 #[iv p1, iv p2, iv p3, iv p4, rv kwv, iv n9, iv mu, iv (p3 &&& (7 : Int32)), iv mm, iv fi, iv c0, iv c1, iv c2, iv c3, iv c4, iv c5, iv c6, rv wd, .unset, .unset] [(own_rf us1 s0 s1 s2 s3)])
      rcases ref_cases (own_rfr us1 s0 s1 s2 s3) with hv | ⟨q9, hv⟩
      · rw [hv]
        show own_GoesH _ _ _ _ _ _ _ _ _ T43 (mkF m 193 #[iv p1, iv p2, iv p3, iv p4, rv kwv, iv n9, iv mu, iv (p3 &&& (7 : Int32)), iv mm, iv fi, iv c0, iv c1, iv c2, iv c3, iv c4, iv c5, iv c6, rv wd, .unset, .unset] [.null])
        refine own_stH (fun _ kk_ => XS.astore X43.here hx rfl (hb hby at_193) rfl rfl (l' := #[iv p1, iv p2, iv p3, iv p4, rv kwv, iv n9, iv mu, iv (p3 &&& (7 : Int32)), iv mm, iv fi, iv c0, iv c1, iv c2, iv c3, iv c4, iv c5, iv c6, rv wd, .val .null, .unset]) rfl (XS.aload X43.here hx rfl (hb hby at_195) rfl rfl kk_)) ?_
        show own_GoesH _ _ _ _ _ _ _ _ _ T43 (mkF m 197 #[iv p1, iv p2, iv p3, iv p4, rv kwv, iv n9, iv mu, iv (p3 &&& (7 : Int32)), iv mm, iv fi, iv c0, iv c1, iv c2, iv c3, iv c4, iv c5, iv c6, rv wd, .val .null, .unset] [(.ref wd)])
        obtain ⟨_, _, ⟨T44, L44, k44, n44⟩, -, X44, ⟨Lc44, hQ44, l44, y44, z44⟩, st44⟩ := Jvm.LawKit.callS X43 hx (y := yy15) hown (mvT hZ (own_w hw 90 rfl)) (mvT hZ (own_w hw 91 rfl)) (mvT hZ (own_w hw 88 rfl)) (mvT hZ (own_w hw 92 rfl)) (by decide) (backOf (W := 0) (rm20 l Z a0 hw [] (wd) (wv) (kw9) (cs) (z1) (vs1) (us1) (va) (vk) (s0) (s1) (s2) (s3) (k0a) (k0b) (k0c) (k1a) (k1b) (k1c) (k2a) (k2b) (k2c) (k3a) (k3b) (k3c) T43.heap n0 Zs43 f43_29 f43_30 f43_31 f43_32 j34_33 f43_0 (by assumption) f43_6 f43_7 f43_8 f43_9 f43_10 f43_11 f43_12 f43_13 f43_14 f43_15 f43_16 f43_17 f43_18 f43_19 f43_20 f43_21 f43_22 f43_23 f43_24 f43_25 f43_26 f43_27 f43_28) hZ (own_w hw 92 rfl) (own_w hw 88 rfl) (by decide) (by decide)) (g := (mkF m 197 #[iv p1, iv p2, iv p3, iv p4, rv kwv, iv n9, iv mu, iv (p3 &&& (7 : Int32)), iv mm, iv fi, iv c0, iv c1, iv c2, iv c3, iv c4, iv c5, iv c6, rv wd, .val .null, .unset] [(.ref wd)])) rfl (by rw [hml]; rfl) (argsL := [(.ref wd)]) (rest := []) (lenOf pd_14 rfl) rfl (by show 2 * 0 + _ ≤ _; exact Nat.le_of_eq rfl) (hb hby at_197) (fun _ _ => ⟨rfl, rfl, (by decide : 16 + 1 ≤ _), (by decide : 164 + 4 ≤ _)⟩)
        dsimp only [Pt.U, Pt.locs, Pt.cells, Pt.slots] at X44 l44 y44 z44 st44 hQ44
        subst l44 y44 z44
        obtain ⟨rfl, Nq44, Kq44, u44_0⟩ := hQ44
        have N44 := Fr.app N43 Nq44
        have f44_0 := own_Sta_keep f43_0 Kq44 ns0
        have f44_1 := own_Sta_keep f43_1 Kq44 ns0
        have f44_2 := own_Sta_keep f43_2 Kq44 ns0
        have f44_3 := own_Sta_keep f43_3 Kq44 ns0
        have f44_4 := own_Sta_keep f43_4 Kq44 ns0
        have f44_5 := own_Sta_keep f43_5 Kq44 ns0
        have f44_6 := own_Sta_keep f43_6 Kq44 ns0
        have f44_7 := f43_7.keep Kq44
        have f44_8 := f43_8.keep Kq44 nin0
        have f44_9 := f43_9.keep Kq44 nin0
        have f44_10 := f43_10.keep Kq44
        have f44_11 := f43_11.keep Kq44 nin0
        have f44_12 := f43_12.keep Kq44 nin0
        have f44_13 := f43_13.keep Kq44 nin0
        have f44_14 := f43_14.keep Kq44 nin0
        have f44_15 := f43_15.keep Kq44
        have f44_16 := f43_16.keep Kq44 nin0
        have f44_17 := f43_17.keep Kq44 nin0
        have f44_18 := f43_18.keep Kq44 nin0
        have f44_19 := f43_19.keep Kq44 nin0
        have f44_20 := f43_20.keep Kq44
        have f44_21 := f43_21.keep Kq44 nin0
        have f44_22 := f43_22.keep Kq44 nin0
        have f44_23 := f43_23.keep Kq44 nin0
        have f44_24 := f43_24.keep Kq44 nin0
        have f44_25 := f43_25.keep Kq44
        have f44_26 := f43_26.keep Kq44 nin0
        have f44_27 := f43_27.keep Kq44 nin0
        have f44_28 := f43_28.keep Kq44 nin0
        have f44_29 := f43_29.keep Kq44
        have f44_30 := f43_30.keep Kq44 nin0
        have f44_31 := f43_31.keep Kq44 nin0
        have f44_32 := f43_32.keep Kq44 nin0
        have C44 := C43.trans (CHr.keep Kq44 sf0 C43.1)
        have Ks44 := Nat.le_trans (Nat.le_refl T43.heap.size) Kq44.1
        have Zs44 : n0 ≤ T44.heap.size := Nat.le_trans Zs43 Kq44.1
        refine own_stH st44 ?_
        show own_GoesH _ _ _ _ _ _ _ _ _ T44 (mkF m 200 #[iv p1, iv p2, iv p3, iv p4, rv kwv, iv n9, iv mu, iv (p3 &&& (7 : Int32)), iv mm, iv fi, iv c0, iv c1, iv c2, iv c3, iv c4, iv c5, iv c6, rv wd, .val .null, .unset] [(own_nd us1 s0 s1 s2 s3)])
        rw [own_same, hv]
        show own_GoesH _ _ _ _ _ _ _ _ _ T44 (mkF m 200 #[iv p1, iv p2, iv p3, iv p4, rv kwv, iv n9, iv mu, iv (p3 &&& (7 : Int32)), iv mm, iv fi, iv c0, iv c1, iv c2, iv c3, iv c4, iv c5, iv c6, rv wd, .val .null, .unset] [.null])
        refine own_stH (fun _ kk_ => XS.astore X44.here hx rfl (hb hby at_200) rfl rfl (l' := #[iv p1, iv p2, iv p3, iv p4, rv kwv, iv n9, iv mu, iv (p3 &&& (7 : Int32)), iv mm, iv fi, iv c0, iv c1, iv c2, iv c3, iv c4, iv c5, iv c6, rv wd, .val .null, .val .null]) rfl (XS.aload X44.here hx rfl (hb hby at_202) rfl rfl (XS.aload X44.here hx rfl (hb hby at_204) rfl rfl (XT.acmpNo X44.here hx rfl (hb hby at_206) rfl rfl rfl (XT.aa_ne_f rfl) (XS.iconst X44.here hx rfl (hb hby at_209) (XS.goto X44.here hx rfl (pc0 := 210) (pc' := 214) rfl (hb hby at_210) (by decide) (by decide) kk_)))))) ?_
        show own_GoesH _ _ _ _ _ _ _ _ _ T44 (mkF m 214 #[iv p1, iv p2, iv p3, iv p4, rv kwv, iv n9, iv mu, iv (p3 &&& (7 : Int32)), iv mm, iv fi, iv c0, iv c1, iv c2, iv c3, iv c4, iv c5, iv c6, rv wd, .val .null, .val .null] [(.int (1 : Int32))])
        refine own_endH (v := (some (.int (nar .boolean (1 : Int32))))) X44 hlk hS43 Ks44 hZ hEL hh rfl C44 (fun h => by rw [Bd.returns] at h; cases h) (by decide) (by decide) ?_ (fun fs hr => retN X44 hx (t := .boolean) Bd.returns (by simp) (hb hby at_214) hr)
        show Q0 Z p1 p2 p3 p4 cs f9 va vk s0 s1 s2 s3 k0a k0b k0c k1a k1b k1c k2a k2b k2c k3a k3b k3c h0 n0 (some (.int (nar .boolean (1 : Int32)))) T44.heap _
        exact ⟨rfl, N44⟩
      · rw [hv]
        show own_GoesH _ _ _ _ _ _ _ _ _ T43 (mkF m 193 #[iv p1, iv p2, iv p3, iv p4, rv kwv, iv n9, iv mu, iv (p3 &&& (7 : Int32)), iv mm, iv fi, iv c0, iv c1, iv c2, iv c3, iv c4, iv c5, iv c6, rv wd, .unset, .unset] [(.ref q9)])
        refine own_stH (fun _ kk_ => XS.astore X43.here hx rfl (hb hby at_193) rfl rfl (l' := #[iv p1, iv p2, iv p3, iv p4, rv kwv, iv n9, iv mu, iv (p3 &&& (7 : Int32)), iv mm, iv fi, iv c0, iv c1, iv c2, iv c3, iv c4, iv c5, iv c6, rv wd, rv q9, .unset]) rfl (XS.aload X43.here hx rfl (hb hby at_195) rfl rfl kk_)) ?_
        show own_GoesH _ _ _ _ _ _ _ _ _ T43 (mkF m 197 #[iv p1, iv p2, iv p3, iv p4, rv kwv, iv n9, iv mu, iv (p3 &&& (7 : Int32)), iv mm, iv fi, iv c0, iv c1, iv c2, iv c3, iv c4, iv c5, iv c6, rv wd, rv q9, .unset] [(.ref wd)])
        obtain ⟨_, _, ⟨T45, L45, k45, n45⟩, -, X45, ⟨Lc45, hQ45, l45, y45, z45⟩, st45⟩ := Jvm.LawKit.callS X43 hx (y := yy15) hown (mvT hZ (own_w hw 90 rfl)) (mvT hZ (own_w hw 91 rfl)) (mvT hZ (own_w hw 88 rfl)) (mvT hZ (own_w hw 92 rfl)) (by decide) (backOf (W := 0) (rm20 l Z a0 hw [] (wd) (wv) (kw9) (cs) (z1) (vs1) (us1) (va) (vk) (s0) (s1) (s2) (s3) (k0a) (k0b) (k0c) (k1a) (k1b) (k1c) (k2a) (k2b) (k2c) (k3a) (k3b) (k3c) T43.heap n0 Zs43 f43_29 f43_30 f43_31 f43_32 j34_33 f43_0 (by assumption) f43_6 f43_7 f43_8 f43_9 f43_10 f43_11 f43_12 f43_13 f43_14 f43_15 f43_16 f43_17 f43_18 f43_19 f43_20 f43_21 f43_22 f43_23 f43_24 f43_25 f43_26 f43_27 f43_28) hZ (own_w hw 92 rfl) (own_w hw 88 rfl) (by decide) (by decide)) (g := (mkF m 197 #[iv p1, iv p2, iv p3, iv p4, rv kwv, iv n9, iv mu, iv (p3 &&& (7 : Int32)), iv mm, iv fi, iv c0, iv c1, iv c2, iv c3, iv c4, iv c5, iv c6, rv wd, rv q9, .unset] [(.ref wd)])) rfl (by rw [hml]; rfl) (argsL := [(.ref wd)]) (rest := []) (lenOf pd_14 rfl) rfl (by show 2 * 0 + _ ≤ _; exact Nat.le_of_eq rfl) (hb hby at_197) (fun _ _ => ⟨rfl, rfl, (by decide : 16 + 1 ≤ _), (by decide : 164 + 4 ≤ _)⟩)
        dsimp only [Pt.U, Pt.locs, Pt.cells, Pt.slots] at X45 l45 y45 z45 st45 hQ45
        subst l45 y45 z45
        obtain ⟨rfl, Nq45, Kq45, u45_0⟩ := hQ45
        have N45 := Fr.app N43 Nq45
        have f45_0 := own_Sta_keep f43_0 Kq45 ns0
        have f45_1 := own_Sta_keep f43_1 Kq45 ns0
        have f45_2 := own_Sta_keep f43_2 Kq45 ns0
        have f45_3 := own_Sta_keep f43_3 Kq45 ns0
        have f45_4 := own_Sta_keep f43_4 Kq45 ns0
        have f45_5 := own_Sta_keep f43_5 Kq45 ns0
        have f45_6 := own_Sta_keep f43_6 Kq45 ns0
        have f45_7 := f43_7.keep Kq45
        have f45_8 := f43_8.keep Kq45 nin0
        have f45_9 := f43_9.keep Kq45 nin0
        have f45_10 := f43_10.keep Kq45
        have f45_11 := f43_11.keep Kq45 nin0
        have f45_12 := f43_12.keep Kq45 nin0
        have f45_13 := f43_13.keep Kq45 nin0
        have f45_14 := f43_14.keep Kq45 nin0
        have f45_15 := f43_15.keep Kq45
        have f45_16 := f43_16.keep Kq45 nin0
        have f45_17 := f43_17.keep Kq45 nin0
        have f45_18 := f43_18.keep Kq45 nin0
        have f45_19 := f43_19.keep Kq45 nin0
        have f45_20 := f43_20.keep Kq45
        have f45_21 := f43_21.keep Kq45 nin0
        have f45_22 := f43_22.keep Kq45 nin0
        have f45_23 := f43_23.keep Kq45 nin0
        have f45_24 := f43_24.keep Kq45 nin0
        have f45_25 := f43_25.keep Kq45
        have f45_26 := f43_26.keep Kq45 nin0
        have f45_27 := f43_27.keep Kq45 nin0
        have f45_28 := f43_28.keep Kq45 nin0
        have f45_29 := f43_29.keep Kq45
        have f45_30 := f43_30.keep Kq45 nin0
        have f45_31 := f43_31.keep Kq45 nin0
        have f45_32 := f43_32.keep Kq45 nin0
        have C45 := C43.trans (CHr.keep Kq45 sf0 C43.1)
        have Ks45 := Nat.le_trans (Nat.le_refl T43.heap.size) Kq45.1
        have Zs45 : n0 ≤ T45.heap.size := Nat.le_trans Zs43 Kq45.1
        refine own_stH st45 ?_
        show own_GoesH _ _ _ _ _ _ _ _ _ T45 (mkF m 200 #[iv p1, iv p2, iv p3, iv p4, rv kwv, iv n9, iv mu, iv (p3 &&& (7 : Int32)), iv mm, iv fi, iv c0, iv c1, iv c2, iv c3, iv c4, iv c5, iv c6, rv wd, rv q9, .unset] [(own_nd us1 s0 s1 s2 s3)])
        rw [own_same, hv]
        show own_GoesH _ _ _ _ _ _ _ _ _ T45 (mkF m 200 #[iv p1, iv p2, iv p3, iv p4, rv kwv, iv n9, iv mu, iv (p3 &&& (7 : Int32)), iv mm, iv fi, iv c0, iv c1, iv c2, iv c3, iv c4, iv c5, iv c6, rv wd, rv q9, .unset] [(.ref q9)])
        refine own_stH (fun _ kk_ => XS.astore X45.here hx rfl (hb hby at_200) rfl rfl (l' := #[iv p1, iv p2, iv p3, iv p4, rv kwv, iv n9, iv mu, iv (p3 &&& (7 : Int32)), iv mm, iv fi, iv c0, iv c1, iv c2, iv c3, iv c4, iv c5, iv c6, rv wd, rv q9, rv q9]) rfl (XS.aload X45.here hx rfl (hb hby at_202) rfl rfl (XS.aload X45.here hx rfl (hb hby at_204) rfl rfl (XT.acmpNo X45.here hx rfl (hb hby at_206) rfl rfl rfl (XT.aa_ne_f rfl) (XS.iconst X45.here hx rfl (hb hby at_209) (XS.goto X45.here hx rfl (pc0 := 210) (pc' := 214) rfl (hb hby at_210) (by decide) (by decide) kk_)))))) ?_
        show own_GoesH _ _ _ _ _ _ _ _ _ T45 (mkF m 214 #[iv p1, iv p2, iv p3, iv p4, rv kwv, iv n9, iv mu, iv (p3 &&& (7 : Int32)), iv mm, iv fi, iv c0, iv c1, iv c2, iv c3, iv c4, iv c5, iv c6, rv wd, rv q9, rv q9] [(.int (1 : Int32))])
        refine own_endH (v := (some (.int (nar .boolean (1 : Int32))))) X45 hlk hS43 Ks45 hZ hEL hh rfl C45 (fun h => by rw [Bd.returns] at h; cases h) (by decide) (by decide) ?_ (fun fs hr => retN X45 hx (t := .boolean) Bd.returns (by simp) (hb hby at_214) hr)
        show Q0 Z p1 p2 p3 p4 cs f9 va vk s0 s1 s2 s3 k0a k0b k0c k1a k1b k1c k2a k2b k2c k3a k3b k3c h0 n0 (some (.int (nar .boolean (1 : Int32)))) T45.heap _
        exact ⟨rfl, N45⟩
    have hn8 := own_8 p2
    obtain ⟨n8, h_n8⟩ : ∃ z, z = (p2 &&& (7 : Int32)) := ⟨_, rfl⟩
    rw [← h_n8]
    show own_GoesH _ _ _ _ _ _ _ _ _ T1 (mkF m 183 #[iv p1, iv p2, iv p3, iv p4, rv kwv, iv n8, iv mu, iv (p3 &&& (7 : Int32)), iv mm, iv fi, iv c0, iv c1, iv c2, iv c3, iv c4, iv c5, iv c6, .unset, .unset, .unset] [(.int c6), (.int c5), (.int c4), (.int c3), (.int c2), (.int c1), (.int c0), (.int n8)])
    rw [← h_n8] at hn8
    rcases hn8 with rfl | rfl | rfl | rfl | rfl | rfl | rfl | rfl
    · show own_GoesH _ _ _ _ _ _ _ _ _ T1 (mkF m 183 #[iv p1, iv p2, iv p3, iv p4, rv kwv, iv (0 : Int32), iv mu, iv (p3 &&& (7 : Int32)), iv mm, iv fi, iv c0, iv c1, iv c2, iv c3, iv c4, iv c5, iv c6, .unset, .unset, .unset] [(.int c6), (.int c5), (.int c4), (.int c3), (.int c2), (.int c1), (.int c0), (.int (0 : Int32))])
      obtain ⟨_, _, ⟨T35, L35, k35, n35⟩, -, X35, hSn35, hgn35, ⟨Lc35, hQ35, l35, y35, z35, hC35⟩, st35⟩ := callSS X1 hx (y := yy11) hown (mvT hZ (own_w hw 50 rfl)) (mvT hZ (own_w hw 51 rfl)) (mvT hZ (own_w hw 2 rfl)) (mvT hZ (own_w hw 52 rfl)) (by decide) (own_backH (sl := []) (W := 0) (rm10_0 l Z a0 hw [] hEL (c0) (c1) (c2) (c3) (c4) (c5) (c6) (cs) h1 n0 Zs1 j1_0 (by assumption)) hZ (own_w hw 52 rfl) (own_w hw 2 rfl) (by decide) (by decide) hEL C1.1 own_sn) (g := (mkF m 183 #[iv p1, iv p2, iv p3, iv p4, rv kwv, iv (0 : Int32), iv mu, iv (p3 &&& (7 : Int32)), iv mm, iv fi, iv c0, iv c1, iv c2, iv c3, iv c4, iv c5, iv c6, .unset, .unset, .unset] [(.int c6), (.int c5), (.int c4), (.int c3), (.int c2), (.int c1), (.int c0), (.int (0 : Int32))])) rfl (by rw [hml]; rfl) (argsL := [(.int (0 : Int32)), (.int c0), (.int c1), (.int c2), (.int c3), (.int c4), (.int c5), (.int c6)]) (rest := []) (lenOf pd_13 rfl) rfl (by show 2 * 0 + _ ≤ _; exact Nat.le_of_eq rfl) (hb hby at_183) (fun _ _ => ⟨rfl, e1, (by decide : 2 + 6 ≤ _), (by decide : 32 + 12 ≤ _)⟩)
      dsimp only [Pt.U, Pt.locs, Pt.cells, Pt.slots] at X35 l35 y35 z35 st35 hQ35 hSn35 hgn35 hC35
      subst l35 y35 z35
      have X35 : Stand p l e room_1 (s.setVm T35.vm) m _ below meth c T35 _ _ _ := X35
      have hS35 := foldS hS1 (by rw [e1]; exact Ks1) hSn35 hgn35
      have hown : (s.setVm T35.vm).vm.findClass "com/example/majra/majra/lang/ParameterKindNamedPinLaw" = some m.cls := by rw [show (s.setVm T35.vm).vm = T35.vm from rfl, hSn35.1.alike.findClass]; exact hown
      obtain ⟨x35_y, x35_d, x35_kd, rfl, Nq35, Kq35, u35_0, u35_1, u35_2, u35_3, u35_4⟩ := hQ35
      have N35 := Fr.app N1 Nq35
      have hZ : Z.Warmed39 (s.setVm T35.vm).vm := State.Warmed39.trans (t := (s.setVm vm1)) hZ hSn35.1
      have f35_0 := own_Sta_keep j1_0 Kq35 ns0
      have f35_1 := own_Sta_keep j1_1 Kq35 ns0
      have f35_2 := own_Sta_keep j1_2 Kq35 ns0
      have f35_3 := own_Sta_keep j1_3 Kq35 ns0
      have f35_4 := own_Sta_keep j1_4 Kq35 ns0
      have f35_5 := own_Sta_keep j1_5 Kq35 ns0
      have f35_6 := own_Sta_keep j1_6 Kq35 ns0
      have f35_7 := j1_7.keep Kq35
      have f35_8 := j1_8.keep Kq35 nin0
      have f35_9 := j1_9.keep Kq35 nin0
      have f35_10 := j1_10.keep Kq35
      have f35_11 := j1_11.keep Kq35 nin0
      have f35_12 := j1_12.keep Kq35 nin0
      have f35_13 := j1_13.keep Kq35 nin0
      have f35_14 := j1_14.keep Kq35 nin0
      have f35_15 := j1_15.keep Kq35
      have f35_16 := j1_16.keep Kq35 nin0
      have f35_17 := j1_17.keep Kq35 nin0
      have f35_18 := j1_18.keep Kq35 nin0
      have f35_19 := j1_19.keep Kq35 nin0
      have f35_20 := j1_20.keep Kq35
      have f35_21 := j1_21.keep Kq35 nin0
      have f35_22 := j1_22.keep Kq35 nin0
      have f35_23 := j1_23.keep Kq35 nin0
      have f35_24 := j1_24.keep Kq35 nin0
      have f35_25 := j1_25.keep Kq35
      have f35_26 := j1_26.keep Kq35 nin0
      have f35_27 := j1_27.keep Kq35 nin0
      have f35_28 := j1_28.keep Kq35 nin0
      have C35 := C1.trans hC35
      have Ks35 := Nat.le_trans Ks1 Kq35.1
      have Zs35 : n0 ≤ T35.heap.size := Nat.le_trans Zs1 Kq35.1
      have ne35_va : va ≠ x35_y := Nat.ne_of_lt (Nat.lt_of_lt_of_le j1_7.lt u35_0)
      have ne35_s0 : s0 ≠ x35_y := Nat.ne_of_lt (Nat.lt_of_lt_of_le j1_9.lt u35_0)
      have ne35_k0a : k0a ≠ x35_y := Nat.ne_of_lt (Nat.lt_of_lt_of_le j1_10.lt u35_0)
      have ne35_k0b : k0b ≠ x35_y := Nat.ne_of_lt (Nat.lt_of_lt_of_le j1_13.lt u35_0)
      have ne35_s1 : s1 ≠ x35_y := Nat.ne_of_lt (Nat.lt_of_lt_of_le j1_14.lt u35_0)
      have ne35_k1a : k1a ≠ x35_y := Nat.ne_of_lt (Nat.lt_of_lt_of_le j1_15.lt u35_0)
      have ne35_k1b : k1b ≠ x35_y := Nat.ne_of_lt (Nat.lt_of_lt_of_le j1_18.lt u35_0)
      have ne35_s2 : s2 ≠ x35_y := Nat.ne_of_lt (Nat.lt_of_lt_of_le j1_19.lt u35_0)
      have ne35_k2a : k2a ≠ x35_y := Nat.ne_of_lt (Nat.lt_of_lt_of_le j1_20.lt u35_0)
      have ne35_k2b : k2b ≠ x35_y := Nat.ne_of_lt (Nat.lt_of_lt_of_le j1_23.lt u35_0)
      have ne35_s3 : s3 ≠ x35_y := Nat.ne_of_lt (Nat.lt_of_lt_of_le j1_24.lt u35_0)
      have ne35_k3a : k3a ≠ x35_y := Nat.ne_of_lt (Nat.lt_of_lt_of_le j1_25.lt u35_0)
      have ne35_k3b : k3b ≠ x35_y := Nat.ne_of_lt (Nat.lt_of_lt_of_le j1_28.lt u35_0)
      have gg35_y : n0 ≤ x35_y := Nat.le_trans Zs1 u35_0
      refine own_stH (fun _ kk_ => st35.trans kk_) ?_
      show own_GoesH _ _ _ _ _ _ _ _ _ T35 (mkF m 186 #[iv p1, iv p2, iv p3, iv p4, rv kwv, iv (0 : Int32), iv mu, iv (p3 &&& (7 : Int32)), iv mm, iv fi, iv c0, iv c1, iv c2, iv c3, iv c4, iv c5, iv c6, .unset, .unset, .unset] [(.ref x35_y)])
      refine own_stH (fun _ kk_ => XS.astore X35.here hx rfl (hb hby at_186) rfl rfl (l' := #[iv p1, iv p2, iv p3, iv p4, rv kwv, iv (0 : Int32), iv mu, iv (p3 &&& (7 : Int32)), iv mm, iv fi, iv c0, iv c1, iv c2, iv c3, iv c4, iv c5, iv c6, rv x35_y, .unset, .unset]) rfl (XS.aload X35.here hx rfl (hb hby at_188) rfl rfl kk_)) ?_
      show own_GoesH _ _ _ _ _ _ _ _ _ T35 (mkF m 190 #[iv p1, iv p2, iv p3, iv p4, rv kwv, iv (0 : Int32), iv mu, iv (p3 &&& (7 : Int32)), iv mm, iv fi, iv c0, iv c1, iv c2, iv c3, iv c4, iv c5, iv c6, rv x35_y, .unset, .unset] [(.ref x35_y)])
      exact J190 _ _ _ _ _ ((0 : Int32)) (x35_y) (x35_d) (x35_kd) ((0 : Int32)) ([]) ([]) (X35.more (by decide) (by decide)) rfl N35 Zs35 hS35 (Nat.le_refl T35.heap.size) hZ hown C35 f35_0 f35_1 f35_2 f35_3 f35_4 f35_5 f35_6 f35_7 f35_8 f35_9 f35_10 f35_11 f35_12 f35_13 f35_14 f35_15 f35_16 f35_17 f35_18 f35_19 f35_20 f35_21 f35_22 f35_23 f35_24 f35_25 f35_26 f35_27 f35_28 u35_1 u35_2 u35_3 u35_4 (own_okn (us := []) (fun _ q => nomatch q) (Nat.le_of_ble_eq_true rfl))
    · show own_GoesH _ _ _ _ _ _ _ _ _ T1 (mkF m 183 #[iv p1, iv p2, iv p3, iv p4, rv kwv, iv (1 : Int32), iv mu, iv (p3 &&& (7 : Int32)), iv mm, iv fi, iv c0, iv c1, iv c2, iv c3, iv c4, iv c5, iv c6, .unset, .unset, .unset] [(.int c6), (.int c5), (.int c4), (.int c3), (.int c2), (.int c1), (.int c0), (.int (1 : Int32))])
      obtain ⟨_, _, ⟨T36, L36, k36, n36⟩, -, X36, ⟨Lc36, hQ36, l36, y36, z36⟩, st36⟩ := Jvm.LawKit.callS X1 hx (y := yy11) hown (mvT hZ (own_w hw 50 rfl)) (mvT hZ (own_w hw 51 rfl)) (mvT hZ (own_w hw 2 rfl)) (mvT hZ (own_w hw 52 rfl)) (by decide) (backOf (W := 0) (rm10_1 l Z a0 hw [] (c0) (c1) (c2) (c3) (c4) (c5) (c6) (cs) h1 n0 Zs1 j1_0 (by assumption) j1_29) hZ (own_w hw 52 rfl) (own_w hw 2 rfl) (by decide) (by decide)) (g := (mkF m 183 #[iv p1, iv p2, iv p3, iv p4, rv kwv, iv (1 : Int32), iv mu, iv (p3 &&& (7 : Int32)), iv mm, iv fi, iv c0, iv c1, iv c2, iv c3, iv c4, iv c5, iv c6, .unset, .unset, .unset] [(.int c6), (.int c5), (.int c4), (.int c3), (.int c2), (.int c1), (.int c0), (.int (1 : Int32))])) rfl (by rw [hml]; rfl) (argsL := [(.int (1 : Int32)), (.int c0), (.int c1), (.int c2), (.int c3), (.int c4), (.int c5), (.int c6)]) (rest := []) (lenOf pd_13 rfl) rfl (by show 2 * 0 + _ ≤ _; exact Nat.le_of_eq rfl) (hb hby at_183) (fun _ _ => ⟨rfl, e1, (by decide : 2 + 3 ≤ _), (by decide : 32 + 6 ≤ _)⟩)
      dsimp only [Pt.U, Pt.locs, Pt.cells, Pt.slots] at X36 l36 y36 z36 st36 hQ36
      subst l36 y36 z36
      obtain ⟨x36_y, x36_d, x36_kd, rfl, Nq36, Kq36, u36_0, u36_1, u36_2, u36_3, u36_4⟩ := hQ36
      have N36 := Fr.app N1 Nq36
      have f36_0 := own_Sta_keep j1_0 Kq36 ns0
      have f36_1 := own_Sta_keep j1_1 Kq36 ns0
      have f36_2 := own_Sta_keep j1_2 Kq36 ns0
      have f36_3 := own_Sta_keep j1_3 Kq36 ns0
      have f36_4 := own_Sta_keep j1_4 Kq36 ns0
      have f36_5 := own_Sta_keep j1_5 Kq36 ns0
      have f36_6 := own_Sta_keep j1_6 Kq36 ns0
      have f36_7 := j1_7.keep Kq36
      have f36_8 := j1_8.keep Kq36 nin0
      have f36_9 := j1_9.keep Kq36 nin0
      have f36_10 := j1_10.keep Kq36
      have f36_11 := j1_11.keep Kq36 nin0
      have f36_12 := j1_12.keep Kq36 nin0
      have f36_13 := j1_13.keep Kq36 nin0
      have f36_14 := j1_14.keep Kq36 nin0
      have f36_15 := j1_15.keep Kq36
      have f36_16 := j1_16.keep Kq36 nin0
      have f36_17 := j1_17.keep Kq36 nin0
      have f36_18 := j1_18.keep Kq36 nin0
      have f36_19 := j1_19.keep Kq36 nin0
      have f36_20 := j1_20.keep Kq36
      have f36_21 := j1_21.keep Kq36 nin0
      have f36_22 := j1_22.keep Kq36 nin0
      have f36_23 := j1_23.keep Kq36 nin0
      have f36_24 := j1_24.keep Kq36 nin0
      have f36_25 := j1_25.keep Kq36
      have f36_26 := j1_26.keep Kq36 nin0
      have f36_27 := j1_27.keep Kq36 nin0
      have f36_28 := j1_28.keep Kq36 nin0
      have C36 := C1.trans (CHr.keep Kq36 sf0 C1.1)
      have Ks36 := Nat.le_trans Ks1 Kq36.1
      have Zs36 : n0 ≤ T36.heap.size := Nat.le_trans Zs1 Kq36.1
      have ne36_va : va ≠ x36_y := Nat.ne_of_lt (Nat.lt_of_lt_of_le j1_7.lt u36_0)
      have ne36_s0 : s0 ≠ x36_y := Nat.ne_of_lt (Nat.lt_of_lt_of_le j1_9.lt u36_0)
      have ne36_k0a : k0a ≠ x36_y := Nat.ne_of_lt (Nat.lt_of_lt_of_le j1_10.lt u36_0)
      have ne36_k0b : k0b ≠ x36_y := Nat.ne_of_lt (Nat.lt_of_lt_of_le j1_13.lt u36_0)
      have ne36_s1 : s1 ≠ x36_y := Nat.ne_of_lt (Nat.lt_of_lt_of_le j1_14.lt u36_0)
      have ne36_k1a : k1a ≠ x36_y := Nat.ne_of_lt (Nat.lt_of_lt_of_le j1_15.lt u36_0)
      have ne36_k1b : k1b ≠ x36_y := Nat.ne_of_lt (Nat.lt_of_lt_of_le j1_18.lt u36_0)
      have ne36_s2 : s2 ≠ x36_y := Nat.ne_of_lt (Nat.lt_of_lt_of_le j1_19.lt u36_0)
      have ne36_k2a : k2a ≠ x36_y := Nat.ne_of_lt (Nat.lt_of_lt_of_le j1_20.lt u36_0)
      have ne36_k2b : k2b ≠ x36_y := Nat.ne_of_lt (Nat.lt_of_lt_of_le j1_23.lt u36_0)
      have ne36_s3 : s3 ≠ x36_y := Nat.ne_of_lt (Nat.lt_of_lt_of_le j1_24.lt u36_0)
      have ne36_k3a : k3a ≠ x36_y := Nat.ne_of_lt (Nat.lt_of_lt_of_le j1_25.lt u36_0)
      have ne36_k3b : k3b ≠ x36_y := Nat.ne_of_lt (Nat.lt_of_lt_of_le j1_28.lt u36_0)
      have gg36_y : n0 ≤ x36_y := Nat.le_trans Zs1 u36_0
      refine own_stH st36 ?_
      show own_GoesH _ _ _ _ _ _ _ _ _ T36 (mkF m 186 #[iv p1, iv p2, iv p3, iv p4, rv kwv, iv (1 : Int32), iv mu, iv (p3 &&& (7 : Int32)), iv mm, iv fi, iv c0, iv c1, iv c2, iv c3, iv c4, iv c5, iv c6, .unset, .unset, .unset] [(.ref x36_y)])
      refine own_stH (fun _ kk_ => XS.astore X36.here hx rfl (hb hby at_186) rfl rfl (l' := #[iv p1, iv p2, iv p3, iv p4, rv kwv, iv (1 : Int32), iv mu, iv (p3 &&& (7 : Int32)), iv mm, iv fi, iv c0, iv c1, iv c2, iv c3, iv c4, iv c5, iv c6, rv x36_y, .unset, .unset]) rfl (XS.aload X36.here hx rfl (hb hby at_188) rfl rfl kk_)) ?_
      show own_GoesH _ _ _ _ _ _ _ _ _ T36 (mkF m 190 #[iv p1, iv p2, iv p3, iv p4, rv kwv, iv (1 : Int32), iv mu, iv (p3 &&& (7 : Int32)), iv mm, iv fi, iv c0, iv c1, iv c2, iv c3, iv c4, iv c5, iv c6, rv x36_y, .unset, .unset] [(.ref x36_y)])
      exact J190 _ _ _ _ _ ((1 : Int32)) (x36_y) (x36_d) (x36_kd) ((1 : Int32)) ([(.int (own_by c0))]) ([c0]) (X36.more (by decide) (by decide)) rfl N36 Zs36 hS1 Ks36 hZ hown C36 f36_0 f36_1 f36_2 f36_3 f36_4 f36_5 f36_6 f36_7 f36_8 f36_9 f36_10 f36_11 f36_12 f36_13 f36_14 f36_15 f36_16 f36_17 f36_18 f36_19 f36_20 f36_21 f36_22 f36_23 f36_24 f36_25 f36_26 f36_27 f36_28 u36_1 u36_2 u36_3 u36_4 (own_okn (us := [c0]) (List.forall_mem_cons.mpr ⟨j1_29, (fun _ q => nomatch q)⟩) (Nat.le_of_ble_eq_true rfl))
    · show own_GoesH _ _ _ _ _ _ _ _ _ T1 (mkF m 183 #[iv p1, iv p2, iv p3, iv p4, rv kwv, iv (2 : Int32), iv mu, iv (p3 &&& (7 : Int32)), iv mm, iv fi, iv c0, iv c1, iv c2, iv c3, iv c4, iv c5, iv c6, .unset, .unset, .unset] [(.int c6), (.int c5), (.int c4), (.int c3), (.int c2), (.int c1), (.int c0), (.int (2 : Int32))])
      obtain ⟨_, _, ⟨T37, L37, k37, n37⟩, -, X37, ⟨Lc37, hQ37, l37, y37, z37⟩, st37⟩ := Jvm.LawKit.callS X1 hx (y := yy11) hown (mvT hZ (own_w hw 50 rfl)) (mvT hZ (own_w hw 51 rfl)) (mvT hZ (own_w hw 2 rfl)) (mvT hZ (own_w hw 52 rfl)) (by decide) (backOf (W := 0) (rm10_2 l Z a0 hw [] (c0) (c1) (c2) (c3) (c4) (c5) (c6) (cs) h1 n0 Zs1 j1_0 (by assumption) j1_29 j1_30) hZ (own_w hw 52 rfl) (own_w hw 2 rfl) (by decide) (by decide)) (g := (mkF m 183 #[iv p1, iv p2, iv p3, iv p4, rv kwv, iv (2 : Int32), iv mu, iv (p3 &&& (7 : Int32)), iv mm, iv fi, iv c0, iv c1, iv c2, iv c3, iv c4, iv c5, iv c6, .unset, .unset, .unset] [(.int c6), (.int c5), (.int c4), (.int c3), (.int c2), (.int c1), (.int c0), (.int (2 : Int32))])) rfl (by rw [hml]; rfl) (argsL := [(.int (2 : Int32)), (.int c0), (.int c1), (.int c2), (.int c3), (.int c4), (.int c5), (.int c6)]) (rest := []) (lenOf pd_13 rfl) rfl (by show 2 * 0 + _ ≤ _; exact Nat.le_of_eq rfl) (hb hby at_183) (fun _ _ => ⟨rfl, e1, (by decide : 2 + 3 ≤ _), (by decide : 32 + 8 ≤ _)⟩)
      dsimp only [Pt.U, Pt.locs, Pt.cells, Pt.slots] at X37 l37 y37 z37 st37 hQ37
      subst l37 y37 z37
      obtain ⟨x37_y, x37_d, x37_kd, rfl, Nq37, Kq37, u37_0, u37_1, u37_2, u37_3, u37_4⟩ := hQ37
      have N37 := Fr.app N1 Nq37
      have f37_0 := own_Sta_keep j1_0 Kq37 ns0
      have f37_1 := own_Sta_keep j1_1 Kq37 ns0
      have f37_2 := own_Sta_keep j1_2 Kq37 ns0
      have f37_3 := own_Sta_keep j1_3 Kq37 ns0
      have f37_4 := own_Sta_keep j1_4 Kq37 ns0
      have f37_5 := own_Sta_keep j1_5 Kq37 ns0
      have f37_6 := own_Sta_keep j1_6 Kq37 ns0
      have f37_7 := j1_7.keep Kq37
      have f37_8 := j1_8.keep Kq37 nin0
      have f37_9 := j1_9.keep Kq37 nin0
      have f37_10 := j1_10.keep Kq37
      have f37_11 := j1_11.keep Kq37 nin0
      have f37_12 := j1_12.keep Kq37 nin0
      have f37_13 := j1_13.keep Kq37 nin0
      have f37_14 := j1_14.keep Kq37 nin0
      have f37_15 := j1_15.keep Kq37
      have f37_16 := j1_16.keep Kq37 nin0
      have f37_17 := j1_17.keep Kq37 nin0
      have f37_18 := j1_18.keep Kq37 nin0
      have f37_19 := j1_19.keep Kq37 nin0
      have f37_20 := j1_20.keep Kq37
      have f37_21 := j1_21.keep Kq37 nin0
      have f37_22 := j1_22.keep Kq37 nin0
      have f37_23 := j1_23.keep Kq37 nin0
      have f37_24 := j1_24.keep Kq37 nin0
      have f37_25 := j1_25.keep Kq37
      have f37_26 := j1_26.keep Kq37 nin0
      have f37_27 := j1_27.keep Kq37 nin0
      have f37_28 := j1_28.keep Kq37 nin0
      have C37 := C1.trans (CHr.keep Kq37 sf0 C1.1)
      have Ks37 := Nat.le_trans Ks1 Kq37.1
      have Zs37 : n0 ≤ T37.heap.size := Nat.le_trans Zs1 Kq37.1
      have ne37_va : va ≠ x37_y := Nat.ne_of_lt (Nat.lt_of_lt_of_le j1_7.lt u37_0)
      have ne37_s0 : s0 ≠ x37_y := Nat.ne_of_lt (Nat.lt_of_lt_of_le j1_9.lt u37_0)
      have ne37_k0a : k0a ≠ x37_y := Nat.ne_of_lt (Nat.lt_of_lt_of_le j1_10.lt u37_0)
      have ne37_k0b : k0b ≠ x37_y := Nat.ne_of_lt (Nat.lt_of_lt_of_le j1_13.lt u37_0)
      have ne37_s1 : s1 ≠ x37_y := Nat.ne_of_lt (Nat.lt_of_lt_of_le j1_14.lt u37_0)
      have ne37_k1a : k1a ≠ x37_y := Nat.ne_of_lt (Nat.lt_of_lt_of_le j1_15.lt u37_0)
      have ne37_k1b : k1b ≠ x37_y := Nat.ne_of_lt (Nat.lt_of_lt_of_le j1_18.lt u37_0)
      have ne37_s2 : s2 ≠ x37_y := Nat.ne_of_lt (Nat.lt_of_lt_of_le j1_19.lt u37_0)
      have ne37_k2a : k2a ≠ x37_y := Nat.ne_of_lt (Nat.lt_of_lt_of_le j1_20.lt u37_0)
      have ne37_k2b : k2b ≠ x37_y := Nat.ne_of_lt (Nat.lt_of_lt_of_le j1_23.lt u37_0)
      have ne37_s3 : s3 ≠ x37_y := Nat.ne_of_lt (Nat.lt_of_lt_of_le j1_24.lt u37_0)
      have ne37_k3a : k3a ≠ x37_y := Nat.ne_of_lt (Nat.lt_of_lt_of_le j1_25.lt u37_0)
      have ne37_k3b : k3b ≠ x37_y := Nat.ne_of_lt (Nat.lt_of_lt_of_le j1_28.lt u37_0)
      have gg37_y : n0 ≤ x37_y := Nat.le_trans Zs1 u37_0
      refine own_stH st37 ?_
      show own_GoesH _ _ _ _ _ _ _ _ _ T37 (mkF m 186 #[iv p1, iv p2, iv p3, iv p4, rv kwv, iv (2 : Int32), iv mu, iv (p3 &&& (7 : Int32)), iv mm, iv fi, iv c0, iv c1, iv c2, iv c3, iv c4, iv c5, iv c6, .unset, .unset, .unset] [(.ref x37_y)])
      refine own_stH (fun _ kk_ => XS.astore X37.here hx rfl (hb hby at_186) rfl rfl (l' := #[iv p1, iv p2, iv p3, iv p4, rv kwv, iv (2 : Int32), iv mu, iv (p3 &&& (7 : Int32)), iv mm, iv fi, iv c0, iv c1, iv c2, iv c3, iv c4, iv c5, iv c6, rv x37_y, .unset, .unset]) rfl (XS.aload X37.here hx rfl (hb hby at_188) rfl rfl kk_)) ?_
      show own_GoesH _ _ _ _ _ _ _ _ _ T37 (mkF m 190 #[iv p1, iv p2, iv p3, iv p4, rv kwv, iv (2 : Int32), iv mu, iv (p3 &&& (7 : Int32)), iv mm, iv fi, iv c0, iv c1, iv c2, iv c3, iv c4, iv c5, iv c6, rv x37_y, .unset, .unset] [(.ref x37_y)])
      exact J190 _ _ _ _ _ ((2 : Int32)) (x37_y) (x37_d) (x37_kd) ((2 : Int32)) ([(.int (own_by c0)), (.int (own_by c1))]) ([c0, c1]) (X37.more (by decide) (by decide)) rfl N37 Zs37 hS1 Ks37 hZ hown C37 f37_0 f37_1 f37_2 f37_3 f37_4 f37_5 f37_6 f37_7 f37_8 f37_9 f37_10 f37_11 f37_12 f37_13 f37_14 f37_15 f37_16 f37_17 f37_18 f37_19 f37_20 f37_21 f37_22 f37_23 f37_24 f37_25 f37_26 f37_27 f37_28 u37_1 u37_2 u37_3 u37_4 (own_okn (us := [c0, c1]) (List.forall_mem_cons.mpr ⟨j1_29, (List.forall_mem_cons.mpr ⟨j1_30, (fun _ q => nomatch q)⟩)⟩) (Nat.le_of_ble_eq_true rfl))
    · show own_GoesH _ _ _ _ _ _ _ _ _ T1 (mkF m 183 #[iv p1, iv p2, iv p3, iv p4, rv kwv, iv (3 : Int32), iv mu, iv (p3 &&& (7 : Int32)), iv mm, iv fi, iv c0, iv c1, iv c2, iv c3, iv c4, iv c5, iv c6, .unset, .unset, .unset] [(.int c6), (.int c5), (.int c4), (.int c3), (.int c2), (.int c1), (.int c0), (.int (3 : Int32))])
      obtain ⟨_, _, ⟨T38, L38, k38, n38⟩, -, X38, ⟨Lc38, hQ38, l38, y38, z38⟩, st38⟩ := Jvm.LawKit.callS X1 hx (y := yy11) hown (mvT hZ (own_w hw 50 rfl)) (mvT hZ (own_w hw 51 rfl)) (mvT hZ (own_w hw 2 rfl)) (mvT hZ (own_w hw 52 rfl)) (by decide) (backOf (W := 0) (rm10_3 l Z a0 hw [] (c0) (c1) (c2) (c3) (c4) (c5) (c6) (cs) h1 n0 Zs1 j1_0 (by assumption) j1_29 j1_30 j1_31) hZ (own_w hw 52 rfl) (own_w hw 2 rfl) (by decide) (by decide)) (g := (mkF m 183 #[iv p1, iv p2, iv p3, iv p4, rv kwv, iv (3 : Int32), iv mu, iv (p3 &&& (7 : Int32)), iv mm, iv fi, iv c0, iv c1, iv c2, iv c3, iv c4, iv c5, iv c6, .unset, .unset, .unset] [(.int c6), (.int c5), (.int c4), (.int c3), (.int c2), (.int c1), (.int c0), (.int (3 : Int32))])) rfl (by rw [hml]; rfl) (argsL := [(.int (3 : Int32)), (.int c0), (.int c1), (.int c2), (.int c3), (.int c4), (.int c5), (.int c6)]) (rest := []) (lenOf pd_13 rfl) rfl (by show 2 * 0 + _ ≤ _; exact Nat.le_of_eq rfl) (hb hby at_183) (fun _ _ => ⟨rfl, e1, (by decide : 2 + 3 ≤ _), (by decide : 32 + 10 ≤ _)⟩)
      dsimp only [Pt.U, Pt.locs, Pt.cells, Pt.slots] at X38 l38 y38 z38 st38 hQ38
      subst l38 y38 z38
      obtain ⟨x38_y, x38_d, x38_kd, rfl, Nq38, Kq38, u38_0, u38_1, u38_2, u38_3, u38_4⟩ := hQ38
      have N38 := Fr.app N1 Nq38
      have f38_0 := own_Sta_keep j1_0 Kq38 ns0
      have f38_1 := own_Sta_keep j1_1 Kq38 ns0
      have f38_2 := own_Sta_keep j1_2 Kq38 ns0
      have f38_3 := own_Sta_keep j1_3 Kq38 ns0
      have f38_4 := own_Sta_keep j1_4 Kq38 ns0
      have f38_5 := own_Sta_keep j1_5 Kq38 ns0
      have f38_6 := own_Sta_keep j1_6 Kq38 ns0
      have f38_7 := j1_7.keep Kq38
      have f38_8 := j1_8.keep Kq38 nin0
      have f38_9 := j1_9.keep Kq38 nin0
      have f38_10 := j1_10.keep Kq38
      have f38_11 := j1_11.keep Kq38 nin0
      have f38_12 := j1_12.keep Kq38 nin0
      have f38_13 := j1_13.keep Kq38 nin0
      have f38_14 := j1_14.keep Kq38 nin0
      have f38_15 := j1_15.keep Kq38
      have f38_16 := j1_16.keep Kq38 nin0
      have f38_17 := j1_17.keep Kq38 nin0
      have f38_18 := j1_18.keep Kq38 nin0
      have f38_19 := j1_19.keep Kq38 nin0
      have f38_20 := j1_20.keep Kq38
      have f38_21 := j1_21.keep Kq38 nin0
      have f38_22 := j1_22.keep Kq38 nin0
      have f38_23 := j1_23.keep Kq38 nin0
      have f38_24 := j1_24.keep Kq38 nin0
      have f38_25 := j1_25.keep Kq38
      have f38_26 := j1_26.keep Kq38 nin0
      have f38_27 := j1_27.keep Kq38 nin0
      have f38_28 := j1_28.keep Kq38 nin0
      have C38 := C1.trans (CHr.keep Kq38 sf0 C1.1)
      have Ks38 := Nat.le_trans Ks1 Kq38.1
      have Zs38 : n0 ≤ T38.heap.size := Nat.le_trans Zs1 Kq38.1
      have ne38_va : va ≠ x38_y := Nat.ne_of_lt (Nat.lt_of_lt_of_le j1_7.lt u38_0)
      have ne38_s0 : s0 ≠ x38_y := Nat.ne_of_lt (Nat.lt_of_lt_of_le j1_9.lt u38_0)
      have ne38_k0a : k0a ≠ x38_y := Nat.ne_of_lt (Nat.lt_of_lt_of_le j1_10.lt u38_0)
      have ne38_k0b : k0b ≠ x38_y := Nat.ne_of_lt (Nat.lt_of_lt_of_le j1_13.lt u38_0)
      have ne38_s1 : s1 ≠ x38_y := Nat.ne_of_lt (Nat.lt_of_lt_of_le j1_14.lt u38_0)
      have ne38_k1a : k1a ≠ x38_y := Nat.ne_of_lt (Nat.lt_of_lt_of_le j1_15.lt u38_0)
      have ne38_k1b : k1b ≠ x38_y := Nat.ne_of_lt (Nat.lt_of_lt_of_le j1_18.lt u38_0)
      have ne38_s2 : s2 ≠ x38_y := Nat.ne_of_lt (Nat.lt_of_lt_of_le j1_19.lt u38_0)
      have ne38_k2a : k2a ≠ x38_y := Nat.ne_of_lt (Nat.lt_of_lt_of_le j1_20.lt u38_0)
      have ne38_k2b : k2b ≠ x38_y := Nat.ne_of_lt (Nat.lt_of_lt_of_le j1_23.lt u38_0)
      have ne38_s3 : s3 ≠ x38_y := Nat.ne_of_lt (Nat.lt_of_lt_of_le j1_24.lt u38_0)
      have ne38_k3a : k3a ≠ x38_y := Nat.ne_of_lt (Nat.lt_of_lt_of_le j1_25.lt u38_0)
      have ne38_k3b : k3b ≠ x38_y := Nat.ne_of_lt (Nat.lt_of_lt_of_le j1_28.lt u38_0)
      have gg38_y : n0 ≤ x38_y := Nat.le_trans Zs1 u38_0
      refine own_stH st38 ?_
      show own_GoesH _ _ _ _ _ _ _ _ _ T38 (mkF m 186 #[iv p1, iv p2, iv p3, iv p4, rv kwv, iv (3 : Int32), iv mu, iv (p3 &&& (7 : Int32)), iv mm, iv fi, iv c0, iv c1, iv c2, iv c3, iv c4, iv c5, iv c6, .unset, .unset, .unset] [(.ref x38_y)])
      refine own_stH (fun _ kk_ => XS.astore X38.here hx rfl (hb hby at_186) rfl rfl (l' := #[iv p1, iv p2, iv p3, iv p4, rv kwv, iv (3 : Int32), iv mu, iv (p3 &&& (7 : Int32)), iv mm, iv fi, iv c0, iv c1, iv c2, iv c3, iv c4, iv c5, iv c6, rv x38_y, .unset, .unset]) rfl (XS.aload X38.here hx rfl (hb hby at_188) rfl rfl kk_)) ?_
      show own_GoesH _ _ _ _ _ _ _ _ _ T38 (mkF m 190 #[iv p1, iv p2, iv p3, iv p4, rv kwv, iv (3 : Int32), iv mu, iv (p3 &&& (7 : Int32)), iv mm, iv fi, iv c0, iv c1, iv c2, iv c3, iv c4, iv c5, iv c6, rv x38_y, .unset, .unset] [(.ref x38_y)])
      exact J190 _ _ _ _ _ ((3 : Int32)) (x38_y) (x38_d) (x38_kd) ((3 : Int32)) ([(.int (own_by c0)), (.int (own_by c1)), (.int (own_by c2))]) ([c0, c1, c2]) (X38.more (by decide) (by decide)) rfl N38 Zs38 hS1 Ks38 hZ hown C38 f38_0 f38_1 f38_2 f38_3 f38_4 f38_5 f38_6 f38_7 f38_8 f38_9 f38_10 f38_11 f38_12 f38_13 f38_14 f38_15 f38_16 f38_17 f38_18 f38_19 f38_20 f38_21 f38_22 f38_23 f38_24 f38_25 f38_26 f38_27 f38_28 u38_1 u38_2 u38_3 u38_4 (own_okn (us := [c0, c1, c2]) (List.forall_mem_cons.mpr ⟨j1_29, (List.forall_mem_cons.mpr ⟨j1_30, (List.forall_mem_cons.mpr ⟨j1_31, (fun _ q => nomatch q)⟩)⟩)⟩) (Nat.le_of_ble_eq_true rfl))
    · show own_GoesH _ _ _ _ _ _ _ _ _ T1 (mkF m 183 #[iv p1, iv p2, iv p3, iv p4, rv kwv, iv (4 : Int32), iv mu, iv (p3 &&& (7 : Int32)), iv mm, iv fi, iv c0, iv c1, iv c2, iv c3, iv c4, iv c5, iv c6, .unset, .unset, .unset] [(.int c6), (.int c5), (.int c4), (.int c3), (.int c2), (.int c1), (.int c0), (.int (4 : Int32))])
      obtain ⟨_, _, ⟨T39, L39, k39, n39⟩, -, X39, ⟨Lc39, hQ39, l39, y39, z39⟩, st39⟩ := Jvm.LawKit.callS X1 hx (y := yy11) hown (mvT hZ (own_w hw 50 rfl)) (mvT hZ (own_w hw 51 rfl)) (mvT hZ (own_w hw 2 rfl)) (mvT hZ (own_w hw 52 rfl)) (by decide) (backOf (W := 0) (rm10_4 l Z a0 hw [] (c0) (c1) (c2) (c3) (c4) (c5) (c6) (cs) h1 n0 Zs1 j1_0 (by assumption) j1_29 j1_30 j1_31 j1_32) hZ (own_w hw 52 rfl) (own_w hw 2 rfl) (by decide) (by decide)) (g := (mkF m 183 #[iv p1, iv p2, iv p3, iv p4, rv kwv, iv (4 : Int32), iv mu, iv (p3 &&& (7 : Int32)), iv mm, iv fi, iv c0, iv c1, iv c2, iv c3, iv c4, iv c5, iv c6, .unset, .unset, .unset] [(.int c6), (.int c5), (.int c4), (.int c3), (.int c2), (.int c1), (.int c0), (.int (4 : Int32))])) rfl (by rw [hml]; rfl) (argsL := [(.int (4 : Int32)), (.int c0), (.int c1), (.int c2), (.int c3), (.int c4), (.int c5), (.int c6)]) (rest := []) (lenOf pd_13 rfl) rfl (by show 2 * 0 + _ ≤ _; exact Nat.le_of_eq rfl) (hb hby at_183) (fun _ _ => ⟨rfl, e1, (by decide : 2 + 3 ≤ _), (by decide : 32 + 12 ≤ _)⟩)
      dsimp only [Pt.U, Pt.locs, Pt.cells, Pt.slots] at X39 l39 y39 z39 st39 hQ39
      subst l39 y39 z39
      obtain ⟨x39_y, x39_d, x39_kd, rfl, Nq39, Kq39, u39_0, u39_1, u39_2, u39_3, u39_4⟩ := hQ39
      have N39 := Fr.app N1 Nq39
      have f39_0 := own_Sta_keep j1_0 Kq39 ns0
      have f39_1 := own_Sta_keep j1_1 Kq39 ns0
      have f39_2 := own_Sta_keep j1_2 Kq39 ns0
      have f39_3 := own_Sta_keep j1_3 Kq39 ns0
      have f39_4 := own_Sta_keep j1_4 Kq39 ns0
      have f39_5 := own_Sta_keep j1_5 Kq39 ns0
      have f39_6 := own_Sta_keep j1_6 Kq39 ns0
      have f39_7 := j1_7.keep Kq39
      have f39_8 := j1_8.keep Kq39 nin0
      have f39_9 := j1_9.keep Kq39 nin0
      have f39_10 := j1_10.keep Kq39
      have f39_11 := j1_11.keep Kq39 nin0
      have f39_12 := j1_12.keep Kq39 nin0
      have f39_13 := j1_13.keep Kq39 nin0
      have f39_14 := j1_14.keep Kq39 nin0
      have f39_15 := j1_15.keep Kq39
      have f39_16 := j1_16.keep Kq39 nin0
      have f39_17 := j1_17.keep Kq39 nin0
      have f39_18 := j1_18.keep Kq39 nin0
      have f39_19 := j1_19.keep Kq39 nin0
      have f39_20 := j1_20.keep Kq39
      have f39_21 := j1_21.keep Kq39 nin0
      have f39_22 := j1_22.keep Kq39 nin0
      have f39_23 := j1_23.keep Kq39 nin0
      have f39_24 := j1_24.keep Kq39 nin0
      have f39_25 := j1_25.keep Kq39
      have f39_26 := j1_26.keep Kq39 nin0
      have f39_27 := j1_27.keep Kq39 nin0
      have f39_28 := j1_28.keep Kq39 nin0
      have C39 := C1.trans (CHr.keep Kq39 sf0 C1.1)
      have Ks39 := Nat.le_trans Ks1 Kq39.1
      have Zs39 : n0 ≤ T39.heap.size := Nat.le_trans Zs1 Kq39.1
      have ne39_va : va ≠ x39_y := Nat.ne_of_lt (Nat.lt_of_lt_of_le j1_7.lt u39_0)
      have ne39_s0 : s0 ≠ x39_y := Nat.ne_of_lt (Nat.lt_of_lt_of_le j1_9.lt u39_0)
      have ne39_k0a : k0a ≠ x39_y := Nat.ne_of_lt (Nat.lt_of_lt_of_le j1_10.lt u39_0)
      have ne39_k0b : k0b ≠ x39_y := Nat.ne_of_lt (Nat.lt_of_lt_of_le j1_13.lt u39_0)
      have ne39_s1 : s1 ≠ x39_y := Nat.ne_of_lt (Nat.lt_of_lt_of_le j1_14.lt u39_0)
      have ne39_k1a : k1a ≠ x39_y := Nat.ne_of_lt (Nat.lt_of_lt_of_le j1_15.lt u39_0)
      have ne39_k1b : k1b ≠ x39_y := Nat.ne_of_lt (Nat.lt_of_lt_of_le j1_18.lt u39_0)
      have ne39_s2 : s2 ≠ x39_y := Nat.ne_of_lt (Nat.lt_of_lt_of_le j1_19.lt u39_0)
      have ne39_k2a : k2a ≠ x39_y := Nat.ne_of_lt (Nat.lt_of_lt_of_le j1_20.lt u39_0)
      have ne39_k2b : k2b ≠ x39_y := Nat.ne_of_lt (Nat.lt_of_lt_of_le j1_23.lt u39_0)
      have ne39_s3 : s3 ≠ x39_y := Nat.ne_of_lt (Nat.lt_of_lt_of_le j1_24.lt u39_0)
      have ne39_k3a : k3a ≠ x39_y := Nat.ne_of_lt (Nat.lt_of_lt_of_le j1_25.lt u39_0)
      have ne39_k3b : k3b ≠ x39_y := Nat.ne_of_lt (Nat.lt_of_lt_of_le j1_28.lt u39_0)
      have gg39_y : n0 ≤ x39_y := Nat.le_trans Zs1 u39_0
      refine own_stH st39 ?_
      show own_GoesH _ _ _ _ _ _ _ _ _ T39 (mkF m 186 #[iv p1, iv p2, iv p3, iv p4, rv kwv, iv (4 : Int32), iv mu, iv (p3 &&& (7 : Int32)), iv mm, iv fi, iv c0, iv c1, iv c2, iv c3, iv c4, iv c5, iv c6, .unset, .unset, .unset] [(.ref x39_y)])
      refine own_stH (fun _ kk_ => XS.astore X39.here hx rfl (hb hby at_186) rfl rfl (l' := #[iv p1, iv p2, iv p3, iv p4, rv kwv, iv (4 : Int32), iv mu, iv (p3 &&& (7 : Int32)), iv mm, iv fi, iv c0, iv c1, iv c2, iv c3, iv c4, iv c5, iv c6, rv x39_y, .unset, .unset]) rfl (XS.aload X39.here hx rfl (hb hby at_188) rfl rfl kk_)) ?_
      show own_GoesH _ _ _ _ _ _ _ _ _ T39 (mkF m 190 #[iv p1, iv p2, iv p3, iv p4, rv kwv, iv (4 : Int32), iv mu, iv (p3 &&& (7 : Int32)), iv mm, iv fi, iv c0, iv c1, iv c2, iv c3, iv c4, iv c5, iv c6, rv x39_y, .unset, .unset] [(.ref x39_y)])
      exact J190 _ _ _ _ _ ((4 : Int32)) (x39_y) (x39_d) (x39_kd) ((4 : Int32)) ([(.int (own_by c0)), (.int (own_by c1)), (.int (own_by c2)), (.int (own_by c3))]) ([c0, c1, c2, c3]) (X39.more (by decide) (by decide)) rfl N39 Zs39 hS1 Ks39 hZ hown C39 f39_0 f39_1 f39_2 f39_3 f39_4 f39_5 f39_6 f39_7 f39_8 f39_9 f39_10 f39_11 f39_12 f39_13 f39_14 f39_15 f39_16 f39_17 f39_18 f39_19 f39_20 f39_21 f39_22 f39_23 f39_24 f39_25 f39_26 f39_27 f39_28 u39_1 u39_2 u39_3 u39_4 (own_okn (us := [c0, c1, c2, c3]) (List.forall_mem_cons.mpr ⟨j1_29, (List.forall_mem_cons.mpr ⟨j1_30, (List.forall_mem_cons.mpr ⟨j1_31, (List.forall_mem_cons.mpr ⟨j1_32, (fun _ q => nomatch q)⟩)⟩)⟩)⟩) (Nat.le_of_ble_eq_true rfl))
    · show own_GoesH _ _ _ _ _ _ _ _ _ T1 (mkF m 183 #[iv p1, iv p2, iv p3, iv p4, rv kwv, iv (5 : Int32), iv mu, iv (p3 &&& (7 : Int32)), iv mm, iv fi, iv c0, iv c1, iv c2, iv c3, iv c4, iv c5, iv c6, .unset, .unset, .unset] [(.int c6), (.int c5), (.int c4), (.int c3), (.int c2), (.int c1), (.int c0), (.int (5 : Int32))])
      obtain ⟨_, _, ⟨T40, L40, k40, n40⟩, -, X40, ⟨Lc40, hQ40, l40, y40, z40⟩, st40⟩ := Jvm.LawKit.callS X1 hx (y := yy11) hown (mvT hZ (own_w hw 50 rfl)) (mvT hZ (own_w hw 51 rfl)) (mvT hZ (own_w hw 2 rfl)) (mvT hZ (own_w hw 52 rfl)) (by decide) (backOf (W := 0) (rm10_5 l Z a0 hw [] (c0) (c1) (c2) (c3) (c4) (c5) (c6) (cs) h1 n0 Zs1 j1_0 (by assumption) j1_29 j1_30 j1_31 j1_32 j1_33) hZ (own_w hw 52 rfl) (own_w hw 2 rfl) (by decide) (by decide)) (g := (mkF m 183 #[iv p1, iv p2, iv p3, iv p4, rv kwv, iv (5 : Int32), iv mu, iv (p3 &&& (7 : Int32)), iv mm, iv fi, iv c0, iv c1, iv c2, iv c3, iv c4, iv c5, iv c6, .unset, .unset, .unset] [(.int c6), (.int c5), (.int c4), (.int c3), (.int c2), (.int c1), (.int c0), (.int (5 : Int32))])) rfl (by rw [hml]; rfl) (argsL := [(.int (5 : Int32)), (.int c0), (.int c1), (.int c2), (.int c3), (.int c4), (.int c5), (.int c6)]) (rest := []) (lenOf pd_13 rfl) rfl (by show 2 * 0 + _ ≤ _; exact Nat.le_of_eq rfl) (hb hby at_183) (fun _ _ => ⟨rfl, e1, (by decide : 2 + 3 ≤ _), (by decide : 32 + 14 ≤ _)⟩)
      dsimp only [Pt.U, Pt.locs, Pt.cells, Pt.slots] at X40 l40 y40 z40 st40 hQ40
      subst l40 y40 z40
      obtain ⟨x40_y, x40_d, x40_kd, rfl, Nq40, Kq40, u40_0, u40_1, u40_2, u40_3, u40_4⟩ := hQ40
      have N40 := Fr.app N1 Nq40
      have f40_0 := own_Sta_keep j1_0 Kq40 ns0
      have f40_1 := own_Sta_keep j1_1 Kq40 ns0
      have f40_2 := own_Sta_keep j1_2 Kq40 ns0
      have f40_3 := own_Sta_keep j1_3 Kq40 ns0
      have f40_4 := own_Sta_keep j1_4 Kq40 ns0
      have f40_5 := own_Sta_keep j1_5 Kq40 ns0
      have f40_6 := own_Sta_keep j1_6 Kq40 ns0
      have f40_7 := j1_7.keep Kq40
      have f40_8 := j1_8.keep Kq40 nin0
      have f40_9 := j1_9.keep Kq40 nin0
      have f40_10 := j1_10.keep Kq40
      have f40_11 := j1_11.keep Kq40 nin0
      have f40_12 := j1_12.keep Kq40 nin0
      have f40_13 := j1_13.keep Kq40 nin0
      have f40_14 := j1_14.keep Kq40 nin0
      have f40_15 := j1_15.keep Kq40
      have f40_16 := j1_16.keep Kq40 nin0
      have f40_17 := j1_17.keep Kq40 nin0
      have f40_18 := j1_18.keep Kq40 nin0
      have f40_19 := j1_19.keep Kq40 nin0
      have f40_20 := j1_20.keep Kq40
      have f40_21 := j1_21.keep Kq40 nin0
      have f40_22 := j1_22.keep Kq40 nin0
      have f40_23 := j1_23.keep Kq40 nin0
      have f40_24 := j1_24.keep Kq40 nin0
      have f40_25 := j1_25.keep Kq40
      have f40_26 := j1_26.keep Kq40 nin0
      have f40_27 := j1_27.keep Kq40 nin0
      have f40_28 := j1_28.keep Kq40 nin0
      have C40 := C1.trans (CHr.keep Kq40 sf0 C1.1)
      have Ks40 := Nat.le_trans Ks1 Kq40.1
      have Zs40 : n0 ≤ T40.heap.size := Nat.le_trans Zs1 Kq40.1
      have ne40_va : va ≠ x40_y := Nat.ne_of_lt (Nat.lt_of_lt_of_le j1_7.lt u40_0)
      have ne40_s0 : s0 ≠ x40_y := Nat.ne_of_lt (Nat.lt_of_lt_of_le j1_9.lt u40_0)
      have ne40_k0a : k0a ≠ x40_y := Nat.ne_of_lt (Nat.lt_of_lt_of_le j1_10.lt u40_0)
      have ne40_k0b : k0b ≠ x40_y := Nat.ne_of_lt (Nat.lt_of_lt_of_le j1_13.lt u40_0)
      have ne40_s1 : s1 ≠ x40_y := Nat.ne_of_lt (Nat.lt_of_lt_of_le j1_14.lt u40_0)
      have ne40_k1a : k1a ≠ x40_y := Nat.ne_of_lt (Nat.lt_of_lt_of_le j1_15.lt u40_0)
      have ne40_k1b : k1b ≠ x40_y := Nat.ne_of_lt (Nat.lt_of_lt_of_le j1_18.lt u40_0)
      have ne40_s2 : s2 ≠ x40_y := Nat.ne_of_lt (Nat.lt_of_lt_of_le j1_19.lt u40_0)
      have ne40_k2a : k2a ≠ x40_y := Nat.ne_of_lt (Nat.lt_of_lt_of_le j1_20.lt u40_0)
      have ne40_k2b : k2b ≠ x40_y := Nat.ne_of_lt (Nat.lt_of_lt_of_le j1_23.lt u40_0)
      have ne40_s3 : s3 ≠ x40_y := Nat.ne_of_lt (Nat.lt_of_lt_of_le j1_24.lt u40_0)
      have ne40_k3a : k3a ≠ x40_y := Nat.ne_of_lt (Nat.lt_of_lt_of_le j1_25.lt u40_0)
      have ne40_k3b : k3b ≠ x40_y := Nat.ne_of_lt (Nat.lt_of_lt_of_le j1_28.lt u40_0)
      have gg40_y : n0 ≤ x40_y := Nat.le_trans Zs1 u40_0
      refine own_stH st40 ?_
      show own_GoesH _ _ _ _ _ _ _ _ _ T40 (mkF m 186 #[iv p1, iv p2, iv p3, iv p4, rv kwv, iv (5 : Int32), iv mu, iv (p3 &&& (7 : Int32)), iv mm, iv fi, iv c0, iv c1, iv c2, iv c3, iv c4, iv c5, iv c6, .unset, .unset, .unset] [(.ref x40_y)])
      refine own_stH (fun _ kk_ => XS.astore X40.here hx rfl (hb hby at_186) rfl rfl (l' := #[iv p1, iv p2, iv p3, iv p4, rv kwv, iv (5 : Int32), iv mu, iv (p3 &&& (7 : Int32)), iv mm, iv fi, iv c0, iv c1, iv c2, iv c3, iv c4, iv c5, iv c6, rv x40_y, .unset, .unset]) rfl (XS.aload X40.here hx rfl (hb hby at_188) rfl rfl kk_)) ?_
      show own_GoesH _ _ _ _ _ _ _ _ _ T40 (mkF m 190 #[iv p1, iv p2, iv p3, iv p4, rv kwv, iv (5 : Int32), iv mu, iv (p3 &&& (7 : Int32)), iv mm, iv fi, iv c0, iv c1, iv c2, iv c3, iv c4, iv c5, iv c6, rv x40_y, .unset, .unset] [(.ref x40_y)])
      exact J190 _ _ _ _ _ ((5 : Int32)) (x40_y) (x40_d) (x40_kd) ((5 : Int32)) ([(.int (own_by c0)), (.int (own_by c1)), (.int (own_by c2)), (.int (own_by c3)), (.int (own_by c4))]) ([c0, c1, c2, c3, c4]) (X40.more (by decide) (by decide)) rfl N40 Zs40 hS1 Ks40 hZ hown C40 f40_0 f40_1 f40_2 f40_3 f40_4 f40_5 f40_6 f40_7 f40_8 f40_9 f40_10 f40_11 f40_12 f40_13 f40_14 f40_15 f40_16 f40_17 f40_18 f40_19 f40_20 f40_21 f40_22 f40_23 f40_24 f40_25 f40_26 f40_27 f40_28 u40_1 u40_2 u40_3 u40_4 (own_okn (us := [c0, c1, c2, c3, c4]) (List.forall_mem_cons.mpr ⟨j1_29, (List.forall_mem_cons.mpr ⟨j1_30, (List.forall_mem_cons.mpr ⟨j1_31, (List.forall_mem_cons.mpr ⟨j1_32, (List.forall_mem_cons.mpr ⟨j1_33, (fun _ q => nomatch q)⟩)⟩)⟩)⟩)⟩) (Nat.le_of_ble_eq_true rfl))
    · show own_GoesH _ _ _ _ _ _ _ _ _ T1 (mkF m 183 #[iv p1, iv p2, iv p3, iv p4, rv kwv, iv (6 : Int32), iv mu, iv (p3 &&& (7 : Int32)), iv mm, iv fi, iv c0, iv c1, iv c2, iv c3, iv c4, iv c5, iv c6, .unset, .unset, .unset] [(.int c6), (.int c5), (.int c4), (.int c3), (.int c2), (.int c1), (.int c0), (.int (6 : Int32))])
      obtain ⟨_, _, ⟨T41, L41, k41, n41⟩, -, X41, ⟨Lc41, hQ41, l41, y41, z41⟩, st41⟩ := Jvm.LawKit.callS X1 hx (y := yy11) hown (mvT hZ (own_w hw 50 rfl)) (mvT hZ (own_w hw 51 rfl)) (mvT hZ (own_w hw 2 rfl)) (mvT hZ (own_w hw 52 rfl)) (by decide) (backOf (W := 0) (rm10_6 l Z a0 hw [] (c0) (c1) (c2) (c3) (c4) (c5) (c6) (cs) h1 n0 Zs1 j1_0 (by assumption) j1_29 j1_30 j1_31 j1_32 j1_33 j1_34) hZ (own_w hw 52 rfl) (own_w hw 2 rfl) (by decide) (by decide)) (g := (mkF m 183 #[iv p1, iv p2, iv p3, iv p4, rv kwv, iv (6 : Int32), iv mu, iv (p3 &&& (7 : Int32)), iv mm, iv fi, iv c0, iv c1, iv c2, iv c3, iv c4, iv c5, iv c6, .unset, .unset, .unset] [(.int c6), (.int c5), (.int c4), (.int c3), (.int c2), (.int c1), (.int c0), (.int (6 : Int32))])) rfl (by rw [hml]; rfl) (argsL := [(.int (6 : Int32)), (.int c0), (.int c1), (.int c2), (.int c3), (.int c4), (.int c5), (.int c6)]) (rest := []) (lenOf pd_13 rfl) rfl (by show 2 * 0 + _ ≤ _; exact Nat.le_of_eq rfl) (hb hby at_183) (fun _ _ => ⟨rfl, e1, (by decide : 2 + 3 ≤ _), (by decide : 32 + 16 ≤ _)⟩)
      dsimp only [Pt.U, Pt.locs, Pt.cells, Pt.slots] at X41 l41 y41 z41 st41 hQ41
      subst l41 y41 z41
      obtain ⟨x41_y, x41_d, x41_kd, rfl, Nq41, Kq41, u41_0, u41_1, u41_2, u41_3, u41_4⟩ := hQ41
      have N41 := Fr.app N1 Nq41
      have f41_0 := own_Sta_keep j1_0 Kq41 ns0
      have f41_1 := own_Sta_keep j1_1 Kq41 ns0
      have f41_2 := own_Sta_keep j1_2 Kq41 ns0
      have f41_3 := own_Sta_keep j1_3 Kq41 ns0
      have f41_4 := own_Sta_keep j1_4 Kq41 ns0
      have f41_5 := own_Sta_keep j1_5 Kq41 ns0
      have f41_6 := own_Sta_keep j1_6 Kq41 ns0
      have f41_7 := j1_7.keep Kq41
      have f41_8 := j1_8.keep Kq41 nin0
      have f41_9 := j1_9.keep Kq41 nin0
      have f41_10 := j1_10.keep Kq41
      have f41_11 := j1_11.keep Kq41 nin0
      have f41_12 := j1_12.keep Kq41 nin0
      have f41_13 := j1_13.keep Kq41 nin0
      have f41_14 := j1_14.keep Kq41 nin0
      have f41_15 := j1_15.keep Kq41
      have f41_16 := j1_16.keep Kq41 nin0
      have f41_17 := j1_17.keep Kq41 nin0
      have f41_18 := j1_18.keep Kq41 nin0
      have f41_19 := j1_19.keep Kq41 nin0
      have f41_20 := j1_20.keep Kq41
      have f41_21 := j1_21.keep Kq41 nin0
      have f41_22 := j1_22.keep Kq41 nin0
      have f41_23 := j1_23.keep Kq41 nin0
      have f41_24 := j1_24.keep Kq41 nin0
      have f41_25 := j1_25.keep Kq41
      have f41_26 := j1_26.keep Kq41 nin0
      have f41_27 := j1_27.keep Kq41 nin0
      have f41_28 := j1_28.keep Kq41 nin0
      have C41 := C1.trans (CHr.keep Kq41 sf0 C1.1)
      have Ks41 := Nat.le_trans Ks1 Kq41.1
      have Zs41 : n0 ≤ T41.heap.size := Nat.le_trans Zs1 Kq41.1
      have ne41_va : va ≠ x41_y := Nat.ne_of_lt (Nat.lt_of_lt_of_le j1_7.lt u41_0)
      have ne41_s0 : s0 ≠ x41_y := Nat.ne_of_lt (Nat.lt_of_lt_of_le j1_9.lt u41_0)
      have ne41_k0a : k0a ≠ x41_y := Nat.ne_of_lt (Nat.lt_of_lt_of_le j1_10.lt u41_0)
      have ne41_k0b : k0b ≠ x41_y := Nat.ne_of_lt (Nat.lt_of_lt_of_le j1_13.lt u41_0)
      have ne41_s1 : s1 ≠ x41_y := Nat.ne_of_lt (Nat.lt_of_lt_of_le j1_14.lt u41_0)
      have ne41_k1a : k1a ≠ x41_y := Nat.ne_of_lt (Nat.lt_of_lt_of_le j1_15.lt u41_0)
      have ne41_k1b : k1b ≠ x41_y := Nat.ne_of_lt (Nat.lt_of_lt_of_le j1_18.lt u41_0)
      have ne41_s2 : s2 ≠ x41_y := Nat.ne_of_lt (Nat.lt_of_lt_of_le j1_19.lt u41_0)
      have ne41_k2a : k2a ≠ x41_y := Nat.ne_of_lt (Nat.lt_of_lt_of_le j1_20.lt u41_0)
      have ne41_k2b : k2b ≠ x41_y := Nat.ne_of_lt (Nat.lt_of_lt_of_le j1_23.lt u41_0)
      have ne41_s3 : s3 ≠ x41_y := Nat.ne_of_lt (Nat.lt_of_lt_of_le j1_24.lt u41_0)
      have ne41_k3a : k3a ≠ x41_y := Nat.ne_of_lt (Nat.lt_of_lt_of_le j1_25.lt u41_0)
      have ne41_k3b : k3b ≠ x41_y := Nat.ne_of_lt (Nat.lt_of_lt_of_le j1_28.lt u41_0)
      have gg41_y : n0 ≤ x41_y := Nat.le_trans Zs1 u41_0
      refine own_stH st41 ?_
      show own_GoesH _ _ _ _ _ _ _ _ _ T41 (mkF m 186 #[iv p1, iv p2, iv p3, iv p4, rv kwv, iv (6 : Int32), iv mu, iv (p3 &&& (7 : Int32)), iv mm, iv fi, iv c0, iv c1, iv c2, iv c3, iv c4, iv c5, iv c6, .unset, .unset, .unset] [(.ref x41_y)])
      refine own_stH (fun _ kk_ => XS.astore X41.here hx rfl (hb hby at_186) rfl rfl (l' := #[iv p1, iv p2, iv p3, iv p4, rv kwv, iv (6 : Int32), iv mu, iv (p3 &&& (7 : Int32)), iv mm, iv fi, iv c0, iv c1, iv c2, iv c3, iv c4, iv c5, iv c6, rv x41_y, .unset, .unset]) rfl (XS.aload X41.here hx rfl (hb hby at_188) rfl rfl kk_)) ?_
      show own_GoesH _ _ _ _ _ _ _ _ _ T41 (mkF m 190 #[iv p1, iv p2, iv p3, iv p4, rv kwv, iv (6 : Int32), iv mu, iv (p3 &&& (7 : Int32)), iv mm, iv fi, iv c0, iv c1, iv c2, iv c3, iv c4, iv c5, iv c6, rv x41_y, .unset, .unset] [(.ref x41_y)])
      exact J190 _ _ _ _ _ ((6 : Int32)) (x41_y) (x41_d) (x41_kd) ((6 : Int32)) ([(.int (own_by c0)), (.int (own_by c1)), (.int (own_by c2)), (.int (own_by c3)), (.int (own_by c4)), (.int (own_by c5))]) ([c0, c1, c2, c3, c4, c5]) (X41.more (by decide) (by decide)) rfl N41 Zs41 hS1 Ks41 hZ hown C41 f41_0 f41_1 f41_2 f41_3 f41_4 f41_5 f41_6 f41_7 f41_8 f41_9 f41_10 f41_11 f41_12 f41_13 f41_14 f41_15 f41_16 f41_17 f41_18 f41_19 f41_20 f41_21 f41_22 f41_23 f41_24 f41_25 f41_26 f41_27 f41_28 u41_1 u41_2 u41_3 u41_4 (own_okn (us := [c0, c1, c2, c3, c4, c5]) (List.forall_mem_cons.mpr ⟨j1_29, (List.forall_mem_cons.mpr ⟨j1_30, (List.forall_mem_cons.mpr ⟨j1_31, (List.forall_mem_cons.mpr ⟨j1_32, (List.forall_mem_cons.mpr ⟨j1_33, (List.forall_mem_cons.mpr ⟨j1_34, (fun _ q => nomatch q)⟩)⟩)⟩)⟩)⟩)⟩) (Nat.le_of_ble_eq_true rfl))
    · show own_GoesH _ _ _ _ _ _ _ _ _ T1 (mkF m 183 #[iv p1, iv p2, iv p3, iv p4, rv kwv, iv (7 : Int32), iv mu, iv (p3 &&& (7 : Int32)), iv mm, iv fi, iv c0, iv c1, iv c2, iv c3, iv c4, iv c5, iv c6, .unset, .unset, .unset] [(.int c6), (.int c5), (.int c4), (.int c3), (.int c2), (.int c1), (.int c0), (.int (7 : Int32))])
      obtain ⟨_, _, ⟨T42, L42, k42, n42⟩, -, X42, ⟨Lc42, hQ42, l42, y42, z42⟩, st42⟩ := Jvm.LawKit.callS X1 hx (y := yy11) hown (mvT hZ (own_w hw 50 rfl)) (mvT hZ (own_w hw 51 rfl)) (mvT hZ (own_w hw 2 rfl)) (mvT hZ (own_w hw 52 rfl)) (by decide) (backOf (W := 0) (rm10_7 l Z a0 hw [] (c0) (c1) (c2) (c3) (c4) (c5) (c6) (cs) h1 n0 Zs1 j1_0 (by assumption) j1_29 j1_30 j1_31 j1_32 j1_33 j1_34 j1_35) hZ (own_w hw 52 rfl) (own_w hw 2 rfl) (by decide) (by decide)) (g := (mkF m 183 #[iv p1, iv p2, iv p3, iv p4, rv kwv, iv (7 : Int32), iv mu, iv (p3 &&& (7 : Int32)), iv mm, iv fi, iv c0, iv c1, iv c2, iv c3, iv c4, iv c5, iv c6, .unset, .unset, .unset] [(.int c6), (.int c5), (.int c4), (.int c3), (.int c2), (.int c1), (.int c0), (.int (7 : Int32))])) rfl (by rw [hml]; rfl) (argsL := [(.int (7 : Int32)), (.int c0), (.int c1), (.int c2), (.int c3), (.int c4), (.int c5), (.int c6)]) (rest := []) (lenOf pd_13 rfl) rfl (by show 2 * 0 + _ ≤ _; exact Nat.le_of_eq rfl) (hb hby at_183) (fun _ _ => ⟨rfl, e1, (by decide : 2 + 3 ≤ _), (by decide : 32 + 18 ≤ _)⟩)
      dsimp only [Pt.U, Pt.locs, Pt.cells, Pt.slots] at X42 l42 y42 z42 st42 hQ42
      subst l42 y42 z42
      obtain ⟨x42_y, x42_d, x42_kd, rfl, Nq42, Kq42, u42_0, u42_1, u42_2, u42_3, u42_4⟩ := hQ42
      have N42 := Fr.app N1 Nq42
      have f42_0 := own_Sta_keep j1_0 Kq42 ns0
      have f42_1 := own_Sta_keep j1_1 Kq42 ns0
      have f42_2 := own_Sta_keep j1_2 Kq42 ns0
      have f42_3 := own_Sta_keep j1_3 Kq42 ns0
      have f42_4 := own_Sta_keep j1_4 Kq42 ns0
      have f42_5 := own_Sta_keep j1_5 Kq42 ns0
      have f42_6 := own_Sta_keep j1_6 Kq42 ns0
      have f42_7 := j1_7.keep Kq42
      have f42_8 := j1_8.keep Kq42 nin0
      have f42_9 := j1_9.keep Kq42 nin0
      have f42_10 := j1_10.keep Kq42
      have f42_11 := j1_11.keep Kq42 nin0
      have f42_12 := j1_12.keep Kq42 nin0
      have f42_13 := j1_13.keep Kq42 nin0
      have f42_14 := j1_14.keep Kq42 nin0
      have f42_15 := j1_15.keep Kq42
      have f42_16 := j1_16.keep Kq42 nin0
      have f42_17 := j1_17.keep Kq42 nin0
      have f42_18 := j1_18.keep Kq42 nin0
      have f42_19 := j1_19.keep Kq42 nin0
      have f42_20 := j1_20.keep Kq42
      have f42_21 := j1_21.keep Kq42 nin0
      have f42_22 := j1_22.keep Kq42 nin0
      have f42_23 := j1_23.keep Kq42 nin0
      have f42_24 := j1_24.keep Kq42 nin0
      have f42_25 := j1_25.keep Kq42
      have f42_26 := j1_26.keep Kq42 nin0
      have f42_27 := j1_27.keep Kq42 nin0
      have f42_28 := j1_28.keep Kq42 nin0
      have C42 := C1.trans (CHr.keep Kq42 sf0 C1.1)
      have Ks42 := Nat.le_trans Ks1 Kq42.1
      have Zs42 : n0 ≤ T42.heap.size := Nat.le_trans Zs1 Kq42.1
      have ne42_va : va ≠ x42_y := Nat.ne_of_lt (Nat.lt_of_lt_of_le j1_7.lt u42_0)
      have ne42_s0 : s0 ≠ x42_y := Nat.ne_of_lt (Nat.lt_of_lt_of_le j1_9.lt u42_0)
      have ne42_k0a : k0a ≠ x42_y := Nat.ne_of_lt (Nat.lt_of_lt_of_le j1_10.lt u42_0)
      have ne42_k0b : k0b ≠ x42_y := Nat.ne_of_lt (Nat.lt_of_lt_of_le j1_13.lt u42_0)
      have ne42_s1 : s1 ≠ x42_y := Nat.ne_of_lt (Nat.lt_of_lt_of_le j1_14.lt u42_0)
      have ne42_k1a : k1a ≠ x42_y := Nat.ne_of_lt (Nat.lt_of_lt_of_le j1_15.lt u42_0)
      have ne42_k1b : k1b ≠ x42_y := Nat.ne_of_lt (Nat.lt_of_lt_of_le j1_18.lt u42_0)
      have ne42_s2 : s2 ≠ x42_y := Nat.ne_of_lt (Nat.lt_of_lt_of_le j1_19.lt u42_0)
      have ne42_k2a : k2a ≠ x42_y := Nat.ne_of_lt (Nat.lt_of_lt_of_le j1_20.lt u42_0)
      have ne42_k2b : k2b ≠ x42_y := Nat.ne_of_lt (Nat.lt_of_lt_of_le j1_23.lt u42_0)
      have ne42_s3 : s3 ≠ x42_y := Nat.ne_of_lt (Nat.lt_of_lt_of_le j1_24.lt u42_0)
      have ne42_k3a : k3a ≠ x42_y := Nat.ne_of_lt (Nat.lt_of_lt_of_le j1_25.lt u42_0)
      have ne42_k3b : k3b ≠ x42_y := Nat.ne_of_lt (Nat.lt_of_lt_of_le j1_28.lt u42_0)
      have gg42_y : n0 ≤ x42_y := Nat.le_trans Zs1 u42_0
      refine own_stH st42 ?_
      show own_GoesH _ _ _ _ _ _ _ _ _ T42 (mkF m 186 #[iv p1, iv p2, iv p3, iv p4, rv kwv, iv (7 : Int32), iv mu, iv (p3 &&& (7 : Int32)), iv mm, iv fi, iv c0, iv c1, iv c2, iv c3, iv c4, iv c5, iv c6, .unset, .unset, .unset] [(.ref x42_y)])
      refine own_stH (fun _ kk_ => XS.astore X42.here hx rfl (hb hby at_186) rfl rfl (l' := #[iv p1, iv p2, iv p3, iv p4, rv kwv, iv (7 : Int32), iv mu, iv (p3 &&& (7 : Int32)), iv mm, iv fi, iv c0, iv c1, iv c2, iv c3, iv c4, iv c5, iv c6, rv x42_y, .unset, .unset]) rfl (XS.aload X42.here hx rfl (hb hby at_188) rfl rfl kk_)) ?_
      show own_GoesH _ _ _ _ _ _ _ _ _ T42 (mkF m 190 #[iv p1, iv p2, iv p3, iv p4, rv kwv, iv (7 : Int32), iv mu, iv (p3 &&& (7 : Int32)), iv mm, iv fi, iv c0, iv c1, iv c2, iv c3, iv c4, iv c5, iv c6, rv x42_y, .unset, .unset] [(.ref x42_y)])
      exact J190 _ _ _ _ _ ((7 : Int32)) (x42_y) (x42_d) (x42_kd) ((7 : Int32)) ([(.int (own_by c0)), (.int (own_by c1)), (.int (own_by c2)), (.int (own_by c3)), (.int (own_by c4)), (.int (own_by c5)), (.int (own_by c6))]) ([c0, c1, c2, c3, c4, c5, c6]) (X42.more (by decide) (by decide)) rfl N42 Zs42 hS1 Ks42 hZ hown C42 f42_0 f42_1 f42_2 f42_3 f42_4 f42_5 f42_6 f42_7 f42_8 f42_9 f42_10 f42_11 f42_12 f42_13 f42_14 f42_15 f42_16 f42_17 f42_18 f42_19 f42_20 f42_21 f42_22 f42_23 f42_24 f42_25 f42_26 f42_27 f42_28 u42_1 u42_2 u42_3 u42_4 (own_okn (us := [c0, c1, c2, c3, c4, c5, c6]) (List.forall_mem_cons.mpr ⟨j1_29, (List.forall_mem_cons.mpr ⟨j1_30, (List.forall_mem_cons.mpr ⟨j1_31, (List.forall_mem_cons.mpr ⟨j1_32, (List.forall_mem_cons.mpr ⟨j1_33, (List.forall_mem_cons.mpr ⟨j1_34, (List.forall_mem_cons.mpr ⟨j1_35, (fun _ q => nomatch q)⟩)⟩)⟩)⟩)⟩)⟩)⟩) (Nat.le_of_ble_eq_true rfl))
  rcases hk4 with rfl | rfl | rfl | rfl
  · show own_GoesH _ _ _ _ _ _ _ _ _ s₁ (mkF m 3 #[iv p1, iv p2, iv p3, iv p4, .unset, .unset, .unset, .unset, .unset, .unset, .unset, .unset, .unset, .unset, .unset, .unset, .unset, .unset, .unset, .unset] [(.int (0 : Int32))])
    obtain ⟨_, _, ⟨T2, L2, k2, n2⟩, -, X2, hSn2, hgn2, ⟨Lc2, hQ2, l2, y2, z2, hC2⟩, st2⟩ := callSS X0 hx (y := yy8) hown (mvT hZ (own_w hw 0 rfl)) (mvT hZ (own_w hw 1 rfl)) (mvT hZ (own_w hw 2 rfl)) (mvT hZ (own_w hw 3 rfl)) (by decide) (own_backH (sl := []) (W := 0) (rm1_0 l Z a0 hw [] hEL  h0 n0 Z0) hZ (own_w hw 3 rfl) (own_w hw 2 rfl) (by decide) (by decide) hEL C0.1 own_sn) (g := (mkF m 3 #[iv p1, iv p2, iv p3, iv p4, .unset, .unset, .unset, .unset, .unset, .unset, .unset, .unset, .unset, .unset, .unset, .unset, .unset, .unset, .unset, .unset] [(.int (0 : Int32))])) rfl (by rw [hml]; rfl) (argsL := [(.int (0 : Int32))]) (rest := []) (lenOf pd_11 rfl) rfl (by show 2 * 0 + _ ≤ _; exact Nat.le_of_eq rfl) (hb hby at_3) (fun _ _ => ⟨rfl, e0, (by decide : 0 + 2 ≤ _), (by decide : 0 + 16 ≤ _)⟩)
    dsimp only [Pt.U, Pt.locs, Pt.cells, Pt.slots] at X2 l2 y2 z2 st2 hQ2 hSn2 hgn2 hC2
    subst l2 y2 z2
    have X2 : Stand p l e room_1 (s.setVm T2.vm) m _ below meth c T2 _ _ _ := X2
    have hS2 := foldS hS0 (by rw [e0]; exact Z0) hSn2 hgn2
    have hown : (s.setVm T2.vm).vm.findClass "com/example/majra/majra/lang/ParameterKindNamedPinLaw" = some m.cls := by rw [show (s.setVm T2.vm).vm = T2.vm from rfl, hSn2.1.alike.findClass]; exact hown
    obtain ⟨x2_y, x2_d, x2_kd, rfl, Nq2, Kq2, u2_0, u2_1, u2_2, u2_3⟩ := hQ2
    have N2 := Fr.app N0 Nq2
    have hZ : Z.Warmed39 (s.setVm T2.vm).vm := State.Warmed39.trans (t := (s.setVm s.vm)) hZ hSn2.1
    have f2_0 := own_Sta_keep p_0 Kq2 ns0
    have f2_1 := own_Sta_keep p_2 Kq2 ns0
    have f2_2 := own_Sta_keep p_4 Kq2 ns0
    have f2_3 := own_Sta_keep p_5 Kq2 ns0
    have f2_4 := own_Sta_keep p_6 Kq2 ns0
    have f2_5 := own_Sta_keep p_7 Kq2 ns0
    have f2_6 := own_Sta_keep p_8 Kq2 ns0
    have f2_7 := p_9.keep Kq2
    have f2_8 := p_10.keep Kq2 nin0
    have f2_9 := p_11.keep Kq2 nin0
    have f2_10 := p_12.keep Kq2
    have f2_11 := p_13.keep Kq2 nin0
    have f2_12 := p_14.keep Kq2 nin0
    have f2_13 := p_15.keep Kq2 nin0
    have f2_14 := p_16.keep Kq2 nin0
    have f2_15 := p_17.keep Kq2
    have f2_16 := p_18.keep Kq2 nin0
    have f2_17 := p_19.keep Kq2 nin0
    have f2_18 := p_20.keep Kq2 nin0
    have f2_19 := p_21.keep Kq2 nin0
    have f2_20 := p_22.keep Kq2
    have f2_21 := p_23.keep Kq2 nin0
    have f2_22 := p_24.keep Kq2 nin0
    have f2_23 := p_25.keep Kq2 nin0
    have f2_24 := p_26.keep Kq2 nin0
    have f2_25 := p_27.keep Kq2
    have f2_26 := p_28.keep Kq2 nin0
    have f2_27 := p_29.keep Kq2 nin0
    have f2_28 := p_30.keep Kq2 nin0
    have C2 := C0.trans hC2
    have Ks2 := Nat.le_trans Z0 Kq2.1
    have Zs2 : n0 ≤ T2.heap.size := Nat.le_trans Z0 Kq2.1
    refine own_stH (fun _ kk_ => st2.trans kk_) ?_
    show own_GoesH _ _ _ _ _ _ _ _ _ T2 (mkF m 6 #[iv p1, iv p2, iv p3, iv p4, .unset, .unset, .unset, .unset, .unset, .unset, .unset, .unset, .unset, .unset, .unset, .unset, .unset, .unset, .unset, .unset] [(.ref x2_y)])
    refine own_stH (fun _ kk_ => XS.astore X2.here hx rfl (hb hby at_6) rfl rfl (l' := #[iv p1, iv p2, iv p3, iv p4, rv x2_y, .unset, .unset, .unset, .unset, .unset, .unset, .unset, .unset, .unset, .unset, .unset, .unset, .unset, .unset, .unset]) rfl (XS.iloadN X2.here hx rfl (hb hby at_8) rfl (XS.bipush X2.here hx rfl (hb hby at_9) (XS.iand X2.here hx rfl (hb hby at_11) rfl (XS.istore X2.here hx rfl (hb hby at_12) rfl (l' := #[iv p1, iv p2, iv p3, iv p4, rv x2_y, iv (p2 &&& (7 : Int32)), .unset, .unset, .unset, .unset, .unset, .unset, .unset, .unset, .unset, .unset, .unset, .unset, .unset, .unset]) rfl (XS.iloadN X2.here hx rfl (hb hby at_14) rfl (XS.iconst X2.here hx rfl (hb hby at_15) (XS.iushr X2.here hx rfl (hb hby at_16) rfl (XS.iconst X2.here hx rfl (hb hby at_17) (XS.iand X2.here hx rfl (hb hby at_18) rfl kk_)))))))))) ?_
    show own_GoesH _ _ _ _ _ _ _ _ _ T2 (mkF m 19 #[iv p1, iv p2, iv p3, iv p4, rv x2_y, iv (p2 &&& (7 : Int32)), .unset, .unset, .unset, .unset, .unset, .unset, .unset, .unset, .unset, .unset, .unset, .unset, .unset, .unset] [(.int (((p1.toUInt32 >>> ((2 : Int32) &&& 31).toUInt32).toInt32) &&& (1 : Int32)))])
    have J27 : ∀ (mu : Int32), own_GoesH p e below s Z consts_1 (Q0 Z p1 p2 p3 p4 cs f9 va vk s0 s1 s2 s3 k0a k0b k0c k1a k1b k1c k2a k2b k2c k3a k3b k3c h0 n0) 32 5248 T2 (mkF m 27 #[iv p1, iv p2, iv p3, iv p4, rv x2_y, iv (p2 &&& (7 : Int32)), .unset, .unset, .unset, .unset, .unset, .unset, .unset, .unset, .unset, .unset, .unset, .unset, .unset, .unset] [(.int mu)]) := by
      intro mu
      show own_GoesH _ _ _ _ _ _ _ _ _ T2 (mkF m 27 #[iv p1, iv p2, iv p3, iv p4, rv x2_y, iv (p2 &&& (7 : Int32)), .unset, .unset, .unset, .unset, .unset, .unset, .unset, .unset, .unset, .unset, .unset, .unset, .unset, .unset] [(.int mu)])
      refine own_stH (fun _ kk_ => XS.istore X2.here hx rfl (hb hby at_27) rfl (l' := #[iv p1, iv p2, iv p3, iv p4, rv x2_y, iv (p2 &&& (7 : Int32)), iv mu, .unset, .unset, .unset, .unset, .unset, .unset, .unset, .unset, .unset, .unset, .unset, .unset, .unset]) rfl (XS.iloadN X2.here hx rfl (hb hby at_29) rfl (XS.bipush X2.here hx rfl (hb hby at_30) (XS.iand X2.here hx rfl (hb hby at_32) rfl (XS.istore X2.here hx rfl (hb hby at_33) rfl (l' := #[iv p1, iv p2, iv p3, iv p4, rv x2_y, iv (p2 &&& (7 : Int32)), iv mu, iv (p3 &&& (7 : Int32)), .unset, .unset, .unset, .unset, .unset, .unset, .unset, .unset, .unset, .unset, .unset, .unset]) rfl (XS.iloadN X2.here hx rfl (hb hby at_35) rfl (XS.sipush X2.here hx rfl (hb hby at_36) (XS.iand X2.here hx rfl (hb hby at_39) rfl (XS.i2c X2.here hx rfl (hb hby at_40) rfl (XS.istore X2.here hx rfl (hb hby at_41) rfl (l' := #[iv p1, iv p2, iv p3, iv p4, rv x2_y, iv (p2 &&& (7 : Int32)), iv mu, iv (p3 &&& (7 : Int32)), iv ((p4 &&& (255 : Int32)).toUInt32.toUInt16.toUInt32.toInt32), .unset, .unset, .unset, .unset, .unset, .unset, .unset, .unset, .unset, .unset, .unset]) rfl kk_)))))))))) ?_
      show own_GoesH _ _ _ _ _ _ _ _ _ T2 (mkF m 43 #[iv p1, iv p2, iv p3, iv p4, rv x2_y, iv (p2 &&& (7 : Int32)), iv mu, iv (p3 &&& (7 : Int32)), iv ((p4 &&& (255 : Int32)).toUInt32.toUInt16.toUInt32.toInt32), .unset, .unset, .unset, .unset, .unset, .unset, .unset, .unset, .unset, .unset, .unset] [])
      have him := own_inv p4
      obtain ⟨mm, h_mm⟩ : ∃ z, z = ((p4 &&& (255 : Int32)).toUInt32.toUInt16.toUInt32.toInt32) := ⟨_, rfl⟩
      rw [← h_mm]
      show own_GoesH _ _ _ _ _ _ _ _ _ T2 (mkF m 43 #[iv p1, iv p2, iv p3, iv p4, rv x2_y, iv (p2 &&& (7 : Int32)), iv mu, iv (p3 &&& (7 : Int32)), iv mm, .unset, .unset, .unset, .unset, .unset, .unset, .unset, .unset, .unset, .unset, .unset] [])
      rw [← h_mm] at him
      refine own_stH (fun _ kk_ => XS.iloadN X2.here hx rfl (hb hby at_43) rfl (XS.bipush X2.here hx rfl (hb hby at_44) (XS.iushr X2.here hx rfl (hb hby at_46) rfl (XS.sipush X2.here hx rfl (hb hby at_47) (XS.iand X2.here hx rfl (hb hby at_50) rfl (XS.i2c X2.here hx rfl (hb hby at_51) rfl (XS.istore X2.here hx rfl (hb hby at_52) rfl (l' := #[iv p1, iv p2, iv p3, iv p4, rv x2_y, iv (p2 &&& (7 : Int32)), iv mu, iv (p3 &&& (7 : Int32)), iv mm, iv ((((p4.toUInt32 >>> ((8 : Int32) &&& 31).toUInt32).toInt32) &&& (255 : Int32)).toUInt32.toUInt16.toUInt32.toInt32), .unset, .unset, .unset, .unset, .unset, .unset, .unset, .unset, .unset, .unset]) rfl kk_))))))) ?_
      show own_GoesH _ _ _ _ _ _ _ _ _ T2 (mkF m 54 #[iv p1, iv p2, iv p3, iv p4, rv x2_y, iv (p2 &&& (7 : Int32)), iv mu, iv (p3 &&& (7 : Int32)), iv mm, iv ((((p4.toUInt32 >>> ((8 : Int32) &&& 31).toUInt32).toInt32) &&& (255 : Int32)).toUInt32.toUInt16.toUInt32.toInt32), .unset, .unset, .unset, .unset, .unset, .unset, .unset, .unset, .unset, .unset] [])
      have hif := own_inv ((p4.toUInt32 >>> ((8 : Int32) &&& 31).toUInt32).toInt32)
      obtain ⟨fi, h_fi⟩ : ∃ z, z = ((((p4.toUInt32 >>> ((8 : Int32) &&& 31).toUInt32).toInt32) &&& (255 : Int32)).toUInt32.toUInt16.toUInt32.toInt32) := ⟨_, rfl⟩
      rw [← h_fi]
      show own_GoesH _ _ _ _ _ _ _ _ _ T2 (mkF m 54 #[iv p1, iv p2, iv p3, iv p4, rv x2_y, iv (p2 &&& (7 : Int32)), iv mu, iv (p3 &&& (7 : Int32)), iv mm, iv fi, .unset, .unset, .unset, .unset, .unset, .unset, .unset, .unset, .unset, .unset] [])
      rw [← h_fi] at hif
      refine own_stH (fun _ kk_ => XS.aload X2.here hx rfl (hb hby at_54) rfl rfl (XS.iconst X2.here hx rfl (hb hby at_56) (XS.iload X2.here hx rfl (hb hby at_57) rfl (XS.iload X2.here hx rfl (hb hby at_59) rfl (XS.iload X2.here hx rfl (hb hby at_61) rfl (XS.iload X2.here hx rfl (hb hby at_63) rfl kk_)))))) ?_
      show own_GoesH _ _ _ _ _ _ _ _ _ T2 (mkF m 65 #[iv p1, iv p2, iv p3, iv p4, rv x2_y, iv (p2 &&& (7 : Int32)), iv mu, iv (p3 &&& (7 : Int32)), iv mm, iv fi, .unset, .unset, .unset, .unset, .unset, .unset, .unset, .unset, .unset, .unset] [(.int fi), (.int mm), (.int (p3 &&& (7 : Int32))), (.int mu), (.int (0 : Int32)), (.ref x2_y)])
      obtain ⟨_, _, ⟨T3, L3, k3, n3⟩, -, X3, ⟨Lc3, hQ3, l3, y3, z3⟩, st3⟩ := Jvm.LawKit.callS X2 hx (y := yy7) hown (mvT hZ (own_w hw 12 rfl)) (mvT hZ (own_w hw 13 rfl)) (mvT hZ (own_w hw 2 rfl)) (mvT hZ (own_w hw 14 rfl)) (by decide) (backOf (W := 0) (rm2 l Z a0 hw [] (x2_y) ((0 : Int32)) (mu) ((p3 &&& (7 : Int32))) (mm) (fi) (x2_d) (x2_kd) ((3 : Int32)) ([(.int (105 : Int32)), (.int (110 : Int32)), (.int (116 : Int32))]) (cs) f9 T2.heap n0 Zs2 u2_0 u2_1 u2_2 u2_3 (by simp) f2_0 (by assumption) f2_1 (by assumption) (by decide) him hif) hZ (own_w hw 14 rfl) (own_w hw 2 rfl) (by decide) (by decide)) (g := (mkF m 65 #[iv p1, iv p2, iv p3, iv p4, rv x2_y, iv (p2 &&& (7 : Int32)), iv mu, iv (p3 &&& (7 : Int32)), iv mm, iv fi, .unset, .unset, .unset, .unset, .unset, .unset, .unset, .unset, .unset, .unset] [(.int fi), (.int mm), (.int (p3 &&& (7 : Int32))), (.int mu), (.int (0 : Int32)), (.ref x2_y)])) rfl (by rw [hml]; rfl) (argsL := [(.ref x2_y), (.int (0 : Int32)), (.int mu), (.int (p3 &&& (7 : Int32))), (.int mm), (.int fi)]) (rest := []) (lenOf pd_12 rfl) rfl (by show 2 * 0 + _ ≤ _; exact Nat.le_of_eq rfl) (hb hby at_65) (fun _ _ => ⟨rfl, rfl, (by decide : 2 + 0 ≤ _), (by decide : 16 + 0 ≤ _)⟩)
      dsimp only [Pt.U, Pt.locs, Pt.cells, Pt.slots] at X3 l3 y3 z3 st3 hQ3
      subst l3 y3 z3
      obtain ⟨x3_r, rfl, Nq3, eq3, u3_0⟩ := hQ3
      have N3 := Fr.app N2 Nq3
      refine own_stH st3 ?_
      show own_GoesH _ _ _ _ _ _ _ _ _ T3 (mkF m 68 #[iv p1, iv p2, iv p3, iv p4, rv x2_y, iv (p2 &&& (7 : Int32)), iv mu, iv (p3 &&& (7 : Int32)), iv mm, iv fi, .unset, .unset, .unset, .unset, .unset, .unset, .unset, .unset, .unset, .unset] [(.int x3_r)])
      refine own_stH (fun _ kk_ => XS.istore X3.here hx rfl (hb hby at_68) rfl (l' := #[iv p1, iv p2, iv p3, iv p4, rv x2_y, iv (p2 &&& (7 : Int32)), iv mu, iv (p3 &&& (7 : Int32)), iv mm, iv fi, iv x3_r, .unset, .unset, .unset, .unset, .unset, .unset, .unset, .unset, .unset]) rfl (XS.aload X3.here hx rfl (hb hby at_70) rfl rfl (XS.iconst X3.here hx rfl (hb hby at_72) (XS.iload X3.here hx rfl (hb hby at_73) rfl (XS.iload X3.here hx rfl (hb hby at_75) rfl (XS.iload X3.here hx rfl (hb hby at_77) rfl (XS.iload X3.here hx rfl (hb hby at_79) rfl kk_))))))) ?_
      show own_GoesH _ _ _ _ _ _ _ _ _ T3 (mkF m 81 #[iv p1, iv p2, iv p3, iv p4, rv x2_y, iv (p2 &&& (7 : Int32)), iv mu, iv (p3 &&& (7 : Int32)), iv mm, iv fi, iv x3_r, .unset, .unset, .unset, .unset, .unset, .unset, .unset, .unset, .unset] [(.int fi), (.int mm), (.int (p3 &&& (7 : Int32))), (.int mu), (.int (1 : Int32)), (.ref x2_y)])
      obtain ⟨_, _, ⟨T4, L4, k4, n4⟩, -, X4, ⟨Lc4, hQ4, l4, y4, z4⟩, st4⟩ := Jvm.LawKit.callS X3 hx (y := yy7) hown (mvT hZ (own_w hw 12 rfl)) (mvT hZ (own_w hw 13 rfl)) (mvT hZ (own_w hw 2 rfl)) (mvT hZ (own_w hw 14 rfl)) (by decide) (backOf (W := 0) (rm2 l Z a0 hw [] (x2_y) ((1 : Int32)) (mu) ((p3 &&& (7 : Int32))) (mm) (fi) (x2_d) (x2_kd) ((3 : Int32)) ([(.int (105 : Int32)), (.int (110 : Int32)), (.int (116 : Int32))]) (cs) f9 T2.heap n0 Zs2 u2_0 u2_1 u2_2 u2_3 (by simp) f2_0 (by assumption) f2_1 (by assumption) (by decide) him hif) hZ (own_w hw 14 rfl) (own_w hw 2 rfl) (by decide) (by decide)) (g := (mkF m 81 #[iv p1, iv p2, iv p3, iv p4, rv x2_y, iv (p2 &&& (7 : Int32)), iv mu, iv (p3 &&& (7 : Int32)), iv mm, iv fi, iv x3_r, .unset, .unset, .unset, .unset, .unset, .unset, .unset, .unset, .unset] [(.int fi), (.int mm), (.int (p3 &&& (7 : Int32))), (.int mu), (.int (1 : Int32)), (.ref x2_y)])) rfl (by rw [hml]; rfl) (argsL := [(.ref x2_y), (.int (1 : Int32)), (.int mu), (.int (p3 &&& (7 : Int32))), (.int mm), (.int fi)]) (rest := []) (lenOf pd_12 rfl) rfl (by show 2 * 0 + _ ≤ _; exact Nat.le_of_eq rfl) (hb hby at_81) (fun _ _ => ⟨rfl, eq3, (by decide : 2 + 0 ≤ _), (by decide : 16 + 0 ≤ _)⟩)
      dsimp only [Pt.U, Pt.locs, Pt.cells, Pt.slots] at X4 l4 y4 z4 st4 hQ4
      subst l4 y4 z4
      obtain ⟨x4_r, rfl, Nq4, eq4, u4_0⟩ := hQ4
      have N4 := Fr.app N3 Nq4
      refine own_stH st4 ?_
      show own_GoesH _ _ _ _ _ _ _ _ _ T4 (mkF m 84 #[iv p1, iv p2, iv p3, iv p4, rv x2_y, iv (p2 &&& (7 : Int32)), iv mu, iv (p3 &&& (7 : Int32)), iv mm, iv fi, iv x3_r, .unset, .unset, .unset, .unset, .unset, .unset, .unset, .unset, .unset] [(.int x4_r)])
      refine own_stH (fun _ kk_ => XS.istore X4.here hx rfl (hb hby at_84) rfl (l' := #[iv p1, iv p2, iv p3, iv p4, rv x2_y, iv (p2 &&& (7 : Int32)), iv mu, iv (p3 &&& (7 : Int32)), iv mm, iv fi, iv x3_r, iv x4_r, .unset, .unset, .unset, .unset, .unset, .unset, .unset, .unset]) rfl (XS.aload X4.here hx rfl (hb hby at_86) rfl rfl (XS.iconst X4.here hx rfl (hb hby at_88) (XS.iload X4.here hx rfl (hb hby at_89) rfl (XS.iload X4.here hx rfl (hb hby at_91) rfl (XS.iload X4.here hx rfl (hb hby at_93) rfl (XS.iload X4.here hx rfl (hb hby at_95) rfl kk_))))))) ?_
      show own_GoesH _ _ _ _ _ _ _ _ _ T4 (mkF m 97 #[iv p1, iv p2, iv p3, iv p4, rv x2_y, iv (p2 &&& (7 : Int32)), iv mu, iv (p3 &&& (7 : Int32)), iv mm, iv fi, iv x3_r, iv x4_r, .unset, .unset, .unset, .unset, .unset, .unset, .unset, .unset] [(.int fi), (.int mm), (.int (p3 &&& (7 : Int32))), (.int mu), (.int (2 : Int32)), (.ref x2_y)])
      obtain ⟨_, _, ⟨T5, L5, k5, n5⟩, -, X5, ⟨Lc5, hQ5, l5, y5, z5⟩, st5⟩ := Jvm.LawKit.callS X4 hx (y := yy7) hown (mvT hZ (own_w hw 12 rfl)) (mvT hZ (own_w hw 13 rfl)) (mvT hZ (own_w hw 2 rfl)) (mvT hZ (own_w hw 14 rfl)) (by decide) (backOf (W := 0) (rm2 l Z a0 hw [] (x2_y) ((2 : Int32)) (mu) ((p3 &&& (7 : Int32))) (mm) (fi) (x2_d) (x2_kd) ((3 : Int32)) ([(.int (105 : Int32)), (.int (110 : Int32)), (.int (116 : Int32))]) (cs) f9 T2.heap n0 Zs2 u2_0 u2_1 u2_2 u2_3 (by simp) f2_0 (by assumption) f2_1 (by assumption) (by decide) him hif) hZ (own_w hw 14 rfl) (own_w hw 2 rfl) (by decide) (by decide)) (g := (mkF m 97 #[iv p1, iv p2, iv p3, iv p4, rv x2_y, iv (p2 &&& (7 : Int32)), iv mu, iv (p3 &&& (7 : Int32)), iv mm, iv fi, iv x3_r, iv x4_r, .unset, .unset, .unset, .unset, .unset, .unset, .unset, .unset] [(.int fi), (.int mm), (.int (p3 &&& (7 : Int32))), (.int mu), (.int (2 : Int32)), (.ref x2_y)])) rfl (by rw [hml]; rfl) (argsL := [(.ref x2_y), (.int (2 : Int32)), (.int mu), (.int (p3 &&& (7 : Int32))), (.int mm), (.int fi)]) (rest := []) (lenOf pd_12 rfl) rfl (by show 2 * 0 + _ ≤ _; exact Nat.le_of_eq rfl) (hb hby at_97) (fun _ _ => ⟨rfl, eq4, (by decide : 2 + 0 ≤ _), (by decide : 16 + 0 ≤ _)⟩)
      dsimp only [Pt.U, Pt.locs, Pt.cells, Pt.slots] at X5 l5 y5 z5 st5 hQ5
      subst l5 y5 z5
      obtain ⟨x5_r, rfl, Nq5, eq5, u5_0⟩ := hQ5
      have N5 := Fr.app N4 Nq5
      refine own_stH st5 ?_
      show own_GoesH _ _ _ _ _ _ _ _ _ T5 (mkF m 100 #[iv p1, iv p2, iv p3, iv p4, rv x2_y, iv (p2 &&& (7 : Int32)), iv mu, iv (p3 &&& (7 : Int32)), iv mm, iv fi, iv x3_r, iv x4_r, .unset, .unset, .unset, .unset, .unset, .unset, .unset, .unset] [(.int x5_r)])
      refine own_stH (fun _ kk_ => XS.istore X5.here hx rfl (hb hby at_100) rfl (l' := #[iv p1, iv p2, iv p3, iv p4, rv x2_y, iv (p2 &&& (7 : Int32)), iv mu, iv (p3 &&& (7 : Int32)), iv mm, iv fi, iv x3_r, iv x4_r, iv x5_r, .unset, .unset, .unset, .unset, .unset, .unset, .unset]) rfl (XS.aload X5.here hx rfl (hb hby at_102) rfl rfl (XS.iconst X5.here hx rfl (hb hby at_104) (XS.iload X5.here hx rfl (hb hby at_105) rfl (XS.iload X5.here hx rfl (hb hby at_107) rfl (XS.iload X5.here hx rfl (hb hby at_109) rfl (XS.iload X5.here hx rfl (hb hby at_111) rfl kk_))))))) ?_
      show own_GoesH _ _ _ _ _ _ _ _ _ T5 (mkF m 113 #[iv p1, iv p2, iv p3, iv p4, rv x2_y, iv (p2 &&& (7 : Int32)), iv mu, iv (p3 &&& (7 : Int32)), iv mm, iv fi, iv x3_r, iv x4_r, iv x5_r, .unset, .unset, .unset, .unset, .unset, .unset, .unset] [(.int fi), (.int mm), (.int (p3 &&& (7 : Int32))), (.int mu), (.int (3 : Int32)), (.ref x2_y)])
      obtain ⟨_, _, ⟨T6, L6, k6, n6⟩, -, X6, ⟨Lc6, hQ6, l6, y6, z6⟩, st6⟩ := Jvm.LawKit.callS X5 hx (y := yy7) hown (mvT hZ (own_w hw 12 rfl)) (mvT hZ (own_w hw 13 rfl)) (mvT hZ (own_w hw 2 rfl)) (mvT hZ (own_w hw 14 rfl)) (by decide) (backOf (W := 0) (rm2 l Z a0 hw [] (x2_y) ((3 : Int32)) (mu) ((p3 &&& (7 : Int32))) (mm) (fi) (x2_d) (x2_kd) ((3 : Int32)) ([(.int (105 : Int32)), (.int (110 : Int32)), (.int (116 : Int32))]) (cs) f9 T2.heap n0 Zs2 u2_0 u2_1 u2_2 u2_3 (by simp) f2_0 (by assumption) f2_1 (by assumption) (by decide) him hif) hZ (own_w hw 14 rfl) (own_w hw 2 rfl) (by decide) (by decide)) (g := (mkF m 113 #[iv p1, iv p2, iv p3, iv p4, rv x2_y, iv (p2 &&& (7 : Int32)), iv mu, iv (p3 &&& (7 : Int32)), iv mm, iv fi, iv x3_r, iv x4_r, iv x5_r, .unset, .unset, .unset, .unset, .unset, .unset, .unset] [(.int fi), (.int mm), (.int (p3 &&& (7 : Int32))), (.int mu), (.int (3 : Int32)), (.ref x2_y)])) rfl (by rw [hml]; rfl) (argsL := [(.ref x2_y), (.int (3 : Int32)), (.int mu), (.int (p3 &&& (7 : Int32))), (.int mm), (.int fi)]) (rest := []) (lenOf pd_12 rfl) rfl (by show 2 * 0 + _ ≤ _; exact Nat.le_of_eq rfl) (hb hby at_113) (fun _ _ => ⟨rfl, eq5, (by decide : 2 + 0 ≤ _), (by decide : 16 + 0 ≤ _)⟩)
      dsimp only [Pt.U, Pt.locs, Pt.cells, Pt.slots] at X6 l6 y6 z6 st6 hQ6
      subst l6 y6 z6
      obtain ⟨x6_r, rfl, Nq6, eq6, u6_0⟩ := hQ6
      have N6 := Fr.app N5 Nq6
      refine own_stH st6 ?_
      show own_GoesH _ _ _ _ _ _ _ _ _ T6 (mkF m 116 #[iv p1, iv p2, iv p3, iv p4, rv x2_y, iv (p2 &&& (7 : Int32)), iv mu, iv (p3 &&& (7 : Int32)), iv mm, iv fi, iv x3_r, iv x4_r, iv x5_r, .unset, .unset, .unset, .unset, .unset, .unset, .unset] [(.int x6_r)])
      refine own_stH (fun _ kk_ => XS.istore X6.here hx rfl (hb hby at_116) rfl (l' := #[iv p1, iv p2, iv p3, iv p4, rv x2_y, iv (p2 &&& (7 : Int32)), iv mu, iv (p3 &&& (7 : Int32)), iv mm, iv fi, iv x3_r, iv x4_r, iv x5_r, iv x6_r, .unset, .unset, .unset, .unset, .unset, .unset]) rfl (XS.aload X6.here hx rfl (hb hby at_118) rfl rfl (XS.iconst X6.here hx rfl (hb hby at_120) (XS.iload X6.here hx rfl (hb hby at_121) rfl (XS.iload X6.here hx rfl (hb hby at_123) rfl (XS.iload X6.here hx rfl (hb hby at_125) rfl (XS.iload X6.here hx rfl (hb hby at_127) rfl kk_))))))) ?_
      show own_GoesH _ _ _ _ _ _ _ _ _ T6 (mkF m 129 #[iv p1, iv p2, iv p3, iv p4, rv x2_y, iv (p2 &&& (7 : Int32)), iv mu, iv (p3 &&& (7 : Int32)), iv mm, iv fi, iv x3_r, iv x4_r, iv x5_r, iv x6_r, .unset, .unset, .unset, .unset, .unset, .unset] [(.int fi), (.int mm), (.int (p3 &&& (7 : Int32))), (.int mu), (.int (4 : Int32)), (.ref x2_y)])
      obtain ⟨_, _, ⟨T7, L7, k7, n7⟩, -, X7, ⟨Lc7, hQ7, l7, y7, z7⟩, st7⟩ := Jvm.LawKit.callS X6 hx (y := yy7) hown (mvT hZ (own_w hw 12 rfl)) (mvT hZ (own_w hw 13 rfl)) (mvT hZ (own_w hw 2 rfl)) (mvT hZ (own_w hw 14 rfl)) (by decide) (backOf (W := 0) (rm2 l Z a0 hw [] (x2_y) ((4 : Int32)) (mu) ((p3 &&& (7 : Int32))) (mm) (fi) (x2_d) (x2_kd) ((3 : Int32)) ([(.int (105 : Int32)), (.int (110 : Int32)), (.int (116 : Int32))]) (cs) f9 T2.heap n0 Zs2 u2_0 u2_1 u2_2 u2_3 (by simp) f2_0 (by assumption) f2_1 (by assumption) (by decide) him hif) hZ (own_w hw 14 rfl) (own_w hw 2 rfl) (by decide) (by decide)) (g := (mkF m 129 #[iv p1, iv p2, iv p3, iv p4, rv x2_y, iv (p2 &&& (7 : Int32)), iv mu, iv (p3 &&& (7 : Int32)), iv mm, iv fi, iv x3_r, iv x4_r, iv x5_r, iv x6_r, .unset, .unset, .unset, .unset, .unset, .unset] [(.int fi), (.int mm), (.int (p3 &&& (7 : Int32))), (.int mu), (.int (4 : Int32)), (.ref x2_y)])) rfl (by rw [hml]; rfl) (argsL := [(.ref x2_y), (.int (4 : Int32)), (.int mu), (.int (p3 &&& (7 : Int32))), (.int mm), (.int fi)]) (rest := []) (lenOf pd_12 rfl) rfl (by show 2 * 0 + _ ≤ _; exact Nat.le_of_eq rfl) (hb hby at_129) (fun _ _ => ⟨rfl, eq6, (by decide : 2 + 0 ≤ _), (by decide : 16 + 0 ≤ _)⟩)
      dsimp only [Pt.U, Pt.locs, Pt.cells, Pt.slots] at X7 l7 y7 z7 st7 hQ7
      subst l7 y7 z7
      obtain ⟨x7_r, rfl, Nq7, eq7, u7_0⟩ := hQ7
      have N7 := Fr.app N6 Nq7
      refine own_stH st7 ?_
      show own_GoesH _ _ _ _ _ _ _ _ _ T7 (mkF m 132 #[iv p1, iv p2, iv p3, iv p4, rv x2_y, iv (p2 &&& (7 : Int32)), iv mu, iv (p3 &&& (7 : Int32)), iv mm, iv fi, iv x3_r, iv x4_r, iv x5_r, iv x6_r, .unset, .unset, .unset, .unset, .unset, .unset] [(.int x7_r)])
      refine own_stH (fun _ kk_ => XS.istore X7.here hx rfl (hb hby at_132) rfl (l' := #[iv p1, iv p2, iv p3, iv p4, rv x2_y, iv (p2 &&& (7 : Int32)), iv mu, iv (p3 &&& (7 : Int32)), iv mm, iv fi, iv x3_r, iv x4_r, iv x5_r, iv x6_r, iv x7_r, .unset, .unset, .unset, .unset, .unset]) rfl (XS.aload X7.here hx rfl (hb hby at_134) rfl rfl (XS.iconst X7.here hx rfl (hb hby at_136) (XS.iload X7.here hx rfl (hb hby at_137) rfl (XS.iload X7.here hx rfl (hb hby at_139) rfl (XS.iload X7.here hx rfl (hb hby at_141) rfl (XS.iload X7.here hx rfl (hb hby at_143) rfl kk_))))))) ?_
      show own_GoesH _ _ _ _ _ _ _ _ _ T7 (mkF m 145 #[iv p1, iv p2, iv p3, iv p4, rv x2_y, iv (p2 &&& (7 : Int32)), iv mu, iv (p3 &&& (7 : Int32)), iv mm, iv fi, iv x3_r, iv x4_r, iv x5_r, iv x6_r, iv x7_r, .unset, .unset, .unset, .unset, .unset] [(.int fi), (.int mm), (.int (p3 &&& (7 : Int32))), (.int mu), (.int (5 : Int32)), (.ref x2_y)])
      obtain ⟨_, _, ⟨T8, L8, k8, n8⟩, -, X8, ⟨Lc8, hQ8, l8, y8, z8⟩, st8⟩ := Jvm.LawKit.callS X7 hx (y := yy7) hown (mvT hZ (own_w hw 12 rfl)) (mvT hZ (own_w hw 13 rfl)) (mvT hZ (own_w hw 2 rfl)) (mvT hZ (own_w hw 14 rfl)) (by decide) (backOf (W := 0) (rm2 l Z a0 hw [] (x2_y) ((5 : Int32)) (mu) ((p3 &&& (7 : Int32))) (mm) (fi) (x2_d) (x2_kd) ((3 : Int32)) ([(.int (105 : Int32)), (.int (110 : Int32)), (.int (116 : Int32))]) (cs) f9 T2.heap n0 Zs2 u2_0 u2_1 u2_2 u2_3 (by simp) f2_0 (by assumption) f2_1 (by assumption) (by decide) him hif) hZ (own_w hw 14 rfl) (own_w hw 2 rfl) (by decide) (by decide)) (g := (mkF m 145 #[iv p1, iv p2, iv p3, iv p4, rv x2_y, iv (p2 &&& (7 : Int32)), iv mu, iv (p3 &&& (7 : Int32)), iv mm, iv fi, iv x3_r, iv x4_r, iv x5_r, iv x6_r, iv x7_r, .unset, .unset, .unset, .unset, .unset] [(.int fi), (.int mm), (.int (p3 &&& (7 : Int32))), (.int mu), (.int (5 : Int32)), (.ref x2_y)])) rfl (by rw [hml]; rfl) (argsL := [(.ref x2_y), (.int (5 : Int32)), (.int mu), (.int (p3 &&& (7 : Int32))), (.int mm), (.int fi)]) (rest := []) (lenOf pd_12 rfl) rfl (by show 2 * 0 + _ ≤ _; exact Nat.le_of_eq rfl) (hb hby at_145) (fun _ _ => ⟨rfl, eq7, (by decide : 2 + 0 ≤ _), (by decide : 16 + 0 ≤ _)⟩)
      dsimp only [Pt.U, Pt.locs, Pt.cells, Pt.slots] at X8 l8 y8 z8 st8 hQ8
      subst l8 y8 z8
      obtain ⟨x8_r, rfl, Nq8, eq8, u8_0⟩ := hQ8
      have N8 := Fr.app N7 Nq8
      refine own_stH st8 ?_
      show own_GoesH _ _ _ _ _ _ _ _ _ T8 (mkF m 148 #[iv p1, iv p2, iv p3, iv p4, rv x2_y, iv (p2 &&& (7 : Int32)), iv mu, iv (p3 &&& (7 : Int32)), iv mm, iv fi, iv x3_r, iv x4_r, iv x5_r, iv x6_r, iv x7_r, .unset, .unset, .unset, .unset, .unset] [(.int x8_r)])
      refine own_stH (fun _ kk_ => XS.istore X8.here hx rfl (hb hby at_148) rfl (l' := #[iv p1, iv p2, iv p3, iv p4, rv x2_y, iv (p2 &&& (7 : Int32)), iv mu, iv (p3 &&& (7 : Int32)), iv mm, iv fi, iv x3_r, iv x4_r, iv x5_r, iv x6_r, iv x7_r, iv x8_r, .unset, .unset, .unset, .unset]) rfl (XS.aload X8.here hx rfl (hb hby at_150) rfl rfl (XS.bipush X8.here hx rfl (hb hby at_152) (XS.iload X8.here hx rfl (hb hby at_154) rfl (XS.iload X8.here hx rfl (hb hby at_156) rfl (XS.iload X8.here hx rfl (hb hby at_158) rfl (XS.iload X8.here hx rfl (hb hby at_160) rfl kk_))))))) ?_
      show own_GoesH _ _ _ _ _ _ _ _ _ T8 (mkF m 162 #[iv p1, iv p2, iv p3, iv p4, rv x2_y, iv (p2 &&& (7 : Int32)), iv mu, iv (p3 &&& (7 : Int32)), iv mm, iv fi, iv x3_r, iv x4_r, iv x5_r, iv x6_r, iv x7_r, iv x8_r, .unset, .unset, .unset, .unset] [(.int fi), (.int mm), (.int (p3 &&& (7 : Int32))), (.int mu), (.int (6 : Int32)), (.ref x2_y)])
      obtain ⟨_, _, ⟨T9, L9, k9, n9⟩, -, X9, ⟨Lc9, hQ9, l9, y9, z9⟩, st9⟩ := Jvm.LawKit.callS X8 hx (y := yy7) hown (mvT hZ (own_w hw 12 rfl)) (mvT hZ (own_w hw 13 rfl)) (mvT hZ (own_w hw 2 rfl)) (mvT hZ (own_w hw 14 rfl)) (by decide) (backOf (W := 0) (rm2 l Z a0 hw [] (x2_y) ((6 : Int32)) (mu) ((p3 &&& (7 : Int32))) (mm) (fi) (x2_d) (x2_kd) ((3 : Int32)) ([(.int (105 : Int32)), (.int (110 : Int32)), (.int (116 : Int32))]) (cs) f9 T2.heap n0 Zs2 u2_0 u2_1 u2_2 u2_3 (by simp) f2_0 (by assumption) f2_1 (by assumption) (by decide) him hif) hZ (own_w hw 14 rfl) (own_w hw 2 rfl) (by decide) (by decide)) (g := (mkF m 162 #[iv p1, iv p2, iv p3, iv p4, rv x2_y, iv (p2 &&& (7 : Int32)), iv mu, iv (p3 &&& (7 : Int32)), iv mm, iv fi, iv x3_r, iv x4_r, iv x5_r, iv x6_r, iv x7_r, iv x8_r, .unset, .unset, .unset, .unset] [(.int fi), (.int mm), (.int (p3 &&& (7 : Int32))), (.int mu), (.int (6 : Int32)), (.ref x2_y)])) rfl (by rw [hml]; rfl) (argsL := [(.ref x2_y), (.int (6 : Int32)), (.int mu), (.int (p3 &&& (7 : Int32))), (.int mm), (.int fi)]) (rest := []) (lenOf pd_12 rfl) rfl (by show 2 * 0 + _ ≤ _; exact Nat.le_of_eq rfl) (hb hby at_162) (fun _ _ => ⟨rfl, eq8, (by decide : 2 + 0 ≤ _), (by decide : 16 + 0 ≤ _)⟩)
      dsimp only [Pt.U, Pt.locs, Pt.cells, Pt.slots] at X9 l9 y9 z9 st9 hQ9
      subst l9 y9 z9
      obtain ⟨x9_r, rfl, Nq9, eq9, u9_0⟩ := hQ9
      have N9 := Fr.app N8 Nq9
      refine own_stH st9 ?_
      show own_GoesH _ _ _ _ _ _ _ _ _ T9 (mkF m 165 #[iv p1, iv p2, iv p3, iv p4, rv x2_y, iv (p2 &&& (7 : Int32)), iv mu, iv (p3 &&& (7 : Int32)), iv mm, iv fi, iv x3_r, iv x4_r, iv x5_r, iv x6_r, iv x7_r, iv x8_r, .unset, .unset, .unset, .unset] [(.int x9_r)])
      refine own_stH (fun _ kk_ => XS.istore X9.here hx rfl (hb hby at_165) rfl (l' := #[iv p1, iv p2, iv p3, iv p4, rv x2_y, iv (p2 &&& (7 : Int32)), iv mu, iv (p3 &&& (7 : Int32)), iv mm, iv fi, iv x3_r, iv x4_r, iv x5_r, iv x6_r, iv x7_r, iv x8_r, iv x9_r, .unset, .unset, .unset]) rfl kk_) ?_
      show own_GoesH _ _ _ _ _ _ _ _ _ T9 (mkF m 167 #[iv p1, iv p2, iv p3, iv p4, rv x2_y, iv (p2 &&& (7 : Int32)), iv mu, iv (p3 &&& (7 : Int32)), iv mm, iv fi, iv x3_r, iv x4_r, iv x5_r, iv x6_r, iv x7_r, iv x8_r, iv x9_r, .unset, .unset, .unset] [])
      exact J167 _ _ _ _ _ (x2_y) (mu) (mm) (fi) (x3_r) (x4_r) (x5_r) (x6_r) (x7_r) (x8_r) (x9_r) (X9.more (by decide) (by decide)) eq9 N9 Zs2 hS2 (Nat.le_refl T2.heap.size) hZ hown C2 f2_0 f2_1 f2_2 f2_3 f2_4 f2_5 f2_6 f2_7 f2_8 f2_9 f2_10 f2_11 f2_12 f2_13 f2_14 f2_15 f2_16 f2_17 f2_18 f2_19 f2_20 f2_21 f2_22 f2_23 f2_24 f2_25 f2_26 f2_27 f2_28 u3_0 u4_0 u5_0 u6_0 u7_0 u8_0 u9_0
    rcases Classical.em ((((p1.toUInt32 >>> ((2 : Int32) &&& 31).toUInt32).toInt32) &&& (1 : Int32)) = (0 : Int32)) with qmu | qmu
    · refine own_stH (fun _ kk_ => XS.ifYes X2.here hx rfl (pc0 := 19) (pc' := 26) rfl (hb hby at_19) rfl (XT.i0_eq_t qmu) (by decide) (by decide) (XS.iconst X2.here hx rfl (hb hby at_26) kk_)) ?_
      show own_GoesH _ _ _ _ _ _ _ _ _ T2 (mkF m 27 #[iv p1, iv p2, iv p3, iv p4, rv x2_y, iv (p2 &&& (7 : Int32)), .unset, .unset, .unset, .unset, .unset, .unset, .unset, .unset, .unset, .unset, .unset, .unset, .unset, .unset] [(.int (0 : Int32))])
      exact J27 ((0 : Int32))
    · refine own_stH (fun _ kk_ => XS.ifNo X2.here hx rfl (hb hby at_19) rfl (XT.i0_eq_f qmu) (XS.iconst X2.here hx rfl (hb hby at_22) (XS.goto X2.here hx rfl (pc0 := 23) (pc' := 27) rfl (hb hby at_23) (by decide) (by decide) kk_))) ?_
      show own_GoesH _ _ _ _ _ _ _ _ _ T2 (mkF m 27 #[iv p1, iv p2, iv p3, iv p4, rv x2_y, iv (p2 &&& (7 : Int32)), .unset, .unset, .unset, .unset, .unset, .unset, .unset, .unset, .unset, .unset, .unset, .unset, .unset, .unset] [(.int (1 : Int32))])
      exact J27 ((1 : Int32))
  · show own_GoesH _ _ _ _ _ _ _ _ _ s₁ (mkF m 3 #[iv p1, iv p2, iv p3, iv p4, .unset, .unset, .unset, .unset, .unset, .unset, .unset, .unset, .unset, .unset, .unset, .unset, .unset, .unset, .unset, .unset] [(.int (1 : Int32))])
    obtain ⟨_, _, ⟨T10, L10, k10, n10⟩, -, X10, hSn10, hgn10, ⟨Lc10, hQ10, l10, y10, z10, hC10⟩, st10⟩ := callSS X0 hx (y := yy8) hown (mvT hZ (own_w hw 0 rfl)) (mvT hZ (own_w hw 1 rfl)) (mvT hZ (own_w hw 2 rfl)) (mvT hZ (own_w hw 3 rfl)) (by decide) (own_backH (sl := []) (W := 0) (rm1_1 l Z a0 hw [] hEL  h0 n0 Z0) hZ (own_w hw 3 rfl) (own_w hw 2 rfl) (by decide) (by decide) hEL C0.1 own_sn) (g := (mkF m 3 #[iv p1, iv p2, iv p3, iv p4, .unset, .unset, .unset, .unset, .unset, .unset, .unset, .unset, .unset, .unset, .unset, .unset, .unset, .unset, .unset, .unset] [(.int (1 : Int32))])) rfl (by rw [hml]; rfl) (argsL := [(.int (1 : Int32))]) (rest := []) (lenOf pd_11 rfl) rfl (by show 2 * 0 + _ ≤ _; exact Nat.le_of_eq rfl) (hb hby at_3) (fun _ _ => ⟨rfl, e0, (by decide : 0 + 2 ≤ _), (by decide : 0 + 24 ≤ _)⟩)
    dsimp only [Pt.U, Pt.locs, Pt.cells, Pt.slots] at X10 l10 y10 z10 st10 hQ10 hSn10 hgn10 hC10
    subst l10 y10 z10
    have X10 : Stand p l e room_1 (s.setVm T10.vm) m _ below meth c T10 _ _ _ := X10
    have hS10 := foldS hS0 (by rw [e0]; exact Z0) hSn10 hgn10
    have hown : (s.setVm T10.vm).vm.findClass "com/example/majra/majra/lang/ParameterKindNamedPinLaw" = some m.cls := by rw [show (s.setVm T10.vm).vm = T10.vm from rfl, hSn10.1.alike.findClass]; exact hown
    obtain ⟨x10_y, x10_d, x10_kd, rfl, Nq10, Kq10, u10_0, u10_1, u10_2, u10_3⟩ := hQ10
    have N10 := Fr.app N0 Nq10
    have hZ : Z.Warmed39 (s.setVm T10.vm).vm := State.Warmed39.trans (t := (s.setVm s.vm)) hZ hSn10.1
    have f10_0 := own_Sta_keep p_0 Kq10 ns0
    have f10_1 := own_Sta_keep p_2 Kq10 ns0
    have f10_2 := own_Sta_keep p_4 Kq10 ns0
    have f10_3 := own_Sta_keep p_5 Kq10 ns0
    have f10_4 := own_Sta_keep p_6 Kq10 ns0
    have f10_5 := own_Sta_keep p_7 Kq10 ns0
    have f10_6 := own_Sta_keep p_8 Kq10 ns0
    have f10_7 := p_9.keep Kq10
    have f10_8 := p_10.keep Kq10 nin0
    have f10_9 := p_11.keep Kq10 nin0
    have f10_10 := p_12.keep Kq10
    have f10_11 := p_13.keep Kq10 nin0
    have f10_12 := p_14.keep Kq10 nin0
    have f10_13 := p_15.keep Kq10 nin0
    have f10_14 := p_16.keep Kq10 nin0
    have f10_15 := p_17.keep Kq10
    have f10_16 := p_18.keep Kq10 nin0
    have f10_17 := p_19.keep Kq10 nin0
    have f10_18 := p_20.keep Kq10 nin0
    have f10_19 := p_21.keep Kq10 nin0
    have f10_20 := p_22.keep Kq10
    have f10_21 := p_23.keep Kq10 nin0
    have f10_22 := p_24.keep Kq10 nin0
    have f10_23 := p_25.keep Kq10 nin0
    have f10_24 := p_26.keep Kq10 nin0
    have f10_25 := p_27.keep Kq10
    have f10_26 := p_28.keep Kq10 nin0
    have f10_27 := p_29.keep Kq10 nin0
    have f10_28 := p_30.keep Kq10 nin0
    have C10 := C0.trans hC10
    have Ks10 := Nat.le_trans Z0 Kq10.1
    have Zs10 : n0 ≤ T10.heap.size := Nat.le_trans Z0 Kq10.1
    refine own_stH (fun _ kk_ => st10.trans kk_) ?_
    show own_GoesH _ _ _ _ _ _ _ _ _ T10 (mkF m 6 #[iv p1, iv p2, iv p3, iv p4, .unset, .unset, .unset, .unset, .unset, .unset, .unset, .unset, .unset, .unset, .unset, .unset, .unset, .unset, .unset, .unset] [(.ref x10_y)])
    refine own_stH (fun _ kk_ => XS.astore X10.here hx rfl (hb hby at_6) rfl rfl (l' := #[iv p1, iv p2, iv p3, iv p4, rv x10_y, .unset, .unset, .unset, .unset, .unset, .unset, .unset, .unset, .unset, .unset, .unset, .unset, .unset, .unset, .unset]) rfl (XS.iloadN X10.here hx rfl (hb hby at_8) rfl (XS.bipush X10.here hx rfl (hb hby at_9) (XS.iand X10.here hx rfl (hb hby at_11) rfl (XS.istore X10.here hx rfl (hb hby at_12) rfl (l' := #[iv p1, iv p2, iv p3, iv p4, rv x10_y, iv (p2 &&& (7 : Int32)), .unset, .unset, .unset, .unset, .unset, .unset, .unset, .unset, .unset, .unset, .unset, .unset, .unset, .unset]) rfl (XS.iloadN X10.here hx rfl (hb hby at_14) rfl (XS.iconst X10.here hx rfl (hb hby at_15) (XS.iushr X10.here hx rfl (hb hby at_16) rfl (XS.iconst X10.here hx rfl (hb hby at_17) (XS.iand X10.here hx rfl (hb hby at_18) rfl kk_)))))))))) ?_
    show own_GoesH _ _ _ _ _ _ _ _ _ T10 (mkF m 19 #[iv p1, iv p2, iv p3, iv p4, rv x10_y, iv (p2 &&& (7 : Int32)), .unset, .unset, .unset, .unset, .unset, .unset, .unset, .unset, .unset, .unset, .unset, .unset, .unset, .unset] [(.int (((p1.toUInt32 >>> ((2 : Int32) &&& 31).toUInt32).toInt32) &&& (1 : Int32)))])
    have J27 : ∀ (mu : Int32), own_GoesH p e below s Z consts_1 (Q0 Z p1 p2 p3 p4 cs f9 va vk s0 s1 s2 s3 k0a k0b k0c k1a k1b k1c k2a k2b k2c k3a k3b k3c h0 n0) 32 5248 T10 (mkF m 27 #[iv p1, iv p2, iv p3, iv p4, rv x10_y, iv (p2 &&& (7 : Int32)), .unset, .unset, .unset, .unset, .unset, .unset, .unset, .unset, .unset, .unset, .unset, .unset, .unset, .unset] [(.int mu)]) := by
      intro mu
      show own_GoesH _ _ _ _ _ _ _ _ _ T10 (mkF m 27 #[iv p1, iv p2, iv p3, iv p4, rv x10_y, iv (p2 &&& (7 : Int32)), .unset, .unset, .unset, .unset, .unset, .unset, .unset, .unset, .unset, .unset, .unset, .unset, .unset, .unset] [(.int mu)])
      refine own_stH (fun _ kk_ => XS.istore X10.here hx rfl (hb hby at_27) rfl (l' := #[iv p1, iv p2, iv p3, iv p4, rv x10_y, iv (p2 &&& (7 : Int32)), iv mu, .unset, .unset, .unset, .unset, .unset, .unset, .unset, .unset, .unset, .unset, .unset, .unset, .unset]) rfl (XS.iloadN X10.here hx rfl (hb hby at_29) rfl (XS.bipush X10.here hx rfl (hb hby at_30) (XS.iand X10.here hx rfl (hb hby at_32) rfl (XS.istore X10.here hx rfl (hb hby at_33) rfl (l' := #[iv p1, iv p2, iv p3, iv p4, rv x10_y, iv (p2 &&& (7 : Int32)), iv mu, iv (p3 &&& (7 : Int32)), .unset, .unset, .unset, .unset, .unset, .unset, .unset, .unset, .unset, .unset, .unset, .unset]) rfl (XS.iloadN X10.here hx rfl (hb hby at_35) rfl (XS.sipush X10.here hx rfl (hb hby at_36) (XS.iand X10.here hx rfl (hb hby at_39) rfl (XS.i2c X10.here hx rfl (hb hby at_40) rfl (XS.istore X10.here hx rfl (hb hby at_41) rfl (l' := #[iv p1, iv p2, iv p3, iv p4, rv x10_y, iv (p2 &&& (7 : Int32)), iv mu, iv (p3 &&& (7 : Int32)), iv ((p4 &&& (255 : Int32)).toUInt32.toUInt16.toUInt32.toInt32), .unset, .unset, .unset, .unset, .unset, .unset, .unset, .unset, .unset, .unset, .unset]) rfl kk_)))))))))) ?_
      show own_GoesH _ _ _ _ _ _ _ _ _ T10 (mkF m 43 #[iv p1, iv p2, iv p3, iv p4, rv x10_y, iv (p2 &&& (7 : Int32)), iv mu, iv (p3 &&& (7 : Int32)), iv ((p4 &&& (255 : Int32)).toUInt32.toUInt16.toUInt32.toInt32), .unset, .unset, .unset, .unset, .unset, .unset, .unset, .unset, .unset, .unset, .unset] [])
      have him := own_inv p4
      obtain ⟨mm, h_mm⟩ : ∃ z, z = ((p4 &&& (255 : Int32)).toUInt32.toUInt16.toUInt32.toInt32) := ⟨_, rfl⟩
      rw [← h_mm]
      show own_GoesH _ _ _ _ _ _ _ _ _ T10 (mkF m 43 #[iv p1, iv p2, iv p3, iv p4, rv x10_y, iv (p2 &&& (7 : Int32)), iv mu, iv (p3 &&& (7 : Int32)), iv mm, .unset, .unset, .unset, .unset, .unset, .unset, .unset, .unset, .unset, .unset, .unset] [])
      rw [← h_mm] at him
      refine own_stH (fun _ kk_ => XS.iloadN X10.here hx rfl (hb hby at_43) rfl (XS.bipush X10.here hx rfl (hb hby at_44) (XS.iushr X10.here hx rfl (hb hby at_46) rfl (XS.sipush X10.here hx rfl (hb hby at_47) (XS.iand X10.here hx rfl (hb hby at_50) rfl (XS.i2c X10.here hx rfl (hb hby at_51) rfl (XS.istore X10.here hx rfl (hb hby at_52) rfl (l' := #[iv p1, iv p2, iv p3, iv p4, rv x10_y, iv (p2 &&& (7 : Int32)), iv mu, iv (p3 &&& (7 : Int32)), iv mm, iv ((((p4.toUInt32 >>> ((8 : Int32) &&& 31).toUInt32).toInt32) &&& (255 : Int32)).toUInt32.toUInt16.toUInt32.toInt32), .unset, .unset, .unset, .unset, .unset, .unset, .unset, .unset, .unset, .unset]) rfl kk_))))))) ?_
      show own_GoesH _ _ _ _ _ _ _ _ _ T10 (mkF m 54 #[iv p1, iv p2, iv p3, iv p4, rv x10_y, iv (p2 &&& (7 : Int32)), iv mu, iv (p3 &&& (7 : Int32)), iv mm, iv ((((p4.toUInt32 >>> ((8 : Int32) &&& 31).toUInt32).toInt32) &&& (255 : Int32)).toUInt32.toUInt16.toUInt32.toInt32), .unset, .unset, .unset, .unset, .unset, .unset, .unset, .unset, .unset, .unset] [])
      have hif := own_inv ((p4.toUInt32 >>> ((8 : Int32) &&& 31).toUInt32).toInt32)
      obtain ⟨fi, h_fi⟩ : ∃ z, z = ((((p4.toUInt32 >>> ((8 : Int32) &&& 31).toUInt32).toInt32) &&& (255 : Int32)).toUInt32.toUInt16.toUInt32.toInt32) := ⟨_, rfl⟩
      rw [← h_fi]
      show own_GoesH _ _ _ _ _ _ _ _ _ T10 (mkF m 54 #[iv p1, iv p2, iv p3, iv p4, rv x10_y, iv (p2 &&& (7 : Int32)), iv mu, iv (p3 &&& (7 : Int32)), iv mm, iv fi, .unset, .unset, .unset, .unset, .unset, .unset, .unset, .unset, .unset, .unset] [])
      rw [← h_fi] at hif
      refine own_stH (fun _ kk_ => XS.aload X10.here hx rfl (hb hby at_54) rfl rfl (XS.iconst X10.here hx rfl (hb hby at_56) (XS.iload X10.here hx rfl (hb hby at_57) rfl (XS.iload X10.here hx rfl (hb hby at_59) rfl (XS.iload X10.here hx rfl (hb hby at_61) rfl (XS.iload X10.here hx rfl (hb hby at_63) rfl kk_)))))) ?_
      show own_GoesH _ _ _ _ _ _ _ _ _ T10 (mkF m 65 #[iv p1, iv p2, iv p3, iv p4, rv x10_y, iv (p2 &&& (7 : Int32)), iv mu, iv (p3 &&& (7 : Int32)), iv mm, iv fi, .unset, .unset, .unset, .unset, .unset, .unset, .unset, .unset, .unset, .unset] [(.int fi), (.int mm), (.int (p3 &&& (7 : Int32))), (.int mu), (.int (0 : Int32)), (.ref x10_y)])
      obtain ⟨_, _, ⟨T11, L11, k11, n11⟩, -, X11, ⟨Lc11, hQ11, l11, y11, z11⟩, st11⟩ := Jvm.LawKit.callS X10 hx (y := yy7) hown (mvT hZ (own_w hw 12 rfl)) (mvT hZ (own_w hw 13 rfl)) (mvT hZ (own_w hw 2 rfl)) (mvT hZ (own_w hw 14 rfl)) (by decide) (backOf (W := 0) (rm2 l Z a0 hw [] (x10_y) ((0 : Int32)) (mu) ((p3 &&& (7 : Int32))) (mm) (fi) (x10_d) (x10_kd) ((5 : Int32)) ([(.int (102 : Int32)), (.int (108 : Int32)), (.int (111 : Int32)), (.int (97 : Int32)), (.int (116 : Int32))]) (cs) f9 T10.heap n0 Zs10 u10_0 u10_1 u10_2 u10_3 (by simp) f10_0 (by assumption) f10_1 (by assumption) (by decide) him hif) hZ (own_w hw 14 rfl) (own_w hw 2 rfl) (by decide) (by decide)) (g := (mkF m 65 #[iv p1, iv p2, iv p3, iv p4, rv x10_y, iv (p2 &&& (7 : Int32)), iv mu, iv (p3 &&& (7 : Int32)), iv mm, iv fi, .unset, .unset, .unset, .unset, .unset, .unset, .unset, .unset, .unset, .unset] [(.int fi), (.int mm), (.int (p3 &&& (7 : Int32))), (.int mu), (.int (0 : Int32)), (.ref x10_y)])) rfl (by rw [hml]; rfl) (argsL := [(.ref x10_y), (.int (0 : Int32)), (.int mu), (.int (p3 &&& (7 : Int32))), (.int mm), (.int fi)]) (rest := []) (lenOf pd_12 rfl) rfl (by show 2 * 0 + _ ≤ _; exact Nat.le_of_eq rfl) (hb hby at_65) (fun _ _ => ⟨rfl, rfl, (by decide : 2 + 0 ≤ _), (by decide : 24 + 0 ≤ _)⟩)
      dsimp only [Pt.U, Pt.locs, Pt.cells, Pt.slots] at X11 l11 y11 z11 st11 hQ11
      subst l11 y11 z11
      obtain ⟨x11_r, rfl, Nq11, eq11, u11_0⟩ := hQ11
      have N11 := Fr.app N10 Nq11
      refine own_stH st11 ?_
      show own_GoesH _ _ _ _ _ _ _ _ _ T11 (mkF m 68 #[iv p1, iv p2, iv p3, iv p4, rv x10_y, iv (p2 &&& (7 : Int32)), iv mu, iv (p3 &&& (7 : Int32)), iv mm, iv fi, .unset, .unset, .unset, .unset, .unset, .unset, .unset, .unset, .unset, .unset] [(.int x11_r)])
      refine own_stH (fun _ kk_ => XS.istore X11.here hx rfl (hb hby at_68) rfl (l' := #[iv p1, iv p2, iv p3, iv p4, rv x10_y, iv (p2 &&& (7 : Int32)), iv mu, iv (p3 &&& (7 : Int32)), iv mm, iv fi, iv x11_r, .unset, .unset, .unset, .unset, .unset, .unset, .unset, .unset, .unset]) rfl (XS.aload X11.here hx rfl (hb hby at_70) rfl rfl (XS.iconst X11.here hx rfl (hb hby at_72) (XS.iload X11.here hx rfl (hb hby at_73) rfl (XS.iload X11.here hx rfl (hb hby at_75) rfl (XS.iload X11.here hx rfl (hb hby at_77) rfl (XS.iload X11.here hx rfl (hb hby at_79) rfl kk_))))))) ?_
      show own_GoesH _ _ _ _ _ _ _ _ _ T11 (mkF m 81 #[iv p1, iv p2, iv p3, iv p4, rv x10_y, iv (p2 &&& (7 : Int32)), iv mu, iv (p3 &&& (7 : Int32)), iv mm, iv fi, iv x11_r, .unset, .unset, .unset, .unset, .unset, .unset, .unset, .unset, .unset] [(.int fi), (.int mm), (.int (p3 &&& (7 : Int32))), (.int mu), (.int (1 : Int32)), (.ref x10_y)])
      obtain ⟨_, _, ⟨T12, L12, k12, n12⟩, -, X12, ⟨Lc12, hQ12, l12, y12, z12⟩, st12⟩ := Jvm.LawKit.callS X11 hx (y := yy7) hown (mvT hZ (own_w hw 12 rfl)) (mvT hZ (own_w hw 13 rfl)) (mvT hZ (own_w hw 2 rfl)) (mvT hZ (own_w hw 14 rfl)) (by decide) (backOf (W := 0) (rm2 l Z a0 hw [] (x10_y) ((1 : Int32)) (mu) ((p3 &&& (7 : Int32))) (mm) (fi) (x10_d) (x10_kd) ((5 : Int32)) ([(.int (102 : Int32)), (.int (108 : Int32)), (.int (111 : Int32)), (.int (97 : Int32)), (.int (116 : Int32))]) (cs) f9 T10.heap n0 Zs10 u10_0 u10_1 u10_2 u10_3 (by simp) f10_0 (by assumption) f10_1 (by assumption) (by decide) him hif) hZ (own_w hw 14 rfl) (own_w hw 2 rfl) (by decide) (by decide)) (g := (mkF m 81 #[iv p1, iv p2, iv p3, iv p4, rv x10_y, iv (p2 &&& (7 : Int32)), iv mu, iv (p3 &&& (7 : Int32)), iv mm, iv fi, iv x11_r, .unset, .unset, .unset, .unset, .unset, .unset, .unset, .unset, .unset] [(.int fi), (.int mm), (.int (p3 &&& (7 : Int32))), (.int mu), (.int (1 : Int32)), (.ref x10_y)])) rfl (by rw [hml]; rfl) (argsL := [(.ref x10_y), (.int (1 : Int32)), (.int mu), (.int (p3 &&& (7 : Int32))), (.int mm), (.int fi)]) (rest := []) (lenOf pd_12 rfl) rfl (by show 2 * 0 + _ ≤ _; exact Nat.le_of_eq rfl) (hb hby at_81) (fun _ _ => ⟨rfl, eq11, (by decide : 2 + 0 ≤ _), (by decide : 24 + 0 ≤ _)⟩)
      dsimp only [Pt.U, Pt.locs, Pt.cells, Pt.slots] at X12 l12 y12 z12 st12 hQ12
      subst l12 y12 z12
      obtain ⟨x12_r, rfl, Nq12, eq12, u12_0⟩ := hQ12
      have N12 := Fr.app N11 Nq12
      refine own_stH st12 ?_
      show own_GoesH _ _ _ _ _ _ _ _ _ T12 (mkF m 84 #[iv p1, iv p2, iv p3, iv p4, rv x10_y, iv (p2 &&& (7 : Int32)), iv mu, iv (p3 &&& (7 : Int32)), iv mm, iv fi, iv x11_r, .unset, .unset, .unset, .unset, .unset, .unset, .unset, .unset, .unset] [(.int x12_r)])
      refine own_stH (fun _ kk_ => XS.istore X12.here hx rfl (hb hby at_84) rfl (l' := #[iv p1, iv p2, iv p3, iv p4, rv x10_y, iv (p2 &&& (7 : Int32)), iv mu, iv (p3 &&& (7 : Int32)), iv mm, iv fi, iv x11_r, iv x12_r, .unset, .unset, .unset, .unset, .unset, .unset, .unset, .unset]) rfl (XS.aload X12.here hx rfl (hb hby at_86) rfl rfl (XS.iconst X12.here hx rfl (hb hby at_88) (XS.iload X12.here hx rfl (hb hby at_89) rfl (XS.iload X12.here hx rfl (hb hby at_91) rfl (XS.iload X12.here hx rfl (hb hby at_93) rfl (XS.iload X12.here hx rfl (hb hby at_95) rfl kk_))))))) ?_
      show own_GoesH _ _ _ _ _ _ _ _ _ T12 (mkF m 97 #[iv p1, iv p2, iv p3, iv p4, rv x10_y, iv (p2 &&& (7 : Int32)), iv mu, iv (p3 &&& (7 : Int32)), iv mm, iv fi, iv x11_r, iv x12_r, .unset, .unset, .unset, .unset, .unset, .unset, .unset, .unset] [(.int fi), (.int mm), (.int (p3 &&& (7 : Int32))), (.int mu), (.int (2 : Int32)), (.ref x10_y)])
      obtain ⟨_, _, ⟨T13, L13, k13, n13⟩, -, X13, ⟨Lc13, hQ13, l13, y13, z13⟩, st13⟩ := Jvm.LawKit.callS X12 hx (y := yy7) hown (mvT hZ (own_w hw 12 rfl)) (mvT hZ (own_w hw 13 rfl)) (mvT hZ (own_w hw 2 rfl)) (mvT hZ (own_w hw 14 rfl)) (by decide) (backOf (W := 0) (rm2 l Z a0 hw [] (x10_y) ((2 : Int32)) (mu) ((p3 &&& (7 : Int32))) (mm) (fi) (x10_d) (x10_kd) ((5 : Int32)) ([(.int (102 : Int32)), (.int (108 : Int32)), (.int (111 : Int32)), (.int (97 : Int32)), (.int (116 : Int32))]) (cs) f9 T10.heap n0 Zs10 u10_0 u10_1 u10_2 u10_3 (by simp) f10_0 (by assumption) f10_1 (by assumption) (by decide) him hif) hZ (own_w hw 14 rfl) (own_w hw 2 rfl) (by decide) (by decide)) (g := (mkF m 97 #[iv p1, iv p2, iv p3, iv p4, rv x10_y, iv (p2 &&& (7 : Int32)), iv mu, iv (p3 &&& (7 : Int32)), iv mm, iv fi, iv x11_r, iv x12_r, .unset, .unset, .unset, .unset, .unset, .unset, .unset, .unset] [(.int fi), (.int mm), (.int (p3 &&& (7 : Int32))), (.int mu), (.int (2 : Int32)), (.ref x10_y)])) rfl (by rw [hml]; rfl) (argsL := [(.ref x10_y), (.int (2 : Int32)), (.int mu), (.int (p3 &&& (7 : Int32))), (.int mm), (.int fi)]) (rest := []) (lenOf pd_12 rfl) rfl (by show 2 * 0 + _ ≤ _; exact Nat.le_of_eq rfl) (hb hby at_97) (fun _ _ => ⟨rfl, eq12, (by decide : 2 + 0 ≤ _), (by decide : 24 + 0 ≤ _)⟩)
      dsimp only [Pt.U, Pt.locs, Pt.cells, Pt.slots] at X13 l13 y13 z13 st13 hQ13
      subst l13 y13 z13
      obtain ⟨x13_r, rfl, Nq13, eq13, u13_0⟩ := hQ13
      have N13 := Fr.app N12 Nq13
      refine own_stH st13 ?_
      show own_GoesH _ _ _ _ _ _ _ _ _ T13 (mkF m 100 #[iv p1, iv p2, iv p3, iv p4, rv x10_y, iv (p2 &&& (7 : Int32)), iv mu, iv (p3 &&& (7 : Int32)), iv mm, iv fi, iv x11_r, iv x12_r, .unset, .unset, .unset, .unset, .unset, .unset, .unset, .unset] [(.int x13_r)])
      refine own_stH (fun _ kk_ => XS.istore X13.here hx rfl (hb hby at_100) rfl (l' := #[iv p1, iv p2, iv p3, iv p4, rv x10_y, iv (p2 &&& (7 : Int32)), iv mu, iv (p3 &&& (7 : Int32)), iv mm, iv fi, iv x11_r, iv x12_r, iv x13_r, .unset, .unset, .unset, .unset, .unset, .unset, .unset]) rfl (XS.aload X13.here hx rfl (hb hby at_102) rfl rfl (XS.iconst X13.here hx rfl (hb hby at_104) (XS.iload X13.here hx rfl (hb hby at_105) rfl (XS.iload X13.here hx rfl (hb hby at_107) rfl (XS.iload X13.here hx rfl (hb hby at_109) rfl (XS.iload X13.here hx rfl (hb hby at_111) rfl kk_))))))) ?_
      show own_GoesH _ _ _ _ _ _ _ _ _ T13 (mkF m 113 #[iv p1, iv p2, iv p3, iv p4, rv x10_y, iv (p2 &&& (7 : Int32)), iv mu, iv (p3 &&& (7 : Int32)), iv mm, iv fi, iv x11_r, iv x12_r, iv x13_r, .unset, .unset, .unset, .unset, .unset, .unset, .unset] [(.int fi), (.int mm), (.int (p3 &&& (7 : Int32))), (.int mu), (.int (3 : Int32)), (.ref x10_y)])
      obtain ⟨_, _, ⟨T14, L14, k14, n14⟩, -, X14, ⟨Lc14, hQ14, l14, y14, z14⟩, st14⟩ := Jvm.LawKit.callS X13 hx (y := yy7) hown (mvT hZ (own_w hw 12 rfl)) (mvT hZ (own_w hw 13 rfl)) (mvT hZ (own_w hw 2 rfl)) (mvT hZ (own_w hw 14 rfl)) (by decide) (backOf (W := 0) (rm2 l Z a0 hw [] (x10_y) ((3 : Int32)) (mu) ((p3 &&& (7 : Int32))) (mm) (fi) (x10_d) (x10_kd) ((5 : Int32)) ([(.int (102 : Int32)), (.int (108 : Int32)), (.int (111 : Int32)), (.int (97 : Int32)), (.int (116 : Int32))]) (cs) f9 T10.heap n0 Zs10 u10_0 u10_1 u10_2 u10_3 (by simp) f10_0 (by assumption) f10_1 (by assumption) (by decide) him hif) hZ (own_w hw 14 rfl) (own_w hw 2 rfl) (by decide) (by decide)) (g := (mkF m 113 #[iv p1, iv p2, iv p3, iv p4, rv x10_y, iv (p2 &&& (7 : Int32)), iv mu, iv (p3 &&& (7 : Int32)), iv mm, iv fi, iv x11_r, iv x12_r, iv x13_r, .unset, .unset, .unset, .unset, .unset, .unset, .unset] [(.int fi), (.int mm), (.int (p3 &&& (7 : Int32))), (.int mu), (.int (3 : Int32)), (.ref x10_y)])) rfl (by rw [hml]; rfl) (argsL := [(.ref x10_y), (.int (3 : Int32)), (.int mu), (.int (p3 &&& (7 : Int32))), (.int mm), (.int fi)]) (rest := []) (lenOf pd_12 rfl) rfl (by show 2 * 0 + _ ≤ _; exact Nat.le_of_eq rfl) (hb hby at_113) (fun _ _ => ⟨rfl, eq13, (by decide : 2 + 0 ≤ _), (by decide : 24 + 0 ≤ _)⟩)
      dsimp only [Pt.U, Pt.locs, Pt.cells, Pt.slots] at X14 l14 y14 z14 st14 hQ14
      subst l14 y14 z14
      obtain ⟨x14_r, rfl, Nq14, eq14, u14_0⟩ := hQ14
      have N14 := Fr.app N13 Nq14
      refine own_stH st14 ?_
      show own_GoesH _ _ _ _ _ _ _ _ _ T14 (mkF m 116 #[iv p1, iv p2, iv p3, iv p4, rv x10_y, iv (p2 &&& (7 : Int32)), iv mu, iv (p3 &&& (7 : Int32)), iv mm, iv fi, iv x11_r, iv x12_r, iv x13_r, .unset, .unset, .unset, .unset, .unset, .unset, .unset] [(.int x14_r)])
      refine own_stH (fun _ kk_ => XS.istore X14.here hx rfl (hb hby at_116) rfl (l' := #[iv p1, iv p2, iv p3, iv p4, rv x10_y, iv (p2 &&& (7 : Int32)), iv mu, iv (p3 &&& (7 : Int32)), iv mm, iv fi, iv x11_r, iv x12_r, iv x13_r, iv x14_r, .unset, .unset, .unset, .unset, .unset, .unset]) rfl (XS.aload X14.here hx rfl (hb hby at_118) rfl rfl (XS.iconst X14.here hx rfl (hb hby at_120) (XS.iload X14.here hx rfl (hb hby at_121) rfl (XS.iload X14.here hx rfl (hb hby at_123) rfl (XS.iload X14.here hx rfl (hb hby at_125) rfl (XS.iload X14.here hx rfl (hb hby at_127) rfl kk_))))))) ?_
      show own_GoesH _ _ _ _ _ _ _ _ _ T14 (mkF m 129 #[iv p1, iv p2, iv p3, iv p4, rv x10_y, iv (p2 &&& (7 : Int32)), iv mu, iv (p3 &&& (7 : Int32)), iv mm, iv fi, iv x11_r, iv x12_r, iv x13_r, iv x14_r, .unset, .unset, .unset, .unset, .unset, .unset] [(.int fi), (.int mm), (.int (p3 &&& (7 : Int32))), (.int mu), (.int (4 : Int32)), (.ref x10_y)])
      obtain ⟨_, _, ⟨T15, L15, k15, n15⟩, -, X15, ⟨Lc15, hQ15, l15, y15, z15⟩, st15⟩ := Jvm.LawKit.callS X14 hx (y := yy7) hown (mvT hZ (own_w hw 12 rfl)) (mvT hZ (own_w hw 13 rfl)) (mvT hZ (own_w hw 2 rfl)) (mvT hZ (own_w hw 14 rfl)) (by decide) (backOf (W := 0) (rm2 l Z a0 hw [] (x10_y) ((4 : Int32)) (mu) ((p3 &&& (7 : Int32))) (mm) (fi) (x10_d) (x10_kd) ((5 : Int32)) ([(.int (102 : Int32)), (.int (108 : Int32)), (.int (111 : Int32)), (.int (97 : Int32)), (.int (116 : Int32))]) (cs) f9 T10.heap n0 Zs10 u10_0 u10_1 u10_2 u10_3 (by simp) f10_0 (by assumption) f10_1 (by assumption) (by decide) him hif) hZ (own_w hw 14 rfl) (own_w hw 2 rfl) (by decide) (by decide)) (g := (mkF m 129 #[iv p1, iv p2, iv p3, iv p4, rv x10_y, iv (p2 &&& (7 : Int32)), iv mu, iv (p3 &&& (7 : Int32)), iv mm, iv fi, iv x11_r, iv x12_r, iv x13_r, iv x14_r, .unset, .unset, .unset, .unset, .unset, .unset] [(.int fi), (.int mm), (.int (p3 &&& (7 : Int32))), (.int mu), (.int (4 : Int32)), (.ref x10_y)])) rfl (by rw [hml]; rfl) (argsL := [(.ref x10_y), (.int (4 : Int32)), (.int mu), (.int (p3 &&& (7 : Int32))), (.int mm), (.int fi)]) (rest := []) (lenOf pd_12 rfl) rfl (by show 2 * 0 + _ ≤ _; exact Nat.le_of_eq rfl) (hb hby at_129) (fun _ _ => ⟨rfl, eq14, (by decide : 2 + 0 ≤ _), (by decide : 24 + 0 ≤ _)⟩)
      dsimp only [Pt.U, Pt.locs, Pt.cells, Pt.slots] at X15 l15 y15 z15 st15 hQ15
      subst l15 y15 z15
      obtain ⟨x15_r, rfl, Nq15, eq15, u15_0⟩ := hQ15
      have N15 := Fr.app N14 Nq15
      refine own_stH st15 ?_
      show own_GoesH _ _ _ _ _ _ _ _ _ T15 (mkF m 132 #[iv p1, iv p2, iv p3, iv p4, rv x10_y, iv (p2 &&& (7 : Int32)), iv mu, iv (p3 &&& (7 : Int32)), iv mm, iv fi, iv x11_r, iv x12_r, iv x13_r, iv x14_r, .unset, .unset, .unset, .unset, .unset, .unset] [(.int x15_r)])
      refine own_stH (fun _ kk_ => XS.istore X15.here hx rfl (hb hby at_132) rfl (l' := #[iv p1, iv p2, iv p3, iv p4, rv x10_y, iv (p2 &&& (7 : Int32)), iv mu, iv (p3 &&& (7 : Int32)), iv mm, iv fi, iv x11_r, iv x12_r, iv x13_r, iv x14_r, iv x15_r, .unset, .unset, .unset, .unset, .unset]) rfl (XS.aload X15.here hx rfl (hb hby at_134) rfl rfl (XS.iconst X15.here hx rfl (hb hby at_136) (XS.iload X15.here hx rfl (hb hby at_137) rfl (XS.iload X15.here hx rfl (hb hby at_139) rfl (XS.iload X15.here hx rfl (hb hby at_141) rfl (XS.iload X15.here hx rfl (hb hby at_143) rfl kk_))))))) ?_
      show own_GoesH _ _ _ _ _ _ _ _ _ T15 (mkF m 145 #[iv p1, iv p2, iv p3, iv p4, rv x10_y, iv (p2 &&& (7 : Int32)), iv mu, iv (p3 &&& (7 : Int32)), iv mm, iv fi, iv x11_r, iv x12_r, iv x13_r, iv x14_r, iv x15_r, .unset, .unset, .unset, .unset, .unset] [(.int fi), (.int mm), (.int (p3 &&& (7 : Int32))), (.int mu), (.int (5 : Int32)), (.ref x10_y)])
      obtain ⟨_, _, ⟨T16, L16, k16, n16⟩, -, X16, ⟨Lc16, hQ16, l16, y16, z16⟩, st16⟩ := Jvm.LawKit.callS X15 hx (y := yy7) hown (mvT hZ (own_w hw 12 rfl)) (mvT hZ (own_w hw 13 rfl)) (mvT hZ (own_w hw 2 rfl)) (mvT hZ (own_w hw 14 rfl)) (by decide) (backOf (W := 0) (rm2 l Z a0 hw [] (x10_y) ((5 : Int32)) (mu) ((p3 &&& (7 : Int32))) (mm) (fi) (x10_d) (x10_kd) ((5 : Int32)) ([(.int (102 : Int32)), (.int (108 : Int32)), (.int (111 : Int32)), (.int (97 : Int32)), (.int (116 : Int32))]) (cs) f9 T10.heap n0 Zs10 u10_0 u10_1 u10_2 u10_3 (by simp) f10_0 (by assumption) f10_1 (by assumption) (by decide) him hif) hZ (own_w hw 14 rfl) (own_w hw 2 rfl) (by decide) (by decide)) (g := (mkF m 145 #[iv p1, iv p2, iv p3, iv p4, rv x10_y, iv (p2 &&& (7 : Int32)), iv mu, iv (p3 &&& (7 : Int32)), iv mm, iv fi, iv x11_r, iv x12_r, iv x13_r, iv x14_r, iv x15_r, .unset, .unset, .unset, .unset, .unset] [(.int fi), (.int mm), (.int (p3 &&& (7 : Int32))), (.int mu), (.int (5 : Int32)), (.ref x10_y)])) rfl (by rw [hml]; rfl) (argsL := [(.ref x10_y), (.int (5 : Int32)), (.int mu), (.int (p3 &&& (7 : Int32))), (.int mm), (.int fi)]) (rest := []) (lenOf pd_12 rfl) rfl (by show 2 * 0 + _ ≤ _; exact Nat.le_of_eq rfl) (hb hby at_145) (fun _ _ => ⟨rfl, eq15, (by decide : 2 + 0 ≤ _), (by decide : 24 + 0 ≤ _)⟩)
      dsimp only [Pt.U, Pt.locs, Pt.cells, Pt.slots] at X16 l16 y16 z16 st16 hQ16
      subst l16 y16 z16
      obtain ⟨x16_r, rfl, Nq16, eq16, u16_0⟩ := hQ16
      have N16 := Fr.app N15 Nq16
      refine own_stH st16 ?_
      show own_GoesH _ _ _ _ _ _ _ _ _ T16 (mkF m 148 #[iv p1, iv p2, iv p3, iv p4, rv x10_y, iv (p2 &&& (7 : Int32)), iv mu, iv (p3 &&& (7 : Int32)), iv mm, iv fi, iv x11_r, iv x12_r, iv x13_r, iv x14_r, iv x15_r, .unset, .unset, .unset, .unset, .unset] [(.int x16_r)])
      refine own_stH (fun _ kk_ => XS.istore X16.here hx rfl (hb hby at_148) rfl (l' := #[iv p1, iv p2, iv p3, iv p4, rv x10_y, iv (p2 &&& (7 : Int32)), iv mu, iv (p3 &&& (7 : Int32)), iv mm, iv fi, iv x11_r, iv x12_r, iv x13_r, iv x14_r, iv x15_r, iv x16_r, .unset, .unset, .unset, .unset]) rfl (XS.aload X16.here hx rfl (hb hby at_150) rfl rfl (XS.bipush X16.here hx rfl (hb hby at_152) (XS.iload X16.here hx rfl (hb hby at_154) rfl (XS.iload X16.here hx rfl (hb hby at_156) rfl (XS.iload X16.here hx rfl (hb hby at_158) rfl (XS.iload X16.here hx rfl (hb hby at_160) rfl kk_))))))) ?_
      show own_GoesH _ _ _ _ _ _ _ _ _ T16 (mkF m 162 #[iv p1, iv p2, iv p3, iv p4, rv x10_y, iv (p2 &&& (7 : Int32)), iv mu, iv (p3 &&& (7 : Int32)), iv mm, iv fi, iv x11_r, iv x12_r, iv x13_r, iv x14_r, iv x15_r, iv x16_r, .unset, .unset, .unset, .unset] [(.int fi), (.int mm), (.int (p3 &&& (7 : Int32))), (.int mu), (.int (6 : Int32)), (.ref x10_y)])
      obtain ⟨_, _, ⟨T17, L17, k17, n17⟩, -, X17, ⟨Lc17, hQ17, l17, y17, z17⟩, st17⟩ := Jvm.LawKit.callS X16 hx (y := yy7) hown (mvT hZ (own_w hw 12 rfl)) (mvT hZ (own_w hw 13 rfl)) (mvT hZ (own_w hw 2 rfl)) (mvT hZ (own_w hw 14 rfl)) (by decide) (backOf (W := 0) (rm2 l Z a0 hw [] (x10_y) ((6 : Int32)) (mu) ((p3 &&& (7 : Int32))) (mm) (fi) (x10_d) (x10_kd) ((5 : Int32)) ([(.int (102 : Int32)), (.int (108 : Int32)), (.int (111 : Int32)), (.int (97 : Int32)), (.int (116 : Int32))]) (cs) f9 T10.heap n0 Zs10 u10_0 u10_1 u10_2 u10_3 (by simp) f10_0 (by assumption) f10_1 (by assumption) (by decide) him hif) hZ (own_w hw 14 rfl) (own_w hw 2 rfl) (by decide) (by decide)) (g := (mkF m 162 #[iv p1, iv p2, iv p3, iv p4, rv x10_y, iv (p2 &&& (7 : Int32)), iv mu, iv (p3 &&& (7 : Int32)), iv mm, iv fi, iv x11_r, iv x12_r, iv x13_r, iv x14_r, iv x15_r, iv x16_r, .unset, .unset, .unset, .unset] [(.int fi), (.int mm), (.int (p3 &&& (7 : Int32))), (.int mu), (.int (6 : Int32)), (.ref x10_y)])) rfl (by rw [hml]; rfl) (argsL := [(.ref x10_y), (.int (6 : Int32)), (.int mu), (.int (p3 &&& (7 : Int32))), (.int mm), (.int fi)]) (rest := []) (lenOf pd_12 rfl) rfl (by show 2 * 0 + _ ≤ _; exact Nat.le_of_eq rfl) (hb hby at_162) (fun _ _ => ⟨rfl, eq16, (by decide : 2 + 0 ≤ _), (by decide : 24 + 0 ≤ _)⟩)
      dsimp only [Pt.U, Pt.locs, Pt.cells, Pt.slots] at X17 l17 y17 z17 st17 hQ17
      subst l17 y17 z17
      obtain ⟨x17_r, rfl, Nq17, eq17, u17_0⟩ := hQ17
      have N17 := Fr.app N16 Nq17
      refine own_stH st17 ?_
      show own_GoesH _ _ _ _ _ _ _ _ _ T17 (mkF m 165 #[iv p1, iv p2, iv p3, iv p4, rv x10_y, iv (p2 &&& (7 : Int32)), iv mu, iv (p3 &&& (7 : Int32)), iv mm, iv fi, iv x11_r, iv x12_r, iv x13_r, iv x14_r, iv x15_r, iv x16_r, .unset, .unset, .unset, .unset] [(.int x17_r)])
      refine own_stH (fun _ kk_ => XS.istore X17.here hx rfl (hb hby at_165) rfl (l' := #[iv p1, iv p2, iv p3, iv p4, rv x10_y, iv (p2 &&& (7 : Int32)), iv mu, iv (p3 &&& (7 : Int32)), iv mm, iv fi, iv x11_r, iv x12_r, iv x13_r, iv x14_r, iv x15_r, iv x16_r, iv x17_r, .unset, .unset, .unset]) rfl kk_) ?_
      show own_GoesH _ _ _ _ _ _ _ _ _ T17 (mkF m 167 #[iv p1, iv p2, iv p3, iv p4, rv x10_y, iv (p2 &&& (7 : Int32)), iv mu, iv (p3 &&& (7 : Int32)), iv mm, iv fi, iv x11_r, iv x12_r, iv x13_r, iv x14_r, iv x15_r, iv x16_r, iv x17_r, .unset, .unset, .unset] [])
      exact J167 _ _ _ _ _ (x10_y) (mu) (mm) (fi) (x11_r) (x12_r) (x13_r) (x14_r) (x15_r) (x16_r) (x17_r) (X17.more (by decide) (by decide)) eq17 N17 Zs10 hS10 (Nat.le_refl T10.heap.size) hZ hown C10 f10_0 f10_1 f10_2 f10_3 f10_4 f10_5 f10_6 f10_7 f10_8 f10_9 f10_10 f10_11 f10_12 f10_13 f10_14 f10_15 f10_16 f10_17 f10_18 f10_19 f10_20 f10_21 f10_22 f10_23 f10_24 f10_25 f10_26 f10_27 f10_28 u11_0 u12_0 u13_0 u14_0 u15_0 u16_0 u17_0
    rcases Classical.em ((((p1.toUInt32 >>> ((2 : Int32) &&& 31).toUInt32).toInt32) &&& (1 : Int32)) = (0 : Int32)) with qmu | qmu
    · refine own_stH (fun _ kk_ => XS.ifYes X10.here hx rfl (pc0 := 19) (pc' := 26) rfl (hb hby at_19) rfl (XT.i0_eq_t qmu) (by decide) (by decide) (XS.iconst X10.here hx rfl (hb hby at_26) kk_)) ?_
      show own_GoesH _ _ _ _ _ _ _ _ _ T10 (mkF m 27 #[iv p1, iv p2, iv p3, iv p4, rv x10_y, iv (p2 &&& (7 : Int32)), .unset, .unset, .unset, .unset, .unset, .unset, .unset, .unset, .unset, .unset, .unset, .unset, .unset, .unset] [(.int (0 : Int32))])
      exact J27 ((0 : Int32))
    · refine own_stH (fun _ kk_ => XS.ifNo X10.here hx rfl (hb hby at_19) rfl (XT.i0_eq_f qmu) (XS.iconst X10.here hx rfl (hb hby at_22) (XS.goto X10.here hx rfl (pc0 := 23) (pc' := 27) rfl (hb hby at_23) (by decide) (by decide) kk_))) ?_
      show own_GoesH _ _ _ _ _ _ _ _ _ T10 (mkF m 27 #[iv p1, iv p2, iv p3, iv p4, rv x10_y, iv (p2 &&& (7 : Int32)), .unset, .unset, .unset, .unset, .unset, .unset, .unset, .unset, .unset, .unset, .unset, .unset, .unset, .unset] [(.int (1 : Int32))])
      exact J27 ((1 : Int32))
  · show own_GoesH _ _ _ _ _ _ _ _ _ s₁ (mkF m 3 #[iv p1, iv p2, iv p3, iv p4, .unset, .unset, .unset, .unset, .unset, .unset, .unset, .unset, .unset, .unset, .unset, .unset, .unset, .unset, .unset, .unset] [(.int (2 : Int32))])
    obtain ⟨_, _, ⟨T18, L18, k18, n18⟩, -, X18, hSn18, hgn18, ⟨Lc18, hQ18, l18, y18, z18, hC18⟩, st18⟩ := callSS X0 hx (y := yy8) hown (mvT hZ (own_w hw 0 rfl)) (mvT hZ (own_w hw 1 rfl)) (mvT hZ (own_w hw 2 rfl)) (mvT hZ (own_w hw 3 rfl)) (by decide) (own_backH (sl := []) (W := 0) (rm1_2 l Z a0 hw [] hEL  h0 n0 Z0) hZ (own_w hw 3 rfl) (own_w hw 2 rfl) (by decide) (by decide) hEL C0.1 own_sn) (g := (mkF m 3 #[iv p1, iv p2, iv p3, iv p4, .unset, .unset, .unset, .unset, .unset, .unset, .unset, .unset, .unset, .unset, .unset, .unset, .unset, .unset, .unset, .unset] [(.int (2 : Int32))])) rfl (by rw [hml]; rfl) (argsL := [(.int (2 : Int32))]) (rest := []) (lenOf pd_11 rfl) rfl (by show 2 * 0 + _ ≤ _; exact Nat.le_of_eq rfl) (hb hby at_3) (fun _ _ => ⟨rfl, e0, (by decide : 0 + 2 ≤ _), (by decide : 0 + 32 ≤ _)⟩)
    dsimp only [Pt.U, Pt.locs, Pt.cells, Pt.slots] at X18 l18 y18 z18 st18 hQ18 hSn18 hgn18 hC18
    subst l18 y18 z18
    have X18 : Stand p l e room_1 (s.setVm T18.vm) m _ below meth c T18 _ _ _ := X18
    have hS18 := foldS hS0 (by rw [e0]; exact Z0) hSn18 hgn18
    have hown : (s.setVm T18.vm).vm.findClass "com/example/majra/majra/lang/ParameterKindNamedPinLaw" = some m.cls := by rw [show (s.setVm T18.vm).vm = T18.vm from rfl, hSn18.1.alike.findClass]; exact hown
    obtain ⟨x18_y, x18_d, x18_kd, rfl, Nq18, Kq18, u18_0, u18_1, u18_2, u18_3⟩ := hQ18
    have N18 := Fr.app N0 Nq18
    have hZ : Z.Warmed39 (s.setVm T18.vm).vm := State.Warmed39.trans (t := (s.setVm s.vm)) hZ hSn18.1
    have f18_0 := own_Sta_keep p_0 Kq18 ns0
    have f18_1 := own_Sta_keep p_2 Kq18 ns0
    have f18_2 := own_Sta_keep p_4 Kq18 ns0
    have f18_3 := own_Sta_keep p_5 Kq18 ns0
    have f18_4 := own_Sta_keep p_6 Kq18 ns0
    have f18_5 := own_Sta_keep p_7 Kq18 ns0
    have f18_6 := own_Sta_keep p_8 Kq18 ns0
    have f18_7 := p_9.keep Kq18
    have f18_8 := p_10.keep Kq18 nin0
    have f18_9 := p_11.keep Kq18 nin0
    have f18_10 := p_12.keep Kq18
    have f18_11 := p_13.keep Kq18 nin0
    have f18_12 := p_14.keep Kq18 nin0
    have f18_13 := p_15.keep Kq18 nin0
    have f18_14 := p_16.keep Kq18 nin0
    have f18_15 := p_17.keep Kq18
    have f18_16 := p_18.keep Kq18 nin0
    have f18_17 := p_19.keep Kq18 nin0
    have f18_18 := p_20.keep Kq18 nin0
    have f18_19 := p_21.keep Kq18 nin0
    have f18_20 := p_22.keep Kq18
    have f18_21 := p_23.keep Kq18 nin0
    have f18_22 := p_24.keep Kq18 nin0
    have f18_23 := p_25.keep Kq18 nin0
    have f18_24 := p_26.keep Kq18 nin0
    have f18_25 := p_27.keep Kq18
    have f18_26 := p_28.keep Kq18 nin0
    have f18_27 := p_29.keep Kq18 nin0
    have f18_28 := p_30.keep Kq18 nin0
    have C18 := C0.trans hC18
    have Ks18 := Nat.le_trans Z0 Kq18.1
    have Zs18 : n0 ≤ T18.heap.size := Nat.le_trans Z0 Kq18.1
    refine own_stH (fun _ kk_ => st18.trans kk_) ?_
    show own_GoesH _ _ _ _ _ _ _ _ _ T18 (mkF m 6 #[iv p1, iv p2, iv p3, iv p4, .unset, .unset, .unset, .unset, .unset, .unset, .unset, .unset, .unset, .unset, .unset, .unset, .unset, .unset, .unset, .unset] [(.ref x18_y)])
    refine own_stH (fun _ kk_ => XS.astore X18.here hx rfl (hb hby at_6) rfl rfl (l' := #[iv p1, iv p2, iv p3, iv p4, rv x18_y, .unset, .unset, .unset, .unset, .unset, .unset, .unset, .unset, .unset, .unset, .unset, .unset, .unset, .unset, .unset]) rfl (XS.iloadN X18.here hx rfl (hb hby at_8) rfl (XS.bipush X18.here hx rfl (hb hby at_9) (XS.iand X18.here hx rfl (hb hby at_11) rfl (XS.istore X18.here hx rfl (hb hby at_12) rfl (l' := #[iv p1, iv p2, iv p3, iv p4, rv x18_y, iv (p2 &&& (7 : Int32)), .unset, .unset, .unset, .unset, .unset, .unset, .unset, .unset, .unset, .unset, .unset, .unset, .unset, .unset]) rfl (XS.iloadN X18.here hx rfl (hb hby at_14) rfl (XS.iconst X18.here hx rfl (hb hby at_15) (XS.iushr X18.here hx rfl (hb hby at_16) rfl (XS.iconst X18.here hx rfl (hb hby at_17) (XS.iand X18.here hx rfl (hb hby at_18) rfl kk_)))))))))) ?_
    show own_GoesH _ _ _ _ _ _ _ _ _ T18 (mkF m 19 #[iv p1, iv p2, iv p3, iv p4, rv x18_y, iv (p2 &&& (7 : Int32)), .unset, .unset, .unset, .unset, .unset, .unset, .unset, .unset, .unset, .unset, .unset, .unset, .unset, .unset] [(.int (((p1.toUInt32 >>> ((2 : Int32) &&& 31).toUInt32).toInt32) &&& (1 : Int32)))])
    have J27 : ∀ (mu : Int32), own_GoesH p e below s Z consts_1 (Q0 Z p1 p2 p3 p4 cs f9 va vk s0 s1 s2 s3 k0a k0b k0c k1a k1b k1c k2a k2b k2c k3a k3b k3c h0 n0) 32 5248 T18 (mkF m 27 #[iv p1, iv p2, iv p3, iv p4, rv x18_y, iv (p2 &&& (7 : Int32)), .unset, .unset, .unset, .unset, .unset, .unset, .unset, .unset, .unset, .unset, .unset, .unset, .unset, .unset] [(.int mu)]) := by
      intro mu
      show own_GoesH _ _ _ _ _ _ _ _ _ T18 (mkF m 27 #[iv p1, iv p2, iv p3, iv p4, rv x18_y, iv (p2 &&& (7 : Int32)), .unset, .unset, .unset, .unset, .unset, .unset, .unset, .unset, .unset, .unset, .unset, .unset, .unset, .unset] [(.int mu)])
      refine own_stH (fun _ kk_ => XS.istore X18.here hx rfl (hb hby at_27) rfl (l' := #[iv p1, iv p2, iv p3, iv p4, rv x18_y, iv (p2 &&& (7 : Int32)), iv mu, .unset, .unset, .unset, .unset, .unset, .unset, .unset, .unset, .unset, .unset, .unset, .unset, .unset]) rfl (XS.iloadN X18.here hx rfl (hb hby at_29) rfl (XS.bipush X18.here hx rfl (hb hby at_30) (XS.iand X18.here hx rfl (hb hby at_32) rfl (XS.istore X18.here hx rfl (hb hby at_33) rfl (l' := #[iv p1, iv p2, iv p3, iv p4, rv x18_y, iv (p2 &&& (7 : Int32)), iv mu, iv (p3 &&& (7 : Int32)), .unset, .unset, .unset, .unset, .unset, .unset, .unset, .unset, .unset, .unset, .unset, .unset]) rfl (XS.iloadN X18.here hx rfl (hb hby at_35) rfl (XS.sipush X18.here hx rfl (hb hby at_36) (XS.iand X18.here hx rfl (hb hby at_39) rfl (XS.i2c X18.here hx rfl (hb hby at_40) rfl (XS.istore X18.here hx rfl (hb hby at_41) rfl (l' := #[iv p1, iv p2, iv p3, iv p4, rv x18_y, iv (p2 &&& (7 : Int32)), iv mu, iv (p3 &&& (7 : Int32)), iv ((p4 &&& (255 : Int32)).toUInt32.toUInt16.toUInt32.toInt32), .unset, .unset, .unset, .unset, .unset, .unset, .unset, .unset, .unset, .unset, .unset]) rfl kk_)))))))))) ?_
      show own_GoesH _ _ _ _ _ _ _ _ _ T18 (mkF m 43 #[iv p1, iv p2, iv p3, iv p4, rv x18_y, iv (p2 &&& (7 : Int32)), iv mu, iv (p3 &&& (7 : Int32)), iv ((p4 &&& (255 : Int32)).toUInt32.toUInt16.toUInt32.toInt32), .unset, .unset, .unset, .unset, .unset, .unset, .unset, .unset, .unset, .unset, .unset] [])
      have him := own_inv p4
      obtain ⟨mm, h_mm⟩ : ∃ z, z = ((p4 &&& (255 : Int32)).toUInt32.toUInt16.toUInt32.toInt32) := ⟨_, rfl⟩
      rw [← h_mm]
      show own_GoesH _ _ _ _ _ _ _ _ _ T18 (mkF m 43 #[iv p1, iv p2, iv p3, iv p4, rv x18_y, iv (p2 &&& (7 : Int32)), iv mu, iv (p3 &&& (7 : Int32)), iv mm, .unset, .unset, .unset, .unset, .unset, .unset, .unset, .unset, .unset, .unset, .unset] [])
      rw [← h_mm] at him
      refine own_stH (fun _ kk_ => XS.iloadN X18.here hx rfl (hb hby at_43) rfl (XS.bipush X18.here hx rfl (hb hby at_44) (XS.iushr X18.here hx rfl (hb hby at_46) rfl (XS.sipush X18.here hx rfl (hb hby at_47) (XS.iand X18.here hx rfl (hb hby at_50) rfl (XS.i2c X18.here hx rfl (hb hby at_51) rfl (XS.istore X18.here hx rfl (hb hby at_52) rfl (l' := #[iv p1, iv p2, iv p3, iv p4, rv x18_y, iv (p2 &&& (7 : Int32)), iv mu, iv (p3 &&& (7 : Int32)), iv mm, iv ((((p4.toUInt32 >>> ((8 : Int32) &&& 31).toUInt32).toInt32) &&& (255 : Int32)).toUInt32.toUInt16.toUInt32.toInt32), .unset, .unset, .unset, .unset, .unset, .unset, .unset, .unset, .unset, .unset]) rfl kk_))))))) ?_
      show own_GoesH _ _ _ _ _ _ _ _ _ T18 (mkF m 54 #[iv p1, iv p2, iv p3, iv p4, rv x18_y, iv (p2 &&& (7 : Int32)), iv mu, iv (p3 &&& (7 : Int32)), iv mm, iv ((((p4.toUInt32 >>> ((8 : Int32) &&& 31).toUInt32).toInt32) &&& (255 : Int32)).toUInt32.toUInt16.toUInt32.toInt32), .unset, .unset, .unset, .unset, .unset, .unset, .unset, .unset, .unset, .unset] [])
      have hif := own_inv ((p4.toUInt32 >>> ((8 : Int32) &&& 31).toUInt32).toInt32)
      obtain ⟨fi, h_fi⟩ : ∃ z, z = ((((p4.toUInt32 >>> ((8 : Int32) &&& 31).toUInt32).toInt32) &&& (255 : Int32)).toUInt32.toUInt16.toUInt32.toInt32) := ⟨_, rfl⟩
      rw [← h_fi]
      show own_GoesH _ _ _ _ _ _ _ _ _ T18 (mkF m 54 #[iv p1, iv p2, iv p3, iv p4, rv x18_y, iv (p2 &&& (7 : Int32)), iv mu, iv (p3 &&& (7 : Int32)), iv mm, iv fi, .unset, .unset, .unset, .unset, .unset, .unset, .unset, .unset, .unset, .unset] [])
      rw [← h_fi] at hif
      refine own_stH (fun _ kk_ => XS.aload X18.here hx rfl (hb hby at_54) rfl rfl (XS.iconst X18.here hx rfl (hb hby at_56) (XS.iload X18.here hx rfl (hb hby at_57) rfl (XS.iload X18.here hx rfl (hb hby at_59) rfl (XS.iload X18.here hx rfl (hb hby at_61) rfl (XS.iload X18.here hx rfl (hb hby at_63) rfl kk_)))))) ?_
      show own_GoesH _ _ _ _ _ _ _ _ _ T18 (mkF m 65 #[iv p1, iv p2, iv p3, iv p4, rv x18_y, iv (p2 &&& (7 : Int32)), iv mu, iv (p3 &&& (7 : Int32)), iv mm, iv fi, .unset, .unset, .unset, .unset, .unset, .unset, .unset, .unset, .unset, .unset] [(.int fi), (.int mm), (.int (p3 &&& (7 : Int32))), (.int mu), (.int (0 : Int32)), (.ref x18_y)])
      obtain ⟨_, _, ⟨T19, L19, k19, n19⟩, -, X19, ⟨Lc19, hQ19, l19, y19, z19⟩, st19⟩ := Jvm.LawKit.callS X18 hx (y := yy7) hown (mvT hZ (own_w hw 12 rfl)) (mvT hZ (own_w hw 13 rfl)) (mvT hZ (own_w hw 2 rfl)) (mvT hZ (own_w hw 14 rfl)) (by decide) (backOf (W := 0) (rm2 l Z a0 hw [] (x18_y) ((0 : Int32)) (mu) ((p3 &&& (7 : Int32))) (mm) (fi) (x18_d) (x18_kd) ((7 : Int32)) ([(.int (98 : Int32)), (.int (111 : Int32)), (.int (111 : Int32)), (.int (108 : Int32)), (.int (101 : Int32)), (.int (97 : Int32)), (.int (110 : Int32))]) (cs) f9 T18.heap n0 Zs18 u18_0 u18_1 u18_2 u18_3 (by simp) f18_0 (by assumption) f18_1 (by assumption) (by decide) him hif) hZ (own_w hw 14 rfl) (own_w hw 2 rfl) (by decide) (by decide)) (g := (mkF m 65 #[iv p1, iv p2, iv p3, iv p4, rv x18_y, iv (p2 &&& (7 : Int32)), iv mu, iv (p3 &&& (7 : Int32)), iv mm, iv fi, .unset, .unset, .unset, .unset, .unset, .unset, .unset, .unset, .unset, .unset] [(.int fi), (.int mm), (.int (p3 &&& (7 : Int32))), (.int mu), (.int (0 : Int32)), (.ref x18_y)])) rfl (by rw [hml]; rfl) (argsL := [(.ref x18_y), (.int (0 : Int32)), (.int mu), (.int (p3 &&& (7 : Int32))), (.int mm), (.int fi)]) (rest := []) (lenOf pd_12 rfl) rfl (by show 2 * 0 + _ ≤ _; exact Nat.le_of_eq rfl) (hb hby at_65) (fun _ _ => ⟨rfl, rfl, (by decide : 2 + 0 ≤ _), (by decide : 32 + 0 ≤ _)⟩)
      dsimp only [Pt.U, Pt.locs, Pt.cells, Pt.slots] at X19 l19 y19 z19 st19 hQ19
      subst l19 y19 z19
      obtain ⟨x19_r, rfl, Nq19, eq19, u19_0⟩ := hQ19
      have N19 := Fr.app N18 Nq19
      refine own_stH st19 ?_
      show own_GoesH _ _ _ _ _ _ _ _ _ T19 (mkF m 68 #[iv p1, iv p2, iv p3, iv p4, rv x18_y, iv (p2 &&& (7 : Int32)), iv mu, iv (p3 &&& (7 : Int32)), iv mm, iv fi, .unset, .unset, .unset, .unset, .unset, .unset, .unset, .unset, .unset, .unset] [(.int x19_r)])
      refine own_stH (fun _ kk_ => XS.istore X19.here hx rfl (hb hby at_68) rfl (l' := #[iv p1, iv p2, iv p3, iv p4, rv x18_y, iv (p2 &&& (7 : Int32)), iv mu, iv (p3 &&& (7 : Int32)), iv mm, iv fi, iv x19_r, .unset, .unset, .unset, .unset, .unset, .unset, .unset, .unset, .unset]) rfl (XS.aload X19.here hx rfl (hb hby at_70) rfl rfl (XS.iconst X19.here hx rfl (hb hby at_72) (XS.iload X19.here hx rfl (hb hby at_73) rfl (XS.iload X19.here hx rfl (hb hby at_75) rfl (XS.iload X19.here hx rfl (hb hby at_77) rfl (XS.iload X19.here hx rfl (hb hby at_79) rfl kk_))))))) ?_
      show own_GoesH _ _ _ _ _ _ _ _ _ T19 (mkF m 81 #[iv p1, iv p2, iv p3, iv p4, rv x18_y, iv (p2 &&& (7 : Int32)), iv mu, iv (p3 &&& (7 : Int32)), iv mm, iv fi, iv x19_r, .unset, .unset, .unset, .unset, .unset, .unset, .unset, .unset, .unset] [(.int fi), (.int mm), (.int (p3 &&& (7 : Int32))), (.int mu), (.int (1 : Int32)), (.ref x18_y)])
      obtain ⟨_, _, ⟨T20, L20, k20, n20⟩, -, X20, ⟨Lc20, hQ20, l20, y20, z20⟩, st20⟩ := Jvm.LawKit.callS X19 hx (y := yy7) hown (mvT hZ (own_w hw 12 rfl)) (mvT hZ (own_w hw 13 rfl)) (mvT hZ (own_w hw 2 rfl)) (mvT hZ (own_w hw 14 rfl)) (by decide) (backOf (W := 0) (rm2 l Z a0 hw [] (x18_y) ((1 : Int32)) (mu) ((p3 &&& (7 : Int32))) (mm) (fi) (x18_d) (x18_kd) ((7 : Int32)) ([(.int (98 : Int32)), (.int (111 : Int32)), (.int (111 : Int32)), (.int (108 : Int32)), (.int (101 : Int32)), (.int (97 : Int32)), (.int (110 : Int32))]) (cs) f9 T18.heap n0 Zs18 u18_0 u18_1 u18_2 u18_3 (by simp) f18_0 (by assumption) f18_1 (by assumption) (by decide) him hif) hZ (own_w hw 14 rfl) (own_w hw 2 rfl) (by decide) (by decide)) (g := (mkF m 81 #[iv p1, iv p2, iv p3, iv p4, rv x18_y, iv (p2 &&& (7 : Int32)), iv mu, iv (p3 &&& (7 : Int32)), iv mm, iv fi, iv x19_r, .unset, .unset, .unset, .unset, .unset, .unset, .unset, .unset, .unset] [(.int fi), (.int mm), (.int (p3 &&& (7 : Int32))), (.int mu), (.int (1 : Int32)), (.ref x18_y)])) rfl (by rw [hml]; rfl) (argsL := [(.ref x18_y), (.int (1 : Int32)), (.int mu), (.int (p3 &&& (7 : Int32))), (.int mm), (.int fi)]) (rest := []) (lenOf pd_12 rfl) rfl (by show 2 * 0 + _ ≤ _; exact Nat.le_of_eq rfl) (hb hby at_81) (fun _ _ => ⟨rfl, eq19, (by decide : 2 + 0 ≤ _), (by decide : 32 + 0 ≤ _)⟩)
      dsimp only [Pt.U, Pt.locs, Pt.cells, Pt.slots] at X20 l20 y20 z20 st20 hQ20
      subst l20 y20 z20
      obtain ⟨x20_r, rfl, Nq20, eq20, u20_0⟩ := hQ20
      have N20 := Fr.app N19 Nq20
      refine own_stH st20 ?_
      show own_GoesH _ _ _ _ _ _ _ _ _ T20 (mkF m 84 #[iv p1, iv p2, iv p3, iv p4, rv x18_y, iv (p2 &&& (7 : Int32)), iv mu, iv (p3 &&& (7 : Int32)), iv mm, iv fi, iv x19_r, .unset, .unset, .unset, .unset, .unset, .unset, .unset, .unset, .unset] [(.int x20_r)])
      refine own_stH (fun _ kk_ => XS.istore X20.here hx rfl (hb hby at_84) rfl (l' := #[iv p1, iv p2, iv p3, iv p4, rv x18_y, iv (p2 &&& (7 : Int32)), iv mu, iv (p3 &&& (7 : Int32)), iv mm, iv fi, iv x19_r, iv x20_r, .unset, .unset, .unset, .unset, .unset, .unset, .unset, .unset]) rfl (XS.aload X20.here hx rfl (hb hby at_86) rfl rfl (XS.iconst X20.here hx rfl (hb hby at_88) (XS.iload X20.here hx rfl (hb hby at_89) rfl (XS.iload X20.here hx rfl (hb hby at_91) rfl (XS.iload X20.here hx rfl (hb hby at_93) rfl (XS.iload X20.here hx rfl (hb hby at_95) rfl kk_))))))) ?_
      show own_GoesH _ _ _ _ _ _ _ _ _ T20 (mkF m 97 #[iv p1, iv p2, iv p3, iv p4, rv x18_y, iv (p2 &&& (7 : Int32)), iv mu, iv (p3 &&& (7 : Int32)), iv mm, iv fi, iv x19_r, iv x20_r, .unset, .unset, .unset, .unset, .unset, .unset, .unset, .unset] [(.int fi), (.int mm), (.int (p3 &&& (7 : Int32))), (.int mu), (.int (2 : Int32)), (.ref x18_y)])
      obtain ⟨_, _, ⟨T21, L21, k21, n21⟩, -, X21, ⟨Lc21, hQ21, l21, y21, z21⟩, st21⟩ := Jvm.LawKit.callS X20 hx (y := yy7) hown (mvT hZ (own_w hw 12 rfl)) (mvT hZ (own_w hw 13 rfl)) (mvT hZ (own_w hw 2 rfl)) (mvT hZ (own_w hw 14 rfl)) (by decide) (backOf (W := 0) (rm2 l Z a0 hw [] (x18_y) ((2 : Int32)) (mu) ((p3 &&& (7 : Int32))) (mm) (fi) (x18_d) (x18_kd) ((7 : Int32)) ([(.int (98 : Int32)), (.int (111 : Int32)), (.int (111 : Int32)), (.int (108 : Int32)), (.int (101 : Int32)), (.int (97 : Int32)), (.int (110 : Int32))]) (cs) f9 T18.heap n0 Zs18 u18_0 u18_1 u18_2 u18_3 (by simp) f18_0 (by assumption) f18_1 (by assumption) (by decide) him hif) hZ (own_w hw 14 rfl) (own_w hw 2 rfl) (by decide) (by decide)) (g := (mkF m 97 #[iv p1, iv p2, iv p3, iv p4, rv x18_y, iv (p2 &&& (7 : Int32)), iv mu, iv (p3 &&& (7 : Int32)), iv mm, iv fi, iv x19_r, iv x20_r, .unset, .unset, .unset, .unset, .unset, .unset, .unset, .unset] [(.int fi), (.int mm), (.int (p3 &&& (7 : Int32))), (.int mu), (.int (2 : Int32)), (.ref x18_y)])) rfl (by rw [hml]; rfl) (argsL := [(.ref x18_y), (.int (2 : Int32)), (.int mu), (.int (p3 &&& (7 : Int32))), (.int mm), (.int fi)]) (rest := []) (lenOf pd_12 rfl) rfl (by show 2 * 0 + _ ≤ _; exact Nat.le_of_eq rfl) (hb hby at_97) (fun _ _ => ⟨rfl, eq20, (by decide : 2 + 0 ≤ _), (by decide : 32 + 0 ≤ _)⟩)
      dsimp only [Pt.U, Pt.locs, Pt.cells, Pt.slots] at X21 l21 y21 z21 st21 hQ21
      subst l21 y21 z21
      obtain ⟨x21_r, rfl, Nq21, eq21, u21_0⟩ := hQ21
      have N21 := Fr.app N20 Nq21
      refine own_stH st21 ?_
      show own_GoesH _ _ _ _ _ _ _ _ _ T21 (mkF m 100 #[iv p1, iv p2, iv p3, iv p4, rv x18_y, iv (p2 &&& (7 : Int32)), iv mu, iv (p3 &&& (7 : Int32)), iv mm, iv fi, iv x19_r, iv x20_r, .unset, .unset, .unset, .unset, .unset, .unset, .unset, .unset] [(.int x21_r)])
      refine own_stH (fun _ kk_ => XS.istore X21.here hx rfl (hb hby at_100) rfl (l' := #[iv p1, iv p2, iv p3, iv p4, rv x18_y, iv (p2 &&& (7 : Int32)), iv mu, iv (p3 &&& (7 : Int32)), iv mm, iv fi, iv x19_r, iv x20_r, iv x21_r, .unset, .unset, .unset, .unset, .unset, .unset, .unset]) rfl (XS.aload X21.here hx rfl (hb hby at_102) rfl rfl (XS.iconst X21.here hx rfl (hb hby at_104) (XS.iload X21.here hx rfl (hb hby at_105) rfl (XS.iload X21.here hx rfl (hb hby at_107) rfl (XS.iload X21.here hx rfl (hb hby at_109) rfl (XS.iload X21.here hx rfl (hb hby at_111) rfl kk_))))))) ?_
      show own_GoesH _ _ _ _ _ _ _ _ _ T21 (mkF m 113 #[iv p1, iv p2, iv p3, iv p4, rv x18_y, iv (p2 &&& (7 : Int32)), iv mu, iv (p3 &&& (7 : Int32)), iv mm, iv fi, iv x19_r, iv x20_r, iv x21_r, .unset, .unset, .unset, .unset, .unset, .unset, .unset] [(.int fi), (.int mm), (.int (p3 &&& (7 : Int32))), (.int mu), (.int (3 : Int32)), (.ref x18_y)])
      obtain ⟨_, _, ⟨T22, L22, k22, n22⟩, -, X22, ⟨Lc22, hQ22, l22, y22, z22⟩, st22⟩ := Jvm.LawKit.callS X21 hx (y := yy7) hown (mvT hZ (own_w hw 12 rfl)) (mvT hZ (own_w hw 13 rfl)) (mvT hZ (own_w hw 2 rfl)) (mvT hZ (own_w hw 14 rfl)) (by decide) (backOf (W := 0) (rm2 l Z a0 hw [] (x18_y) ((3 : Int32)) (mu) ((p3 &&& (7 : Int32))) (mm) (fi) (x18_d) (x18_kd) ((7 : Int32)) ([(.int (98 : Int32)), (.int (111 : Int32)), (.int (111 : Int32)), (.int (108 : Int32)), (.int (101 : Int32)), (.int (97 : Int32)), (.int (110 : Int32))]) (cs) f9 T18.heap n0 Zs18 u18_0 u18_1 u18_2 u18_3 (by simp) f18_0 (by assumption) f18_1 (by assumption) (by decide) him hif) hZ (own_w hw 14 rfl) (own_w hw 2 rfl) (by decide) (by decide)) (g := (mkF m 113 #[iv p1, iv p2, iv p3, iv p4, rv x18_y, iv (p2 &&& (7 : Int32)), iv mu, iv (p3 &&& (7 : Int32)), iv mm, iv fi, iv x19_r, iv x20_r, iv x21_r, .unset, .unset, .unset, .unset, .unset, .unset, .unset] [(.int fi), (.int mm), (.int (p3 &&& (7 : Int32))), (.int mu), (.int (3 : Int32)), (.ref x18_y)])) rfl (by rw [hml]; rfl) (argsL := [(.ref x18_y), (.int (3 : Int32)), (.int mu), (.int (p3 &&& (7 : Int32))), (.int mm), (.int fi)]) (rest := []) (lenOf pd_12 rfl) rfl (by show 2 * 0 + _ ≤ _; exact Nat.le_of_eq rfl) (hb hby at_113) (fun _ _ => ⟨rfl, eq21, (by decide : 2 + 0 ≤ _), (by decide : 32 + 0 ≤ _)⟩)
      dsimp only [Pt.U, Pt.locs, Pt.cells, Pt.slots] at X22 l22 y22 z22 st22 hQ22
      subst l22 y22 z22
      obtain ⟨x22_r, rfl, Nq22, eq22, u22_0⟩ := hQ22
      have N22 := Fr.app N21 Nq22
      refine own_stH st22 ?_
      show own_GoesH _ _ _ _ _ _ _ _ _ T22 (mkF m 116 #[iv p1, iv p2, iv p3, iv p4, rv x18_y, iv (p2 &&& (7 : Int32)), iv mu, iv (p3 &&& (7 : Int32)), iv mm, iv fi, iv x19_r, iv x20_r, iv x21_r, .unset, .unset, .unset, .unset, .unset, .unset, .unset] [(.int x22_r)])
      refine own_stH (fun _ kk_ => XS.istore X22.here hx rfl (hb hby at_116) rfl (l' := #[iv p1, iv p2, iv p3, iv p4, rv x18_y, iv (p2 &&& (7 : Int32)), iv mu, iv (p3 &&& (7 : Int32)), iv mm, iv fi, iv x19_r, iv x20_r, iv x21_r, iv x22_r, .unset, .unset, .unset, .unset, .unset, .unset]) rfl (XS.aload X22.here hx rfl (hb hby at_118) rfl rfl (XS.iconst X22.here hx rfl (hb hby at_120) (XS.iload X22.here hx rfl (hb hby at_121) rfl (XS.iload X22.here hx rfl (hb hby at_123) rfl (XS.iload X22.here hx rfl (hb hby at_125) rfl (XS.iload X22.here hx rfl (hb hby at_127) rfl kk_))))))) ?_
      show own_GoesH _ _ _ _ _ _ _ _ _ T22 (mkF m 129 #[iv p1, iv p2, iv p3, iv p4, rv x18_y, iv (p2 &&& (7 : Int32)), iv mu, iv (p3 &&& (7 : Int32)), iv mm, iv fi, iv x19_r, iv x20_r, iv x21_r, iv x22_r, .unset, .unset, .unset, .unset, .unset, .unset] [(.int fi), (.int mm), (.int (p3 &&& (7 : Int32))), (.int mu), (.int (4 : Int32)), (.ref x18_y)])
      obtain ⟨_, _, ⟨T23, L23, k23, n23⟩, -, X23, ⟨Lc23, hQ23, l23, y23, z23⟩, st23⟩ := Jvm.LawKit.callS X22 hx (y := yy7) hown (mvT hZ (own_w hw 12 rfl)) (mvT hZ (own_w hw 13 rfl)) (mvT hZ (own_w hw 2 rfl)) (mvT hZ (own_w hw 14 rfl)) (by decide) (backOf (W := 0) (rm2 l Z a0 hw [] (x18_y) ((4 : Int32)) (mu) ((p3 &&& (7 : Int32))) (mm) (fi) (x18_d) (x18_kd) ((7 : Int32)) ([(.int (98 : Int32)), (.int (111 : Int32)), (.int (111 : Int32)), (.int (108 : Int32)), (.int (101 : Int32)), (.int (97 : Int32)), (.int (110 : Int32))]) (cs) f9 T18.heap n0 Zs18 u18_0 u18_1 u18_2 u18_3 (by simp) f18_0 (by assumption) f18_1 (by assumption) (by decide) him hif) hZ (own_w hw 14 rfl) (own_w hw 2 rfl) (by decide) (by decide)) (g := (mkF m 129 #[iv p1, iv p2, iv p3, iv p4, rv x18_y, iv (p2 &&& (7 : Int32)), iv mu, iv (p3 &&& (7 : Int32)), iv mm, iv fi, iv x19_r, iv x20_r, iv x21_r, iv x22_r, .unset, .unset, .unset, .unset, .unset, .unset] [(.int fi), (.int mm), (.int (p3 &&& (7 : Int32))), (.int mu), (.int (4 : Int32)), (.ref x18_y)])) rfl (by rw [hml]; rfl) (argsL := [(.ref x18_y), (.int (4 : Int32)), (.int mu), (.int (p3 &&& (7 : Int32))), (.int mm), (.int fi)]) (rest := []) (lenOf pd_12 rfl) rfl (by show 2 * 0 + _ ≤ _; exact Nat.le_of_eq rfl) (hb hby at_129) (fun _ _ => ⟨rfl, eq22, (by decide : 2 + 0 ≤ _), (by decide : 32 + 0 ≤ _)⟩)
      dsimp only [Pt.U, Pt.locs, Pt.cells, Pt.slots] at X23 l23 y23 z23 st23 hQ23
      subst l23 y23 z23
      obtain ⟨x23_r, rfl, Nq23, eq23, u23_0⟩ := hQ23
      have N23 := Fr.app N22 Nq23
      refine own_stH st23 ?_
      show own_GoesH _ _ _ _ _ _ _ _ _ T23 (mkF m 132 #[iv p1, iv p2, iv p3, iv p4, rv x18_y, iv (p2 &&& (7 : Int32)), iv mu, iv (p3 &&& (7 : Int32)), iv mm, iv fi, iv x19_r, iv x20_r, iv x21_r, iv x22_r, .unset, .unset, .unset, .unset, .unset, .unset] [(.int x23_r)])
      refine own_stH (fun _ kk_ => XS.istore X23.here hx rfl (hb hby at_132) rfl (l' := #[iv p1, iv p2, iv p3, iv p4, rv x18_y, iv (p2 &&& (7 : Int32)), iv mu, iv (p3 &&& (7 : Int32)), iv mm, iv fi, iv x19_r, iv x20_r, iv x21_r, iv x22_r, iv x23_r, .unset, .unset, .unset, .unset, .unset]) rfl (XS.aload X23.here hx rfl (hb hby at_134) rfl rfl (XS.iconst X23.here hx rfl (hb hby at_136) (XS.iload X23.here hx rfl (hb hby at_137) rfl (XS.iload X23.here hx rfl (hb hby at_139) rfl (XS.iload X23.here hx rfl (hb hby at_141) rfl (XS.iload X23.here hx rfl (hb hby at_143) rfl kk_))))))) ?_
      show own_GoesH _ _ _ _ _ _ _ _ _ T23 (mkF m 145 #[iv p1, iv p2, iv p3, iv p4, rv x18_y, iv (p2 &&& (7 : Int32)), iv mu, iv (p3 &&& (7 : Int32)), iv mm, iv fi, iv x19_r, iv x20_r, iv x21_r, iv x22_r, iv x23_r, .unset, .unset, .unset, .unset, .unset] [(.int fi), (.int mm), (.int (p3 &&& (7 : Int32))), (.int mu), (.int (5 : Int32)), (.ref x18_y)])
      obtain ⟨_, _, ⟨T24, L24, k24, n24⟩, -, X24, ⟨Lc24, hQ24, l24, y24, z24⟩, st24⟩ := Jvm.LawKit.callS X23 hx (y := yy7) hown (mvT hZ (own_w hw 12 rfl)) (mvT hZ (own_w hw 13 rfl)) (mvT hZ (own_w hw 2 rfl)) (mvT hZ (own_w hw 14 rfl)) (by decide) (backOf (W := 0) (rm2 l Z a0 hw [] (x18_y) ((5 : Int32)) (mu) ((p3 &&& (7 : Int32))) (mm) (fi) (x18_d) (x18_kd) ((7 : Int32)) ([(.int (98 : Int32)), (.int (111 : Int32)), (.int (111 : Int32)), (.int (108 : Int32)), (.int (101 : Int32)), (.int (97 : Int32)), (.int (110 : Int32))]) (cs) f9 T18.heap n0 Zs18 u18_0 u18_1 u18_2 u18_3 (by simp) f18_0 (by assumption) f18_1 (by assumption) (by decide) him hif) hZ (own_w hw 14 rfl) (own_w hw 2 rfl) (by decide) (by decide)) (g := (mkF m 145 #[iv p1, iv p2, iv p3, iv p4, rv x18_y, iv (p2 &&& (7 : Int32)), iv mu, iv (p3 &&& (7 : Int32)), iv mm, iv fi, iv x19_r, iv x20_r, iv x21_r, iv x22_r, iv x23_r, .unset, .unset, .unset, .unset, .unset] [(.int fi), (.int mm), (.int (p3 &&& (7 : Int32))), (.int mu), (.int (5 : Int32)), (.ref x18_y)])) rfl (by rw [hml]; rfl) (argsL := [(.ref x18_y), (.int (5 : Int32)), (.int mu), (.int (p3 &&& (7 : Int32))), (.int mm), (.int fi)]) (rest := []) (lenOf pd_12 rfl) rfl (by show 2 * 0 + _ ≤ _; exact Nat.le_of_eq rfl) (hb hby at_145) (fun _ _ => ⟨rfl, eq23, (by decide : 2 + 0 ≤ _), (by decide : 32 + 0 ≤ _)⟩)
      dsimp only [Pt.U, Pt.locs, Pt.cells, Pt.slots] at X24 l24 y24 z24 st24 hQ24
      subst l24 y24 z24
      obtain ⟨x24_r, rfl, Nq24, eq24, u24_0⟩ := hQ24
      have N24 := Fr.app N23 Nq24
      refine own_stH st24 ?_
      show own_GoesH _ _ _ _ _ _ _ _ _ T24 (mkF m 148 #[iv p1, iv p2, iv p3, iv p4, rv x18_y, iv (p2 &&& (7 : Int32)), iv mu, iv (p3 &&& (7 : Int32)), iv mm, iv fi, iv x19_r, iv x20_r, iv x21_r, iv x22_r, iv x23_r, .unset, .unset, .unset, .unset, .unset] [(.int x24_r)])
      refine own_stH (fun _ kk_ => XS.istore X24.here hx rfl (hb hby at_148) rfl (l' := #[iv p1, iv p2, iv p3, iv p4, rv x18_y, iv (p2 &&& (7 : Int32)), iv mu, iv (p3 &&& (7 : Int32)), iv mm, iv fi, iv x19_r, iv x20_r, iv x21_r, iv x22_r, iv x23_r, iv x24_r, .unset, .unset, .unset, .unset]) rfl (XS.aload X24.here hx rfl (hb hby at_150) rfl rfl (XS.bipush X24.here hx rfl (hb hby at_152) (XS.iload X24.here hx rfl (hb hby at_154) rfl (XS.iload X24.here hx rfl (hb hby at_156) rfl (XS.iload X24.here hx rfl (hb hby at_158) rfl (XS.iload X24.here hx rfl (hb hby at_160) rfl kk_))))))) ?_
      show own_GoesH _ _ _ _ _ _ _ _ _ T24 (mkF m 162 #[iv p1, iv p2, iv p3, iv p4, rv x18_y, iv (p2 &&& (7 : Int32)), iv mu, iv (p3 &&& (7 : Int32)), iv mm, iv fi, iv x19_r, iv x20_r, iv x21_r, iv x22_r, iv x23_r, iv x24_r, .unset, .unset, .unset, .unset] [(.int fi), (.int mm), (.int (p3 &&& (7 : Int32))), (.int mu), (.int (6 : Int32)), (.ref x18_y)])
      obtain ⟨_, _, ⟨T25, L25, k25, n25⟩, -, X25, ⟨Lc25, hQ25, l25, y25, z25⟩, st25⟩ := Jvm.LawKit.callS X24 hx (y := yy7) hown (mvT hZ (own_w hw 12 rfl)) (mvT hZ (own_w hw 13 rfl)) (mvT hZ (own_w hw 2 rfl)) (mvT hZ (own_w hw 14 rfl)) (by decide) (backOf (W := 0) (rm2 l Z a0 hw [] (x18_y) ((6 : Int32)) (mu) ((p3 &&& (7 : Int32))) (mm) (fi) (x18_d) (x18_kd) ((7 : Int32)) ([(.int (98 : Int32)), (.int (111 : Int32)), (.int (111 : Int32)), (.int (108 : Int32)), (.int (101 : Int32)), (.int (97 : Int32)), (.int (110 : Int32))]) (cs) f9 T18.heap n0 Zs18 u18_0 u18_1 u18_2 u18_3 (by simp) f18_0 (by assumption) f18_1 (by assumption) (by decide) him hif) hZ (own_w hw 14 rfl) (own_w hw 2 rfl) (by decide) (by decide)) (g := (mkF m 162 #[iv p1, iv p2, iv p3, iv p4, rv x18_y, iv (p2 &&& (7 : Int32)), iv mu, iv (p3 &&& (7 : Int32)), iv mm, iv fi, iv x19_r, iv x20_r, iv x21_r, iv x22_r, iv x23_r, iv x24_r, .unset, .unset, .unset, .unset] [(.int fi), (.int mm), (.int (p3 &&& (7 : Int32))), (.int mu), (.int (6 : Int32)), (.ref x18_y)])) rfl (by rw [hml]; rfl) (argsL := [(.ref x18_y), (.int (6 : Int32)), (.int mu), (.int (p3 &&& (7 : Int32))), (.int mm), (.int fi)]) (rest := []) (lenOf pd_12 rfl) rfl (by show 2 * 0 + _ ≤ _; exact Nat.le_of_eq rfl) (hb hby at_162) (fun _ _ => ⟨rfl, eq24, (by decide : 2 + 0 ≤ _), (by decide : 32 + 0 ≤ _)⟩)
      dsimp only [Pt.U, Pt.locs, Pt.cells, Pt.slots] at X25 l25 y25 z25 st25 hQ25
      subst l25 y25 z25
      obtain ⟨x25_r, rfl, Nq25, eq25, u25_0⟩ := hQ25
      have N25 := Fr.app N24 Nq25
      refine own_stH st25 ?_
      show own_GoesH _ _ _ _ _ _ _ _ _ T25 (mkF m 165 #[iv p1, iv p2, iv p3, iv p4, rv x18_y, iv (p2 &&& (7 : Int32)), iv mu, iv (p3 &&& (7 : Int32)), iv mm, iv fi, iv x19_r, iv x20_r, iv x21_r, iv x22_r, iv x23_r, iv x24_r, .unset, .unset, .unset, .unset] [(.int x25_r)])
      refine own_stH (fun _ kk_ => XS.istore X25.here hx rfl (hb hby at_165) rfl (l' := #[iv p1, iv p2, iv p3, iv p4, rv x18_y, iv (p2 &&& (7 : Int32)), iv mu, iv (p3 &&& (7 : Int32)), iv mm, iv fi, iv x19_r, iv x20_r, iv x21_r, iv x22_r, iv x23_r, iv x24_r, iv x25_r, .unset, .unset, .unset]) rfl kk_) ?_
      show own_GoesH _ _ _ _ _ _ _ _ _ T25 (mkF m 167 #[iv p1, iv p2, iv p3, iv p4, rv x18_y, iv (p2 &&& (7 : Int32)), iv mu, iv (p3 &&& (7 : Int32)), iv mm, iv fi, iv x19_r, iv x20_r, iv x21_r, iv x22_r, iv x23_r, iv x24_r, iv x25_r, .unset, .unset, .unset] [])
      exact J167 _ _ _ _ _ (x18_y) (mu) (mm) (fi) (x19_r) (x20_r) (x21_r) (x22_r) (x23_r) (x24_r) (x25_r) (X25.more (by decide) (by decide)) eq25 N25 Zs18 hS18 (Nat.le_refl T18.heap.size) hZ hown C18 f18_0 f18_1 f18_2 f18_3 f18_4 f18_5 f18_6 f18_7 f18_8 f18_9 f18_10 f18_11 f18_12 f18_13 f18_14 f18_15 f18_16 f18_17 f18_18 f18_19 f18_20 f18_21 f18_22 f18_23 f18_24 f18_25 f18_26 f18_27 f18_28 u19_0 u20_0 u21_0 u22_0 u23_0 u24_0 u25_0
    rcases Classical.em ((((p1.toUInt32 >>> ((2 : Int32) &&& 31).toUInt32).toInt32) &&& (1 : Int32)) = (0 : Int32)) with qmu | qmu
    · refine own_stH (fun _ kk_ => XS.ifYes X18.here hx rfl (pc0 := 19) (pc' := 26) rfl (hb hby at_19) rfl (XT.i0_eq_t qmu) (by decide) (by decide) (XS.iconst X18.here hx rfl (hb hby at_26) kk_)) ?_
      show own_GoesH _ _ _ _ _ _ _ _ _ T18 (mkF m 27 #[iv p1, iv p2, iv p3, iv p4, rv x18_y, iv (p2 &&& (7 : Int32)), .unset, .unset, .unset, .unset, .unset, .unset, .unset, .unset, .unset, .unset, .unset, .unset, .unset, .unset] [(.int (0 : Int32))])
      exact J27 ((0 : Int32))
    · refine own_stH (fun _ kk_ => XS.ifNo X18.here hx rfl (hb hby at_19) rfl (XT.i0_eq_f qmu) (XS.iconst X18.here hx rfl (hb hby at_22) (XS.goto X18.here hx rfl (pc0 := 23) (pc' := 27) rfl (hb hby at_23) (by decide) (by decide) kk_))) ?_
      show own_GoesH _ _ _ _ _ _ _ _ _ T18 (mkF m 27 #[iv p1, iv p2, iv p3, iv p4, rv x18_y, iv (p2 &&& (7 : Int32)), .unset, .unset, .unset, .unset, .unset, .unset, .unset, .unset, .unset, .unset, .unset, .unset, .unset, .unset] [(.int (1 : Int32))])
      exact J27 ((1 : Int32))
  · show own_GoesH _ _ _ _ _ _ _ _ _ s₁ (mkF m 3 #[iv p1, iv p2, iv p3, iv p4, .unset, .unset, .unset, .unset, .unset, .unset, .unset, .unset, .unset, .unset, .unset, .unset, .unset, .unset, .unset, .unset] [(.int (3 : Int32))])
    obtain ⟨_, _, ⟨T26, L26, k26, n26⟩, -, X26, hSn26, hgn26, ⟨Lc26, hQ26, l26, y26, z26, hC26⟩, st26⟩ := callSS X0 hx (y := yy8) hown (mvT hZ (own_w hw 0 rfl)) (mvT hZ (own_w hw 1 rfl)) (mvT hZ (own_w hw 2 rfl)) (mvT hZ (own_w hw 3 rfl)) (by decide) (own_backH (sl := []) (W := 0) (rm1_3 l Z a0 hw [] hEL  h0 n0 Z0) hZ (own_w hw 3 rfl) (own_w hw 2 rfl) (by decide) (by decide) hEL C0.1 own_sn) (g := (mkF m 3 #[iv p1, iv p2, iv p3, iv p4, .unset, .unset, .unset, .unset, .unset, .unset, .unset, .unset, .unset, .unset, .unset, .unset, .unset, .unset, .unset, .unset] [(.int (3 : Int32))])) rfl (by rw [hml]; rfl) (argsL := [(.int (3 : Int32))]) (rest := []) (lenOf pd_11 rfl) rfl (by show 2 * 0 + _ ≤ _; exact Nat.le_of_eq rfl) (hb hby at_3) (fun _ _ => ⟨rfl, e0, (by decide : 0 + 2 ≤ _), (by decide : 0 + 28 ≤ _)⟩)
    dsimp only [Pt.U, Pt.locs, Pt.cells, Pt.slots] at X26 l26 y26 z26 st26 hQ26 hSn26 hgn26 hC26
    subst l26 y26 z26
    have X26 : Stand p l e room_1 (s.setVm T26.vm) m _ below meth c T26 _ _ _ := X26
    have hS26 := foldS hS0 (by rw [e0]; exact Z0) hSn26 hgn26
    have hown : (s.setVm T26.vm).vm.findClass "com/example/majra/majra/lang/ParameterKindNamedPinLaw" = some m.cls := by rw [show (s.setVm T26.vm).vm = T26.vm from rfl, hSn26.1.alike.findClass]; exact hown
    obtain ⟨x26_y, x26_d, x26_kd, rfl, Nq26, Kq26, u26_0, u26_1, u26_2, u26_3⟩ := hQ26
    have N26 := Fr.app N0 Nq26
    have hZ : Z.Warmed39 (s.setVm T26.vm).vm := State.Warmed39.trans (t := (s.setVm s.vm)) hZ hSn26.1
    have f26_0 := own_Sta_keep p_0 Kq26 ns0
    have f26_1 := own_Sta_keep p_2 Kq26 ns0
    have f26_2 := own_Sta_keep p_4 Kq26 ns0
    have f26_3 := own_Sta_keep p_5 Kq26 ns0
    have f26_4 := own_Sta_keep p_6 Kq26 ns0
    have f26_5 := own_Sta_keep p_7 Kq26 ns0
    have f26_6 := own_Sta_keep p_8 Kq26 ns0
    have f26_7 := p_9.keep Kq26
    have f26_8 := p_10.keep Kq26 nin0
    have f26_9 := p_11.keep Kq26 nin0
    have f26_10 := p_12.keep Kq26
    have f26_11 := p_13.keep Kq26 nin0
    have f26_12 := p_14.keep Kq26 nin0
    have f26_13 := p_15.keep Kq26 nin0
    have f26_14 := p_16.keep Kq26 nin0
    have f26_15 := p_17.keep Kq26
    have f26_16 := p_18.keep Kq26 nin0
    have f26_17 := p_19.keep Kq26 nin0
    have f26_18 := p_20.keep Kq26 nin0
    have f26_19 := p_21.keep Kq26 nin0
    have f26_20 := p_22.keep Kq26
    have f26_21 := p_23.keep Kq26 nin0
    have f26_22 := p_24.keep Kq26 nin0
    have f26_23 := p_25.keep Kq26 nin0
    have f26_24 := p_26.keep Kq26 nin0
    have f26_25 := p_27.keep Kq26
    have f26_26 := p_28.keep Kq26 nin0
    have f26_27 := p_29.keep Kq26 nin0
    have f26_28 := p_30.keep Kq26 nin0
    have C26 := C0.trans hC26
    have Ks26 := Nat.le_trans Z0 Kq26.1
    have Zs26 : n0 ≤ T26.heap.size := Nat.le_trans Z0 Kq26.1
    refine own_stH (fun _ kk_ => st26.trans kk_) ?_
    show own_GoesH _ _ _ _ _ _ _ _ _ T26 (mkF m 6 #[iv p1, iv p2, iv p3, iv p4, .unset, .unset, .unset, .unset, .unset, .unset, .unset, .unset, .unset, .unset, .unset, .unset, .unset, .unset, .unset, .unset] [(.ref x26_y)])
    refine own_stH (fun _ kk_ => XS.astore X26.here hx rfl (hb hby at_6) rfl rfl (l' := #[iv p1, iv p2, iv p3, iv p4, rv x26_y, .unset, .unset, .unset, .unset, .unset, .unset, .unset, .unset, .unset, .unset, .unset, .unset, .unset, .unset, .unset]) rfl (XS.iloadN X26.here hx rfl (hb hby at_8) rfl (XS.bipush X26.here hx rfl (hb hby at_9) (XS.iand X26.here hx rfl (hb hby at_11) rfl (XS.istore X26.here hx rfl (hb hby at_12) rfl (l' := #[iv p1, iv p2, iv p3, iv p4, rv x26_y, iv (p2 &&& (7 : Int32)), .unset, .unset, .unset, .unset, .unset, .unset, .unset, .unset, .unset, .unset, .unset, .unset, .unset, .unset]) rfl (XS.iloadN X26.here hx rfl (hb hby at_14) rfl (XS.iconst X26.here hx rfl (hb hby at_15) (XS.iushr X26.here hx rfl (hb hby at_16) rfl (XS.iconst X26.here hx rfl (hb hby at_17) (XS.iand X26.here hx rfl (hb hby at_18) rfl kk_)))))))))) ?_
    show own_GoesH _ _ _ _ _ _ _ _ _ T26 (mkF m 19 #[iv p1, iv p2, iv p3, iv p4, rv x26_y, iv (p2 &&& (7 : Int32)), .unset, .unset, .unset, .unset, .unset, .unset, .unset, .unset, .unset, .unset, .unset, .unset, .unset, .unset] [(.int (((p1.toUInt32 >>> ((2 : Int32) &&& 31).toUInt32).toInt32) &&& (1 : Int32)))])
    have J27 : ∀ (mu : Int32), own_GoesH p e below s Z consts_1 (Q0 Z p1 p2 p3 p4 cs f9 va vk s0 s1 s2 s3 k0a k0b k0c k1a k1b k1c k2a k2b k2c k3a k3b k3c h0 n0) 32 5248 T26 (mkF m 27 #[iv p1, iv p2, iv p3, iv p4, rv x26_y, iv (p2 &&& (7 : Int32)), .unset, .unset, .unset, .unset, .unset, .unset, .unset, .unset, .unset, .unset, .unset, .unset, .unset, .unset] [(.int mu)]) := by
      intro mu
      show own_GoesH _ _ _ _ _ _ _ _ _ T26 (mkF m 27 #[iv p1, iv p2, iv p3, iv p4, rv x26_y, iv (p2 &&& (7 : Int32)), .unset, .unset, .unset, .unset, .unset, .unset, .unset, .unset, .unset, .unset, .unset, .unset, .unset, .unset] [(.int mu)])
      refine own_stH (fun _ kk_ => XS.istore X26.here hx rfl (hb hby at_27) rfl (l' := #[iv p1, iv p2, iv p3, iv p4, rv x26_y, iv (p2 &&& (7 : Int32)), iv mu, .unset, .unset, .unset, .unset, .unset, .unset, .unset, .unset, .unset, .unset, .unset, .unset, .unset]) rfl (XS.iloadN X26.here hx rfl (hb hby at_29) rfl (XS.bipush X26.here hx rfl (hb hby at_30) (XS.iand X26.here hx rfl (hb hby at_32) rfl (XS.istore X26.here hx rfl (hb hby at_33) rfl (l' := #[iv p1, iv p2, iv p3, iv p4, rv x26_y, iv (p2 &&& (7 : Int32)), iv mu, iv (p3 &&& (7 : Int32)), .unset, .unset, .unset, .unset, .unset, .unset, .unset, .unset, .unset, .unset, .unset, .unset]) rfl (XS.iloadN X26.here hx rfl (hb hby at_35) rfl (XS.sipush X26.here hx rfl (hb hby at_36) (XS.iand X26.here hx rfl (hb hby at_39) rfl (XS.i2c X26.here hx rfl (hb hby at_40) rfl (XS.istore X26.here hx rfl (hb hby at_41) rfl (l' := #[iv p1, iv p2, iv p3, iv p4, rv x26_y, iv (p2 &&& (7 : Int32)), iv mu, iv (p3 &&& (7 : Int32)), iv ((p4 &&& (255 : Int32)).toUInt32.toUInt16.toUInt32.toInt32), .unset, .unset, .unset, .unset, .unset, .unset, .unset, .unset, .unset, .unset, .unset]) rfl kk_)))))))))) ?_
      show own_GoesH _ _ _ _ _ _ _ _ _ T26 (mkF m 43 #[iv p1, iv p2, iv p3, iv p4, rv x26_y, iv (p2 &&& (7 : Int32)), iv mu, iv (p3 &&& (7 : Int32)), iv ((p4 &&& (255 : Int32)).toUInt32.toUInt16.toUInt32.toInt32), .unset, .unset, .unset, .unset, .unset, .unset, .unset, .unset, .unset, .unset, .unset] [])
      have him := own_inv p4
      obtain ⟨mm, h_mm⟩ : ∃ z, z = ((p4 &&& (255 : Int32)).toUInt32.toUInt16.toUInt32.toInt32) := ⟨_, rfl⟩
      rw [← h_mm]
      show own_GoesH _ _ _ _ _ _ _ _ _ T26 (mkF m 43 #[iv p1, iv p2, iv p3, iv p4, rv x26_y, iv (p2 &&& (7 : Int32)), iv mu, iv (p3 &&& (7 : Int32)), iv mm, .unset, .unset, .unset, .unset, .unset, .unset, .unset, .unset, .unset, .unset, .unset] [])
      rw [← h_mm] at him
      refine own_stH (fun _ kk_ => XS.iloadN X26.here hx rfl (hb hby at_43) rfl (XS.bipush X26.here hx rfl (hb hby at_44) (XS.iushr X26.here hx rfl (hb hby at_46) rfl (XS.sipush X26.here hx rfl (hb hby at_47) (XS.iand X26.here hx rfl (hb hby at_50) rfl (XS.i2c X26.here hx rfl (hb hby at_51) rfl (XS.istore X26.here hx rfl (hb hby at_52) rfl (l' := #[iv p1, iv p2, iv p3, iv p4, rv x26_y, iv (p2 &&& (7 : Int32)), iv mu, iv (p3 &&& (7 : Int32)), iv mm, iv ((((p4.toUInt32 >>> ((8 : Int32) &&& 31).toUInt32).toInt32) &&& (255 : Int32)).toUInt32.toUInt16.toUInt32.toInt32), .unset, .unset, .unset, .unset, .unset, .unset, .unset, .unset, .unset, .unset]) rfl kk_))))))) ?_
      show own_GoesH _ _ _ _ _ _ _ _ _ T26 (mkF m 54 #[iv p1, iv p2, iv p3, iv p4, rv x26_y, iv (p2 &&& (7 : Int32)), iv mu, iv (p3 &&& (7 : Int32)), iv mm, iv ((((p4.toUInt32 >>> ((8 : Int32) &&& 31).toUInt32).toInt32) &&& (255 : Int32)).toUInt32.toUInt16.toUInt32.toInt32), .unset, .unset, .unset, .unset, .unset, .unset, .unset, .unset, .unset, .unset] [])
      have hif := own_inv ((p4.toUInt32 >>> ((8 : Int32) &&& 31).toUInt32).toInt32)
      obtain ⟨fi, h_fi⟩ : ∃ z, z = ((((p4.toUInt32 >>> ((8 : Int32) &&& 31).toUInt32).toInt32) &&& (255 : Int32)).toUInt32.toUInt16.toUInt32.toInt32) := ⟨_, rfl⟩
      rw [← h_fi]
      show own_GoesH _ _ _ _ _ _ _ _ _ T26 (mkF m 54 #[iv p1, iv p2, iv p3, iv p4, rv x26_y, iv (p2 &&& (7 : Int32)), iv mu, iv (p3 &&& (7 : Int32)), iv mm, iv fi, .unset, .unset, .unset, .unset, .unset, .unset, .unset, .unset, .unset, .unset] [])
      rw [← h_fi] at hif
      refine own_stH (fun _ kk_ => XS.aload X26.here hx rfl (hb hby at_54) rfl rfl (XS.iconst X26.here hx rfl (hb hby at_56) (XS.iload X26.here hx rfl (hb hby at_57) rfl (XS.iload X26.here hx rfl (hb hby at_59) rfl (XS.iload X26.here hx rfl (hb hby at_61) rfl (XS.iload X26.here hx rfl (hb hby at_63) rfl kk_)))))) ?_
      show own_GoesH _ _ _ _ _ _ _ _ _ T26 (mkF m 65 #[iv p1, iv p2, iv p3, iv p4, rv x26_y, iv (p2 &&& (7 : Int32)), iv mu, iv (p3 &&& (7 : Int32)), iv mm, iv fi, .unset, .unset, .unset, .unset, .unset, .unset, .unset, .unset, .unset, .unset] [(.int fi), (.int mm), (.int (p3 &&& (7 : Int32))), (.int mu), (.int (0 : Int32)), (.ref x26_y)])
      obtain ⟨_, _, ⟨T27, L27, k27, n27⟩, -, X27, ⟨Lc27, hQ27, l27, y27, z27⟩, st27⟩ := Jvm.LawKit.callS X26 hx (y := yy7) hown (mvT hZ (own_w hw 12 rfl)) (mvT hZ (own_w hw 13 rfl)) (mvT hZ (own_w hw 2 rfl)) (mvT hZ (own_w hw 14 rfl)) (by decide) (backOf (W := 0) (rm2 l Z a0 hw [] (x26_y) ((0 : Int32)) (mu) ((p3 &&& (7 : Int32))) (mm) (fi) (x26_d) (x26_kd) ((6 : Int32)) ([(.int (115 : Int32)), (.int (116 : Int32)), (.int (114 : Int32)), (.int (105 : Int32)), (.int (110 : Int32)), (.int (103 : Int32))]) (cs) f9 T26.heap n0 Zs26 u26_0 u26_1 u26_2 u26_3 (by simp) f26_0 (by assumption) f26_1 (by assumption) (by decide) him hif) hZ (own_w hw 14 rfl) (own_w hw 2 rfl) (by decide) (by decide)) (g := (mkF m 65 #[iv p1, iv p2, iv p3, iv p4, rv x26_y, iv (p2 &&& (7 : Int32)), iv mu, iv (p3 &&& (7 : Int32)), iv mm, iv fi, .unset, .unset, .unset, .unset, .unset, .unset, .unset, .unset, .unset, .unset] [(.int fi), (.int mm), (.int (p3 &&& (7 : Int32))), (.int mu), (.int (0 : Int32)), (.ref x26_y)])) rfl (by rw [hml]; rfl) (argsL := [(.ref x26_y), (.int (0 : Int32)), (.int mu), (.int (p3 &&& (7 : Int32))), (.int mm), (.int fi)]) (rest := []) (lenOf pd_12 rfl) rfl (by show 2 * 0 + _ ≤ _; exact Nat.le_of_eq rfl) (hb hby at_65) (fun _ _ => ⟨rfl, rfl, (by decide : 2 + 0 ≤ _), (by decide : 28 + 0 ≤ _)⟩)
      dsimp only [Pt.U, Pt.locs, Pt.cells, Pt.slots] at X27 l27 y27 z27 st27 hQ27
      subst l27 y27 z27
      obtain ⟨x27_r, rfl, Nq27, eq27, u27_0⟩ := hQ27
      have N27 := Fr.app N26 Nq27
      refine own_stH st27 ?_
      show own_GoesH _ _ _ _ _ _ _ _ _ T27 (mkF m 68 #[iv p1, iv p2, iv p3, iv p4, rv x26_y, iv (p2 &&& (7 : Int32)), iv mu, iv (p3 &&& (7 : Int32)), iv mm, iv fi, .unset, .unset, .unset, .unset, .unset, .unset, .unset, .unset, .unset, .unset] [(.int x27_r)])
      refine own_stH (fun _ kk_ => XS.istore X27.here hx rfl (hb hby at_68) rfl (l' := #[iv p1, iv p2, iv p3, iv p4, rv x26_y, iv (p2 &&& (7 : Int32)), iv mu, iv (p3 &&& (7 : Int32)), iv mm, iv fi, iv x27_r, .unset, .unset, .unset, .unset, .unset, .unset, .unset, .unset, .unset]) rfl (XS.aload X27.here hx rfl (hb hby at_70) rfl rfl (XS.iconst X27.here hx rfl (hb hby at_72) (XS.iload X27.here hx rfl (hb hby at_73) rfl (XS.iload X27.here hx rfl (hb hby at_75) rfl (XS.iload X27.here hx rfl (hb hby at_77) rfl (XS.iload X27.here hx rfl (hb hby at_79) rfl kk_))))))) ?_
      show own_GoesH _ _ _ _ _ _ _ _ _ T27 (mkF m 81 #[iv p1, iv p2, iv p3, iv p4, rv x26_y, iv (p2 &&& (7 : Int32)), iv mu, iv (p3 &&& (7 : Int32)), iv mm, iv fi, iv x27_r, .unset, .unset, .unset, .unset, .unset, .unset, .unset, .unset, .unset] [(.int fi), (.int mm), (.int (p3 &&& (7 : Int32))), (.int mu), (.int (1 : Int32)), (.ref x26_y)])
      obtain ⟨_, _, ⟨T28, L28, k28, n28⟩, -, X28, ⟨Lc28, hQ28, l28, y28, z28⟩, st28⟩ := Jvm.LawKit.callS X27 hx (y := yy7) hown (mvT hZ (own_w hw 12 rfl)) (mvT hZ (own_w hw 13 rfl)) (mvT hZ (own_w hw 2 rfl)) (mvT hZ (own_w hw 14 rfl)) (by decide) (backOf (W := 0) (rm2 l Z a0 hw [] (x26_y) ((1 : Int32)) (mu) ((p3 &&& (7 : Int32))) (mm) (fi) (x26_d) (x26_kd) ((6 : Int32)) ([(.int (115 : Int32)), (.int (116 : Int32)), (.int (114 : Int32)), (.int (105 : Int32)), (.int (110 : Int32)), (.int (103 : Int32))]) (cs) f9 T26.heap n0 Zs26 u26_0 u26_1 u26_2 u26_3 (by simp) f26_0 (by assumption) f26_1 (by assumption) (by decide) him hif) hZ (own_w hw 14 rfl) (own_w hw 2 rfl) (by decide) (by decide)) (g := (mkF m 81 #[iv p1, iv p2, iv p3, iv p4, rv x26_y, iv (p2 &&& (7 : Int32)), iv mu, iv (p3 &&& (7 : Int32)), iv mm, iv fi, iv x27_r, .unset, .unset, .unset, .unset, .unset, .unset, .unset, .unset, .unset] [(.int fi), (.int mm), (.int (p3 &&& (7 : Int32))), (.int mu), (.int (1 : Int32)), (.ref x26_y)])) rfl (by rw [hml]; rfl) (argsL := [(.ref x26_y), (.int (1 : Int32)), (.int mu), (.int (p3 &&& (7 : Int32))), (.int mm), (.int fi)]) (rest := []) (lenOf pd_12 rfl) rfl (by show 2 * 0 + _ ≤ _; exact Nat.le_of_eq rfl) (hb hby at_81) (fun _ _ => ⟨rfl, eq27, (by decide : 2 + 0 ≤ _), (by decide : 28 + 0 ≤ _)⟩)
      dsimp only [Pt.U, Pt.locs, Pt.cells, Pt.slots] at X28 l28 y28 z28 st28 hQ28
      subst l28 y28 z28
      obtain ⟨x28_r, rfl, Nq28, eq28, u28_0⟩ := hQ28
      have N28 := Fr.app N27 Nq28
      refine own_stH st28 ?_
      show own_GoesH _ _ _ _ _ _ _ _ _ T28 (mkF m 84 #[iv p1, iv p2, iv p3, iv p4, rv x26_y, iv (p2 &&& (7 : Int32)), iv mu, iv (p3 &&& (7 : Int32)), iv mm, iv fi, iv x27_r, .unset, .unset, .unset, .unset, .unset, .unset, .unset, .unset, .unset] [(.int x28_r)])
      refine own_stH (fun _ kk_ => XS.istore X28.here hx rfl (hb hby at_84) rfl (l' := #[iv p1, iv p2, iv p3, iv p4, rv x26_y, iv (p2 &&& (7 : Int32)), iv mu, iv (p3 &&& (7 : Int32)), iv mm, iv fi, iv x27_r, iv x28_r, .unset, .unset, .unset, .unset, .unset, .unset, .unset, .unset]) rfl (XS.aload X28.here hx rfl (hb hby at_86) rfl rfl (XS.iconst X28.here hx rfl (hb hby at_88) (XS.iload X28.here hx rfl (hb hby at_89) rfl (XS.iload X28.here hx rfl (hb hby at_91) rfl (XS.iload X28.here hx rfl (hb hby at_93) rfl (XS.iload X28.here hx rfl (hb hby at_95) rfl kk_))))))) ?_
      show own_GoesH _ _ _ _ _ _ _ _ _ T28 (mkF m 97 #[iv p1, iv p2, iv p3, iv p4, rv x26_y, iv (p2 &&& (7 : Int32)), iv mu, iv (p3 &&& (7 : Int32)), iv mm, iv fi, iv x27_r, iv x28_r, .unset, .unset, .unset, .unset, .unset, .unset, .unset, .unset] [(.int fi), (.int mm), (.int (p3 &&& (7 : Int32))), (.int mu), (.int (2 : Int32)), (.ref x26_y)])
      obtain ⟨_, _, ⟨T29, L29, k29, n29⟩, -, X29, ⟨Lc29, hQ29, l29, y29, z29⟩, st29⟩ := Jvm.LawKit.callS X28 hx (y := yy7) hown (mvT hZ (own_w hw 12 rfl)) (mvT hZ (own_w hw 13 rfl)) (mvT hZ (own_w hw 2 rfl)) (mvT hZ (own_w hw 14 rfl)) (by decide) (backOf (W := 0) (rm2 l Z a0 hw [] (x26_y) ((2 : Int32)) (mu) ((p3 &&& (7 : Int32))) (mm) (fi) (x26_d) (x26_kd) ((6 : Int32)) ([(.int (115 : Int32)), (.int (116 : Int32)), (.int (114 : Int32)), (.int (105 : Int32)), (.int (110 : Int32)), (.int (103 : Int32))]) (cs) f9 T26.heap n0 Zs26 u26_0 u26_1 u26_2 u26_3 (by simp) f26_0 (by assumption) f26_1 (by assumption) (by decide) him hif) hZ (own_w hw 14 rfl) (own_w hw 2 rfl) (by decide) (by decide)) (g := (mkF m 97 #[iv p1, iv p2, iv p3, iv p4, rv x26_y, iv (p2 &&& (7 : Int32)), iv mu, iv (p3 &&& (7 : Int32)), iv mm, iv fi, iv x27_r, iv x28_r, .unset, .unset, .unset, .unset, .unset, .unset, .unset, .unset] [(.int fi), (.int mm), (.int (p3 &&& (7 : Int32))), (.int mu), (.int (2 : Int32)), (.ref x26_y)])) rfl (by rw [hml]; rfl) (argsL := [(.ref x26_y), (.int (2 : Int32)), (.int mu), (.int (p3 &&& (7 : Int32))), (.int mm), (.int fi)]) (rest := []) (lenOf pd_12 rfl) rfl (by show 2 * 0 + _ ≤ _; exact Nat.le_of_eq rfl) (hb hby at_97) (fun _ _ => ⟨rfl, eq28, (by decide : 2 + 0 ≤ _), (by decide : 28 + 0 ≤ _)⟩)
      dsimp only [Pt.U, Pt.locs, Pt.cells, Pt.slots] at X29 l29 y29 z29 st29 hQ29
      subst l29 y29 z29
      obtain ⟨x29_r, rfl, Nq29, eq29, u29_0⟩ := hQ29
      have N29 := Fr.app N28 Nq29
      refine own_stH st29 ?_
      show own_GoesH _ _ _ _ _ _ _ _ _ T29 (mkF m 100 #[iv p1, iv p2, iv p3, iv p4, rv x26_y, iv (p2 &&& (7 : Int32)), iv mu, iv (p3 &&& (7 : Int32)), iv mm, iv fi, iv x27_r, iv x28_r, .unset, .unset, .unset, .unset, .unset, .unset, .unset, .unset] [(.int x29_r)])
      refine own_stH (fun _ kk_ => XS.istore X29.here hx rfl (hb hby at_100) rfl (l' := #[iv p1, iv p2, iv p3, iv p4, rv x26_y, iv (p2 &&& (7 : Int32)), iv mu, iv (p3 &&& (7 : Int32)), iv mm, iv fi, iv x27_r, iv x28_r, iv x29_r, .unset, .unset, .unset, .unset, .unset, .unset, .unset]) rfl (XS.aload X29.here hx rfl (hb hby at_102) rfl rfl (XS.iconst X29.here hx rfl (hb hby at_104) (XS.iload X29.here hx rfl (hb hby at_105) rfl (XS.iload X29.here hx rfl (hb hby at_107) rfl (XS.iload X29.here hx rfl (hb hby at_109) rfl (XS.iload X29.here hx rfl (hb hby at_111) rfl kk_))))))) ?_
      show own_GoesH _ _ _ _ _ _ _ _ _ T29 (mkF m 113 #[iv p1, iv p2, iv p3, iv p4, rv x26_y, iv (p2 &&& (7 : Int32)), iv mu, iv (p3 &&& (7 : Int32)), iv mm, iv fi, iv x27_r, iv x28_r, iv x29_r, .unset, .unset, .unset, .unset, .unset, .unset, .unset] [(.int fi), (.int mm), (.int (p3 &&& (7 : Int32))), (.int mu), (.int (3 : Int32)), (.ref x26_y)])
      obtain ⟨_, _, ⟨T30, L30, k30, n30⟩, -, X30, ⟨Lc30, hQ30, l30, y30, z30⟩, st30⟩ := Jvm.LawKit.callS X29 hx (y := yy7) hown (mvT hZ (own_w hw 12 rfl)) (mvT hZ (own_w hw 13 rfl)) (mvT hZ (own_w hw 2 rfl)) (mvT hZ (own_w hw 14 rfl)) (by decide) (backOf (W := 0) (rm2 l Z a0 hw [] (x26_y) ((3 : Int32)) (mu) ((p3 &&& (7 : Int32))) (mm) (fi) (x26_d) (x26_kd) ((6 : Int32)) ([(.int (115 : Int32)), (.int (116 : Int32)), (.int (114 : Int32)), (.int (105 : Int32)), (.int (110 : Int32)), (.int (103 : Int32))]) (cs) f9 T26.heap n0 Zs26 u26_0 u26_1 u26_2 u26_3 (by simp) f26_0 (by assumption) f26_1 (by assumption) (by decide) him hif) hZ (own_w hw 14 rfl) (own_w hw 2 rfl) (by decide) (by decide)) (g := (mkF m 113 #[iv p1, iv p2, iv p3, iv p4, rv x26_y, iv (p2 &&& (7 : Int32)), iv mu, iv (p3 &&& (7 : Int32)), iv mm, iv fi, iv x27_r, iv x28_r, iv x29_r, .unset, .unset, .unset, .unset, .unset, .unset, .unset] [(.int fi), (.int mm), (.int (p3 &&& (7 : Int32))), (.int mu), (.int (3 : Int32)), (.ref x26_y)])) rfl (by rw [hml]; rfl) (argsL := [(.ref x26_y), (.int (3 : Int32)), (.int mu), (.int (p3 &&& (7 : Int32))), (.int mm), (.int fi)]) (rest := []) (lenOf pd_12 rfl) rfl (by show 2 * 0 + _ ≤ _; exact Nat.le_of_eq rfl) (hb hby at_113) (fun _ _ => ⟨rfl, eq29, (by decide : 2 + 0 ≤ _), (by decide : 28 + 0 ≤ _)⟩)
      dsimp only [Pt.U, Pt.locs, Pt.cells, Pt.slots] at X30 l30 y30 z30 st30 hQ30
      subst l30 y30 z30
      obtain ⟨x30_r, rfl, Nq30, eq30, u30_0⟩ := hQ30
      have N30 := Fr.app N29 Nq30
      refine own_stH st30 ?_
      show own_GoesH _ _ _ _ _ _ _ _ _ T30 (mkF m 116 #[iv p1, iv p2, iv p3, iv p4, rv x26_y, iv (p2 &&& (7 : Int32)), iv mu, iv (p3 &&& (7 : Int32)), iv mm, iv fi, iv x27_r, iv x28_r, iv x29_r, .unset, .unset, .unset, .unset, .unset, .unset, .unset] [(.int x30_r)])
      refine own_stH (fun _ kk_ => XS.istore X30.here hx rfl (hb hby at_116) rfl (l' := #[iv p1, iv p2, iv p3, iv p4, rv x26_y, iv (p2 &&& (7 : Int32)), iv mu, iv (p3 &&& (7 : Int32)), iv mm, iv fi, iv x27_r, iv x28_r, iv x29_r, iv x30_r, .unset, .unset, .unset, .unset, .unset, .unset]) rfl (XS.aload X30.here hx rfl (hb hby at_118) rfl rfl (XS.iconst X30.here hx rfl (hb hby at_120) (XS.iload X30.here hx rfl (hb hby at_121) rfl (XS.iload X30.here hx rfl (hb hby at_123) rfl (XS.iload X30.here hx rfl (hb hby at_125) rfl (XS.iload X30.here hx rfl (hb hby at_127) rfl kk_))))))) ?_
      show own_GoesH _ _ _ _ _ _ _ _ _ T30 (mkF m 129 #[iv p1, iv p2, iv p3, iv p4, rv x26_y, iv (p2 &&& (7 : Int32)), iv mu, iv (p3 &&& (7 : Int32)), iv mm, iv fi, iv x27_r, iv x28_r, iv x29_r, iv x30_r, .unset, .unset, .unset, .unset, .unset, .unset] [(.int fi), (.int mm), (.int (p3 &&& (7 : Int32))), (.int mu), (.int (4 : Int32)), (.ref x26_y)])
      obtain ⟨_, _, ⟨T31, L31, k31, n31⟩, -, X31, ⟨Lc31, hQ31, l31, y31, z31⟩, st31⟩ := Jvm.LawKit.callS X30 hx (y := yy7) hown (mvT hZ (own_w hw 12 rfl)) (mvT hZ (own_w hw 13 rfl)) (mvT hZ (own_w hw 2 rfl)) (mvT hZ (own_w hw 14 rfl)) (by decide) (backOf (W := 0) (rm2 l Z a0 hw [] (x26_y) ((4 : Int32)) (mu) ((p3 &&& (7 : Int32))) (mm) (fi) (x26_d) (x26_kd) ((6 : Int32)) ([(.int (115 : Int32)), (.int (116 : Int32)), (.int (114 : Int32)), (.int (105 : Int32)), (.int (110 : Int32)), (.int (103 : Int32))]) (cs) f9 T26.heap n0 Zs26 u26_0 u26_1 u26_2 u26_3 (by simp) f26_0 (by assumption) f26_1 (by assumption) (by decide) him hif) hZ (own_w hw 14 rfl) (own_w hw 2 rfl) (by decide) (by decide)) (g := (mkF m 129 #[iv p1, iv p2, iv p3, iv p4, rv x26_y, iv (p2 &&& (7 : Int32)), iv mu, iv (p3 &&& (7 : Int32)), iv mm, iv fi, iv x27_r, iv x28_r, iv x29_r, iv x30_r, .unset, .unset, .unset, .unset, .unset, .unset] [(.int fi), (.int mm), (.int (p3 &&& (7 : Int32))), (.int mu), (.int (4 : Int32)), (.ref x26_y)])) rfl (by rw [hml]; rfl) (argsL := [(.ref x26_y), (.int (4 : Int32)), (.int mu), (.int (p3 &&& (7 : Int32))), (.int mm), (.int fi)]) (rest := []) (lenOf pd_12 rfl) rfl (by show 2 * 0 + _ ≤ _; exact Nat.le_of_eq rfl) (hb hby at_129) (fun _ _ => ⟨rfl, eq30, (by decide : 2 + 0 ≤ _), (by decide : 28 + 0 ≤ _)⟩)
      dsimp only [Pt.U, Pt.locs, Pt.cells, Pt.slots] at X31 l31 y31 z31 st31 hQ31
      subst l31 y31 z31
      obtain ⟨x31_r, rfl, Nq31, eq31, u31_0⟩ := hQ31
      have N31 := Fr.app N30 Nq31
      refine own_stH st31 ?_
      show own_GoesH _ _ _ _ _ _ _ _ _ T31 (mkF m 132 #[iv p1, iv p2, iv p3, iv p4, rv x26_y, iv (p2 &&& (7 : Int32)), iv mu, iv (p3 &&& (7 : Int32)), iv mm, iv fi, iv x27_r, iv x28_r, iv x29_r, iv x30_r, .unset, .unset, .unset, .unset, .unset, .unset] [(.int x31_r)])
      refine own_stH (fun _ kk_ => XS.istore X31.here hx rfl (hb hby at_132) rfl (l' := #[iv p1, iv p2, iv p3, iv p4, rv x26_y, iv (p2 &&& (7 : Int32)), iv mu, iv (p3 &&& (7 : Int32)), iv mm, iv fi, iv x27_r, iv x28_r, iv x29_r, iv x30_r, iv x31_r, .unset, .unset, .unset, .unset, .unset]) rfl (XS.aload X31.here hx rfl (hb hby at_134) rfl rfl (XS.iconst X31.here hx rfl (hb hby at_136) (XS.iload X31.here hx rfl (hb hby at_137) rfl (XS.iload X31.here hx rfl (hb hby at_139) rfl (XS.iload X31.here hx rfl (hb hby at_141) rfl (XS.iload X31.here hx rfl (hb hby at_143) rfl kk_))))))) ?_
      show own_GoesH _ _ _ _ _ _ _ _ _ T31 (mkF m 145 #[iv p1, iv p2, iv p3, iv p4, rv x26_y, iv (p2 &&& (7 : Int32)), iv mu, iv (p3 &&& (7 : Int32)), iv mm, iv fi, iv x27_r, iv x28_r, iv x29_r, iv x30_r, iv x31_r, .unset, .unset, .unset, .unset, .unset] [(.int fi), (.int mm), (.int (p3 &&& (7 : Int32))), (.int mu), (.int (5 : Int32)), (.ref x26_y)])
      obtain ⟨_, _, ⟨T32, L32, k32, n32⟩, -, X32, ⟨Lc32, hQ32, l32, y32, z32⟩, st32⟩ := Jvm.LawKit.callS X31 hx (y := yy7) hown (mvT hZ (own_w hw 12 rfl)) (mvT hZ (own_w hw 13 rfl)) (mvT hZ (own_w hw 2 rfl)) (mvT hZ (own_w hw 14 rfl)) (by decide) (backOf (W := 0) (rm2 l Z a0 hw [] (x26_y) ((5 : Int32)) (mu) ((p3 &&& (7 : Int32))) (mm) (fi) (x26_d) (x26_kd) ((6 : Int32)) ([(.int (115 : Int32)), (.int (116 : Int32)), (.int (114 : Int32)), (.int (105 : Int32)), (.int (110 : Int32)), (.int (103 : Int32))]) (cs) f9 T26.heap n0 Zs26 u26_0 u26_1 u26_2 u26_3 (by simp) f26_0 (by assumption) f26_1 (by assumption) (by decide) him hif) hZ (own_w hw 14 rfl) (own_w hw 2 rfl) (by decide) (by decide)) (g := (mkF m 145 #[iv p1, iv p2, iv p3, iv p4, rv x26_y, iv (p2 &&& (7 : Int32)), iv mu, iv (p3 &&& (7 : Int32)), iv mm, iv fi, iv x27_r, iv x28_r, iv x29_r, iv x30_r, iv x31_r, .unset, .unset, .unset, .unset, .unset] [(.int fi), (.int mm), (.int (p3 &&& (7 : Int32))), (.int mu), (.int (5 : Int32)), (.ref x26_y)])) rfl (by rw [hml]; rfl) (argsL := [(.ref x26_y), (.int (5 : Int32)), (.int mu), (.int (p3 &&& (7 : Int32))), (.int mm), (.int fi)]) (rest := []) (lenOf pd_12 rfl) rfl (by show 2 * 0 + _ ≤ _; exact Nat.le_of_eq rfl) (hb hby at_145) (fun _ _ => ⟨rfl, eq31, (by decide : 2 + 0 ≤ _), (by decide : 28 + 0 ≤ _)⟩)
      dsimp only [Pt.U, Pt.locs, Pt.cells, Pt.slots] at X32 l32 y32 z32 st32 hQ32
      subst l32 y32 z32
      obtain ⟨x32_r, rfl, Nq32, eq32, u32_0⟩ := hQ32
      have N32 := Fr.app N31 Nq32
      refine own_stH st32 ?_
      show own_GoesH _ _ _ _ _ _ _ _ _ T32 (mkF m 148 #[iv p1, iv p2, iv p3, iv p4, rv x26_y, iv (p2 &&& (7 : Int32)), iv mu, iv (p3 &&& (7 : Int32)), iv mm, iv fi, iv x27_r, iv x28_r, iv x29_r, iv x30_r, iv x31_r, .unset, .unset, .unset, .unset, .unset] [(.int x32_r)])
      refine own_stH (fun _ kk_ => XS.istore X32.here hx rfl (hb hby at_148) rfl (l' := #[iv p1, iv p2, iv p3, iv p4, rv x26_y, iv (p2 &&& (7 : Int32)), iv mu, iv (p3 &&& (7 : Int32)), iv mm, iv fi, iv x27_r, iv x28_r, iv x29_r, iv x30_r, iv x31_r, iv x32_r, .unset, .unset, .unset, .unset]) rfl (XS.aload X32.here hx rfl (hb hby at_150) rfl rfl (XS.bipush X32.here hx rfl (hb hby at_152) (XS.iload X32.here hx rfl (hb hby at_154) rfl (XS.iload X32.here hx rfl (hb hby at_156) rfl (XS.iload X32.here hx rfl (hb hby at_158) rfl (XS.iload X32.here hx rfl (hb hby at_160) rfl kk_))))))) ?_
      show own_GoesH _ _ _ _ _ _ _ _ _ T32 (mkF m 162 #[iv p1, iv p2, iv p3, iv p4, rv x26_y, iv (p2 &&& (7 : Int32)), iv mu, iv (p3 &&& (7 : Int32)), iv mm, iv fi, iv x27_r, iv x28_r, iv x29_r, iv x30_r, iv x31_r, iv x32_r, .unset, .unset, .unset, .unset] [(.int fi), (.int mm), (.int (p3 &&& (7 : Int32))), (.int mu), (.int (6 : Int32)), (.ref x26_y)])
      obtain ⟨_, _, ⟨T33, L33, k33, n33⟩, -, X33, ⟨Lc33, hQ33, l33, y33, z33⟩, st33⟩ := Jvm.LawKit.callS X32 hx (y := yy7) hown (mvT hZ (own_w hw 12 rfl)) (mvT hZ (own_w hw 13 rfl)) (mvT hZ (own_w hw 2 rfl)) (mvT hZ (own_w hw 14 rfl)) (by decide) (backOf (W := 0) (rm2 l Z a0 hw [] (x26_y) ((6 : Int32)) (mu) ((p3 &&& (7 : Int32))) (mm) (fi) (x26_d) (x26_kd) ((6 : Int32)) ([(.int (115 : Int32)), (.int (116 : Int32)), (.int (114 : Int32)), (.int (105 : Int32)), (.int (110 : Int32)), (.int (103 : Int32))]) (cs) f9 T26.heap n0 Zs26 u26_0 u26_1 u26_2 u26_3 (by simp) f26_0 (by assumption) f26_1 (by assumption) (by decide) him hif) hZ (own_w hw 14 rfl) (own_w hw 2 rfl) (by decide) (by decide)) (g := (mkF m 162 #[iv p1, iv p2, iv p3, iv p4, rv x26_y, iv (p2 &&& (7 : Int32)), iv mu, iv (p3 &&& (7 : Int32)), iv mm, iv fi, iv x27_r, iv x28_r, iv x29_r, iv x30_r, iv x31_r, iv x32_r, .unset, .unset, .unset, .unset] [(.int fi), (.int mm), (.int (p3 &&& (7 : Int32))), (.int mu), (.int (6 : Int32)), (.ref x26_y)])) rfl (by rw [hml]; rfl) (argsL := [(.ref x26_y), (.int (6 : Int32)), (.int mu), (.int (p3 &&& (7 : Int32))), (.int mm), (.int fi)]) (rest := []) (lenOf pd_12 rfl) rfl (by show 2 * 0 + _ ≤ _; exact Nat.le_of_eq rfl) (hb hby at_162) (fun _ _ => ⟨rfl, eq32, (by decide : 2 + 0 ≤ _), (by decide : 28 + 0 ≤ _)⟩)
      dsimp only [Pt.U, Pt.locs, Pt.cells, Pt.slots] at X33 l33 y33 z33 st33 hQ33
      subst l33 y33 z33
      obtain ⟨x33_r, rfl, Nq33, eq33, u33_0⟩ := hQ33
      have N33 := Fr.app N32 Nq33
      refine own_stH st33 ?_
      show own_GoesH _ _ _ _ _ _ _ _ _ T33 (mkF m 165 #[iv p1, iv p2, iv p3, iv p4, rv x26_y, iv (p2 &&& (7 : Int32)), iv mu, iv (p3 &&& (7 : Int32)), iv mm, iv fi, iv x27_r, iv x28_r, iv x29_r, iv x30_r, iv x31_r, iv x32_r, .unset, .unset, .unset, .unset] [(.int x33_r)])
      refine own_stH (fun _ kk_ => XS.istore X33.here hx rfl (hb hby at_165) rfl (l' := #[iv p1, iv p2, iv p3, iv p4, rv x26_y, iv (p2 &&& (7 : Int32)), iv mu, iv (p3 &&& (7 : Int32)), iv mm, iv fi, iv x27_r, iv x28_r, iv x29_r, iv x30_r, iv x31_r, iv x32_r, iv x33_r, .unset, .unset, .unset]) rfl kk_) ?_
      show own_GoesH _ _ _ _ _ _ _ _ _ T33 (mkF m 167 #[iv p1, iv p2, iv p3, iv p4, rv x26_y, iv (p2 &&& (7 : Int32)), iv mu, iv (p3 &&& (7 : Int32)), iv mm, iv fi, iv x27_r, iv x28_r, iv x29_r, iv x30_r, iv x31_r, iv x32_r, iv x33_r, .unset, .unset, .unset] [])
      exact J167 _ _ _ _ _ (x26_y) (mu) (mm) (fi) (x27_r) (x28_r) (x29_r) (x30_r) (x31_r) (x32_r) (x33_r) (X33.more (by decide) (by decide)) eq33 N33 Zs26 hS26 (Nat.le_refl T26.heap.size) hZ hown C26 f26_0 f26_1 f26_2 f26_3 f26_4 f26_5 f26_6 f26_7 f26_8 f26_9 f26_10 f26_11 f26_12 f26_13 f26_14 f26_15 f26_16 f26_17 f26_18 f26_19 f26_20 f26_21 f26_22 f26_23 f26_24 f26_25 f26_26 f26_27 f26_28 u27_0 u28_0 u29_0 u30_0 u31_0 u32_0 u33_0
    rcases Classical.em ((((p1.toUInt32 >>> ((2 : Int32) &&& 31).toUInt32).toInt32) &&& (1 : Int32)) = (0 : Int32)) with qmu | qmu
    · refine own_stH (fun _ kk_ => XS.ifYes X26.here hx rfl (pc0 := 19) (pc' := 26) rfl (hb hby at_19) rfl (XT.i0_eq_t qmu) (by decide) (by decide) (XS.iconst X26.here hx rfl (hb hby at_26) kk_)) ?_
      show own_GoesH _ _ _ _ _ _ _ _ _ T26 (mkF m 27 #[iv p1, iv p2, iv p3, iv p4, rv x26_y, iv (p2 &&& (7 : Int32)), .unset, .unset, .unset, .unset, .unset, .unset, .unset, .unset, .unset, .unset, .unset, .unset, .unset, .unset] [(.int (0 : Int32))])
      exact J27 ((0 : Int32))
    · refine own_stH (fun _ kk_ => XS.ifNo X26.here hx rfl (hb hby at_19) rfl (XT.i0_eq_f qmu) (XS.iconst X26.here hx rfl (hb hby at_22) (XS.goto X26.here hx rfl (pc0 := 23) (pc' := 27) rfl (hb hby at_23) (by decide) (by decide) kk_))) ?_
      show own_GoesH _ _ _ _ _ _ _ _ _ T26 (mkF m 27 #[iv p1, iv p2, iv p3, iv p4, rv x26_y, iv (p2 &&& (7 : Int32)), .unset, .unset, .unset, .unset, .unset, .unset, .unset, .unset, .unset, .unset, .unset, .unset, .unset, .unset] [(.int (1 : Int32))])
      exact J27 ((1 : Int32))
set_option maxRecDepth 65536 in
set_option maxHeartbeats 40000000 in
theorem comes_1 {Post : Tables → Env → Array Value → State → Outcome → State → Prop} (hpost : ∀ tb e args s v u, (limb_1_1.after args s (.returned v) u = true ∧ limb_1_2.after args s (.returned v) u = true ∧ True) → ReturnedEndW s (.returned v) u (Jvm.fieldLocs frame_1_writes args s ++ Jvm.arrayLocs frame_1_arrays args s ++ Jvm.staticLocs frame_1_statics s) 32 5248 → Post tb e args s (.returned v) u) :
    ArmFor flags0 classFile x code maxLocals ret World_1 tables_1 room_1 Calls_1 rest_1 Pre_1 Post := by
  intro l hfl _ _ p e ha hc hk s m args below hf hA hF happ hP
  obtain ⟨hcalls, hrest, hpre⟩ := hP
  obtain ⟨-, -, -, hnamed, -, -, -, hat⟩ := (Spec.applies_iff hf).mp happ
  obtain ⟨hg, hn⟩ := and_e (Cond.before_iff.mp (show (Jvm.Cond.and given_1 narrow_1).before args s = true from hpre))
  obtain ⟨h1, g0⟩ := and_e hg
  obtain ⟨w0, w1, w2, w3, rfl⟩ : ∃ w0 w1 w2 w3 : Value, args = #[w0, w1, w2, w3] := by
    have hs : args.size = 4 := by simpa [Cond.value, given_1] using h1
    obtain ⟨L⟩ := args
    match L, hs with
    | [w0, w1, w2, w3], _ => exact ⟨w0, w1, w2, w3, rfl⟩
  have hw := fun d (hd : d ∈ tables_1) => atoms_spec (ws := Jvm.Cond.code x code maxLocals ret :: tables_1) hat d (List.mem_cons_of_mem _ hd)
  have hfit : Fit s := fun {y c} hc i hi => by
    obtain ⟨ha, rfl⟩ := Array.getElem?_eq_some_iff.mp hc
    have q := List.all_eq_true.mp ((Array.all_eq_true_iff_forall_mem.mp hF) _ (Array.getElem_mem ha)) i (List.mem_range.mpr hi)
    simpa [Array.getElem?_eq_getElem hi] using q
  obtain ⟨k0, g1⟩ := and_e g0
  obtain ⟨i0, e0⟩ := is_v k0
  obtain rfl : w0 = (.int i0) := Option.some.inj e0
  obtain ⟨k1, g2⟩ := and_e g1
  obtain ⟨i1, e1⟩ := is_v k1
  obtain rfl : w1 = (.int i1) := Option.some.inj e1
  obtain ⟨k2, g3⟩ := and_e g2
  obtain ⟨i2, e2⟩ := is_v k2
  obtain rfl : w2 = (.int i2) := Option.some.inj e2
  obtain ⟨i3, e3⟩ := is_v g3
  obtain rfl : w3 = (.int i3) := Option.some.inj e3
  obtain ⟨hsets, hown0⟩ := atoms_of _ (rest_1_c_eq ▸ (show rest_1_c.before _ s = true from hrest))
  obtain ⟨cs, ecs⟩ := is_v (Cond.before_iff.mp (hsets _ (List.mem_of_getElem? (i := 1) rfl)))
  have St_cs : Sta s s.heap "java/lang/String" "COMPACT_STRINGS" "Z" (.int cs) := Sta.start ecs (Or.inl (hsets _ (List.mem_of_getElem? (i := 0) rfl)))
  have hcs : ¬ cs = (0 : Int32) := gotF (Cond.eq_ints ecs (Term.int_eval (0))) (not_v (Cond.before_iff.mp (hsets _ (List.mem_of_getElem? (i := 2) rfl))))
  have hEL : EW s _ consts_1 := (EW.cons (own_w hw 4 rfl) (by decide) (EW.cons (own_w hw 115 rfl) (by decide) (EW.cons (own_w hw 116 rfl) (by decide) (EW.cons (own_w hw 114 rfl) (by decide) (EW.cons (own_w hw 117 rfl) (by decide) EW.nil)))))
  have hCH : CHv s consts_1 s.vm s.heap := CHv.start hEL (fun q hq => hcalls.1 q hq) (hsets _ (List.mem_of_getElem? (i := 2) rfl)) (own_w hw 7 rfl) (own_w hw 6 rfl)
  obtain ⟨c0, r0⟩ := and_e hn
  obtain ⟨c1, r1⟩ := and_e r0
  obtain ⟨c2, r2⟩ := and_e r1
  obtain ⟨c3, r3⟩ := and_e r2
  obtain ⟨c4, r4⟩ := and_e r3
  obtain ⟨c5, r5⟩ := and_e r4
  obtain ⟨c6, r6⟩ := and_e r5
  obtain ⟨c7, r7⟩ := and_e r6
  obtain ⟨c8, r8⟩ := and_e r7
  obtain ⟨c9, r9⟩ := and_e r8
  obtain ⟨c10, r10⟩ := and_e r9
  obtain ⟨c11, r11⟩ := and_e r10
  obtain ⟨c12, r12⟩ := and_e r11
  obtain ⟨c13, r13⟩ := and_e r12
  obtain ⟨c14, r14⟩ := and_e r13
  obtain ⟨c15, r15⟩ := and_e r14
  obtain ⟨c16, r16⟩ := and_e r15
  obtain ⟨c17, r17⟩ := and_e r16
  obtain ⟨c18, r18⟩ := and_e r17
  obtain ⟨c19, r19⟩ := and_e r18
  obtain ⟨c20, r20⟩ := and_e r19
  obtain ⟨c21, r21⟩ := and_e r20
  obtain ⟨c22, r22⟩ := and_e r21
  obtain ⟨c23, r23⟩ := and_e r22
  obtain ⟨c24, r24⟩ := and_e r23
  obtain ⟨c25, r25⟩ := and_e r24
  obtain ⟨c26, r26⟩ := and_e r25
  obtain ⟨c27, r27⟩ := and_e r26
  obtain ⟨c28, r28⟩ := and_e r27
  obtain ⟨c29, r29⟩ := and_e r28
  obtain ⟨c30, r30⟩ := and_e r29
  obtain ⟨c31, r31⟩ := and_e r30
  obtain ⟨c32, r32⟩ := and_e r31
  obtain ⟨c33, r33⟩ := and_e r32
  obtain ⟨c34, r34⟩ := and_e r33
  obtain ⟨c35, r35⟩ := and_e r34
  obtain ⟨c36, r36⟩ := and_e r35
  obtain ⟨c37, r37⟩ := and_e r36
  obtain ⟨c38, r38⟩ := and_e r37
  obtain ⟨c39, r39⟩ := and_e r38
  obtain ⟨c40, r40⟩ := and_e r39
  obtain ⟨c41, r41⟩ := and_e r40
  obtain ⟨c42, r42⟩ := and_e r41
  obtain ⟨c43, r43⟩ := and_e r42
  obtain ⟨c44, r44⟩ := and_e r43
  obtain ⟨c45, r45⟩ := and_e r44
  obtain ⟨c46, r46⟩ := and_e r45
  have c47 := r46
  obtain ⟨s_INT, ev_INT⟩ := exa_v c0
  have Ex_INT : Exa s s.heap s_INT "com/example/majra/majra/lang/ParameterKind" := Exa.start ev_INT c0
  have St_INT : Sta s s.heap "com/example/majra/majra/lang/ParameterKind" "INT" "Lcom/example/majra/majra/lang/ParameterKind;" (.ref s_INT) := Sta.start ev_INT (Or.inr ⟨(own_w hw 88 rfl), (own_w hw 89 rfl)⟩)
  obtain ⟨va, ev_va⟩ := exa_v c2
  have Ex_va : Exa s s.heap va "[Lcom/example/majra/majra/lang/ParameterKind;" := Exa.start ev_va c2
  have St_va : Sta s s.heap "com/example/majra/majra/lang/ParameterKind" "$VALUES" "[Lcom/example/majra/majra/lang/ParameterKind;" (.ref va) := Sta.start ev_va (Or.inr ⟨(own_w hw 88 rfl), (own_w hw 97 rfl)⟩)
  obtain ⟨s_FLOAT, ev_FLOAT⟩ := exa_v c5
  have Ex_FLOAT : Exa s s.heap s_FLOAT "com/example/majra/majra/lang/ParameterKind" := Exa.start ev_FLOAT c5
  have St_FLOAT : Sta s s.heap "com/example/majra/majra/lang/ParameterKind" "FLOAT" "Lcom/example/majra/majra/lang/ParameterKind;" (.ref s_FLOAT) := Sta.start ev_FLOAT (Or.inr ⟨(own_w hw 88 rfl), (own_w hw 105 rfl)⟩)
  obtain ⟨s_BOOLEAN, ev_BOOLEAN⟩ := exa_v c7
  have Ex_BOOLEAN : Exa s s.heap s_BOOLEAN "com/example/majra/majra/lang/ParameterKind" := Exa.start ev_BOOLEAN c7
  have St_BOOLEAN : Sta s s.heap "com/example/majra/majra/lang/ParameterKind" "BOOLEAN" "Lcom/example/majra/majra/lang/ParameterKind;" (.ref s_BOOLEAN) := Sta.start ev_BOOLEAN (Or.inr ⟨(own_w hw 88 rfl), (own_w hw 106 rfl)⟩)
  obtain ⟨s_STRING, ev_STRING⟩ := exa_v c9
  have Ex_STRING : Exa s s.heap s_STRING "com/example/majra/majra/lang/ParameterKind" := Exa.start ev_STRING c9
  have St_STRING : Sta s s.heap "com/example/majra/majra/lang/ParameterKind" "STRING" "Lcom/example/majra/majra/lang/ParameterKind;" (.ref s_STRING) := Sta.start ev_STRING (Or.inr ⟨(own_w hw 88 rfl), (own_w hw 107 rfl)⟩)
  obtain ⟨kw_INT, Kw_INT⟩ := own_fref ev_INT c11
  obtain ⟨kw_FLOAT, Kw_FLOAT⟩ := own_fref ev_FLOAT c18
  obtain ⟨kw_BOOLEAN, Kw_BOOLEAN⟩ := own_fref ev_BOOLEAN c22
  obtain ⟨kw_STRING, Kw_STRING⟩ := own_fref ev_STRING c26
  obtain ⟨k0a, Kf0, ek0, Ke0⟩ := own_fe ev_INT c11
  have Kc0 := own_ord ek0 c12
  obtain ⟨k0b, eb0⟩ := arr_v c13
  have Kv0 : Fld s s.heap k0a "java/lang/String" "value" "[B" (.ref k0b) := Fld.start ((fld_at ek0).symm.trans eb0)
  obtain ⟨k0c, Ka0⟩ := own_av (vs := [(.int (105 : Int32)), (.int (110 : Int32)), (.int (116 : Int32))]) (dv := (.int (0 : Int32))) hfit eb0 c13 c14 (by decide) (by decide) (fun c hc => ⟨own_el c15 eb0 hc (by decide), own_el c16 eb0 hc (by decide), own_el c17 eb0 hc (by decide), trivial⟩)
  obtain ⟨k1a, Kf1, ek1, Ke1⟩ := own_fe ev_FLOAT c18
  have Kc1 := own_ord ek1 c19
  obtain ⟨k1b, eb1⟩ := arr_v c20
  have Kv1 : Fld s s.heap k1a "java/lang/String" "value" "[B" (.ref k1b) := Fld.start ((fld_at ek1).symm.trans eb1)
  obtain ⟨k1c, Ka1⟩ := own_av (vs := [(.int (102 : Int32)), (.int (108 : Int32)), (.int (111 : Int32)), (.int (97 : Int32)), (.int (116 : Int32))]) (dv := (.int (0 : Int32))) hfit eb1 c20 c21 (by decide) (by decide) (fun c hc => ⟨own_el c30 eb1 hc (by decide), own_el c31 eb1 hc (by decide), own_el c32 eb1 hc (by decide), own_el c33 eb1 hc (by decide), own_el c34 eb1 hc (by decide), trivial⟩)
  obtain ⟨k2a, Kf2, ek2, Ke2⟩ := own_fe ev_BOOLEAN c22
  have Kc2 := own_ord ek2 c23
  obtain ⟨k2b, eb2⟩ := arr_v c24
  have Kv2 : Fld s s.heap k2a "java/lang/String" "value" "[B" (.ref k2b) := Fld.start ((fld_at ek2).symm.trans eb2)
  obtain ⟨k2c, Ka2⟩ := own_av (vs := [(.int (98 : Int32)), (.int (111 : Int32)), (.int (111 : Int32)), (.int (108 : Int32)), (.int (101 : Int32)), (.int (97 : Int32)), (.int (110 : Int32))]) (dv := (.int (0 : Int32))) hfit eb2 c24 c25 (by decide) (by decide) (fun c hc => ⟨own_el c35 eb2 hc (by decide), own_el c36 eb2 hc (by decide), own_el c37 eb2 hc (by decide), own_el c38 eb2 hc (by decide), own_el c39 eb2 hc (by decide), own_el c40 eb2 hc (by decide), own_el c41 eb2 hc (by decide), trivial⟩)
  obtain ⟨k3a, Kf3, ek3, Ke3⟩ := own_fe ev_STRING c26
  have Kc3 := own_ord ek3 c27
  obtain ⟨k3b, eb3⟩ := arr_v c28
  have Kv3 : Fld s s.heap k3a "java/lang/String" "value" "[B" (.ref k3b) := Fld.start ((fld_at ek3).symm.trans eb3)
  obtain ⟨k3c, Ka3⟩ := own_av (vs := [(.int (115 : Int32)), (.int (116 : Int32)), (.int (114 : Int32)), (.int (105 : Int32)), (.int (110 : Int32)), (.int (103 : Int32))]) (dv := (.int (0 : Int32))) hfit eb3 c28 c29 (by decide) (by decide) (fun c hc => ⟨own_el c42 eb3 hc (by decide), own_el c43 eb3 hc (by decide), own_el c44 eb3 hc (by decide), own_el c45 eb3 hc (by decide), own_el c46 eb3 hc (by decide), own_el c47 eb3 hc (by decide), trivial⟩)
  obtain ⟨vk, Av_va⟩ := own_av (vs := [.ref s_INT, .ref s_FLOAT, .ref s_BOOLEAN, .ref s_STRING]) (dv := .null) hfit ev_va c1 c3 (by decide) (show Int32.toNatClampNeg 4 = 4 from by decide) (fun c hc => ⟨own_elR c4 ev_va hc ev_INT (by decide), own_elR c6 ev_va hc ev_FLOAT (by decide), own_elR c8 ev_va hc ev_BOOLEAN (by decide), own_elR c10 ev_va hc ev_STRING (by decide), trivial⟩)
  obtain ⟨f9, ef9, hf9⟩ := isR_v (Cond.before_iff.mp (hsets _ (List.mem_of_getElem? (i := 8) rfl)))
  have St_f9 : Sta s s.heap "jdk/internal/util/Preconditions" "SIOOBE_FORMATTER" "Ljava/util/function/BiFunction;" f9 := Sta.start ef9 (Or.inl (hsets _ (List.mem_of_getElem? (i := 7) rfl)))
  obtain ⟨n, o, h1, h2, h3, _, L, rfl, ⟨rfl, N⟩, -, hq⟩ := rm0 l s _ hw tables_1 hEL i0 i1 i2 i3 cs f9 va vk s_INT s_FLOAT s_BOOLEAN s_STRING k0a k0b k0c k1a k1b k1c k2a k2b k2c k3a k3b k3c s.heap s.heap.size (Nat.le_refl _) St_cs hcs St_f9 hf9 St_INT St_FLOAT St_BOOLEAN St_STRING St_va Ex_va Av_va Kf0 Ke0 Kc0 Kv0 Ka0 Kf1 Ke1 Kc1 Kv1 Ka1 Kf2 Ke2 Kc2 Kv2 Ka2 Kf3 Ke3 Kc3 Kv3 Ka3 p e ha hc hk s m _ below hf ((Spec.applies_iff_loose hf).mp happ).1 ⟨rfl, State.Warmed39.refl s, rfl, hCH, fun _ q => nomatch q⟩ trivial
  refine ⟨n, _, h1, h2, h3, hpost _ _ _ _ _ _ ⟨Cond.after_iff.mpr rfl, Cond.after_iff.mpr (eq_i res_at (Term.int_eval (1)) rfl), trivial⟩ ⟨hq.1, hq.2.1, hq.2.2.1, (hq.2.2.2.sift fun y hy => Or.inr (N y hy)).mono (by decide) (by decide)⟩⟩
theorem main_1_1 : Claimed_1_1 := comes_1 fun _ _ _ _ _ _ h hF => ⟨h.1, hF⟩
theorem main_1_2 : Claimed_1_2 := comes_1 fun _ _ _ _ _ _ h hF => ⟨h.2.1, hF⟩
end Jvm.Pilot.@@N@@
namespace Jvm.Pilot.@@N@@
open Jvm Jvm.ClassFile Sem Op Lib Jvm.Free Jvm.Stand Jvm.Pilot.@@N@@.Jvm.D
/-! MADE BY PROGRAM (witnessworld.py) out of the Statement's table words and the real class files: 22 classes; the members and pool entries that the words name. The judged class is class 1, her method 1. -/
namespace start1
open Jvm.ClassFile
def u (s : String) : CpInfo := .utf8 (stringToUtf16 s)
/-- a pool by its gaps: so many unusable entries, then the entry; so many at the end -/
def gap : Nat → List CpInfo → List CpInfo
  | 0, r => r
  | n + 1, r => .unusable :: gap n r
def poolList (es : List (Nat × CpInfo)) (last : Nat) : List CpInfo := es.foldr (fun e r => gap e.1 (e.2 :: r)) (gap last [])
def pool (es : List (Nat × CpInfo)) (last : Nat) : Array CpInfo := ⟨poolList es last⟩
def fileOf (pool : Array CpInfo) (this : Nat) (attrs : Array Attribute := #[]) (ms : Array MethodInfo := #[]) (fl : Nat := 33) (sup : Nat := 0) (ifs : Array Nat := #[]) (fds : Array FieldInfo := #[]) : ClassFile where
  minorVersion := 0
  majorVersion := 65
  constantPool := pool
  accessFlags := fl
  thisClass := this
  superClass := sup
  interfaces := ifs
  fields := fds
  methods := ms
  attributes := attrs
def plain (name : String) (sup : Option ClassId) : Class where
  name := name
  kind := .ordinary
  loader := none
  accessFlags := 33
  super := sup
  interfaces := #[]
  cf := none
  fields := #[]
  methods := #[]
  instanceTypes := #[]
  staticTypes := #[]
  resolved := #[]
  callSites := []
  init := .initialized
  statics := none
  mirror := none

def pool0 : Array CpInfo := pool [(5, u "<init>"), (0, u "()V"), (1, .class_ 10), (1, u "java/lang/Object"), (85, u "clone"), (0, u "()Ljava/lang/Object;")] 26

def k0c0 : Code := { maxStack := 0, maxLocals := 1, code := object_method_1_code, exceptionTable := #[], attributes := #[] }
def k0m0 : Method := { name := "<init>", desc := "()V", sig := { parameters := [], returnType := none }, accessFlags := 1, code := some k0c0 }
def k0m1 : Method := { name := "clone", desc := "()Ljava/lang/Object;", sig := { parameters := [], returnType := some (.object "java/lang/Object") }, accessFlags := 260, code := none }
/-- java/lang/Object -/
def k0 : Class := { plain "java/lang/Object" none with
  accessFlags := 33
  interfaces := #[]
  cf := some (fileOf pool0 8 #[] #[{ accessFlags := 1, nameIndex := 5, descriptorIndex := 6, attributes := #[] }, { accessFlags := 260, nameIndex := 96, descriptorIndex := 97, attributes := #[] }] 33 0 #[] #[])
  fields := #[]
  methods := #[k0m0, k0m1]
  instanceTypes := #[]
  staticTypes := #[]
  resolved := Array.replicate 124 none
  statics := none }

def pool1 : Array CpInfo := pool [(2, .class_ 4), (1, u "java/lang/Object"), (0, u "<init>"), (0, u "()V"), (0, .methodref 8 9), (0, .class_ 10), (0, .nameAndType 11 12), (0, u "com/example/majra/majra/lang/ParameterKindNamedPinLaw"), (0, u "keyword"), (0, u "(I)Ljava/lang/String;"), (0, .methodref 8 14), (0, .nameAndType 15 16), (0, u "at"), (0, u "(Ljava/lang/String;IZICC)C"), (0, .methodref 8 18), (0, .nameAndType 19 20), (0, u "make"), (0, u "(ICCCCCCC)Ljava/lang/String;"), (0, .methodref 8 22), (0, .nameAndType 23 24), (0, u "reference"), (0, u "(Ljava/lang/String;)Lcom/example/majra/majra/lang/ParameterKind;"), (0, .methodref 26 27), (0, .class_ 28), (0, .nameAndType 29 24), (0, u "com/example/majra/majra/lang/ParameterKind"), (0, u "named"), (0, .string 31), (0, u "int"), (0, .string 33), (0, u "float"), (0, .string 35), (0, u "boolean"), (0, .string 37), (0, u "string"), (0, .methodref 39 40), (0, .class_ 41), (0, .nameAndType 42 43), (0, u "java/lang/String"), (0, u "length"), (0, u "()I"), (0, .methodref 39 45), (0, .nameAndType 46 47), (0, u "charAt"), (0, u "(I)C"), (0, .methodref 39 49), (0, .nameAndType 5 50), (0, u "([C)V"), (0, .methodref 39 52), (0, .nameAndType 53 54), (0, u "equals"), (0, u "(Ljava/lang/Object;)Z"), (0, .fieldref 26 56), (0, .nameAndType 57 58), (0, u "INT"), (0, u "Lcom/example/majra/majra/lang/ParameterKind;"), (0, .fieldref 26 60), (0, .nameAndType 61 58), (0, u "FLOAT"), (0, .fieldref 26 63), (0, .nameAndType 64 58), (0, u "BOOLEAN"), (0, .fieldref 26 66), (0, .nameAndType 67 58), (0, u "STRING"), (2, u "law"), (0, u "(IIII)Z")] 3

def k1m0 : Method := { name := "<init>", desc := "()V", sig := { parameters := [], returnType := none }, accessFlags := 1, code := none }
def k1c1 : Code := { maxStack := 8, maxLocals := 20, code := code, exceptionTable := #[], attributes := #[] }
def k1m1 : Method := { name := "law", desc := "(IIII)Z", sig := { parameters := [.int, .int, .int, .int], returnType := some .boolean }, accessFlags := 9, code := some k1c1 }
def k1c2 : Code := { maxStack := 2, maxLocals := 1, code := method_3_code, exceptionTable := #[], attributes := #[] }
def k1m2 : Method := { name := "keyword", desc := "(I)Ljava/lang/String;", sig := { parameters := [.int], returnType := some (.object "java/lang/String") }, accessFlags := 10, code := some k1c2 }
def k1c3 : Code := { maxStack := 2, maxLocals := 6, code := method_4_code, exceptionTable := #[], attributes := #[] }
def k1m3 : Method := { name := "at", desc := "(Ljava/lang/String;IZICC)C", sig := { parameters := [(.object "java/lang/String"), .int, .boolean, .int, .char, .char], returnType := some .char }, accessFlags := 10, code := some k1c3 }
def k1c4 : Code := { maxStack := 6, maxLocals := 8, code := method_5_code, exceptionTable := #[], attributes := #[] }
def k1m4 : Method := { name := "make", desc := "(ICCCCCCC)Ljava/lang/String;", sig := { parameters := [.int, .char, .char, .char, .char, .char, .char, .char], returnType := some (.object "java/lang/String") }, accessFlags := 10, code := some k1c4 }
def k1c5 : Code := { maxStack := 2, maxLocals := 1, code := method_6_code, exceptionTable := #[], attributes := #[] }
def k1m5 : Method := { name := "reference", desc := "(Ljava/lang/String;)Lcom/example/majra/majra/lang/ParameterKind;", sig := { parameters := [(.object "java/lang/String")], returnType := some (.object "com/example/majra/majra/lang/ParameterKind") }, accessFlags := 10, code := some k1c5 }
/-- com/example/majra/majra/lang/ParameterKindNamedPinLaw -/
def k1 : Class := { plain "com/example/majra/majra/lang/ParameterKindNamedPinLaw" (some 0) with
  accessFlags := 49
  interfaces := #[]
  cf := some (fileOf pool1 8 #[] #[{ accessFlags := 1, nameIndex := 5, descriptorIndex := 6, attributes := #[] }, { accessFlags := 9, nameIndex := 70, descriptorIndex := 71, attributes := #[] }, { accessFlags := 10, nameIndex := 11, descriptorIndex := 12, attributes := #[] }, { accessFlags := 10, nameIndex := 15, descriptorIndex := 16, attributes := #[] }, { accessFlags := 10, nameIndex := 19, descriptorIndex := 20, attributes := #[] }, { accessFlags := 10, nameIndex := 23, descriptorIndex := 24, attributes := #[] }] 49 2 #[] #[])
  fields := #[]
  methods := #[k1m0, k1m1, k1m2, k1m3, k1m4, k1m5]
  instanceTypes := #[]
  staticTypes := #[]
  resolved := Array.replicate 75 none
  statics := none }

def pool2 : Array CpInfo := pool [(1, .class_ 2), (0, u "java/io/Serializable"), (0, .class_ 4), (0, u "java/lang/Object")] 2

/-- java/io/Serializable -/
def k2 : Class := { plain "java/io/Serializable" (some 0) with
  accessFlags := 1537
  interfaces := #[]
  cf := some (fileOf pool2 1 #[] #[] 1537 3 #[] #[])
  fields := #[]
  methods := #[]
  instanceTypes := #[]
  staticTypes := #[]
  resolved := Array.replicate 7 none
  statics := none }

def pool3 : Array CpInfo := pool [(1, .class_ 2), (0, u "java/lang/Comparable"), (0, .class_ 4), (0, u "java/lang/Object")] 7

/-- java/lang/Comparable -/
def k3 : Class := { plain "java/lang/Comparable" (some 0) with
  accessFlags := 1537
  interfaces := #[]
  cf := some (fileOf pool3 1 #[] #[] 1537 3 #[] #[])
  fields := #[]
  methods := #[]
  instanceTypes := #[]
  staticTypes := #[]
  resolved := Array.replicate 12 none
  statics := none }

def pool4 : Array CpInfo := pool [(2, .class_ 4), (1, u "java/lang/CharSequence"), (42, .class_ 48), (0, u "java/lang/CharSequence$1CodePointIterator"), (10, .class_ 60), (0, u "java/lang/CharSequence$1CharIterator"), (5, .class_ 67), (0, u "java/lang/Object")] 63

/-- java/lang/CharSequence -/
def k4 : Class := { plain "java/lang/CharSequence" (some 0) with
  accessFlags := 1537
  interfaces := #[]
  cf := some (fileOf pool4 2 #[.nestMembers #[47, 59]] #[] 1537 66 #[] #[])
  fields := #[]
  methods := #[]
  instanceTypes := #[]
  staticTypes := #[]
  resolved := Array.replicate 131 none
  statics := none }

def pool5 : Array CpInfo := pool [(1, .class_ 2), (0, u "java/lang/constant/Constable"), (0, .class_ 4), (0, u "java/lang/Object")] 6

/-- java/lang/constant/Constable -/
def k5 : Class := { plain "java/lang/constant/Constable" (some 0) with
  accessFlags := 1537
  interfaces := #[]
  cf := some (fileOf pool5 1 #[] #[] 1537 3 #[] #[])
  fields := #[]
  methods := #[]
  instanceTypes := #[]
  staticTypes := #[]
  resolved := Array.replicate 11 none
  statics := none }

def pool6 : Array CpInfo := pool [(1, .class_ 2), (0, u "java/lang/constant/ConstantDesc"), (0, .class_ 4), (0, u "java/lang/Object")] 32

/-- java/lang/constant/ConstantDesc -/
def k6 : Class := { plain "java/lang/constant/ConstantDesc" (some 0) with
  accessFlags := 1537
  interfaces := #[]
  cf := some (fileOf pool6 1 #[] #[] 1537 3 #[] #[])
  fields := #[]
  methods := #[]
  instanceTypes := #[]
  staticTypes := #[]
  resolved := Array.replicate 37 none
  statics := none }

def pool7 : Array CpInfo := pool [(1, .methodref 2 3), (0, .class_ 4), (0, .nameAndType 5 6), (0, u "java/lang/Object"), (0, u "<init>"), (0, u "()V"), (0, .string 8), (0, u ""), (0, .fieldref 10 11), (0, .class_ 12), (0, .nameAndType 13 14), (0, u "java/lang/String"), (0, u "value"), (0, u "[B"), (0, .fieldref 10 16), (0, .nameAndType 17 18), (0, u "coder"), (0, u "B"), (2, u "hash"), (0, u "I"), (2, u "hashIsZero"), (0, u "Z"), (0, .methodref 10 28), (0, .nameAndType 5 29), (0, u "([CIILjava/lang/Void;)V"), (8, .fieldref 10 39), (0, .nameAndType 40 26), (0, u "COMPACT_STRINGS"), (1, .class_ 44), (1, u "java/lang/StringUTF16"), (0, u "compress"), (1, .methodref 42 48), (0, .nameAndType 49 50), (0, u "coderFromArrayLen"), (0, u "([BI)B"), (56, .class_ 109), (1, u "java/lang/StringLatin1"), (32, u "()Z"), (34, .methodref 42 178), (0, .nameAndType 45 179), (0, u "([CII)[B"), (154, u "()I"), (0, .methodref 10 336), (0, .nameAndType 17 337), (0, u "()B"), (25, u "([BI)C"), (27, u "(II)V"), (35, u "(I)C"), (64, .methodref 10 493), (0, .nameAndType 494 142), (0, u "isLatin1"), (0, .methodref 107 496), (0, .nameAndType 497 363), (0, u "charAt"), (3, u "checkIndex"), (5, u "length"), (33, .methodref 107 542), (0, .nameAndType 543 544), (0, u "equals"), (0, u "([B[B)Z"), (28, u "(Ljava/lang/Object;)Z"), (1, .class_ 576), (0, u "java/lang/CharSequence"), (22, u "CASE_INSENSITIVE_ORDER"), (0, u "Ljava/util/Comparator;"), (409, u "([C)V"), (42, .fieldref 1054 1055), (0, .class_ 1056), (0, .nameAndType 1057 1058), (0, u "jdk/internal/util/Preconditions"), (0, u "SIOOBE_FORMATTER"), (0, u "Ljava/util/function/BiFunction;"), (0, .methodref 1054 1060), (0, .nameAndType 501 1061), (0, u "(IILjava/util/function/BiFunction;)I"), (39, u "serialPersistentFields"), (0, u "[Ljava/io/ObjectStreamField;"), (0, .class_ 1104), (0, u "java/lang/String$CaseInsensitiveComparator"), (1, .class_ 1107), (0, u "java/io/Serializable"), (0, .class_ 1109), (0, u "java/lang/Comparable"), (0, .class_ 1111), (0, u "java/lang/constant/Constable"), (0, .class_ 1113), (0, u "java/lang/constant/ConstantDesc"), (2, u "serialVersionUID"), (0, u "J"), (3, u "REPL"), (0, u "C"), (2, u "LATIN1"), (1, u "UTF16")] 323

def k7m0 : Method := { name := "<init>", desc := "()V", sig := { parameters := [], returnType := none }, accessFlags := 1, code := none }
def k7c1 : Code := { maxStack := 5, maxLocals := 2, code := jdk_42_method_3_code, exceptionTable := #[], attributes := #[] }
def k7m1 : Method := { name := "<init>", desc := "([C)V", sig := { parameters := [(.array .char)], returnType := none }, accessFlags := 1, code := some k7c1 }
def k7c2 : Code := { maxStack := 2, maxLocals := 1, code := jdk_42_method_54_code, exceptionTable := #[], attributes := #[] }
def k7m2 : Method := { name := "length", desc := "()I", sig := { parameters := [], returnType := some .int }, accessFlags := 1, code := some k7c2 }
def k7c3 : Code := { maxStack := 2, maxLocals := 2, code := jdk_42_method_56_code, exceptionTable := #[], attributes := #[] }
def k7m3 : Method := { name := "charAt", desc := "(I)C", sig := { parameters := [.int], returnType := some .char }, accessFlags := 1, code := some k7c3 }
def k7c4 : Code := { maxStack := 2, maxLocals := 3, code := jdk_42_method_66_code, exceptionTable := #[], attributes := #[] }
def k7m4 : Method := { name := "equals", desc := "(Ljava/lang/Object;)Z", sig := { parameters := [(.object "java/lang/Object")], returnType := some .boolean }, accessFlags := 1, code := some k7c4 }
def k7c5 : Code := { maxStack := 4, maxLocals := 6, code := jdk_42_method_149_code, exceptionTable := #[], attributes := #[] }
def k7m5 : Method := { name := "<init>", desc := "([CIILjava/lang/Void;)V", sig := { parameters := [(.array .char), .int, .int, (.object "java/lang/Void")], returnType := none }, accessFlags := 2, code := some k7c5 }
def k7c6 : Code := { maxStack := 1, maxLocals := 1, code := jdk_42_method_152_code, exceptionTable := #[], attributes := #[] }
def k7m6 : Method := { name := "coder", desc := "()B", sig := { parameters := [], returnType := some .byte }, accessFlags := 0, code := some k7c6 }
def k7c7 : Code := { maxStack := 1, maxLocals := 1, code := jdk_42_method_154_code, exceptionTable := #[], attributes := #[] }
def k7m7 : Method := { name := "isLatin1", desc := "()Z", sig := { parameters := [], returnType := some .boolean }, accessFlags := 0, code := some k7c7 }
def k7c8 : Code := { maxStack := 3, maxLocals := 2, code := jdk_42_method_155_code, exceptionTable := #[], attributes := #[] }
def k7m8 : Method := { name := "checkIndex", desc := "(II)V", sig := { parameters := [.int, .int], returnType := none }, accessFlags := 8, code := some k7c8 }
/-- java/lang/String -/
def k7 : Class := { plain "java/lang/String" (some 0) with
  accessFlags := 49
  interfaces := #[2, 3, 4, 5, 6]
  cf := some (fileOf pool7 10 #[.nestMembers #[1103]] #[{ accessFlags := 1, nameIndex := 5, descriptorIndex := 6, attributes := #[] }, { accessFlags := 1, nameIndex := 5, descriptorIndex := 1010, attributes := #[] }, { accessFlags := 1, nameIndex := 507, descriptorIndex := 334, attributes := #[] }, { accessFlags := 1, nameIndex := 497, descriptorIndex := 427, attributes := #[] }, { accessFlags := 1, nameIndex := 543, descriptorIndex := 573, attributes := #[] }, { accessFlags := 2, nameIndex := 5, descriptorIndex := 29, attributes := #[] }, { accessFlags := 0, nameIndex := 17, descriptorIndex := 337, attributes := #[] }, { accessFlags := 0, nameIndex := 494, descriptorIndex := 142, attributes := #[] }, { accessFlags := 8, nameIndex := 501, descriptorIndex := 391, attributes := #[] }] 49 2 #[1106, 1108, 575, 1110, 1112] #[{ accessFlags := 18, nameIndex := 13, descriptorIndex := 14, attributes := #[] }, { accessFlags := 18, nameIndex := 17, descriptorIndex := 18, attributes := #[] }, { accessFlags := 2, nameIndex := 21, descriptorIndex := 22, attributes := #[] }, { accessFlags := 2, nameIndex := 25, descriptorIndex := 26, attributes := #[] }, { accessFlags := 26, nameIndex := 1116, descriptorIndex := 1117, attributes := #[] }, { accessFlags := 24, nameIndex := 40, descriptorIndex := 26, attributes := #[] }, { accessFlags := 26, nameIndex := 1101, descriptorIndex := 1102, attributes := #[] }, { accessFlags := 26, nameIndex := 1121, descriptorIndex := 1122, attributes := #[] }, { accessFlags := 25, nameIndex := 599, descriptorIndex := 600, attributes := #[] }, { accessFlags := 24, nameIndex := 1125, descriptorIndex := 18, attributes := #[] }, { accessFlags := 24, nameIndex := 1127, descriptorIndex := 18, attributes := #[] }])
  fields := #[{ name := "value", type := (.array .byte), accessFlags := 18, slot := 0, constantValue := 0 }, { name := "coder", type := .byte, accessFlags := 18, slot := 1, constantValue := 0 }, { name := "hash", type := .int, accessFlags := 2, slot := 2, constantValue := 0 }, { name := "hashIsZero", type := .boolean, accessFlags := 2, slot := 3, constantValue := 0 }, { name := "serialVersionUID", type := .long, accessFlags := 26, slot := 0, constantValue := 0 }, { name := "COMPACT_STRINGS", type := .boolean, accessFlags := 24, slot := 1, constantValue := 0 }, { name := "serialPersistentFields", type := (.array (.object "java/io/ObjectStreamField")), accessFlags := 26, slot := 2, constantValue := 0 }, { name := "REPL", type := .char, accessFlags := 26, slot := 3, constantValue := 0 }, { name := "CASE_INSENSITIVE_ORDER", type := (.object "java/util/Comparator"), accessFlags := 25, slot := 4, constantValue := 0 }, { name := "LATIN1", type := .byte, accessFlags := 24, slot := 5, constantValue := 0 }, { name := "UTF16", type := .byte, accessFlags := 24, slot := 6, constantValue := 0 }]
  methods := #[k7m0, k7m1, k7m2, k7m3, k7m4, k7m5, k7m6, k7m7, k7m8]
  instanceTypes := #[(.array .byte), .byte, .int, .boolean]
  staticTypes := #[.long, .boolean, (.array (.object "java/io/ObjectStreamField")), .char, (.object "java/util/Comparator"), .byte, .byte]
  resolved := Array.replicate 1451 none
  statics := some 0 }

def pool8 : Array CpInfo := pool [(1, .class_ 2), (0, u "java/lang/String"), (1, .class_ 6), (1, u "java/lang/Object"), (0, u "<init>"), (0, u "()V"), (0, .methodref 1 10), (0, .nameAndType 11 12), (0, u "checkIndex"), (0, u "(II)V"), (1, .class_ 16), (1, u "java/lang/StringLatin1"), (36, u "([BI)C"), (67, u "$assertionsDisabled"), (0, u "Z"), (98, .class_ 223), (1, u "java/lang/StringLatin1$LinesSpliterator"), (28, u "charAt"), (28, u "equals"), (0, u "([B[B)Z"), (107, .class_ 391), (0, u "java/lang/StringLatin1$CharsSpliterator")] 3

def k8m0 : Method := { name := "<init>", desc := "()V", sig := { parameters := [], returnType := none }, accessFlags := 0, code := none }
def k8c1 : Code := { maxStack := 2, maxLocals := 2, code := jdk_43_method_2_code, exceptionTable := #[], attributes := #[] }
def k8m1 : Method := { name := "charAt", desc := "([BI)C", sig := { parameters := [(.array .byte), .int], returnType := some .char }, accessFlags := 9, code := some k8c1 }
def k8c2 : Code := { maxStack := 3, maxLocals := 3, code := jdk_43_method_13_code, exceptionTable := #[], attributes := #[] }
def k8m2 : Method := { name := "equals", desc := "([B[B)Z", sig := { parameters := [(.array .byte), (.array .byte)], returnType := some .boolean }, accessFlags := 9, code := some k8c2 }
/-- java/lang/StringLatin1 -/
def k8 : Class := { plain "java/lang/StringLatin1" (some 0) with
  accessFlags := 48
  interfaces := #[]
  cf := some (fileOf pool8 14 #[.nestMembers #[390, 221]] #[{ accessFlags := 0, nameIndex := 7, descriptorIndex := 8, attributes := #[] }, { accessFlags := 9, nameIndex := 252, descriptorIndex := 53, attributes := #[] }, { accessFlags := 9, nameIndex := 281, descriptorIndex := 282, attributes := #[] }] 48 4 #[] #[{ accessFlags := 4120, nameIndex := 121, descriptorIndex := 122, attributes := #[] }])
  fields := #[{ name := "$assertionsDisabled", type := .boolean, accessFlags := 4120, slot := 0, constantValue := 0 }]
  methods := #[k8m0, k8m1, k8m2]
  instanceTypes := #[]
  staticTypes := #[.boolean]
  resolved := Array.replicate 395 none
  statics := none }

def pool9 : Array CpInfo := pool [(2, .class_ 4), (1, u "java/lang/Object"), (0, u "<init>"), (0, u "()V"), (17, .class_ 26), (1, u "jdk/internal/util/Preconditions"), (6, u "checkIndex"), (21, .class_ 56), (0, u "jdk/internal/util/Preconditions$4"), (57, .class_ 115), (0, u "jdk/internal/util/Preconditions$1"), (7, u "SIOOBE_FORMATTER"), (0, u "Ljava/util/function/BiFunction;"), (0, .class_ 126), (0, u "jdk/internal/util/Preconditions$2"), (3, u "AIOOBE_FORMATTER"), (0, .class_ 132), (0, u "jdk/internal/util/Preconditions$3"), (3, u "IOOBE_FORMATTER"), (41, u "(IILjava/util/function/BiFunction;)I")] 15

def k9m0 : Method := { name := "<init>", desc := "()V", sig := { parameters := [], returnType := none }, accessFlags := 1, code := none }
def k9c1 : Code := { maxStack := 3, maxLocals := 3, code := jdk_41_method_11_code, exceptionTable := #[], attributes := #[] }
def k9m1 : Method := { name := "checkIndex", desc := "(IILjava/util/function/BiFunction;)I", sig := { parameters := [.int, .int, (.object "java/util/function/BiFunction")], returnType := some .int }, accessFlags := 9, code := some k9c1 }
/-- jdk/internal/util/Preconditions -/
def k9 : Class := { plain "jdk/internal/util/Preconditions" (some 0) with
  accessFlags := 33
  interfaces := #[]
  cf := some (fileOf pool9 24 #[.nestMembers #[55, 131, 125, 114]] #[{ accessFlags := 1, nameIndex := 5, descriptorIndex := 6, attributes := #[] }, { accessFlags := 9, nameIndex := 33, descriptorIndex := 178, attributes := #[] }] 33 2 #[] #[{ accessFlags := 25, nameIndex := 123, descriptorIndex := 124, attributes := #[] }, { accessFlags := 25, nameIndex := 130, descriptorIndex := 124, attributes := #[] }, { accessFlags := 25, nameIndex := 136, descriptorIndex := 124, attributes := #[] }])
  fields := #[{ name := "SIOOBE_FORMATTER", type := (.object "java/util/function/BiFunction"), accessFlags := 25, slot := 0, constantValue := 0 }, { name := "AIOOBE_FORMATTER", type := (.object "java/util/function/BiFunction"), accessFlags := 25, slot := 1, constantValue := 0 }, { name := "IOOBE_FORMATTER", type := (.object "java/util/function/BiFunction"), accessFlags := 25, slot := 2, constantValue := 0 }]
  methods := #[k9m0, k9m1]
  instanceTypes := #[]
  staticTypes := #[(.object "java/util/function/BiFunction"), (.object "java/util/function/BiFunction"), (.object "java/util/function/BiFunction")]
  resolved := Array.replicate 194 none
  statics := some 1 }

def pool10 : Array CpInfo := pool [(6, .class_ 8), (1, u "java/lang/Object"), (0, u "<init>"), (0, u "()V"), (1, .class_ 14), (1, u "java/lang/StringUTF16"), (31, u "$assertionsDisabled"), (0, u "Z"), (13, u "HI_BYTE_SHIFT"), (0, u "I"), (2, u "LO_BYTE_SHIFT"), (49, .methodref 12 116), (0, .nameAndType 117 118), (0, u "compress"), (0, u "([CI[BII)I"), (3, u "([CII)[B"), (138, u "coderFromArrayLen"), (0, u "([BI)B"), (106, .class_ 371), (1, u "java/lang/StringUTF16$LinesSpliterator"), (58, u "MAX_LENGTH"), (196, .class_ 628), (0, u "java/lang/StringUTF16$CodePointsSpliterator"), (0, .class_ 630), (0, u "java/lang/StringUTF16$CharsSpliterator")] 4

def k10m0 : Method := { name := "<init>", desc := "()V", sig := { parameters := [], returnType := none }, accessFlags := 0, code := none }
def k10c1 : Code := { maxStack := 2, maxLocals := 2, code := jdk_52_method_15_code, exceptionTable := #[], attributes := #[] }
def k10m1 : Method := { name := "coderFromArrayLen", desc := "([BI)B", sig := { parameters := [(.array .byte), .int], returnType := some .byte }, accessFlags := 8, code := some k10c1 }
def k10c2 : Code := { maxStack := 5, maxLocals := 6, code := jdk_52_method_16_code, exceptionTable := #[], attributes := #[] }
def k10m2 : Method := { name := "compress", desc := "([CII)[B", sig := { parameters := [(.array .char), .int, .int], returnType := some (.array .byte) }, accessFlags := 9, code := some k10c2 }
def k10c3 : Code := { maxStack := 3, maxLocals := 7, code := jdk_52_method_21_code, exceptionTable := #[], attributes := #[] }
def k10m3 : Method := { name := "compress", desc := "([CI[BII)I", sig := { parameters := [(.array .char), .int, (.array .byte), .int, .int], returnType := some .int }, accessFlags := 9, code := some k10c3 }
/-- java/lang/StringUTF16 -/
def k10 : Class := { plain "java/lang/StringUTF16" (some 0) with
  accessFlags := 48
  interfaces := #[]
  cf := some (fileOf pool10 12 #[.nestMembers #[627, 629, 369]] #[{ accessFlags := 0, nameIndex := 9, descriptorIndex := 10, attributes := #[] }, { accessFlags := 8, nameIndex := 261, descriptorIndex := 262, attributes := #[] }, { accessFlags := 9, nameIndex := 117, descriptorIndex := 122, attributes := #[] }, { accessFlags := 9, nameIndex := 117, descriptorIndex := 118, attributes := #[] }] 48 6 #[] #[{ accessFlags := 26, nameIndex := 61, descriptorIndex := 62, attributes := #[] }, { accessFlags := 26, nameIndex := 65, descriptorIndex := 62, attributes := #[] }, { accessFlags := 24, nameIndex := 430, descriptorIndex := 62, attributes := #[] }, { accessFlags := 4120, nameIndex := 46, descriptorIndex := 47, attributes := #[] }])
  fields := #[{ name := "HI_BYTE_SHIFT", type := .int, accessFlags := 26, slot := 0, constantValue := 0 }, { name := "LO_BYTE_SHIFT", type := .int, accessFlags := 26, slot := 1, constantValue := 0 }, { name := "MAX_LENGTH", type := .int, accessFlags := 24, slot := 2, constantValue := 0 }, { name := "$assertionsDisabled", type := .boolean, accessFlags := 4120, slot := 3, constantValue := 0 }]
  methods := #[k10m0, k10m1, k10m2, k10m3]
  instanceTypes := #[]
  staticTypes := #[.int, .int, .int, .boolean]
  resolved := Array.replicate 635 none
  statics := none }

def pool11 : Array CpInfo := pool [(2, .class_ 4), (1, u "java/lang/Enum"), (0, u "name"), (0, u "Ljava/lang/String;"), (2, u "ordinal"), (0, u "I"), (1, .class_ 14), (1, u "java/lang/Object"), (4, u "hash"), (86, .class_ 108), (1, u "java/lang/Enum$EnumDesc"), (2, .class_ 112), (0, u "java/lang/constant/Constable"), (0, .class_ 114), (0, u "java/lang/Comparable"), (0, .class_ 116), (0, u "java/io/Serializable")] 87

/-- java/lang/Enum -/
def k11 : Class := { plain "java/lang/Enum" (some 0) with
  accessFlags := 1057
  interfaces := #[5, 3, 2]
  cf := some (fileOf pool11 2 #[.nestMembers #[106]] #[] 1057 12 #[111, 113, 115] #[{ accessFlags := 18, nameIndex := 5, descriptorIndex := 6, attributes := #[] }, { accessFlags := 18, nameIndex := 9, descriptorIndex := 10, attributes := #[] }, { accessFlags := 2, nameIndex := 19, descriptorIndex := 10, attributes := #[] }])
  fields := #[{ name := "name", type := (.object "java/lang/String"), accessFlags := 18, slot := 0, constantValue := 0 }, { name := "ordinal", type := .int, accessFlags := 18, slot := 1, constantValue := 0 }, { name := "hash", type := .int, accessFlags := 2, slot := 2, constantValue := 0 }]
  methods := #[]
  instanceTypes := #[(.object "java/lang/String"), .int, .int]
  staticTypes := #[]
  resolved := Array.replicate 204 none
  statics := none }

def pool12 : Array CpInfo := pool [(1, .class_ 2), (0, u "com/example/majra/majra/lang/ParameterKind"), (2, u "INT"), (0, u "Lcom/example/majra/majra/lang/ParameterKind;"), (2, u "FLOAT"), (2, u "BOOLEAN"), (2, u "STRING"), (0, .fieldref 1 17), (0, .nameAndType 18 19), (0, u "$VALUES"), (0, u "[Lcom/example/majra/majra/lang/ParameterKind;"), (0, .methodref 21 22), (0, .class_ 19), (0, .nameAndType 23 24), (0, u "clone"), (0, u "()Ljava/lang/Object;"), (1, .class_ 28), (1, u "java/lang/Enum"), (6, .fieldref 1 36), (0, .nameAndType 37 38), (0, u "keyword"), (0, u "Ljava/lang/String;"), (0, .methodref 1 40), (0, .nameAndType 41 42), (0, u "values"), (0, u "()[Lcom/example/majra/majra/lang/ParameterKind;"), (0, .methodref 44 45), (0, .class_ 46), (0, .nameAndType 47 48), (0, u "java/lang/String"), (0, u "equals"), (0, u "(Ljava/lang/Object;)Z"), (14, u "INTEGER"), (0, u "Ljava/util/regex/Pattern;"), (196, u "(Ljava/lang/String;)Lcom/example/majra/majra/lang/ParameterKind;"), (2, u "named")] 43

def k12c0 : Code := { maxStack := 1, maxLocals := 0, code := prog_64_method_1_code, exceptionTable := #[], attributes := #[] }
def k12m0 : Method := { name := "values", desc := "()[Lcom/example/majra/majra/lang/ParameterKind;", sig := { parameters := [], returnType := some (.array (.object "com/example/majra/majra/lang/ParameterKind")) }, accessFlags := 9, code := some k12c0 }
def k12c1 : Code := { maxStack := 2, maxLocals := 6, code := prog_64_method_4_code, exceptionTable := #[], attributes := #[] }
def k12m1 : Method := { name := "named", desc := "(Ljava/lang/String;)Lcom/example/majra/majra/lang/ParameterKind;", sig := { parameters := [(.object "java/lang/String")], returnType := some (.object "com/example/majra/majra/lang/ParameterKind") }, accessFlags := 8, code := some k12c1 }
/-- com/example/majra/majra/lang/ParameterKind -/
def k12 : Class := { plain "com/example/majra/majra/lang/ParameterKind" (some 11) with
  accessFlags := 16432
  interfaces := #[]
  cf := some (fileOf pool12 1 #[] #[{ accessFlags := 9, nameIndex := 41, descriptorIndex := 42, attributes := #[] }, { accessFlags := 8, nameIndex := 264, descriptorIndex := 261, attributes := #[] }] 16432 26 #[] #[{ accessFlags := 16409, nameIndex := 5, descriptorIndex := 6, attributes := #[] }, { accessFlags := 16409, nameIndex := 9, descriptorIndex := 6, attributes := #[] }, { accessFlags := 16409, nameIndex := 12, descriptorIndex := 6, attributes := #[] }, { accessFlags := 16409, nameIndex := 15, descriptorIndex := 6, attributes := #[] }, { accessFlags := 26, nameIndex := 63, descriptorIndex := 64, attributes := #[] }, { accessFlags := 18, nameIndex := 37, descriptorIndex := 38, attributes := #[] }, { accessFlags := 4122, nameIndex := 18, descriptorIndex := 19, attributes := #[] }])
  fields := #[{ name := "INT", type := (.object "com/example/majra/majra/lang/ParameterKind"), accessFlags := 16409, slot := 0, constantValue := 0 }, { name := "FLOAT", type := (.object "com/example/majra/majra/lang/ParameterKind"), accessFlags := 16409, slot := 1, constantValue := 0 }, { name := "BOOLEAN", type := (.object "com/example/majra/majra/lang/ParameterKind"), accessFlags := 16409, slot := 2, constantValue := 0 }, { name := "STRING", type := (.object "com/example/majra/majra/lang/ParameterKind"), accessFlags := 16409, slot := 3, constantValue := 0 }, { name := "INTEGER", type := (.object "java/util/regex/Pattern"), accessFlags := 26, slot := 4, constantValue := 0 }, { name := "keyword", type := (.object "java/lang/String"), accessFlags := 18, slot := 3, constantValue := 0 }, { name := "$VALUES", type := (.array (.object "com/example/majra/majra/lang/ParameterKind")), accessFlags := 4122, slot := 5, constantValue := 0 }]
  methods := #[k12m0, k12m1]
  instanceTypes := #[(.object "java/lang/String"), .int, .int, (.object "java/lang/String")]
  staticTypes := #[(.object "com/example/majra/majra/lang/ParameterKind"), (.object "com/example/majra/majra/lang/ParameterKind"), (.object "com/example/majra/majra/lang/ParameterKind"), (.object "com/example/majra/majra/lang/ParameterKind"), (.object "java/util/regex/Pattern"), (.array (.object "com/example/majra/majra/lang/ParameterKind"))]
  resolved := Array.replicate 308 none
  statics := some 2 }

def pool13 : Array CpInfo := pool [(1, .class_ 2), (0, u "java/lang/Cloneable"), (0, .class_ 4), (0, u "java/lang/Object")] 2

/-- java/lang/Cloneable -/
def k13 : Class := { plain "java/lang/Cloneable" (some 0) with
  accessFlags := 1537
  interfaces := #[]
  cf := some (fileOf pool13 1 #[] #[] 1537 3 #[] #[])
  fields := #[]
  methods := #[]
  instanceTypes := #[]
  staticTypes := #[]
  resolved := Array.replicate 7 none
  statics := none }

def pool14 : Array CpInfo := pool [(9, u "<init>"), (6, .class_ 18), (1, u "java/lang/Object"), (0, u "()V"), (1, .class_ 23), (1, u "jdk/internal/util/ArraysSupport"), (0, u "LOG2_ARRAY_LONG_INDEX_SCALE"), (0, u "I"), (2, u "U"), (0, u "Ljdk/internal/misc/Unsafe;"), (8, u "BIG_ENDIAN"), (0, u "Z"), (8, u "LOG2_BYTE_BIT_SIZE"), (4, u "LOG2_ARRAY_INT_INDEX_SCALE"), (54, u "JLA"), (0, u "Ljdk/internal/access/JavaLangAccess;"), (11, u "LOG2_ARRAY_BOOLEAN_INDEX_SCALE"), (9, u "LOG2_ARRAY_BYTE_INDEX_SCALE"), (5, u "LOG2_ARRAY_CHAR_INDEX_SCALE"), (5, u "LOG2_ARRAY_SHORT_INDEX_SCALE"), (18, u "LOG2_ARRAY_FLOAT_INDEX_SCALE"), (24, u "LOG2_ARRAY_DOUBLE_INDEX_SCALE"), (89, u "T_BOOLEAN"), (2, u "T_CHAR"), (1, u "T_FLOAT"), (1, u "T_DOUBLE"), (1, u "T_BYTE"), (1, u "T_SHORT"), (1, u "T_INT"), (1, u "T_LONG"), (1, u "SOFT_MAX_ARRAY_LENGTH")] 83

def k14m0 : Method := { name := "<init>", desc := "()V", sig := { parameters := [], returnType := none }, accessFlags := 2, code := none }
/-- jdk/internal/util/ArraysSupport -/
def k14 : Class := { plain "jdk/internal/util/ArraysSupport" (some 0) with
  accessFlags := 33
  interfaces := #[]
  cf := some (fileOf pool14 21 #[] #[{ accessFlags := 2, nameIndex := 9, descriptorIndex := 19, attributes := #[] }] 33 16 #[] #[{ accessFlags := 24, nameIndex := 28, descriptorIndex := 29, attributes := #[] }, { accessFlags := 26, nameIndex := 38, descriptorIndex := 39, attributes := #[] }, { accessFlags := 25, nameIndex := 121, descriptorIndex := 25, attributes := #[] }, { accessFlags := 25, nameIndex := 131, descriptorIndex := 25, attributes := #[] }, { accessFlags := 25, nameIndex := 137, descriptorIndex := 25, attributes := #[] }, { accessFlags := 25, nameIndex := 143, descriptorIndex := 25, attributes := #[] }, { accessFlags := 25, nameIndex := 53, descriptorIndex := 25, attributes := #[] }, { accessFlags := 25, nameIndex := 24, descriptorIndex := 25, attributes := #[] }, { accessFlags := 25, nameIndex := 162, descriptorIndex := 25, attributes := #[] }, { accessFlags := 25, nameIndex := 187, descriptorIndex := 25, attributes := #[] }, { accessFlags := 26, nameIndex := 48, descriptorIndex := 25, attributes := #[] }, { accessFlags := 25, nameIndex := 277, descriptorIndex := 25, attributes := #[] }, { accessFlags := 25, nameIndex := 280, descriptorIndex := 25, attributes := #[] }, { accessFlags := 25, nameIndex := 282, descriptorIndex := 25, attributes := #[] }, { accessFlags := 25, nameIndex := 284, descriptorIndex := 25, attributes := #[] }, { accessFlags := 25, nameIndex := 286, descriptorIndex := 25, attributes := #[] }, { accessFlags := 25, nameIndex := 288, descriptorIndex := 25, attributes := #[] }, { accessFlags := 25, nameIndex := 290, descriptorIndex := 25, attributes := #[] }, { accessFlags := 25, nameIndex := 292, descriptorIndex := 25, attributes := #[] }, { accessFlags := 26, nameIndex := 108, descriptorIndex := 109, attributes := #[] }, { accessFlags := 25, nameIndex := 294, descriptorIndex := 25, attributes := #[] }])
  fields := #[{ name := "U", type := (.object "jdk/internal/misc/Unsafe"), accessFlags := 24, slot := 0, constantValue := 0 }, { name := "BIG_ENDIAN", type := .boolean, accessFlags := 26, slot := 1, constantValue := 0 }, { name := "LOG2_ARRAY_BOOLEAN_INDEX_SCALE", type := .int, accessFlags := 25, slot := 2, constantValue := 0 }, { name := "LOG2_ARRAY_BYTE_INDEX_SCALE", type := .int, accessFlags := 25, slot := 3, constantValue := 0 }, { name := "LOG2_ARRAY_CHAR_INDEX_SCALE", type := .int, accessFlags := 25, slot := 4, constantValue := 0 }, { name := "LOG2_ARRAY_SHORT_INDEX_SCALE", type := .int, accessFlags := 25, slot := 5, constantValue := 0 }, { name := "LOG2_ARRAY_INT_INDEX_SCALE", type := .int, accessFlags := 25, slot := 6, constantValue := 0 }, { name := "LOG2_ARRAY_LONG_INDEX_SCALE", type := .int, accessFlags := 25, slot := 7, constantValue := 0 }, { name := "LOG2_ARRAY_FLOAT_INDEX_SCALE", type := .int, accessFlags := 25, slot := 8, constantValue := 0 }, { name := "LOG2_ARRAY_DOUBLE_INDEX_SCALE", type := .int, accessFlags := 25, slot := 9, constantValue := 0 }, { name := "LOG2_BYTE_BIT_SIZE", type := .int, accessFlags := 26, slot := 10, constantValue := 0 }, { name := "T_BOOLEAN", type := .int, accessFlags := 25, slot := 11, constantValue := 0 }, { name := "T_CHAR", type := .int, accessFlags := 25, slot := 12, constantValue := 0 }, { name := "T_FLOAT", type := .int, accessFlags := 25, slot := 13, constantValue := 0 }, { name := "T_DOUBLE", type := .int, accessFlags := 25, slot := 14, constantValue := 0 }, { name := "T_BYTE", type := .int, accessFlags := 25, slot := 15, constantValue := 0 }, { name := "T_SHORT", type := .int, accessFlags := 25, slot := 16, constantValue := 0 }, { name := "T_INT", type := .int, accessFlags := 25, slot := 17, constantValue := 0 }, { name := "T_LONG", type := .int, accessFlags := 25, slot := 18, constantValue := 0 }, { name := "JLA", type := (.object "jdk/internal/access/JavaLangAccess"), accessFlags := 26, slot := 19, constantValue := 0 }, { name := "SOFT_MAX_ARRAY_LENGTH", type := .int, accessFlags := 25, slot := 20, constantValue := 0 }]
  methods := #[k14m0]
  instanceTypes := #[]
  staticTypes := #[(.object "jdk/internal/misc/Unsafe"), .boolean, .int, .int, .int, .int, .int, .int, .int, .int, .int, .int, .int, .int, .int, .int, .int, .int, .int, (.object "jdk/internal/access/JavaLangAccess"), .int]
  resolved := Array.replicate 378 none
  statics := none }

/-- the primitive byte -/
def k15 : Class := { plain "byte" none with kind := .primitive 'B', accessFlags := 0x411 }
/-- [B -/
def k16 : Class := { plain "[B" (some 0) with kind := .array 15 .byte, interfaces := #[13, 2], accessFlags := 1041 }

/-- the primitive char -/
def k17 : Class := { plain "char" none with kind := .primitive 'C', accessFlags := 0x411 }
/-- [C -/
def k18 : Class := { plain "[C" (some 0) with kind := .array 17 .char, interfaces := #[13, 2], accessFlags := 1041 }

/-- the primitive int -/
def k19 : Class := { plain "int" none with kind := .primitive 'I', accessFlags := 0x411 }
/-- [I -/
def k20 : Class := { plain "[I" (some 0) with kind := .array 19 .int, interfaces := #[13, 2], accessFlags := 1041 }

/-- [Lcom/example/majra/majra/lang/ParameterKind; -/
def k21 : Class := { plain "[Lcom/example/majra/majra/lang/ParameterKind;" (some 0) with kind := .array 12 (.object "com/example/majra/majra/lang/ParameterKind"), interfaces := #[13, 2], accessFlags := 1041 }

def heap : Heap := #[{ cls := 7, slots := #[.long 0, .int 1, .null, .int 0, .null, .int 0, .int 0], vm := .statics 7 },
  { cls := 9, slots := #[.null, .null, .null], vm := .statics 9 },
  { cls := 12, slots := #[.ref 4, .ref 5, .ref 6, .ref 7, .null, .ref 3], vm := .statics 12 },
  { cls := 21, slots := #[.ref 4, .ref 5, .ref 6, .ref 7], vm := .none },
  { cls := 12, slots := #[.null, .int 0, .int 0, .ref 8], vm := .none },
  { cls := 12, slots := #[.null, .int 1, .int 0, .ref 9], vm := .none },
  { cls := 12, slots := #[.null, .int 2, .int 0, .ref 10], vm := .none },
  { cls := 12, slots := #[.null, .int 3, .int 0, .ref 11], vm := .none },
  { cls := 7, slots := #[.ref 12, .int 0, .int 0, .int 0], vm := .none },
  { cls := 7, slots := #[.ref 13, .int 0, .int 0, .int 0], vm := .none },
  { cls := 7, slots := #[.ref 14, .int 0, .int 0, .int 0], vm := .none },
  { cls := 7, slots := #[.ref 15, .int 0, .int 0, .int 0], vm := .none },
  { cls := 16, slots := #[.int 105, .int 110, .int 116], vm := .none },
  { cls := 16, slots := #[.int 102, .int 108, .int 111, .int 97, .int 116], vm := .none },
  { cls := 16, slots := #[.int 98, .int 111, .int 111, .int 108, .int 101, .int 97, .int 110], vm := .none },
  { cls := 16, slots := #[.int 115, .int 116, .int 114, .int 105, .int 110, .int 103], vm := .none }]
def classes : Array Class := #[k0, k1, k2, k3, k4, k5, k6, k7, k8, k9, k10, k11, k12, k13, k14, k15, k16, k17, k18, k19, k20, k21]
def interned : List (Array UInt16 × Addr) := []
def slotsUsed : Nat := 73
def theMethod : MethodId := ⟨1, 1⟩
def args0 : Array Value := #[.int 1, .int 2, .int 3, .int 4]
def aboutOver (below : List Frame) : State where
  vm := { classes := classes, interned := interned.toArray }
  heap := heap
  slotsUsed := slotsUsed
  threads := #[{ frames := .invoking theMethod args0 :: below }]
def below0 : List Frame := [.native { method := ⟨0, 0⟩, args := #[] }]
def about1 : State := aboutOver below0
def p0 : Program := .bare "" "" ""
def e0 : Env := launch0.env 0 0 0
theorem w_frames : about1.frames = Frame.invoking theMethod args0 :: below0 := rfl
set_option maxRecDepth 65536 in
theorem w_args : argsFit about1.vm theMethod args0 = true := by decide +kernel
set_option maxRecDepth 65536 in
theorem w_heap : heapFits about1 = true := by decide +kernel
set_option maxRecDepth 65536 in
theorem w_runnable : about1.curStatus? = some .runnable := by decide +kernel
set_option maxRecDepth 65536 in
theorem w_alone : about1.alone = true := by decide +kernel
set_option maxRecDepth 65536 in
theorem w_named : about1.methodNamed? x = some theMethod := by decide +kernel
set_option maxRecDepth 65536 in
theorem w_hears : about1.hears theMethod below0 = true := by decide +kernel
set_option maxRecDepth 65536 in
theorem w_ripe : about1.ripe theMethod args0 below0 = true := by decide +kernel
theorem w_running : about1.status = .running := rfl
set_option maxRecDepth 65536 in
theorem w_room : about1.hasRoom e0.platform room_1 = true :=
  launch0.hasRoom_least _ room_1 (by decide +kernel) (by decide +kernel) (by decide +kernel) (by decide +kernel) (by decide +kernel) (by decide +kernel)
theorem allAtoms_all (ts : List Jvm.Cond) (a : Array Jvm.Value) (st : Jvm.State) : (allAtoms ts).before a st = ts.all (fun c => c.before a st) := by
  induction ts with
  | nil => rfl
  | cons c t ih =>
    show (Jvm.Cond.and c (allAtoms t)).before a st = _
    rw [Jvm.Cond.before_and, ih, List.all_cons]
def words1 : List Jvm.Cond := Jvm.Cond.code x code maxLocals ret :: tables_1
/-- a 'code' word, met by the world's own term for the bytes: nothing is compared byte by byte -/
theorem code_word {y : MethodName} {bytes : ByteArray} {mx : Nat} {rt : Option FieldType} {a : Array Value} {s : State} {m : MethodId} {meth : Method} {c : Code} (h1 : s.methodNamed? y = some m) (h2 : s.vm.method? m = some meth) (h3 : meth.code = some c) (h4 : c.code = bytes)
    (h5 : (c.maxLocals == mx && c.exceptionTable.isEmpty && decide (c.maxStack ≤ mostOperands) && decide (meth.sig.returnType = rt) && !meth.locks && decide (parseMethodDescriptor y.desc = some meth.sig)) = true) : (Jvm.Cond.code y bytes mx rt).before a s = true := by
  simp only [Bool.and_eq_true, beq_iff_eq, Bool.not_eq_true', decide_eq_true_eq] at h5
  obtain ⟨⟨⟨⟨⟨g1, g2⟩, g3⟩, g4⟩, g5⟩, g6⟩ := h5
  simp [Cond.before, Cond.holds, Cond.value, h1, h2, h3, h4, g1, g2, g3, g4, g5, g6]
def isCode : Jvm.Cond → Bool
  | .code _ _ _ _ => true
  | _ => false
theorem all_split {L : List Jvm.Cond} {P : Jvm.Cond → Bool} (h1 : L.all (fun c => isCode c || P c) = true) (h2 : ∀ c ∈ L.filter isCode, P c = true) : L.all P = true := by
  refine List.all_eq_true.mpr fun c hc => ?_
  have h := List.all_eq_true.mp h1 c hc
  rcases Bool.eq_false_or_eq_true (isCode c) with hi | hi
  · exact h2 c (List.mem_filter.mpr ⟨hc, hi⟩)
  · simpa [hi] using h
set_option maxRecDepth 65536 in
theorem w_c0 : (Jvm.Cond.code x code maxLocals ret).before args0 about1 = true := code_word (m := ⟨1, 1⟩) (meth := k1m1) (c := k1c1) (by decide +kernel) rfl rfl rfl (by decide +kernel)
set_option maxRecDepth 65536 in
theorem w_c1 : (Jvm.Cond.code ({ cls := "com/example/majra/majra/lang/ParameterKindNamedPinLaw", name := "keyword", desc := "(I)Ljava/lang/String;" } : Jvm.MethodName) method_3_code (1 : Nat) (Option.some (Jvm.ClassFile.FieldType.object "java/lang/String"))).before args0 about1 = true := code_word (m := ⟨1, 2⟩) (meth := k1m2) (c := k1c2) (by decide +kernel) rfl rfl rfl (by decide +kernel)
set_option maxRecDepth 65536 in
theorem w_c2 : (Jvm.Cond.code ({ cls := "com/example/majra/majra/lang/ParameterKindNamedPinLaw", name := "at", desc := "(Ljava/lang/String;IZICC)C" } : Jvm.MethodName) method_4_code (6 : Nat) (Option.some Jvm.ClassFile.FieldType.char)).before args0 about1 = true := code_word (m := ⟨1, 3⟩) (meth := k1m3) (c := k1c3) (by decide +kernel) rfl rfl rfl (by decide +kernel)
set_option maxRecDepth 65536 in
theorem w_c3 : (Jvm.Cond.code ({ cls := "java/lang/String", name := "length", desc := "()I" } : Jvm.MethodName) jdk_42_method_54_code (1 : Nat) (Option.some Jvm.ClassFile.FieldType.int)).before args0 about1 = true := code_word (m := ⟨7, 2⟩) (meth := k7m2) (c := k7c2) (by decide +kernel) rfl rfl rfl (by decide +kernel)
set_option maxRecDepth 65536 in
theorem w_c4 : (Jvm.Cond.code ({ cls := "java/lang/String", name := "coder", desc := "()B" } : Jvm.MethodName) jdk_42_method_152_code (1 : Nat) (Option.some Jvm.ClassFile.FieldType.byte)).before args0 about1 = true := code_word (m := ⟨7, 6⟩) (meth := k7m6) (c := k7c6) (by decide +kernel) rfl rfl rfl (by decide +kernel)
set_option maxRecDepth 65536 in
theorem w_c5 : (Jvm.Cond.code ({ cls := "java/lang/String", name := "charAt", desc := "(I)C" } : Jvm.MethodName) jdk_42_method_56_code (2 : Nat) (Option.some Jvm.ClassFile.FieldType.char)).before args0 about1 = true := code_word (m := ⟨7, 3⟩) (meth := k7m3) (c := k7c3) (by decide +kernel) rfl rfl rfl (by decide +kernel)
set_option maxRecDepth 65536 in
theorem w_c6 : (Jvm.Cond.code ({ cls := "java/lang/String", name := "isLatin1", desc := "()Z" } : Jvm.MethodName) jdk_42_method_154_code (1 : Nat) (Option.some Jvm.ClassFile.FieldType.boolean)).before args0 about1 = true := code_word (m := ⟨7, 7⟩) (meth := k7m7) (c := k7c7) (by decide +kernel) rfl rfl rfl (by decide +kernel)
set_option maxRecDepth 65536 in
theorem w_c7 : (Jvm.Cond.code ({ cls := "java/lang/StringLatin1", name := "charAt", desc := "([BI)C" } : Jvm.MethodName) jdk_43_method_2_code (2 : Nat) (Option.some Jvm.ClassFile.FieldType.char)).before args0 about1 = true := code_word (m := ⟨8, 1⟩) (meth := k8m1) (c := k8c1) (by decide +kernel) rfl rfl rfl (by decide +kernel)
set_option maxRecDepth 65536 in
theorem w_c8 : (Jvm.Cond.code ({ cls := "java/lang/String", name := "checkIndex", desc := "(II)V" } : Jvm.MethodName) jdk_42_method_155_code (2 : Nat) (Option.none : Option Jvm.ClassFile.FieldType)).before args0 about1 = true := code_word (m := ⟨7, 8⟩) (meth := k7m8) (c := k7c8) (by decide +kernel) rfl rfl rfl (by decide +kernel)
set_option maxRecDepth 65536 in
theorem w_c9 : (Jvm.Cond.code ({ cls := "jdk/internal/util/Preconditions", name := "checkIndex", desc := "(IILjava/util/function/BiFunction;)I" } : Jvm.MethodName) jdk_41_method_11_code (3 : Nat) (Option.some Jvm.ClassFile.FieldType.int)).before args0 about1 = true := code_word (m := ⟨9, 1⟩) (meth := k9m1) (c := k9c1) (by decide +kernel) rfl rfl rfl (by decide +kernel)
set_option maxRecDepth 65536 in
theorem w_c10 : (Jvm.Cond.code ({ cls := "com/example/majra/majra/lang/ParameterKindNamedPinLaw", name := "make", desc := "(ICCCCCCC)Ljava/lang/String;" } : Jvm.MethodName) method_5_code (8 : Nat) (Option.some (Jvm.ClassFile.FieldType.object "java/lang/String"))).before args0 about1 = true := code_word (m := ⟨1, 4⟩) (meth := k1m4) (c := k1c4) (by decide +kernel) rfl rfl rfl (by decide +kernel)
set_option maxRecDepth 65536 in
theorem w_c11 : (Jvm.Cond.code ({ cls := "java/lang/String", name := "<init>", desc := "([C)V" } : Jvm.MethodName) jdk_42_method_3_code (2 : Nat) (Option.none : Option Jvm.ClassFile.FieldType)).before args0 about1 = true := code_word (m := ⟨7, 1⟩) (meth := k7m1) (c := k7c1) (by decide +kernel) rfl rfl rfl (by decide +kernel)
set_option maxRecDepth 65536 in
theorem w_c12 : (Jvm.Cond.code ({ cls := "java/lang/String", name := "<init>", desc := "([CIILjava/lang/Void;)V" } : Jvm.MethodName) jdk_42_method_149_code (6 : Nat) (Option.none : Option Jvm.ClassFile.FieldType)).before args0 about1 = true := code_word (m := ⟨7, 5⟩) (meth := k7m5) (c := k7c5) (by decide +kernel) rfl rfl rfl (by decide +kernel)
set_option maxRecDepth 65536 in
theorem w_c13 : (Jvm.Cond.code ({ cls := "java/lang/Object", name := "<init>", desc := "()V" } : Jvm.MethodName) object_method_1_code (1 : Nat) (Option.none : Option Jvm.ClassFile.FieldType)).before args0 about1 = true := code_word (m := ⟨0, 0⟩) (meth := k0m0) (c := k0c0) (by decide +kernel) rfl rfl rfl (by decide +kernel)
set_option maxRecDepth 65536 in
theorem w_c14 : (Jvm.Cond.code ({ cls := "java/lang/StringUTF16", name := "compress", desc := "([CII)[B" } : Jvm.MethodName) jdk_52_method_16_code (6 : Nat) (Option.some (Jvm.ClassFile.FieldType.array Jvm.ClassFile.FieldType.byte))).before args0 about1 = true := code_word (m := ⟨10, 2⟩) (meth := k10m2) (c := k10c2) (by decide +kernel) rfl rfl rfl (by decide +kernel)
set_option maxRecDepth 65536 in
theorem w_c15 : (Jvm.Cond.code ({ cls := "java/lang/StringUTF16", name := "compress", desc := "([CI[BII)I" } : Jvm.MethodName) jdk_52_method_21_code (7 : Nat) (Option.some Jvm.ClassFile.FieldType.int)).before args0 about1 = true := code_word (m := ⟨10, 3⟩) (meth := k10m3) (c := k10c3) (by decide +kernel) rfl rfl rfl (by decide +kernel)
set_option maxRecDepth 65536 in
theorem w_c16 : (Jvm.Cond.code ({ cls := "java/lang/StringUTF16", name := "coderFromArrayLen", desc := "([BI)B" } : Jvm.MethodName) jdk_52_method_15_code (2 : Nat) (Option.some Jvm.ClassFile.FieldType.byte)).before args0 about1 = true := code_word (m := ⟨10, 1⟩) (meth := k10m1) (c := k10c1) (by decide +kernel) rfl rfl rfl (by decide +kernel)
set_option maxRecDepth 65536 in
theorem w_c17 : (Jvm.Cond.code ({ cls := "com/example/majra/majra/lang/ParameterKindNamedPinLaw", name := "reference", desc := "(Ljava/lang/String;)Lcom/example/majra/majra/lang/ParameterKind;" } : Jvm.MethodName) method_6_code (1 : Nat) (Option.some (Jvm.ClassFile.FieldType.object "com/example/majra/majra/lang/ParameterKind"))).before args0 about1 = true := code_word (m := ⟨1, 5⟩) (meth := k1m5) (c := k1c5) (by decide +kernel) rfl rfl rfl (by decide +kernel)
set_option maxRecDepth 65536 in
theorem w_c18 : (Jvm.Cond.code ({ cls := "java/lang/String", name := "equals", desc := "(Ljava/lang/Object;)Z" } : Jvm.MethodName) jdk_42_method_66_code (3 : Nat) (Option.some Jvm.ClassFile.FieldType.boolean)).before args0 about1 = true := code_word (m := ⟨7, 4⟩) (meth := k7m4) (c := k7c4) (by decide +kernel) rfl rfl rfl (by decide +kernel)
set_option maxRecDepth 65536 in
theorem w_c19 : (Jvm.Cond.code ({ cls := "java/lang/StringLatin1", name := "equals", desc := "([B[B)Z" } : Jvm.MethodName) jdk_43_method_13_code (3 : Nat) (Option.some Jvm.ClassFile.FieldType.boolean)).before args0 about1 = true := code_word (m := ⟨8, 2⟩) (meth := k8m2) (c := k8c2) (by decide +kernel) rfl rfl rfl (by decide +kernel)
set_option maxRecDepth 65536 in
theorem w_c20 : (Jvm.Cond.code ({ cls := "com/example/majra/majra/lang/ParameterKind", name := "named", desc := "(Ljava/lang/String;)Lcom/example/majra/majra/lang/ParameterKind;" } : Jvm.MethodName) prog_64_method_4_code (6 : Nat) (Option.some (Jvm.ClassFile.FieldType.object "com/example/majra/majra/lang/ParameterKind"))).before args0 about1 = true := code_word (m := ⟨12, 1⟩) (meth := k12m1) (c := k12c1) (by decide +kernel) rfl rfl rfl (by decide +kernel)
set_option maxRecDepth 65536 in
theorem w_c21 : (Jvm.Cond.code ({ cls := "com/example/majra/majra/lang/ParameterKind", name := "values", desc := "()[Lcom/example/majra/majra/lang/ParameterKind;" } : Jvm.MethodName) prog_64_method_1_code (0 : Nat) (Option.some (Jvm.ClassFile.FieldType.array (Jvm.ClassFile.FieldType.object "com/example/majra/majra/lang/ParameterKind")))).before args0 about1 = true := code_word (m := ⟨12, 0⟩) (meth := k12m0) (c := k12c0) (by decide +kernel) rfl rfl rfl (by decide +kernel)
def codes1 : List Jvm.Cond := [Jvm.Cond.code x code maxLocals ret, Jvm.Cond.code ({ cls := "com/example/majra/majra/lang/ParameterKindNamedPinLaw", name := "keyword", desc := "(I)Ljava/lang/String;" } : Jvm.MethodName) method_3_code (1 : Nat) (Option.some (Jvm.ClassFile.FieldType.object "java/lang/String")), Jvm.Cond.code ({ cls := "com/example/majra/majra/lang/ParameterKindNamedPinLaw", name := "at", desc := "(Ljava/lang/String;IZICC)C" } : Jvm.MethodName) method_4_code (6 : Nat) (Option.some Jvm.ClassFile.FieldType.char), Jvm.Cond.code ({ cls := "java/lang/String", name := "length", desc := "()I" } : Jvm.MethodName) jdk_42_method_54_code (1 : Nat) (Option.some Jvm.ClassFile.FieldType.int), Jvm.Cond.code ({ cls := "java/lang/String", name := "coder", desc := "()B" } : Jvm.MethodName) jdk_42_method_152_code (1 : Nat) (Option.some Jvm.ClassFile.FieldType.byte), Jvm.Cond.code ({ cls := "java/lang/String", name := "charAt", desc := "(I)C" } : Jvm.MethodName) jdk_42_method_56_code (2 : Nat) (Option.some Jvm.ClassFile.FieldType.char), Jvm.Cond.code ({ cls := "java/lang/String", name := "isLatin1", desc := "()Z" } : Jvm.MethodName) jdk_42_method_154_code (1 : Nat) (Option.some Jvm.ClassFile.FieldType.boolean), Jvm.Cond.code ({ cls := "java/lang/StringLatin1", name := "charAt", desc := "([BI)C" } : Jvm.MethodName) jdk_43_method_2_code (2 : Nat) (Option.some Jvm.ClassFile.FieldType.char), Jvm.Cond.code ({ cls := "java/lang/String", name := "checkIndex", desc := "(II)V" } : Jvm.MethodName) jdk_42_method_155_code (2 : Nat) (Option.none : Option Jvm.ClassFile.FieldType), Jvm.Cond.code ({ cls := "jdk/internal/util/Preconditions", name := "checkIndex", desc := "(IILjava/util/function/BiFunction;)I" } : Jvm.MethodName) jdk_41_method_11_code (3 : Nat) (Option.some Jvm.ClassFile.FieldType.int), Jvm.Cond.code ({ cls := "com/example/majra/majra/lang/ParameterKindNamedPinLaw", name := "make", desc := "(ICCCCCCC)Ljava/lang/String;" } : Jvm.MethodName) method_5_code (8 : Nat) (Option.some (Jvm.ClassFile.FieldType.object "java/lang/String")), Jvm.Cond.code ({ cls := "java/lang/String", name := "<init>", desc := "([C)V" } : Jvm.MethodName) jdk_42_method_3_code (2 : Nat) (Option.none : Option Jvm.ClassFile.FieldType), Jvm.Cond.code ({ cls := "java/lang/String", name := "<init>", desc := "([CIILjava/lang/Void;)V" } : Jvm.MethodName) jdk_42_method_149_code (6 : Nat) (Option.none : Option Jvm.ClassFile.FieldType), Jvm.Cond.code ({ cls := "java/lang/Object", name := "<init>", desc := "()V" } : Jvm.MethodName) object_method_1_code (1 : Nat) (Option.none : Option Jvm.ClassFile.FieldType), Jvm.Cond.code ({ cls := "java/lang/StringUTF16", name := "compress", desc := "([CII)[B" } : Jvm.MethodName) jdk_52_method_16_code (6 : Nat) (Option.some (Jvm.ClassFile.FieldType.array Jvm.ClassFile.FieldType.byte)), Jvm.Cond.code ({ cls := "java/lang/StringUTF16", name := "compress", desc := "([CI[BII)I" } : Jvm.MethodName) jdk_52_method_21_code (7 : Nat) (Option.some Jvm.ClassFile.FieldType.int), Jvm.Cond.code ({ cls := "java/lang/StringUTF16", name := "coderFromArrayLen", desc := "([BI)B" } : Jvm.MethodName) jdk_52_method_15_code (2 : Nat) (Option.some Jvm.ClassFile.FieldType.byte), Jvm.Cond.code ({ cls := "com/example/majra/majra/lang/ParameterKindNamedPinLaw", name := "reference", desc := "(Ljava/lang/String;)Lcom/example/majra/majra/lang/ParameterKind;" } : Jvm.MethodName) method_6_code (1 : Nat) (Option.some (Jvm.ClassFile.FieldType.object "com/example/majra/majra/lang/ParameterKind")), Jvm.Cond.code ({ cls := "java/lang/String", name := "equals", desc := "(Ljava/lang/Object;)Z" } : Jvm.MethodName) jdk_42_method_66_code (3 : Nat) (Option.some Jvm.ClassFile.FieldType.boolean), Jvm.Cond.code ({ cls := "java/lang/StringLatin1", name := "equals", desc := "([B[B)Z" } : Jvm.MethodName) jdk_43_method_13_code (3 : Nat) (Option.some Jvm.ClassFile.FieldType.boolean), Jvm.Cond.code ({ cls := "com/example/majra/majra/lang/ParameterKind", name := "named", desc := "(Ljava/lang/String;)Lcom/example/majra/majra/lang/ParameterKind;" } : Jvm.MethodName) prog_64_method_4_code (6 : Nat) (Option.some (Jvm.ClassFile.FieldType.object "com/example/majra/majra/lang/ParameterKind")), Jvm.Cond.code ({ cls := "com/example/majra/majra/lang/ParameterKind", name := "values", desc := "()[Lcom/example/majra/majra/lang/ParameterKind;" } : Jvm.MethodName) prog_64_method_1_code (0 : Nat) (Option.some (Jvm.ClassFile.FieldType.array (Jvm.ClassFile.FieldType.object "com/example/majra/majra/lang/ParameterKind")))]
set_option maxRecDepth 65536 in
theorem codes_eq : words1.filter isCode = codes1 := rfl
theorem w_codes : ∀ c ∈ words1.filter isCode, c.before args0 about1 = true := by
  rw [codes_eq]
  intro c hc
  simp only [codes1, List.mem_cons, List.not_mem_nil, or_false] at hc
  rcases hc with rfl | rfl | rfl | rfl | rfl | rfl | rfl | rfl | rfl | rfl | rfl | rfl | rfl | rfl | rfl | rfl | rfl | rfl | rfl | rfl | rfl | rfl
  · exact w_c0
  · exact w_c1
  · exact w_c2
  · exact w_c3
  · exact w_c4
  · exact w_c5
  · exact w_c6
  · exact w_c7
  · exact w_c8
  · exact w_c9
  · exact w_c10
  · exact w_c11
  · exact w_c12
  · exact w_c13
  · exact w_c14
  · exact w_c15
  · exact w_c16
  · exact w_c17
  · exact w_c18
  · exact w_c19
  · exact w_c20
  · exact w_c21
set_option maxRecDepth 65536 in
theorem w_t1 : (words1.take 24).all (fun c => isCode c || c.before args0 about1) = true := by decide +kernel
set_option maxRecDepth 65536 in
theorem w_t2 : ((words1.drop 24).take 24).all (fun c => isCode c || c.before args0 about1) = true := by decide +kernel
set_option maxRecDepth 65536 in
theorem w_t3 : (((words1.drop 24).drop 24).take 24).all (fun c => isCode c || c.before args0 about1) = true := by decide +kernel
set_option maxRecDepth 65536 in
theorem w_t4 : ((((words1.drop 24).drop 24).drop 24).take 24).all (fun c => isCode c || c.before args0 about1) = true := by decide +kernel
set_option maxRecDepth 65536 in
theorem w_t5 : (((((words1.drop 24).drop 24).drop 24).drop 24).take 24).all (fun c => isCode c || c.before args0 about1) = true := by decide +kernel
set_option maxRecDepth 65536 in
theorem w_t6 : (((((words1.drop 24).drop 24).drop 24).drop 24).drop 24).all (fun c => isCode c || c.before args0 about1) = true := by decide +kernel
theorem w_tables : (allAtoms (Jvm.Cond.code x code maxLocals ret :: tables_1)).before args0 about1 = true := by
  rw [allAtoms_all]
  show words1.all (fun c => c.before args0 about1) = true
  refine all_split ?_ w_codes
  rw [← List.take_append_drop 24 words1, List.all_append, w_t1, ← List.take_append_drop 24 (words1.drop 24), List.all_append, w_t2, ← List.take_append_drop 24 ((words1.drop 24).drop 24), List.all_append, w_t3, ← List.take_append_drop 24 (((words1.drop 24).drop 24).drop 24), List.all_append, w_t4, ← List.take_append_drop 24 ((((words1.drop 24).drop 24).drop 24).drop 24), List.all_append, w_t5, w_t6]
  rfl
set_option maxRecDepth 65536 in
theorem w_rest : rest_1_c.before args0 about1 = true := by decide +kernel
set_option maxRecDepth 65536 in
theorem w_case : (Jvm.Cond.and given_1 narrow_1).before args0 about1 = true := by decide +kernel
set_option maxRecDepth 65536 in
theorem w_consts : constsHeld consts_1 about1 := Jvm.Lit.constsHeldB_iff.mp (by decide +kernel)
theorem w_applies : (headSpec (Jvm.Cond.code x code maxLocals ret :: tables_1) room_1).applies x e0.platform about1 = true :=
  (Spec.applies_iff w_frames).mpr ⟨w_running, w_runnable, w_alone, w_named, w_hears, w_ripe, w_room, w_tables⟩
theorem atStart : AtStart classFile x code maxLocals ret World_1 tables_1 room_1 Calls_1 rest_1 Pre_1 launch0 p0 e0 about1 theMethod args0 below0 :=
  ⟨lists_1, trivial, launch0.admits_env _ _ _, launch0.least_env, fairChoices_fair.cas, fairChoices_fair.clock, w_frames, w_args, w_heap, w_applies, ⟨w_consts, trivial⟩, w_rest, w_case⟩
end start1
theorem witness_1 : WitnessClaimed_1 := ⟨start1.p0, start1.e0, start1.about1, start1.theMethod, start1.args0, start1.below0, start1.atStart⟩
end Jvm.Pilot.@@N@@
