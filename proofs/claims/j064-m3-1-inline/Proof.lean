import JvmDerived
import JvmDerived.Pilot.@@N@@Statement
import JvmDerived.Pilot.@@N@@Code
set_option linter.unusedVariables false
set_option linter.unusedSimpArgs false
namespace Jvm.RoadKit
open Sem ClassFile Op Lib Jvm.Stand Jvm.Free Jvm.LawKit
section New
variable {p : Program} {l : Launch} {e : Env} {R : Room} {s : State} {m : MethodId} {args : Array Value} {below : List Frame} {meth : Method} {c : Code} {T T' : State} {locs : List Loc} {cells slots : Nat} {Q : Option Value → Heap → List Loc → Prop} {cc ss : Nat} {g g' : JFrame} {pc : Nat} {Ls : Array Slot}
/-- from here the body comes to an end that meets Q -/
def own_Goes (p : Program) (e : Env) (below : List Frame) (s : State) (Q : Option Value → Heap → List Loc → Prop) (cc ss : Nat) (T : State) (g : JFrame) : Prop :=
  ∃ s₂ o, Steps p.tables e below (T.setTop g) s₂ ∧ s₂.status = .running ∧ Ended s₂ below o ∧ ∃ v L, o = .returned v ∧ Q v s₂.heap L ∧ FrameEnd s o s₂ L cc ss
theorem own_st (h : ∀ t, Steps p.tables e below (T'.setTop g') t → Steps p.tables e below (T.setTop g) t) (k : own_Goes p e below s Q cc ss T' g') : own_Goes p e below s Q cc ss T g := by
  obtain ⟨s₂, o, h1, r⟩ := k; exact ⟨s₂, o, h _ h1, r⟩
theorem own_end {v : Option Value} (X : Stand p l e R s m args below meth c T locs cells slots) (hlk : meth.locks = false) (hv : meth.sig.returnType = none → v = none) (hc : cells ≤ cc) (hs : slots ≤ ss) (hQ : Q v T.heap locs)
    (st : ∀ fs, (∀ (f : JFrame) (acts : List Action), f.method = m → f.locked = none → f.entered = [] → (doReturn e (T.setTop f) acts v).1 = T.setFrames fs) → Steps p.tables e below (T.setTop g) (T.setFrames fs)) : own_Goes p e below s Q cc ss T g := by
  obtain ⟨fs, hr, hrun, hended, hW, hsame⟩ := X.leave (v := v) hv hlk
  exact ⟨_, _, st fs hr, hrun, hended, _, _, rfl, hQ, ⟨_, rfl⟩, hW, hsame.mono hc hs⟩
theorem own_retN (X : Stand p l e R s m args below meth c T locs cells slots) (hx : p.tables.exec = Jvm.exec) (hlk : meth.locks = false) {t : FieldType} {z : Int32} {rest : List Value} (hret : meth.sig.returnType = some t) (ht : t = .boolean ∨ t = .byte ∨ t = .char ∨ t = .short) (hd : decode c.code pc = .ok (.ireturn, 1)) (hc : cells ≤ cc) (hs : slots ≤ ss) (hQ : Q (some (.int (nar t z))) T.heap locs) : own_Goes p e below s Q cc ss T (mkF m pc Ls (.int z :: rest)) :=
  own_end X hlk (fun h => by rw [hret] at h; cases h) hc hs hQ fun fs hr => retN X hx hret ht hd hr
theorem own_retI (X : Stand p l e R s m args below meth c T locs cells slots) (hx : p.tables.exec = Jvm.exec) (hlk : meth.locks = false) {z : Int32} {rest : List Value} (hret : meth.sig.returnType = some .int) (hd : decode c.code pc = .ok (.ireturn, 1)) (hc : cells ≤ cc) (hs : slots ≤ ss) (hQ : Q (some (.int z)) T.heap locs) : own_Goes p e below s Q cc ss T (mkF m pc Ls (.int z :: rest)) :=
  own_end X hlk (fun h => by rw [hret] at h; cases h) hc hs hQ fun fs hr => retOut X hx hret rfl (Or.inl ⟨rfl, Or.inl rfl, _, rfl⟩) hd hr
theorem own_retL (X : Stand p l e R s m args below meth c T locs cells slots) (hx : p.tables.exec = Jvm.exec) (hlk : meth.locks = false) {z : Int64} {rest : List Value} (hret : meth.sig.returnType = some .long) (hd : decode c.code pc = .ok (.lreturn, 1)) (hc : cells ≤ cc) (hs : slots ≤ ss) (hQ : Q (some (.long z)) T.heap locs) : own_Goes p e below s Q cc ss T (mkF m pc Ls (.long z :: rest)) :=
  own_end X hlk (fun h => by rw [hret] at h; cases h) hc hs hQ fun fs hr => retOut X hx hret rfl (Or.inr (Or.inl ⟨rfl, rfl, _, rfl⟩)) hd hr
theorem own_narR {t : FieldType} {w : Value} (hw : w.isRef = true) : narrow t w = w := by rcases ref_cases hw with rfl | ⟨a, rfl⟩ <;> cases t <;> rfl
theorem own_fitR {n : String} {w : Value} (hw : w.isRef = true) : fits (.object n) w = true := by rcases ref_cases hw with rfl | ⟨a, rfl⟩ <;> rfl
theorem own_retA (X : Stand p l e R s m args below meth c T locs cells slots) (hx : p.tables.exec = Jvm.exec) (hlk : meth.locks = false) {w : Value} {t : FieldType} {rest : List Value} (hw : w.isRef = true) (hret : meth.sig.returnType = some t) (ht : t.isReference = true) (hd : decode c.code pc = .ok (.areturn, 1)) (hc : cells ≤ cc) (hs : slots ≤ ss) (hQ : Q (some w) T.heap locs) : own_Goes p e below s Q cc ss T (mkF m pc Ls (w :: rest)) :=
  own_end X hlk (fun h => by rw [hret] at h; cases h) hc hs hQ fun fs hr => retOut X hx hret (own_narR hw) (Or.inr (Or.inr (Or.inr (Or.inr ⟨rfl, ht, hw⟩)))) hd hr
theorem own_ret0 (X : Stand p l e R s m args below meth c T locs cells slots) (hx : p.tables.exec = Jvm.exec) (hlk : meth.locks = false) (hret : meth.sig.returnType = none) (hd : decode c.code pc = .ok (.return_, 1)) (hc : cells ≤ cc) (hs : slots ≤ ss) (hQ : Q none T.heap locs) : own_Goes p e below s Q cc ss T (mkF m pc Ls []) :=
  own_end X hlk (fun _ => rfl) hc hs hQ fun fs hr => X.returnOut hx hret hd hr
def own_GoesW (p : Program) (e : Env) (below : List Frame) (s : State) (Q : Option Value → Heap → List Loc → Prop) (cc ss : Nat) (T : State) (g : JFrame) : Prop :=
  ∃ s₂ o, Steps p.tables e below (T.setTop g) s₂ ∧ s₂.status = .running ∧ Ended s₂ below o ∧ ∃ v L, o = .returned v ∧ Q v s₂.heap L ∧ ReturnedEndW s o s₂ L cc ss
theorem own_stW (h : ∀ t, Steps p.tables e below (T'.setTop g') t → Steps p.tables e below (T.setTop g) t) (k : own_GoesW p e below s Q cc ss T' g') : own_GoesW p e below s Q cc ss T g := by
  obtain ⟨s₂, o, h1, r⟩ := k; exact ⟨s₂, o, h _ h1, r⟩
theorem own_endW {v : Option Value} {vm₁ : Vm} {k0 : Nat} (X : Stand p l e R (s.setVm vm₁) m args below meth c T locs cells slots) (hlk : meth.locks = false) (hS : s.Since vm₁ k0) (hk : k0 ≤ T.heap.size) (hv : meth.sig.returnType = none → v = none) (hc : cells ≤ cc) (hs : slots ≤ ss) (hQ : Q v T.heap locs)
    (st : ∀ fs, (∀ (f : JFrame) (acts : List Action), f.method = m → f.locked = none → f.entered = [] → (doReturn e (T.setTop f) acts v).1 = T.setFrames fs) → Steps p.tables e below (T.setTop g) (T.setFrames fs)) : own_GoesW p e below s Q cc ss T g := by
  obtain ⟨fs, hr, hrun, hended, h1, h2, h3, h4⟩ := X.leaveW hS hk (v := v) hv hlk
  exact ⟨_, _, st fs hr, hrun, hended, _, _, rfl, hQ, h1, h2, h3, h4.mono hc hs⟩
theorem own_retNW {vm₁ : Vm} {k0 : Nat} (X : Stand p l e R (s.setVm vm₁) m args below meth c T locs cells slots) (hx : p.tables.exec = Jvm.exec) (hlk : meth.locks = false) (hS : s.Since vm₁ k0) (hk : k0 ≤ T.heap.size) {t : FieldType} {z : Int32} {rest : List Value} (hret : meth.sig.returnType = some t) (ht : t = .boolean ∨ t = .byte ∨ t = .char ∨ t = .short) (hd : decode c.code pc = .ok (.ireturn, 1)) (hc : cells ≤ cc) (hs : slots ≤ ss) (hQ : Q (some (.int (nar t z))) T.heap locs) : own_GoesW p e below s Q cc ss T (mkF m pc Ls (.int z :: rest)) :=
  own_endW X hlk hS hk (fun h => by rw [hret] at h; cases h) hc hs hQ fun fs hr => retN X hx hret ht hd hr
def own_GoesH (p : Program) (e : Env) (below : List Frame) (s Z : State) (EL : List (String × Nat)) (Q : Option Value → Heap → List Loc → Prop) (cc ss : Nat) (T : State) (g : JFrame) : Prop :=
  ∃ s₂ o, Steps p.tables e below (T.setTop g) s₂ ∧ s₂.status = .running ∧ Ended s₂ below o ∧ ∃ v L, o = .returned v ∧ Q v s₂.heap L ∧ CHr Z EL s.vm s.heap s₂.vm s₂.heap ∧ ReturnedEndW s o s₂ L cc ss
theorem own_stH {Z : State} {EL : List (String × Nat)} (h : ∀ t, Steps p.tables e below (T'.setTop g') t → Steps p.tables e below (T.setTop g) t) (k : own_GoesH p e below s Z EL Q cc ss T' g') : own_GoesH p e below s Z EL Q cc ss T g := by
  obtain ⟨s₂, o, h1, r⟩ := k; exact ⟨s₂, o, h _ h1, r⟩
theorem own_endH {Z : State} {EL : List (String × Nat)} {a0 : Array Value} {h h0 : Heap} {v : Option Value} {vm₁ : Vm} {k0 : Nat} (X : Stand p l e R (s.setVm vm₁) m args below meth c T locs cells slots) (hlk : meth.locks = false) (hS : s.Since vm₁ k0) (hk : k0 ≤ T.heap.size) (hZ : Z.Warmed39 vm₁) (hEL : EW Z a0 EL) (hh : s.heap = h0) (eT : T.heap = h) (hC : CHr Z EL s.vm h0 vm₁ h) (hv : meth.sig.returnType = none → v = none) (hc : cells ≤ cc) (hs : slots ≤ ss) (hQ : Q v T.heap locs)
    (st : ∀ fs, (∀ (f : JFrame) (acts : List Action), f.method = m → f.locked = none → f.entered = [] → (doReturn e (T.setTop f) acts v).1 = T.setFrames fs) → Steps p.tables e below (T.setTop g) (T.setFrames fs)) : own_GoesH p e below s Z EL Q cc ss T g := by
  obtain ⟨fs, hr, hrun, hended, h1, h2, h3, h4⟩ := X.leaveW hS hk (v := v) hv hlk
  subst eT hh
  have C := CHv.at X hZ hEL hC.1
  exact ⟨_, _, st fs hr, hrun, hended, _, _, rfl, hQ, hC.trans C, h1, h2, h3, h4.mono hc hs⟩
theorem own_sn {Z : State} {EL : List (String × Nat)} {vm : Vm} {h : Heap} : ∀ x ∈ ([] : List Addr), x < h.size ∧ Safe Z EL vm h x := fun _ q => nomatch q
theorem own_ss {Z : State} {EL : List (String × Nat)} {vm : Vm} {h : Heap} {y : Addr} {L : List Addr} (q : y < h.size) (n : Safe Z EL vm h y) (r : ∀ x ∈ L, x < h.size ∧ Safe Z EL vm h x) : ∀ x ∈ y :: L, x < h.size ∧ Safe Z EL vm h x := fun x z => (List.mem_cons.mp z).elim (fun u => u ▸ ⟨q, n⟩) (r x)
/-- a callee that may load the constants, that keeps what they say, and that is told which of its objects are none of them -/
theorem own_backH {Z : State} {EL : List (String × Nat)} {a0 : Array Value} {h : Heap} {vm0 : Vm} {y : MethodName} {bytes : ByteArray} {maxL : Nat} {ret : Option FieldType} {rm : Room} {len W : Nat} {as' : Array Value} {sl : List Addr} {Qc : Option Value → Heap → List Loc → Prop}
    (hM : MetFree l y (head1 [Cond.code y bytes maxL ret] rm) (fun a U => a = as' ∧ Z.Warmed39 U.vm ∧ U.heap = h ∧ CHv Z EL U.vm h ∧ ∀ x ∈ sl, Safe Z EL U.vm h x) (fun _ _ _ _ _ => True) (fun _ U o U' => ∃ v L, o = .returned v ∧ Qc v U'.heap L ∧ CHr Z EL U.vm U.heap U'.vm U'.heap ∧ ReturnedEndW U o U' L rm.cells rm.slots))
    (hZ : Z.Warmed39 vm0) (wc : (Cond.code y bytes maxL ret).before a0 Z = true) (wz : (Cond.initialized y.cls).before a0 Z = true) (hf : rm.frames + 1 ≤ R.frames) (hl : W + (maxL + 11) + rm.locals ≤ R.locals) (hEL : EW Z a0 EL) (H : CHv Z EL vm0 h) (hs : ∀ x ∈ sl, x < h.size ∧ Safe Z EL vm0 h x) :
    BackS l R p e below (s.setVm vm0) args y len W (fun A a => a = as' ∧ A.U.heap = h ∧ A.cells + rm.cells ≤ R.cells ∧ A.slots + rm.slots ≤ R.slots)
      (fun A _ v B => ∃ L, Qc v B.U.heap L ∧ B.locs = A.locs ++ L ∧ B.cells = A.cells + rm.cells ∧ B.slots = A.slots + rm.slots ∧ CHr Z EL vm0 h B.U.vm B.U.heap) := by
  refine BackS.of_freeW (bytes := bytes) (maxL := maxL) (ret := ret) (E := fun _ first o t L k n => k = rm.cells ∧ n = rm.slots ∧ (∃ v, o = .returned v ∧ Qc v t.heap L) ∧ CHr Z EL first.vm first.heap t.vm t.heap) hM hf hl ?_ ?_ (fun _ _ _ _ _ _ _ _ _ => trivial) ?_ ?_
  · intro m meth c A a Y hp
    have hU : Z.Warmed39 A.U.vm := wtrans (s := s.setVm vm0) hZ Y.warmed
    exact ⟨by show (Cond.and _ .tt).before a A.U = true; rw [Cond.before_and, mv hU wc]; rfl, mv hU wc, mv hU wz, hp.2.2.1, hp.2.2.2⟩
  · intro m meth c A a g mk Y hp
    have C := CHv.at Y hZ hEL H
    exact ⟨hp.1, wtrans (s := s.setVm vm0) hZ Y.warmed, hp.2.1, C.1, fun x hx => C.safe (hs x hx).1 (hs x hx).2⟩
  · rintro _ _ _ _ ⟨v, L, h1, h2, h3, h4⟩
    exact ⟨L, _, _, h4, rfl, rfl, ⟨v, h1, h2⟩, h3⟩
  · rintro m meth c A a g mk v t L k n Y hp _ _ ⟨e1, e2, ⟨v', e3, e4⟩, e5⟩
    cases e3; subst e1 e2
    refine ⟨L, e4, rfl, rfl, rfl, (CHv.at Y hZ hEL H).trans ?_⟩
    rw [← hp.2.1]; exact e5
theorem own_nsr {Z : State} {a0 : Array Value} {O K : String} {n : Nat} (w : (Cond.noSuperclass O).before a0 Z = true) (wk : (Cond.instantiable K n).before a0 Z = true) (hn : O ≠ K) : NS Z O K := by
  obtain ⟨c, k, h1, h2, h3, -, -⟩ := Cond.noSuperclass_spec w
  obtain ⟨t, kt, g1, -⟩ := Cond.instantiable_spec wk
  have ne := ids_ne h1 g1 hn
  refine ⟨c, t, h1, g1, fun fuel => ?_⟩
  cases fuel with
  | zero => rfl
  | succ f => simp [Vm.isSubclassAux, ne, h2, h3]
theorem own_nsn {Z : State} {a0 : Array Value} {C S K : String} {n : Nat} (w : (Cond.superclass C S).before a0 Z = true) (wk : (Cond.instantiable K n).before a0 Z = true) (q : NS Z C K) (hn : C ≠ K) : ∃ c t, Z.vm.findClass C = some c ∧ Z.vm.findClass K = some t ∧ Z.vm.assignable c t = false := by
  obtain ⟨c, t, h0, g0, n3⟩ := q
  obtain ⟨p, k, kp, h1, h2, h3, h4, h5, -, h7⟩ := Cond.superclass_spec h0 w
  obtain ⟨t', kt, g1, g2, g5, g6, -⟩ := Cond.instantiable_spec wk
  cases g0.symm.trans g1
  have g7 : kt.isInterface = false := by simp only [Bool.or_eq_false_iff] at g6; exact g6.1
  have ne := ids_ne h0 g0 hn
  refine ⟨c, t, h0, g0, ?_⟩
  show Z.vm.assignableAux (255 + 1) c t = false
  simp [Vm.assignableAux, ne, h2, g2, h5, g5, g7, Vm.isSubclass, n3]
theorem own_Sta_keep {Z : State} {h h' : Heap} {ws : List Addr} {C n d : String} {w : Value} (F : Sta Z h C n d w) (K : Keep h h' ws) (q : ∀ x ∈ ws, ∀ cell : Cell, h[x]? = some cell → cell.vm.isStatics = false) : Sta Z h' C n d w := by
  obtain ⟨cf, i, k, f, st, cell, h1, h2, h3, h4, h5, h6, h7⟩ := F
  exact ⟨cf, i, k, f, st, cell, h1, h2, h3, h4, K.2.1 st cell h5 (fun z => by rw [q st z cell h5] at h6; cases h6), h6, h7⟩
end New
end Jvm.RoadKit
/- laws to paste: Road.eqW (cut by pick.py; bodies as the Statement names them) -/
namespace Jvm.Pilot.@@N@@
namespace StrChars
open Jvm Sem ClassFile Op Lib Jvm.Stand Jvm.Free.XT Jvm.Free.ALB Jvm.Free.JM Jvm.Free
open Jvm.Lib.Cold (StaticIs)
def lo8 (x : Int32) : Int32 := x.toInt8.toInt32
theorem fits_lo8 (y : Int32) : fits .byte (.int (lo8 y)) = true := by
  have h1 := y.toInt8.le_toInt
  have h2 := y.toInt8.toInt_lt
  simp only [lo8, fits, Bool.and_eq_true, decide_eq_true_eq, Int32.le_iff_toInt_le, Int8.toInt_toInt32, show (-128 : Int32).toInt = -128 from by decide, show (127 : Int32).toInt = 127 from by decide]
  omega
theorem lo8_mask {x : Int32} (h0 : ¬ x < 0) (h1 : ¬ 255 < x) : lo8 x &&& 255 = x := by
  have t : ∀ k : Fin 256, lo8 (Int32.ofNat k.val) &&& 255 = Int32.ofNat k.val := by decide +kernel
  rw [Int32.lt_iff_toInt_lt] at h0 h1
  have e0 : (0 : Int32).toInt = 0 := rfl
  have e1 : (255 : Int32).toInt = 255 := rfl
  obtain ⟨k, hk⟩ : ∃ k : Nat, x.toInt = k := ⟨x.toInt.toNat, by omega⟩
  have hx : x = Int32.ofNat k := Int32.toInt_inj.mp (by rw [hk, Int32.toInt_ofNat_small (by omega)])
  rw [hx]
  exact t ⟨k, by omega⟩
end StrChars
namespace StrChars.Road
open Jvm Sem ClassFile Op Lib Jvm.Stand Jvm.Free Jvm.Free.XT
open Jvm.Lib.Cold (StaticIs)
abbrev ST : String := "java/lang/String"
end StrChars.Road
namespace StrChars
open Jvm Sem ClassFile Op Lib Jvm.Stand Jvm.Free.XT Jvm.Free.ALB Jvm.Free.JM Jvm.Free
open Jvm.Lib.Cold (StaticIs)
def hi8 (x : Int32) : Int32 := lo8 (x >>> ((8 : Int32) &&& 31))
def pairCh (u v : Int32) : Int32 := (((u &&& 255) <<< ((0 : Int32) &&& 31)) ||| ((v &&& 255) <<< ((8 : Int32) &&& 31))).toUInt32.toUInt16.toUInt32.toInt32
theorem lo8_and (x : Int32) : (lo8 x &&& 255).toBitVec.toNat = x.toBitVec.toNat % 256 := by
  have h : (lo8 x).toBitVec = (x.toBitVec.signExtend 8).signExtend 32 := by rw [lo8, Int8.toBitVec_toInt32, Int32.toBitVec_toInt8]
  rw [Int32.toBitVec_and, BitVec.toNat_and, h]
  have e : ((x.toBitVec.signExtend 8).signExtend 32).toNat % 256 = x.toBitVec.toNat % 256 := by
    rw [BitVec.toNat_signExtend]
    have hlt := x.toBitVec.isLt
    simp only [BitVec.toNat_setWidth, BitVec.toNat_signExtend]
    split <;> split <;> omega
  rw [← e]
  exact Nat.and_two_pow_sub_one_eq_mod _ 8
theorem pair_says {c : Int32} (h0 : ¬ c < 0) (h1 : ¬ 65535 < c) : pairCh (lo8 c) (hi8 c) = c := by
  rw [Int32.lt_iff_toInt_lt] at h0 h1
  have e0 : (0 : Int32).toInt = 0 := rfl
  have e1 : (65535 : Int32).toInt = 65535 := rfl
  have hc : c.toInt = c.toBitVec.toNat := by
    have := c.toBitVec.isLt
    have e : c.toInt = c.toBitVec.toInt := rfl
    rw [e] at h0 h1
    rw [e]
    rw [BitVec.toInt_eq_toNat_cond] at h0 h1 ⊢
    split at h0 <;> split <;> omega
  have hn : c.toBitVec.toNat < 65536 := by omega
  have a1 := lo8_and c
  have a2 : (hi8 c &&& 255).toBitVec.toNat = c.toBitVec.toNat / 256 := by
    rw [hi8, lo8_and]
    have e : ((8 : Int32) &&& 31) = 8 := by decide
    rw [e, Int32.toBitVec_shiftRight]
    have e2 : ((8 : Int32).toBitVec.smod 32) = 8#32 := by decide
    rw [e2, BitVec.sshiftRight_eq', BitVec.toNat_sshiftRight_of_msb_false (by rw [BitVec.msb_eq_false_iff_two_mul_lt]; omega)]
    show c.toBitVec.toNat >>> 8 % 256 = _
    rw [Nat.shiftRight_eq_div_pow]
    omega
  unfold pairCh
  apply Int32.toBitVec_inj.mp
  apply BitVec.eq_of_toNat_eq
  have f0 : ((0 : Int32) &&& 31) = 0 := by decide
  have f8 : ((8 : Int32) &&& 31) = 8 := by decide
  rw [f0, f8]
  have g : (((lo8 c &&& 255) <<< (0 : Int32)) ||| ((hi8 c &&& 255) <<< (8 : Int32))).toBitVec.toNat = c.toBitVec.toNat := by
    rw [Int32.toBitVec_or, Int32.toBitVec_shiftLeft, Int32.toBitVec_shiftLeft]
    have s0 : ((0 : Int32).toBitVec.smod 32) = 0#32 := by decide
    have s8 : ((8 : Int32).toBitVec.smod 32) = 8#32 := by decide
    rw [s0, s8, BitVec.toNat_or]
    simp only [BitVec.shiftLeft_eq', BitVec.toNat_shiftLeft, a1, a2]
    show (c.toBitVec.toNat % 256) <<< 0 % 2 ^ 32 ||| (c.toBitVec.toNat / 256) <<< 8 % 2 ^ 32 = _
    rw [Nat.shiftLeft_zero, Nat.mod_eq_of_lt (show c.toBitVec.toNat % 256 < 2 ^ 32 by omega), Nat.mod_eq_of_lt (show (c.toBitVec.toNat / 256) <<< 8 < 2 ^ 32 by rw [Nat.shiftLeft_eq]; omega), Nat.or_comm, ← Nat.shiftLeft_add_eq_or_of_lt (by omega), Nat.shiftLeft_eq]
    omega
  show BitVec.toNat (((((lo8 c &&& 255) <<< (0 : Int32)) ||| ((hi8 c &&& 255) <<< (8 : Int32))).toBitVec.setWidth 16).setWidth 32) = _
  rw [BitVec.toNat_setWidth, BitVec.toNat_setWidth, g]
  omega
end StrChars
namespace StrChars
open Jvm Sem ClassFile Op Lib Jvm.Stand Jvm.Free.XT Jvm.Free.ALB Jvm.Free.JM Jvm.Free
open Jvm.Lib.Cold (StaticIs)
def Cod (cd : Int32) (n : Nat) (f : Nat → Int32) (V : Cell) : Prop := (cd = 0 ∧ V.slots.size = n ∧ ∀ j, j < n → V.slots[j]? = some (.int (lo8 (f j))) ∧ ¬ 255 < f j) ∨ (cd = 1 ∧ V.slots.size = 2 * n ∧ (∀ j, j < n → V.slots[2 * j]? = some (.int (lo8 (f j))) ∧ V.slots[2 * j + 1]? = some (.int (hi8 (f j)))) ∧ ∃ j, j < n ∧ 255 < f j)
def Txt (x t : Addr) (V : Cell) (cd : Int32) (n : Nat) (f : Nat → Int32) (U : State) : Prop := Exact "java/lang/String" x U ∧ Has x "java/lang/String" "value" "[B" (.ref t) U ∧ Has x "java/lang/String" "coder" "B" (.int cd) U ∧ XT.Arr .byte t V U ∧ Cod cd n f V ∧ ∀ j, j < n → ¬ f j < 0 ∧ ¬ 65535 < f j
theorem Txt.mv {x t : Addr} {V : Cell} {cd : Int32} {n : Nat} {f : Nat → Int32} {U U' : State} (h : Txt x t V cd n f U) (hal : U.vm.Alike U'.vm) (hh : U'.heap = U.heap) : Txt x t V cd n f U' := ⟨h.1.mv hal hh, h.2.1.mv hal hh, h.2.2.1.mv hal hh, h.2.2.2.1.mv hal hh, h.2.2.2.2⟩
end StrChars
namespace StrChars.Road
open Jvm Sem ClassFile Op Lib Jvm.Stand Jvm.Free Jvm.Free.XT
open Jvm.Lib.Cold (StaticIs)
theorem consq {a : Array Value} {s : State} {c : Jvm.Cond} {L : List Jvm.Cond} (h0 : c.before a s = true) (h : ∀ w ∈ L, w.before a s = true) : ∀ w ∈ c :: L, w.before a s = true := fun w hw => (List.mem_cons.mp hw).elim (fun e => e ▸ h0) (h w)
def wideBytes : List Int32 → List Value
  | [] => []
  | c :: cs => .int (lo8 c) :: .int (hi8 c) :: wideBytes cs
theorem wide_lo (d : Value) : ∀ (cs : List Int32) (j : Nat), j < cs.length → (wideBytes cs).getD (2 * j) d = .int (lo8 (cs.getD j 0))
  | [], j, h => absurd h (Nat.not_lt_zero j)
  | c :: cs, 0, _ => rfl
  | c :: cs, j + 1, h => by
    have q := wide_lo d cs j (by simpa using h)
    rw [show 2 * (j + 1) = 2 * j + 1 + 1 from by omega]
    simpa [wideBytes] using q
theorem wide_hi (d : Value) : ∀ (cs : List Int32) (j : Nat), j < cs.length → (wideBytes cs).getD (2 * j + 1) d = .int (hi8 (cs.getD j 0))
  | [], j, h => absurd h (Nat.not_lt_zero j)
  | c :: cs, 0, _ => rfl
  | c :: cs, j + 1, h => by
    have q := wide_hi d cs j (by simpa using h)
    rw [show 2 * (j + 1) + 1 = 2 * j + 1 + 1 + 1 from by omega]
    simpa [wideBytes] using q
theorem low_at (d : Value) (cs : List Int32) (j : Nat) (h : j < cs.length) : (cs.map fun c => Value.int (lo8 c)).getD j d = .int (lo8 (cs.getD j 0)) := by
  simp [List.getD_eq_getElem?_getD, h]
def CodA (cs : List Int32) (cd N2 : Int32) (vs : List Value) : Prop := (cd = 0 ∧ N2 = Int32.ofNat cs.length ∧ vs = (cs.map fun c => Value.int (lo8 c)) ∧ ∀ c ∈ cs, ¬ 255 < c) ∨ (cd = 1 ∧ N2 = Int32.ofNat (2 * cs.length) ∧ vs = wideBytes cs ∧ ∃ c ∈ cs, 255 < c)
theorem CodA.cod {cs : List Int32} {cd N2 : Int32} {vs : List Value} {V : Cell} (h : CodA cs cd N2 vs) (hn : 2 * cs.length < 2 ^ 31) (hs : V.slots.size = N2.toNatClampNeg) (hv : RoadKit.Has V vs (.int 0)) : Cod cd cs.length (fun j => cs.getD j 0) V := by
  rcases h with ⟨rfl, rfl, rfl, h⟩ | ⟨rfl, rfl, rfl, c, hc, hw⟩
  · rw [n32 (by omega)] at hs
    exact Or.inl ⟨rfl, hs, fun j hj => ⟨by rw [hv j (by omega), low_at _ _ _ hj], by
      have e : cs.getD j 0 = cs[j] := by simp [List.getD_eq_getElem?_getD, hj]
      show ¬ 255 < cs.getD j 0
      rw [e]; exact h _ (List.getElem_mem _)⟩⟩
  · rw [n32 (by omega)] at hs
    obtain ⟨j, hj, rfl⟩ := List.getElem_of_mem hc
    exact Or.inr ⟨rfl, hs, fun j hj => ⟨by rw [hv _ (by omega), wide_lo _ _ _ hj], by rw [hv _ (by omega), wide_hi _ _ _ hj]⟩, j, hj, by
      have e : cs.getD j 0 = cs[j] := by simp [List.getD_eq_getElem?_getD, hj]
      show 255 < cs.getD j 0
      rw [e]; exact hw⟩
theorem strObj {Z U : State} {a0 : Array Value} {kI : Nat} (wi : (Jvm.Cond.instantiable ST kI).before a0 Z = true) (al : Z.vm.Alike U.vm) {x : Addr} {v0 c0 : Value} (E : RoadKit.Exa Z U.heap x ST) (V : RoadKit.Fld Z U.heap x ST "value" "[B" v0) (C : RoadKit.Fld Z U.heap x ST "coder" "B" c0) :
    ∃ (D : Cell) (fV fC : Field), Blank ST x D U ∧ Found ST "value" "[B" fV U ∧ Found ST "coder" "B" fC U ∧ D.slots[fV.slot]? = some v0 ∧ D.slots[fC.slot]? = some c0 ∧ RoadKit.slotOf Z ST "value" "[B" = fV.slot ∧ RoadKit.slotOf Z ST "coder" "B" = fC.slot := by
  obtain ⟨D, cfV, kV, iV, fV, hD, gV, stV, knV, obV, asV, slV⟩ := V
  obtain ⟨D', cfC, kC, iC, fC, hD', gC, stC, -, -, asC, slC⟩ := C
  cases hD.symm.trans hD'
  obtain ⟨D2, kD, e1, e2, e3, e4, e5⟩ := E
  cases hD.symm.trans e1
  obtain ⟨c2, k2, i1, i2, i3, -⟩ := Cond.instantiable_spec wi
  cases e2.symm.trans i1
  cases e3.symm.trans i2
  obtain ⟨kU, u1, u2⟩ := al.2.2 _ _ e3
  exact ⟨D, fV, fC, ⟨hD, ⟨knV, fun q hq => by rw [hq] at obV; cases obV⟩, by rw [al.findClass]; exact e2, kU, u1, by rw [u2]; exact i3, by rw [u2]; exact e5 i3⟩, ⟨SBG.found_only al ⟨cfV, kV, iV, gV⟩, stV⟩, ⟨SBG.found_only al ⟨cfC, kC, iC, gC⟩, stC⟩, slV, slC, by simp [RoadKit.slotOf, gV], by simp [RoadKit.slotOf, gC]⟩
theorem sta_is {Z U : State} (al : Z.vm.Alike U.vm) {C n d : String} {v : Value} (S : RoadKit.Sta Z U.heap C n d v) : StaticIs U C n d v := by
  obtain ⟨cfS, iS, kS, fS, st, cS, t1, t2, t3, t4, t5, t6, t7⟩ := S
  exact StaticIs.there (s := { Z with heap := U.heap }) ⟨cfS, iS, kS, fS, st, cS, t1, t2, t3, t4, t5, (fun q => by rw [q] at t6; cases t6), t7⟩ al rfl
end StrChars.Road
namespace StrChars
open Jvm Sem ClassFile Op Lib Jvm.Stand Jvm.Free.XT Jvm.Free.ALB Jvm.Free.JM Jvm.Free
open Jvm.Lib.Cold (StaticIs)
def yv (A : Cell) (i : Nat) : Int32 := match A.slots[i]? with | some (.int x) => x | _ => 0
theorem yv_get {a : Addr} {A : Cell} {U : State} (h : XT.Arr .byte a A U) (ht : Typed .byte A) {i : Nat} (hi : i < A.slots.size) : A.slots[i]? = some (.int (yv A i)) := by
  have e := Array.getElem?_eq_getElem hi
  have f := ht i _ e
  unfold yv; rw [e]
  generalize A.slots[i] = v at f
  cases v <;> simp [fits] at f ⊢
def EqC (A B : Cell) : Prop := A.slots.size = B.slots.size ∧ ∀ i, i < A.slots.size → yv A i = yv B i
def Says01 (q : Prop) (r : Option Value) (s u : State) : Prop := ∃ v : Int32, r = some (.int v) ∧ u.heap = s.heap ∧ ((v = 1 ∧ q) ∨ (v = 0 ∧ ¬ q))
theorem Says01.mv {q : Prop} : ∀ r (U U' V V' : State), U'.heap = U.heap → V.vm.Alike V'.vm → V'.heap = V.heap → Says01 q r U V → Says01 q r U' V' :=
  fun r U U' V V' h1 _ h2 ⟨v, a, b, c⟩ => ⟨v, a, by rw [h1, h2]; exact b, c⟩
namespace LEq
def yN : MethodName := ⟨"java/lang/StringLatin1", "equals", "([B[B)Z"⟩
abbrev yB : ByteArray := jdk_43_method_13_code
theorem d0 : decode yB 0 = .ok (.aload_n 0, 1) := by decide +kernel
theorem d1 : decode yB 1 = .ok (.arraylength, 1) := by decide +kernel
theorem d2 : decode yB 2 = .ok (.aload_n 1, 1) := by decide +kernel
theorem d3 : decode yB 3 = .ok (.arraylength, 1) := by decide +kernel
theorem d4 : decode yB 4 = .ok (.if_icmp (.ne) 30, 3) := by decide +kernel
theorem d7 : decode yB 7 = .ok (.iconst 0, 1) := by decide +kernel
theorem d8 : decode yB 8 = .ok (.istore_n 2, 1) := by decide +kernel
theorem d9 : decode yB 9 = .ok (.iload_n 2, 1) := by decide +kernel
theorem d10 : decode yB 10 = .ok (.aload_n 0, 1) := by decide +kernel
theorem d11 : decode yB 11 = .ok (.arraylength, 1) := by decide +kernel
theorem d12 : decode yB 12 = .ok (.if_icmp (.ge) 20, 3) := by decide +kernel
theorem d15 : decode yB 15 = .ok (.aload_n 0, 1) := by decide +kernel
theorem d16 : decode yB 16 = .ok (.iload_n 2, 1) := by decide +kernel
theorem d17 : decode yB 17 = .ok (.baload, 1) := by decide +kernel
theorem d18 : decode yB 18 = .ok (.aload_n 1, 1) := by decide +kernel
theorem d19 : decode yB 19 = .ok (.iload_n 2, 1) := by decide +kernel
theorem d20 : decode yB 20 = .ok (.baload, 1) := by decide +kernel
theorem d21 : decode yB 21 = .ok (.if_icmp (.eq) 5, 3) := by decide +kernel
theorem d24 : decode yB 24 = .ok (.iconst 0, 1) := by decide +kernel
theorem d25 : decode yB 25 = .ok (.ireturn, 1) := by decide +kernel
theorem d26 : decode yB 26 = .ok (.iinc 2 1, 3) := by decide +kernel
theorem d29 : decode yB 29 = .ok (.goto (-20), 3) := by decide +kernel
theorem d32 : decode yB 32 = .ok (.iconst 1, 1) := by decide +kernel
theorem d33 : decode yB 33 = .ok (.ireturn, 1) := by decide +kernel
theorem d34 : decode yB 34 = .ok (.iconst 0, 1) := by decide +kernel
theorem d35 : decode yB 35 = .ok (.ireturn, 1) := by decide +kernel
def site : List Cond := []
def tab : Cond := tabOf yN yB 3 (some .boolean) site
def P (a : Addr) (A : Cell) (b : Addr) (B : Cell) (args : Array Value) (s : State) : Prop := args = #[.ref a, .ref b] ∧ XT.Arr .byte a A s ∧ Typed .byte A ∧ XT.Arr .byte b B s ∧ Typed .byte B
theorem law (l : Launch) (a : Addr) (A : Cell) (b : Addr) (B : Cell) : Law l yN 2 2 0 0 yB 3 (some .boolean) site (P a A b B) (Says01 (EqC A B)) [] 0 0 := by
  refine Law.of_walk (plainFor_of_name (by decide +kernel)) (by decide +kernel) (by decide +kernel) (by decide) (fun _ _ h => by rw [h.1]; rfl) (fun _ U U' hal hh h => ⟨h.1, h.2.1.mv hal hh, h.2.2.1, h.2.2.2.1.mv hal hh, h.2.2.2.2⟩) (fun r U U' V V' h1 hal h2 h => Says01.mv r U U' V V' h1 hal h2 h) ?_
  intro p e s m args below meth c s₁ X0 hexec hbytes hml hret hlk hnm hown hh0 W hP
  obtain ⟨rfl, hA, tA, hB, tB⟩ := hP
  have a31 := hA.2.2.2
  have b31 := hB.2.2.2
  have hA0 := hA.mv X0.warmed.alike hh0
  have hB0 := hB.mv X0.warmed.alike hh0
  have c1 : Steps p.tables e below (s₁.setTop (entryFrame m #[.ref a, .ref b] 3)) (s₁.setTop (mkF m 0 #[.val (.ref a), .val (.ref b), .unset] [])) := entry rfl
  have c2 : Steps p.tables e below (s₁.setTop (entryFrame m #[.ref a, .ref b] 3)) (s₁.setTop (mkF m 4 #[.val (.ref a), .val (.ref b), .unset] [.int (Int32.ofNat B.slots.size), .int (Int32.ofNat A.slots.size)])) := c1.trans (by
    refine XS.aloadN X0.here hexec rfl (hb hbytes d0) rfl rfl ?_
    refine X0.alen hexec hA0 rfl rfl (hb hbytes d1) ?_
    refine XS.aloadN X0.here hexec rfl (hb hbytes d2) rfl rfl ?_
    refine X0.alen hexec hB0 rfl rfl (hb hbytes d3) ?_
    exact Steps.refl _)
  by_cases hs : A.slots.size = B.slots.size
  · have c3 : Steps p.tables e below (s₁.setTop (entryFrame m #[.ref a, .ref b] 3)) (s₁.setTop (mkF m 9 #[.val (.ref a), .val (.ref b), .val (.int 0)] [])) := c2.trans (by
      refine XS.icmpNo X0.here hexec rfl (hb hbytes d4) rfl (ii_ne_f (by rw [hs])) ?_
      refine iconstV X0.here hexec rfl 0 (hb hbytes d7) (by decide) ?_
      refine XS.istoreN X0.here hexec rfl (hb hbytes d8) rfl rfl ?_
      exact Steps.refl _)
    have loop : ∀ (r i : Nat), i + r = A.slots.size → (∀ j, j < i → yv A j = yv B j) → Steps p.tables e below (s₁.setTop (entryFrame m #[.ref a, .ref b] 3)) (s₁.setTop (mkF m 9 #[.val (.ref a), .val (.ref b), .val (.int (Int32.ofNat i))] [])) → ∃ (pc : Nat) (Ls : Array Slot) (v : Int32), (pc = 25 ∨ pc = 33) ∧ ((v = 1 ∧ EqC A B) ∨ (v = 0 ∧ ¬ EqC A B)) ∧ Steps p.tables e below (s₁.setTop (entryFrame m #[.ref a, .ref b] 3)) (s₁.setTop (mkF m pc Ls [.int v])) := by
      intro r
      induction r with
      | zero =>
        intro i hi he cl
        exact ⟨33, _, 1, Or.inr rfl, Or.inl ⟨rfl, hs, fun j hj => he j (by omega)⟩, cl.trans (by
          refine XS.iloadN X0.here hexec rfl (hb hbytes d9) rfl ?_
          refine XS.aloadN X0.here hexec rfl (hb hbytes d10) rfl rfl ?_
          refine X0.alen hexec hA0 rfl rfl (hb hbytes d11) ?_
          refine XS.icmpYes X0.here hexec rfl (pc0 := 12) rfl (hb hbytes d12) rfl (ii_ge_t (nlt32 (by omega) (by omega))) (by decide) rfl ?_
          refine iconstV X0.here hexec rfl 1 (hb hbytes d32) (by decide) ?_
          exact Steps.refl _)⟩
      | succ r ih =>
        intro i hi he cl
        have c4 : Steps p.tables e below (s₁.setTop (entryFrame m #[.ref a, .ref b] 3)) (s₁.setTop (mkF m 21 #[.val (.ref a), .val (.ref b), .val (.int (Int32.ofNat i))] [.int (yv B i), .int (yv A i)])) := cl.trans (by
          refine XS.iloadN X0.here hexec rfl (hb hbytes d9) rfl ?_
          refine XS.aloadN X0.here hexec rfl (hb hbytes d10) rfl rfl ?_
          refine X0.alen hexec hA0 rfl rfl (hb hbytes d11) ?_
          refine XS.icmpNo X0.here hexec rfl (hb hbytes d12) rfl (ii_ge_f (lt32 (by omega) (by omega))) ?_
          refine XS.aloadN X0.here hexec rfl (hb hbytes d15) rfl rfl ?_
          refine XS.iloadN X0.here hexec rfl (hb hbytes d16) rfl ?_
          refine X0.aget hexec hA0 rfl (yv_get hA tA (i := i) (by omega)) rfl rfl (hb hbytes d17) ?_
          refine XS.aloadN X0.here hexec rfl (hb hbytes d18) rfl rfl ?_
          refine XS.iloadN X0.here hexec rfl (hb hbytes d19) rfl ?_
          refine X0.aget hexec hB0 rfl (yv_get hB tB (i := i) (by omega)) rfl rfl (hb hbytes d20) ?_
          exact Steps.refl _)
        by_cases hv : yv A i = yv B i
        · have c5 : Steps p.tables e below (s₁.setTop (entryFrame m #[.ref a, .ref b] 3)) (s₁.setTop (mkF m 9 #[.val (.ref a), .val (.ref b), .val (.int (Int32.ofNat i + 1))] [])) := c4.trans (by
            refine XS.icmpYes X0.here hexec rfl (pc0 := 21) rfl (hb hbytes d21) rfl (ii_eq_t hv) (by decide) rfl ?_
            refine iincV X0.here hexec rfl 1 (hb hbytes d26) (by decide) rfl rfl ?_
            refine XS.goto X0.here hexec rfl (pc0 := 29) rfl (hb hbytes d29) (by decide) rfl ?_
            exact Steps.refl _)
          rw [succ32] at c5
          exact ih (i + 1) (by omega) (fun j hj => by
            by_cases e : j = i
            · rw [e]; exact hv
            · exact he j (by omega)) c5
        · exact ⟨25, _, 0, Or.inl rfl, Or.inr ⟨rfl, fun q => hv (q.2 i (by omega))⟩, c4.trans (by
            refine XS.icmpNo X0.here hexec rfl (hb hbytes d21) rfl (ii_eq_f hv) ?_
            refine iconstV X0.here hexec rfl 0 (hb hbytes d24) (by decide) ?_
            exact Steps.refl _)⟩
    obtain ⟨pc, Ls, v, hpc, hv, cz⟩ := loop A.slots.size 0 (by omega) (fun j hj => absurd hj (Nat.not_lt_zero j)) c3
    have nv : narrow .boolean (.int v) = .int v := by rcases hv with ⟨rfl, -⟩ | ⟨rfl, -⟩ <;> rfl
    rcases hpc with rfl | rfl
    · exact ⟨s₁, some (.int v), _, _, _, X0, rfl, rfl, rfl, (fun h => by cases h), ⟨v, rfl, hh0, hv⟩, fun fs hl => cz.trans (X0.ireturnOut hexec hret nv (Or.inr (Or.inl rfl)) (hb hbytes d25) hl)⟩
    · exact ⟨s₁, some (.int v), _, _, _, X0, rfl, rfl, rfl, (fun h => by cases h), ⟨v, rfl, hh0, hv⟩, fun fs hl => cz.trans (X0.ireturnOut hexec hret nv (Or.inr (Or.inl rfl)) (hb hbytes d33) hl)⟩
  · have c3 : Steps p.tables e below (s₁.setTop (entryFrame m #[.ref a, .ref b] 3)) (s₁.setTop (mkF m 35 #[.val (.ref a), .val (.ref b), .unset] [.int 0])) := c2.trans (by
      refine XS.icmpYes X0.here hexec rfl (pc0 := 4) rfl (hb hbytes d4) rfl (ii_ne_t (ne32 a31 b31 hs)) (by decide) rfl ?_
      refine iconstV X0.here hexec rfl 0 (hb hbytes d34) (by decide) ?_
      exact Steps.refl _)
    exact ⟨s₁, some (.int 0), _, _, _, X0, rfl, rfl, rfl, (fun h => by cases h), ⟨0, rfl, hh0, Or.inr ⟨rfl, fun q => hs q.1⟩⟩, fun fs hl => c3.trans (X0.ireturnOut hexec hret rfl (Or.inr (Or.inl rfl)) (hb hbytes d35) hl)⟩
end LEq
theorem Cod.ty {cd : Int32} {n : Nat} {f : Nat → Int32} {V : Cell} (h : Cod cd n f V) : Typed .byte V := fun i v hv => by
  have hi : i < V.slots.size := (Array.getElem?_eq_some_iff.mp hv).1
  rcases h with ⟨-, k1, k2⟩ | ⟨-, k1, k2, -⟩
  · rw [(k2 i (by omega)).1] at hv; cases hv; exact fits_lo8 _
  · rcases Nat.mod_two_eq_zero_or_one i with e | e
    · obtain ⟨j, rfl⟩ : ∃ j, i = 2 * j := ⟨i / 2, by omega⟩
      rw [(k2 j (by omega)).1] at hv; cases hv; exact fits_lo8 _
    · obtain ⟨j, rfl⟩ : ∃ j, i = 2 * j + 1 := ⟨i / 2, by omega⟩
      rw [(k2 j (by omega)).2] at hv; cases hv; exact fits_lo8 _
def SameT (n : Nat) (f : Nat → Int32) (k : Nat) (g : Nat → Int32) : Prop := n = k ∧ ∀ j, j < n → f j = g j
theorem lo8_inj {x y : Int32} (h0 : ¬ x < 0) (h1 : ¬ 255 < x) (k0 : ¬ y < 0) (k1 : ¬ 255 < y) (h : lo8 x = lo8 y) : x = y := by
  rw [← lo8_mask h0 h1, ← lo8_mask k0 k1, h]
theorem Cod.eqv {cd : Int32} {n k : Nat} {f g : Nat → Int32} {V V' : Cell} (h : Cod cd n f V) (h' : Cod cd k g V') (hf : ∀ j, j < n → ¬ f j < 0 ∧ ¬ 65535 < f j) (hg : ∀ j, j < k → ¬ g j < 0 ∧ ¬ 65535 < g j) : EqC V V' ↔ SameT n f k g := by
  have yvv : ∀ {W : Cell} {i : Nat} {x : Int32}, W.slots[i]? = some (.int x) → yv W i = x := fun q => by unfold yv; rw [q]
  rcases h with ⟨rfl, k1, k2⟩ | ⟨rfl, k1, k2, -⟩
  · rcases h' with ⟨-, m1, m2⟩ | ⟨e, -⟩
    · constructor
      · rintro ⟨e1, e2⟩
        refine ⟨by omega, fun j hj => ?_⟩
        have q := e2 j (by omega)
        rw [yvv (k2 j hj).1, yvv (m2 j (by omega)).1] at q
        exact lo8_inj (hf j hj).1 (k2 j hj).2 (hg j (by omega)).1 (m2 j (by omega)).2 q
      · rintro ⟨rfl, e2⟩
        refine ⟨by omega, fun j hj => ?_⟩
        rw [yvv (k2 j (by omega)).1, yvv (m2 j (by omega)).1, e2 j (by omega)]
    · exact absurd e (by decide)
  · rcases h' with ⟨e, -⟩ | ⟨-, m1, m2, -⟩
    · exact absurd e (by decide)
    · constructor
      · rintro ⟨e1, e2⟩
        refine ⟨by omega, fun j hj => ?_⟩
        have q1 := e2 (2 * j) (by omega)
        have q2 := e2 (2 * j + 1) (by omega)
        rw [yvv (k2 j hj).1, yvv (m2 j (by omega)).1] at q1
        rw [yvv (k2 j hj).2, yvv (m2 j (by omega)).2] at q2
        rw [← pair_says (hf j hj).1 (hf j hj).2, ← pair_says (hg j (by omega)).1 (hg j (by omega)).2, q1, q2]
      · rintro ⟨rfl, e2⟩
        refine ⟨by omega, fun i hi => ?_⟩
        rcases Nat.mod_two_eq_zero_or_one i with e | e
        · obtain ⟨j, rfl⟩ : ∃ j, i = 2 * j := ⟨i / 2, by omega⟩
          rw [yvv (k2 j (by omega)).1, yvv (m2 j (by omega)).1, e2 j (by omega)]
        · obtain ⟨j, rfl⟩ : ∃ j, i = 2 * j + 1 := ⟨i / 2, by omega⟩
          rw [yvv (k2 j (by omega)).2, yvv (m2 j (by omega)).2, e2 j (by omega)]
theorem Cod.dif {cd cd' : Int32} {n k : Nat} {f g : Nat → Int32} {V V' : Cell} (h : Cod cd n f V) (h' : Cod cd' k g V') (hne : ¬ cd = cd') : ¬ SameT n f k g := by
  rintro ⟨rfl, e⟩
  rcases h with ⟨rfl, -, k2⟩ | ⟨rfl, -, -, j, hj, hw⟩
  · rcases h' with ⟨rfl, -⟩ | ⟨-, -, -, j, hj, hw⟩
    · exact hne rfl
    · exact (k2 j hj).2 (by rw [e j hj]; exact hw)
  · rcases h' with ⟨-, -, m2⟩ | ⟨rfl, -⟩
    · exact (m2 j hj).2 (by rw [← e j hj]; exact hw)
    · exact hne rfl
theorem cinst {p : Program} {l : Launch} {e : Env} {R : Room} {s : State} {m : MethodId} {args : Array Value} {below : List Frame} {meth : Method} {c : Code} {T : State} {locs : List Loc} {cells slots : Nat} (X : Stand p l e R s m args below meth c T locs cells slots) (hexec : p.tables.exec = Jvm.exec) {own C : String} {index : Nat} (hown : s.vm.findClass own = some m.cls) (hlink : (Cond.classLink own index C).before args s = true) {a : Addr} (hE : Exact C a T)
    {g : JFrame} (hg : g.method = m) {rest : List Value} (hstack : g.stack = .ref a :: rest) (hdg : decode c.code g.pc = .ok (.instanceof index, 3)) :
    ∃ T', Stand p l e R s m args below meth c T' locs cells slots ∧ T'.heap = T.heap ∧ ∀ target, Steps p.tables e below (T'.setTop { g with pc := g.pc + 3, stack := .int 1 :: rest }) target → Steps p.tables e below (T.setTop g) target := by
  obtain ⟨cB, h1, D, h2, h3, h4⟩ := hE
  have h1' : s.vm.findClass C = some cB := by rw [← X.warmed.alike.findClass]; exact h1
  obtain ⟨vm', X', st⟩ := X.instanceofYes hexec hown hlink h2 h4 h1' (by rw [h3]; exact Jvm.Free.SB.assignable_self _ _) hg hstack hdg
  exact ⟨_, X', rfl, st⟩
theorem cself {p : Program} {l : Launch} {e : Env} {R : Room} {s : State} {m : MethodId} {args : Array Value} {below : List Frame} {meth : Method} {c : Code} {T : State} {locs : List Loc} {cells slots : Nat} (X : Stand p l e R s m args below meth c T locs cells slots) (hexec : p.tables.exec = Jvm.exec) {own C : String} {index : Nat} (hown : s.vm.findClass own = some m.cls) (hlink : (Cond.classLink own index C).before args s = true) {a : Addr} (hE : Exact C a T)
    {g : JFrame} (hg : g.method = m) {rest : List Value} (hstack : g.stack = .ref a :: rest) (hdg : decode c.code g.pc = .ok (.checkcast index, 3)) :
    ∃ T', Stand p l e R s m args below meth c T' locs cells slots ∧ T'.heap = T.heap ∧ ∀ target, Steps p.tables e below (T'.setTop { g with pc := g.pc + 3, stack := .ref a :: rest }) target → Steps p.tables e below (T.setTop g) target := by
  obtain ⟨cB, h1, D, h2, h3, h4⟩ := hE
  have h1' : s.vm.findClass C = some cB := by rw [← X.warmed.alike.findClass]; exact h1
  obtain ⟨vm', X', st⟩ := X.checkcastYes hexec hown hlink h2 h4 h1' (by rw [h3]; exact Jvm.Free.SB.assignable_self _ _) hg hstack hdg
  exact ⟨_, X', rfl, fun t h => st t (by rw [← hstack] at h; exact h)⟩
namespace SEq
def yN : MethodName := ⟨"java/lang/String", "equals", "(Ljava/lang/Object;)Z"⟩
abbrev yB : ByteArray := jdk_42_method_66_code
theorem d0 : decode yB 0 = .ok (.aload_n 0, 1) := by decide +kernel
theorem d1 : decode yB 1 = .ok (.aload_n 1, 1) := by decide +kernel
theorem d2 : decode yB 2 = .ok (.if_acmp (.ne) 5, 3) := by decide +kernel
theorem d5 : decode yB 5 = .ok (.iconst 1, 1) := by decide +kernel
theorem d6 : decode yB 6 = .ok (.ireturn, 1) := by decide +kernel
theorem d7 : decode yB 7 = .ok (.aload_n 1, 1) := by decide +kernel
theorem d8 : decode yB 8 = .ok (.instanceof 10, 3) := by decide +kernel
theorem d11 : decode yB 11 = .ok (.ifCond (.eq) 43, 3) := by decide +kernel
theorem d14 : decode yB 14 = .ok (.aload_n 1, 1) := by decide +kernel
theorem d15 : decode yB 15 = .ok (.checkcast 10, 3) := by decide +kernel
theorem d18 : decode yB 18 = .ok (.astore_n 2, 1) := by decide +kernel
theorem d19 : decode yB 19 = .ok (.getstatic 38, 3) := by decide +kernel
theorem d22 : decode yB 22 = .ok (.ifCond (.eq) 14, 3) := by decide +kernel
theorem d25 : decode yB 25 = .ok (.aload_n 0, 1) := by decide +kernel
theorem d26 : decode yB 26 = .ok (.getfield 15, 3) := by decide +kernel
theorem d29 : decode yB 29 = .ok (.aload_n 2, 1) := by decide +kernel
theorem d30 : decode yB 30 = .ok (.getfield 15, 3) := by decide +kernel
theorem d33 : decode yB 33 = .ok (.if_icmp (.ne) 21, 3) := by decide +kernel
theorem d36 : decode yB 36 = .ok (.aload_n 0, 1) := by decide +kernel
theorem d37 : decode yB 37 = .ok (.getfield 9, 3) := by decide +kernel
theorem d40 : decode yB 40 = .ok (.aload_n 2, 1) := by decide +kernel
theorem d41 : decode yB 41 = .ok (.getfield 9, 3) := by decide +kernel
theorem d44 : decode yB 44 = .ok (.invokestatic 541, 3) := by decide +kernel
theorem d47 : decode yB 47 = .ok (.ifCond (.eq) 7, 3) := by decide +kernel
theorem d50 : decode yB 50 = .ok (.iconst 1, 1) := by decide +kernel
theorem d51 : decode yB 51 = .ok (.goto 4, 3) := by decide +kernel
theorem d54 : decode yB 54 = .ok (.iconst 0, 1) := by decide +kernel
theorem d55 : decode yB 55 = .ok (.ireturn, 1) := by decide +kernel
def site : List Cond := [.classLink "java/lang/String" 10 "java/lang/String", .fieldLink "java/lang/String" 38 "java/lang/String" "COMPACT_STRINGS" "Z", .fieldLink "java/lang/String" 15 "java/lang/String" "coder" "B", .fieldLink "java/lang/String" 9 "java/lang/String" "value" "[B", LEq.tab] ++ staticW "java/lang/String" 541 LEq.yN
def tab : Cond := tabOf yN yB 3 (some .boolean) site
def P (x t : Addr) (V : Cell) (cd : Int32) (n : Nat) (f : Nat → Int32) (y t' : Addr) (V' : Cell) (cd' : Int32) (k : Nat) (g : Nat → Int32) (z : Int32) (args : Array Value) (s : State) : Prop := args = #[.ref x, .ref y] ∧ Txt x t V cd n f s ∧ Txt y t' V' cd' k g s ∧ StaticIs s "java/lang/String" "COMPACT_STRINGS" "Z" (.int z) ∧ ¬ z = 0
theorem law (l : Launch) (x t : Addr) (V : Cell) (cd : Int32) (n : Nat) (f : Nat → Int32) (y t' : Addr) (V' : Cell) (cd' : Int32) (k : Nat) (g : Nat → Int32) (z : Int32) : Law l yN 2 1 1 14 yB 3 (some .boolean) site (P x t V cd n f y t' V' cd' k g z) (Says01 (SameT n f k g)) [] 0 0 := by
  refine Law.of_walk (plainFor_of_name (by decide +kernel)) (by decide +kernel) (by decide +kernel) (by decide) (fun _ _ h => by rw [h.1]; rfl) (fun _ U U' hal hh h => ⟨h.1, h.2.1.mv hal hh, h.2.2.1.mv hal hh, h.2.2.2.1.there hal hh, h.2.2.2.2⟩) (fun r U U' V V' h1 hal h2 h => Says01.mv r U U' V V' h1 hal h2 h) ?_
  intro p e s m args below meth c s₁ X0 hexec hbytes hml hret hlk hnm hown hh0 W hP
  obtain ⟨rfl, hx, hy, s1, hz⟩ := hP
  have c1 : Steps p.tables e below (s₁.setTop (entryFrame m #[.ref x, .ref y] 3)) (s₁.setTop (mkF m 2 #[.val (.ref x), .val (.ref y), .unset] [.ref y, .ref x])) := Steps.trans (entry rfl) (by
    show Steps p.tables e below (s₁.setTop (mkF m 0 #[.val (.ref x), .val (.ref y), .unset] [])) _
    refine XS.aloadN X0.here hexec rfl (hb hbytes d0) rfl rfl ?_
    refine XS.aloadN X0.here hexec rfl (hb hbytes d1) rfl rfl ?_
    exact Steps.refl _)
  by_cases hxy : x = y
  · have c2 : Steps p.tables e below (s₁.setTop (entryFrame m #[.ref x, .ref y] 3)) (s₁.setTop (mkF m 6 #[.val (.ref x), .val (.ref y), .unset] [.int 1])) := c1.trans (by
      refine acmpNo X0.here hexec rfl (hb hbytes d2) rfl rfl rfl (by simp [acmp, hxy]) ?_
      refine iconstV X0.here hexec rfl 1 (hb hbytes d5) (by decide) ?_
      exact Steps.refl _)
    subst hxy
    have ec : cd = cd' := by
      obtain ⟨D, fd, a1, a2, a3⟩ := hx.2.2.1
      obtain ⟨D', fd', b1, b2, b3⟩ := hy.2.2.1
      cases a1.symm.trans b1
      obtain ⟨q1, q2, q3, q4⟩ := a2.1
      obtain ⟨r1, r2, r3, r4⟩ := b2.1
      cases q4.symm.trans r4
      cases a3.symm.trans b3; rfl
    have et : t = t' := by
      obtain ⟨D, fd, a1, a2, a3⟩ := hx.2.1
      obtain ⟨D', fd', b1, b2, b3⟩ := hy.2.1
      cases a1.symm.trans b1
      obtain ⟨q1, q2, q3, q4⟩ := a2.1
      obtain ⟨r1, r2, r3, r4⟩ := b2.1
      cases q4.symm.trans r4
      cases a3.symm.trans b3; rfl
    subst ec et
    have ev : V = V' := by cases hx.2.2.2.1.1.symm.trans hy.2.2.2.1.1; rfl
    subst ev
    have hs : SameT n f k g := (Cod.eqv hx.2.2.2.2.1 hy.2.2.2.2.1 hx.2.2.2.2.2 hy.2.2.2.2.2).mp ⟨rfl, fun _ _ => rfl⟩
    exact ⟨s₁, some (.int 1), _, _, _, X0, rfl, rfl, rfl, (fun h => by cases h), ⟨1, rfl, hh0, Or.inl ⟨rfl, hs⟩⟩, fun fs hl => c2.trans (X0.ireturnOut hexec hret rfl (Or.inr (Or.inl rfl)) (hb hbytes d6) hl)⟩
  · have c2 : Steps p.tables e below (s₁.setTop (entryFrame m #[.ref x, .ref y] 3)) (s₁.setTop (mkF m 8 #[.val (.ref x), .val (.ref y), .unset] [.ref y])) := c1.trans (by
      refine acmpYes X0.here hexec rfl (pc0 := 2) rfl (hb hbytes d2) rfl rfl rfl (by simp [acmp, hxy]) (by decide) rfl ?_
      refine XS.aloadN X0.here hexec rfl (hb hbytes d7) rfl rfl ?_
      exact Steps.refl _)
    obtain ⟨T3, X3, q3, st3⟩ := cinst X0 hexec hown (wk W (.classLink "java/lang/String" 10 "java/lang/String")) (hy.mv X0.warmed.alike hh0).1 (g := (mkF m 8 #[.val (.ref x), .val (.ref y), .unset] [.ref y])) rfl (rest := []) rfl (hb hbytes d8)
    have hh3 := q3.trans hh0
    have c4 : Steps p.tables e below (s₁.setTop (entryFrame m #[.ref x, .ref y] 3)) (T3.setTop (mkF m 15 #[.val (.ref x), .val (.ref y), .unset] [.ref y])) := (c2.trans (st3 _ (Steps.refl _))).trans (by
      refine XS.ifNo X3.here hexec rfl (hb hbytes d11) rfl (i0_eq_f (by decide)) ?_
      refine XS.aloadN X3.here hexec rfl (hb hbytes d14) rfl rfl ?_
      exact Steps.refl _)
    obtain ⟨T5, X5, q5, st5⟩ := cself X3 hexec hown (wk W (.classLink "java/lang/String" 10 "java/lang/String")) (hy.mv X3.warmed.alike hh3).1 (g := (mkF m 15 #[.val (.ref x), .val (.ref y), .unset] [.ref y])) rfl (rest := []) rfl (hb hbytes d15)
    have hh5 := q5.trans hh3
    have c6 : Steps p.tables e below (s₁.setTop (entryFrame m #[.ref x, .ref y] 3)) (T5.setTop (mkF m 19 #[.val (.ref x), .val (.ref y), .val (.ref y)] [])) := (c4.trans (st5 _ (Steps.refl _))).trans (by
      refine XS.astoreN X5.here hexec rfl (hb hbytes d18) rfl rfl rfl ?_
      exact Steps.refl _)
    obtain ⟨T7, X7, q7, st7⟩ := X5.sget hexec hown (wk W (.fieldLink "java/lang/String" 38 "java/lang/String" "COMPACT_STRINGS" "Z")) s1 (fun _ _ h => by rw [hh5]; exact h) (g := (mkF m 19 #[.val (.ref x), .val (.ref y), .val (.ref y)] [])) rfl (hb hbytes d19)
    have hh7 := q7.trans hh5
    have c8 : Steps p.tables e below (s₁.setTop (entryFrame m #[.ref x, .ref y] 3)) (T7.setTop (mkF m 26 #[.val (.ref x), .val (.ref y), .val (.ref y)] [.ref x])) := (c6.trans (st7 _ (Steps.refl _))).trans (by
      refine XS.ifNo X7.here hexec rfl (hb hbytes d22) rfl (i0_eq_f hz) ?_
      refine XS.aloadN X7.here hexec rfl (hb hbytes d25) rfl rfl ?_
      exact Steps.refl _)
    obtain ⟨T9, X9, q9, st9⟩ := X7.hget hexec hown (wk W (.fieldLink "java/lang/String" 15 "java/lang/String" "coder" "B")) (hx.mv X7.warmed.alike hh7).2.2.1 (g := (mkF m 26 #[.val (.ref x), .val (.ref y), .val (.ref y)] [.ref x])) rfl (rest := []) rfl (hb hbytes d26)
    have hh9 := q9.trans hh7
    have c10 : Steps p.tables e below (s₁.setTop (entryFrame m #[.ref x, .ref y] 3)) (T9.setTop (mkF m 30 #[.val (.ref x), .val (.ref y), .val (.ref y)] [.ref y, .int cd])) := (c8.trans (st9 _ (Steps.refl _))).trans (by
      refine XS.aloadN X9.here hexec rfl (hb hbytes d29) rfl rfl ?_
      exact Steps.refl _)
    obtain ⟨T11, X11, q11, st11⟩ := X9.hget hexec hown (wk W (.fieldLink "java/lang/String" 15 "java/lang/String" "coder" "B")) (hy.mv X9.warmed.alike hh9).2.2.1 (g := (mkF m 30 #[.val (.ref x), .val (.ref y), .val (.ref y)] [.ref y, .int cd])) rfl (rest := [.int cd]) rfl (hb hbytes d30)
    have hh11 := q11.trans hh9
    have c12 : Steps p.tables e below (s₁.setTop (entryFrame m #[.ref x, .ref y] 3)) (T11.setTop (mkF m 33 #[.val (.ref x), .val (.ref y), .val (.ref y)] [.int cd', .int cd])) := c10.trans (st11 _ (Steps.refl _))
    by_cases hcd : cd = cd'
    · subst hcd
      have c13 : Steps p.tables e below (s₁.setTop (entryFrame m #[.ref x, .ref y] 3)) (T11.setTop (mkF m 37 #[.val (.ref x), .val (.ref y), .val (.ref y)] [.ref x])) := c12.trans (by
        refine XS.icmpNo X11.here hexec rfl (hb hbytes d33) rfl (ii_ne_f rfl) ?_
        refine XS.aloadN X11.here hexec rfl (hb hbytes d36) rfl rfl ?_
        exact Steps.refl _)
      obtain ⟨T14, X14, q14, st14⟩ := X11.hget hexec hown (wk W (.fieldLink "java/lang/String" 9 "java/lang/String" "value" "[B")) (hx.mv X11.warmed.alike hh11).2.1 (g := (mkF m 37 #[.val (.ref x), .val (.ref y), .val (.ref y)] [.ref x])) rfl (rest := []) rfl (hb hbytes d37)
      have hh14 := q14.trans hh11
      have c15 : Steps p.tables e below (s₁.setTop (entryFrame m #[.ref x, .ref y] 3)) (T14.setTop (mkF m 41 #[.val (.ref x), .val (.ref y), .val (.ref y)] [.ref y, .ref t])) := (c13.trans (st14 _ (Steps.refl _))).trans (by
        refine XS.aloadN X14.here hexec rfl (hb hbytes d40) rfl rfl ?_
        exact Steps.refl _)
      obtain ⟨T16, X16, q16, st16⟩ := X14.hget hexec hown (wk W (.fieldLink "java/lang/String" 9 "java/lang/String" "value" "[B")) (hy.mv X14.warmed.alike hh14).2.1 (g := (mkF m 41 #[.val (.ref x), .val (.ref y), .val (.ref y)] [.ref y, .ref t])) rfl (rest := [.ref t]) rfl (hb hbytes d41)
      have hh16 := q16.trans hh14
      have c17 : Steps p.tables e below (s₁.setTop (entryFrame m #[.ref x, .ref y] 3)) (T16.setTop (mkF m 44 #[.val (.ref x), .val (.ref y), .val (.ref y)] [.ref t', .ref t])) := c15.trans (st16 _ (Steps.refl _))
      obtain ⟨v18, T18, X18, E18, g18⟩ := X16.callS hexec (LEq.law l t V t' V') hown (wks W (staticW "java/lang/String" 541 LEq.yN)) (wk W LEq.tab) (W := 0) (Nat.le_of_ble_eq_true rfl) (Nat.le_of_ble_eq_true rfl) (Nat.le_refl _) (Nat.le_refl _) (g := (mkF m 44 #[.val (.ref x), .val (.ref y), .val (.ref y)] [.ref t', .ref t])) rfl (by rw [hml]; rfl) c17 (argsL := [.ref t, .ref t']) (rest := []) rfl rfl (by show 2 * 0 + 0 ≤ _; decide) (hb hbytes d44) (⟨rfl, hx.2.2.2.1.mv X16.warmed.alike hh16, hx.2.2.2.2.1.ty, hy.2.2.2.1.mv X16.warmed.alike hh16, hy.2.2.2.2.1.ty⟩)
      obtain ⟨v, rfl, q18, hv⟩ := E18
      have iff := Cod.eqv hx.2.2.2.2.1 hy.2.2.2.2.1 hx.2.2.2.2.2 hy.2.2.2.2.2
      rcases hv with ⟨rfl, he⟩ | ⟨rfl, he⟩
      · have c19 : Steps p.tables e below (s₁.setTop (entryFrame m #[.ref x, .ref y] 3)) (T18.setTop (mkF m 55 #[.val (.ref x), .val (.ref y), .val (.ref y)] [.int 1])) := Steps.trans g18 (by
          refine XS.ifNo X18.here hexec rfl (hb hbytes d47) rfl (i0_eq_f (by decide)) ?_
          refine iconstV X18.here hexec rfl 1 (hb hbytes d50) (by decide) ?_
          refine XS.goto X18.here hexec rfl (pc0 := 51) rfl (hb hbytes d51) (by decide) rfl ?_
          exact Steps.refl _)
        exact ⟨T18, some (.int 1), _, _, _, X18, rfl, rfl, rfl, (fun h => by cases h), ⟨1, rfl, q18.trans hh16, Or.inl ⟨rfl, iff.mp he⟩⟩, fun fs hl => c19.trans (X18.ireturnOut hexec hret rfl (Or.inr (Or.inl rfl)) (hb hbytes d55) hl)⟩
      · have c19 : Steps p.tables e below (s₁.setTop (entryFrame m #[.ref x, .ref y] 3)) (T18.setTop (mkF m 55 #[.val (.ref x), .val (.ref y), .val (.ref y)] [.int 0])) := Steps.trans g18 (by
          refine XS.ifYes X18.here hexec rfl (pc0 := 47) rfl (hb hbytes d47) rfl (i0_eq_t rfl) (by decide) rfl ?_
          refine iconstV X18.here hexec rfl 0 (hb hbytes d54) (by decide) ?_
          exact Steps.refl _)
        exact ⟨T18, some (.int 0), _, _, _, X18, rfl, rfl, rfl, (fun h => by cases h), ⟨0, rfl, q18.trans hh16, Or.inr ⟨rfl, fun q => he (iff.mpr q)⟩⟩, fun fs hl => c19.trans (X18.ireturnOut hexec hret rfl (Or.inr (Or.inl rfl)) (hb hbytes d55) hl)⟩
    · have c13 : Steps p.tables e below (s₁.setTop (entryFrame m #[.ref x, .ref y] 3)) (T11.setTop (mkF m 55 #[.val (.ref x), .val (.ref y), .val (.ref y)] [.int 0])) := c12.trans (by
        refine XS.icmpYes X11.here hexec rfl (pc0 := 33) rfl (hb hbytes d33) rfl (ii_ne_t hcd) (by decide) rfl ?_
        refine iconstV X11.here hexec rfl 0 (hb hbytes d54) (by decide) ?_
        exact Steps.refl _)
      exact ⟨T11, some (.int 0), _, _, _, X11, rfl, rfl, rfl, (fun h => by cases h), ⟨0, rfl, hh11, Or.inr ⟨rfl, Cod.dif hx.2.2.2.2.1 hy.2.2.2.2.1 hcd⟩⟩, fun fs hl => c13.trans (X11.ireturnOut hexec hret rfl (Or.inr (Or.inl rfl)) (hb hbytes d55) hl)⟩
theorem pays {l : Launch} {R : Room} {p : Program} {e : Env} {below : List Frame} {s : State} {sargs : Array Value} {len W : Nat} (x t : Addr) (V : Cell) (cd : Int32) (n : Nat) (f : Nat → Int32) (y t' : Addr) (V' : Cell) (cd' : Int32) (k : Nat) (g : Nat → Int32) (z : Int32) (htab : tab.before sargs s = true) (hfr : 2 ≤ R.frames) (hlo : W + 28 ≤ R.locals) :
    Back l R p e below s sargs yN len W (fun A₁ a₁ => A₁.cells + 0 ≤ R.cells ∧ A₁.slots + 0 ≤ R.slots ∧ P x t V cd n f y t' V' cd' k g z a₁ A₁.U) (fun A₁ _ v₁ B₁ => Says01 (SameT n f k g) v₁ A₁.U B₁.U ∧ B₁.locs = A₁.locs ++ [] ∧ B₁.cells = A₁.cells + 0 ∧ B₁.slots = A₁.slots + 0) :=
  (law l x t V cd n f y t' V' cd' k g z).pays htab hfr (by omega)
end SEq
end StrChars
namespace StrChars.Road
open Jvm Sem ClassFile Op Lib Jvm.Stand Jvm.Free Jvm.Free.XT
open Jvm.Lib.Cold (StaticIs)
abbrev wordsEq : List Jvm.Cond := [.code SEq.yN SEq.yB 3 (some .boolean), .initialized ST, .classLink ST 10 ST, .fieldLink ST 38 ST "COMPACT_STRINGS" "Z", .fieldLink ST 15 ST "coder" "B", .fieldLink ST 9 ST "value" "[B", .methodLink ST 541 LEq.yN, .static LEq.yN, .code LEq.yN LEq.yB 3 (some .boolean), .initialized "java/lang/StringLatin1"]
theorem tabEq_of {a : Array Value} {s : State} (h : ∀ w ∈ wordsEq, w.before a s = true) : SEq.tab.before a s = true := by
  have hl : LEq.tab.before a s = true := unparts (wk h (.code LEq.yN LEq.yB 3 (some .boolean))) (wks h (.initialized LEq.yN.cls :: LEq.site))
  have q := consq hl h
  exact unparts (wk q (.code SEq.yN SEq.yB 3 (some .boolean))) (wks q (.initialized SEq.yN.cls :: SEq.site))
theorem movedEq {Z s : State} {a0 args : Array Value} (hZ : Z.Warmed39 s.vm) (hw : ∀ d ∈ wordsEq, d.before a0 Z = true) : ∀ d ∈ wordsEq, d.before args s = true := fun d hd => by
  have t : ∀ d ∈ wordsEq, (d.onTables && d.keepsFace) = true := by decide +kernel
  exact RoadKit.mv hZ (hw d hd) (t d hd)
theorem txt_of {Z U : State} {a0 : Array Value} {kI : Nat} (wi : (Jvm.Cond.instantiable ST kI).before a0 Z = true) (al : Z.vm.Alike U.vm) {x t : Addr} {kb : ClassId} {cs : List Int32} {cd N2 : Int32} {vs : List Value} (E : RoadKit.Exa Z U.heap x ST) (V : RoadKit.Fld Z U.heap x ST "value" "[B" (.ref t)) (C : RoadKit.Fld Z U.heap x ST "coder" "B" (.int cd)) (K : RoadKit.Arv Z U.heap t kb .byte N2 vs (.int 0)) (hc : CodA cs cd N2 vs) (hb : ∀ c ∈ cs, ¬ c < 0 ∧ ¬ (65535 : Int32) < c) (l2 : cs.length ≤ 4000) :
    ∃ A, Txt x t A cd cs.length (fun j => cs.getD j 0) U := by
  obtain ⟨A, K1, K2, K3, K4, K5, K6⟩ := K
  have hcod := hc.cod (by omega) K3 K5
  obtain ⟨D, fV, fC, hB, F1, F2, g1, g2, -, -⟩ := strObj wi al E V C
  exact ⟨A, ⟨_, hB.2.2.1, D, hB.1, rfl, by cases q : D.vm <;> first | rfl | exact absurd q (hB.2.1.2 _)⟩, Has.of hB F1 g1, Has.of hB F2 g2, ⟨K1.1, State.isArrayOf_alike al K1.2.1, K1.2.2, by rcases hcod with ⟨-, q, -⟩ | ⟨-, q, -⟩ <;> omega⟩, hcod, fun j hj => by
    have e : cs.getD j 0 = cs[j] := by simp [List.getD_eq_getElem?_getD, hj]
    show ¬ cs.getD j 0 < 0 ∧ ¬ 65535 < cs.getD j 0
    rw [e]; exact hb _ (List.getElem_mem _)⟩
theorem same_list (cs ds : List Int32) : SameT cs.length (fun j => cs.getD j 0) ds.length (fun j => ds.getD j 0) ↔ cs = ds := by
  constructor
  · rintro ⟨e, q⟩
    refine List.ext_getElem e fun j h1 h2 => ?_
    have := q j h1
    simpa [List.getD_eq_getElem?_getD, h1, h2] using this
  · rintro rfl
    exact ⟨rfl, fun _ _ => rfl⟩
theorem eqW {p : Program} {l : Launch} {e : Env} {R : Room} {s : State} {args : Array Value} {below : List Frame} {len W : Nat} {Z : State} {a0 : Array Value} {h : Heap} (hZ : Z.Warmed39 s.vm) (hw : ∀ d ∈ wordsEq, d.before a0 Z = true) {kI : Nat} (wi : (Jvm.Cond.instantiable ST kI).before a0 Z = true)
    {x t : Addr} {kb : ClassId} {cs : List Int32} {cd N2 : Int32} {vs : List Value} (E : RoadKit.Exa Z h x ST) (V : RoadKit.Fld Z h x ST "value" "[B" (.ref t)) (C : RoadKit.Fld Z h x ST "coder" "B" (.int cd)) (K : RoadKit.Arv Z h t kb .byte N2 vs (.int 0)) (hc : CodA cs cd N2 vs) (hb : ∀ c ∈ cs, ¬ c < 0 ∧ ¬ (65535 : Int32) < c) (l2 : cs.length ≤ 4000)
    {y t' : Addr} {kb' : ClassId} {ds : List Int32} {cd' N2' : Int32} {vs' : List Value} (E' : RoadKit.Exa Z h y ST) (V' : RoadKit.Fld Z h y ST "value" "[B" (.ref t')) (C' : RoadKit.Fld Z h y ST "coder" "B" (.int cd')) (K' : RoadKit.Arv Z h t' kb' .byte N2' vs' (.int 0)) (hc' : CodA ds cd' N2' vs') (hb' : ∀ c ∈ ds, ¬ c < 0 ∧ ¬ (65535 : Int32) < c) (l2' : ds.length ≤ 4000)
    {z : Int32} (S : RoadKit.Sta Z h ST "COMPACT_STRINGS" "Z" (.int z)) (hz : ¬ z = 0) (hfr : 2 ≤ R.frames) (hlo : W + 28 ≤ R.locals) :
    Back l R p e below s args (⟨"java/lang/String", "equals", "(Ljava/lang/Object;)Z"⟩ : MethodName) len W (fun P a => a = #[.ref x, .ref y] ∧ P.U.heap = h ∧ P.cells + 0 ≤ R.cells ∧ P.slots + 0 ≤ R.slots)
      (fun P _ v B => ∃ L, (((v = some (.int 1) ∧ cs = ds) ∨ (v = some (.int 0) ∧ ¬ cs = ds)) ∧ L = [] ∧ B.U.heap = h) ∧ B.locs = P.locs ++ L ∧ B.cells = P.cells + 0 ∧ B.slots = P.slots + 0) := by
  intro m meth c P g ig mk a X hg hsize hdg hW hn hp'
  obtain ⟨rfl, rfl, r1, r2⟩ := hp'
  have al : Z.vm.Alike P.U.vm := hZ.alike.trans X.warmed.alike
  obtain ⟨A, hx⟩ := txt_of wi al E V C K hc hb l2
  obtain ⟨A', hy⟩ := txt_of wi al E' V' C' K' hc' hb' l2'
  obtain ⟨v, B, X', ⟨⟨w, hv, hh, hq⟩, hl, hk, hs⟩, st⟩ := SEq.pays x t A cd cs.length (fun j => cs.getD j 0) y t' A' cd' ds.length (fun j => ds.getD j 0) z (tabEq_of (movedEq hZ hw)) hfr hlo m meth c P g ig mk _ X hg hsize hdg hW hn ⟨r1, r2, rfl, hx, hy, sta_is al S, hz⟩
  refine ⟨v, B, X', ⟨[], ⟨?_, rfl, hh⟩, hl, hk, hs⟩, st⟩
  rcases hq with ⟨rfl, q⟩ | ⟨rfl, q⟩
  · exact Or.inl ⟨hv, (same_list cs ds).mp q⟩
  · exact Or.inr ⟨hv, fun e => q ((same_list cs ds).mpr e)⟩
end StrChars.Road
end Jvm.Pilot.@@N@@
namespace Jvm.Pilot.@@N@@
open Jvm Jvm.ClassFile Sem Op Lib Jvm.Free Jvm.Stand Jvm.LawKit Jvm.RoadKit Bundle Jvm.Pilot.@@N@@.Jvm.D
theorem own_w {a0 : Array Value} {Z : State} (hw : ∀ d ∈ tables_1, d.before a0 Z = true) (i : Nat) {d : Jvm.Cond} (h : tables_1[i]? = some d) : d.before a0 Z = true := hw _ (List.mem_of_getElem? h)
abbrev yy0 : MethodName := ⟨"java/lang/String", "coder", "()B"⟩
abbrev yy1 : MethodName := ⟨"java/lang/String", "length", "()I"⟩
abbrev yy2 : MethodName := ⟨"java/lang/Math", "max", "(II)I"⟩
abbrev yy3 : MethodName := ⟨"java/lang/Math", "min", "(II)I"⟩
abbrev yy4 : MethodName := ⟨"java/lang/Record", "<init>", "()V"⟩
abbrev yy5 : MethodName := ⟨"com/example/firm_duties/firmduties/Decision", "<init>", "(ZLcom/example/firm_duties/firmduties/Decision$Reason;)V"⟩
abbrev yy6 : MethodName := ⟨"java/lang/AbstractStringBuilder", "<init>", "(I)V"⟩
abbrev yy7 : MethodName := ⟨"java/lang/StringBuilder", "<init>", "()V"⟩
abbrev yy8 : MethodName := ⟨"java/lang/AbstractStringBuilder", "inflateIfNeededFor", "(Ljava/lang/String;)V"⟩
abbrev yy9 : MethodName := ⟨"java/lang/String", "getBytes", "([BIB)V"⟩
abbrev yy10 : MethodName := ⟨"java/lang/AbstractStringBuilder", "putStringAt", "(ILjava/lang/String;)V"⟩
abbrev yy11 : MethodName := ⟨"jdk/internal/util/ArraysSupport", "newLength", "(III)I"⟩
abbrev yy12 : MethodName := ⟨"java/lang/AbstractStringBuilder", "newCapacity", "(I)I"⟩
abbrev yy13 : MethodName := ⟨"java/util/Arrays", "copyOf", "([BI)[B"⟩
abbrev yy14 : MethodName := ⟨"java/lang/AbstractStringBuilder", "ensureCapacityInternal", "(I)V"⟩
abbrev yy15 : MethodName := ⟨"java/lang/AbstractStringBuilder", "append", "(Ljava/lang/String;)Ljava/lang/AbstractStringBuilder;"⟩
abbrev yy16 : MethodName := ⟨"java/lang/StringBuilder", "append", "(Ljava/lang/String;)Ljava/lang/StringBuilder;"⟩
abbrev yy17 : MethodName := ⟨"java/lang/AbstractStringBuilder", "getValue", "()[B"⟩
abbrev yy18 : MethodName := ⟨"java/lang/AbstractStringBuilder", "length", "()I"⟩
abbrev yy19 : MethodName := ⟨"java/lang/StringBuilder", "length", "()I"⟩
abbrev yy20 : MethodName := ⟨"java/lang/AbstractStringBuilder", "isLatin1", "()Z"⟩
abbrev yy21 : MethodName := ⟨"java/util/Arrays", "checkLength", "(II)V"⟩
abbrev yy22 : MethodName := ⟨"java/util/Arrays", "copyOfRangeByte", "([BII)[B"⟩
abbrev yy23 : MethodName := ⟨"java/util/Arrays", "copyOfRange", "([BII)[B"⟩
abbrev yy24 : MethodName := ⟨"java/lang/String", "<init>", "(Ljava/lang/AbstractStringBuilder;Ljava/lang/Void;)V"⟩
abbrev yy25 : MethodName := ⟨"java/lang/String", "<init>", "(Ljava/lang/StringBuilder;)V"⟩
abbrev yy26 : MethodName := ⟨"java/lang/StringBuilder", "toString", "()Ljava/lang/String;"⟩
abbrev yy27 : MethodName := ⟨"com/example/firm_duties/firmduties/Decision$Reason", "code", "()Ljava/lang/String;"⟩
abbrev yy28 : MethodName := ⟨"com/example/firm_duties/firmduties/Decision", "toJson", "()Ljava/lang/String;"⟩
abbrev yy29 : MethodName := ⟨"java/lang/String", "equals", "(Ljava/lang/Object;)Z"⟩
def own_b (P : Prop) [Decidable P] : Int32 := if P then 1 else 0
theorem own_bt {P : Prop} [Decidable P] (h : P) : (some (Value.int (nar .boolean 1)) : Option Value) = some (.int (own_b P)) := by rw [own_b, if_pos h]; rfl
theorem own_bf {P : Prop} [Decidable P] (h : ¬ P) : (some (Value.int (nar .boolean 0)) : Option Value) = some (.int (own_b P)) := by rw [own_b, if_neg h]; rfl
theorem own_b1 {P : Prop} [Decidable P] (h : P) : own_b P = 1 := if_pos h
theorem own_b0 {P : Prop} [Decidable P] (h : ¬ P) : own_b P = 0 := if_neg h
theorem own_bc {P P' : Prop} [Decidable P] [Decidable P'] (h : P ↔ P') : own_b P = own_b P' := by simp only [own_b, h]
def own_by (c : Int32) : Int32 := c.toInt8.toInt32
def own_in (c : Int32) : Prop := 0 ≤ c.toInt ∧ c.toInt ≤ 255
theorem own_narc {c : Int32} (h : own_in c) : nar .char c = c := by
  have h2 := c_i2c c; unfold own_in at h
  refine Int32.toInt_inj.mp ?_
  show (c.toUInt32.toUInt16.toUInt32.toInt32).toInt = _
  omega
theorem own_narb (c : Int32) : nar .byte (own_by c) = own_by c := by
  have h := c_i2b c; have h2 := c_i2b (c.toInt8.toInt32)
  refine Int32.toInt_inj.mp ?_
  show ((c.toInt8.toInt32).toInt8.toInt32).toInt = (c.toInt8.toInt32).toInt
  omega
theorem own_byc {c : Int32} (h : own_in c) : nar .byte ((nar .char c).toInt8.toInt32) = own_by c := by rw [own_narc h]; exact own_narb c
theorem own_byi {a b : Int32} (ha : own_in a) (hb : own_in b) : own_by a = own_by b ↔ a = b := by
  have h1 := c_i2b a; have h2 := c_i2b b; unfold own_in at ha hb
  refine ⟨fun q => Int32.toInt_inj.mp ?_, fun q => by rw [q]⟩
  have q2 := congrArg Int32.toInt q; unfold own_by at q2; omega
theorem own_255 {c : Int32} (h : own_in c) : ¬ (255 : Int32) < nar .char c := by
  rw [own_narc h]; unfold own_in at h; simp only [Int32.lt_iff_toInt_lt, Int32.reduceToInt]; omega
theorem own_fldeq {Z : State} {h : Heap} {a : Addr} {C n d : String} {v w : Value} (F : Fld Z h a C n d v) (G : Fld Z h a C n d w) : v = w := Classical.byContradiction fun q => Fld.ne F G q rfl
theorem own_arveq {Z : State} {h : Heap} {a : Addr} {k1 k2 : ClassId} {t1 t2 : FieldType} {z1 z2 : Int32} {v1 v2 : List Value} {d1 d2 : Value} (A : Arv Z h a k1 t1 z1 v1 d1) (B : Arv Z h a k2 t2 z2 v2 d2) : z1.toNatClampNeg = z2.toNatClampNeg ∧ ∀ i, i < z1.toNatClampNeg → v1.getD i d1 = v2.getD i d2 :=
  ⟨Classical.byContradiction fun q => arv_ne A B (Or.inl q) rfl, fun i hi => Classical.byContradiction fun q => arv_ne A B (Or.inr ⟨i, hi, q⟩) rfl⟩
theorem own_arvnn {Z : State} {h : Heap} {a : Addr} {k : ClassId} {t : FieldType} {z : Int32} {v : List Value} {d : Value} (A : Arv Z h a k t z v d) : ¬ z < 0 := by obtain ⟨_, _, _, _, q, _⟩ := A; exact q
theorem own_zeq {z1 z2 : Int32} (h1 : ¬ z1 < 0) (h2 : ¬ z2 < 0) (e : z1.toNatClampNeg = z2.toNatClampNeg) : z1 = z2 := by rw [← (back32 h1).1, ← (back32 h2).1, e]
def own_pre : List Value := [(.int (123 : Int32)), (.int (34 : Int32)), (.int (100 : Int32)), (.int (101 : Int32)), (.int (99 : Int32)), (.int (105 : Int32)), (.int (115 : Int32)), (.int (105 : Int32)), (.int (111 : Int32)), (.int (110 : Int32)), (.int (34 : Int32)), (.int (58 : Int32)), (.int (102 : Int32)), (.int (97 : Int32)), (.int (108 : Int32)), (.int (115 : Int32)), (.int (101 : Int32)), (.int (44 : Int32)), (.int (34 : Int32)), (.int (99 : Int32)), (.int (111 : Int32)), (.int (110 : Int32)), (.int (116 : Int32)), (.int (101 : Int32)), (.int (120 : Int32)), (.int (116 : Int32)), (.int (34 : Int32)), (.int (58 : Int32)), (.int (123 : Int32)), (.int (34 : Int32)), (.int (114 : Int32)), (.int (101 : Int32)), (.int (97 : Int32)), (.int (115 : Int32)), (.int (111 : Int32)), (.int (110 : Int32)), (.int (34 : Int32)), (.int (58 : Int32)), (.int (34 : Int32))]
def own_suf : List Value := [(.int (34 : Int32)), (.int (125 : Int32)), (.int (125 : Int32))]
def own_gr : List Value := [(.int (123 : Int32)), (.int (34 : Int32)), (.int (100 : Int32)), (.int (101 : Int32)), (.int (99 : Int32)), (.int (105 : Int32)), (.int (115 : Int32)), (.int (105 : Int32)), (.int (111 : Int32)), (.int (110 : Int32)), (.int (34 : Int32)), (.int (58 : Int32)), (.int (116 : Int32)), (.int (114 : Int32)), (.int (117 : Int32)), (.int (101 : Int32)), (.int (125 : Int32))]
def own_cd0 : List Value := [(.int (110 : Int32)), (.int (111 : Int32)), (.int (116 : Int32)), (.int (95 : Int32)), (.int (112 : Int32)), (.int (101 : Int32)), (.int (114 : Int32)), (.int (109 : Int32)), (.int (105 : Int32)), (.int (116 : Int32)), (.int (116 : Int32)), (.int (101 : Int32)), (.int (100 : Int32))]
def own_x0 : List Value := [(.int (123 : Int32)), (.int (34 : Int32)), (.int (100 : Int32)), (.int (101 : Int32)), (.int (99 : Int32)), (.int (105 : Int32)), (.int (115 : Int32)), (.int (105 : Int32)), (.int (111 : Int32)), (.int (110 : Int32)), (.int (34 : Int32)), (.int (58 : Int32)), (.int (102 : Int32)), (.int (97 : Int32)), (.int (108 : Int32)), (.int (115 : Int32)), (.int (101 : Int32)), (.int (44 : Int32)), (.int (34 : Int32)), (.int (99 : Int32)), (.int (111 : Int32)), (.int (110 : Int32)), (.int (116 : Int32)), (.int (101 : Int32)), (.int (120 : Int32)), (.int (116 : Int32)), (.int (34 : Int32)), (.int (58 : Int32)), (.int (123 : Int32)), (.int (34 : Int32)), (.int (114 : Int32)), (.int (101 : Int32)), (.int (97 : Int32)), (.int (115 : Int32)), (.int (111 : Int32)), (.int (110 : Int32)), (.int (34 : Int32)), (.int (58 : Int32)), (.int (34 : Int32)), (.int (110 : Int32)), (.int (111 : Int32)), (.int (116 : Int32)), (.int (95 : Int32)), (.int (112 : Int32)), (.int (101 : Int32)), (.int (114 : Int32)), (.int (109 : Int32)), (.int (105 : Int32)), (.int (116 : Int32)), (.int (116 : Int32)), (.int (101 : Int32)), (.int (100 : Int32)), (.int (34 : Int32)), (.int (125 : Int32)), (.int (125 : Int32))]
def own_cd1 : List Value := [(.int (115 : Int32)), (.int (101 : Int32)), (.int (112 : Int32)), (.int (97 : Int32)), (.int (114 : Int32)), (.int (97 : Int32)), (.int (116 : Int32)), (.int (105 : Int32)), (.int (111 : Int32)), (.int (110 : Int32)), (.int (95 : Int32)), (.int (111 : Int32)), (.int (102 : Int32)), (.int (95 : Int32)), (.int (100 : Int32)), (.int (117 : Int32)), (.int (116 : Int32)), (.int (121 : Int32))]
def own_x1 : List Value := [(.int (123 : Int32)), (.int (34 : Int32)), (.int (100 : Int32)), (.int (101 : Int32)), (.int (99 : Int32)), (.int (105 : Int32)), (.int (115 : Int32)), (.int (105 : Int32)), (.int (111 : Int32)), (.int (110 : Int32)), (.int (34 : Int32)), (.int (58 : Int32)), (.int (102 : Int32)), (.int (97 : Int32)), (.int (108 : Int32)), (.int (115 : Int32)), (.int (101 : Int32)), (.int (44 : Int32)), (.int (34 : Int32)), (.int (99 : Int32)), (.int (111 : Int32)), (.int (110 : Int32)), (.int (116 : Int32)), (.int (101 : Int32)), (.int (120 : Int32)), (.int (116 : Int32)), (.int (34 : Int32)), (.int (58 : Int32)), (.int (123 : Int32)), (.int (34 : Int32)), (.int (114 : Int32)), (.int (101 : Int32)), (.int (97 : Int32)), (.int (115 : Int32)), (.int (111 : Int32)), (.int (110 : Int32)), (.int (34 : Int32)), (.int (58 : Int32)), (.int (34 : Int32)), (.int (115 : Int32)), (.int (101 : Int32)), (.int (112 : Int32)), (.int (97 : Int32)), (.int (114 : Int32)), (.int (97 : Int32)), (.int (116 : Int32)), (.int (105 : Int32)), (.int (111 : Int32)), (.int (110 : Int32)), (.int (95 : Int32)), (.int (111 : Int32)), (.int (102 : Int32)), (.int (95 : Int32)), (.int (100 : Int32)), (.int (117 : Int32)), (.int (116 : Int32)), (.int (121 : Int32)), (.int (34 : Int32)), (.int (125 : Int32)), (.int (125 : Int32))]
def own_cd2 : List Value := [(.int (98 : Int32)), (.int (97 : Int32)), (.int (100 : Int32)), (.int (95 : Int32)), (.int (114 : Int32)), (.int (101 : Int32)), (.int (113 : Int32)), (.int (117 : Int32)), (.int (101 : Int32)), (.int (115 : Int32)), (.int (116 : Int32))]
def own_x2 : List Value := [(.int (123 : Int32)), (.int (34 : Int32)), (.int (100 : Int32)), (.int (101 : Int32)), (.int (99 : Int32)), (.int (105 : Int32)), (.int (115 : Int32)), (.int (105 : Int32)), (.int (111 : Int32)), (.int (110 : Int32)), (.int (34 : Int32)), (.int (58 : Int32)), (.int (102 : Int32)), (.int (97 : Int32)), (.int (108 : Int32)), (.int (115 : Int32)), (.int (101 : Int32)), (.int (44 : Int32)), (.int (34 : Int32)), (.int (99 : Int32)), (.int (111 : Int32)), (.int (110 : Int32)), (.int (116 : Int32)), (.int (101 : Int32)), (.int (120 : Int32)), (.int (116 : Int32)), (.int (34 : Int32)), (.int (58 : Int32)), (.int (123 : Int32)), (.int (34 : Int32)), (.int (114 : Int32)), (.int (101 : Int32)), (.int (97 : Int32)), (.int (115 : Int32)), (.int (111 : Int32)), (.int (110 : Int32)), (.int (34 : Int32)), (.int (58 : Int32)), (.int (34 : Int32)), (.int (98 : Int32)), (.int (97 : Int32)), (.int (100 : Int32)), (.int (95 : Int32)), (.int (114 : Int32)), (.int (101 : Int32)), (.int (113 : Int32)), (.int (117 : Int32)), (.int (101 : Int32)), (.int (115 : Int32)), (.int (116 : Int32)), (.int (34 : Int32)), (.int (125 : Int32)), (.int (125 : Int32))]
def own_gru : List Int32 := [(123 : Int32), (34 : Int32), (100 : Int32), (101 : Int32), (99 : Int32), (105 : Int32), (115 : Int32), (105 : Int32), (111 : Int32), (110 : Int32), (34 : Int32), (58 : Int32), (116 : Int32), (114 : Int32), (117 : Int32), (101 : Int32), (125 : Int32)]
def own_x0u : List Int32 := [(123 : Int32), (34 : Int32), (100 : Int32), (101 : Int32), (99 : Int32), (105 : Int32), (115 : Int32), (105 : Int32), (111 : Int32), (110 : Int32), (34 : Int32), (58 : Int32), (102 : Int32), (97 : Int32), (108 : Int32), (115 : Int32), (101 : Int32), (44 : Int32), (34 : Int32), (99 : Int32), (111 : Int32), (110 : Int32), (116 : Int32), (101 : Int32), (120 : Int32), (116 : Int32), (34 : Int32), (58 : Int32), (123 : Int32), (34 : Int32), (114 : Int32), (101 : Int32), (97 : Int32), (115 : Int32), (111 : Int32), (110 : Int32), (34 : Int32), (58 : Int32), (34 : Int32), (110 : Int32), (111 : Int32), (116 : Int32), (95 : Int32), (112 : Int32), (101 : Int32), (114 : Int32), (109 : Int32), (105 : Int32), (116 : Int32), (116 : Int32), (101 : Int32), (100 : Int32), (34 : Int32), (125 : Int32), (125 : Int32)]
def own_x1u : List Int32 := [(123 : Int32), (34 : Int32), (100 : Int32), (101 : Int32), (99 : Int32), (105 : Int32), (115 : Int32), (105 : Int32), (111 : Int32), (110 : Int32), (34 : Int32), (58 : Int32), (102 : Int32), (97 : Int32), (108 : Int32), (115 : Int32), (101 : Int32), (44 : Int32), (34 : Int32), (99 : Int32), (111 : Int32), (110 : Int32), (116 : Int32), (101 : Int32), (120 : Int32), (116 : Int32), (34 : Int32), (58 : Int32), (123 : Int32), (34 : Int32), (114 : Int32), (101 : Int32), (97 : Int32), (115 : Int32), (111 : Int32), (110 : Int32), (34 : Int32), (58 : Int32), (34 : Int32), (115 : Int32), (101 : Int32), (112 : Int32), (97 : Int32), (114 : Int32), (97 : Int32), (116 : Int32), (105 : Int32), (111 : Int32), (110 : Int32), (95 : Int32), (111 : Int32), (102 : Int32), (95 : Int32), (100 : Int32), (117 : Int32), (116 : Int32), (121 : Int32), (34 : Int32), (125 : Int32), (125 : Int32)]
def own_x2u : List Int32 := [(123 : Int32), (34 : Int32), (100 : Int32), (101 : Int32), (99 : Int32), (105 : Int32), (115 : Int32), (105 : Int32), (111 : Int32), (110 : Int32), (34 : Int32), (58 : Int32), (102 : Int32), (97 : Int32), (108 : Int32), (115 : Int32), (101 : Int32), (44 : Int32), (34 : Int32), (99 : Int32), (111 : Int32), (110 : Int32), (116 : Int32), (101 : Int32), (120 : Int32), (116 : Int32), (34 : Int32), (58 : Int32), (123 : Int32), (34 : Int32), (114 : Int32), (101 : Int32), (97 : Int32), (115 : Int32), (111 : Int32), (110 : Int32), (34 : Int32), (58 : Int32), (34 : Int32), (98 : Int32), (97 : Int32), (100 : Int32), (95 : Int32), (114 : Int32), (101 : Int32), (113 : Int32), (117 : Int32), (101 : Int32), (115 : Int32), (116 : Int32), (34 : Int32), (125 : Int32), (125 : Int32)]
def own_z16 : List Value := List.replicate 16 (.int (0 : Int32))
def own_z39 : List Value := List.replicate 39 (.int (0 : Int32))
def own_z53 : List Value := List.replicate 53 (.int (0 : Int32))
def own_z55 : List Value := List.replicate 55 (.int (0 : Int32))
def own_z60 : List Value := List.replicate 60 (.int (0 : Int32))
def own_z80 : List Value := List.replicate 80 (.int (0 : Int32))
def own_cp (vs vd : List Value) (sp dp nn : Int32) (dv : Value) : List Value := vd.take dp.toNatClampNeg ++ ((List.range nn.toNatClampNeg).map fun i => vs.getD (sp.toNatClampNeg + i) dv) ++ vd.drop (dp.toNatClampNeg + nn.toNatClampNeg)
theorem own_sh0 (z : Int32) : z >>> ((0 : Int32) &&& 31) = z := by
  have e := c_ishr z 0 0 (by decide)
  refine Int32.toInt_inj.mp ?_; rw [e]; omega
theorem own_smo {args : Array Value} {s : State} {C : String} {x y0 y : MethodName} (hsel : (Jvm.Cond.selects C x y0).before args s = true) (e : y0.cls = y.cls) (hinst : (Jvm.Cond.instanceMethod y).before args s = true) (hy : y.cls ≠ "java/lang/invoke/MethodHandle" ∧ y.cls ≠ "java/lang/invoke/VarHandle") : (Jvm.Cond.sameMethod y.cls y.cls y.name y.desc).before args s = true := by
  obtain ⟨mk, methM, hnamed, -, -, -⟩ := Cond.instanceMethod_spec hinst
  obtain ⟨c2, r2, m2, -, -, q3, -, kP, hkP, hkPi⟩ := Cond.selects_spec hsel
  have hf := State.methodFound?_of_named hnamed hy
  have hc := findClass_of_methodNamed hnamed
  have hc2 := findClass_of_methodNamed q3
  rw [e, hc] at hc2
  have q := Option.some.inj hc2
  have hn' : s.methodNamed? ⟨y.cls, y.name, y.desc⟩ = some mk := hnamed
  simp only [Cond.before, Cond.holds, Cond.value, hc, hf, hn']
  rw [q, hkP]; simp [hkPi]
theorem own_nf {args : Array Value} {s : State} {C : String} {x y0 y : MethodName} (hsel : (Jvm.Cond.selects C x y0).before args s = true) (e : y0.cls = y.cls) : NotFace s y := fun r0 h0 => by
  obtain ⟨c2, r2, m2, -, -, q3, -, kP, hkP, hkPi⟩ := Cond.selects_spec hsel
  have h1 := findClass_of_methodNamed h0
  have h2 := findClass_of_methodNamed q3
  rw [e, h1] at h2
  have q := Option.some.inj h2
  exact ⟨kP, by rw [q]; exact hkP, hkPi⟩
theorem own_selp {args : Array Value} {s : State} {C : String} {y : MethodName} (hsel : (Jvm.Cond.selects C y y).before args s = true) (hpriv : s.PrivateAt y) (hinst : (Jvm.Cond.instanceMethod y).before args s = true) (hy : y.cls ≠ "java/lang/invoke/MethodHandle" ∧ y.cls ≠ "java/lang/invoke/VarHandle") : (Jvm.Cond.selects y.cls y y).before args s = true := by
  obtain ⟨mk, methM, hnamed, -, -, -⟩ := Cond.instanceMethod_spec hinst
  obtain ⟨c2, r2, m2, -, -, q3, -, kP, hkP, hkPi⟩ := Cond.selects_spec hsel
  cases hnamed.symm.trans q3
  exact selects_self_of_private (findClass_of_methodNamed hnamed) hkP hkPi hpriv hinst hy
abbrev rRrm11 : Room := { frames := 0, cells := 0, slots := 0, locals := 0 }
theorem d11_0 : decode jdk_42_method_152_code 0 = .ok (.getstatic 38, 3) := by decide +kernel
theorem d11_3 : decode jdk_42_method_152_code 3 = .ok (.ifCond .eq 10, 3) := by decide +kernel
theorem d11_6 : decode jdk_42_method_152_code 6 = .ok (.aload_n 0, 1) := by decide +kernel
theorem d11_7 : decode jdk_42_method_152_code 7 = .ok (.getfield 15, 3) := by decide +kernel
theorem d11_10 : decode jdk_42_method_152_code 10 = .ok (.goto 4, 3) := by decide +kernel
theorem d11_14 : decode jdk_42_method_152_code 14 = .ok (.ireturn, 1) := by decide +kernel
theorem pn_rm11 : plainFor yy0 = true := by first | exact plainFor_of_name (by first | (simp [plainName, overriddenIn]; done) | decide +kernel) | decide +kernel
theorem ef_rm11 (m : MethodId) (a : Addr) : entryFrame m #[(.ref a)] 1 = (mkF m 0 #[rv a] []) := by first | (simp [entryFrame, mkF, argsToLocals, Value.category]; done) | rfl
def Q11 (Z : State) (a : Addr) (cs : Int32) (h0 : Heap) (n0 : Nat) (v_ : Option Value) (h_ : Heap) (L_ : List Loc) : Prop := (v_ = some (.int (0 : Int32))) ∧ (Fr n0 L_) ∧ (h_ = h0)
set_option maxRecDepth 65536 in
set_option maxHeartbeats 40000000 in
theorem rm11 (l : Launch) (Z : State) (a0 : Array Value) (hw : ∀ d ∈ tables_1, d.before a0 Z = true) (ws : List Jvm.Cond) (a : Addr) (cs : Int32) (h0 : Heap) (n0 : Nat) (Z0 : n0 ≤ h0.size) (p_0 : Fld Z h0 a "java/lang/String" "coder" "B" (.int (0 : Int32))) (p_1 : Sta Z h0 "java/lang/String" "COMPACT_STRINGS" "Z" (.int cs)) (hcs : ¬ cs = (0 : Int32)) :
    MetFree l yy0 (head1 (Jvm.Cond.code yy0 jdk_42_method_152_code 1 (some .byte) :: ws) rRrm11) (fun a_ U_ => a_ = #[(.ref a)] ∧ Z.Warmed39 U_.vm ∧ U_.heap = h0) (fun _ _ _ _ _ => True) (fun _ U_ o_ U1_ => ∃ v_ L_, o_ = .returned v_ ∧ Q11 Z a cs h0 n0 v_ U1_.heap L_ ∧ FrameEnd U_ o_ U1_ L_ rRrm11.cells rRrm11.slots) := by
  refine MetFree.of_bodySF pn_rm11 hisR ?_
  intro p e s m args below meth c s₁ Bd hml0 hP hK
  obtain ⟨rfl, hZ, hh⟩ := hP
  have hx := Bd.exec
  have hby := Bd.bytes
  have hlk : meth.locks = false := Bd.notSynchronized
  have hml : c.maxLocals = 1 := hml0
  have hown : s.vm.findClass "java/lang/String" = some m.cls := findClass_of_methodNamed Bd.named
  have hnm := (name_of_methodNamed Bd.named Bd.method).1
  have X0 : Stand p l e rRrm11 s m #[(.ref a)] below meth c s₁ [] 0 0 := Stand.of_body Bd
  have e0 : s₁.heap = h0 := by rw [← hh, Bd.state]; rfl
  have N0 := Fr.nil n0
  show own_Goes p e below s (Q11 Z a cs h0 n0) rRrm11.cells rRrm11.slots s₁ (entryFrame m #[(.ref a)] 1)
  rw [ef_rm11 m a]
  show own_Goes p e below s (Q11 Z a cs h0 n0) rRrm11.cells rRrm11.slots s₁ (mkF m 0 #[rv a] [])
  obtain ⟨T1, X1, e1, st1⟩ := getS2 X0 hx hZ hown (host := "") (Or.inl (own_w hw 81 rfl)) Via.refl e0 p_1 (g := (mkF m 0 #[rv a] [])) rfl (hb hby d11_0)
  refine own_st st1 ?_
  show own_Goes _ _ _ _ _ _ _ T1 (mkF m 3 #[rv a] [(.int cs)])
  refine own_st (fun _ kk_ => XS.ifNo X1.here hx rfl (hb hby d11_3) rfl (XT.i0_eq_f hcs) (XS.aloadN X1.here hx rfl (hb hby d11_6) rfl rfl kk_)) ?_
  show own_Goes _ _ _ _ _ _ _ T1 (mkF m 7 #[rv a] [(.ref a)])
  obtain ⟨T2, X2, e2, st2⟩ := getF X1 hx hZ hown (host := "") (Or.inl (own_w hw 82 rfl)) Via.refl e1 p_0 (g := (mkF m 7 #[rv a] [(.ref a)])) rfl rfl (hb hby d11_7)
  refine own_st st2 ?_
  show own_Goes _ _ _ _ _ _ _ T2 (mkF m 10 #[rv a] [(.int (0 : Int32))])
  refine own_st (fun _ kk_ => XS.goto X2.here hx rfl (pc0 := 10) (pc' := 14) rfl (hb hby d11_10) (by decide) (by decide) kk_) ?_
  show own_Goes _ _ _ _ _ _ _ T2 (mkF m 14 #[rv a] [(.int (0 : Int32))])
  refine own_retN X2 hx hlk (t := .byte) Bd.returns (by simp) (hb hby d11_14) (by decide) (by decide) ?_
  show Q11 Z a cs h0 n0 (some (.int (nar .byte (0 : Int32)))) T2.heap _
  rw [e2]
  exact ⟨rfl, N0, rfl⟩
abbrev rRrm10 : Room := { frames := 1, cells := 0, slots := 0, locals := 13 }
theorem d10_0 : decode jdk_42_method_54_code 0 = .ok (.aload_n 0, 1) := by decide +kernel
theorem d10_1 : decode jdk_42_method_54_code 1 = .ok (.getfield 9, 3) := by decide +kernel
theorem d10_4 : decode jdk_42_method_54_code 4 = .ok (.arraylength, 1) := by decide +kernel
theorem d10_5 : decode jdk_42_method_54_code 5 = .ok (.aload_n 0, 1) := by decide +kernel
theorem d10_6 : decode jdk_42_method_54_code 6 = .ok (.invokevirtual 335, 3) := by decide +kernel
theorem d10_9 : decode jdk_42_method_54_code 9 = .ok (.ishr, 1) := by decide +kernel
theorem d10_10 : decode jdk_42_method_54_code 10 = .ok (.ireturn, 1) := by decide +kernel
theorem pd_0 : parseMethodDescriptor "()B" = some ⟨[], some .byte⟩ := by decide +kernel
theorem pn_rm10 : plainFor yy1 = true := by first | exact plainFor_of_name (by first | (simp [plainName, overriddenIn]; done) | decide +kernel) | decide +kernel
theorem ef_rm10 (m : MethodId) (a : Addr) : entryFrame m #[(.ref a)] 1 = (mkF m 0 #[rv a] []) := by first | (simp [entryFrame, mkF, argsToLocals, Value.category]; done) | rfl
def Q10 (Z : State) (a : Addr) (d : Addr) (kd : ClassId) (z1 : Int32) (vs1 : List Value) (cs : Int32) (h0 : Heap) (n0 : Nat) (v_ : Option Value) (h_ : Heap) (L_ : List Loc) : Prop := (v_ = some (.int z1)) ∧ (Fr n0 L_) ∧ (h_ = h0)
set_option maxRecDepth 65536 in
set_option maxHeartbeats 40000000 in
theorem rm10 (l : Launch) (Z : State) (a0 : Array Value) (hw : ∀ d ∈ tables_1, d.before a0 Z = true) (ws : List Jvm.Cond) (a : Addr) (d : Addr) (kd : ClassId) (z1 : Int32) (vs1 : List Value) (cs : Int32) (h0 : Heap) (n0 : Nat) (Z0 : n0 ≤ h0.size) (p_0 : Exa Z h0 a "java/lang/String") (p_1 : Fld Z h0 a "java/lang/String" "coder" "B" (.int (0 : Int32))) (p_2 : Fld Z h0 a "java/lang/String" "value" "[B" (.ref d)) (p_3 : Arv Z h0 d kd .byte z1 vs1 (.int (0 : Int32))) (p_4 : Sta Z h0 "java/lang/String" "COMPACT_STRINGS" "Z" (.int cs)) (hcs : ¬ cs = (0 : Int32)) :
    MetFree l yy1 (head1 (Jvm.Cond.code yy1 jdk_42_method_54_code 1 (some .int) :: ws) rRrm10) (fun a_ U_ => a_ = #[(.ref a)] ∧ Z.Warmed39 U_.vm ∧ U_.heap = h0) (fun _ _ _ _ _ => True) (fun _ U_ o_ U1_ => ∃ v_ L_, o_ = .returned v_ ∧ Q10 Z a d kd z1 vs1 cs h0 n0 v_ U1_.heap L_ ∧ FrameEnd U_ o_ U1_ L_ rRrm10.cells rRrm10.slots) := by
  refine MetFree.of_bodySF pn_rm10 hisR ?_
  intro p e s m args below meth c s₁ Bd hml0 hP hK
  obtain ⟨rfl, hZ, hh⟩ := hP
  have hx := Bd.exec
  have hby := Bd.bytes
  have hlk : meth.locks = false := Bd.notSynchronized
  have hml : c.maxLocals = 1 := hml0
  have hown : s.vm.findClass "java/lang/String" = some m.cls := findClass_of_methodNamed Bd.named
  have hnm := (name_of_methodNamed Bd.named Bd.method).1
  have X0 : Stand p l e rRrm10 s m #[(.ref a)] below meth c s₁ [] 0 0 := Stand.of_body Bd
  have e0 : s₁.heap = h0 := by rw [← hh, Bd.state]; rfl
  have N0 := Fr.nil n0
  show own_Goes p e below s (Q10 Z a d kd z1 vs1 cs h0 n0) rRrm10.cells rRrm10.slots s₁ (entryFrame m #[(.ref a)] 1)
  rw [ef_rm10 m a]
  show own_Goes p e below s (Q10 Z a d kd z1 vs1 cs h0 n0) rRrm10.cells rRrm10.slots s₁ (mkF m 0 #[rv a] [])
  refine own_st (fun _ kk_ => XS.aloadN X0.here hx rfl (hb hby d10_0) rfl rfl kk_) ?_
  show own_Goes _ _ _ _ _ _ _ s₁ (mkF m 1 #[rv a] [(.ref a)])
  obtain ⟨T1, X1, e1, st1⟩ := getF X0 hx hZ hown (host := "") (Or.inl (own_w hw 75 rfl)) Via.refl e0 p_2 (g := (mkF m 1 #[rv a] [(.ref a)])) rfl rfl (hb hby d10_1)
  refine own_st st1 ?_
  show own_Goes _ _ _ _ _ _ _ T1 (mkF m 4 #[rv a] [(.ref d)])
  obtain ⟨cl2, Ar2, -, Sz2, Nn2, -, -⟩ := id p_3
  refine own_st (fun _ kk_ => X1.arraylength hx (by rw [e1]; exact Ar2.1) (State.isArrayOf_alike hZ.alike Ar2.2.1) (g := (mkF m 4 #[rv a] [(.ref d)])) rfl rfl (hb hby d10_4) _ kk_) ?_
  rw [len_of Sz2 Nn2]
  show own_Goes _ _ _ _ _ _ _ T1 (mkF m 5 #[rv a] [(.int z1)])
  refine own_st (fun _ kk_ => XS.aloadN X1.here hx rfl (hb hby d10_5) rfl rfl kk_) ?_
  show own_Goes _ _ _ _ _ _ _ T1 (mkF m 6 #[rv a] [(.ref a), (.int z1)])
  obtain ⟨cq3, kq3, q3a, q3b, q3c⟩ := isOf hZ e1 p_0
  obtain ⟨_, _, ⟨T3, L3, k3, n3⟩, -, X3, ⟨Lc3, hQ3, l3, y3, z3⟩, st3⟩ := X1.virtualBack hx (y := yy0) (z := yy0) hown (mvT hZ (own_w hw 76 rfl)) (mvT hZ (own_w hw 77 rfl)) (notFace_of_selects (args := #[]) (mvT hZ (own_w hw 79 rfl))) (mvT hZ (own_w hw 79 rfl)) (mvT hZ (own_w hw 78 rfl)) (by decide) (backOf (W := 1) (rm11 l Z a0 hw [] (a) (cs) h0 n0 Z0 p_1 p_4 (by assumption)) hZ (own_w hw 80 rfl) (own_w hw 19 rfl) (by decide) (by decide)) q3a q3c (g := (mkF m 6 #[rv a] [(.ref a), (.int z1)])) rfl (by rw [hml]; rfl) (Steps.refl _) (argsL := []) (rest := [(.int z1)]) (lenOf pd_0 rfl) rfl (by show 2 * 0 + _ ≤ _; exact Nat.le_of_eq rfl) (hb hby d10_6) (fun _ _ => ⟨rfl, e1, (by decide : 0 + 0 ≤ _), (by decide : 0 + 0 ≤ _)⟩)
  dsimp only [Pt.U, Pt.locs, Pt.cells, Pt.slots] at X3 l3 y3 z3 st3 hQ3
  subst l3 y3 z3
  obtain ⟨rfl, Nq3, eq3⟩ := hQ3
  have N3 := Fr.app N0 Nq3
  refine own_st (fun _ kk_ => st3.trans kk_) ?_
  show own_Goes _ _ _ _ _ _ _ T3 (mkF m 9 #[rv a] [(.int (0 : Int32)), (.int z1)])
  refine own_st (fun _ kk_ => XS.ishr X3.here hx rfl (hb hby d10_9) rfl kk_) ?_
  show own_Goes _ _ _ _ _ _ _ T3 (mkF m 10 #[rv a] [(.int (z1 >>> ((0 : Int32) &&& 31)))])
  refine own_retI X3 hx hlk Bd.returns (hb hby d10_10) (by decide) (by decide) ?_
  show Q10 Z a d kd z1 vs1 cs h0 n0 (some (.int (z1 >>> ((0 : Int32) &&& 31)))) T3.heap _
  rw [eq3]
  exact ⟨by exact congrArg (fun z => some (Value.int z)) (own_sh0 z1), N3, rfl⟩
abbrev rRrmxA : Room := { frames := 0, cells := 0, slots := 0, locals := 0 }
theorem d15_0 : decode jdk_29_method_65_code 0 = .ok (.iload_n 0, 1) := by decide +kernel
theorem d15_1 : decode jdk_29_method_65_code 1 = .ok (.iload_n 1, 1) := by decide +kernel
theorem d15_2 : decode jdk_29_method_65_code 2 = .ok (.if_icmp .lt 7, 3) := by decide +kernel
theorem d15_5 : decode jdk_29_method_65_code 5 = .ok (.iload_n 0, 1) := by decide +kernel
theorem d15_6 : decode jdk_29_method_65_code 6 = .ok (.goto 4, 3) := by decide +kernel
theorem d15_10 : decode jdk_29_method_65_code 10 = .ok (.ireturn, 1) := by decide +kernel
theorem pn_rmxA : plainFor yy2 = true := by first | exact plainFor_of_name (by first | (simp [plainName, overriddenIn]; done) | decide +kernel) | decide +kernel
theorem ef_rmxA (m : MethodId) (x1 : Int32) (y1 : Int32) : entryFrame m #[(.int x1), (.int y1)] 2 = (mkF m 0 #[iv x1, iv y1] []) := by first | (simp [entryFrame, mkF, argsToLocals, Value.category]; done) | rfl
def QxA (Z : State) (x1 : Int32) (y1 : Int32) (h0 : Heap) (n0 : Nat) (v_ : Option Value) (h_ : Heap) (L_ : List Loc) : Prop := (v_ = some (.int x1)) ∧ (Fr n0 L_) ∧ (h_ = h0)
set_option maxRecDepth 65536 in
set_option maxHeartbeats 40000000 in
theorem rmxA (l : Launch) (Z : State) (a0 : Array Value) (hw : ∀ d ∈ tables_1, d.before a0 Z = true) (ws : List Jvm.Cond) (x1 : Int32) (y1 : Int32) (h0 : Heap) (n0 : Nat) (Z0 : n0 ≤ h0.size) (h : ¬ x1 < y1) :
    MetFree l yy2 (head1 (Jvm.Cond.code yy2 jdk_29_method_65_code 2 (some .int) :: ws) rRrmxA) (fun a_ U_ => a_ = #[(.int x1), (.int y1)] ∧ Z.Warmed39 U_.vm ∧ U_.heap = h0) (fun _ _ _ _ _ => True) (fun _ U_ o_ U1_ => ∃ v_ L_, o_ = .returned v_ ∧ QxA Z x1 y1 h0 n0 v_ U1_.heap L_ ∧ FrameEnd U_ o_ U1_ L_ rRrmxA.cells rRrmxA.slots) := by
  refine MetFree.of_bodySF pn_rmxA hisR ?_
  intro p e s m args below meth c s₁ Bd hml0 hP hK
  obtain ⟨rfl, hZ, hh⟩ := hP
  have hx := Bd.exec
  have hby := Bd.bytes
  have hlk : meth.locks = false := Bd.notSynchronized
  have hml : c.maxLocals = 2 := hml0
  have hown : s.vm.findClass "java/lang/Math" = some m.cls := findClass_of_methodNamed Bd.named
  have hnm := (name_of_methodNamed Bd.named Bd.method).1
  have X0 : Stand p l e rRrmxA s m #[(.int x1), (.int y1)] below meth c s₁ [] 0 0 := Stand.of_body Bd
  have e0 : s₁.heap = h0 := by rw [← hh, Bd.state]; rfl
  have N0 := Fr.nil n0
  show own_Goes p e below s (QxA Z x1 y1 h0 n0) rRrmxA.cells rRrmxA.slots s₁ (entryFrame m #[(.int x1), (.int y1)] 2)
  rw [ef_rmxA m x1 y1]
  show own_Goes p e below s (QxA Z x1 y1 h0 n0) rRrmxA.cells rRrmxA.slots s₁ (mkF m 0 #[iv x1, iv y1] [])
  refine own_st (fun _ kk_ => XS.iloadN X0.here hx rfl (hb hby d15_0) rfl (XS.iloadN X0.here hx rfl (hb hby d15_1) rfl (XS.icmpNo X0.here hx rfl (hb hby d15_2) rfl (XT.ii_lt_f h) (XS.iloadN X0.here hx rfl (hb hby d15_5) rfl (XS.goto X0.here hx rfl (pc0 := 6) (pc' := 10) rfl (hb hby d15_6) (by decide) (by decide) kk_))))) ?_
  show own_Goes _ _ _ _ _ _ _ s₁ (mkF m 10 #[iv x1, iv y1] [(.int x1)])
  refine own_retI X0 hx hlk Bd.returns (hb hby d15_10) (by decide) (by decide) ?_
  show QxA Z x1 y1 h0 n0 (some (.int x1)) s₁.heap _
  rw [e0]
  exact ⟨rfl, N0, rfl⟩
abbrev rRrmxB : Room := { frames := 0, cells := 0, slots := 0, locals := 0 }
theorem d15_9 : decode jdk_29_method_65_code 9 = .ok (.iload_n 1, 1) := by decide +kernel
theorem pn_rmxB : plainFor yy2 = true := by first | exact plainFor_of_name (by first | (simp [plainName, overriddenIn]; done) | decide +kernel) | decide +kernel
theorem ef_rmxB (m : MethodId) (x1 : Int32) (y1 : Int32) : entryFrame m #[(.int x1), (.int y1)] 2 = (mkF m 0 #[iv x1, iv y1] []) := by first | (simp [entryFrame, mkF, argsToLocals, Value.category]; done) | rfl
def QxB (Z : State) (x1 : Int32) (y1 : Int32) (h0 : Heap) (n0 : Nat) (v_ : Option Value) (h_ : Heap) (L_ : List Loc) : Prop := (v_ = some (.int y1)) ∧ (Fr n0 L_) ∧ (h_ = h0)
set_option maxRecDepth 65536 in
set_option maxHeartbeats 40000000 in
theorem rmxB (l : Launch) (Z : State) (a0 : Array Value) (hw : ∀ d ∈ tables_1, d.before a0 Z = true) (ws : List Jvm.Cond) (x1 : Int32) (y1 : Int32) (h0 : Heap) (n0 : Nat) (Z0 : n0 ≤ h0.size) (h : x1 < y1) :
    MetFree l yy2 (head1 (Jvm.Cond.code yy2 jdk_29_method_65_code 2 (some .int) :: ws) rRrmxB) (fun a_ U_ => a_ = #[(.int x1), (.int y1)] ∧ Z.Warmed39 U_.vm ∧ U_.heap = h0) (fun _ _ _ _ _ => True) (fun _ U_ o_ U1_ => ∃ v_ L_, o_ = .returned v_ ∧ QxB Z x1 y1 h0 n0 v_ U1_.heap L_ ∧ FrameEnd U_ o_ U1_ L_ rRrmxB.cells rRrmxB.slots) := by
  refine MetFree.of_bodySF pn_rmxB hisR ?_
  intro p e s m args below meth c s₁ Bd hml0 hP hK
  obtain ⟨rfl, hZ, hh⟩ := hP
  have hx := Bd.exec
  have hby := Bd.bytes
  have hlk : meth.locks = false := Bd.notSynchronized
  have hml : c.maxLocals = 2 := hml0
  have hown : s.vm.findClass "java/lang/Math" = some m.cls := findClass_of_methodNamed Bd.named
  have hnm := (name_of_methodNamed Bd.named Bd.method).1
  have X0 : Stand p l e rRrmxB s m #[(.int x1), (.int y1)] below meth c s₁ [] 0 0 := Stand.of_body Bd
  have e0 : s₁.heap = h0 := by rw [← hh, Bd.state]; rfl
  have N0 := Fr.nil n0
  show own_Goes p e below s (QxB Z x1 y1 h0 n0) rRrmxB.cells rRrmxB.slots s₁ (entryFrame m #[(.int x1), (.int y1)] 2)
  rw [ef_rmxB m x1 y1]
  show own_Goes p e below s (QxB Z x1 y1 h0 n0) rRrmxB.cells rRrmxB.slots s₁ (mkF m 0 #[iv x1, iv y1] [])
  refine own_st (fun _ kk_ => XS.iloadN X0.here hx rfl (hb hby d15_0) rfl (XS.iloadN X0.here hx rfl (hb hby d15_1) rfl (XS.icmpYes X0.here hx rfl (pc0 := 2) (pc' := 9) rfl (hb hby d15_2) rfl (XT.ii_lt_t h) (by decide) (by decide) (XS.iloadN X0.here hx rfl (hb hby d15_9) rfl kk_)))) ?_
  show own_Goes _ _ _ _ _ _ _ s₁ (mkF m 10 #[iv x1, iv y1] [(.int y1)])
  refine own_retI X0 hx hlk Bd.returns (hb hby d15_10) (by decide) (by decide) ?_
  show QxB Z x1 y1 h0 n0 (some (.int y1)) s₁.heap _
  rw [e0]
  exact ⟨rfl, N0, rfl⟩
abbrev rRrmnA : Room := { frames := 0, cells := 0, slots := 0, locals := 0 }
theorem d17_0 : decode jdk_29_method_69_code 0 = .ok (.iload_n 0, 1) := by decide +kernel
theorem d17_1 : decode jdk_29_method_69_code 1 = .ok (.iload_n 1, 1) := by decide +kernel
theorem d17_2 : decode jdk_29_method_69_code 2 = .ok (.if_icmp .gt 7, 3) := by decide +kernel
theorem d17_5 : decode jdk_29_method_69_code 5 = .ok (.iload_n 0, 1) := by decide +kernel
theorem d17_6 : decode jdk_29_method_69_code 6 = .ok (.goto 4, 3) := by decide +kernel
theorem d17_10 : decode jdk_29_method_69_code 10 = .ok (.ireturn, 1) := by decide +kernel
theorem pn_rmnA : plainFor yy3 = true := by first | exact plainFor_of_name (by first | (simp [plainName, overriddenIn]; done) | decide +kernel) | decide +kernel
theorem ef_rmnA (m : MethodId) (x1 : Int32) (y1 : Int32) : entryFrame m #[(.int x1), (.int y1)] 2 = (mkF m 0 #[iv x1, iv y1] []) := by first | (simp [entryFrame, mkF, argsToLocals, Value.category]; done) | rfl
def QnA (Z : State) (x1 : Int32) (y1 : Int32) (h0 : Heap) (n0 : Nat) (v_ : Option Value) (h_ : Heap) (L_ : List Loc) : Prop := (v_ = some (.int x1)) ∧ (Fr n0 L_) ∧ (h_ = h0)
set_option maxRecDepth 65536 in
set_option maxHeartbeats 40000000 in
theorem rmnA (l : Launch) (Z : State) (a0 : Array Value) (hw : ∀ d ∈ tables_1, d.before a0 Z = true) (ws : List Jvm.Cond) (x1 : Int32) (y1 : Int32) (h0 : Heap) (n0 : Nat) (Z0 : n0 ≤ h0.size) (h : ¬ y1 < x1) :
    MetFree l yy3 (head1 (Jvm.Cond.code yy3 jdk_29_method_69_code 2 (some .int) :: ws) rRrmnA) (fun a_ U_ => a_ = #[(.int x1), (.int y1)] ∧ Z.Warmed39 U_.vm ∧ U_.heap = h0) (fun _ _ _ _ _ => True) (fun _ U_ o_ U1_ => ∃ v_ L_, o_ = .returned v_ ∧ QnA Z x1 y1 h0 n0 v_ U1_.heap L_ ∧ FrameEnd U_ o_ U1_ L_ rRrmnA.cells rRrmnA.slots) := by
  refine MetFree.of_bodySF pn_rmnA hisR ?_
  intro p e s m args below meth c s₁ Bd hml0 hP hK
  obtain ⟨rfl, hZ, hh⟩ := hP
  have hx := Bd.exec
  have hby := Bd.bytes
  have hlk : meth.locks = false := Bd.notSynchronized
  have hml : c.maxLocals = 2 := hml0
  have hown : s.vm.findClass "java/lang/Math" = some m.cls := findClass_of_methodNamed Bd.named
  have hnm := (name_of_methodNamed Bd.named Bd.method).1
  have X0 : Stand p l e rRrmnA s m #[(.int x1), (.int y1)] below meth c s₁ [] 0 0 := Stand.of_body Bd
  have e0 : s₁.heap = h0 := by rw [← hh, Bd.state]; rfl
  have N0 := Fr.nil n0
  show own_Goes p e below s (QnA Z x1 y1 h0 n0) rRrmnA.cells rRrmnA.slots s₁ (entryFrame m #[(.int x1), (.int y1)] 2)
  rw [ef_rmnA m x1 y1]
  show own_Goes p e below s (QnA Z x1 y1 h0 n0) rRrmnA.cells rRrmnA.slots s₁ (mkF m 0 #[iv x1, iv y1] [])
  refine own_st (fun _ kk_ => XS.iloadN X0.here hx rfl (hb hby d17_0) rfl (XS.iloadN X0.here hx rfl (hb hby d17_1) rfl (XS.icmpNo X0.here hx rfl (hb hby d17_2) rfl (XT.ii_gt_f h) (XS.iloadN X0.here hx rfl (hb hby d17_5) rfl (XS.goto X0.here hx rfl (pc0 := 6) (pc' := 10) rfl (hb hby d17_6) (by decide) (by decide) kk_))))) ?_
  show own_Goes _ _ _ _ _ _ _ s₁ (mkF m 10 #[iv x1, iv y1] [(.int x1)])
  refine own_retI X0 hx hlk Bd.returns (hb hby d17_10) (by decide) (by decide) ?_
  show QnA Z x1 y1 h0 n0 (some (.int x1)) s₁.heap _
  rw [e0]
  exact ⟨rfl, N0, rfl⟩
abbrev rRrmnB : Room := { frames := 0, cells := 0, slots := 0, locals := 0 }
theorem d17_9 : decode jdk_29_method_69_code 9 = .ok (.iload_n 1, 1) := by decide +kernel
theorem pn_rmnB : plainFor yy3 = true := by first | exact plainFor_of_name (by first | (simp [plainName, overriddenIn]; done) | decide +kernel) | decide +kernel
theorem ef_rmnB (m : MethodId) (x1 : Int32) (y1 : Int32) : entryFrame m #[(.int x1), (.int y1)] 2 = (mkF m 0 #[iv x1, iv y1] []) := by first | (simp [entryFrame, mkF, argsToLocals, Value.category]; done) | rfl
def QnB (Z : State) (x1 : Int32) (y1 : Int32) (h0 : Heap) (n0 : Nat) (v_ : Option Value) (h_ : Heap) (L_ : List Loc) : Prop := (v_ = some (.int y1)) ∧ (Fr n0 L_) ∧ (h_ = h0)
set_option maxRecDepth 65536 in
set_option maxHeartbeats 40000000 in
theorem rmnB (l : Launch) (Z : State) (a0 : Array Value) (hw : ∀ d ∈ tables_1, d.before a0 Z = true) (ws : List Jvm.Cond) (x1 : Int32) (y1 : Int32) (h0 : Heap) (n0 : Nat) (Z0 : n0 ≤ h0.size) (h : y1 < x1) :
    MetFree l yy3 (head1 (Jvm.Cond.code yy3 jdk_29_method_69_code 2 (some .int) :: ws) rRrmnB) (fun a_ U_ => a_ = #[(.int x1), (.int y1)] ∧ Z.Warmed39 U_.vm ∧ U_.heap = h0) (fun _ _ _ _ _ => True) (fun _ U_ o_ U1_ => ∃ v_ L_, o_ = .returned v_ ∧ QnB Z x1 y1 h0 n0 v_ U1_.heap L_ ∧ FrameEnd U_ o_ U1_ L_ rRrmnB.cells rRrmnB.slots) := by
  refine MetFree.of_bodySF pn_rmnB hisR ?_
  intro p e s m args below meth c s₁ Bd hml0 hP hK
  obtain ⟨rfl, hZ, hh⟩ := hP
  have hx := Bd.exec
  have hby := Bd.bytes
  have hlk : meth.locks = false := Bd.notSynchronized
  have hml : c.maxLocals = 2 := hml0
  have hown : s.vm.findClass "java/lang/Math" = some m.cls := findClass_of_methodNamed Bd.named
  have hnm := (name_of_methodNamed Bd.named Bd.method).1
  have X0 : Stand p l e rRrmnB s m #[(.int x1), (.int y1)] below meth c s₁ [] 0 0 := Stand.of_body Bd
  have e0 : s₁.heap = h0 := by rw [← hh, Bd.state]; rfl
  have N0 := Fr.nil n0
  show own_Goes p e below s (QnB Z x1 y1 h0 n0) rRrmnB.cells rRrmnB.slots s₁ (entryFrame m #[(.int x1), (.int y1)] 2)
  rw [ef_rmnB m x1 y1]
  show own_Goes p e below s (QnB Z x1 y1 h0 n0) rRrmnB.cells rRrmnB.slots s₁ (mkF m 0 #[iv x1, iv y1] [])
  refine own_st (fun _ kk_ => XS.iloadN X0.here hx rfl (hb hby d17_0) rfl (XS.iloadN X0.here hx rfl (hb hby d17_1) rfl (XS.icmpYes X0.here hx rfl (pc0 := 2) (pc' := 9) rfl (hb hby d17_2) rfl (XT.ii_gt_t h) (by decide) (by decide) (XS.iloadN X0.here hx rfl (hb hby d17_9) rfl kk_)))) ?_
  show own_Goes _ _ _ _ _ _ _ s₁ (mkF m 10 #[iv x1, iv y1] [(.int y1)])
  refine own_retI X0 hx hlk Bd.returns (hb hby d17_10) (by decide) (by decide) ?_
  show QnB Z x1 y1 h0 n0 (some (.int y1)) s₁.heap _
  rw [e0]
  exact ⟨rfl, N0, rfl⟩
abbrev rRrm2 : Room := { frames := 1, cells := 0, slots := 0, locals := 12 }
theorem d2_0 : decode jdk_30_method_1_code 0 = .ok (.aload_n 0, 1) := by decide +kernel
theorem d2_1 : decode jdk_30_method_1_code 1 = .ok (.invokespecial 1, 3) := by decide +kernel
theorem d2_4 : decode jdk_30_method_1_code 4 = .ok (.return_, 1) := by decide +kernel
theorem pn_rm2 : plainFor yy4 = true := by first | exact plainFor_of_name (by first | (simp [plainName, overriddenIn]; done) | decide +kernel) | decide +kernel
theorem ef_rm2 (m : MethodId) (de : Addr) : entryFrame m #[(.ref de)] 1 = (mkF m 0 #[rv de] []) := by first | (simp [entryFrame, mkF, argsToLocals, Value.category]; done) | rfl
def Q2 (Z : State) (de : Addr) (h0 : Heap) (n0 : Nat) (v_ : Option Value) (h_ : Heap) (L_ : List Loc) : Prop := (v_ = none) ∧ (Fr n0 L_) ∧ (h_ = h0)
set_option maxRecDepth 65536 in
set_option maxHeartbeats 40000000 in
theorem rm2 (l : Launch) (Z : State) (a0 : Array Value) (hw : ∀ d ∈ tables_1, d.before a0 Z = true) (ws : List Jvm.Cond) (de : Addr) (h0 : Heap) (n0 : Nat) (Z0 : n0 ≤ h0.size) (p_0 : Exa Z h0 de "com/example/firm_duties/firmduties/Decision") :
    MetFree l yy4 (head1 (Jvm.Cond.code yy4 jdk_30_method_1_code 1 none :: ws) rRrm2) (fun a_ U_ => a_ = #[(.ref de)] ∧ Z.Warmed39 U_.vm ∧ U_.heap = h0) (fun _ _ _ _ _ => True) (fun _ U_ o_ U1_ => ∃ v_ L_, o_ = .returned v_ ∧ Q2 Z de h0 n0 v_ U1_.heap L_ ∧ FrameEnd U_ o_ U1_ L_ rRrm2.cells rRrm2.slots) := by
  refine MetFree.of_bodySF pn_rm2 hisR ?_
  intro p e s m args below meth c s₁ Bd hml0 hP hK
  obtain ⟨rfl, hZ, hh⟩ := hP
  have hx := Bd.exec
  have hby := Bd.bytes
  have hlk : meth.locks = false := Bd.notSynchronized
  have hml : c.maxLocals = 1 := hml0
  have hown : s.vm.findClass "java/lang/Record" = some m.cls := findClass_of_methodNamed Bd.named
  have hnm := (name_of_methodNamed Bd.named Bd.method).1
  have X0 : Stand p l e rRrm2 s m #[(.ref de)] below meth c s₁ [] 0 0 := Stand.of_body Bd
  have e0 : s₁.heap = h0 := by rw [← hh, Bd.state]; rfl
  have N0 := Fr.nil n0
  show own_Goes p e below s (Q2 Z de h0 n0) rRrm2.cells rRrm2.slots s₁ (entryFrame m #[(.ref de)] 1)
  rw [ef_rm2 m de]
  show own_Goes p e below s (Q2 Z de h0 n0) rRrm2.cells rRrm2.slots s₁ (mkF m 0 #[rv de] [])
  refine own_st (fun _ kk_ => XS.aloadN X0.here hx rfl (hb hby d2_0) rfl rfl kk_) ?_
  show own_Goes _ _ _ _ _ _ _ s₁ (mkF m 1 #[rv de] [(.ref de)])
  obtain ⟨T1, X1, e1, st1⟩ := initO X0 hx hZ hown (own_w hw 11 rfl) (own_w hw 12 rfl) (own_w hw 13 rfl) e0 (g := (mkF m 1 #[rv de] [(.ref de)])) rfl (by rw [hml]; rfl) rfl (hb hby d2_1) (by decide) (W := 0) (by show 2 * 0 + _ ≤ _; exact Nat.le_of_eq rfl) (by decide)
  refine own_st st1 ?_
  show own_Goes _ _ _ _ _ _ _ T1 (mkF m 4 #[rv de] [])
  refine own_ret0 X1 hx hlk Bd.returns (hb hby d2_4) (by decide) (by decide) ?_
  show Q2 Z de h0 n0 none T1.heap _
  rw [e1]
  exact ⟨rfl, N0, rfl⟩
abbrev rRrmDg : Room := { frames := 2, cells := 0, slots := 0, locals := 24 }
theorem d1_0 : decode prog_4_method_1_code 0 = .ok (.aload_n 0, 1) := by decide +kernel
theorem d1_1 : decode prog_4_method_1_code 1 = .ok (.invokespecial 1, 3) := by decide +kernel
theorem d1_4 : decode prog_4_method_1_code 4 = .ok (.iload_n 1, 1) := by decide +kernel
theorem d1_5 : decode prog_4_method_1_code 5 = .ok (.aload_n 2, 1) := by decide +kernel
theorem d1_6 : decode prog_4_method_1_code 6 = .ok (.ifnonnull 7, 3) := by decide +kernel
theorem d1_9 : decode prog_4_method_1_code 9 = .ok (.iconst 1, 1) := by decide +kernel
theorem d1_10 : decode prog_4_method_1_code 10 = .ok (.goto 4, 3) := by decide +kernel
theorem d1_14 : decode prog_4_method_1_code 14 = .ok (.if_icmp .eq 13, 3) := by decide +kernel
theorem d1_27 : decode prog_4_method_1_code 27 = .ok (.aload_n 0, 1) := by decide +kernel
theorem d1_28 : decode prog_4_method_1_code 28 = .ok (.iload_n 1, 1) := by decide +kernel
theorem d1_29 : decode prog_4_method_1_code 29 = .ok (.putfield 14, 3) := by decide +kernel
theorem d1_32 : decode prog_4_method_1_code 32 = .ok (.aload_n 0, 1) := by decide +kernel
theorem d1_33 : decode prog_4_method_1_code 33 = .ok (.aload_n 2, 1) := by decide +kernel
theorem d1_34 : decode prog_4_method_1_code 34 = .ok (.putfield 20, 3) := by decide +kernel
theorem d1_37 : decode prog_4_method_1_code 37 = .ok (.return_, 1) := by decide +kernel
theorem pd_1 : parseMethodDescriptor "()V" = some ⟨[], none⟩ := by decide +kernel
theorem pn_rmDg : plainFor yy5 = true := by first | exact plainFor_of_name (by first | (simp [plainName, overriddenIn]; done) | decide +kernel) | decide +kernel
theorem ef_rmDg (m : MethodId) (de : Addr) : entryFrame m #[(.ref de), (.int (1 : Int32)), .null] 3 = (mkF m 0 #[rv de, iv (1 : Int32), .val .null] []) := by first | (simp [entryFrame, mkF, argsToLocals, Value.category]; done) | rfl
def QDg (Z : State) (de : Addr) (h0 : Heap) (n0 : Nat) (v_ : Option Value) (h_ : Heap) (L_ : List Loc) : Prop := (v_ = none) ∧ (Fr n0 L_) ∧ (Keep h0 h_ [de]) ∧ (Exa Z h_ de "com/example/firm_duties/firmduties/Decision") ∧ (Fld Z h_ de "com/example/firm_duties/firmduties/Decision" "granted" "Z" (.int (1 : Int32))) ∧ (Fld Z h_ de "com/example/firm_duties/firmduties/Decision" "reason" "Lcom/example/firm_duties/firmduties/Decision$Reason;" .null)
set_option maxRecDepth 65536 in
set_option maxHeartbeats 40000000 in
theorem rmDg (l : Launch) (Z : State) (a0 : Array Value) (hw : ∀ d ∈ tables_1, d.before a0 Z = true) (ws : List Jvm.Cond) (de : Addr) (h0 : Heap) (n0 : Nat) (Z0 : n0 ≤ h0.size) (p_0 : Exa Z h0 de "com/example/firm_duties/firmduties/Decision") (p_1 : Fld Z h0 de "com/example/firm_duties/firmduties/Decision" "granted" "Z" (.int (0 : Int32))) (p_2 : Fld Z h0 de "com/example/firm_duties/firmduties/Decision" "reason" "Lcom/example/firm_duties/firmduties/Decision$Reason;" .null) (p_3 : n0 ≤ de) :
    MetFree l yy5 (head1 (Jvm.Cond.code yy5 prog_4_method_1_code 3 none :: ws) rRrmDg) (fun a_ U_ => a_ = #[(.ref de), (.int (1 : Int32)), .null] ∧ Z.Warmed39 U_.vm ∧ U_.heap = h0) (fun _ _ _ _ _ => True) (fun _ U_ o_ U1_ => ∃ v_ L_, o_ = .returned v_ ∧ QDg Z de h0 n0 v_ U1_.heap L_ ∧ FrameEnd U_ o_ U1_ L_ rRrmDg.cells rRrmDg.slots) := by
  refine MetFree.of_bodySF pn_rmDg hisR ?_
  intro p e s m args below meth c s₁ Bd hml0 hP hK
  obtain ⟨rfl, hZ, hh⟩ := hP
  have hx := Bd.exec
  have hby := Bd.bytes
  have hlk : meth.locks = false := Bd.notSynchronized
  have hml : c.maxLocals = 3 := hml0
  have hown : s.vm.findClass "com/example/firm_duties/firmduties/Decision" = some m.cls := findClass_of_methodNamed Bd.named
  have hnm := (name_of_methodNamed Bd.named Bd.method).1
  have X0 : Stand p l e rRrmDg s m #[(.ref de), (.int (1 : Int32)), .null] below meth c s₁ [] 0 0 := Stand.of_body Bd
  have e0 : s₁.heap = h0 := by rw [← hh, Bd.state]; rfl
  have N0 := Fr.nil n0
  show own_Goes p e below s (QDg Z de h0 n0) rRrmDg.cells rRrmDg.slots s₁ (entryFrame m #[(.ref de), (.int (1 : Int32)), .null] 3)
  rw [ef_rmDg m de]
  show own_Goes p e below s (QDg Z de h0 n0) rRrmDg.cells rRrmDg.slots s₁ (mkF m 0 #[rv de, iv (1 : Int32), .val .null] [])
  refine own_st (fun _ kk_ => XS.aloadN X0.here hx rfl (hb hby d1_0) rfl rfl kk_) ?_
  show own_Goes _ _ _ _ _ _ _ s₁ (mkF m 1 #[rv de, iv (1 : Int32), .val .null] [(.ref de)])
  obtain ⟨_, _, ⟨T1, L1, k1, n1⟩, -, X1, ⟨Lc1, hQ1, l1, y1, z1⟩, st1⟩ := X0.specialBack hx (y := yy4) rfl hown (mvT hZ (own_w hw 6 rfl)) (mvT hZ (own_w hw 7 rfl)) (mvT hZ (own_w hw 10 rfl)) (by decide) (backOf (W := 0) (rm2 l Z a0 hw [] (de) h0 n0 Z0 p_0) hZ (own_w hw 10 rfl) (own_w hw 9 rfl) (by decide) (by decide)) (g := (mkF m 1 #[rv de, iv (1 : Int32), .val .null] [(.ref de)])) rfl (by rw [hml]; rfl) (Steps.refl _) (a := de) (argsL := []) (rest := []) (lenOf pd_1 rfl) rfl (by show 2 * 0 + _ ≤ _; exact Nat.le_of_eq rfl) (hb hby d1_1) (fun _ _ => ⟨rfl, e0, (by decide : 0 + 0 ≤ _), (by decide : 0 + 0 ≤ _)⟩)
  dsimp only [Pt.U, Pt.locs, Pt.cells, Pt.slots] at X1 l1 y1 z1 st1 hQ1
  subst l1 y1 z1
  obtain ⟨rfl, Nq1, eq1⟩ := hQ1
  have N1 := Fr.app N0 Nq1
  refine own_st (fun _ kk_ => st1.trans kk_) ?_
  show own_Goes _ _ _ _ _ _ _ T1 (mkF m 4 #[rv de, iv (1 : Int32), .val .null] [])
  refine own_st (fun _ kk_ => XS.iloadN X1.here hx rfl (hb hby d1_4) rfl (XS.aloadN X1.here hx rfl (hb hby d1_5) rfl rfl (XS.ifnonnullNo X1.here hx rfl (hb hby d1_6) rfl (XS.iconst X1.here hx rfl (hb hby d1_9) (XS.goto X1.here hx rfl (pc0 := 10) (pc' := 14) rfl (hb hby d1_10) (by decide) (by decide) (XS.icmpYes X1.here hx rfl (pc0 := 14) (pc' := 27) rfl (hb hby d1_14) rfl (XT.ii_eq_t (by decide)) (by decide) (by decide) (XS.aloadN X1.here hx rfl (hb hby d1_27) rfl rfl (XS.iloadN X1.here hx rfl (hb hby d1_28) rfl kk_)))))))) ?_
  show own_Goes _ _ _ _ _ _ _ T1 (mkF m 29 #[rv de, iv (1 : Int32), .val .null] [(.int (1 : Int32)), (.ref de)])
  obtain ⟨T2, h2, X2, e2, W2, st2⟩ := putFN X1 hx hZ hown (own_w hw 14 rfl) Via.refl eq1 p_1 p_0 (Or.inr ⟨(own_w hw 15 rfl), rfl, hnm⟩) (own_w hw 1 rfl) (ty := .boolean) (v' := (.int (nar .boolean (1 : Int32)))) (by decide) rfl (fits_nar_bool _) (g := (mkF m 29 #[rv de, iv (1 : Int32), .val .null] [(.int (1 : Int32)), (.ref de)])) rfl rfl (hb hby d1_29)
  have fw2 : Fld Z h2 de "com/example/firm_duties/firmduties/Decision" "granted" "Z" (.int (nar .boolean (1 : Int32))) := p_1.same W2
  have f2_0 := p_0.wr W2
  have f2_2 := p_2.other W2 (Or.inr (slot_ne (Or.inr (own_w hw 17 rfl)) (Or.inr (own_w hw 15 rfl)) (by decide) (t := (.object "com/example/firm_duties/firmduties/Decision$Reason")) (t' := .boolean) (by decide) (by decide)))
  have Zs2 : n0 ≤ h2.size := Nat.le_trans Z0 (Nat.le_of_eq W2.size.symm)
  have K2 := (Keep.refl h0 [de]).wr W2 (Or.inl (List.mem_of_getElem? (i := 0) rfl))
  have N2 := Fr.snoc X2 N1 p_3
  refine own_st st2 ?_
  show own_Goes _ _ _ _ _ _ _ T2 (mkF m 32 #[rv de, iv (1 : Int32), .val .null] [])
  refine own_st (fun _ kk_ => XS.aloadN X2.here hx rfl (hb hby d1_32) rfl rfl (XS.aloadN X2.here hx rfl (hb hby d1_33) rfl rfl kk_)) ?_
  show own_Goes _ _ _ _ _ _ _ T2 (mkF m 34 #[rv de, iv (1 : Int32), .val .null] [.null, (.ref de)])
  obtain ⟨T3, h3, X3, e3, W3, st3⟩ := putF X2 hx hZ hown (host := "") (Or.inl (own_w hw 16 rfl)) Via.refl e2 f2_2 f2_0 (Or.inr ⟨(own_w hw 17 rfl), rfl, hnm⟩) (own_w hw 1 rfl) (ty := (.object "com/example/firm_duties/firmduties/Decision$Reason")) (by decide) rfl rfl (g := (mkF m 34 #[rv de, iv (1 : Int32), .val .null] [.null, (.ref de)])) rfl rfl (hb hby d1_34)
  have fw3 : Fld Z h3 de "com/example/firm_duties/firmduties/Decision" "reason" "Lcom/example/firm_duties/firmduties/Decision$Reason;" .null := f2_2.same W3
  have f3_0 := f2_0.wr W3
  have f3_2 := fw2.other W3 (Or.inr (slot_ne (Or.inr (own_w hw 15 rfl)) (Or.inr (own_w hw 17 rfl)) (by decide) (t := .boolean) (t' := (.object "com/example/firm_duties/firmduties/Decision$Reason")) (by decide) (by decide)))
  have Zs3 : n0 ≤ h3.size := Nat.le_trans Zs2 (Nat.le_of_eq W3.size.symm)
  have K3 := K2.wr W3 (Or.inl (List.mem_of_getElem? (i := 0) rfl))
  have N3 := Fr.snoc X3 N2 p_3
  refine own_st st3 ?_
  show own_Goes _ _ _ _ _ _ _ T3 (mkF m 37 #[rv de, iv (1 : Int32), .val .null] [])
  refine own_ret0 X3 hx hlk Bd.returns (hb hby d1_37) (by decide) (by decide) ?_
  show QDg Z de h0 n0 none T3.heap _
  rw [e3]
  exact ⟨rfl, N3, K3, f3_0, f3_2, fw3⟩
abbrev rRrmDd : Room := { frames := 2, cells := 0, slots := 0, locals := 24 }
theorem d1_13 : decode prog_4_method_1_code 13 = .ok (.iconst 0, 1) := by decide +kernel
theorem pn_rmDd : plainFor yy5 = true := by first | exact plainFor_of_name (by first | (simp [plainName, overriddenIn]; done) | decide +kernel) | decide +kernel
theorem ef_rmDd (m : MethodId) (de : Addr) (ro : Addr) : entryFrame m #[(.ref de), (.int (0 : Int32)), (.ref ro)] 3 = (mkF m 0 #[rv de, iv (0 : Int32), rv ro] []) := by first | (simp [entryFrame, mkF, argsToLocals, Value.category]; done) | rfl
def QDd (Z : State) (de : Addr) (ro : Addr) (h0 : Heap) (n0 : Nat) (v_ : Option Value) (h_ : Heap) (L_ : List Loc) : Prop := (v_ = none) ∧ (Fr n0 L_) ∧ (Keep h0 h_ [de]) ∧ (Exa Z h_ de "com/example/firm_duties/firmduties/Decision") ∧ (Fld Z h_ de "com/example/firm_duties/firmduties/Decision" "granted" "Z" (.int (0 : Int32))) ∧ (Fld Z h_ de "com/example/firm_duties/firmduties/Decision" "reason" "Lcom/example/firm_duties/firmduties/Decision$Reason;" (.ref ro))
set_option maxRecDepth 65536 in
set_option maxHeartbeats 40000000 in
theorem rmDd (l : Launch) (Z : State) (a0 : Array Value) (hw : ∀ d ∈ tables_1, d.before a0 Z = true) (ws : List Jvm.Cond) (de : Addr) (ro : Addr) (h0 : Heap) (n0 : Nat) (Z0 : n0 ≤ h0.size) (p_0 : Exa Z h0 de "com/example/firm_duties/firmduties/Decision") (p_1 : Fld Z h0 de "com/example/firm_duties/firmduties/Decision" "granted" "Z" (.int (0 : Int32))) (p_2 : Fld Z h0 de "com/example/firm_duties/firmduties/Decision" "reason" "Lcom/example/firm_duties/firmduties/Decision$Reason;" .null) (p_3 : n0 ≤ de) :
    MetFree l yy5 (head1 (Jvm.Cond.code yy5 prog_4_method_1_code 3 none :: ws) rRrmDd) (fun a_ U_ => a_ = #[(.ref de), (.int (0 : Int32)), (.ref ro)] ∧ Z.Warmed39 U_.vm ∧ U_.heap = h0) (fun _ _ _ _ _ => True) (fun _ U_ o_ U1_ => ∃ v_ L_, o_ = .returned v_ ∧ QDd Z de ro h0 n0 v_ U1_.heap L_ ∧ FrameEnd U_ o_ U1_ L_ rRrmDd.cells rRrmDd.slots) := by
  refine MetFree.of_bodySF pn_rmDd hisR ?_
  intro p e s m args below meth c s₁ Bd hml0 hP hK
  obtain ⟨rfl, hZ, hh⟩ := hP
  have hx := Bd.exec
  have hby := Bd.bytes
  have hlk : meth.locks = false := Bd.notSynchronized
  have hml : c.maxLocals = 3 := hml0
  have hown : s.vm.findClass "com/example/firm_duties/firmduties/Decision" = some m.cls := findClass_of_methodNamed Bd.named
  have hnm := (name_of_methodNamed Bd.named Bd.method).1
  have X0 : Stand p l e rRrmDd s m #[(.ref de), (.int (0 : Int32)), (.ref ro)] below meth c s₁ [] 0 0 := Stand.of_body Bd
  have e0 : s₁.heap = h0 := by rw [← hh, Bd.state]; rfl
  have N0 := Fr.nil n0
  show own_Goes p e below s (QDd Z de ro h0 n0) rRrmDd.cells rRrmDd.slots s₁ (entryFrame m #[(.ref de), (.int (0 : Int32)), (.ref ro)] 3)
  rw [ef_rmDd m de ro]
  show own_Goes p e below s (QDd Z de ro h0 n0) rRrmDd.cells rRrmDd.slots s₁ (mkF m 0 #[rv de, iv (0 : Int32), rv ro] [])
  refine own_st (fun _ kk_ => XS.aloadN X0.here hx rfl (hb hby d1_0) rfl rfl kk_) ?_
  show own_Goes _ _ _ _ _ _ _ s₁ (mkF m 1 #[rv de, iv (0 : Int32), rv ro] [(.ref de)])
  obtain ⟨_, _, ⟨T1, L1, k1, n1⟩, -, X1, ⟨Lc1, hQ1, l1, y1, z1⟩, st1⟩ := X0.specialBack hx (y := yy4) rfl hown (mvT hZ (own_w hw 6 rfl)) (mvT hZ (own_w hw 7 rfl)) (mvT hZ (own_w hw 10 rfl)) (by decide) (backOf (W := 0) (rm2 l Z a0 hw [] (de) h0 n0 Z0 p_0) hZ (own_w hw 10 rfl) (own_w hw 9 rfl) (by decide) (by decide)) (g := (mkF m 1 #[rv de, iv (0 : Int32), rv ro] [(.ref de)])) rfl (by rw [hml]; rfl) (Steps.refl _) (a := de) (argsL := []) (rest := []) (lenOf pd_1 rfl) rfl (by show 2 * 0 + _ ≤ _; exact Nat.le_of_eq rfl) (hb hby d1_1) (fun _ _ => ⟨rfl, e0, (by decide : 0 + 0 ≤ _), (by decide : 0 + 0 ≤ _)⟩)
  dsimp only [Pt.U, Pt.locs, Pt.cells, Pt.slots] at X1 l1 y1 z1 st1 hQ1
  subst l1 y1 z1
  obtain ⟨rfl, Nq1, eq1⟩ := hQ1
  have N1 := Fr.app N0 Nq1
  refine own_st (fun _ kk_ => st1.trans kk_) ?_
  show own_Goes _ _ _ _ _ _ _ T1 (mkF m 4 #[rv de, iv (0 : Int32), rv ro] [])
  refine own_st (fun _ kk_ => XS.iloadN X1.here hx rfl (hb hby d1_4) rfl (XS.aloadN X1.here hx rfl (hb hby d1_5) rfl rfl (XS.ifnonnullYes X1.here hx rfl (pc0 := 6) (pc' := 13) rfl (hb hby d1_6) rfl (by decide) (by decide) (XS.iconst X1.here hx rfl (hb hby d1_13) (XS.icmpYes X1.here hx rfl (pc0 := 14) (pc' := 27) rfl (hb hby d1_14) rfl (XT.ii_eq_t (by decide)) (by decide) (by decide) (XS.aloadN X1.here hx rfl (hb hby d1_27) rfl rfl (XS.iloadN X1.here hx rfl (hb hby d1_28) rfl kk_))))))) ?_
  show own_Goes _ _ _ _ _ _ _ T1 (mkF m 29 #[rv de, iv (0 : Int32), rv ro] [(.int (0 : Int32)), (.ref de)])
  obtain ⟨T2, h2, X2, e2, W2, st2⟩ := putFN X1 hx hZ hown (own_w hw 14 rfl) Via.refl eq1 p_1 p_0 (Or.inr ⟨(own_w hw 15 rfl), rfl, hnm⟩) (own_w hw 1 rfl) (ty := .boolean) (v' := (.int (nar .boolean (0 : Int32)))) (by decide) rfl (fits_nar_bool _) (g := (mkF m 29 #[rv de, iv (0 : Int32), rv ro] [(.int (0 : Int32)), (.ref de)])) rfl rfl (hb hby d1_29)
  have fw2 : Fld Z h2 de "com/example/firm_duties/firmduties/Decision" "granted" "Z" (.int (nar .boolean (0 : Int32))) := p_1.same W2
  have f2_0 := p_0.wr W2
  have f2_2 := p_2.other W2 (Or.inr (slot_ne (Or.inr (own_w hw 17 rfl)) (Or.inr (own_w hw 15 rfl)) (by decide) (t := (.object "com/example/firm_duties/firmduties/Decision$Reason")) (t' := .boolean) (by decide) (by decide)))
  have Zs2 : n0 ≤ h2.size := Nat.le_trans Z0 (Nat.le_of_eq W2.size.symm)
  have K2 := (Keep.refl h0 [de]).wr W2 (Or.inl (List.mem_of_getElem? (i := 0) rfl))
  have N2 := Fr.snoc X2 N1 p_3
  refine own_st st2 ?_
  show own_Goes _ _ _ _ _ _ _ T2 (mkF m 32 #[rv de, iv (0 : Int32), rv ro] [])
  refine own_st (fun _ kk_ => XS.aloadN X2.here hx rfl (hb hby d1_32) rfl rfl (XS.aloadN X2.here hx rfl (hb hby d1_33) rfl rfl kk_)) ?_
  show own_Goes _ _ _ _ _ _ _ T2 (mkF m 34 #[rv de, iv (0 : Int32), rv ro] [(.ref ro), (.ref de)])
  obtain ⟨T3, h3, X3, e3, W3, st3⟩ := putF X2 hx hZ hown (host := "") (Or.inl (own_w hw 16 rfl)) Via.refl e2 f2_2 f2_0 (Or.inr ⟨(own_w hw 17 rfl), rfl, hnm⟩) (own_w hw 1 rfl) (ty := (.object "com/example/firm_duties/firmduties/Decision$Reason")) (by decide) rfl rfl (g := (mkF m 34 #[rv de, iv (0 : Int32), rv ro] [(.ref ro), (.ref de)])) rfl rfl (hb hby d1_34)
  have fw3 : Fld Z h3 de "com/example/firm_duties/firmduties/Decision" "reason" "Lcom/example/firm_duties/firmduties/Decision$Reason;" (.ref ro) := f2_2.same W3
  have f3_0 := f2_0.wr W3
  have f3_2 := fw2.other W3 (Or.inr (slot_ne (Or.inr (own_w hw 15 rfl)) (Or.inr (own_w hw 17 rfl)) (by decide) (t := .boolean) (t' := (.object "com/example/firm_duties/firmduties/Decision$Reason")) (by decide) (by decide)))
  have Zs3 : n0 ≤ h3.size := Nat.le_trans Zs2 (Nat.le_of_eq W3.size.symm)
  have K3 := K2.wr W3 (Or.inl (List.mem_of_getElem? (i := 0) rfl))
  have N3 := Fr.snoc X3 N2 p_3
  refine own_st st3 ?_
  show own_Goes _ _ _ _ _ _ _ T3 (mkF m 37 #[rv de, iv (0 : Int32), rv ro] [])
  refine own_ret0 X3 hx hlk Bd.returns (hb hby d1_37) (by decide) (by decide) ?_
  show QDd Z de ro h0 n0 none T3.heap _
  rw [e3]
  exact ⟨rfl, N3, K3, f3_0, f3_2, fw3⟩
abbrev rRrm7 : Room := { frames := 1, cells := 1, slots := 16, locals := 12 }
theorem d7_0 : decode jdk_68_method_2_code 0 = .ok (.aload_n 0, 1) := by decide +kernel
theorem d7_1 : decode jdk_68_method_2_code 1 = .ok (.invokespecial 3, 3) := by decide +kernel
theorem d7_4 : decode jdk_68_method_2_code 4 = .ok (.getstatic 18, 3) := by decide +kernel
theorem d7_7 : decode jdk_68_method_2_code 7 = .ok (.ifCond .eq 18, 3) := by decide +kernel
theorem d7_10 : decode jdk_68_method_2_code 10 = .ok (.aload_n 0, 1) := by decide +kernel
theorem d7_11 : decode jdk_68_method_2_code 11 = .ok (.iload_n 1, 1) := by decide +kernel
theorem d7_12 : decode jdk_68_method_2_code 12 = .ok (.newarray .byte, 2) := by decide +kernel
theorem d7_14 : decode jdk_68_method_2_code 14 = .ok (.putfield 15, 3) := by decide +kernel
theorem d7_17 : decode jdk_68_method_2_code 17 = .ok (.aload_n 0, 1) := by decide +kernel
theorem d7_18 : decode jdk_68_method_2_code 18 = .ok (.iconst 0, 1) := by decide +kernel
theorem d7_19 : decode jdk_68_method_2_code 19 = .ok (.putfield 22, 3) := by decide +kernel
theorem d7_22 : decode jdk_68_method_2_code 22 = .ok (.goto 16, 3) := by decide +kernel
theorem d7_38 : decode jdk_68_method_2_code 38 = .ok (.return_, 1) := by decide +kernel
theorem pn_rm7 : plainFor yy6 = true := by first | exact plainFor_of_name (by first | (simp [plainName, overriddenIn]; done) | decide +kernel) | decide +kernel
theorem ef_rm7 (m : MethodId) (o : Addr) : entryFrame m #[(.ref o), (.int (16 : Int32))] 2 = (mkF m 0 #[rv o, iv (16 : Int32)] []) := by first | (simp [entryFrame, mkF, argsToLocals, Value.category]; done) | rfl
def Q7 (Z : State) (o : Addr) (cs : Int32) (h0 : Heap) (n0 : Nat) (v_ : Option Value) (h_ : Heap) (L_ : List Loc) : Prop := ∃ y : Addr, ∃ ky : ClassId, (v_ = none) ∧ (Fr n0 L_) ∧ (Keep h0 h_ [o]) ∧ (h0.size ≤ y) ∧ (Exa Z h_ o "java/lang/StringBuilder") ∧ (Fld Z h_ o "java/lang/AbstractStringBuilder" "value" "[B" (.ref y)) ∧ (Fld Z h_ o "java/lang/AbstractStringBuilder" "coder" "B" (.int (0 : Int32))) ∧ (Fld Z h_ o "java/lang/AbstractStringBuilder" "count" "I" (.int (0 : Int32))) ∧ (Arv Z h_ y ky .byte (16 : Int32) own_z16 (.int (0 : Int32)))
set_option maxRecDepth 65536 in
set_option maxHeartbeats 40000000 in
theorem rm7 (l : Launch) (Z : State) (a0 : Array Value) (hw : ∀ d ∈ tables_1, d.before a0 Z = true) (ws : List Jvm.Cond) (o : Addr) (cs : Int32) (h0 : Heap) (n0 : Nat) (Z0 : n0 ≤ h0.size) (p_0 : Exa Z h0 o "java/lang/StringBuilder") (p_1 : Fld Z h0 o "java/lang/AbstractStringBuilder" "value" "[B" .null) (p_2 : Fld Z h0 o "java/lang/AbstractStringBuilder" "coder" "B" (.int (0 : Int32))) (p_3 : Fld Z h0 o "java/lang/AbstractStringBuilder" "count" "I" (.int (0 : Int32))) (p_4 : n0 ≤ o) (p_5 : Sta Z h0 "java/lang/String" "COMPACT_STRINGS" "Z" (.int cs)) (hcs : ¬ cs = (0 : Int32)) :
    MetFree l yy6 (head1 (Jvm.Cond.code yy6 jdk_68_method_2_code 2 none :: ws) rRrm7) (fun a_ U_ => a_ = #[(.ref o), (.int (16 : Int32))] ∧ Z.Warmed39 U_.vm ∧ U_.heap = h0) (fun _ _ _ _ _ => True) (fun _ U_ o_ U1_ => ∃ v_ L_, o_ = .returned v_ ∧ Q7 Z o cs h0 n0 v_ U1_.heap L_ ∧ FrameEnd U_ o_ U1_ L_ rRrm7.cells rRrm7.slots) := by
  refine MetFree.of_bodySF pn_rm7 hisR ?_
  intro p e s m args below meth c s₁ Bd hml0 hP hK
  obtain ⟨rfl, hZ, hh⟩ := hP
  have hx := Bd.exec
  have hby := Bd.bytes
  have hlk : meth.locks = false := Bd.notSynchronized
  have hml : c.maxLocals = 2 := hml0
  have hown : s.vm.findClass "java/lang/AbstractStringBuilder" = some m.cls := findClass_of_methodNamed Bd.named
  have hnm := (name_of_methodNamed Bd.named Bd.method).1
  have X0 : Stand p l e rRrm7 s m #[(.ref o), (.int (16 : Int32))] below meth c s₁ [] 0 0 := Stand.of_body Bd
  have e0 : s₁.heap = h0 := by rw [← hh, Bd.state]; rfl
  have N0 := Fr.nil n0
  show own_Goes p e below s (Q7 Z o cs h0 n0) rRrm7.cells rRrm7.slots s₁ (entryFrame m #[(.ref o), (.int (16 : Int32))] 2)
  rw [ef_rm7 m o]
  show own_Goes p e below s (Q7 Z o cs h0 n0) rRrm7.cells rRrm7.slots s₁ (mkF m 0 #[rv o, iv (16 : Int32)] [])
  refine own_st (fun _ kk_ => XS.aloadN X0.here hx rfl (hb hby d7_0) rfl rfl kk_) ?_
  show own_Goes _ _ _ _ _ _ _ s₁ (mkF m 1 #[rv o, iv (16 : Int32)] [(.ref o)])
  obtain ⟨T1, X1, e1, st1⟩ := initO X0 hx hZ hown (own_w hw 53 rfl) (own_w hw 12 rfl) (own_w hw 13 rfl) e0 (g := (mkF m 1 #[rv o, iv (16 : Int32)] [(.ref o)])) rfl (by rw [hml]; rfl) rfl (hb hby d7_1) (by decide) (W := 0) (by show 2 * 0 + _ ≤ _; exact Nat.le_of_eq rfl) (by decide)
  refine own_st st1 ?_
  show own_Goes _ _ _ _ _ _ _ T1 (mkF m 4 #[rv o, iv (16 : Int32)] [])
  obtain ⟨T2, X2, e2, st2⟩ := getS2 X1 hx hZ hown (host := "") (Or.inl (own_w hw 54 rfl)) Via.refl e1 p_5 (g := (mkF m 4 #[rv o, iv (16 : Int32)] [])) rfl (hb hby d7_4)
  refine own_st st2 ?_
  show own_Goes _ _ _ _ _ _ _ T2 (mkF m 7 #[rv o, iv (16 : Int32)] [(.int cs)])
  refine own_st (fun _ kk_ => XS.ifNo X2.here hx rfl (hb hby d7_7) rfl (XT.i0_eq_f hcs) (XS.aloadN X2.here hx rfl (hb hby d7_10) rfl rfl (XS.iloadN X2.here hx rfl (hb hby d7_11) rfl kk_))) ?_
  show own_Goes _ _ _ _ _ _ _ T2 (mkF m 12 #[rv o, iv (16 : Int32)] [(.int (16 : Int32)), (.ref o)])
  obtain ⟨T3, h3, k3, X3, e3, E3, A3, st3⟩ := newP X2 hx hZ (own_w hw 21 rfl) e2 (g := (mkF m 12 #[rv o, iv (16 : Int32)] [(.int (16 : Int32)), (.ref o)])) rfl (hb hby d7_12) rfl (by decide) (cap := 16) (by decide) (by decide) (by decide) (by decide)
  obtain ⟨b3, gx3⟩ : ∃ z, z = h0.size := ⟨_, rfl⟩
  rw [← gx3] at A3 st3
  have ne3_o : o ≠ b3 := Nat.ne_of_lt (Nat.lt_of_lt_of_eq p_0.lt gx3.symm)
  have gg3 : n0 ≤ b3 := Nat.le_trans Z0 (Nat.le_of_eq gx3.symm)
  have sz3 : h0.size ≤ b3 := Nat.le_trans (Keep.refl h0 [o]).1 (Nat.le_of_eq gx3.symm)
  have f3_0 := p_0.ext E3
  have f3_1 := p_1.ext E3
  have f3_2 := p_2.ext E3
  have f3_3 := p_3.ext E3
  have f3_4 := p_5.ext E3
  have Zs3 : n0 ≤ h3.size := Nat.le_trans Z0 E3.1
  have K3 := (Keep.refl h0 [o]).ext E3
  have V3 : Arv Z h3 b3 k3 .byte (16 : Int32) [(.int (0 : Int32)), (.int (0 : Int32)), (.int (0 : Int32)), (.int (0 : Int32)), (.int (0 : Int32)), (.int (0 : Int32)), (.int (0 : Int32)), (.int (0 : Int32)), (.int (0 : Int32)), (.int (0 : Int32)), (.int (0 : Int32)), (.int (0 : Int32)), (.int (0 : Int32)), (.int (0 : Int32)), (.int (0 : Int32)), (.int (0 : Int32))] (.int (0 : Int32)) := (Arv.new A3 (by decide)).pad (pad_rep [] (.int (0 : Int32)) 16)
  refine own_st st3 ?_
  show own_Goes _ _ _ _ _ _ _ T3 (mkF m 14 #[rv o, iv (16 : Int32)] [(.ref b3), (.ref o)])
  have Vz : Arv Z h3 b3 k3 .byte (16 : Int32) own_z16 (.int (0 : Int32)) := V3
  obtain ⟨T4, h4, X4, e4, W4, st4⟩ := putF X3 hx hZ hown (host := "") (Or.inl (own_w hw 55 rfl)) Via.refl e3 f3_1 f3_0 (Or.inl (own_w hw 56 rfl)) (own_w hw 42 rfl) (ty := (.array .byte)) (by decide) rfl rfl (g := (mkF m 14 #[rv o, iv (16 : Int32)] [(.ref b3), (.ref o)])) rfl rfl (hb hby d7_14)
  have fw4 : Fld Z h4 o "java/lang/AbstractStringBuilder" "value" "[B" (.ref b3) := f3_1.same W4
  have f4_0 := f3_0.wr W4
  have f4_2 := f3_2.other W4 (Or.inr (slot_ne (Or.inl (own_w hw 58 rfl)) (Or.inl (own_w hw 56 rfl)) (by decide) (t := .byte) (t' := (.array .byte)) (by decide) (by decide)))
  have f4_3 := f3_3.other W4 (Or.inr (slot_ne (Or.inl (own_w hw 84 rfl)) (Or.inl (own_w hw 56 rfl)) (by decide) (t := .int) (t' := (.array .byte)) (by decide) (by decide)))
  have f4_4 := f3_4.wr W4
  have f4_5 := Vz.other W4 (Ne.symm ne3_o)
  have Zs4 : n0 ≤ h4.size := Nat.le_trans Zs3 (Nat.le_of_eq W4.size.symm)
  have K4 := K3.wr W4 (Or.inl (List.mem_of_getElem? (i := 0) rfl))
  have N4 := Fr.snoc X4 N0 p_4
  refine own_st st4 ?_
  show own_Goes _ _ _ _ _ _ _ T4 (mkF m 17 #[rv o, iv (16 : Int32)] [])
  refine own_st (fun _ kk_ => XS.aloadN X4.here hx rfl (hb hby d7_17) rfl rfl (XS.iconst X4.here hx rfl (hb hby d7_18) kk_)) ?_
  show own_Goes _ _ _ _ _ _ _ T4 (mkF m 19 #[rv o, iv (16 : Int32)] [(.int (0 : Int32)), (.ref o)])
  obtain ⟨T5, h5, X5, e5, W5, st5⟩ := putFN X4 hx hZ hown (own_w hw 57 rfl) Via.refl e4 f4_2 f4_0 (Or.inl (own_w hw 58 rfl)) (own_w hw 42 rfl) (ty := .byte) (v' := (.int (nar .byte (0 : Int32)))) (by decide) rfl (fits_nar_byte _) (g := (mkF m 19 #[rv o, iv (16 : Int32)] [(.int (0 : Int32)), (.ref o)])) rfl rfl (hb hby d7_19)
  have fw5 : Fld Z h5 o "java/lang/AbstractStringBuilder" "coder" "B" (.int (nar .byte (0 : Int32))) := f4_2.same W5
  have f5_0 := f4_0.wr W5
  have f5_2 := f4_3.other W5 (Or.inr (slot_ne (Or.inl (own_w hw 84 rfl)) (Or.inl (own_w hw 58 rfl)) (by decide) (t := .int) (t' := .byte) (by decide) (by decide)))
  have f5_3 := f4_4.wr W5
  have f5_4 := f4_5.other W5 (Ne.symm ne3_o)
  have f5_5 := fw4.other W5 (Or.inr (slot_ne (Or.inl (own_w hw 56 rfl)) (Or.inl (own_w hw 58 rfl)) (by decide) (t := (.array .byte)) (t' := .byte) (by decide) (by decide)))
  have Zs5 : n0 ≤ h5.size := Nat.le_trans Zs4 (Nat.le_of_eq W5.size.symm)
  have K5 := K4.wr W5 (Or.inl (List.mem_of_getElem? (i := 0) rfl))
  have N5 := Fr.snoc X5 N4 p_4
  refine own_st st5 ?_
  show own_Goes _ _ _ _ _ _ _ T5 (mkF m 22 #[rv o, iv (16 : Int32)] [])
  refine own_st (fun _ kk_ => XS.goto X5.here hx rfl (pc0 := 22) (pc' := 38) rfl (hb hby d7_22) (by decide) (by decide) kk_) ?_
  show own_Goes _ _ _ _ _ _ _ T5 (mkF m 38 #[rv o, iv (16 : Int32)] [])
  refine own_ret0 X5 hx hlk Bd.returns (hb hby d7_38) (by decide) (by decide) ?_
  show Q7 Z o cs h0 n0 none T5.heap _
  rw [e5]
  exact ⟨b3, k3, rfl, N5, K5, sz3, f5_0, f5_5, fw5, f5_2, f5_4⟩
abbrev rRrm6 : Room := { frames := 2, cells := 1, slots := 16, locals := 25 }
theorem d6_0 : decode jdk_67_method_1_code 0 = .ok (.aload_n 0, 1) := by decide +kernel
theorem d6_1 : decode jdk_67_method_1_code 1 = .ok (.bipush 16, 2) := by decide +kernel
theorem d6_3 : decode jdk_67_method_1_code 3 = .ok (.invokespecial 1, 3) := by decide +kernel
theorem d6_6 : decode jdk_67_method_1_code 6 = .ok (.return_, 1) := by decide +kernel
theorem pd_2 : parseMethodDescriptor "(I)V" = some ⟨[.int], none⟩ := by decide +kernel
theorem pn_rm6 : plainFor yy7 = true := by first | exact plainFor_of_name (by first | (simp [plainName, overriddenIn]; done) | decide +kernel) | decide +kernel
theorem ef_rm6 (m : MethodId) (o : Addr) : entryFrame m #[(.ref o)] 1 = (mkF m 0 #[rv o] []) := by first | (simp [entryFrame, mkF, argsToLocals, Value.category]; done) | rfl
def Q6 (Z : State) (o : Addr) (cs : Int32) (h0 : Heap) (n0 : Nat) (v_ : Option Value) (h_ : Heap) (L_ : List Loc) : Prop := ∃ y : Addr, ∃ ky : ClassId, (v_ = none) ∧ (Fr n0 L_) ∧ (Keep h0 h_ [o]) ∧ (h0.size ≤ y) ∧ (Exa Z h_ o "java/lang/StringBuilder") ∧ (Fld Z h_ o "java/lang/AbstractStringBuilder" "value" "[B" (.ref y)) ∧ (Fld Z h_ o "java/lang/AbstractStringBuilder" "coder" "B" (.int (0 : Int32))) ∧ (Fld Z h_ o "java/lang/AbstractStringBuilder" "count" "I" (.int (0 : Int32))) ∧ (Arv Z h_ y ky .byte (16 : Int32) own_z16 (.int (0 : Int32)))
set_option maxRecDepth 65536 in
set_option maxHeartbeats 40000000 in
theorem rm6 (l : Launch) (Z : State) (a0 : Array Value) (hw : ∀ d ∈ tables_1, d.before a0 Z = true) (ws : List Jvm.Cond) (o : Addr) (cs : Int32) (h0 : Heap) (n0 : Nat) (Z0 : n0 ≤ h0.size) (p_0 : Exa Z h0 o "java/lang/StringBuilder") (p_1 : Fld Z h0 o "java/lang/AbstractStringBuilder" "value" "[B" .null) (p_2 : Fld Z h0 o "java/lang/AbstractStringBuilder" "coder" "B" (.int (0 : Int32))) (p_3 : Fld Z h0 o "java/lang/AbstractStringBuilder" "count" "I" (.int (0 : Int32))) (p_4 : n0 ≤ o) (p_5 : Sta Z h0 "java/lang/String" "COMPACT_STRINGS" "Z" (.int cs)) (hcs : ¬ cs = (0 : Int32)) :
    MetFree l yy7 (head1 (Jvm.Cond.code yy7 jdk_67_method_1_code 1 none :: ws) rRrm6) (fun a_ U_ => a_ = #[(.ref o)] ∧ Z.Warmed39 U_.vm ∧ U_.heap = h0) (fun _ _ _ _ _ => True) (fun _ U_ o_ U1_ => ∃ v_ L_, o_ = .returned v_ ∧ Q6 Z o cs h0 n0 v_ U1_.heap L_ ∧ FrameEnd U_ o_ U1_ L_ rRrm6.cells rRrm6.slots) := by
  refine MetFree.of_bodySF pn_rm6 hisR ?_
  intro p e s m args below meth c s₁ Bd hml0 hP hK
  obtain ⟨rfl, hZ, hh⟩ := hP
  have hx := Bd.exec
  have hby := Bd.bytes
  have hlk : meth.locks = false := Bd.notSynchronized
  have hml : c.maxLocals = 1 := hml0
  have hown : s.vm.findClass "java/lang/StringBuilder" = some m.cls := findClass_of_methodNamed Bd.named
  have hnm := (name_of_methodNamed Bd.named Bd.method).1
  have X0 : Stand p l e rRrm6 s m #[(.ref o)] below meth c s₁ [] 0 0 := Stand.of_body Bd
  have e0 : s₁.heap = h0 := by rw [← hh, Bd.state]; rfl
  have N0 := Fr.nil n0
  show own_Goes p e below s (Q6 Z o cs h0 n0) rRrm6.cells rRrm6.slots s₁ (entryFrame m #[(.ref o)] 1)
  rw [ef_rm6 m o]
  show own_Goes p e below s (Q6 Z o cs h0 n0) rRrm6.cells rRrm6.slots s₁ (mkF m 0 #[rv o] [])
  refine own_st (fun _ kk_ => XS.aloadN X0.here hx rfl (hb hby d6_0) rfl rfl (XS.bipush X0.here hx rfl (hb hby d6_1) kk_)) ?_
  show own_Goes _ _ _ _ _ _ _ s₁ (mkF m 3 #[rv o] [(.int (16 : Int32)), (.ref o)])
  obtain ⟨_, _, ⟨T1, L1, k1, n1⟩, -, X1, ⟨Lc1, hQ1, l1, y1, z1⟩, st1⟩ := X0.specialBack hx (y := yy6) rfl hown (mvT hZ (own_w hw 47 rfl)) (mvT hZ (own_w hw 48 rfl)) (mvT hZ (own_w hw 52 rfl)) (by decide) (backOf (W := 0) (rm7 l Z a0 hw [] (o) (cs) h0 n0 Z0 p_0 p_1 p_2 p_3 p_4 p_5 (by assumption)) hZ (own_w hw 52 rfl) (own_w hw 51 rfl) (by decide) (by decide)) (g := (mkF m 3 #[rv o] [(.int (16 : Int32)), (.ref o)])) rfl (by rw [hml]; rfl) (Steps.refl _) (a := o) (argsL := [(.int (16 : Int32))]) (rest := []) (lenOf pd_2 rfl) rfl (by show 2 * 0 + _ ≤ _; exact Nat.le_of_eq rfl) (hb hby d6_3) (fun _ _ => ⟨rfl, e0, (by decide : 0 + 1 ≤ _), (by decide : 0 + 16 ≤ _)⟩)
  dsimp only [Pt.U, Pt.locs, Pt.cells, Pt.slots] at X1 l1 y1 z1 st1 hQ1
  subst l1 y1 z1
  obtain ⟨x1_y, x1_ky, rfl, Nq1, Kq1, u1_0, u1_1, u1_2, u1_3, u1_4, u1_5⟩ := hQ1
  have N1 := Fr.app N0 Nq1
  have f1_0 := p_0.keep Kq1
  have f1_4 := own_Sta_keep p_5 Kq1 (nsS p_0.nostat ns0)
  have Zs1 : n0 ≤ T1.heap.size := Nat.le_trans Z0 Kq1.1
  have K1 := (Keep.refl h0 [o]).trans Kq1 (allS (Or.inl (List.mem_of_getElem? (i := 0) rfl)) all0)
  have ne1_o : o ≠ x1_y := Nat.ne_of_lt (Nat.lt_of_lt_of_le p_0.lt u1_0)
  have sz1_y : h0.size ≤ x1_y := Nat.le_trans (Keep.refl h0 [o]).1 u1_0
  have gg1_y : n0 ≤ x1_y := Nat.le_trans Z0 u1_0
  refine own_st (fun _ kk_ => st1.trans kk_) ?_
  show own_Goes _ _ _ _ _ _ _ T1 (mkF m 6 #[rv o] [])
  refine own_ret0 X1 hx hlk Bd.returns (hb hby d6_6) (by decide) (by decide) ?_
  show Q6 Z o cs h0 n0 none T1.heap _
  exact ⟨x1_y, x1_ky, rfl, N1, K1, u1_0, u1_1, u1_2, u1_3, u1_4, u1_5⟩
abbrev rRrm19 : Room := { frames := 1, cells := 0, slots := 0, locals := 13 }
theorem d19_0 : decode jdk_68_method_71_code 0 = .ok (.getstatic 18, 3) := by decide +kernel
theorem d19_3 : decode jdk_68_method_71_code 3 = .ok (.ifCond .eq 18, 3) := by decide +kernel
theorem d19_6 : decode jdk_68_method_71_code 6 = .ok (.aload_n 0, 1) := by decide +kernel
theorem d19_7 : decode jdk_68_method_71_code 7 = .ok (.getfield 22, 3) := by decide +kernel
theorem d19_10 : decode jdk_68_method_71_code 10 = .ok (.aload_n 1, 1) := by decide +kernel
theorem d19_11 : decode jdk_68_method_71_code 11 = .ok (.invokevirtual 40, 3) := by decide +kernel
theorem d19_14 : decode jdk_68_method_71_code 14 = .ok (.if_icmp .eq 7, 3) := by decide +kernel
theorem d19_21 : decode jdk_68_method_71_code 21 = .ok (.return_, 1) := by decide +kernel
theorem pn_rm19 : plainFor yy8 = true := by first | exact plainFor_of_name (by first | (simp [plainName, overriddenIn]; done) | decide +kernel) | decide +kernel
theorem ef_rm19 (m : MethodId) (o : Addr) (a : Addr) : entryFrame m #[(.ref o), (.ref a)] 2 = (mkF m 0 #[rv o, rv a] []) := by first | (simp [entryFrame, mkF, argsToLocals, Value.category]; done) | rfl
def Q19 (Z : State) (o : Addr) (a : Addr) (cs : Int32) (h0 : Heap) (n0 : Nat) (v_ : Option Value) (h_ : Heap) (L_ : List Loc) : Prop := (v_ = none) ∧ (Fr n0 L_) ∧ (h_ = h0)
set_option maxRecDepth 65536 in
set_option maxHeartbeats 40000000 in
theorem rm19 (l : Launch) (Z : State) (a0 : Array Value) (hw : ∀ d ∈ tables_1, d.before a0 Z = true) (ws : List Jvm.Cond) (o : Addr) (a : Addr) (cs : Int32) (h0 : Heap) (n0 : Nat) (Z0 : n0 ≤ h0.size) (p_0 : Exa Z h0 o "java/lang/StringBuilder") (p_1 : Fld Z h0 o "java/lang/AbstractStringBuilder" "coder" "B" (.int (0 : Int32))) (p_2 : Exa Z h0 a "java/lang/String") (p_3 : Fld Z h0 a "java/lang/String" "coder" "B" (.int (0 : Int32))) (p_4 : Sta Z h0 "java/lang/String" "COMPACT_STRINGS" "Z" (.int cs)) (hcs : ¬ cs = (0 : Int32)) :
    MetFree l yy8 (head1 (Jvm.Cond.code yy8 jdk_68_method_71_code 2 none :: ws) rRrm19) (fun a_ U_ => a_ = #[(.ref o), (.ref a)] ∧ Z.Warmed39 U_.vm ∧ U_.heap = h0) (fun _ _ _ _ _ => True) (fun _ U_ o_ U1_ => ∃ v_ L_, o_ = .returned v_ ∧ Q19 Z o a cs h0 n0 v_ U1_.heap L_ ∧ FrameEnd U_ o_ U1_ L_ rRrm19.cells rRrm19.slots) := by
  refine MetFree.of_bodySF pn_rm19 hisR ?_
  intro p e s m args below meth c s₁ Bd hml0 hP hK
  obtain ⟨rfl, hZ, hh⟩ := hP
  have hx := Bd.exec
  have hby := Bd.bytes
  have hlk : meth.locks = false := Bd.notSynchronized
  have hml : c.maxLocals = 2 := hml0
  have hown : s.vm.findClass "java/lang/AbstractStringBuilder" = some m.cls := findClass_of_methodNamed Bd.named
  have hnm := (name_of_methodNamed Bd.named Bd.method).1
  have X0 : Stand p l e rRrm19 s m #[(.ref o), (.ref a)] below meth c s₁ [] 0 0 := Stand.of_body Bd
  have e0 : s₁.heap = h0 := by rw [← hh, Bd.state]; rfl
  have N0 := Fr.nil n0
  show own_Goes p e below s (Q19 Z o a cs h0 n0) rRrm19.cells rRrm19.slots s₁ (entryFrame m #[(.ref o), (.ref a)] 2)
  rw [ef_rm19 m o a]
  show own_Goes p e below s (Q19 Z o a cs h0 n0) rRrm19.cells rRrm19.slots s₁ (mkF m 0 #[rv o, rv a] [])
  obtain ⟨T1, X1, e1, st1⟩ := getS2 X0 hx hZ hown (host := "") (Or.inl (own_w hw 54 rfl)) Via.refl e0 p_4 (g := (mkF m 0 #[rv o, rv a] [])) rfl (hb hby d19_0)
  refine own_st st1 ?_
  show own_Goes _ _ _ _ _ _ _ T1 (mkF m 3 #[rv o, rv a] [(.int cs)])
  refine own_st (fun _ kk_ => XS.ifNo X1.here hx rfl (hb hby d19_3) rfl (XT.i0_eq_f hcs) (XS.aloadN X1.here hx rfl (hb hby d19_6) rfl rfl kk_)) ?_
  show own_Goes _ _ _ _ _ _ _ T1 (mkF m 7 #[rv o, rv a] [(.ref o)])
  obtain ⟨T2, X2, e2, st2⟩ := getF X1 hx hZ hown (host := "") (Or.inl (own_w hw 57 rfl)) Via.refl e1 p_1 (g := (mkF m 7 #[rv o, rv a] [(.ref o)])) rfl rfl (hb hby d19_7)
  refine own_st st2 ?_
  show own_Goes _ _ _ _ _ _ _ T2 (mkF m 10 #[rv o, rv a] [(.int (0 : Int32))])
  refine own_st (fun _ kk_ => XS.aloadN X2.here hx rfl (hb hby d19_10) rfl rfl kk_) ?_
  show own_Goes _ _ _ _ _ _ _ T2 (mkF m 11 #[rv o, rv a] [(.ref a), (.int (0 : Int32))])
  obtain ⟨cq3, kq3, q3a, q3b, q3c⟩ := isOf hZ e2 p_2
  obtain ⟨_, _, ⟨T3, L3, k3, n3⟩, -, X3, ⟨Lc3, hQ3, l3, y3, z3⟩, st3⟩ := X2.virtualBack hx (y := yy0) (z := yy0) hown (mvT hZ (own_w hw 126 rfl)) (mvT hZ (own_w hw 77 rfl)) (notFace_of_selects (args := #[]) (mvT hZ (own_w hw 79 rfl))) (mvT hZ (own_w hw 79 rfl)) (mvT hZ (own_w hw 78 rfl)) (by decide) (backOf (W := 1) (rm11 l Z a0 hw [] (a) (cs) h0 n0 Z0 p_3 p_4 (by assumption)) hZ (own_w hw 80 rfl) (own_w hw 19 rfl) (by decide) (by decide)) q3a q3c (g := (mkF m 11 #[rv o, rv a] [(.ref a), (.int (0 : Int32))])) rfl (by rw [hml]; rfl) (Steps.refl _) (argsL := []) (rest := [(.int (0 : Int32))]) (lenOf pd_0 rfl) rfl (by show 2 * 0 + _ ≤ _; exact Nat.le_of_eq rfl) (hb hby d19_11) (fun _ _ => ⟨rfl, e2, (by decide : 0 + 0 ≤ _), (by decide : 0 + 0 ≤ _)⟩)
  dsimp only [Pt.U, Pt.locs, Pt.cells, Pt.slots] at X3 l3 y3 z3 st3 hQ3
  subst l3 y3 z3
  obtain ⟨rfl, Nq3, eq3⟩ := hQ3
  have N3 := Fr.app N0 Nq3
  refine own_st (fun _ kk_ => st3.trans kk_) ?_
  show own_Goes _ _ _ _ _ _ _ T3 (mkF m 14 #[rv o, rv a] [(.int (0 : Int32)), (.int (0 : Int32))])
  refine own_st (fun _ kk_ => XS.icmpYes X3.here hx rfl (pc0 := 14) (pc' := 21) rfl (hb hby d19_14) rfl (XT.ii_eq_t (by decide)) (by decide) (by decide) kk_) ?_
  show own_Goes _ _ _ _ _ _ _ T3 (mkF m 21 #[rv o, rv a] [])
  refine own_ret0 X3 hx hlk Bd.returns (hb hby d19_21) (by decide) (by decide) ?_
  show Q19 Z o a cs h0 n0 none T3.heap _
  rw [eq3]
  exact ⟨rfl, N3, rfl⟩
abbrev rRrmGBp : Room := { frames := 1, cells := 0, slots := 0, locals := 18 }
theorem d20_0 : decode jdk_42_method_147_code 0 = .ok (.aload_n 0, 1) := by decide +kernel
theorem d20_1 : decode jdk_42_method_147_code 1 = .ok (.invokevirtual 335, 3) := by decide +kernel
theorem d20_4 : decode jdk_42_method_147_code 4 = .ok (.iload_n 3, 1) := by decide +kernel
theorem d20_5 : decode jdk_42_method_147_code 5 = .ok (.if_icmp .ne 23, 3) := by decide +kernel
theorem d20_8 : decode jdk_42_method_147_code 8 = .ok (.aload_n 0, 1) := by decide +kernel
theorem d20_9 : decode jdk_42_method_147_code 9 = .ok (.getfield 9, 3) := by decide +kernel
theorem d20_12 : decode jdk_42_method_147_code 12 = .ok (.iconst 0, 1) := by decide +kernel
theorem d20_13 : decode jdk_42_method_147_code 13 = .ok (.aload_n 1, 1) := by decide +kernel
theorem d20_14 : decode jdk_42_method_147_code 14 = .ok (.iload_n 2, 1) := by decide +kernel
theorem d20_15 : decode jdk_42_method_147_code 15 = .ok (.iload_n 3, 1) := by decide +kernel
theorem d20_16 : decode jdk_42_method_147_code 16 = .ok (.ishl, 1) := by decide +kernel
theorem d20_17 : decode jdk_42_method_147_code 17 = .ok (.aload_n 0, 1) := by decide +kernel
theorem d20_18 : decode jdk_42_method_147_code 18 = .ok (.getfield 9, 3) := by decide +kernel
theorem d20_21 : decode jdk_42_method_147_code 21 = .ok (.arraylength, 1) := by decide +kernel
theorem d20_22 : decode jdk_42_method_147_code 22 = .ok (.invokestatic 212, 3) := by decide +kernel
theorem d20_25 : decode jdk_42_method_147_code 25 = .ok (.goto 18, 3) := by decide +kernel
theorem d20_43 : decode jdk_42_method_147_code 43 = .ok (.return_, 1) := by decide +kernel
theorem pn_rmGBp : plainFor yy9 = true := by first | exact plainFor_of_name (by first | (simp [plainName, overriddenIn]; done) | decide +kernel) | decide +kernel
theorem ef_rmGBp (m : MethodId) (a : Addr) (d : Addr) : entryFrame m #[(.ref a), (.ref d), (.int (0 : Int32)), (.int (0 : Int32))] 4 = (mkF m 0 #[rv a, rv d, iv (0 : Int32), iv (0 : Int32)] []) := by first | (simp [entryFrame, mkF, argsToLocals, Value.category]; done) | rfl
def QGBp (Z : State) (a : Addr) (d : Addr) (kd : ClassId) (vs1 : List Value) (b : Addr) (kb : ClassId) (vs2 : List Value) (cs : Int32) (h0 : Heap) (n0 : Nat) (v_ : Option Value) (h_ : Heap) (L_ : List Loc) : Prop := (v_ = none) ∧ (Fr n0 L_) ∧ (Keep h0 h_ [d]) ∧ (Arv Z h_ d kd .byte (39 : Int32) (own_cp vs2 vs1 (0 : Int32) (0 : Int32) (39 : Int32) (.int (0 : Int32))) (.int (0 : Int32)))
set_option maxRecDepth 65536 in
set_option maxHeartbeats 40000000 in
theorem rmGBp (l : Launch) (Z : State) (a0 : Array Value) (hw : ∀ d ∈ tables_1, d.before a0 Z = true) (ws : List Jvm.Cond) (a : Addr) (d : Addr) (kd : ClassId) (vs1 : List Value) (b : Addr) (kb : ClassId) (vs2 : List Value) (cs : Int32) (h0 : Heap) (n0 : Nat) (Z0 : n0 ≤ h0.size) (p_0 : Exa Z h0 a "java/lang/String") (p_1 : Fld Z h0 a "java/lang/String" "coder" "B" (.int (0 : Int32))) (p_2 : Fld Z h0 a "java/lang/String" "value" "[B" (.ref b)) (p_3 : Arv Z h0 b kb .byte (39 : Int32) vs2 (.int (0 : Int32))) (p_4 : Sta Z h0 "java/lang/String" "COMPACT_STRINGS" "Z" (.int cs)) (hcs : ¬ cs = (0 : Int32)) (p_6 : Arv Z h0 d kd .byte (39 : Int32) vs1 (.int (0 : Int32))) (p_7 : n0 ≤ d) (hl : (0 : Int32).toNatClampNeg + (39 : Int32).toNatClampNeg ≤ vs1.length) :
    MetFree l yy9 (head1 (Jvm.Cond.code yy9 jdk_42_method_147_code 4 none :: ws) rRrmGBp) (fun a_ U_ => a_ = #[(.ref a), (.ref d), (.int (0 : Int32)), (.int (0 : Int32))] ∧ Z.Warmed39 U_.vm ∧ U_.heap = h0) (fun _ _ _ _ _ => True) (fun _ U_ o_ U1_ => ∃ v_ L_, o_ = .returned v_ ∧ QGBp Z a d kd vs1 b kb vs2 cs h0 n0 v_ U1_.heap L_ ∧ FrameEnd U_ o_ U1_ L_ rRrmGBp.cells rRrmGBp.slots) := by
  refine MetFree.of_bodySF pn_rmGBp hisR ?_
  intro p e s m args below meth c s₁ Bd hml0 hP hK
  obtain ⟨rfl, hZ, hh⟩ := hP
  have hx := Bd.exec
  have hby := Bd.bytes
  have hlk : meth.locks = false := Bd.notSynchronized
  have hml : c.maxLocals = 4 := hml0
  have hown : s.vm.findClass "java/lang/String" = some m.cls := findClass_of_methodNamed Bd.named
  have hnm := (name_of_methodNamed Bd.named Bd.method).1
  have X0 : Stand p l e rRrmGBp s m #[(.ref a), (.ref d), (.int (0 : Int32)), (.int (0 : Int32))] below meth c s₁ [] 0 0 := Stand.of_body Bd
  have e0 : s₁.heap = h0 := by rw [← hh, Bd.state]; rfl
  have N0 := Fr.nil n0
  show own_Goes p e below s (QGBp Z a d kd vs1 b kb vs2 cs h0 n0) rRrmGBp.cells rRrmGBp.slots s₁ (entryFrame m #[(.ref a), (.ref d), (.int (0 : Int32)), (.int (0 : Int32))] 4)
  rw [ef_rmGBp m a d]
  show own_Goes p e below s (QGBp Z a d kd vs1 b kb vs2 cs h0 n0) rRrmGBp.cells rRrmGBp.slots s₁ (mkF m 0 #[rv a, rv d, iv (0 : Int32), iv (0 : Int32)] [])
  refine own_st (fun _ kk_ => XS.aloadN X0.here hx rfl (hb hby d20_0) rfl rfl kk_) ?_
  show own_Goes _ _ _ _ _ _ _ s₁ (mkF m 1 #[rv a, rv d, iv (0 : Int32), iv (0 : Int32)] [(.ref a)])
  obtain ⟨cq1, kq1, q1a, q1b, q1c⟩ := isOf hZ e0 p_0
  obtain ⟨_, _, ⟨T1, L1, k1, n1⟩, -, X1, ⟨Lc1, hQ1, l1, y1, z1⟩, st1⟩ := X0.virtualBack hx (y := yy0) (z := yy0) hown (mvT hZ (own_w hw 76 rfl)) (mvT hZ (own_w hw 77 rfl)) (notFace_of_selects (args := #[]) (mvT hZ (own_w hw 79 rfl))) (mvT hZ (own_w hw 79 rfl)) (mvT hZ (own_w hw 78 rfl)) (by decide) (backOf (W := 0) (rm11 l Z a0 hw [] (a) (cs) h0 n0 Z0 p_1 p_4 (by assumption)) hZ (own_w hw 80 rfl) (own_w hw 19 rfl) (by decide) (by decide)) q1a q1c (g := (mkF m 1 #[rv a, rv d, iv (0 : Int32), iv (0 : Int32)] [(.ref a)])) rfl (by rw [hml]; rfl) (Steps.refl _) (argsL := []) (rest := []) (lenOf pd_0 rfl) rfl (by show 2 * 0 + _ ≤ _; exact Nat.le_of_eq rfl) (hb hby d20_1) (fun _ _ => ⟨rfl, e0, (by decide : 0 + 0 ≤ _), (by decide : 0 + 0 ≤ _)⟩)
  dsimp only [Pt.U, Pt.locs, Pt.cells, Pt.slots] at X1 l1 y1 z1 st1 hQ1
  subst l1 y1 z1
  obtain ⟨rfl, Nq1, eq1⟩ := hQ1
  have N1 := Fr.app N0 Nq1
  refine own_st (fun _ kk_ => st1.trans kk_) ?_
  show own_Goes _ _ _ _ _ _ _ T1 (mkF m 4 #[rv a, rv d, iv (0 : Int32), iv (0 : Int32)] [(.int (0 : Int32))])
  refine own_st (fun _ kk_ => XS.iloadN X1.here hx rfl (hb hby d20_4) rfl (XS.icmpNo X1.here hx rfl (hb hby d20_5) rfl (XT.ii_ne_f (by decide)) (XS.aloadN X1.here hx rfl (hb hby d20_8) rfl rfl kk_))) ?_
  show own_Goes _ _ _ _ _ _ _ T1 (mkF m 9 #[rv a, rv d, iv (0 : Int32), iv (0 : Int32)] [(.ref a)])
  obtain ⟨T2, X2, e2, st2⟩ := getF X1 hx hZ hown (host := "") (Or.inl (own_w hw 75 rfl)) Via.refl eq1 p_2 (g := (mkF m 9 #[rv a, rv d, iv (0 : Int32), iv (0 : Int32)] [(.ref a)])) rfl rfl (hb hby d20_9)
  refine own_st st2 ?_
  show own_Goes _ _ _ _ _ _ _ T2 (mkF m 12 #[rv a, rv d, iv (0 : Int32), iv (0 : Int32)] [(.ref b)])
  refine own_st (fun _ kk_ => XS.iconst X2.here hx rfl (hb hby d20_12) (XS.aloadN X2.here hx rfl (hb hby d20_13) rfl rfl (XS.iloadN X2.here hx rfl (hb hby d20_14) rfl (XS.iloadN X2.here hx rfl (hb hby d20_15) rfl (XS.ishl X2.here hx rfl (hb hby d20_16) rfl (XS.aloadN X2.here hx rfl (hb hby d20_17) rfl rfl kk_)))))) ?_
  show own_Goes _ _ _ _ _ _ _ T2 (mkF m 18 #[rv a, rv d, iv (0 : Int32), iv (0 : Int32)] [(.ref a), (.int (0 : Int32)), (.ref d), (.int (0 : Int32)), (.ref b)])
  obtain ⟨T3, X3, e3, st3⟩ := getF X2 hx hZ hown (host := "") (Or.inl (own_w hw 75 rfl)) Via.refl e2 p_2 (g := (mkF m 18 #[rv a, rv d, iv (0 : Int32), iv (0 : Int32)] [(.ref a), (.int (0 : Int32)), (.ref d), (.int (0 : Int32)), (.ref b)])) rfl rfl (hb hby d20_18)
  refine own_st st3 ?_
  show own_Goes _ _ _ _ _ _ _ T3 (mkF m 21 #[rv a, rv d, iv (0 : Int32), iv (0 : Int32)] [(.ref b), (.int (0 : Int32)), (.ref d), (.int (0 : Int32)), (.ref b)])
  obtain ⟨cl4, Ar4, -, Sz4, Nn4, -, -⟩ := id p_3
  refine own_st (fun _ kk_ => X3.arraylength hx (by rw [e3]; exact Ar4.1) (State.isArrayOf_alike hZ.alike Ar4.2.1) (g := (mkF m 21 #[rv a, rv d, iv (0 : Int32), iv (0 : Int32)] [(.ref b), (.int (0 : Int32)), (.ref d), (.int (0 : Int32)), (.ref b)])) rfl rfl (hb hby d20_21) _ kk_) ?_
  rw [len_of Sz4 Nn4]
  show own_Goes _ _ _ _ _ _ _ T3 (mkF m 22 #[rv a, rv d, iv (0 : Int32), iv (0 : Int32)] [(.int (39 : Int32)), (.int (0 : Int32)), (.ref d), (.int (0 : Int32)), (.ref b)])
  obtain ⟨T5, h5, L5, X5, e5, N5, Kp5, A5, st5⟩ := cpA X3 hx hZ hown (own_w hw 132 rfl) (own_w hw 115 rfl) (own_w hw 113 rfl) (own_w hw 114 rfl) e3 p_3 p_6 (Or.inl ⟨rfl, rfl⟩) (by decide) (by decide) (by decide) (by decide) (by decide) rfl hl N1 p_7 (g := (mkF m 22 #[rv a, rv d, iv (0 : Int32), iv (0 : Int32)] [(.int (39 : Int32)), (.int (0 : Int32)), (.ref d), (.int (0 : Int32)), (.ref b)])) rfl (by rw [hml]; rfl) (rest := []) rfl (hb hby d20_22) (by decide) (W := 0) (by show 2 * 0 + _ ≤ _; exact Nat.le_of_eq rfl) (by decide)
  have f5_0 := p_0.keep Kp5
  have f5_4 := own_Sta_keep p_4 Kp5 (nsS p_6.nostat ns0)
  have Zs5 : n0 ≤ h5.size := Nat.le_trans Z0 Kp5.1
  have K5 := (Keep.refl h0 [d]).trans Kp5 (allS (Or.inl (List.mem_of_getElem? (i := 0) rfl)) all0)
  have V5 : Arv Z h5 d kd .byte (39 : Int32) (own_cp vs2 vs1 (0 : Int32) (0 : Int32) (39 : Int32) (.int (0 : Int32))) (.int (0 : Int32)) := A5
  refine own_st st5 ?_
  show own_Goes _ _ _ _ _ _ _ T5 (mkF m 25 #[rv a, rv d, iv (0 : Int32), iv (0 : Int32)] [])
  refine own_st (fun _ kk_ => XS.goto X5.here hx rfl (pc0 := 25) (pc' := 43) rfl (hb hby d20_25) (by decide) (by decide) kk_) ?_
  show own_Goes _ _ _ _ _ _ _ T5 (mkF m 43 #[rv a, rv d, iv (0 : Int32), iv (0 : Int32)] [])
  refine own_ret0 X5 hx hlk Bd.returns (hb hby d20_43) (by decide) (by decide) ?_
  show QGBp Z a d kd vs1 b kb vs2 cs h0 n0 none T5.heap _
  rw [e5]
  exact ⟨rfl, N5, K5, V5⟩
abbrev rRrmPSp : Room := { frames := 2, cells := 0, slots := 0, locals := 33 }
theorem d18_0 : decode jdk_68_method_73_code 0 = .ok (.aload_n 0, 1) := by decide +kernel
theorem d18_1 : decode jdk_68_method_73_code 1 = .ok (.aload_n 2, 1) := by decide +kernel
theorem d18_2 : decode jdk_68_method_73_code 2 = .ok (.invokevirtual 397, 3) := by decide +kernel
theorem d18_5 : decode jdk_68_method_73_code 5 = .ok (.aload_n 2, 1) := by decide +kernel
theorem d18_6 : decode jdk_68_method_73_code 6 = .ok (.aload_n 0, 1) := by decide +kernel
theorem d18_7 : decode jdk_68_method_73_code 7 = .ok (.getfield 15, 3) := by decide +kernel
theorem d18_10 : decode jdk_68_method_73_code 10 = .ok (.iload_n 1, 1) := by decide +kernel
theorem d18_11 : decode jdk_68_method_73_code 11 = .ok (.aload_n 0, 1) := by decide +kernel
theorem d18_12 : decode jdk_68_method_73_code 12 = .ok (.getfield 22, 3) := by decide +kernel
theorem d18_15 : decode jdk_68_method_73_code 15 = .ok (.invokevirtual 399, 3) := by decide +kernel
theorem d18_18 : decode jdk_68_method_73_code 18 = .ok (.return_, 1) := by decide +kernel
theorem pd_3 : parseMethodDescriptor "(Ljava/lang/String;)V" = some ⟨[(.object "java/lang/String")], none⟩ := by decide +kernel
theorem pd_4 : parseMethodDescriptor "([BIB)V" = some ⟨[(.array .byte), .int, .byte], none⟩ := by decide +kernel
theorem pn_rmPSp : plainFor yy10 = true := by first | exact plainFor_of_name (by first | (simp [plainName, overriddenIn]; done) | decide +kernel) | decide +kernel
theorem ef_rmPSp (m : MethodId) (o : Addr) (a : Addr) : entryFrame m #[(.ref o), (.int (0 : Int32)), (.ref a)] 3 = (mkF m 0 #[rv o, iv (0 : Int32), rv a] []) := by first | (simp [entryFrame, mkF, argsToLocals, Value.category]; done) | rfl
def QPSp (Z : State) (o : Addr) (a : Addr) (d : Addr) (kd : ClassId) (vs1 : List Value) (b : Addr) (kb : ClassId) (vs2 : List Value) (cs : Int32) (h0 : Heap) (n0 : Nat) (v_ : Option Value) (h_ : Heap) (L_ : List Loc) : Prop := (v_ = none) ∧ (Fr n0 L_) ∧ (Keep h0 h_ [d]) ∧ (Arv Z h_ d kd .byte (39 : Int32) (own_cp vs2 vs1 (0 : Int32) (0 : Int32) (39 : Int32) (.int (0 : Int32))) (.int (0 : Int32)))
set_option maxRecDepth 65536 in
set_option maxHeartbeats 40000000 in
theorem rmPSp (l : Launch) (Z : State) (a0 : Array Value) (hw : ∀ d ∈ tables_1, d.before a0 Z = true) (ws : List Jvm.Cond) (o : Addr) (a : Addr) (d : Addr) (kd : ClassId) (vs1 : List Value) (b : Addr) (kb : ClassId) (vs2 : List Value) (cs : Int32) (h0 : Heap) (n0 : Nat) (Z0 : n0 ≤ h0.size) (p_0 : Exa Z h0 o "java/lang/StringBuilder") (p_1 : Fld Z h0 o "java/lang/AbstractStringBuilder" "value" "[B" (.ref d)) (p_2 : Fld Z h0 o "java/lang/AbstractStringBuilder" "coder" "B" (.int (0 : Int32))) (p_3 : Exa Z h0 a "java/lang/String") (p_4 : Fld Z h0 a "java/lang/String" "coder" "B" (.int (0 : Int32))) (p_5 : Fld Z h0 a "java/lang/String" "value" "[B" (.ref b)) (p_6 : Arv Z h0 b kb .byte (39 : Int32) vs2 (.int (0 : Int32))) (p_7 : Sta Z h0 "java/lang/String" "COMPACT_STRINGS" "Z" (.int cs)) (hcs : ¬ cs = (0 : Int32)) (p_9 : Arv Z h0 d kd .byte (39 : Int32) vs1 (.int (0 : Int32))) (p_10 : n0 ≤ d) (hl : (0 : Int32).toNatClampNeg + (39 : Int32).toNatClampNeg ≤ vs1.length) :
    MetFree l yy10 (head1 (Jvm.Cond.code yy10 jdk_68_method_73_code 3 none :: ws) rRrmPSp) (fun a_ U_ => a_ = #[(.ref o), (.int (0 : Int32)), (.ref a)] ∧ Z.Warmed39 U_.vm ∧ U_.heap = h0) (fun _ _ _ _ _ => True) (fun _ U_ o_ U1_ => ∃ v_ L_, o_ = .returned v_ ∧ QPSp Z o a d kd vs1 b kb vs2 cs h0 n0 v_ U1_.heap L_ ∧ FrameEnd U_ o_ U1_ L_ rRrmPSp.cells rRrmPSp.slots) := by
  refine MetFree.of_bodySF pn_rmPSp hisR ?_
  intro p e s m args below meth c s₁ Bd hml0 hP hK
  obtain ⟨rfl, hZ, hh⟩ := hP
  have hx := Bd.exec
  have hby := Bd.bytes
  have hlk : meth.locks = false := Bd.notSynchronized
  have hml : c.maxLocals = 3 := hml0
  have hown : s.vm.findClass "java/lang/AbstractStringBuilder" = some m.cls := findClass_of_methodNamed Bd.named
  have hnm := (name_of_methodNamed Bd.named Bd.method).1
  have X0 : Stand p l e rRrmPSp s m #[(.ref o), (.int (0 : Int32)), (.ref a)] below meth c s₁ [] 0 0 := Stand.of_body Bd
  have e0 : s₁.heap = h0 := by rw [← hh, Bd.state]; rfl
  have N0 := Fr.nil n0
  show own_Goes p e below s (QPSp Z o a d kd vs1 b kb vs2 cs h0 n0) rRrmPSp.cells rRrmPSp.slots s₁ (entryFrame m #[(.ref o), (.int (0 : Int32)), (.ref a)] 3)
  rw [ef_rmPSp m o a]
  show own_Goes p e below s (QPSp Z o a d kd vs1 b kb vs2 cs h0 n0) rRrmPSp.cells rRrmPSp.slots s₁ (mkF m 0 #[rv o, iv (0 : Int32), rv a] [])
  refine own_st (fun _ kk_ => XS.aloadN X0.here hx rfl (hb hby d18_0) rfl rfl (XS.aloadN X0.here hx rfl (hb hby d18_1) rfl rfl kk_)) ?_
  show own_Goes _ _ _ _ _ _ _ s₁ (mkF m 2 #[rv o, iv (0 : Int32), rv a] [(.ref a), (.ref o)])
  obtain ⟨cq1, q1, q1'⟩ := p_0.cell
  obtain ⟨_, _, ⟨T1, L1, k1, n1⟩, -, X1, ⟨Lc1, hQ1, l1, y1, z1⟩, st1⟩ := X0.privateBack hx (y := yy8) hown (mvT hZ (own_w hw 121 rfl)) (mvT hZ (own_w hw 122 rfl)) (own_selp (mvT hZ (own_w hw 124 rfl)) (Cond.privateMethod_at (mvP hZ (own_w hw 123 rfl) (args := #[]))) (mvT hZ (own_w hw 122 rfl)) (by decide)) (Cond.privateMethod_at (mvP hZ (own_w hw 123 rfl) (args := #[]))) (mvT hZ (own_w hw 125 rfl)) (by decide) (backOf (W := 0) (rm19 l Z a0 hw [] (o) (a) (cs) h0 n0 Z0 p_0 p_2 p_3 p_4 p_7 (by assumption)) hZ (own_w hw 125 rfl) (own_w hw 51 rfl) (by decide) (by decide)) (g := (mkF m 2 #[rv o, iv (0 : Int32), rv a] [(.ref a), (.ref o)])) rfl (by rw [hml]; rfl) (Steps.refl _) (a := o) (by rw [e0]; exact q1) q1' (argsL := [(.ref a)]) (rest := []) (lenOf pd_3 rfl) rfl (by show 2 * 0 + _ ≤ _; exact Nat.le_of_eq rfl) (hb hby d18_2) (fun _ _ => ⟨rfl, e0, (by decide : 0 + 0 ≤ _), (by decide : 0 + 0 ≤ _)⟩)
  dsimp only [Pt.U, Pt.locs, Pt.cells, Pt.slots] at X1 l1 y1 z1 st1 hQ1
  subst l1 y1 z1
  obtain ⟨rfl, Nq1, eq1⟩ := hQ1
  have N1 := Fr.app N0 Nq1
  refine own_st (fun _ kk_ => st1.trans kk_) ?_
  show own_Goes _ _ _ _ _ _ _ T1 (mkF m 5 #[rv o, iv (0 : Int32), rv a] [])
  refine own_st (fun _ kk_ => XS.aloadN X1.here hx rfl (hb hby d18_5) rfl rfl (XS.aloadN X1.here hx rfl (hb hby d18_6) rfl rfl kk_)) ?_
  show own_Goes _ _ _ _ _ _ _ T1 (mkF m 7 #[rv o, iv (0 : Int32), rv a] [(.ref o), (.ref a)])
  obtain ⟨T2, X2, e2, st2⟩ := getF X1 hx hZ hown (host := "") (Or.inl (own_w hw 55 rfl)) Via.refl eq1 p_1 (g := (mkF m 7 #[rv o, iv (0 : Int32), rv a] [(.ref o), (.ref a)])) rfl rfl (hb hby d18_7)
  refine own_st st2 ?_
  show own_Goes _ _ _ _ _ _ _ T2 (mkF m 10 #[rv o, iv (0 : Int32), rv a] [(.ref d), (.ref a)])
  refine own_st (fun _ kk_ => XS.iloadN X2.here hx rfl (hb hby d18_10) rfl (XS.aloadN X2.here hx rfl (hb hby d18_11) rfl rfl kk_)) ?_
  show own_Goes _ _ _ _ _ _ _ T2 (mkF m 12 #[rv o, iv (0 : Int32), rv a] [(.ref o), (.int (0 : Int32)), (.ref d), (.ref a)])
  obtain ⟨T3, X3, e3, st3⟩ := getF X2 hx hZ hown (host := "") (Or.inl (own_w hw 57 rfl)) Via.refl e2 p_2 (g := (mkF m 12 #[rv o, iv (0 : Int32), rv a] [(.ref o), (.int (0 : Int32)), (.ref d), (.ref a)])) rfl rfl (hb hby d18_12)
  refine own_st st3 ?_
  show own_Goes _ _ _ _ _ _ _ T3 (mkF m 15 #[rv o, iv (0 : Int32), rv a] [(.int (0 : Int32)), (.int (0 : Int32)), (.ref d), (.ref a)])
  obtain ⟨cq4, kq4, q4a, q4b, q4c⟩ := isOf hZ e3 p_3
  obtain ⟨_, _, ⟨T4, L4, k4, n4⟩, -, X4, ⟨Lc4, hQ4, l4, y4, z4⟩, st4⟩ := X3.virtualBack hx (y := yy9) (z := yy9) hown (mvT hZ (own_w hw 127 rfl)) (mvT hZ (own_w hw 128 rfl)) (notFace_of_selects (args := #[]) (mvT hZ (own_w hw 130 rfl))) (mvT hZ (own_w hw 130 rfl)) (mvT hZ (own_w hw 129 rfl)) (by decide) (backOf (W := 0) (rmGBp l Z a0 hw [] (a) (d) (kd) (vs1) (b) (kb) (vs2) (cs) h0 n0 Z0 p_3 p_4 p_5 p_6 p_7 (by assumption) p_9 p_10 hl) hZ (own_w hw 131 rfl) (own_w hw 19 rfl) (by decide) (by decide)) q4a q4c (g := (mkF m 15 #[rv o, iv (0 : Int32), rv a] [(.int (0 : Int32)), (.int (0 : Int32)), (.ref d), (.ref a)])) rfl (by rw [hml]; rfl) (Steps.refl _) (argsL := [(.ref d), (.int (0 : Int32)), (.int (0 : Int32))]) (rest := []) (lenOf pd_4 rfl) rfl (by show 2 * 0 + _ ≤ _; exact Nat.le_of_eq rfl) (hb hby d18_15) (fun _ _ => ⟨rfl, e3, (by decide : 0 + 0 ≤ _), (by decide : 0 + 0 ≤ _)⟩)
  dsimp only [Pt.U, Pt.locs, Pt.cells, Pt.slots] at X4 l4 y4 z4 st4 hQ4
  subst l4 y4 z4
  obtain ⟨rfl, Nq4, Kq4, u4_0⟩ := hQ4
  have N4 := Fr.app N1 Nq4
  have f4_0 := p_0.keep Kq4
  have f4_3 := p_3.keep Kq4
  have f4_7 := own_Sta_keep p_7 Kq4 (nsS p_9.nostat ns0)
  have Zs4 : n0 ≤ T4.heap.size := Nat.le_trans Z0 Kq4.1
  have K4 := (Keep.refl h0 [d]).trans Kq4 (allS (Or.inl (List.mem_of_getElem? (i := 0) rfl)) all0)
  refine own_st (fun _ kk_ => st4.trans kk_) ?_
  show own_Goes _ _ _ _ _ _ _ T4 (mkF m 18 #[rv o, iv (0 : Int32), rv a] [])
  refine own_ret0 X4 hx hlk Bd.returns (hb hby d18_18) (by decide) (by decide) ?_
  show QPSp Z o a d kd vs1 b kb vs2 cs h0 n0 none T4.heap _
  exact ⟨rfl, N4, K4, u4_0⟩
abbrev rRrmNLp : Room := { frames := 1, cells := 0, slots := 0, locals := 14 }
theorem d14_0 : decode jdk_48_method_27_code 0 = .ok (.iload_n 0, 1) := by decide +kernel
theorem d14_1 : decode jdk_48_method_27_code 1 = .ok (.iload_n 1, 1) := by decide +kernel
theorem d14_2 : decode jdk_48_method_27_code 2 = .ok (.iload_n 2, 1) := by decide +kernel
theorem d14_3 : decode jdk_48_method_27_code 3 = .ok (.invokestatic 194, 3) := by decide +kernel
theorem d14_6 : decode jdk_48_method_27_code 6 = .ok (.iadd, 1) := by decide +kernel
theorem d14_7 : decode jdk_48_method_27_code 7 = .ok (.istore_n 3, 1) := by decide +kernel
theorem d14_8 : decode jdk_48_method_27_code 8 = .ok (.iconst 0, 1) := by decide +kernel
theorem d14_9 : decode jdk_48_method_27_code 9 = .ok (.iload_n 3, 1) := by decide +kernel
theorem d14_10 : decode jdk_48_method_27_code 10 = .ok (.if_icmp .ge 11, 3) := by decide +kernel
theorem d14_13 : decode jdk_48_method_27_code 13 = .ok (.iload_n 3, 1) := by decide +kernel
theorem d14_14 : decode jdk_48_method_27_code 14 = .ok (.ldc 200, 2) := by decide +kernel
theorem d14_16 : decode jdk_48_method_27_code 16 = .ok (.if_icmp .gt 5, 3) := by decide +kernel
theorem d14_19 : decode jdk_48_method_27_code 19 = .ok (.iload_n 3, 1) := by decide +kernel
theorem d14_20 : decode jdk_48_method_27_code 20 = .ok (.ireturn, 1) := by decide +kernel
theorem pd_5 : parseMethodDescriptor "(II)I" = some ⟨[.int, .int], some .int⟩ := by decide +kernel
theorem pn_rmNLp : plainFor yy11 = true := by first | exact plainFor_of_name (by first | (simp [plainName, overriddenIn]; done) | decide +kernel) | decide +kernel
theorem ef_rmNLp (m : MethodId) : entryFrame m #[(.int (16 : Int32)), (.int (23 : Int32)), (.int (18 : Int32))] 4 = (mkF m 0 #[iv (16 : Int32), iv (23 : Int32), iv (18 : Int32), .unset] []) := by first | (simp [entryFrame, mkF, argsToLocals, Value.category]; done) | rfl
def QNLp (Z : State) (h0 : Heap) (n0 : Nat) (v_ : Option Value) (h_ : Heap) (L_ : List Loc) : Prop := (v_ = some (.int (39 : Int32))) ∧ (Fr n0 L_) ∧ (h_ = h0)
set_option maxRecDepth 65536 in
set_option maxHeartbeats 40000000 in
theorem rmNLp (l : Launch) (Z : State) (a0 : Array Value) (hw : ∀ d ∈ tables_1, d.before a0 Z = true) (ws : List Jvm.Cond) (h0 : Heap) (n0 : Nat) (Z0 : n0 ≤ h0.size) :
    MetFree l yy11 (head1 (Jvm.Cond.code yy11 jdk_48_method_27_code 4 (some .int) :: ws) rRrmNLp) (fun a_ U_ => a_ = #[(.int (16 : Int32)), (.int (23 : Int32)), (.int (18 : Int32))] ∧ Z.Warmed39 U_.vm ∧ U_.heap = h0) (fun _ _ _ _ _ => True) (fun _ U_ o_ U1_ => ∃ v_ L_, o_ = .returned v_ ∧ QNLp Z h0 n0 v_ U1_.heap L_ ∧ FrameEnd U_ o_ U1_ L_ rRrmNLp.cells rRrmNLp.slots) := by
  refine MetFree.of_bodySF pn_rmNLp hisR ?_
  intro p e s m args below meth c s₁ Bd hml0 hP hK
  obtain ⟨rfl, hZ, hh⟩ := hP
  have hx := Bd.exec
  have hby := Bd.bytes
  have hlk : meth.locks = false := Bd.notSynchronized
  have hml : c.maxLocals = 4 := hml0
  have hown : s.vm.findClass "jdk/internal/util/ArraysSupport" = some m.cls := findClass_of_methodNamed Bd.named
  have hnm := (name_of_methodNamed Bd.named Bd.method).1
  have X0 : Stand p l e rRrmNLp s m #[(.int (16 : Int32)), (.int (23 : Int32)), (.int (18 : Int32))] below meth c s₁ [] 0 0 := Stand.of_body Bd
  have e0 : s₁.heap = h0 := by rw [← hh, Bd.state]; rfl
  have N0 := Fr.nil n0
  show own_Goes p e below s (QNLp Z h0 n0) rRrmNLp.cells rRrmNLp.slots s₁ (entryFrame m #[(.int (16 : Int32)), (.int (23 : Int32)), (.int (18 : Int32))] 4)
  rw [ef_rmNLp m]
  show own_Goes p e below s (QNLp Z h0 n0) rRrmNLp.cells rRrmNLp.slots s₁ (mkF m 0 #[iv (16 : Int32), iv (23 : Int32), iv (18 : Int32), .unset] [])
  refine own_st (fun _ kk_ => XS.iloadN X0.here hx rfl (hb hby d14_0) rfl (XS.iloadN X0.here hx rfl (hb hby d14_1) rfl (XS.iloadN X0.here hx rfl (hb hby d14_2) rfl kk_))) ?_
  show own_Goes _ _ _ _ _ _ _ s₁ (mkF m 3 #[iv (16 : Int32), iv (23 : Int32), iv (18 : Int32), .unset] [(.int (18 : Int32)), (.int (23 : Int32)), (.int (16 : Int32))])
  obtain ⟨_, _, ⟨T1, L1, k1, n1⟩, -, X1, ⟨Lc1, hQ1, l1, y1, z1⟩, st1⟩ := Jvm.LawKit.callS X0 hx (y := yy2) hown (mvT hZ (own_w hw 99 rfl)) (mvT hZ (own_w hw 100 rfl)) (mvT hZ (own_w hw 101 rfl)) (mvT hZ (own_w hw 102 rfl)) (by decide) (backOf (W := 1) (rmxA l Z a0 hw [] ((23 : Int32)) ((18 : Int32)) h0 n0 Z0 (by decide)) hZ (own_w hw 102 rfl) (own_w hw 101 rfl) (by decide) (by decide)) (g := (mkF m 3 #[iv (16 : Int32), iv (23 : Int32), iv (18 : Int32), .unset] [(.int (18 : Int32)), (.int (23 : Int32)), (.int (16 : Int32))])) rfl (by rw [hml]; rfl) (argsL := [(.int (23 : Int32)), (.int (18 : Int32))]) (rest := [(.int (16 : Int32))]) (lenOf pd_5 rfl) rfl (by show 2 * 0 + _ ≤ _; exact Nat.le_of_eq rfl) (hb hby d14_3) (fun _ _ => ⟨rfl, e0, (by decide : 0 + 0 ≤ _), (by decide : 0 + 0 ≤ _)⟩)
  dsimp only [Pt.U, Pt.locs, Pt.cells, Pt.slots] at X1 l1 y1 z1 st1 hQ1
  subst l1 y1 z1
  obtain ⟨rfl, Nq1, eq1⟩ := hQ1
  have N1 := Fr.app N0 Nq1
  refine own_st st1 ?_
  show own_Goes _ _ _ _ _ _ _ T1 (mkF m 6 #[iv (16 : Int32), iv (23 : Int32), iv (18 : Int32), .unset] [(.int (23 : Int32)), (.int (16 : Int32))])
  refine own_st (fun _ kk_ => XS.iadd X1.here hx rfl (hb hby d14_6) rfl (XS.istoreN X1.here hx rfl (hb hby d14_7) rfl (l' := #[iv (16 : Int32), iv (23 : Int32), iv (18 : Int32), iv (39 : Int32)]) rfl (XS.iconst X1.here hx rfl (hb hby d14_8) (XS.iloadN X1.here hx rfl (hb hby d14_9) rfl (XS.icmpNo X1.here hx rfl (hb hby d14_10) rfl (XT.ii_ge_f (by decide)) (XS.iloadN X1.here hx rfl (hb hby d14_13) rfl (X1.ldcInt hx hown (mvT hZ (own_w hw 103 rfl)) (g := (mkF m 14 #[iv (16 : Int32), iv (23 : Int32), iv (18 : Int32), iv (39 : Int32)] [(.int (39 : Int32))])) rfl (hb hby d14_14) _ (XS.icmpNo X1.here hx rfl (hb hby d14_16) rfl (XT.ii_gt_f (by decide)) (XS.iloadN X1.here hx rfl (hb hby d14_19) rfl kk_))))))))) ?_
  show own_Goes _ _ _ _ _ _ _ T1 (mkF m 20 #[iv (16 : Int32), iv (23 : Int32), iv (18 : Int32), iv (39 : Int32)] [(.int (39 : Int32))])
  refine own_retI X1 hx hlk Bd.returns (hb hby d14_20) (by decide) (by decide) ?_
  show QNLp Z h0 n0 (some (.int (39 : Int32))) T1.heap _
  rw [eq1]
  exact ⟨rfl, N1, rfl⟩
abbrev rRrmNCp : Room := { frames := 2, cells := 0, slots := 0, locals := 29 }
theorem d13_0 : decode jdk_68_method_10_code 0 = .ok (.aload_n 0, 1) := by decide +kernel
theorem d13_1 : decode jdk_68_method_10_code 1 = .ok (.getfield 15, 3) := by decide +kernel
theorem d13_4 : decode jdk_68_method_10_code 4 = .ok (.arraylength, 1) := by decide +kernel
theorem d13_5 : decode jdk_68_method_10_code 5 = .ok (.istore_n 2, 1) := by decide +kernel
theorem d13_6 : decode jdk_68_method_10_code 6 = .ok (.iload_n 1, 1) := by decide +kernel
theorem d13_7 : decode jdk_68_method_10_code 7 = .ok (.aload_n 0, 1) := by decide +kernel
theorem d13_8 : decode jdk_68_method_10_code 8 = .ok (.getfield 22, 3) := by decide +kernel
theorem d13_11 : decode jdk_68_method_10_code 11 = .ok (.ishl, 1) := by decide +kernel
theorem d13_12 : decode jdk_68_method_10_code 12 = .ok (.istore_n 3, 1) := by decide +kernel
theorem d13_13 : decode jdk_68_method_10_code 13 = .ok (.iload_n 3, 1) := by decide +kernel
theorem d13_14 : decode jdk_68_method_10_code 14 = .ok (.iload_n 2, 1) := by decide +kernel
theorem d13_15 : decode jdk_68_method_10_code 15 = .ok (.isub, 1) := by decide +kernel
theorem d13_16 : decode jdk_68_method_10_code 16 = .ok (.istore 4, 2) := by decide +kernel
theorem d13_18 : decode jdk_68_method_10_code 18 = .ok (.iload_n 2, 1) := by decide +kernel
theorem d13_19 : decode jdk_68_method_10_code 19 = .ok (.iload 4, 2) := by decide +kernel
theorem d13_21 : decode jdk_68_method_10_code 21 = .ok (.iload_n 2, 1) := by decide +kernel
theorem d13_22 : decode jdk_68_method_10_code 22 = .ok (.iconst 2, 1) := by decide +kernel
theorem d13_23 : decode jdk_68_method_10_code 23 = .ok (.aload_n 0, 1) := by decide +kernel
theorem d13_24 : decode jdk_68_method_10_code 24 = .ok (.getfield 22, 3) := by decide +kernel
theorem d13_27 : decode jdk_68_method_10_code 27 = .ok (.ishl, 1) := by decide +kernel
theorem d13_28 : decode jdk_68_method_10_code 28 = .ok (.iadd, 1) := by decide +kernel
theorem d13_29 : decode jdk_68_method_10_code 29 = .ok (.invokestatic 114, 3) := by decide +kernel
theorem d13_32 : decode jdk_68_method_10_code 32 = .ok (.istore 5, 2) := by decide +kernel
theorem d13_34 : decode jdk_68_method_10_code 34 = .ok (.iload 5, 2) := by decide +kernel
theorem d13_36 : decode jdk_68_method_10_code 36 = .ok (.ldc 39, 2) := by decide +kernel
theorem d13_38 : decode jdk_68_method_10_code 38 = .ok (.if_icmp .ne 13, 3) := by decide +kernel
theorem d13_51 : decode jdk_68_method_10_code 51 = .ok (.iload 5, 2) := by decide +kernel
theorem d13_53 : decode jdk_68_method_10_code 53 = .ok (.aload_n 0, 1) := by decide +kernel
theorem d13_54 : decode jdk_68_method_10_code 54 = .ok (.getfield 22, 3) := by decide +kernel
theorem d13_57 : decode jdk_68_method_10_code 57 = .ok (.ishr, 1) := by decide +kernel
theorem d13_58 : decode jdk_68_method_10_code 58 = .ok (.ireturn, 1) := by decide +kernel
theorem pd_6 : parseMethodDescriptor "(III)I" = some ⟨[.int, .int, .int], some .int⟩ := by decide +kernel
theorem pn_rmNCp : plainFor yy12 = true := by first | exact plainFor_of_name (by first | (simp [plainName, overriddenIn]; done) | decide +kernel) | decide +kernel
theorem ef_rmNCp (m : MethodId) (o : Addr) : entryFrame m #[(.ref o), (.int (39 : Int32))] 6 = (mkF m 0 #[rv o, iv (39 : Int32), .unset, .unset, .unset, .unset] []) := by first | (simp [entryFrame, mkF, argsToLocals, Value.category]; done) | rfl
def QNCp (Z : State) (o : Addr) (d : Addr) (kd : ClassId) (vs1 : List Value) (h0 : Heap) (n0 : Nat) (v_ : Option Value) (h_ : Heap) (L_ : List Loc) : Prop := (v_ = some (.int (39 : Int32))) ∧ (Fr n0 L_) ∧ (h_ = h0)
set_option maxRecDepth 65536 in
set_option maxHeartbeats 40000000 in
theorem rmNCp (l : Launch) (Z : State) (a0 : Array Value) (hw : ∀ d ∈ tables_1, d.before a0 Z = true) (ws : List Jvm.Cond) (o : Addr) (d : Addr) (kd : ClassId) (vs1 : List Value) (h0 : Heap) (n0 : Nat) (Z0 : n0 ≤ h0.size) (p_0 : Exa Z h0 o "java/lang/StringBuilder") (p_1 : Fld Z h0 o "java/lang/AbstractStringBuilder" "value" "[B" (.ref d)) (p_2 : Fld Z h0 o "java/lang/AbstractStringBuilder" "coder" "B" (.int (0 : Int32))) (p_3 : Arv Z h0 d kd .byte (16 : Int32) vs1 (.int (0 : Int32))) :
    MetFree l yy12 (head1 (Jvm.Cond.code yy12 jdk_68_method_10_code 6 (some .int) :: ws) rRrmNCp) (fun a_ U_ => a_ = #[(.ref o), (.int (39 : Int32))] ∧ Z.Warmed39 U_.vm ∧ U_.heap = h0) (fun _ _ _ _ _ => True) (fun _ U_ o_ U1_ => ∃ v_ L_, o_ = .returned v_ ∧ QNCp Z o d kd vs1 h0 n0 v_ U1_.heap L_ ∧ FrameEnd U_ o_ U1_ L_ rRrmNCp.cells rRrmNCp.slots) := by
  refine MetFree.of_bodySF pn_rmNCp hisR ?_
  intro p e s m args below meth c s₁ Bd hml0 hP hK
  obtain ⟨rfl, hZ, hh⟩ := hP
  have hx := Bd.exec
  have hby := Bd.bytes
  have hlk : meth.locks = false := Bd.notSynchronized
  have hml : c.maxLocals = 6 := hml0
  have hown : s.vm.findClass "java/lang/AbstractStringBuilder" = some m.cls := findClass_of_methodNamed Bd.named
  have hnm := (name_of_methodNamed Bd.named Bd.method).1
  have X0 : Stand p l e rRrmNCp s m #[(.ref o), (.int (39 : Int32))] below meth c s₁ [] 0 0 := Stand.of_body Bd
  have e0 : s₁.heap = h0 := by rw [← hh, Bd.state]; rfl
  have N0 := Fr.nil n0
  show own_Goes p e below s (QNCp Z o d kd vs1 h0 n0) rRrmNCp.cells rRrmNCp.slots s₁ (entryFrame m #[(.ref o), (.int (39 : Int32))] 6)
  rw [ef_rmNCp m o]
  show own_Goes p e below s (QNCp Z o d kd vs1 h0 n0) rRrmNCp.cells rRrmNCp.slots s₁ (mkF m 0 #[rv o, iv (39 : Int32), .unset, .unset, .unset, .unset] [])
  refine own_st (fun _ kk_ => XS.aloadN X0.here hx rfl (hb hby d13_0) rfl rfl kk_) ?_
  show own_Goes _ _ _ _ _ _ _ s₁ (mkF m 1 #[rv o, iv (39 : Int32), .unset, .unset, .unset, .unset] [(.ref o)])
  obtain ⟨T1, X1, e1, st1⟩ := getF X0 hx hZ hown (host := "") (Or.inl (own_w hw 55 rfl)) Via.refl e0 p_1 (g := (mkF m 1 #[rv o, iv (39 : Int32), .unset, .unset, .unset, .unset] [(.ref o)])) rfl rfl (hb hby d13_1)
  refine own_st st1 ?_
  show own_Goes _ _ _ _ _ _ _ T1 (mkF m 4 #[rv o, iv (39 : Int32), .unset, .unset, .unset, .unset] [(.ref d)])
  obtain ⟨cl2, Ar2, -, Sz2, Nn2, -, -⟩ := id p_3
  refine own_st (fun _ kk_ => X1.arraylength hx (by rw [e1]; exact Ar2.1) (State.isArrayOf_alike hZ.alike Ar2.2.1) (g := (mkF m 4 #[rv o, iv (39 : Int32), .unset, .unset, .unset, .unset] [(.ref d)])) rfl rfl (hb hby d13_4) _ kk_) ?_
  rw [len_of Sz2 Nn2]
  show own_Goes _ _ _ _ _ _ _ T1 (mkF m 5 #[rv o, iv (39 : Int32), .unset, .unset, .unset, .unset] [(.int (16 : Int32))])
  refine own_st (fun _ kk_ => XS.istoreN X1.here hx rfl (hb hby d13_5) rfl (l' := #[rv o, iv (39 : Int32), iv (16 : Int32), .unset, .unset, .unset]) rfl (XS.iloadN X1.here hx rfl (hb hby d13_6) rfl (XS.aloadN X1.here hx rfl (hb hby d13_7) rfl rfl kk_))) ?_
  show own_Goes _ _ _ _ _ _ _ T1 (mkF m 8 #[rv o, iv (39 : Int32), iv (16 : Int32), .unset, .unset, .unset] [(.ref o), (.int (39 : Int32))])
  obtain ⟨T3, X3, e3, st3⟩ := getF X1 hx hZ hown (host := "") (Or.inl (own_w hw 57 rfl)) Via.refl e1 p_2 (g := (mkF m 8 #[rv o, iv (39 : Int32), iv (16 : Int32), .unset, .unset, .unset] [(.ref o), (.int (39 : Int32))])) rfl rfl (hb hby d13_8)
  refine own_st st3 ?_
  show own_Goes _ _ _ _ _ _ _ T3 (mkF m 11 #[rv o, iv (39 : Int32), iv (16 : Int32), .unset, .unset, .unset] [(.int (0 : Int32)), (.int (39 : Int32))])
  refine own_st (fun _ kk_ => XS.ishl X3.here hx rfl (hb hby d13_11) rfl (XS.istoreN X3.here hx rfl (hb hby d13_12) rfl (l' := #[rv o, iv (39 : Int32), iv (16 : Int32), iv (39 : Int32), .unset, .unset]) rfl (XS.iloadN X3.here hx rfl (hb hby d13_13) rfl (XS.iloadN X3.here hx rfl (hb hby d13_14) rfl (XS.isub X3.here hx rfl (hb hby d13_15) rfl (XS.istore X3.here hx rfl (hb hby d13_16) rfl (l' := #[rv o, iv (39 : Int32), iv (16 : Int32), iv (39 : Int32), iv (23 : Int32), .unset]) rfl (XS.iloadN X3.here hx rfl (hb hby d13_18) rfl (XS.iload X3.here hx rfl (hb hby d13_19) rfl (XS.iloadN X3.here hx rfl (hb hby d13_21) rfl (XS.iconst X3.here hx rfl (hb hby d13_22) (XS.aloadN X3.here hx rfl (hb hby d13_23) rfl rfl kk_))))))))))) ?_
  show own_Goes _ _ _ _ _ _ _ T3 (mkF m 24 #[rv o, iv (39 : Int32), iv (16 : Int32), iv (39 : Int32), iv (23 : Int32), .unset] [(.ref o), (.int (2 : Int32)), (.int (16 : Int32)), (.int (23 : Int32)), (.int (16 : Int32))])
  obtain ⟨T4, X4, e4, st4⟩ := getF X3 hx hZ hown (host := "") (Or.inl (own_w hw 57 rfl)) Via.refl e3 p_2 (g := (mkF m 24 #[rv o, iv (39 : Int32), iv (16 : Int32), iv (39 : Int32), iv (23 : Int32), .unset] [(.ref o), (.int (2 : Int32)), (.int (16 : Int32)), (.int (23 : Int32)), (.int (16 : Int32))])) rfl rfl (hb hby d13_24)
  refine own_st st4 ?_
  show own_Goes _ _ _ _ _ _ _ T4 (mkF m 27 #[rv o, iv (39 : Int32), iv (16 : Int32), iv (39 : Int32), iv (23 : Int32), .unset] [(.int (0 : Int32)), (.int (2 : Int32)), (.int (16 : Int32)), (.int (23 : Int32)), (.int (16 : Int32))])
  refine own_st (fun _ kk_ => XS.ishl X4.here hx rfl (hb hby d13_27) rfl (XS.iadd X4.here hx rfl (hb hby d13_28) rfl kk_)) ?_
  show own_Goes _ _ _ _ _ _ _ T4 (mkF m 29 #[rv o, iv (39 : Int32), iv (16 : Int32), iv (39 : Int32), iv (23 : Int32), .unset] [(.int (18 : Int32)), (.int (23 : Int32)), (.int (16 : Int32))])
  obtain ⟨_, _, ⟨T5, L5, k5, n5⟩, -, X5, ⟨Lc5, hQ5, l5, y5, z5⟩, st5⟩ := Jvm.LawKit.callS X4 hx (y := yy11) hown (mvT hZ (own_w hw 95 rfl)) (mvT hZ (own_w hw 96 rfl)) (mvT hZ (own_w hw 97 rfl)) (mvT hZ (own_w hw 98 rfl)) (by decide) (backOf (W := 0) (rmNLp l Z a0 hw []  h0 n0 Z0) hZ (own_w hw 98 rfl) (own_w hw 97 rfl) (by decide) (by decide)) (g := (mkF m 29 #[rv o, iv (39 : Int32), iv (16 : Int32), iv (39 : Int32), iv (23 : Int32), .unset] [(.int (18 : Int32)), (.int (23 : Int32)), (.int (16 : Int32))])) rfl (by rw [hml]; rfl) (argsL := [(.int (16 : Int32)), (.int (23 : Int32)), (.int (18 : Int32))]) (rest := []) (lenOf pd_6 rfl) rfl (by show 2 * 0 + _ ≤ _; exact Nat.le_of_eq rfl) (hb hby d13_29) (fun _ _ => ⟨rfl, e4, (by decide : 0 + 0 ≤ _), (by decide : 0 + 0 ≤ _)⟩)
  dsimp only [Pt.U, Pt.locs, Pt.cells, Pt.slots] at X5 l5 y5 z5 st5 hQ5
  subst l5 y5 z5
  obtain ⟨rfl, Nq5, eq5⟩ := hQ5
  have N5 := Fr.app N0 Nq5
  refine own_st st5 ?_
  show own_Goes _ _ _ _ _ _ _ T5 (mkF m 32 #[rv o, iv (39 : Int32), iv (16 : Int32), iv (39 : Int32), iv (23 : Int32), .unset] [(.int (39 : Int32))])
  refine own_st (fun _ kk_ => XS.istore X5.here hx rfl (hb hby d13_32) rfl (l' := #[rv o, iv (39 : Int32), iv (16 : Int32), iv (39 : Int32), iv (23 : Int32), iv (39 : Int32)]) rfl (XS.iload X5.here hx rfl (hb hby d13_34) rfl (X5.ldcInt hx hown (mvT hZ (own_w hw 104 rfl)) (g := (mkF m 36 #[rv o, iv (39 : Int32), iv (16 : Int32), iv (39 : Int32), iv (23 : Int32), iv (39 : Int32)] [(.int (39 : Int32))])) rfl (hb hby d13_36) _ (XS.icmpYes X5.here hx rfl (pc0 := 38) (pc' := 51) rfl (hb hby d13_38) rfl (XT.ii_ne_t (by decide)) (by decide) (by decide) (XS.iload X5.here hx rfl (hb hby d13_51) rfl (XS.aloadN X5.here hx rfl (hb hby d13_53) rfl rfl kk_)))))) ?_
  show own_Goes _ _ _ _ _ _ _ T5 (mkF m 54 #[rv o, iv (39 : Int32), iv (16 : Int32), iv (39 : Int32), iv (23 : Int32), iv (39 : Int32)] [(.ref o), (.int (39 : Int32))])
  obtain ⟨T6, X6, e6, st6⟩ := getF X5 hx hZ hown (host := "") (Or.inl (own_w hw 57 rfl)) Via.refl eq5 p_2 (g := (mkF m 54 #[rv o, iv (39 : Int32), iv (16 : Int32), iv (39 : Int32), iv (23 : Int32), iv (39 : Int32)] [(.ref o), (.int (39 : Int32))])) rfl rfl (hb hby d13_54)
  refine own_st st6 ?_
  show own_Goes _ _ _ _ _ _ _ T6 (mkF m 57 #[rv o, iv (39 : Int32), iv (16 : Int32), iv (39 : Int32), iv (23 : Int32), iv (39 : Int32)] [(.int (0 : Int32)), (.int (39 : Int32))])
  refine own_st (fun _ kk_ => XS.ishr X6.here hx rfl (hb hby d13_57) rfl kk_) ?_
  show own_Goes _ _ _ _ _ _ _ T6 (mkF m 58 #[rv o, iv (39 : Int32), iv (16 : Int32), iv (39 : Int32), iv (23 : Int32), iv (39 : Int32)] [(.int (39 : Int32))])
  refine own_retI X6 hx hlk Bd.returns (hb hby d13_58) (by decide) (by decide) ?_
  show QNCp Z o d kd vs1 h0 n0 (some (.int (39 : Int32))) T6.heap _
  rw [e6]
  exact ⟨rfl, N5, rfl⟩
abbrev rRrmcp16_39 : Room := { frames := 1, cells := 1, slots := 39, locals := 18 }
theorem d16_0 : decode jdk_65_method_121_code 0 = .ok (.iload_n 1, 1) := by decide +kernel
theorem d16_1 : decode jdk_65_method_121_code 1 = .ok (.aload_n 0, 1) := by decide +kernel
theorem d16_2 : decode jdk_65_method_121_code 2 = .ok (.arraylength, 1) := by decide +kernel
theorem d16_3 : decode jdk_65_method_121_code 3 = .ok (.if_icmp .ne 11, 3) := by decide +kernel
theorem d16_14 : decode jdk_65_method_121_code 14 = .ok (.iload_n 1, 1) := by decide +kernel
theorem d16_15 : decode jdk_65_method_121_code 15 = .ok (.newarray .byte, 2) := by decide +kernel
theorem d16_17 : decode jdk_65_method_121_code 17 = .ok (.astore_n 2, 1) := by decide +kernel
theorem d16_18 : decode jdk_65_method_121_code 18 = .ok (.aload_n 0, 1) := by decide +kernel
theorem d16_19 : decode jdk_65_method_121_code 19 = .ok (.iconst 0, 1) := by decide +kernel
theorem d16_20 : decode jdk_65_method_121_code 20 = .ok (.aload_n 2, 1) := by decide +kernel
theorem d16_21 : decode jdk_65_method_121_code 21 = .ok (.iconst 0, 1) := by decide +kernel
theorem d16_22 : decode jdk_65_method_121_code 22 = .ok (.aload_n 0, 1) := by decide +kernel
theorem d16_23 : decode jdk_65_method_121_code 23 = .ok (.arraylength, 1) := by decide +kernel
theorem d16_24 : decode jdk_65_method_121_code 24 = .ok (.iload_n 1, 1) := by decide +kernel
theorem d16_25 : decode jdk_65_method_121_code 25 = .ok (.invokestatic 304, 3) := by decide +kernel
theorem d16_28 : decode jdk_65_method_121_code 28 = .ok (.invokestatic 150, 3) := by decide +kernel
theorem d16_31 : decode jdk_65_method_121_code 31 = .ok (.aload_n 2, 1) := by decide +kernel
theorem d16_32 : decode jdk_65_method_121_code 32 = .ok (.areturn, 1) := by decide +kernel
theorem pn_rmcp16_39 : plainFor yy13 = true := by first | exact plainFor_of_name (by first | (simp [plainName, overriddenIn]; done) | decide +kernel) | decide +kernel
theorem ef_rmcp16_39 (m : MethodId) (d : Addr) : entryFrame m #[(.ref d), (.int (39 : Int32))] 3 = (mkF m 0 #[rv d, iv (39 : Int32), .unset] []) := by first | (simp [entryFrame, mkF, argsToLocals, Value.category]; done) | rfl
def Qcp16_39 (Z : State) (d : Addr) (kd : ClassId) (vs1 : List Value) (h0 : Heap) (n0 : Nat) (v_ : Option Value) (h_ : Heap) (L_ : List Loc) : Prop := ∃ y : Addr, ∃ ky : ClassId, (v_ = some (.ref y)) ∧ (Fr n0 L_) ∧ (Keep h0 h_ []) ∧ (h0.size ≤ y) ∧ (Arv Z h_ y ky .byte (39 : Int32) (own_cp vs1 own_z39 (0 : Int32) (0 : Int32) (16 : Int32) (.int (0 : Int32))) (.int (0 : Int32)))
set_option maxRecDepth 65536 in
set_option maxHeartbeats 40000000 in
theorem rmcp16_39 (l : Launch) (Z : State) (a0 : Array Value) (hw : ∀ d ∈ tables_1, d.before a0 Z = true) (ws : List Jvm.Cond) (d : Addr) (kd : ClassId) (vs1 : List Value) (h0 : Heap) (n0 : Nat) (Z0 : n0 ≤ h0.size) (p_0 : Arv Z h0 d kd .byte (16 : Int32) vs1 (.int (0 : Int32))) :
    MetFree l yy13 (head1 (Jvm.Cond.code yy13 jdk_65_method_121_code 3 (some (.array .byte)) :: ws) rRrmcp16_39) (fun a_ U_ => a_ = #[(.ref d), (.int (39 : Int32))] ∧ Z.Warmed39 U_.vm ∧ U_.heap = h0) (fun _ _ _ _ _ => True) (fun _ U_ o_ U1_ => ∃ v_ L_, o_ = .returned v_ ∧ Qcp16_39 Z d kd vs1 h0 n0 v_ U1_.heap L_ ∧ FrameEnd U_ o_ U1_ L_ rRrmcp16_39.cells rRrmcp16_39.slots) := by
  refine MetFree.of_bodySF pn_rmcp16_39 hisR ?_
  intro p e s m args below meth c s₁ Bd hml0 hP hK
  obtain ⟨rfl, hZ, hh⟩ := hP
  have hx := Bd.exec
  have hby := Bd.bytes
  have hlk : meth.locks = false := Bd.notSynchronized
  have hml : c.maxLocals = 3 := hml0
  have hown : s.vm.findClass "java/util/Arrays" = some m.cls := findClass_of_methodNamed Bd.named
  have hnm := (name_of_methodNamed Bd.named Bd.method).1
  have X0 : Stand p l e rRrmcp16_39 s m #[(.ref d), (.int (39 : Int32))] below meth c s₁ [] 0 0 := Stand.of_body Bd
  have e0 : s₁.heap = h0 := by rw [← hh, Bd.state]; rfl
  have N0 := Fr.nil n0
  show own_Goes p e below s (Qcp16_39 Z d kd vs1 h0 n0) rRrmcp16_39.cells rRrmcp16_39.slots s₁ (entryFrame m #[(.ref d), (.int (39 : Int32))] 3)
  rw [ef_rmcp16_39 m d]
  show own_Goes p e below s (Qcp16_39 Z d kd vs1 h0 n0) rRrmcp16_39.cells rRrmcp16_39.slots s₁ (mkF m 0 #[rv d, iv (39 : Int32), .unset] [])
  refine own_st (fun _ kk_ => XS.iloadN X0.here hx rfl (hb hby d16_0) rfl (XS.aloadN X0.here hx rfl (hb hby d16_1) rfl rfl kk_)) ?_
  show own_Goes _ _ _ _ _ _ _ s₁ (mkF m 2 #[rv d, iv (39 : Int32), .unset] [(.ref d), (.int (39 : Int32))])
  obtain ⟨cl1, Ar1, -, Sz1, Nn1, -, -⟩ := id p_0
  refine own_st (fun _ kk_ => X0.arraylength hx (by rw [e0]; exact Ar1.1) (State.isArrayOf_alike hZ.alike Ar1.2.1) (g := (mkF m 2 #[rv d, iv (39 : Int32), .unset] [(.ref d), (.int (39 : Int32))])) rfl rfl (hb hby d16_2) _ kk_) ?_
  rw [len_of Sz1 Nn1]
  show own_Goes _ _ _ _ _ _ _ s₁ (mkF m 3 #[rv d, iv (39 : Int32), .unset] [(.int (16 : Int32)), (.int (39 : Int32))])
  refine own_st (fun _ kk_ => XS.icmpYes X0.here hx rfl (pc0 := 3) (pc' := 14) rfl (hb hby d16_3) rfl (XT.ii_ne_t (by decide)) (by decide) (by decide) (XS.iloadN X0.here hx rfl (hb hby d16_14) rfl kk_)) ?_
  show own_Goes _ _ _ _ _ _ _ s₁ (mkF m 15 #[rv d, iv (39 : Int32), .unset] [(.int (39 : Int32))])
  obtain ⟨T2, h2, k2, X2, e2, E2, A2, st2⟩ := newP X0 hx hZ (own_w hw 21 rfl) e0 (g := (mkF m 15 #[rv d, iv (39 : Int32), .unset] [(.int (39 : Int32))])) rfl (hb hby d16_15) rfl (by decide) (cap := 39) (by decide) (by decide) (by decide) (by decide)
  obtain ⟨b2, gx2⟩ : ∃ z, z = h0.size := ⟨_, rfl⟩
  rw [← gx2] at A2 st2
  have ne2_d : d ≠ b2 := Nat.ne_of_lt (Nat.lt_of_lt_of_eq p_0.lt gx2.symm)
  have gg2 : n0 ≤ b2 := Nat.le_trans Z0 (Nat.le_of_eq gx2.symm)
  have sz2 : h0.size ≤ b2 := Nat.le_trans (Keep.refl h0 []).1 (Nat.le_of_eq gx2.symm)
  have f2_0 := p_0.ext E2
  have Zs2 : n0 ≤ h2.size := Nat.le_trans Z0 E2.1
  have K2 := (Keep.refl h0 []).ext E2
  have V2 : Arv Z h2 b2 k2 .byte (39 : Int32) [(.int (0 : Int32)), (.int (0 : Int32)), (.int (0 : Int32)), (.int (0 : Int32)), (.int (0 : Int32)), (.int (0 : Int32)), (.int (0 : Int32)), (.int (0 : Int32)), (.int (0 : Int32)), (.int (0 : Int32)), (.int (0 : Int32)), (.int (0 : Int32)), (.int (0 : Int32)), (.int (0 : Int32)), (.int (0 : Int32)), (.int (0 : Int32)), (.int (0 : Int32)), (.int (0 : Int32)), (.int (0 : Int32)), (.int (0 : Int32)), (.int (0 : Int32)), (.int (0 : Int32)), (.int (0 : Int32)), (.int (0 : Int32)), (.int (0 : Int32)), (.int (0 : Int32)), (.int (0 : Int32)), (.int (0 : Int32)), (.int (0 : Int32)), (.int (0 : Int32)), (.int (0 : Int32)), (.int (0 : Int32)), (.int (0 : Int32)), (.int (0 : Int32)), (.int (0 : Int32)), (.int (0 : Int32)), (.int (0 : Int32)), (.int (0 : Int32)), (.int (0 : Int32))] (.int (0 : Int32)) := (Arv.new A2 (by decide)).pad (pad_rep [] (.int (0 : Int32)) 39)
  refine own_st st2 ?_
  show own_Goes _ _ _ _ _ _ _ T2 (mkF m 17 #[rv d, iv (39 : Int32), .unset] [(.ref b2)])
  have Vz : Arv Z h2 b2 k2 .byte (39 : Int32) own_z39 (.int (0 : Int32)) := V2
  refine own_st (fun _ kk_ => XS.astoreN X2.here hx rfl (hb hby d16_17) rfl rfl (l' := #[rv d, iv (39 : Int32), rv b2]) rfl (XS.aloadN X2.here hx rfl (hb hby d16_18) rfl rfl (XS.iconst X2.here hx rfl (hb hby d16_19) (XS.aloadN X2.here hx rfl (hb hby d16_20) rfl rfl (XS.iconst X2.here hx rfl (hb hby d16_21) (XS.aloadN X2.here hx rfl (hb hby d16_22) rfl rfl kk_)))))) ?_
  show own_Goes _ _ _ _ _ _ _ T2 (mkF m 23 #[rv d, iv (39 : Int32), rv b2] [(.ref d), (.int (0 : Int32)), (.ref b2), (.int (0 : Int32)), (.ref d)])
  obtain ⟨cl3, Ar3, -, Sz3, Nn3, -, -⟩ := id f2_0
  refine own_st (fun _ kk_ => X2.arraylength hx (by rw [e2]; exact Ar3.1) (State.isArrayOf_alike hZ.alike Ar3.2.1) (g := (mkF m 23 #[rv d, iv (39 : Int32), rv b2] [(.ref d), (.int (0 : Int32)), (.ref b2), (.int (0 : Int32)), (.ref d)])) rfl rfl (hb hby d16_23) _ kk_) ?_
  rw [len_of Sz3 Nn3]
  show own_Goes _ _ _ _ _ _ _ T2 (mkF m 24 #[rv d, iv (39 : Int32), rv b2] [(.int (16 : Int32)), (.int (0 : Int32)), (.ref b2), (.int (0 : Int32)), (.ref d)])
  refine own_st (fun _ kk_ => XS.iloadN X2.here hx rfl (hb hby d16_24) rfl kk_) ?_
  show own_Goes _ _ _ _ _ _ _ T2 (mkF m 25 #[rv d, iv (39 : Int32), rv b2] [(.int (39 : Int32)), (.int (16 : Int32)), (.int (0 : Int32)), (.ref b2), (.int (0 : Int32)), (.ref d)])
  obtain ⟨_, _, ⟨T4, L4, k4, n4⟩, -, X4, ⟨Lc4, hQ4, l4, y4, z4⟩, st4⟩ := Jvm.LawKit.callS X2 hx (y := yy3) hown (mvT hZ (own_w hw 109 rfl)) (mvT hZ (own_w hw 110 rfl)) (mvT hZ (own_w hw 101 rfl)) (mvT hZ (own_w hw 111 rfl)) (by decide) (backOf (W := 4) (rmnA l Z a0 hw [] ((16 : Int32)) ((39 : Int32)) h2 n0 Zs2 (by decide)) hZ (own_w hw 111 rfl) (own_w hw 101 rfl) (by decide) (by decide)) (g := (mkF m 25 #[rv d, iv (39 : Int32), rv b2] [(.int (39 : Int32)), (.int (16 : Int32)), (.int (0 : Int32)), (.ref b2), (.int (0 : Int32)), (.ref d)])) rfl (by rw [hml]; rfl) (argsL := [(.int (16 : Int32)), (.int (39 : Int32))]) (rest := [(.int (0 : Int32)), (.ref b2), (.int (0 : Int32)), (.ref d)]) (lenOf pd_5 rfl) rfl (by show 2 * 0 + _ ≤ _; exact Nat.le_of_eq rfl) (hb hby d16_25) (fun _ _ => ⟨rfl, e2, (by decide : 1 + 0 ≤ _), (by decide : 39 + 0 ≤ _)⟩)
  dsimp only [Pt.U, Pt.locs, Pt.cells, Pt.slots] at X4 l4 y4 z4 st4 hQ4
  subst l4 y4 z4
  obtain ⟨rfl, Nq4, eq4⟩ := hQ4
  have N4 := Fr.app N0 Nq4
  refine own_st st4 ?_
  show own_Goes _ _ _ _ _ _ _ T4 (mkF m 28 #[rv d, iv (39 : Int32), rv b2] [(.int (16 : Int32)), (.int (0 : Int32)), (.ref b2), (.int (0 : Int32)), (.ref d)])
  obtain ⟨T5, h5, L5, X5, e5, N5, Kp5, A5, st5⟩ := cpA X4 hx hZ hown (own_w hw 112 rfl) (own_w hw 115 rfl) (own_w hw 113 rfl) (own_w hw 114 rfl) eq4 f2_0 Vz (Or.inl ⟨rfl, rfl⟩) (by decide) (by decide) (by decide) (by decide) (by decide) rfl (Nat.le_of_ble_eq_true rfl) N4 gg2 (g := (mkF m 28 #[rv d, iv (39 : Int32), rv b2] [(.int (16 : Int32)), (.int (0 : Int32)), (.ref b2), (.int (0 : Int32)), (.ref d)])) rfl (by rw [hml]; rfl) (rest := []) rfl (hb hby d16_28) (by decide) (W := 0) (by show 2 * 0 + _ ≤ _; exact Nat.le_of_eq rfl) (by decide)
  have f5_0 := f2_0.keep Kp5 (ninS ne2_d nin0)
  have Zs5 : n0 ≤ h5.size := Nat.le_trans Zs2 Kp5.1
  have K5 := K2.trans Kp5 (allS (Or.inr sz2) all0)
  have V5 : Arv Z h5 b2 k2 .byte (39 : Int32) (own_cp vs1 own_z39 (0 : Int32) (0 : Int32) (16 : Int32) (.int (0 : Int32))) (.int (0 : Int32)) := A5
  refine own_st st5 ?_
  show own_Goes _ _ _ _ _ _ _ T5 (mkF m 31 #[rv d, iv (39 : Int32), rv b2] [])
  refine own_st (fun _ kk_ => XS.aloadN X5.here hx rfl (hb hby d16_31) rfl rfl kk_) ?_
  show own_Goes _ _ _ _ _ _ _ T5 (mkF m 32 #[rv d, iv (39 : Int32), rv b2] [(.ref b2)])
  refine own_retA X5 hx hlk rfl Bd.returns rfl (hb hby d16_32) (by decide) (by decide) ?_
  show Qcp16_39 Z d kd vs1 h0 n0 (some (.ref b2)) T5.heap _
  rw [e5]
  exact ⟨b2, k2, rfl, N5, K5, sz2, V5⟩
abbrev rRrmECp : Room := { frames := 3, cells := 1, slots := 39, locals := 48 }
theorem d12_0 : decode jdk_68_method_9_code 0 = .ok (.aload_n 0, 1) := by decide +kernel
theorem d12_1 : decode jdk_68_method_9_code 1 = .ok (.getfield 15, 3) := by decide +kernel
theorem d12_4 : decode jdk_68_method_9_code 4 = .ok (.arraylength, 1) := by decide +kernel
theorem d12_5 : decode jdk_68_method_9_code 5 = .ok (.aload_n 0, 1) := by decide +kernel
theorem d12_6 : decode jdk_68_method_9_code 6 = .ok (.getfield 22, 3) := by decide +kernel
theorem d12_9 : decode jdk_68_method_9_code 9 = .ok (.ishr, 1) := by decide +kernel
theorem d12_10 : decode jdk_68_method_9_code 10 = .ok (.istore_n 2, 1) := by decide +kernel
theorem d12_11 : decode jdk_68_method_9_code 11 = .ok (.iload_n 1, 1) := by decide +kernel
theorem d12_12 : decode jdk_68_method_9_code 12 = .ok (.iload_n 2, 1) := by decide +kernel
theorem d12_13 : decode jdk_68_method_9_code 13 = .ok (.isub, 1) := by decide +kernel
theorem d12_14 : decode jdk_68_method_9_code 14 = .ok (.ifCond .le 24, 3) := by decide +kernel
theorem d12_17 : decode jdk_68_method_9_code 17 = .ok (.aload_n 0, 1) := by decide +kernel
theorem d12_18 : decode jdk_68_method_9_code 18 = .ok (.aload_n 0, 1) := by decide +kernel
theorem d12_19 : decode jdk_68_method_9_code 19 = .ok (.getfield 15, 3) := by decide +kernel
theorem d12_22 : decode jdk_68_method_9_code 22 = .ok (.aload_n 0, 1) := by decide +kernel
theorem d12_23 : decode jdk_68_method_9_code 23 = .ok (.iload_n 1, 1) := by decide +kernel
theorem d12_24 : decode jdk_68_method_9_code 24 = .ok (.invokevirtual 104, 3) := by decide +kernel
theorem d12_27 : decode jdk_68_method_9_code 27 = .ok (.aload_n 0, 1) := by decide +kernel
theorem d12_28 : decode jdk_68_method_9_code 28 = .ok (.getfield 22, 3) := by decide +kernel
theorem d12_31 : decode jdk_68_method_9_code 31 = .ok (.ishl, 1) := by decide +kernel
theorem d12_32 : decode jdk_68_method_9_code 32 = .ok (.invokestatic 108, 3) := by decide +kernel
theorem d12_35 : decode jdk_68_method_9_code 35 = .ok (.putfield 15, 3) := by decide +kernel
theorem d12_38 : decode jdk_68_method_9_code 38 = .ok (.return_, 1) := by decide +kernel
theorem pd_7 : parseMethodDescriptor "(I)I" = some ⟨[.int], some .int⟩ := by decide +kernel
theorem pd_8 : parseMethodDescriptor "([BI)[B" = some ⟨[(.array .byte), .int], some (.array .byte)⟩ := by decide +kernel
theorem pn_rmECp : plainFor yy14 = true := by first | exact plainFor_of_name (by first | (simp [plainName, overriddenIn]; done) | decide +kernel) | decide +kernel
theorem ef_rmECp (m : MethodId) (o : Addr) : entryFrame m #[(.ref o), (.int (39 : Int32))] 3 = (mkF m 0 #[rv o, iv (39 : Int32), .unset] []) := by first | (simp [entryFrame, mkF, argsToLocals, Value.category]; done) | rfl
def QECp (Z : State) (o : Addr) (d : Addr) (kd : ClassId) (vs1 : List Value) (cn : Int32) (h0 : Heap) (n0 : Nat) (v_ : Option Value) (h_ : Heap) (L_ : List Loc) : Prop := ∃ y : Addr, ∃ ky : ClassId, (v_ = none) ∧ (Fr n0 L_) ∧ (Keep h0 h_ [o]) ∧ (h0.size ≤ y) ∧ (Exa Z h_ o "java/lang/StringBuilder") ∧ (Fld Z h_ o "java/lang/AbstractStringBuilder" "value" "[B" (.ref y)) ∧ (Fld Z h_ o "java/lang/AbstractStringBuilder" "coder" "B" (.int (0 : Int32))) ∧ (Fld Z h_ o "java/lang/AbstractStringBuilder" "count" "I" (.int cn)) ∧ (Arv Z h_ y ky .byte (39 : Int32) (own_cp vs1 own_z39 (0 : Int32) (0 : Int32) (16 : Int32) (.int (0 : Int32))) (.int (0 : Int32)))
set_option maxRecDepth 65536 in
set_option maxHeartbeats 40000000 in
theorem rmECp (l : Launch) (Z : State) (a0 : Array Value) (hw : ∀ d ∈ tables_1, d.before a0 Z = true) (ws : List Jvm.Cond) (o : Addr) (d : Addr) (kd : ClassId) (vs1 : List Value) (cn : Int32) (h0 : Heap) (n0 : Nat) (Z0 : n0 ≤ h0.size) (p_0 : Exa Z h0 o "java/lang/StringBuilder") (p_1 : Fld Z h0 o "java/lang/AbstractStringBuilder" "value" "[B" (.ref d)) (p_2 : Fld Z h0 o "java/lang/AbstractStringBuilder" "coder" "B" (.int (0 : Int32))) (p_3 : Fld Z h0 o "java/lang/AbstractStringBuilder" "count" "I" (.int cn)) (p_4 : n0 ≤ o) (p_5 : Arv Z h0 d kd .byte (16 : Int32) vs1 (.int (0 : Int32))) :
    MetFree l yy14 (head1 (Jvm.Cond.code yy14 jdk_68_method_9_code 3 none :: ws) rRrmECp) (fun a_ U_ => a_ = #[(.ref o), (.int (39 : Int32))] ∧ Z.Warmed39 U_.vm ∧ U_.heap = h0) (fun _ _ _ _ _ => True) (fun _ U_ o_ U1_ => ∃ v_ L_, o_ = .returned v_ ∧ QECp Z o d kd vs1 cn h0 n0 v_ U1_.heap L_ ∧ FrameEnd U_ o_ U1_ L_ rRrmECp.cells rRrmECp.slots) := by
  refine MetFree.of_bodySF pn_rmECp hisR ?_
  intro p e s m args below meth c s₁ Bd hml0 hP hK
  obtain ⟨rfl, hZ, hh⟩ := hP
  have hx := Bd.exec
  have hby := Bd.bytes
  have hlk : meth.locks = false := Bd.notSynchronized
  have hml : c.maxLocals = 3 := hml0
  have hown : s.vm.findClass "java/lang/AbstractStringBuilder" = some m.cls := findClass_of_methodNamed Bd.named
  have hnm := (name_of_methodNamed Bd.named Bd.method).1
  have X0 : Stand p l e rRrmECp s m #[(.ref o), (.int (39 : Int32))] below meth c s₁ [] 0 0 := Stand.of_body Bd
  have e0 : s₁.heap = h0 := by rw [← hh, Bd.state]; rfl
  have N0 := Fr.nil n0
  show own_Goes p e below s (QECp Z o d kd vs1 cn h0 n0) rRrmECp.cells rRrmECp.slots s₁ (entryFrame m #[(.ref o), (.int (39 : Int32))] 3)
  rw [ef_rmECp m o]
  show own_Goes p e below s (QECp Z o d kd vs1 cn h0 n0) rRrmECp.cells rRrmECp.slots s₁ (mkF m 0 #[rv o, iv (39 : Int32), .unset] [])
  refine own_st (fun _ kk_ => XS.aloadN X0.here hx rfl (hb hby d12_0) rfl rfl kk_) ?_
  show own_Goes _ _ _ _ _ _ _ s₁ (mkF m 1 #[rv o, iv (39 : Int32), .unset] [(.ref o)])
  obtain ⟨T1, X1, e1, st1⟩ := getF X0 hx hZ hown (host := "") (Or.inl (own_w hw 55 rfl)) Via.refl e0 p_1 (g := (mkF m 1 #[rv o, iv (39 : Int32), .unset] [(.ref o)])) rfl rfl (hb hby d12_1)
  refine own_st st1 ?_
  show own_Goes _ _ _ _ _ _ _ T1 (mkF m 4 #[rv o, iv (39 : Int32), .unset] [(.ref d)])
  obtain ⟨cl2, Ar2, -, Sz2, Nn2, -, -⟩ := id p_5
  refine own_st (fun _ kk_ => X1.arraylength hx (by rw [e1]; exact Ar2.1) (State.isArrayOf_alike hZ.alike Ar2.2.1) (g := (mkF m 4 #[rv o, iv (39 : Int32), .unset] [(.ref d)])) rfl rfl (hb hby d12_4) _ kk_) ?_
  rw [len_of Sz2 Nn2]
  show own_Goes _ _ _ _ _ _ _ T1 (mkF m 5 #[rv o, iv (39 : Int32), .unset] [(.int (16 : Int32))])
  refine own_st (fun _ kk_ => XS.aloadN X1.here hx rfl (hb hby d12_5) rfl rfl kk_) ?_
  show own_Goes _ _ _ _ _ _ _ T1 (mkF m 6 #[rv o, iv (39 : Int32), .unset] [(.ref o), (.int (16 : Int32))])
  obtain ⟨T3, X3, e3, st3⟩ := getF X1 hx hZ hown (host := "") (Or.inl (own_w hw 57 rfl)) Via.refl e1 p_2 (g := (mkF m 6 #[rv o, iv (39 : Int32), .unset] [(.ref o), (.int (16 : Int32))])) rfl rfl (hb hby d12_6)
  refine own_st st3 ?_
  show own_Goes _ _ _ _ _ _ _ T3 (mkF m 9 #[rv o, iv (39 : Int32), .unset] [(.int (0 : Int32)), (.int (16 : Int32))])
  refine own_st (fun _ kk_ => XS.ishr X3.here hx rfl (hb hby d12_9) rfl (XS.istoreN X3.here hx rfl (hb hby d12_10) rfl (l' := #[rv o, iv (39 : Int32), iv (16 : Int32)]) rfl (XS.iloadN X3.here hx rfl (hb hby d12_11) rfl (XS.iloadN X3.here hx rfl (hb hby d12_12) rfl (XS.isub X3.here hx rfl (hb hby d12_13) rfl (XS.ifNo X3.here hx rfl (hb hby d12_14) rfl (XT.i0_le_f (by decide)) (XS.aloadN X3.here hx rfl (hb hby d12_17) rfl rfl (XS.aloadN X3.here hx rfl (hb hby d12_18) rfl rfl kk_)))))))) ?_
  show own_Goes _ _ _ _ _ _ _ T3 (mkF m 19 #[rv o, iv (39 : Int32), iv (16 : Int32)] [(.ref o), (.ref o)])
  obtain ⟨T4, X4, e4, st4⟩ := getF X3 hx hZ hown (host := "") (Or.inl (own_w hw 55 rfl)) Via.refl e3 p_1 (g := (mkF m 19 #[rv o, iv (39 : Int32), iv (16 : Int32)] [(.ref o), (.ref o)])) rfl rfl (hb hby d12_19)
  refine own_st st4 ?_
  show own_Goes _ _ _ _ _ _ _ T4 (mkF m 22 #[rv o, iv (39 : Int32), iv (16 : Int32)] [(.ref d), (.ref o)])
  refine own_st (fun _ kk_ => XS.aloadN X4.here hx rfl (hb hby d12_22) rfl rfl (XS.iloadN X4.here hx rfl (hb hby d12_23) rfl kk_)) ?_
  show own_Goes _ _ _ _ _ _ _ T4 (mkF m 24 #[rv o, iv (39 : Int32), iv (16 : Int32)] [(.int (39 : Int32)), (.ref o), (.ref d), (.ref o)])
  obtain ⟨cq5, q5, q5'⟩ := p_0.cell
  obtain ⟨_, _, ⟨T5, L5, k5, n5⟩, -, X5, ⟨Lc5, hQ5, l5, y5, z5⟩, st5⟩ := X4.privateBack hx (y := yy12) hown (mvT hZ (own_w hw 90 rfl)) (mvT hZ (own_w hw 91 rfl)) (own_selp (mvT hZ (own_w hw 93 rfl)) (Cond.privateMethod_at (mvP hZ (own_w hw 92 rfl) (args := #[]))) (mvT hZ (own_w hw 91 rfl)) (by decide)) (Cond.privateMethod_at (mvP hZ (own_w hw 92 rfl) (args := #[]))) (mvT hZ (own_w hw 94 rfl)) (by decide) (backOf (W := 2) (rmNCp l Z a0 hw [] (o) (d) (kd) (vs1) h0 n0 Z0 p_0 p_1 p_2 p_5) hZ (own_w hw 94 rfl) (own_w hw 51 rfl) (by decide) (by decide)) (g := (mkF m 24 #[rv o, iv (39 : Int32), iv (16 : Int32)] [(.int (39 : Int32)), (.ref o), (.ref d), (.ref o)])) rfl (by rw [hml]; rfl) (Steps.refl _) (a := o) (by rw [e4]; exact q5) q5' (argsL := [(.int (39 : Int32))]) (rest := [(.ref d), (.ref o)]) (lenOf pd_7 rfl) rfl (by show 2 * 0 + _ ≤ _; exact Nat.le_of_eq rfl) (hb hby d12_24) (fun _ _ => ⟨rfl, e4, (by decide : 0 + 0 ≤ _), (by decide : 0 + 0 ≤ _)⟩)
  dsimp only [Pt.U, Pt.locs, Pt.cells, Pt.slots] at X5 l5 y5 z5 st5 hQ5
  subst l5 y5 z5
  obtain ⟨rfl, Nq5, eq5⟩ := hQ5
  have N5 := Fr.app N0 Nq5
  refine own_st (fun _ kk_ => st5.trans kk_) ?_
  show own_Goes _ _ _ _ _ _ _ T5 (mkF m 27 #[rv o, iv (39 : Int32), iv (16 : Int32)] [(.int (39 : Int32)), (.ref d), (.ref o)])
  refine own_st (fun _ kk_ => XS.aloadN X5.here hx rfl (hb hby d12_27) rfl rfl kk_) ?_
  show own_Goes _ _ _ _ _ _ _ T5 (mkF m 28 #[rv o, iv (39 : Int32), iv (16 : Int32)] [(.ref o), (.int (39 : Int32)), (.ref d), (.ref o)])
  obtain ⟨T6, X6, e6, st6⟩ := getF X5 hx hZ hown (host := "") (Or.inl (own_w hw 57 rfl)) Via.refl eq5 p_2 (g := (mkF m 28 #[rv o, iv (39 : Int32), iv (16 : Int32)] [(.ref o), (.int (39 : Int32)), (.ref d), (.ref o)])) rfl rfl (hb hby d12_28)
  refine own_st st6 ?_
  show own_Goes _ _ _ _ _ _ _ T6 (mkF m 31 #[rv o, iv (39 : Int32), iv (16 : Int32)] [(.int (0 : Int32)), (.int (39 : Int32)), (.ref d), (.ref o)])
  refine own_st (fun _ kk_ => XS.ishl X6.here hx rfl (hb hby d12_31) rfl kk_) ?_
  show own_Goes _ _ _ _ _ _ _ T6 (mkF m 32 #[rv o, iv (39 : Int32), iv (16 : Int32)] [(.int (39 : Int32)), (.ref d), (.ref o)])
  obtain ⟨_, _, ⟨T7, L7, k7, n7⟩, -, X7, ⟨Lc7, hQ7, l7, y7, z7⟩, st7⟩ := Jvm.LawKit.callS X6 hx (y := yy13) hown (mvT hZ (own_w hw 105 rfl)) (mvT hZ (own_w hw 106 rfl)) (mvT hZ (own_w hw 107 rfl)) (mvT hZ (own_w hw 108 rfl)) (by decide) (backOf (W := 1) (rmcp16_39 l Z a0 hw [] (d) (kd) (vs1) h0 n0 Z0 p_5) hZ (own_w hw 108 rfl) (own_w hw 107 rfl) (by decide) (by decide)) (g := (mkF m 32 #[rv o, iv (39 : Int32), iv (16 : Int32)] [(.int (39 : Int32)), (.ref d), (.ref o)])) rfl (by rw [hml]; rfl) (argsL := [(.ref d), (.int (39 : Int32))]) (rest := [(.ref o)]) (lenOf pd_8 rfl) rfl (by show 2 * 0 + _ ≤ _; exact Nat.le_of_eq rfl) (hb hby d12_32) (fun _ _ => ⟨rfl, e6, (by decide : 0 + 1 ≤ _), (by decide : 0 + 39 ≤ _)⟩)
  dsimp only [Pt.U, Pt.locs, Pt.cells, Pt.slots] at X7 l7 y7 z7 st7 hQ7
  subst l7 y7 z7
  obtain ⟨x7_y, x7_ky, rfl, Nq7, Kq7, u7_0, u7_1⟩ := hQ7
  have N7 := Fr.app N5 Nq7
  have f7_0 := p_0.keep Kq7
  have f7_1 := p_1.keep Kq7 nin0
  have f7_2 := p_2.keep Kq7 nin0
  have f7_3 := p_3.keep Kq7 nin0
  have f7_4 := p_5.keep Kq7 nin0
  have Zs7 : n0 ≤ T7.heap.size := Nat.le_trans Z0 Kq7.1
  have K7 := (Keep.refl h0 [o]).trans Kq7 all0
  have ne7_o : o ≠ x7_y := Nat.ne_of_lt (Nat.lt_of_lt_of_le p_0.lt u7_0)
  have ne7_d : d ≠ x7_y := Nat.ne_of_lt (Nat.lt_of_lt_of_le p_5.lt u7_0)
  have sz7_y : h0.size ≤ x7_y := Nat.le_trans (Keep.refl h0 [o]).1 u7_0
  have gg7_y : n0 ≤ x7_y := Nat.le_trans Z0 u7_0
  refine own_st st7 ?_
  show own_Goes _ _ _ _ _ _ _ T7 (mkF m 35 #[rv o, iv (39 : Int32), iv (16 : Int32)] [(.ref x7_y), (.ref o)])
  obtain ⟨T8, h8, X8, e8, W8, st8⟩ := putF X7 hx hZ hown (host := "") (Or.inl (own_w hw 55 rfl)) Via.refl rfl f7_1 f7_0 (Or.inl (own_w hw 56 rfl)) (own_w hw 42 rfl) (ty := (.array .byte)) (by decide) rfl rfl (g := (mkF m 35 #[rv o, iv (39 : Int32), iv (16 : Int32)] [(.ref x7_y), (.ref o)])) rfl rfl (hb hby d12_35)
  have fw8 : Fld Z h8 o "java/lang/AbstractStringBuilder" "value" "[B" (.ref x7_y) := f7_1.same W8
  have f8_0 := f7_0.wr W8
  have f8_2 := f7_2.other W8 (Or.inr (slot_ne (Or.inl (own_w hw 58 rfl)) (Or.inl (own_w hw 56 rfl)) (by decide) (t := .byte) (t' := (.array .byte)) (by decide) (by decide)))
  have f8_3 := f7_3.other W8 (Or.inr (slot_ne (Or.inl (own_w hw 84 rfl)) (Or.inl (own_w hw 56 rfl)) (by decide) (t := .int) (t' := (.array .byte)) (by decide) (by decide)))
  have f8_5 := u7_1.other W8 (Ne.symm ne7_o)
  have Zs8 : n0 ≤ h8.size := Nat.le_trans Zs7 (Nat.le_of_eq W8.size.symm)
  have K8 := K7.wr W8 (Or.inl (List.mem_of_getElem? (i := 0) rfl))
  have N8 := Fr.snoc X8 N7 p_4
  refine own_st st8 ?_
  show own_Goes _ _ _ _ _ _ _ T8 (mkF m 38 #[rv o, iv (39 : Int32), iv (16 : Int32)] [])
  refine own_ret0 X8 hx hlk Bd.returns (hb hby d12_38) (by decide) (by decide) ?_
  show QECp Z o d kd vs1 cn h0 n0 none T8.heap _
  rw [e8]
  exact ⟨x7_y, x7_ky, rfl, N8, K8, sz7_y, f8_0, fw8, f8_2, f8_3, f8_5⟩
abbrev rRrmAAp : Room := { frames := 4, cells := 1, slots := 39, locals := 62 }
theorem d9_0 : decode jdk_68_method_22_code 0 = .ok (.aload_n 1, 1) := by decide +kernel
theorem d9_1 : decode jdk_68_method_22_code 1 = .ok (.ifnonnull 8, 3) := by decide +kernel
theorem d9_9 : decode jdk_68_method_22_code 9 = .ok (.aload_n 1, 1) := by decide +kernel
theorem d9_10 : decode jdk_68_method_22_code 10 = .ok (.invokevirtual 32, 3) := by decide +kernel
theorem d9_13 : decode jdk_68_method_22_code 13 = .ok (.istore_n 2, 1) := by decide +kernel
theorem d9_14 : decode jdk_68_method_22_code 14 = .ok (.aload_n 0, 1) := by decide +kernel
theorem d9_15 : decode jdk_68_method_22_code 15 = .ok (.aload_n 0, 1) := by decide +kernel
theorem d9_16 : decode jdk_68_method_22_code 16 = .ok (.getfield 79, 3) := by decide +kernel
theorem d9_19 : decode jdk_68_method_22_code 19 = .ok (.iload_n 2, 1) := by decide +kernel
theorem d9_20 : decode jdk_68_method_22_code 20 = .ok (.iadd, 1) := by decide +kernel
theorem d9_21 : decode jdk_68_method_22_code 21 = .ok (.invokevirtual 100, 3) := by decide +kernel
theorem d9_24 : decode jdk_68_method_22_code 24 = .ok (.aload_n 0, 1) := by decide +kernel
theorem d9_25 : decode jdk_68_method_22_code 25 = .ok (.aload_n 0, 1) := by decide +kernel
theorem d9_26 : decode jdk_68_method_22_code 26 = .ok (.getfield 79, 3) := by decide +kernel
theorem d9_29 : decode jdk_68_method_22_code 29 = .ok (.aload_n 1, 1) := by decide +kernel
theorem d9_30 : decode jdk_68_method_22_code 30 = .ok (.invokevirtual 208, 3) := by decide +kernel
theorem d9_33 : decode jdk_68_method_22_code 33 = .ok (.aload_n 0, 1) := by decide +kernel
theorem d9_34 : decode jdk_68_method_22_code 34 = .ok (.dup, 1) := by decide +kernel
theorem d9_35 : decode jdk_68_method_22_code 35 = .ok (.getfield 79, 3) := by decide +kernel
theorem d9_38 : decode jdk_68_method_22_code 38 = .ok (.iload_n 2, 1) := by decide +kernel
theorem d9_39 : decode jdk_68_method_22_code 39 = .ok (.iadd, 1) := by decide +kernel
theorem d9_40 : decode jdk_68_method_22_code 40 = .ok (.putfield 79, 3) := by decide +kernel
theorem d9_43 : decode jdk_68_method_22_code 43 = .ok (.aload_n 0, 1) := by decide +kernel
theorem d9_44 : decode jdk_68_method_22_code 44 = .ok (.areturn, 1) := by decide +kernel
theorem pd_9 : parseMethodDescriptor "()I" = some ⟨[], some .int⟩ := by decide +kernel
theorem pd_10 : parseMethodDescriptor "(ILjava/lang/String;)V" = some ⟨[.int, (.object "java/lang/String")], none⟩ := by decide +kernel
theorem pn_rmAAp : plainFor yy15 = true := by first | exact plainFor_of_name (by first | (simp [plainName, overriddenIn]; done) | decide +kernel) | decide +kernel
theorem ef_rmAAp (m : MethodId) (o : Addr) (a : Addr) : entryFrame m #[(.ref o), (.ref a)] 3 = (mkF m 0 #[rv o, rv a, .unset] []) := by first | (simp [entryFrame, mkF, argsToLocals, Value.category]; done) | rfl
def QAAp (Z : State) (o : Addr) (a : Addr) (d : Addr) (kd : ClassId) (vs1 : List Value) (b : Addr) (kb : ClassId) (vs2 : List Value) (cs : Int32) (h0 : Heap) (n0 : Nat) (v_ : Option Value) (h_ : Heap) (L_ : List Loc) : Prop := ∃ y : Addr, ∃ ky : ClassId, (v_ = some (.ref o)) ∧ (Fr n0 L_) ∧ (Keep h0 h_ [o]) ∧ (h0.size ≤ y) ∧ (Exa Z h_ o "java/lang/StringBuilder") ∧ (Fld Z h_ o "java/lang/AbstractStringBuilder" "value" "[B" (.ref y)) ∧ (Fld Z h_ o "java/lang/AbstractStringBuilder" "coder" "B" (.int (0 : Int32))) ∧ (Fld Z h_ o "java/lang/AbstractStringBuilder" "count" "I" (.int (39 : Int32))) ∧ (Arv Z h_ y ky .byte (39 : Int32) (own_cp vs2 (own_cp vs1 own_z39 (0 : Int32) (0 : Int32) (16 : Int32) (.int (0 : Int32))) (0 : Int32) (0 : Int32) (39 : Int32) (.int (0 : Int32))) (.int (0 : Int32)))
set_option maxRecDepth 65536 in
set_option maxHeartbeats 40000000 in
theorem rmAAp (l : Launch) (Z : State) (a0 : Array Value) (hw : ∀ d ∈ tables_1, d.before a0 Z = true) (ws : List Jvm.Cond) (o : Addr) (a : Addr) (d : Addr) (kd : ClassId) (vs1 : List Value) (b : Addr) (kb : ClassId) (vs2 : List Value) (cs : Int32) (h0 : Heap) (n0 : Nat) (Z0 : n0 ≤ h0.size) (p_0 : Exa Z h0 o "java/lang/StringBuilder") (p_1 : Fld Z h0 o "java/lang/AbstractStringBuilder" "value" "[B" (.ref d)) (p_2 : Fld Z h0 o "java/lang/AbstractStringBuilder" "coder" "B" (.int (0 : Int32))) (p_3 : Fld Z h0 o "java/lang/AbstractStringBuilder" "count" "I" (.int (0 : Int32))) (p_4 : n0 ≤ o) (p_5 : Arv Z h0 d kd .byte (16 : Int32) vs1 (.int (0 : Int32))) (p_6 : Exa Z h0 a "java/lang/String") (p_7 : Fld Z h0 a "java/lang/String" "coder" "B" (.int (0 : Int32))) (p_8 : Fld Z h0 a "java/lang/String" "value" "[B" (.ref b)) (p_9 : Arv Z h0 b kb .byte (39 : Int32) vs2 (.int (0 : Int32))) (p_10 : Sta Z h0 "java/lang/String" "COMPACT_STRINGS" "Z" (.int cs)) (hcs : ¬ cs = (0 : Int32)) (p_12 : o ≠ a) (p_13 : o ≠ b) :
    MetFree l yy15 (head1 (Jvm.Cond.code yy15 jdk_68_method_22_code 3 (some (.object "java/lang/AbstractStringBuilder")) :: ws) rRrmAAp) (fun a_ U_ => a_ = #[(.ref o), (.ref a)] ∧ Z.Warmed39 U_.vm ∧ U_.heap = h0) (fun _ _ _ _ _ => True) (fun _ U_ o_ U1_ => ∃ v_ L_, o_ = .returned v_ ∧ QAAp Z o a d kd vs1 b kb vs2 cs h0 n0 v_ U1_.heap L_ ∧ FrameEnd U_ o_ U1_ L_ rRrmAAp.cells rRrmAAp.slots) := by
  refine MetFree.of_bodySF pn_rmAAp hisR ?_
  intro p e s m args below meth c s₁ Bd hml0 hP hK
  obtain ⟨rfl, hZ, hh⟩ := hP
  have hx := Bd.exec
  have hby := Bd.bytes
  have hlk : meth.locks = false := Bd.notSynchronized
  have hml : c.maxLocals = 3 := hml0
  have hown : s.vm.findClass "java/lang/AbstractStringBuilder" = some m.cls := findClass_of_methodNamed Bd.named
  have hnm := (name_of_methodNamed Bd.named Bd.method).1
  have X0 : Stand p l e rRrmAAp s m #[(.ref o), (.ref a)] below meth c s₁ [] 0 0 := Stand.of_body Bd
  have e0 : s₁.heap = h0 := by rw [← hh, Bd.state]; rfl
  have N0 := Fr.nil n0
  show own_Goes p e below s (QAAp Z o a d kd vs1 b kb vs2 cs h0 n0) rRrmAAp.cells rRrmAAp.slots s₁ (entryFrame m #[(.ref o), (.ref a)] 3)
  rw [ef_rmAAp m o a]
  show own_Goes p e below s (QAAp Z o a d kd vs1 b kb vs2 cs h0 n0) rRrmAAp.cells rRrmAAp.slots s₁ (mkF m 0 #[rv o, rv a, .unset] [])
  refine own_st (fun _ kk_ => XS.aloadN X0.here hx rfl (hb hby d9_0) rfl rfl (XS.ifnonnullYes X0.here hx rfl (pc0 := 1) (pc' := 9) rfl (hb hby d9_1) rfl (by decide) (by decide) (XS.aloadN X0.here hx rfl (hb hby d9_9) rfl rfl kk_))) ?_
  show own_Goes _ _ _ _ _ _ _ s₁ (mkF m 10 #[rv o, rv a, .unset] [(.ref a)])
  obtain ⟨cq1, kq1, q1a, q1b, q1c⟩ := isOf hZ e0 p_6
  obtain ⟨_, _, ⟨T1, L1, k1, n1⟩, -, X1, ⟨Lc1, hQ1, l1, y1, z1⟩, st1⟩ := X0.virtualBack hx (y := yy1) (z := yy1) hown (mvT hZ (own_w hw 70 rfl)) (mvT hZ (own_w hw 71 rfl)) (notFace_of_selects (args := #[]) (mvT hZ (own_w hw 73 rfl))) (mvT hZ (own_w hw 73 rfl)) (mvT hZ (own_w hw 72 rfl)) (by decide) (backOf (W := 0) (rm10 l Z a0 hw [] (a) (b) (kb) ((39 : Int32)) (vs2) (cs) h0 n0 Z0 p_6 p_7 p_8 p_9 p_10 (by assumption)) hZ (own_w hw 74 rfl) (own_w hw 19 rfl) (by decide) (by decide)) q1a q1c (g := (mkF m 10 #[rv o, rv a, .unset] [(.ref a)])) rfl (by rw [hml]; rfl) (Steps.refl _) (argsL := []) (rest := []) (lenOf pd_9 rfl) rfl (by show 2 * 0 + _ ≤ _; exact Nat.le_of_eq rfl) (hb hby d9_10) (fun _ _ => ⟨rfl, e0, (by decide : 0 + 0 ≤ _), (by decide : 0 + 0 ≤ _)⟩)
  dsimp only [Pt.U, Pt.locs, Pt.cells, Pt.slots] at X1 l1 y1 z1 st1 hQ1
  subst l1 y1 z1
  obtain ⟨rfl, Nq1, eq1⟩ := hQ1
  have N1 := Fr.app N0 Nq1
  refine own_st (fun _ kk_ => st1.trans kk_) ?_
  show own_Goes _ _ _ _ _ _ _ T1 (mkF m 13 #[rv o, rv a, .unset] [(.int (39 : Int32))])
  refine own_st (fun _ kk_ => XS.istoreN X1.here hx rfl (hb hby d9_13) rfl (l' := #[rv o, rv a, iv (39 : Int32)]) rfl (XS.aloadN X1.here hx rfl (hb hby d9_14) rfl rfl (XS.aloadN X1.here hx rfl (hb hby d9_15) rfl rfl kk_))) ?_
  show own_Goes _ _ _ _ _ _ _ T1 (mkF m 16 #[rv o, rv a, iv (39 : Int32)] [(.ref o), (.ref o)])
  obtain ⟨T2, X2, e2, st2⟩ := getF X1 hx hZ hown (host := "") (Or.inl (own_w hw 83 rfl)) Via.refl eq1 p_3 (g := (mkF m 16 #[rv o, rv a, iv (39 : Int32)] [(.ref o), (.ref o)])) rfl rfl (hb hby d9_16)
  refine own_st st2 ?_
  show own_Goes _ _ _ _ _ _ _ T2 (mkF m 19 #[rv o, rv a, iv (39 : Int32)] [(.int (0 : Int32)), (.ref o)])
  refine own_st (fun _ kk_ => XS.iloadN X2.here hx rfl (hb hby d9_19) rfl (XS.iadd X2.here hx rfl (hb hby d9_20) rfl kk_)) ?_
  show own_Goes _ _ _ _ _ _ _ T2 (mkF m 21 #[rv o, rv a, iv (39 : Int32)] [(.int (39 : Int32)), (.ref o)])
  obtain ⟨cq3, q3, q3'⟩ := p_0.cell
  obtain ⟨_, _, ⟨T3, L3, k3, n3⟩, -, X3, ⟨Lc3, hQ3, l3, y3, z3⟩, st3⟩ := X2.privateBack hx (y := yy14) hown (mvT hZ (own_w hw 85 rfl)) (mvT hZ (own_w hw 86 rfl)) (own_selp (mvT hZ (own_w hw 88 rfl)) (Cond.privateMethod_at (mvP hZ (own_w hw 87 rfl) (args := #[]))) (mvT hZ (own_w hw 86 rfl)) (by decide)) (Cond.privateMethod_at (mvP hZ (own_w hw 87 rfl) (args := #[]))) (mvT hZ (own_w hw 89 rfl)) (by decide) (backOf (W := 0) (rmECp l Z a0 hw [] (o) (d) (kd) (vs1) ((0 : Int32)) h0 n0 Z0 p_0 p_1 p_2 p_3 p_4 p_5) hZ (own_w hw 89 rfl) (own_w hw 51 rfl) (by decide) (by decide)) (g := (mkF m 21 #[rv o, rv a, iv (39 : Int32)] [(.int (39 : Int32)), (.ref o)])) rfl (by rw [hml]; rfl) (Steps.refl _) (a := o) (by rw [e2]; exact q3) q3' (argsL := [(.int (39 : Int32))]) (rest := []) (lenOf pd_2 rfl) rfl (by show 2 * 0 + _ ≤ _; exact Nat.le_of_eq rfl) (hb hby d9_21) (fun _ _ => ⟨rfl, e2, (by decide : 0 + 1 ≤ _), (by decide : 0 + 39 ≤ _)⟩)
  dsimp only [Pt.U, Pt.locs, Pt.cells, Pt.slots] at X3 l3 y3 z3 st3 hQ3
  subst l3 y3 z3
  obtain ⟨x3_y, x3_ky, rfl, Nq3, Kq3, u3_0, u3_1, u3_2, u3_3, u3_4, u3_5⟩ := hQ3
  have N3 := Fr.app N1 Nq3
  have f3_0 := p_0.keep Kq3
  have f3_5 := p_6.keep Kq3
  have f3_6 := p_7.keep Kq3 (ninS (Ne.symm p_12) nin0)
  have f3_7 := p_8.keep Kq3 (ninS (Ne.symm p_12) nin0)
  have f3_8 := p_9.keep Kq3 (ninS (Ne.symm p_13) nin0)
  have f3_9 := own_Sta_keep p_10 Kq3 (nsS p_0.nostat ns0)
  have Zs3 : n0 ≤ T3.heap.size := Nat.le_trans Z0 Kq3.1
  have K3 := (Keep.refl h0 [o]).trans Kq3 (allS (Or.inl (List.mem_of_getElem? (i := 0) rfl)) all0)
  have ne3_o : o ≠ x3_y := Nat.ne_of_lt (Nat.lt_of_lt_of_le p_0.lt u3_0)
  have ne3_d : d ≠ x3_y := Nat.ne_of_lt (Nat.lt_of_lt_of_le p_5.lt u3_0)
  have ne3_a : a ≠ x3_y := Nat.ne_of_lt (Nat.lt_of_lt_of_le p_6.lt u3_0)
  have ne3_b : b ≠ x3_y := Nat.ne_of_lt (Nat.lt_of_lt_of_le p_9.lt u3_0)
  have sz3_y : h0.size ≤ x3_y := Nat.le_trans (Keep.refl h0 [o]).1 u3_0
  have gg3_y : n0 ≤ x3_y := Nat.le_trans Z0 u3_0
  refine own_st (fun _ kk_ => st3.trans kk_) ?_
  show own_Goes _ _ _ _ _ _ _ T3 (mkF m 24 #[rv o, rv a, iv (39 : Int32)] [])
  refine own_st (fun _ kk_ => XS.aloadN X3.here hx rfl (hb hby d9_24) rfl rfl (XS.aloadN X3.here hx rfl (hb hby d9_25) rfl rfl kk_)) ?_
  show own_Goes _ _ _ _ _ _ _ T3 (mkF m 26 #[rv o, rv a, iv (39 : Int32)] [(.ref o), (.ref o)])
  obtain ⟨T4, X4, e4, st4⟩ := getF X3 hx hZ hown (host := "") (Or.inl (own_w hw 83 rfl)) Via.refl rfl u3_4 (g := (mkF m 26 #[rv o, rv a, iv (39 : Int32)] [(.ref o), (.ref o)])) rfl rfl (hb hby d9_26)
  refine own_st st4 ?_
  show own_Goes _ _ _ _ _ _ _ T4 (mkF m 29 #[rv o, rv a, iv (39 : Int32)] [(.int (0 : Int32)), (.ref o)])
  refine own_st (fun _ kk_ => XS.aloadN X4.here hx rfl (hb hby d9_29) rfl rfl kk_) ?_
  show own_Goes _ _ _ _ _ _ _ T4 (mkF m 30 #[rv o, rv a, iv (39 : Int32)] [(.ref a), (.int (0 : Int32)), (.ref o)])
  obtain ⟨cq5, q5, q5'⟩ := u3_1.cell
  obtain ⟨_, _, ⟨T5, L5, k5, n5⟩, -, X5, ⟨Lc5, hQ5, l5, y5, z5⟩, st5⟩ := X4.privateBack hx (y := yy10) hown (mvT hZ (own_w hw 116 rfl)) (mvT hZ (own_w hw 117 rfl)) (own_selp (mvT hZ (own_w hw 119 rfl)) (Cond.privateMethod_at (mvP hZ (own_w hw 118 rfl) (args := #[]))) (mvT hZ (own_w hw 117 rfl)) (by decide)) (Cond.privateMethod_at (mvP hZ (own_w hw 118 rfl) (args := #[]))) (mvT hZ (own_w hw 120 rfl)) (by decide) (backOf (W := 0) (rmPSp l Z a0 hw [] (o) (a) (x3_y) (x3_ky) ((own_cp vs1 own_z39 (0 : Int32) (0 : Int32) (16 : Int32) (.int (0 : Int32)))) (b) (kb) (vs2) (cs) T3.heap n0 Zs3 u3_1 u3_2 u3_3 f3_5 f3_6 f3_7 f3_8 f3_9 (by assumption) u3_5 gg3_y (Nat.le_of_ble_eq_true rfl)) hZ (own_w hw 120 rfl) (own_w hw 51 rfl) (by decide) (by decide)) (g := (mkF m 30 #[rv o, rv a, iv (39 : Int32)] [(.ref a), (.int (0 : Int32)), (.ref o)])) rfl (by rw [hml]; rfl) (Steps.refl _) (a := o) (by rw [e4]; exact q5) q5' (argsL := [(.int (0 : Int32)), (.ref a)]) (rest := []) (lenOf pd_10 rfl) rfl (by show 2 * 0 + _ ≤ _; exact Nat.le_of_eq rfl) (hb hby d9_30) (fun _ _ => ⟨rfl, e4, (by decide : 1 + 0 ≤ _), (by decide : 39 + 0 ≤ _)⟩)
  dsimp only [Pt.U, Pt.locs, Pt.cells, Pt.slots] at X5 l5 y5 z5 st5 hQ5
  subst l5 y5 z5
  obtain ⟨rfl, Nq5, Kq5, u5_0⟩ := hQ5
  have N5 := Fr.app N3 Nq5
  have f5_0 := u3_1.keep Kq5
  have f5_1 := f3_5.keep Kq5
  have f5_2 := f3_6.keep Kq5 (ninS ne3_a nin0)
  have f5_3 := f3_7.keep Kq5 (ninS ne3_a nin0)
  have f5_4 := f3_8.keep Kq5 (ninS ne3_b nin0)
  have f5_5 := own_Sta_keep f3_9 Kq5 (nsS u3_5.nostat ns0)
  have f5_6 := u3_2.keep Kq5 (ninS ne3_o nin0)
  have f5_7 := u3_3.keep Kq5 (ninS ne3_o nin0)
  have f5_8 := u3_4.keep Kq5 (ninS ne3_o nin0)
  have Zs5 : n0 ≤ T5.heap.size := Nat.le_trans Zs3 Kq5.1
  have K5 := K3.trans Kq5 (allS (Or.inr sz3_y) all0)
  refine own_st (fun _ kk_ => st5.trans kk_) ?_
  show own_Goes _ _ _ _ _ _ _ T5 (mkF m 33 #[rv o, rv a, iv (39 : Int32)] [])
  refine own_st (fun _ kk_ => XS.aloadN X5.here hx rfl (hb hby d9_33) rfl rfl (XS.dup X5.here hx rfl (hb hby d9_34) rfl rfl kk_)) ?_
  show own_Goes _ _ _ _ _ _ _ T5 (mkF m 35 #[rv o, rv a, iv (39 : Int32)] [(.ref o), (.ref o)])
  obtain ⟨T6, X6, e6, st6⟩ := getF X5 hx hZ hown (host := "") (Or.inl (own_w hw 83 rfl)) Via.refl rfl f5_8 (g := (mkF m 35 #[rv o, rv a, iv (39 : Int32)] [(.ref o), (.ref o)])) rfl rfl (hb hby d9_35)
  refine own_st st6 ?_
  show own_Goes _ _ _ _ _ _ _ T6 (mkF m 38 #[rv o, rv a, iv (39 : Int32)] [(.int (0 : Int32)), (.ref o)])
  refine own_st (fun _ kk_ => XS.iloadN X6.here hx rfl (hb hby d9_38) rfl (XS.iadd X6.here hx rfl (hb hby d9_39) rfl kk_)) ?_
  show own_Goes _ _ _ _ _ _ _ T6 (mkF m 40 #[rv o, rv a, iv (39 : Int32)] [(.int (39 : Int32)), (.ref o)])
  obtain ⟨T7, h7, X7, e7, W7, st7⟩ := putF X6 hx hZ hown (host := "") (Or.inl (own_w hw 83 rfl)) Via.refl e6 f5_8 f5_0 (Or.inl (own_w hw 84 rfl)) (own_w hw 42 rfl) (ty := .int) (by decide) rfl rfl (g := (mkF m 40 #[rv o, rv a, iv (39 : Int32)] [(.int (39 : Int32)), (.ref o)])) rfl rfl (hb hby d9_40)
  have fw7 : Fld Z h7 o "java/lang/AbstractStringBuilder" "count" "I" (.int (39 : Int32)) := f5_8.same W7
  have f7_0 := f5_0.wr W7
  have f7_1 := f5_1.wr W7
  have f7_2 := f5_2.other W7 (Or.inl (Ne.symm p_12))
  have f7_3 := f5_3.other W7 (Or.inl (Ne.symm p_12))
  have f7_4 := f5_4.other W7 (Ne.symm p_13)
  have f7_5 := f5_5.wr W7
  have f7_6 := f5_6.other W7 (Or.inr (slot_ne (Or.inl (own_w hw 56 rfl)) (Or.inl (own_w hw 84 rfl)) (by decide) (t := (.array .byte)) (t' := .int) (by decide) (by decide)))
  have f7_7 := f5_7.other W7 (Or.inr (slot_ne (Or.inl (own_w hw 58 rfl)) (Or.inl (own_w hw 84 rfl)) (by decide) (t := .byte) (t' := .int) (by decide) (by decide)))
  have f7_9 := u5_0.other W7 (Ne.symm ne3_o)
  have Zs7 : n0 ≤ h7.size := Nat.le_trans Zs5 (Nat.le_of_eq W7.size.symm)
  have K7 := K5.wr W7 (Or.inl (List.mem_of_getElem? (i := 0) rfl))
  have N7 := Fr.snoc X7 N5 p_4
  refine own_st st7 ?_
  show own_Goes _ _ _ _ _ _ _ T7 (mkF m 43 #[rv o, rv a, iv (39 : Int32)] [])
  refine own_st (fun _ kk_ => XS.aloadN X7.here hx rfl (hb hby d9_43) rfl rfl kk_) ?_
  show own_Goes _ _ _ _ _ _ _ T7 (mkF m 44 #[rv o, rv a, iv (39 : Int32)] [(.ref o)])
  refine own_retA X7 hx hlk rfl Bd.returns rfl (hb hby d9_44) (by decide) (by decide) ?_
  show QAAp Z o a d kd vs1 b kb vs2 cs h0 n0 (some (.ref o)) T7.heap _
  rw [e7]
  exact ⟨x3_y, x3_ky, rfl, N7, K7, sz3_y, f7_0, f7_6, f7_7, fw7, f7_9⟩
abbrev rRrmSAp : Room := { frames := 5, cells := 1, slots := 39, locals := 76 }
theorem d8_0 : decode jdk_67_method_7_code 0 = .ok (.aload_n 0, 1) := by decide +kernel
theorem d8_1 : decode jdk_67_method_7_code 1 = .ok (.aload_n 1, 1) := by decide +kernel
theorem d8_2 : decode jdk_67_method_7_code 2 = .ok (.invokespecial 29, 3) := by decide +kernel
theorem d8_5 : decode jdk_67_method_7_code 5 = .ok (.pop, 1) := by decide +kernel
theorem d8_6 : decode jdk_67_method_7_code 6 = .ok (.aload_n 0, 1) := by decide +kernel
theorem d8_7 : decode jdk_67_method_7_code 7 = .ok (.areturn, 1) := by decide +kernel
theorem pd_11 : parseMethodDescriptor "(Ljava/lang/String;)Ljava/lang/AbstractStringBuilder;" = some ⟨[(.object "java/lang/String")], some (.object "java/lang/AbstractStringBuilder")⟩ := by decide +kernel
theorem pn_rmSAp : plainFor yy16 = true := by first | exact plainFor_of_name (by first | (simp [plainName, overriddenIn]; done) | decide +kernel) | decide +kernel
theorem ef_rmSAp (m : MethodId) (o : Addr) (a : Addr) : entryFrame m #[(.ref o), (.ref a)] 2 = (mkF m 0 #[rv o, rv a] []) := by first | (simp [entryFrame, mkF, argsToLocals, Value.category]; done) | rfl
def QSAp (Z : State) (o : Addr) (a : Addr) (d : Addr) (kd : ClassId) (vs1 : List Value) (b : Addr) (kb : ClassId) (vs2 : List Value) (cs : Int32) (h0 : Heap) (n0 : Nat) (v_ : Option Value) (h_ : Heap) (L_ : List Loc) : Prop := ∃ y : Addr, ∃ ky : ClassId, (v_ = some (.ref o)) ∧ (Fr n0 L_) ∧ (Keep h0 h_ [o]) ∧ (h0.size ≤ y) ∧ (Exa Z h_ o "java/lang/StringBuilder") ∧ (Fld Z h_ o "java/lang/AbstractStringBuilder" "value" "[B" (.ref y)) ∧ (Fld Z h_ o "java/lang/AbstractStringBuilder" "coder" "B" (.int (0 : Int32))) ∧ (Fld Z h_ o "java/lang/AbstractStringBuilder" "count" "I" (.int (39 : Int32))) ∧ (Arv Z h_ y ky .byte (39 : Int32) (own_cp vs2 (own_cp vs1 own_z39 (0 : Int32) (0 : Int32) (16 : Int32) (.int (0 : Int32))) (0 : Int32) (0 : Int32) (39 : Int32) (.int (0 : Int32))) (.int (0 : Int32)))
set_option maxRecDepth 65536 in
set_option maxHeartbeats 40000000 in
theorem rmSAp (l : Launch) (Z : State) (a0 : Array Value) (hw : ∀ d ∈ tables_1, d.before a0 Z = true) (ws : List Jvm.Cond) (o : Addr) (a : Addr) (d : Addr) (kd : ClassId) (vs1 : List Value) (b : Addr) (kb : ClassId) (vs2 : List Value) (cs : Int32) (h0 : Heap) (n0 : Nat) (Z0 : n0 ≤ h0.size) (p_0 : Exa Z h0 o "java/lang/StringBuilder") (p_1 : Fld Z h0 o "java/lang/AbstractStringBuilder" "value" "[B" (.ref d)) (p_2 : Fld Z h0 o "java/lang/AbstractStringBuilder" "coder" "B" (.int (0 : Int32))) (p_3 : Fld Z h0 o "java/lang/AbstractStringBuilder" "count" "I" (.int (0 : Int32))) (p_4 : n0 ≤ o) (p_5 : Arv Z h0 d kd .byte (16 : Int32) vs1 (.int (0 : Int32))) (p_6 : Exa Z h0 a "java/lang/String") (p_7 : Fld Z h0 a "java/lang/String" "coder" "B" (.int (0 : Int32))) (p_8 : Fld Z h0 a "java/lang/String" "value" "[B" (.ref b)) (p_9 : Arv Z h0 b kb .byte (39 : Int32) vs2 (.int (0 : Int32))) (p_10 : Sta Z h0 "java/lang/String" "COMPACT_STRINGS" "Z" (.int cs)) (hcs : ¬ cs = (0 : Int32)) (p_12 : o ≠ a) (p_13 : o ≠ b) :
    MetFree l yy16 (head1 (Jvm.Cond.code yy16 jdk_67_method_7_code 2 (some (.object "java/lang/StringBuilder")) :: ws) rRrmSAp) (fun a_ U_ => a_ = #[(.ref o), (.ref a)] ∧ Z.Warmed39 U_.vm ∧ U_.heap = h0) (fun _ _ _ _ _ => True) (fun _ U_ o_ U1_ => ∃ v_ L_, o_ = .returned v_ ∧ QSAp Z o a d kd vs1 b kb vs2 cs h0 n0 v_ U1_.heap L_ ∧ FrameEnd U_ o_ U1_ L_ rRrmSAp.cells rRrmSAp.slots) := by
  refine MetFree.of_bodySF pn_rmSAp hisR ?_
  intro p e s m args below meth c s₁ Bd hml0 hP hK
  obtain ⟨rfl, hZ, hh⟩ := hP
  have hx := Bd.exec
  have hby := Bd.bytes
  have hlk : meth.locks = false := Bd.notSynchronized
  have hml : c.maxLocals = 2 := hml0
  have hown : s.vm.findClass "java/lang/StringBuilder" = some m.cls := findClass_of_methodNamed Bd.named
  have hnm := (name_of_methodNamed Bd.named Bd.method).1
  have X0 : Stand p l e rRrmSAp s m #[(.ref o), (.ref a)] below meth c s₁ [] 0 0 := Stand.of_body Bd
  have e0 : s₁.heap = h0 := by rw [← hh, Bd.state]; rfl
  have N0 := Fr.nil n0
  show own_Goes p e below s (QSAp Z o a d kd vs1 b kb vs2 cs h0 n0) rRrmSAp.cells rRrmSAp.slots s₁ (entryFrame m #[(.ref o), (.ref a)] 2)
  rw [ef_rmSAp m o a]
  show own_Goes p e below s (QSAp Z o a d kd vs1 b kb vs2 cs h0 n0) rRrmSAp.cells rRrmSAp.slots s₁ (mkF m 0 #[rv o, rv a] [])
  refine own_st (fun _ kk_ => XS.aloadN X0.here hx rfl (hb hby d8_0) rfl rfl (XS.aloadN X0.here hx rfl (hb hby d8_1) rfl rfl kk_)) ?_
  show own_Goes _ _ _ _ _ _ _ s₁ (mkF m 2 #[rv o, rv a] [(.ref a), (.ref o)])
  obtain ⟨_, _, ⟨T1, L1, k1, n1⟩, -, X1, ⟨Lc1, hQ1, l1, y1, z1⟩, st1⟩ := superBack X0 hx hZ (y := yy15) hown (own_w hw 65 rfl) (own_smo (own_w hw 88 rfl) rfl (own_w hw 66 rfl) (by decide)) (own_w hw 66 rfl) (own_w hw 67 rfl) (by decide) (backOf (W := 0) (rmAAp l Z a0 hw [] (o) (a) (d) (kd) (vs1) (b) (kb) (vs2) (cs) h0 n0 Z0 p_0 p_1 p_2 p_3 p_4 p_5 p_6 p_7 p_8 p_9 p_10 (by assumption) p_12 p_13) hZ (own_w hw 69 rfl) (own_w hw 51 rfl) (by decide) (by decide)) e0 (Ins.self p_0) (g := (mkF m 2 #[rv o, rv a] [(.ref a), (.ref o)])) rfl (by rw [hml]; rfl) (own_w hw 69 rfl) (argsL := [(.ref a)]) (rest := []) (lenOf pd_11 rfl) rfl (by show 2 * 0 + _ ≤ _; exact Nat.le_of_eq rfl) (hb hby d8_2) (fun _ _ => ⟨rfl, e0, (by decide : 0 + 1 ≤ _), (by decide : 0 + 39 ≤ _)⟩)
  dsimp only [Pt.U, Pt.locs, Pt.cells, Pt.slots] at X1 l1 y1 z1 st1 hQ1
  subst l1 y1 z1
  obtain ⟨x1_y, x1_ky, rfl, Nq1, Kq1, u1_0, u1_1, u1_2, u1_3, u1_4, u1_5⟩ := hQ1
  have N1 := Fr.app N0 Nq1
  have f1_0 := p_0.keep Kq1
  have f1_5 := p_6.keep Kq1
  have f1_6 := p_7.keep Kq1 (ninS (Ne.symm p_12) nin0)
  have f1_7 := p_8.keep Kq1 (ninS (Ne.symm p_12) nin0)
  have f1_8 := p_9.keep Kq1 (ninS (Ne.symm p_13) nin0)
  have f1_9 := own_Sta_keep p_10 Kq1 (nsS p_0.nostat ns0)
  have Zs1 : n0 ≤ T1.heap.size := Nat.le_trans Z0 Kq1.1
  have K1 := (Keep.refl h0 [o]).trans Kq1 (allS (Or.inl (List.mem_of_getElem? (i := 0) rfl)) all0)
  have ne1_o : o ≠ x1_y := Nat.ne_of_lt (Nat.lt_of_lt_of_le p_0.lt u1_0)
  have ne1_d : d ≠ x1_y := Nat.ne_of_lt (Nat.lt_of_lt_of_le p_5.lt u1_0)
  have ne1_a : a ≠ x1_y := Nat.ne_of_lt (Nat.lt_of_lt_of_le p_6.lt u1_0)
  have ne1_b : b ≠ x1_y := Nat.ne_of_lt (Nat.lt_of_lt_of_le p_9.lt u1_0)
  have sz1_y : h0.size ≤ x1_y := Nat.le_trans (Keep.refl h0 [o]).1 u1_0
  have gg1_y : n0 ≤ x1_y := Nat.le_trans Z0 u1_0
  refine own_st (fun _ kk_ => st1.trans kk_) ?_
  show own_Goes _ _ _ _ _ _ _ T1 (mkF m 5 #[rv o, rv a] [(.ref o)])
  refine own_st (fun _ kk_ => XS.pop X1.here hx rfl (hb hby d8_5) rfl rfl (XS.aloadN X1.here hx rfl (hb hby d8_6) rfl rfl kk_)) ?_
  show own_Goes _ _ _ _ _ _ _ T1 (mkF m 7 #[rv o, rv a] [(.ref o)])
  refine own_retA X1 hx hlk rfl Bd.returns rfl (hb hby d8_7) (by decide) (by decide) ?_
  show QSAp Z o a d kd vs1 b kb vs2 cs h0 n0 (some (.ref o)) T1.heap _
  exact ⟨x1_y, x1_ky, rfl, N1, K1, u1_0, u1_1, u1_2, u1_3, u1_4, u1_5⟩
abbrev rRrmGBc0 : Room := { frames := 1, cells := 0, slots := 0, locals := 18 }
theorem pn_rmGBc0 : plainFor yy9 = true := by first | exact plainFor_of_name (by first | (simp [plainName, overriddenIn]; done) | decide +kernel) | decide +kernel
theorem ef_rmGBc0 (m : MethodId) (a : Addr) (d : Addr) : entryFrame m #[(.ref a), (.ref d), (.int (39 : Int32)), (.int (0 : Int32))] 4 = (mkF m 0 #[rv a, rv d, iv (39 : Int32), iv (0 : Int32)] []) := by first | (simp [entryFrame, mkF, argsToLocals, Value.category]; done) | rfl
def QGBc0 (Z : State) (a : Addr) (d : Addr) (kd : ClassId) (vs1 : List Value) (b : Addr) (kb : ClassId) (vs2 : List Value) (cs : Int32) (h0 : Heap) (n0 : Nat) (v_ : Option Value) (h_ : Heap) (L_ : List Loc) : Prop := (v_ = none) ∧ (Fr n0 L_) ∧ (Keep h0 h_ [d]) ∧ (Arv Z h_ d kd .byte (80 : Int32) (own_cp vs2 vs1 (0 : Int32) (39 : Int32) (13 : Int32) (.int (0 : Int32))) (.int (0 : Int32)))
set_option maxRecDepth 65536 in
set_option maxHeartbeats 40000000 in
theorem rmGBc0 (l : Launch) (Z : State) (a0 : Array Value) (hw : ∀ d ∈ tables_1, d.before a0 Z = true) (ws : List Jvm.Cond) (a : Addr) (d : Addr) (kd : ClassId) (vs1 : List Value) (b : Addr) (kb : ClassId) (vs2 : List Value) (cs : Int32) (h0 : Heap) (n0 : Nat) (Z0 : n0 ≤ h0.size) (p_0 : Exa Z h0 a "java/lang/String") (p_1 : Fld Z h0 a "java/lang/String" "coder" "B" (.int (0 : Int32))) (p_2 : Fld Z h0 a "java/lang/String" "value" "[B" (.ref b)) (p_3 : Arv Z h0 b kb .byte (13 : Int32) vs2 (.int (0 : Int32))) (p_4 : Sta Z h0 "java/lang/String" "COMPACT_STRINGS" "Z" (.int cs)) (hcs : ¬ cs = (0 : Int32)) (p_6 : Arv Z h0 d kd .byte (80 : Int32) vs1 (.int (0 : Int32))) (p_7 : n0 ≤ d) (hl : (39 : Int32).toNatClampNeg + (13 : Int32).toNatClampNeg ≤ vs1.length) :
    MetFree l yy9 (head1 (Jvm.Cond.code yy9 jdk_42_method_147_code 4 none :: ws) rRrmGBc0) (fun a_ U_ => a_ = #[(.ref a), (.ref d), (.int (39 : Int32)), (.int (0 : Int32))] ∧ Z.Warmed39 U_.vm ∧ U_.heap = h0) (fun _ _ _ _ _ => True) (fun _ U_ o_ U1_ => ∃ v_ L_, o_ = .returned v_ ∧ QGBc0 Z a d kd vs1 b kb vs2 cs h0 n0 v_ U1_.heap L_ ∧ FrameEnd U_ o_ U1_ L_ rRrmGBc0.cells rRrmGBc0.slots) := by
  refine MetFree.of_bodySF pn_rmGBc0 hisR ?_
  intro p e s m args below meth c s₁ Bd hml0 hP hK
  obtain ⟨rfl, hZ, hh⟩ := hP
  have hx := Bd.exec
  have hby := Bd.bytes
  have hlk : meth.locks = false := Bd.notSynchronized
  have hml : c.maxLocals = 4 := hml0
  have hown : s.vm.findClass "java/lang/String" = some m.cls := findClass_of_methodNamed Bd.named
  have hnm := (name_of_methodNamed Bd.named Bd.method).1
  have X0 : Stand p l e rRrmGBc0 s m #[(.ref a), (.ref d), (.int (39 : Int32)), (.int (0 : Int32))] below meth c s₁ [] 0 0 := Stand.of_body Bd
  have e0 : s₁.heap = h0 := by rw [← hh, Bd.state]; rfl
  have N0 := Fr.nil n0
  show own_Goes p e below s (QGBc0 Z a d kd vs1 b kb vs2 cs h0 n0) rRrmGBc0.cells rRrmGBc0.slots s₁ (entryFrame m #[(.ref a), (.ref d), (.int (39 : Int32)), (.int (0 : Int32))] 4)
  rw [ef_rmGBc0 m a d]
  show own_Goes p e below s (QGBc0 Z a d kd vs1 b kb vs2 cs h0 n0) rRrmGBc0.cells rRrmGBc0.slots s₁ (mkF m 0 #[rv a, rv d, iv (39 : Int32), iv (0 : Int32)] [])
  refine own_st (fun _ kk_ => XS.aloadN X0.here hx rfl (hb hby d20_0) rfl rfl kk_) ?_
  show own_Goes _ _ _ _ _ _ _ s₁ (mkF m 1 #[rv a, rv d, iv (39 : Int32), iv (0 : Int32)] [(.ref a)])
  obtain ⟨cq1, kq1, q1a, q1b, q1c⟩ := isOf hZ e0 p_0
  obtain ⟨_, _, ⟨T1, L1, k1, n1⟩, -, X1, ⟨Lc1, hQ1, l1, y1, z1⟩, st1⟩ := X0.virtualBack hx (y := yy0) (z := yy0) hown (mvT hZ (own_w hw 76 rfl)) (mvT hZ (own_w hw 77 rfl)) (notFace_of_selects (args := #[]) (mvT hZ (own_w hw 79 rfl))) (mvT hZ (own_w hw 79 rfl)) (mvT hZ (own_w hw 78 rfl)) (by decide) (backOf (W := 0) (rm11 l Z a0 hw [] (a) (cs) h0 n0 Z0 p_1 p_4 (by assumption)) hZ (own_w hw 80 rfl) (own_w hw 19 rfl) (by decide) (by decide)) q1a q1c (g := (mkF m 1 #[rv a, rv d, iv (39 : Int32), iv (0 : Int32)] [(.ref a)])) rfl (by rw [hml]; rfl) (Steps.refl _) (argsL := []) (rest := []) (lenOf pd_0 rfl) rfl (by show 2 * 0 + _ ≤ _; exact Nat.le_of_eq rfl) (hb hby d20_1) (fun _ _ => ⟨rfl, e0, (by decide : 0 + 0 ≤ _), (by decide : 0 + 0 ≤ _)⟩)
  dsimp only [Pt.U, Pt.locs, Pt.cells, Pt.slots] at X1 l1 y1 z1 st1 hQ1
  subst l1 y1 z1
  obtain ⟨rfl, Nq1, eq1⟩ := hQ1
  have N1 := Fr.app N0 Nq1
  refine own_st (fun _ kk_ => st1.trans kk_) ?_
  show own_Goes _ _ _ _ _ _ _ T1 (mkF m 4 #[rv a, rv d, iv (39 : Int32), iv (0 : Int32)] [(.int (0 : Int32))])
  refine own_st (fun _ kk_ => XS.iloadN X1.here hx rfl (hb hby d20_4) rfl (XS.icmpNo X1.here hx rfl (hb hby d20_5) rfl (XT.ii_ne_f (by decide)) (XS.aloadN X1.here hx rfl (hb hby d20_8) rfl rfl kk_))) ?_
  show own_Goes _ _ _ _ _ _ _ T1 (mkF m 9 #[rv a, rv d, iv (39 : Int32), iv (0 : Int32)] [(.ref a)])
  obtain ⟨T2, X2, e2, st2⟩ := getF X1 hx hZ hown (host := "") (Or.inl (own_w hw 75 rfl)) Via.refl eq1 p_2 (g := (mkF m 9 #[rv a, rv d, iv (39 : Int32), iv (0 : Int32)] [(.ref a)])) rfl rfl (hb hby d20_9)
  refine own_st st2 ?_
  show own_Goes _ _ _ _ _ _ _ T2 (mkF m 12 #[rv a, rv d, iv (39 : Int32), iv (0 : Int32)] [(.ref b)])
  refine own_st (fun _ kk_ => XS.iconst X2.here hx rfl (hb hby d20_12) (XS.aloadN X2.here hx rfl (hb hby d20_13) rfl rfl (XS.iloadN X2.here hx rfl (hb hby d20_14) rfl (XS.iloadN X2.here hx rfl (hb hby d20_15) rfl (XS.ishl X2.here hx rfl (hb hby d20_16) rfl (XS.aloadN X2.here hx rfl (hb hby d20_17) rfl rfl kk_)))))) ?_
  show own_Goes _ _ _ _ _ _ _ T2 (mkF m 18 #[rv a, rv d, iv (39 : Int32), iv (0 : Int32)] [(.ref a), (.int (39 : Int32)), (.ref d), (.int (0 : Int32)), (.ref b)])
  obtain ⟨T3, X3, e3, st3⟩ := getF X2 hx hZ hown (host := "") (Or.inl (own_w hw 75 rfl)) Via.refl e2 p_2 (g := (mkF m 18 #[rv a, rv d, iv (39 : Int32), iv (0 : Int32)] [(.ref a), (.int (39 : Int32)), (.ref d), (.int (0 : Int32)), (.ref b)])) rfl rfl (hb hby d20_18)
  refine own_st st3 ?_
  show own_Goes _ _ _ _ _ _ _ T3 (mkF m 21 #[rv a, rv d, iv (39 : Int32), iv (0 : Int32)] [(.ref b), (.int (39 : Int32)), (.ref d), (.int (0 : Int32)), (.ref b)])
  obtain ⟨cl4, Ar4, -, Sz4, Nn4, -, -⟩ := id p_3
  refine own_st (fun _ kk_ => X3.arraylength hx (by rw [e3]; exact Ar4.1) (State.isArrayOf_alike hZ.alike Ar4.2.1) (g := (mkF m 21 #[rv a, rv d, iv (39 : Int32), iv (0 : Int32)] [(.ref b), (.int (39 : Int32)), (.ref d), (.int (0 : Int32)), (.ref b)])) rfl rfl (hb hby d20_21) _ kk_) ?_
  rw [len_of Sz4 Nn4]
  show own_Goes _ _ _ _ _ _ _ T3 (mkF m 22 #[rv a, rv d, iv (39 : Int32), iv (0 : Int32)] [(.int (13 : Int32)), (.int (39 : Int32)), (.ref d), (.int (0 : Int32)), (.ref b)])
  obtain ⟨T5, h5, L5, X5, e5, N5, Kp5, A5, st5⟩ := cpA X3 hx hZ hown (own_w hw 132 rfl) (own_w hw 115 rfl) (own_w hw 113 rfl) (own_w hw 114 rfl) e3 p_3 p_6 (Or.inl ⟨rfl, rfl⟩) (by decide) (by decide) (by decide) (by decide) (by decide) rfl hl N1 p_7 (g := (mkF m 22 #[rv a, rv d, iv (39 : Int32), iv (0 : Int32)] [(.int (13 : Int32)), (.int (39 : Int32)), (.ref d), (.int (0 : Int32)), (.ref b)])) rfl (by rw [hml]; rfl) (rest := []) rfl (hb hby d20_22) (by decide) (W := 0) (by show 2 * 0 + _ ≤ _; exact Nat.le_of_eq rfl) (by decide)
  have f5_0 := p_0.keep Kp5
  have f5_4 := own_Sta_keep p_4 Kp5 (nsS p_6.nostat ns0)
  have Zs5 : n0 ≤ h5.size := Nat.le_trans Z0 Kp5.1
  have K5 := (Keep.refl h0 [d]).trans Kp5 (allS (Or.inl (List.mem_of_getElem? (i := 0) rfl)) all0)
  have V5 : Arv Z h5 d kd .byte (80 : Int32) (own_cp vs2 vs1 (0 : Int32) (39 : Int32) (13 : Int32) (.int (0 : Int32))) (.int (0 : Int32)) := A5
  refine own_st st5 ?_
  show own_Goes _ _ _ _ _ _ _ T5 (mkF m 25 #[rv a, rv d, iv (39 : Int32), iv (0 : Int32)] [])
  refine own_st (fun _ kk_ => XS.goto X5.here hx rfl (pc0 := 25) (pc' := 43) rfl (hb hby d20_25) (by decide) (by decide) kk_) ?_
  show own_Goes _ _ _ _ _ _ _ T5 (mkF m 43 #[rv a, rv d, iv (39 : Int32), iv (0 : Int32)] [])
  refine own_ret0 X5 hx hlk Bd.returns (hb hby d20_43) (by decide) (by decide) ?_
  show QGBc0 Z a d kd vs1 b kb vs2 cs h0 n0 none T5.heap _
  rw [e5]
  exact ⟨rfl, N5, K5, V5⟩
abbrev rRrmPSc0 : Room := { frames := 2, cells := 0, slots := 0, locals := 33 }
theorem pn_rmPSc0 : plainFor yy10 = true := by first | exact plainFor_of_name (by first | (simp [plainName, overriddenIn]; done) | decide +kernel) | decide +kernel
theorem ef_rmPSc0 (m : MethodId) (o : Addr) (a : Addr) : entryFrame m #[(.ref o), (.int (39 : Int32)), (.ref a)] 3 = (mkF m 0 #[rv o, iv (39 : Int32), rv a] []) := by first | (simp [entryFrame, mkF, argsToLocals, Value.category]; done) | rfl
def QPSc0 (Z : State) (o : Addr) (a : Addr) (d : Addr) (kd : ClassId) (vs1 : List Value) (b : Addr) (kb : ClassId) (vs2 : List Value) (cs : Int32) (h0 : Heap) (n0 : Nat) (v_ : Option Value) (h_ : Heap) (L_ : List Loc) : Prop := (v_ = none) ∧ (Fr n0 L_) ∧ (Keep h0 h_ [d]) ∧ (Arv Z h_ d kd .byte (80 : Int32) (own_cp vs2 vs1 (0 : Int32) (39 : Int32) (13 : Int32) (.int (0 : Int32))) (.int (0 : Int32)))
set_option maxRecDepth 65536 in
set_option maxHeartbeats 40000000 in
theorem rmPSc0 (l : Launch) (Z : State) (a0 : Array Value) (hw : ∀ d ∈ tables_1, d.before a0 Z = true) (ws : List Jvm.Cond) (o : Addr) (a : Addr) (d : Addr) (kd : ClassId) (vs1 : List Value) (b : Addr) (kb : ClassId) (vs2 : List Value) (cs : Int32) (h0 : Heap) (n0 : Nat) (Z0 : n0 ≤ h0.size) (p_0 : Exa Z h0 o "java/lang/StringBuilder") (p_1 : Fld Z h0 o "java/lang/AbstractStringBuilder" "value" "[B" (.ref d)) (p_2 : Fld Z h0 o "java/lang/AbstractStringBuilder" "coder" "B" (.int (0 : Int32))) (p_3 : Exa Z h0 a "java/lang/String") (p_4 : Fld Z h0 a "java/lang/String" "coder" "B" (.int (0 : Int32))) (p_5 : Fld Z h0 a "java/lang/String" "value" "[B" (.ref b)) (p_6 : Arv Z h0 b kb .byte (13 : Int32) vs2 (.int (0 : Int32))) (p_7 : Sta Z h0 "java/lang/String" "COMPACT_STRINGS" "Z" (.int cs)) (hcs : ¬ cs = (0 : Int32)) (p_9 : Arv Z h0 d kd .byte (80 : Int32) vs1 (.int (0 : Int32))) (p_10 : n0 ≤ d) (hl : (39 : Int32).toNatClampNeg + (13 : Int32).toNatClampNeg ≤ vs1.length) :
    MetFree l yy10 (head1 (Jvm.Cond.code yy10 jdk_68_method_73_code 3 none :: ws) rRrmPSc0) (fun a_ U_ => a_ = #[(.ref o), (.int (39 : Int32)), (.ref a)] ∧ Z.Warmed39 U_.vm ∧ U_.heap = h0) (fun _ _ _ _ _ => True) (fun _ U_ o_ U1_ => ∃ v_ L_, o_ = .returned v_ ∧ QPSc0 Z o a d kd vs1 b kb vs2 cs h0 n0 v_ U1_.heap L_ ∧ FrameEnd U_ o_ U1_ L_ rRrmPSc0.cells rRrmPSc0.slots) := by
  refine MetFree.of_bodySF pn_rmPSc0 hisR ?_
  intro p e s m args below meth c s₁ Bd hml0 hP hK
  obtain ⟨rfl, hZ, hh⟩ := hP
  have hx := Bd.exec
  have hby := Bd.bytes
  have hlk : meth.locks = false := Bd.notSynchronized
  have hml : c.maxLocals = 3 := hml0
  have hown : s.vm.findClass "java/lang/AbstractStringBuilder" = some m.cls := findClass_of_methodNamed Bd.named
  have hnm := (name_of_methodNamed Bd.named Bd.method).1
  have X0 : Stand p l e rRrmPSc0 s m #[(.ref o), (.int (39 : Int32)), (.ref a)] below meth c s₁ [] 0 0 := Stand.of_body Bd
  have e0 : s₁.heap = h0 := by rw [← hh, Bd.state]; rfl
  have N0 := Fr.nil n0
  show own_Goes p e below s (QPSc0 Z o a d kd vs1 b kb vs2 cs h0 n0) rRrmPSc0.cells rRrmPSc0.slots s₁ (entryFrame m #[(.ref o), (.int (39 : Int32)), (.ref a)] 3)
  rw [ef_rmPSc0 m o a]
  show own_Goes p e below s (QPSc0 Z o a d kd vs1 b kb vs2 cs h0 n0) rRrmPSc0.cells rRrmPSc0.slots s₁ (mkF m 0 #[rv o, iv (39 : Int32), rv a] [])
  refine own_st (fun _ kk_ => XS.aloadN X0.here hx rfl (hb hby d18_0) rfl rfl (XS.aloadN X0.here hx rfl (hb hby d18_1) rfl rfl kk_)) ?_
  show own_Goes _ _ _ _ _ _ _ s₁ (mkF m 2 #[rv o, iv (39 : Int32), rv a] [(.ref a), (.ref o)])
  obtain ⟨cq1, q1, q1'⟩ := p_0.cell
  obtain ⟨_, _, ⟨T1, L1, k1, n1⟩, -, X1, ⟨Lc1, hQ1, l1, y1, z1⟩, st1⟩ := X0.privateBack hx (y := yy8) hown (mvT hZ (own_w hw 121 rfl)) (mvT hZ (own_w hw 122 rfl)) (own_selp (mvT hZ (own_w hw 124 rfl)) (Cond.privateMethod_at (mvP hZ (own_w hw 123 rfl) (args := #[]))) (mvT hZ (own_w hw 122 rfl)) (by decide)) (Cond.privateMethod_at (mvP hZ (own_w hw 123 rfl) (args := #[]))) (mvT hZ (own_w hw 125 rfl)) (by decide) (backOf (W := 0) (rm19 l Z a0 hw [] (o) (a) (cs) h0 n0 Z0 p_0 p_2 p_3 p_4 p_7 (by assumption)) hZ (own_w hw 125 rfl) (own_w hw 51 rfl) (by decide) (by decide)) (g := (mkF m 2 #[rv o, iv (39 : Int32), rv a] [(.ref a), (.ref o)])) rfl (by rw [hml]; rfl) (Steps.refl _) (a := o) (by rw [e0]; exact q1) q1' (argsL := [(.ref a)]) (rest := []) (lenOf pd_3 rfl) rfl (by show 2 * 0 + _ ≤ _; exact Nat.le_of_eq rfl) (hb hby d18_2) (fun _ _ => ⟨rfl, e0, (by decide : 0 + 0 ≤ _), (by decide : 0 + 0 ≤ _)⟩)
  dsimp only [Pt.U, Pt.locs, Pt.cells, Pt.slots] at X1 l1 y1 z1 st1 hQ1
  subst l1 y1 z1
  obtain ⟨rfl, Nq1, eq1⟩ := hQ1
  have N1 := Fr.app N0 Nq1
  refine own_st (fun _ kk_ => st1.trans kk_) ?_
  show own_Goes _ _ _ _ _ _ _ T1 (mkF m 5 #[rv o, iv (39 : Int32), rv a] [])
  refine own_st (fun _ kk_ => XS.aloadN X1.here hx rfl (hb hby d18_5) rfl rfl (XS.aloadN X1.here hx rfl (hb hby d18_6) rfl rfl kk_)) ?_
  show own_Goes _ _ _ _ _ _ _ T1 (mkF m 7 #[rv o, iv (39 : Int32), rv a] [(.ref o), (.ref a)])
  obtain ⟨T2, X2, e2, st2⟩ := getF X1 hx hZ hown (host := "") (Or.inl (own_w hw 55 rfl)) Via.refl eq1 p_1 (g := (mkF m 7 #[rv o, iv (39 : Int32), rv a] [(.ref o), (.ref a)])) rfl rfl (hb hby d18_7)
  refine own_st st2 ?_
  show own_Goes _ _ _ _ _ _ _ T2 (mkF m 10 #[rv o, iv (39 : Int32), rv a] [(.ref d), (.ref a)])
  refine own_st (fun _ kk_ => XS.iloadN X2.here hx rfl (hb hby d18_10) rfl (XS.aloadN X2.here hx rfl (hb hby d18_11) rfl rfl kk_)) ?_
  show own_Goes _ _ _ _ _ _ _ T2 (mkF m 12 #[rv o, iv (39 : Int32), rv a] [(.ref o), (.int (39 : Int32)), (.ref d), (.ref a)])
  obtain ⟨T3, X3, e3, st3⟩ := getF X2 hx hZ hown (host := "") (Or.inl (own_w hw 57 rfl)) Via.refl e2 p_2 (g := (mkF m 12 #[rv o, iv (39 : Int32), rv a] [(.ref o), (.int (39 : Int32)), (.ref d), (.ref a)])) rfl rfl (hb hby d18_12)
  refine own_st st3 ?_
  show own_Goes _ _ _ _ _ _ _ T3 (mkF m 15 #[rv o, iv (39 : Int32), rv a] [(.int (0 : Int32)), (.int (39 : Int32)), (.ref d), (.ref a)])
  obtain ⟨cq4, kq4, q4a, q4b, q4c⟩ := isOf hZ e3 p_3
  obtain ⟨_, _, ⟨T4, L4, k4, n4⟩, -, X4, ⟨Lc4, hQ4, l4, y4, z4⟩, st4⟩ := X3.virtualBack hx (y := yy9) (z := yy9) hown (mvT hZ (own_w hw 127 rfl)) (mvT hZ (own_w hw 128 rfl)) (notFace_of_selects (args := #[]) (mvT hZ (own_w hw 130 rfl))) (mvT hZ (own_w hw 130 rfl)) (mvT hZ (own_w hw 129 rfl)) (by decide) (backOf (W := 0) (rmGBc0 l Z a0 hw [] (a) (d) (kd) (vs1) (b) (kb) (vs2) (cs) h0 n0 Z0 p_3 p_4 p_5 p_6 p_7 (by assumption) p_9 p_10 hl) hZ (own_w hw 131 rfl) (own_w hw 19 rfl) (by decide) (by decide)) q4a q4c (g := (mkF m 15 #[rv o, iv (39 : Int32), rv a] [(.int (0 : Int32)), (.int (39 : Int32)), (.ref d), (.ref a)])) rfl (by rw [hml]; rfl) (Steps.refl _) (argsL := [(.ref d), (.int (39 : Int32)), (.int (0 : Int32))]) (rest := []) (lenOf pd_4 rfl) rfl (by show 2 * 0 + _ ≤ _; exact Nat.le_of_eq rfl) (hb hby d18_15) (fun _ _ => ⟨rfl, e3, (by decide : 0 + 0 ≤ _), (by decide : 0 + 0 ≤ _)⟩)
  dsimp only [Pt.U, Pt.locs, Pt.cells, Pt.slots] at X4 l4 y4 z4 st4 hQ4
  subst l4 y4 z4
  obtain ⟨rfl, Nq4, Kq4, u4_0⟩ := hQ4
  have N4 := Fr.app N1 Nq4
  have f4_0 := p_0.keep Kq4
  have f4_3 := p_3.keep Kq4
  have f4_7 := own_Sta_keep p_7 Kq4 (nsS p_9.nostat ns0)
  have Zs4 : n0 ≤ T4.heap.size := Nat.le_trans Z0 Kq4.1
  have K4 := (Keep.refl h0 [d]).trans Kq4 (allS (Or.inl (List.mem_of_getElem? (i := 0) rfl)) all0)
  refine own_st (fun _ kk_ => st4.trans kk_) ?_
  show own_Goes _ _ _ _ _ _ _ T4 (mkF m 18 #[rv o, iv (39 : Int32), rv a] [])
  refine own_ret0 X4 hx hlk Bd.returns (hb hby d18_18) (by decide) (by decide) ?_
  show QPSc0 Z o a d kd vs1 b kb vs2 cs h0 n0 none T4.heap _
  exact ⟨rfl, N4, K4, u4_0⟩
abbrev rRrmNLc0 : Room := { frames := 1, cells := 0, slots := 0, locals := 14 }
theorem pn_rmNLc0 : plainFor yy11 = true := by first | exact plainFor_of_name (by first | (simp [plainName, overriddenIn]; done) | decide +kernel) | decide +kernel
theorem ef_rmNLc0 (m : MethodId) : entryFrame m #[(.int (39 : Int32)), (.int (13 : Int32)), (.int (41 : Int32))] 4 = (mkF m 0 #[iv (39 : Int32), iv (13 : Int32), iv (41 : Int32), .unset] []) := by first | (simp [entryFrame, mkF, argsToLocals, Value.category]; done) | rfl
def QNLc0 (Z : State) (h0 : Heap) (n0 : Nat) (v_ : Option Value) (h_ : Heap) (L_ : List Loc) : Prop := (v_ = some (.int (80 : Int32))) ∧ (Fr n0 L_) ∧ (h_ = h0)
set_option maxRecDepth 65536 in
set_option maxHeartbeats 40000000 in
theorem rmNLc0 (l : Launch) (Z : State) (a0 : Array Value) (hw : ∀ d ∈ tables_1, d.before a0 Z = true) (ws : List Jvm.Cond) (h0 : Heap) (n0 : Nat) (Z0 : n0 ≤ h0.size) :
    MetFree l yy11 (head1 (Jvm.Cond.code yy11 jdk_48_method_27_code 4 (some .int) :: ws) rRrmNLc0) (fun a_ U_ => a_ = #[(.int (39 : Int32)), (.int (13 : Int32)), (.int (41 : Int32))] ∧ Z.Warmed39 U_.vm ∧ U_.heap = h0) (fun _ _ _ _ _ => True) (fun _ U_ o_ U1_ => ∃ v_ L_, o_ = .returned v_ ∧ QNLc0 Z h0 n0 v_ U1_.heap L_ ∧ FrameEnd U_ o_ U1_ L_ rRrmNLc0.cells rRrmNLc0.slots) := by
  refine MetFree.of_bodySF pn_rmNLc0 hisR ?_
  intro p e s m args below meth c s₁ Bd hml0 hP hK
  obtain ⟨rfl, hZ, hh⟩ := hP
  have hx := Bd.exec
  have hby := Bd.bytes
  have hlk : meth.locks = false := Bd.notSynchronized
  have hml : c.maxLocals = 4 := hml0
  have hown : s.vm.findClass "jdk/internal/util/ArraysSupport" = some m.cls := findClass_of_methodNamed Bd.named
  have hnm := (name_of_methodNamed Bd.named Bd.method).1
  have X0 : Stand p l e rRrmNLc0 s m #[(.int (39 : Int32)), (.int (13 : Int32)), (.int (41 : Int32))] below meth c s₁ [] 0 0 := Stand.of_body Bd
  have e0 : s₁.heap = h0 := by rw [← hh, Bd.state]; rfl
  have N0 := Fr.nil n0
  show own_Goes p e below s (QNLc0 Z h0 n0) rRrmNLc0.cells rRrmNLc0.slots s₁ (entryFrame m #[(.int (39 : Int32)), (.int (13 : Int32)), (.int (41 : Int32))] 4)
  rw [ef_rmNLc0 m]
  show own_Goes p e below s (QNLc0 Z h0 n0) rRrmNLc0.cells rRrmNLc0.slots s₁ (mkF m 0 #[iv (39 : Int32), iv (13 : Int32), iv (41 : Int32), .unset] [])
  refine own_st (fun _ kk_ => XS.iloadN X0.here hx rfl (hb hby d14_0) rfl (XS.iloadN X0.here hx rfl (hb hby d14_1) rfl (XS.iloadN X0.here hx rfl (hb hby d14_2) rfl kk_))) ?_
  show own_Goes _ _ _ _ _ _ _ s₁ (mkF m 3 #[iv (39 : Int32), iv (13 : Int32), iv (41 : Int32), .unset] [(.int (41 : Int32)), (.int (13 : Int32)), (.int (39 : Int32))])
  obtain ⟨_, _, ⟨T1, L1, k1, n1⟩, -, X1, ⟨Lc1, hQ1, l1, y1, z1⟩, st1⟩ := Jvm.LawKit.callS X0 hx (y := yy2) hown (mvT hZ (own_w hw 99 rfl)) (mvT hZ (own_w hw 100 rfl)) (mvT hZ (own_w hw 101 rfl)) (mvT hZ (own_w hw 102 rfl)) (by decide) (backOf (W := 1) (rmxB l Z a0 hw [] ((13 : Int32)) ((41 : Int32)) h0 n0 Z0 (by decide)) hZ (own_w hw 102 rfl) (own_w hw 101 rfl) (by decide) (by decide)) (g := (mkF m 3 #[iv (39 : Int32), iv (13 : Int32), iv (41 : Int32), .unset] [(.int (41 : Int32)), (.int (13 : Int32)), (.int (39 : Int32))])) rfl (by rw [hml]; rfl) (argsL := [(.int (13 : Int32)), (.int (41 : Int32))]) (rest := [(.int (39 : Int32))]) (lenOf pd_5 rfl) rfl (by show 2 * 0 + _ ≤ _; exact Nat.le_of_eq rfl) (hb hby d14_3) (fun _ _ => ⟨rfl, e0, (by decide : 0 + 0 ≤ _), (by decide : 0 + 0 ≤ _)⟩)
  dsimp only [Pt.U, Pt.locs, Pt.cells, Pt.slots] at X1 l1 y1 z1 st1 hQ1
  subst l1 y1 z1
  obtain ⟨rfl, Nq1, eq1⟩ := hQ1
  have N1 := Fr.app N0 Nq1
  refine own_st st1 ?_
  show own_Goes _ _ _ _ _ _ _ T1 (mkF m 6 #[iv (39 : Int32), iv (13 : Int32), iv (41 : Int32), .unset] [(.int (41 : Int32)), (.int (39 : Int32))])
  refine own_st (fun _ kk_ => XS.iadd X1.here hx rfl (hb hby d14_6) rfl (XS.istoreN X1.here hx rfl (hb hby d14_7) rfl (l' := #[iv (39 : Int32), iv (13 : Int32), iv (41 : Int32), iv (80 : Int32)]) rfl (XS.iconst X1.here hx rfl (hb hby d14_8) (XS.iloadN X1.here hx rfl (hb hby d14_9) rfl (XS.icmpNo X1.here hx rfl (hb hby d14_10) rfl (XT.ii_ge_f (by decide)) (XS.iloadN X1.here hx rfl (hb hby d14_13) rfl (X1.ldcInt hx hown (mvT hZ (own_w hw 103 rfl)) (g := (mkF m 14 #[iv (39 : Int32), iv (13 : Int32), iv (41 : Int32), iv (80 : Int32)] [(.int (80 : Int32))])) rfl (hb hby d14_14) _ (XS.icmpNo X1.here hx rfl (hb hby d14_16) rfl (XT.ii_gt_f (by decide)) (XS.iloadN X1.here hx rfl (hb hby d14_19) rfl kk_))))))))) ?_
  show own_Goes _ _ _ _ _ _ _ T1 (mkF m 20 #[iv (39 : Int32), iv (13 : Int32), iv (41 : Int32), iv (80 : Int32)] [(.int (80 : Int32))])
  refine own_retI X1 hx hlk Bd.returns (hb hby d14_20) (by decide) (by decide) ?_
  show QNLc0 Z h0 n0 (some (.int (80 : Int32))) T1.heap _
  rw [eq1]
  exact ⟨rfl, N1, rfl⟩
abbrev rRrmNCc0 : Room := { frames := 2, cells := 0, slots := 0, locals := 29 }
theorem pn_rmNCc0 : plainFor yy12 = true := by first | exact plainFor_of_name (by first | (simp [plainName, overriddenIn]; done) | decide +kernel) | decide +kernel
theorem ef_rmNCc0 (m : MethodId) (o : Addr) : entryFrame m #[(.ref o), (.int (52 : Int32))] 6 = (mkF m 0 #[rv o, iv (52 : Int32), .unset, .unset, .unset, .unset] []) := by first | (simp [entryFrame, mkF, argsToLocals, Value.category]; done) | rfl
def QNCc0 (Z : State) (o : Addr) (d : Addr) (kd : ClassId) (vs1 : List Value) (h0 : Heap) (n0 : Nat) (v_ : Option Value) (h_ : Heap) (L_ : List Loc) : Prop := (v_ = some (.int (80 : Int32))) ∧ (Fr n0 L_) ∧ (h_ = h0)
set_option maxRecDepth 65536 in
set_option maxHeartbeats 40000000 in
theorem rmNCc0 (l : Launch) (Z : State) (a0 : Array Value) (hw : ∀ d ∈ tables_1, d.before a0 Z = true) (ws : List Jvm.Cond) (o : Addr) (d : Addr) (kd : ClassId) (vs1 : List Value) (h0 : Heap) (n0 : Nat) (Z0 : n0 ≤ h0.size) (p_0 : Exa Z h0 o "java/lang/StringBuilder") (p_1 : Fld Z h0 o "java/lang/AbstractStringBuilder" "value" "[B" (.ref d)) (p_2 : Fld Z h0 o "java/lang/AbstractStringBuilder" "coder" "B" (.int (0 : Int32))) (p_3 : Arv Z h0 d kd .byte (39 : Int32) vs1 (.int (0 : Int32))) :
    MetFree l yy12 (head1 (Jvm.Cond.code yy12 jdk_68_method_10_code 6 (some .int) :: ws) rRrmNCc0) (fun a_ U_ => a_ = #[(.ref o), (.int (52 : Int32))] ∧ Z.Warmed39 U_.vm ∧ U_.heap = h0) (fun _ _ _ _ _ => True) (fun _ U_ o_ U1_ => ∃ v_ L_, o_ = .returned v_ ∧ QNCc0 Z o d kd vs1 h0 n0 v_ U1_.heap L_ ∧ FrameEnd U_ o_ U1_ L_ rRrmNCc0.cells rRrmNCc0.slots) := by
  refine MetFree.of_bodySF pn_rmNCc0 hisR ?_
  intro p e s m args below meth c s₁ Bd hml0 hP hK
  obtain ⟨rfl, hZ, hh⟩ := hP
  have hx := Bd.exec
  have hby := Bd.bytes
  have hlk : meth.locks = false := Bd.notSynchronized
  have hml : c.maxLocals = 6 := hml0
  have hown : s.vm.findClass "java/lang/AbstractStringBuilder" = some m.cls := findClass_of_methodNamed Bd.named
  have hnm := (name_of_methodNamed Bd.named Bd.method).1
  have X0 : Stand p l e rRrmNCc0 s m #[(.ref o), (.int (52 : Int32))] below meth c s₁ [] 0 0 := Stand.of_body Bd
  have e0 : s₁.heap = h0 := by rw [← hh, Bd.state]; rfl
  have N0 := Fr.nil n0
  show own_Goes p e below s (QNCc0 Z o d kd vs1 h0 n0) rRrmNCc0.cells rRrmNCc0.slots s₁ (entryFrame m #[(.ref o), (.int (52 : Int32))] 6)
  rw [ef_rmNCc0 m o]
  show own_Goes p e below s (QNCc0 Z o d kd vs1 h0 n0) rRrmNCc0.cells rRrmNCc0.slots s₁ (mkF m 0 #[rv o, iv (52 : Int32), .unset, .unset, .unset, .unset] [])
  refine own_st (fun _ kk_ => XS.aloadN X0.here hx rfl (hb hby d13_0) rfl rfl kk_) ?_
  show own_Goes _ _ _ _ _ _ _ s₁ (mkF m 1 #[rv o, iv (52 : Int32), .unset, .unset, .unset, .unset] [(.ref o)])
  obtain ⟨T1, X1, e1, st1⟩ := getF X0 hx hZ hown (host := "") (Or.inl (own_w hw 55 rfl)) Via.refl e0 p_1 (g := (mkF m 1 #[rv o, iv (52 : Int32), .unset, .unset, .unset, .unset] [(.ref o)])) rfl rfl (hb hby d13_1)
  refine own_st st1 ?_
  show own_Goes _ _ _ _ _ _ _ T1 (mkF m 4 #[rv o, iv (52 : Int32), .unset, .unset, .unset, .unset] [(.ref d)])
  obtain ⟨cl2, Ar2, -, Sz2, Nn2, -, -⟩ := id p_3
  refine own_st (fun _ kk_ => X1.arraylength hx (by rw [e1]; exact Ar2.1) (State.isArrayOf_alike hZ.alike Ar2.2.1) (g := (mkF m 4 #[rv o, iv (52 : Int32), .unset, .unset, .unset, .unset] [(.ref d)])) rfl rfl (hb hby d13_4) _ kk_) ?_
  rw [len_of Sz2 Nn2]
  show own_Goes _ _ _ _ _ _ _ T1 (mkF m 5 #[rv o, iv (52 : Int32), .unset, .unset, .unset, .unset] [(.int (39 : Int32))])
  refine own_st (fun _ kk_ => XS.istoreN X1.here hx rfl (hb hby d13_5) rfl (l' := #[rv o, iv (52 : Int32), iv (39 : Int32), .unset, .unset, .unset]) rfl (XS.iloadN X1.here hx rfl (hb hby d13_6) rfl (XS.aloadN X1.here hx rfl (hb hby d13_7) rfl rfl kk_))) ?_
  show own_Goes _ _ _ _ _ _ _ T1 (mkF m 8 #[rv o, iv (52 : Int32), iv (39 : Int32), .unset, .unset, .unset] [(.ref o), (.int (52 : Int32))])
  obtain ⟨T3, X3, e3, st3⟩ := getF X1 hx hZ hown (host := "") (Or.inl (own_w hw 57 rfl)) Via.refl e1 p_2 (g := (mkF m 8 #[rv o, iv (52 : Int32), iv (39 : Int32), .unset, .unset, .unset] [(.ref o), (.int (52 : Int32))])) rfl rfl (hb hby d13_8)
  refine own_st st3 ?_
  show own_Goes _ _ _ _ _ _ _ T3 (mkF m 11 #[rv o, iv (52 : Int32), iv (39 : Int32), .unset, .unset, .unset] [(.int (0 : Int32)), (.int (52 : Int32))])
  refine own_st (fun _ kk_ => XS.ishl X3.here hx rfl (hb hby d13_11) rfl (XS.istoreN X3.here hx rfl (hb hby d13_12) rfl (l' := #[rv o, iv (52 : Int32), iv (39 : Int32), iv (52 : Int32), .unset, .unset]) rfl (XS.iloadN X3.here hx rfl (hb hby d13_13) rfl (XS.iloadN X3.here hx rfl (hb hby d13_14) rfl (XS.isub X3.here hx rfl (hb hby d13_15) rfl (XS.istore X3.here hx rfl (hb hby d13_16) rfl (l' := #[rv o, iv (52 : Int32), iv (39 : Int32), iv (52 : Int32), iv (13 : Int32), .unset]) rfl (XS.iloadN X3.here hx rfl (hb hby d13_18) rfl (XS.iload X3.here hx rfl (hb hby d13_19) rfl (XS.iloadN X3.here hx rfl (hb hby d13_21) rfl (XS.iconst X3.here hx rfl (hb hby d13_22) (XS.aloadN X3.here hx rfl (hb hby d13_23) rfl rfl kk_))))))))))) ?_
  show own_Goes _ _ _ _ _ _ _ T3 (mkF m 24 #[rv o, iv (52 : Int32), iv (39 : Int32), iv (52 : Int32), iv (13 : Int32), .unset] [(.ref o), (.int (2 : Int32)), (.int (39 : Int32)), (.int (13 : Int32)), (.int (39 : Int32))])
  obtain ⟨T4, X4, e4, st4⟩ := getF X3 hx hZ hown (host := "") (Or.inl (own_w hw 57 rfl)) Via.refl e3 p_2 (g := (mkF m 24 #[rv o, iv (52 : Int32), iv (39 : Int32), iv (52 : Int32), iv (13 : Int32), .unset] [(.ref o), (.int (2 : Int32)), (.int (39 : Int32)), (.int (13 : Int32)), (.int (39 : Int32))])) rfl rfl (hb hby d13_24)
  refine own_st st4 ?_
  show own_Goes _ _ _ _ _ _ _ T4 (mkF m 27 #[rv o, iv (52 : Int32), iv (39 : Int32), iv (52 : Int32), iv (13 : Int32), .unset] [(.int (0 : Int32)), (.int (2 : Int32)), (.int (39 : Int32)), (.int (13 : Int32)), (.int (39 : Int32))])
  refine own_st (fun _ kk_ => XS.ishl X4.here hx rfl (hb hby d13_27) rfl (XS.iadd X4.here hx rfl (hb hby d13_28) rfl kk_)) ?_
  show own_Goes _ _ _ _ _ _ _ T4 (mkF m 29 #[rv o, iv (52 : Int32), iv (39 : Int32), iv (52 : Int32), iv (13 : Int32), .unset] [(.int (41 : Int32)), (.int (13 : Int32)), (.int (39 : Int32))])
  obtain ⟨_, _, ⟨T5, L5, k5, n5⟩, -, X5, ⟨Lc5, hQ5, l5, y5, z5⟩, st5⟩ := Jvm.LawKit.callS X4 hx (y := yy11) hown (mvT hZ (own_w hw 95 rfl)) (mvT hZ (own_w hw 96 rfl)) (mvT hZ (own_w hw 97 rfl)) (mvT hZ (own_w hw 98 rfl)) (by decide) (backOf (W := 0) (rmNLc0 l Z a0 hw []  h0 n0 Z0) hZ (own_w hw 98 rfl) (own_w hw 97 rfl) (by decide) (by decide)) (g := (mkF m 29 #[rv o, iv (52 : Int32), iv (39 : Int32), iv (52 : Int32), iv (13 : Int32), .unset] [(.int (41 : Int32)), (.int (13 : Int32)), (.int (39 : Int32))])) rfl (by rw [hml]; rfl) (argsL := [(.int (39 : Int32)), (.int (13 : Int32)), (.int (41 : Int32))]) (rest := []) (lenOf pd_6 rfl) rfl (by show 2 * 0 + _ ≤ _; exact Nat.le_of_eq rfl) (hb hby d13_29) (fun _ _ => ⟨rfl, e4, (by decide : 0 + 0 ≤ _), (by decide : 0 + 0 ≤ _)⟩)
  dsimp only [Pt.U, Pt.locs, Pt.cells, Pt.slots] at X5 l5 y5 z5 st5 hQ5
  subst l5 y5 z5
  obtain ⟨rfl, Nq5, eq5⟩ := hQ5
  have N5 := Fr.app N0 Nq5
  refine own_st st5 ?_
  show own_Goes _ _ _ _ _ _ _ T5 (mkF m 32 #[rv o, iv (52 : Int32), iv (39 : Int32), iv (52 : Int32), iv (13 : Int32), .unset] [(.int (80 : Int32))])
  refine own_st (fun _ kk_ => XS.istore X5.here hx rfl (hb hby d13_32) rfl (l' := #[rv o, iv (52 : Int32), iv (39 : Int32), iv (52 : Int32), iv (13 : Int32), iv (80 : Int32)]) rfl (XS.iload X5.here hx rfl (hb hby d13_34) rfl (X5.ldcInt hx hown (mvT hZ (own_w hw 104 rfl)) (g := (mkF m 36 #[rv o, iv (52 : Int32), iv (39 : Int32), iv (52 : Int32), iv (13 : Int32), iv (80 : Int32)] [(.int (80 : Int32))])) rfl (hb hby d13_36) _ (XS.icmpYes X5.here hx rfl (pc0 := 38) (pc' := 51) rfl (hb hby d13_38) rfl (XT.ii_ne_t (by decide)) (by decide) (by decide) (XS.iload X5.here hx rfl (hb hby d13_51) rfl (XS.aloadN X5.here hx rfl (hb hby d13_53) rfl rfl kk_)))))) ?_
  show own_Goes _ _ _ _ _ _ _ T5 (mkF m 54 #[rv o, iv (52 : Int32), iv (39 : Int32), iv (52 : Int32), iv (13 : Int32), iv (80 : Int32)] [(.ref o), (.int (80 : Int32))])
  obtain ⟨T6, X6, e6, st6⟩ := getF X5 hx hZ hown (host := "") (Or.inl (own_w hw 57 rfl)) Via.refl eq5 p_2 (g := (mkF m 54 #[rv o, iv (52 : Int32), iv (39 : Int32), iv (52 : Int32), iv (13 : Int32), iv (80 : Int32)] [(.ref o), (.int (80 : Int32))])) rfl rfl (hb hby d13_54)
  refine own_st st6 ?_
  show own_Goes _ _ _ _ _ _ _ T6 (mkF m 57 #[rv o, iv (52 : Int32), iv (39 : Int32), iv (52 : Int32), iv (13 : Int32), iv (80 : Int32)] [(.int (0 : Int32)), (.int (80 : Int32))])
  refine own_st (fun _ kk_ => XS.ishr X6.here hx rfl (hb hby d13_57) rfl kk_) ?_
  show own_Goes _ _ _ _ _ _ _ T6 (mkF m 58 #[rv o, iv (52 : Int32), iv (39 : Int32), iv (52 : Int32), iv (13 : Int32), iv (80 : Int32)] [(.int (80 : Int32))])
  refine own_retI X6 hx hlk Bd.returns (hb hby d13_58) (by decide) (by decide) ?_
  show QNCc0 Z o d kd vs1 h0 n0 (some (.int (80 : Int32))) T6.heap _
  rw [e6]
  exact ⟨rfl, N5, rfl⟩
abbrev rRrmcp39_80 : Room := { frames := 1, cells := 1, slots := 80, locals := 18 }
theorem pn_rmcp39_80 : plainFor yy13 = true := by first | exact plainFor_of_name (by first | (simp [plainName, overriddenIn]; done) | decide +kernel) | decide +kernel
theorem ef_rmcp39_80 (m : MethodId) (d : Addr) : entryFrame m #[(.ref d), (.int (80 : Int32))] 3 = (mkF m 0 #[rv d, iv (80 : Int32), .unset] []) := by first | (simp [entryFrame, mkF, argsToLocals, Value.category]; done) | rfl
def Qcp39_80 (Z : State) (d : Addr) (kd : ClassId) (vs1 : List Value) (h0 : Heap) (n0 : Nat) (v_ : Option Value) (h_ : Heap) (L_ : List Loc) : Prop := ∃ y : Addr, ∃ ky : ClassId, (v_ = some (.ref y)) ∧ (Fr n0 L_) ∧ (Keep h0 h_ []) ∧ (h0.size ≤ y) ∧ (Arv Z h_ y ky .byte (80 : Int32) (own_cp vs1 own_z80 (0 : Int32) (0 : Int32) (39 : Int32) (.int (0 : Int32))) (.int (0 : Int32)))
set_option maxRecDepth 65536 in
set_option maxHeartbeats 40000000 in
theorem rmcp39_80 (l : Launch) (Z : State) (a0 : Array Value) (hw : ∀ d ∈ tables_1, d.before a0 Z = true) (ws : List Jvm.Cond) (d : Addr) (kd : ClassId) (vs1 : List Value) (h0 : Heap) (n0 : Nat) (Z0 : n0 ≤ h0.size) (p_0 : Arv Z h0 d kd .byte (39 : Int32) vs1 (.int (0 : Int32))) :
    MetFree l yy13 (head1 (Jvm.Cond.code yy13 jdk_65_method_121_code 3 (some (.array .byte)) :: ws) rRrmcp39_80) (fun a_ U_ => a_ = #[(.ref d), (.int (80 : Int32))] ∧ Z.Warmed39 U_.vm ∧ U_.heap = h0) (fun _ _ _ _ _ => True) (fun _ U_ o_ U1_ => ∃ v_ L_, o_ = .returned v_ ∧ Qcp39_80 Z d kd vs1 h0 n0 v_ U1_.heap L_ ∧ FrameEnd U_ o_ U1_ L_ rRrmcp39_80.cells rRrmcp39_80.slots) := by
  refine MetFree.of_bodySF pn_rmcp39_80 hisR ?_
  intro p e s m args below meth c s₁ Bd hml0 hP hK
  obtain ⟨rfl, hZ, hh⟩ := hP
  have hx := Bd.exec
  have hby := Bd.bytes
  have hlk : meth.locks = false := Bd.notSynchronized
  have hml : c.maxLocals = 3 := hml0
  have hown : s.vm.findClass "java/util/Arrays" = some m.cls := findClass_of_methodNamed Bd.named
  have hnm := (name_of_methodNamed Bd.named Bd.method).1
  have X0 : Stand p l e rRrmcp39_80 s m #[(.ref d), (.int (80 : Int32))] below meth c s₁ [] 0 0 := Stand.of_body Bd
  have e0 : s₁.heap = h0 := by rw [← hh, Bd.state]; rfl
  have N0 := Fr.nil n0
  show own_Goes p e below s (Qcp39_80 Z d kd vs1 h0 n0) rRrmcp39_80.cells rRrmcp39_80.slots s₁ (entryFrame m #[(.ref d), (.int (80 : Int32))] 3)
  rw [ef_rmcp39_80 m d]
  show own_Goes p e below s (Qcp39_80 Z d kd vs1 h0 n0) rRrmcp39_80.cells rRrmcp39_80.slots s₁ (mkF m 0 #[rv d, iv (80 : Int32), .unset] [])
  refine own_st (fun _ kk_ => XS.iloadN X0.here hx rfl (hb hby d16_0) rfl (XS.aloadN X0.here hx rfl (hb hby d16_1) rfl rfl kk_)) ?_
  show own_Goes _ _ _ _ _ _ _ s₁ (mkF m 2 #[rv d, iv (80 : Int32), .unset] [(.ref d), (.int (80 : Int32))])
  obtain ⟨cl1, Ar1, -, Sz1, Nn1, -, -⟩ := id p_0
  refine own_st (fun _ kk_ => X0.arraylength hx (by rw [e0]; exact Ar1.1) (State.isArrayOf_alike hZ.alike Ar1.2.1) (g := (mkF m 2 #[rv d, iv (80 : Int32), .unset] [(.ref d), (.int (80 : Int32))])) rfl rfl (hb hby d16_2) _ kk_) ?_
  rw [len_of Sz1 Nn1]
  show own_Goes _ _ _ _ _ _ _ s₁ (mkF m 3 #[rv d, iv (80 : Int32), .unset] [(.int (39 : Int32)), (.int (80 : Int32))])
  refine own_st (fun _ kk_ => XS.icmpYes X0.here hx rfl (pc0 := 3) (pc' := 14) rfl (hb hby d16_3) rfl (XT.ii_ne_t (by decide)) (by decide) (by decide) (XS.iloadN X0.here hx rfl (hb hby d16_14) rfl kk_)) ?_
  show own_Goes _ _ _ _ _ _ _ s₁ (mkF m 15 #[rv d, iv (80 : Int32), .unset] [(.int (80 : Int32))])
  obtain ⟨T2, h2, k2, X2, e2, E2, A2, st2⟩ := newP X0 hx hZ (own_w hw 21 rfl) e0 (g := (mkF m 15 #[rv d, iv (80 : Int32), .unset] [(.int (80 : Int32))])) rfl (hb hby d16_15) rfl (by decide) (cap := 80) (by decide) (by decide) (by decide) (by decide)
  obtain ⟨b2, gx2⟩ : ∃ z, z = h0.size := ⟨_, rfl⟩
  rw [← gx2] at A2 st2
  have ne2_d : d ≠ b2 := Nat.ne_of_lt (Nat.lt_of_lt_of_eq p_0.lt gx2.symm)
  have gg2 : n0 ≤ b2 := Nat.le_trans Z0 (Nat.le_of_eq gx2.symm)
  have sz2 : h0.size ≤ b2 := Nat.le_trans (Keep.refl h0 []).1 (Nat.le_of_eq gx2.symm)
  have f2_0 := p_0.ext E2
  have Zs2 : n0 ≤ h2.size := Nat.le_trans Z0 E2.1
  have K2 := (Keep.refl h0 []).ext E2
  have V2 : Arv Z h2 b2 k2 .byte (80 : Int32) [(.int (0 : Int32)), (.int (0 : Int32)), (.int (0 : Int32)), (.int (0 : Int32)), (.int (0 : Int32)), (.int (0 : Int32)), (.int (0 : Int32)), (.int (0 : Int32)), (.int (0 : Int32)), (.int (0 : Int32)), (.int (0 : Int32)), (.int (0 : Int32)), (.int (0 : Int32)), (.int (0 : Int32)), (.int (0 : Int32)), (.int (0 : Int32)), (.int (0 : Int32)), (.int (0 : Int32)), (.int (0 : Int32)), (.int (0 : Int32)), (.int (0 : Int32)), (.int (0 : Int32)), (.int (0 : Int32)), (.int (0 : Int32)), (.int (0 : Int32)), (.int (0 : Int32)), (.int (0 : Int32)), (.int (0 : Int32)), (.int (0 : Int32)), (.int (0 : Int32)), (.int (0 : Int32)), (.int (0 : Int32)), (.int (0 : Int32)), (.int (0 : Int32)), (.int (0 : Int32)), (.int (0 : Int32)), (.int (0 : Int32)), (.int (0 : Int32)), (.int (0 : Int32)), (.int (0 : Int32)), (.int (0 : Int32)), (.int (0 : Int32)), (.int (0 : Int32)), (.int (0 : Int32)), (.int (0 : Int32)), (.int (0 : Int32)), (.int (0 : Int32)), (.int (0 : Int32)), (.int (0 : Int32)), (.int (0 : Int32)), (.int (0 : Int32)), (.int (0 : Int32)), (.int (0 : Int32)), (.int (0 : Int32)), (.int (0 : Int32)), (.int (0 : Int32)), (.int (0 : Int32)), (.int (0 : Int32)), (.int (0 : Int32)), (.int (0 : Int32)), (.int (0 : Int32)), (.int (0 : Int32)), (.int (0 : Int32)), (.int (0 : Int32)), (.int (0 : Int32)), (.int (0 : Int32)), (.int (0 : Int32)), (.int (0 : Int32)), (.int (0 : Int32)), (.int (0 : Int32)), (.int (0 : Int32)), (.int (0 : Int32)), (.int (0 : Int32)), (.int (0 : Int32)), (.int (0 : Int32)), (.int (0 : Int32)), (.int (0 : Int32)), (.int (0 : Int32)), (.int (0 : Int32)), (.int (0 : Int32))] (.int (0 : Int32)) := (Arv.new A2 (by decide)).pad (pad_rep [] (.int (0 : Int32)) 80)
  refine own_st st2 ?_
  show own_Goes _ _ _ _ _ _ _ T2 (mkF m 17 #[rv d, iv (80 : Int32), .unset] [(.ref b2)])
  have Vz : Arv Z h2 b2 k2 .byte (80 : Int32) own_z80 (.int (0 : Int32)) := V2
  refine own_st (fun _ kk_ => XS.astoreN X2.here hx rfl (hb hby d16_17) rfl rfl (l' := #[rv d, iv (80 : Int32), rv b2]) rfl (XS.aloadN X2.here hx rfl (hb hby d16_18) rfl rfl (XS.iconst X2.here hx rfl (hb hby d16_19) (XS.aloadN X2.here hx rfl (hb hby d16_20) rfl rfl (XS.iconst X2.here hx rfl (hb hby d16_21) (XS.aloadN X2.here hx rfl (hb hby d16_22) rfl rfl kk_)))))) ?_
  show own_Goes _ _ _ _ _ _ _ T2 (mkF m 23 #[rv d, iv (80 : Int32), rv b2] [(.ref d), (.int (0 : Int32)), (.ref b2), (.int (0 : Int32)), (.ref d)])
  obtain ⟨cl3, Ar3, -, Sz3, Nn3, -, -⟩ := id f2_0
  refine own_st (fun _ kk_ => X2.arraylength hx (by rw [e2]; exact Ar3.1) (State.isArrayOf_alike hZ.alike Ar3.2.1) (g := (mkF m 23 #[rv d, iv (80 : Int32), rv b2] [(.ref d), (.int (0 : Int32)), (.ref b2), (.int (0 : Int32)), (.ref d)])) rfl rfl (hb hby d16_23) _ kk_) ?_
  rw [len_of Sz3 Nn3]
  show own_Goes _ _ _ _ _ _ _ T2 (mkF m 24 #[rv d, iv (80 : Int32), rv b2] [(.int (39 : Int32)), (.int (0 : Int32)), (.ref b2), (.int (0 : Int32)), (.ref d)])
  refine own_st (fun _ kk_ => XS.iloadN X2.here hx rfl (hb hby d16_24) rfl kk_) ?_
  show own_Goes _ _ _ _ _ _ _ T2 (mkF m 25 #[rv d, iv (80 : Int32), rv b2] [(.int (80 : Int32)), (.int (39 : Int32)), (.int (0 : Int32)), (.ref b2), (.int (0 : Int32)), (.ref d)])
  obtain ⟨_, _, ⟨T4, L4, k4, n4⟩, -, X4, ⟨Lc4, hQ4, l4, y4, z4⟩, st4⟩ := Jvm.LawKit.callS X2 hx (y := yy3) hown (mvT hZ (own_w hw 109 rfl)) (mvT hZ (own_w hw 110 rfl)) (mvT hZ (own_w hw 101 rfl)) (mvT hZ (own_w hw 111 rfl)) (by decide) (backOf (W := 4) (rmnA l Z a0 hw [] ((39 : Int32)) ((80 : Int32)) h2 n0 Zs2 (by decide)) hZ (own_w hw 111 rfl) (own_w hw 101 rfl) (by decide) (by decide)) (g := (mkF m 25 #[rv d, iv (80 : Int32), rv b2] [(.int (80 : Int32)), (.int (39 : Int32)), (.int (0 : Int32)), (.ref b2), (.int (0 : Int32)), (.ref d)])) rfl (by rw [hml]; rfl) (argsL := [(.int (39 : Int32)), (.int (80 : Int32))]) (rest := [(.int (0 : Int32)), (.ref b2), (.int (0 : Int32)), (.ref d)]) (lenOf pd_5 rfl) rfl (by show 2 * 0 + _ ≤ _; exact Nat.le_of_eq rfl) (hb hby d16_25) (fun _ _ => ⟨rfl, e2, (by decide : 1 + 0 ≤ _), (by decide : 80 + 0 ≤ _)⟩)
  dsimp only [Pt.U, Pt.locs, Pt.cells, Pt.slots] at X4 l4 y4 z4 st4 hQ4
  subst l4 y4 z4
  obtain ⟨rfl, Nq4, eq4⟩ := hQ4
  have N4 := Fr.app N0 Nq4
  refine own_st st4 ?_
  show own_Goes _ _ _ _ _ _ _ T4 (mkF m 28 #[rv d, iv (80 : Int32), rv b2] [(.int (39 : Int32)), (.int (0 : Int32)), (.ref b2), (.int (0 : Int32)), (.ref d)])
  obtain ⟨T5, h5, L5, X5, e5, N5, Kp5, A5, st5⟩ := cpA X4 hx hZ hown (own_w hw 112 rfl) (own_w hw 115 rfl) (own_w hw 113 rfl) (own_w hw 114 rfl) eq4 f2_0 Vz (Or.inl ⟨rfl, rfl⟩) (by decide) (by decide) (by decide) (by decide) (by decide) rfl (Nat.le_of_ble_eq_true rfl) N4 gg2 (g := (mkF m 28 #[rv d, iv (80 : Int32), rv b2] [(.int (39 : Int32)), (.int (0 : Int32)), (.ref b2), (.int (0 : Int32)), (.ref d)])) rfl (by rw [hml]; rfl) (rest := []) rfl (hb hby d16_28) (by decide) (W := 0) (by show 2 * 0 + _ ≤ _; exact Nat.le_of_eq rfl) (by decide)
  have f5_0 := f2_0.keep Kp5 (ninS ne2_d nin0)
  have Zs5 : n0 ≤ h5.size := Nat.le_trans Zs2 Kp5.1
  have K5 := K2.trans Kp5 (allS (Or.inr sz2) all0)
  have V5 : Arv Z h5 b2 k2 .byte (80 : Int32) (own_cp vs1 own_z80 (0 : Int32) (0 : Int32) (39 : Int32) (.int (0 : Int32))) (.int (0 : Int32)) := A5
  refine own_st st5 ?_
  show own_Goes _ _ _ _ _ _ _ T5 (mkF m 31 #[rv d, iv (80 : Int32), rv b2] [])
  refine own_st (fun _ kk_ => XS.aloadN X5.here hx rfl (hb hby d16_31) rfl rfl kk_) ?_
  show own_Goes _ _ _ _ _ _ _ T5 (mkF m 32 #[rv d, iv (80 : Int32), rv b2] [(.ref b2)])
  refine own_retA X5 hx hlk rfl Bd.returns rfl (hb hby d16_32) (by decide) (by decide) ?_
  show Qcp39_80 Z d kd vs1 h0 n0 (some (.ref b2)) T5.heap _
  rw [e5]
  exact ⟨b2, k2, rfl, N5, K5, sz2, V5⟩
abbrev rRrmECc0 : Room := { frames := 3, cells := 1, slots := 80, locals := 48 }
theorem pn_rmECc0 : plainFor yy14 = true := by first | exact plainFor_of_name (by first | (simp [plainName, overriddenIn]; done) | decide +kernel) | decide +kernel
theorem ef_rmECc0 (m : MethodId) (o : Addr) : entryFrame m #[(.ref o), (.int (52 : Int32))] 3 = (mkF m 0 #[rv o, iv (52 : Int32), .unset] []) := by first | (simp [entryFrame, mkF, argsToLocals, Value.category]; done) | rfl
def QECc0 (Z : State) (o : Addr) (d : Addr) (kd : ClassId) (vs1 : List Value) (cn : Int32) (h0 : Heap) (n0 : Nat) (v_ : Option Value) (h_ : Heap) (L_ : List Loc) : Prop := ∃ y : Addr, ∃ ky : ClassId, (v_ = none) ∧ (Fr n0 L_) ∧ (Keep h0 h_ [o]) ∧ (h0.size ≤ y) ∧ (Exa Z h_ o "java/lang/StringBuilder") ∧ (Fld Z h_ o "java/lang/AbstractStringBuilder" "value" "[B" (.ref y)) ∧ (Fld Z h_ o "java/lang/AbstractStringBuilder" "coder" "B" (.int (0 : Int32))) ∧ (Fld Z h_ o "java/lang/AbstractStringBuilder" "count" "I" (.int cn)) ∧ (Arv Z h_ y ky .byte (80 : Int32) (own_cp vs1 own_z80 (0 : Int32) (0 : Int32) (39 : Int32) (.int (0 : Int32))) (.int (0 : Int32)))
set_option maxRecDepth 65536 in
set_option maxHeartbeats 40000000 in
theorem rmECc0 (l : Launch) (Z : State) (a0 : Array Value) (hw : ∀ d ∈ tables_1, d.before a0 Z = true) (ws : List Jvm.Cond) (o : Addr) (d : Addr) (kd : ClassId) (vs1 : List Value) (cn : Int32) (h0 : Heap) (n0 : Nat) (Z0 : n0 ≤ h0.size) (p_0 : Exa Z h0 o "java/lang/StringBuilder") (p_1 : Fld Z h0 o "java/lang/AbstractStringBuilder" "value" "[B" (.ref d)) (p_2 : Fld Z h0 o "java/lang/AbstractStringBuilder" "coder" "B" (.int (0 : Int32))) (p_3 : Fld Z h0 o "java/lang/AbstractStringBuilder" "count" "I" (.int cn)) (p_4 : n0 ≤ o) (p_5 : Arv Z h0 d kd .byte (39 : Int32) vs1 (.int (0 : Int32))) :
    MetFree l yy14 (head1 (Jvm.Cond.code yy14 jdk_68_method_9_code 3 none :: ws) rRrmECc0) (fun a_ U_ => a_ = #[(.ref o), (.int (52 : Int32))] ∧ Z.Warmed39 U_.vm ∧ U_.heap = h0) (fun _ _ _ _ _ => True) (fun _ U_ o_ U1_ => ∃ v_ L_, o_ = .returned v_ ∧ QECc0 Z o d kd vs1 cn h0 n0 v_ U1_.heap L_ ∧ FrameEnd U_ o_ U1_ L_ rRrmECc0.cells rRrmECc0.slots) := by
  refine MetFree.of_bodySF pn_rmECc0 hisR ?_
  intro p e s m args below meth c s₁ Bd hml0 hP hK
  obtain ⟨rfl, hZ, hh⟩ := hP
  have hx := Bd.exec
  have hby := Bd.bytes
  have hlk : meth.locks = false := Bd.notSynchronized
  have hml : c.maxLocals = 3 := hml0
  have hown : s.vm.findClass "java/lang/AbstractStringBuilder" = some m.cls := findClass_of_methodNamed Bd.named
  have hnm := (name_of_methodNamed Bd.named Bd.method).1
  have X0 : Stand p l e rRrmECc0 s m #[(.ref o), (.int (52 : Int32))] below meth c s₁ [] 0 0 := Stand.of_body Bd
  have e0 : s₁.heap = h0 := by rw [← hh, Bd.state]; rfl
  have N0 := Fr.nil n0
  show own_Goes p e below s (QECc0 Z o d kd vs1 cn h0 n0) rRrmECc0.cells rRrmECc0.slots s₁ (entryFrame m #[(.ref o), (.int (52 : Int32))] 3)
  rw [ef_rmECc0 m o]
  show own_Goes p e below s (QECc0 Z o d kd vs1 cn h0 n0) rRrmECc0.cells rRrmECc0.slots s₁ (mkF m 0 #[rv o, iv (52 : Int32), .unset] [])
  refine own_st (fun _ kk_ => XS.aloadN X0.here hx rfl (hb hby d12_0) rfl rfl kk_) ?_
  show own_Goes _ _ _ _ _ _ _ s₁ (mkF m 1 #[rv o, iv (52 : Int32), .unset] [(.ref o)])
  obtain ⟨T1, X1, e1, st1⟩ := getF X0 hx hZ hown (host := "") (Or.inl (own_w hw 55 rfl)) Via.refl e0 p_1 (g := (mkF m 1 #[rv o, iv (52 : Int32), .unset] [(.ref o)])) rfl rfl (hb hby d12_1)
  refine own_st st1 ?_
  show own_Goes _ _ _ _ _ _ _ T1 (mkF m 4 #[rv o, iv (52 : Int32), .unset] [(.ref d)])
  obtain ⟨cl2, Ar2, -, Sz2, Nn2, -, -⟩ := id p_5
  refine own_st (fun _ kk_ => X1.arraylength hx (by rw [e1]; exact Ar2.1) (State.isArrayOf_alike hZ.alike Ar2.2.1) (g := (mkF m 4 #[rv o, iv (52 : Int32), .unset] [(.ref d)])) rfl rfl (hb hby d12_4) _ kk_) ?_
  rw [len_of Sz2 Nn2]
  show own_Goes _ _ _ _ _ _ _ T1 (mkF m 5 #[rv o, iv (52 : Int32), .unset] [(.int (39 : Int32))])
  refine own_st (fun _ kk_ => XS.aloadN X1.here hx rfl (hb hby d12_5) rfl rfl kk_) ?_
  show own_Goes _ _ _ _ _ _ _ T1 (mkF m 6 #[rv o, iv (52 : Int32), .unset] [(.ref o), (.int (39 : Int32))])
  obtain ⟨T3, X3, e3, st3⟩ := getF X1 hx hZ hown (host := "") (Or.inl (own_w hw 57 rfl)) Via.refl e1 p_2 (g := (mkF m 6 #[rv o, iv (52 : Int32), .unset] [(.ref o), (.int (39 : Int32))])) rfl rfl (hb hby d12_6)
  refine own_st st3 ?_
  show own_Goes _ _ _ _ _ _ _ T3 (mkF m 9 #[rv o, iv (52 : Int32), .unset] [(.int (0 : Int32)), (.int (39 : Int32))])
  refine own_st (fun _ kk_ => XS.ishr X3.here hx rfl (hb hby d12_9) rfl (XS.istoreN X3.here hx rfl (hb hby d12_10) rfl (l' := #[rv o, iv (52 : Int32), iv (39 : Int32)]) rfl (XS.iloadN X3.here hx rfl (hb hby d12_11) rfl (XS.iloadN X3.here hx rfl (hb hby d12_12) rfl (XS.isub X3.here hx rfl (hb hby d12_13) rfl (XS.ifNo X3.here hx rfl (hb hby d12_14) rfl (XT.i0_le_f (by decide)) (XS.aloadN X3.here hx rfl (hb hby d12_17) rfl rfl (XS.aloadN X3.here hx rfl (hb hby d12_18) rfl rfl kk_)))))))) ?_
  show own_Goes _ _ _ _ _ _ _ T3 (mkF m 19 #[rv o, iv (52 : Int32), iv (39 : Int32)] [(.ref o), (.ref o)])
  obtain ⟨T4, X4, e4, st4⟩ := getF X3 hx hZ hown (host := "") (Or.inl (own_w hw 55 rfl)) Via.refl e3 p_1 (g := (mkF m 19 #[rv o, iv (52 : Int32), iv (39 : Int32)] [(.ref o), (.ref o)])) rfl rfl (hb hby d12_19)
  refine own_st st4 ?_
  show own_Goes _ _ _ _ _ _ _ T4 (mkF m 22 #[rv o, iv (52 : Int32), iv (39 : Int32)] [(.ref d), (.ref o)])
  refine own_st (fun _ kk_ => XS.aloadN X4.here hx rfl (hb hby d12_22) rfl rfl (XS.iloadN X4.here hx rfl (hb hby d12_23) rfl kk_)) ?_
  show own_Goes _ _ _ _ _ _ _ T4 (mkF m 24 #[rv o, iv (52 : Int32), iv (39 : Int32)] [(.int (52 : Int32)), (.ref o), (.ref d), (.ref o)])
  obtain ⟨cq5, q5, q5'⟩ := p_0.cell
  obtain ⟨_, _, ⟨T5, L5, k5, n5⟩, -, X5, ⟨Lc5, hQ5, l5, y5, z5⟩, st5⟩ := X4.privateBack hx (y := yy12) hown (mvT hZ (own_w hw 90 rfl)) (mvT hZ (own_w hw 91 rfl)) (own_selp (mvT hZ (own_w hw 93 rfl)) (Cond.privateMethod_at (mvP hZ (own_w hw 92 rfl) (args := #[]))) (mvT hZ (own_w hw 91 rfl)) (by decide)) (Cond.privateMethod_at (mvP hZ (own_w hw 92 rfl) (args := #[]))) (mvT hZ (own_w hw 94 rfl)) (by decide) (backOf (W := 2) (rmNCc0 l Z a0 hw [] (o) (d) (kd) (vs1) h0 n0 Z0 p_0 p_1 p_2 p_5) hZ (own_w hw 94 rfl) (own_w hw 51 rfl) (by decide) (by decide)) (g := (mkF m 24 #[rv o, iv (52 : Int32), iv (39 : Int32)] [(.int (52 : Int32)), (.ref o), (.ref d), (.ref o)])) rfl (by rw [hml]; rfl) (Steps.refl _) (a := o) (by rw [e4]; exact q5) q5' (argsL := [(.int (52 : Int32))]) (rest := [(.ref d), (.ref o)]) (lenOf pd_7 rfl) rfl (by show 2 * 0 + _ ≤ _; exact Nat.le_of_eq rfl) (hb hby d12_24) (fun _ _ => ⟨rfl, e4, (by decide : 0 + 0 ≤ _), (by decide : 0 + 0 ≤ _)⟩)
  dsimp only [Pt.U, Pt.locs, Pt.cells, Pt.slots] at X5 l5 y5 z5 st5 hQ5
  subst l5 y5 z5
  obtain ⟨rfl, Nq5, eq5⟩ := hQ5
  have N5 := Fr.app N0 Nq5
  refine own_st (fun _ kk_ => st5.trans kk_) ?_
  show own_Goes _ _ _ _ _ _ _ T5 (mkF m 27 #[rv o, iv (52 : Int32), iv (39 : Int32)] [(.int (80 : Int32)), (.ref d), (.ref o)])
  refine own_st (fun _ kk_ => XS.aloadN X5.here hx rfl (hb hby d12_27) rfl rfl kk_) ?_
  show own_Goes _ _ _ _ _ _ _ T5 (mkF m 28 #[rv o, iv (52 : Int32), iv (39 : Int32)] [(.ref o), (.int (80 : Int32)), (.ref d), (.ref o)])
  obtain ⟨T6, X6, e6, st6⟩ := getF X5 hx hZ hown (host := "") (Or.inl (own_w hw 57 rfl)) Via.refl eq5 p_2 (g := (mkF m 28 #[rv o, iv (52 : Int32), iv (39 : Int32)] [(.ref o), (.int (80 : Int32)), (.ref d), (.ref o)])) rfl rfl (hb hby d12_28)
  refine own_st st6 ?_
  show own_Goes _ _ _ _ _ _ _ T6 (mkF m 31 #[rv o, iv (52 : Int32), iv (39 : Int32)] [(.int (0 : Int32)), (.int (80 : Int32)), (.ref d), (.ref o)])
  refine own_st (fun _ kk_ => XS.ishl X6.here hx rfl (hb hby d12_31) rfl kk_) ?_
  show own_Goes _ _ _ _ _ _ _ T6 (mkF m 32 #[rv o, iv (52 : Int32), iv (39 : Int32)] [(.int (80 : Int32)), (.ref d), (.ref o)])
  obtain ⟨_, _, ⟨T7, L7, k7, n7⟩, -, X7, ⟨Lc7, hQ7, l7, y7, z7⟩, st7⟩ := Jvm.LawKit.callS X6 hx (y := yy13) hown (mvT hZ (own_w hw 105 rfl)) (mvT hZ (own_w hw 106 rfl)) (mvT hZ (own_w hw 107 rfl)) (mvT hZ (own_w hw 108 rfl)) (by decide) (backOf (W := 1) (rmcp39_80 l Z a0 hw [] (d) (kd) (vs1) h0 n0 Z0 p_5) hZ (own_w hw 108 rfl) (own_w hw 107 rfl) (by decide) (by decide)) (g := (mkF m 32 #[rv o, iv (52 : Int32), iv (39 : Int32)] [(.int (80 : Int32)), (.ref d), (.ref o)])) rfl (by rw [hml]; rfl) (argsL := [(.ref d), (.int (80 : Int32))]) (rest := [(.ref o)]) (lenOf pd_8 rfl) rfl (by show 2 * 0 + _ ≤ _; exact Nat.le_of_eq rfl) (hb hby d12_32) (fun _ _ => ⟨rfl, e6, (by decide : 0 + 1 ≤ _), (by decide : 0 + 80 ≤ _)⟩)
  dsimp only [Pt.U, Pt.locs, Pt.cells, Pt.slots] at X7 l7 y7 z7 st7 hQ7
  subst l7 y7 z7
  obtain ⟨x7_y, x7_ky, rfl, Nq7, Kq7, u7_0, u7_1⟩ := hQ7
  have N7 := Fr.app N5 Nq7
  have f7_0 := p_0.keep Kq7
  have f7_1 := p_1.keep Kq7 nin0
  have f7_2 := p_2.keep Kq7 nin0
  have f7_3 := p_3.keep Kq7 nin0
  have f7_4 := p_5.keep Kq7 nin0
  have Zs7 : n0 ≤ T7.heap.size := Nat.le_trans Z0 Kq7.1
  have K7 := (Keep.refl h0 [o]).trans Kq7 all0
  have ne7_o : o ≠ x7_y := Nat.ne_of_lt (Nat.lt_of_lt_of_le p_0.lt u7_0)
  have ne7_d : d ≠ x7_y := Nat.ne_of_lt (Nat.lt_of_lt_of_le p_5.lt u7_0)
  have sz7_y : h0.size ≤ x7_y := Nat.le_trans (Keep.refl h0 [o]).1 u7_0
  have gg7_y : n0 ≤ x7_y := Nat.le_trans Z0 u7_0
  refine own_st st7 ?_
  show own_Goes _ _ _ _ _ _ _ T7 (mkF m 35 #[rv o, iv (52 : Int32), iv (39 : Int32)] [(.ref x7_y), (.ref o)])
  obtain ⟨T8, h8, X8, e8, W8, st8⟩ := putF X7 hx hZ hown (host := "") (Or.inl (own_w hw 55 rfl)) Via.refl rfl f7_1 f7_0 (Or.inl (own_w hw 56 rfl)) (own_w hw 42 rfl) (ty := (.array .byte)) (by decide) rfl rfl (g := (mkF m 35 #[rv o, iv (52 : Int32), iv (39 : Int32)] [(.ref x7_y), (.ref o)])) rfl rfl (hb hby d12_35)
  have fw8 : Fld Z h8 o "java/lang/AbstractStringBuilder" "value" "[B" (.ref x7_y) := f7_1.same W8
  have f8_0 := f7_0.wr W8
  have f8_2 := f7_2.other W8 (Or.inr (slot_ne (Or.inl (own_w hw 58 rfl)) (Or.inl (own_w hw 56 rfl)) (by decide) (t := .byte) (t' := (.array .byte)) (by decide) (by decide)))
  have f8_3 := f7_3.other W8 (Or.inr (slot_ne (Or.inl (own_w hw 84 rfl)) (Or.inl (own_w hw 56 rfl)) (by decide) (t := .int) (t' := (.array .byte)) (by decide) (by decide)))
  have f8_5 := u7_1.other W8 (Ne.symm ne7_o)
  have Zs8 : n0 ≤ h8.size := Nat.le_trans Zs7 (Nat.le_of_eq W8.size.symm)
  have K8 := K7.wr W8 (Or.inl (List.mem_of_getElem? (i := 0) rfl))
  have N8 := Fr.snoc X8 N7 p_4
  refine own_st st8 ?_
  show own_Goes _ _ _ _ _ _ _ T8 (mkF m 38 #[rv o, iv (52 : Int32), iv (39 : Int32)] [])
  refine own_ret0 X8 hx hlk Bd.returns (hb hby d12_38) (by decide) (by decide) ?_
  show QECc0 Z o d kd vs1 cn h0 n0 none T8.heap _
  rw [e8]
  exact ⟨x7_y, x7_ky, rfl, N8, K8, sz7_y, f8_0, fw8, f8_2, f8_3, f8_5⟩
abbrev rRrmAAc0 : Room := { frames := 4, cells := 1, slots := 80, locals := 62 }
theorem pn_rmAAc0 : plainFor yy15 = true := by first | exact plainFor_of_name (by first | (simp [plainName, overriddenIn]; done) | decide +kernel) | decide +kernel
theorem ef_rmAAc0 (m : MethodId) (o : Addr) (a : Addr) : entryFrame m #[(.ref o), (.ref a)] 3 = (mkF m 0 #[rv o, rv a, .unset] []) := by first | (simp [entryFrame, mkF, argsToLocals, Value.category]; done) | rfl
def QAAc0 (Z : State) (o : Addr) (a : Addr) (d : Addr) (kd : ClassId) (vs1 : List Value) (b : Addr) (kb : ClassId) (vs2 : List Value) (cs : Int32) (h0 : Heap) (n0 : Nat) (v_ : Option Value) (h_ : Heap) (L_ : List Loc) : Prop := ∃ y : Addr, ∃ ky : ClassId, (v_ = some (.ref o)) ∧ (Fr n0 L_) ∧ (Keep h0 h_ [o]) ∧ (h0.size ≤ y) ∧ (Exa Z h_ o "java/lang/StringBuilder") ∧ (Fld Z h_ o "java/lang/AbstractStringBuilder" "value" "[B" (.ref y)) ∧ (Fld Z h_ o "java/lang/AbstractStringBuilder" "coder" "B" (.int (0 : Int32))) ∧ (Fld Z h_ o "java/lang/AbstractStringBuilder" "count" "I" (.int (52 : Int32))) ∧ (Arv Z h_ y ky .byte (80 : Int32) (own_cp vs2 (own_cp vs1 own_z80 (0 : Int32) (0 : Int32) (39 : Int32) (.int (0 : Int32))) (0 : Int32) (39 : Int32) (13 : Int32) (.int (0 : Int32))) (.int (0 : Int32)))
set_option maxRecDepth 65536 in
set_option maxHeartbeats 40000000 in
theorem rmAAc0 (l : Launch) (Z : State) (a0 : Array Value) (hw : ∀ d ∈ tables_1, d.before a0 Z = true) (ws : List Jvm.Cond) (o : Addr) (a : Addr) (d : Addr) (kd : ClassId) (vs1 : List Value) (b : Addr) (kb : ClassId) (vs2 : List Value) (cs : Int32) (h0 : Heap) (n0 : Nat) (Z0 : n0 ≤ h0.size) (p_0 : Exa Z h0 o "java/lang/StringBuilder") (p_1 : Fld Z h0 o "java/lang/AbstractStringBuilder" "value" "[B" (.ref d)) (p_2 : Fld Z h0 o "java/lang/AbstractStringBuilder" "coder" "B" (.int (0 : Int32))) (p_3 : Fld Z h0 o "java/lang/AbstractStringBuilder" "count" "I" (.int (39 : Int32))) (p_4 : n0 ≤ o) (p_5 : Arv Z h0 d kd .byte (39 : Int32) vs1 (.int (0 : Int32))) (p_6 : Exa Z h0 a "java/lang/String") (p_7 : Fld Z h0 a "java/lang/String" "coder" "B" (.int (0 : Int32))) (p_8 : Fld Z h0 a "java/lang/String" "value" "[B" (.ref b)) (p_9 : Arv Z h0 b kb .byte (13 : Int32) vs2 (.int (0 : Int32))) (p_10 : Sta Z h0 "java/lang/String" "COMPACT_STRINGS" "Z" (.int cs)) (hcs : ¬ cs = (0 : Int32)) (p_12 : o ≠ a) (p_13 : o ≠ b) :
    MetFree l yy15 (head1 (Jvm.Cond.code yy15 jdk_68_method_22_code 3 (some (.object "java/lang/AbstractStringBuilder")) :: ws) rRrmAAc0) (fun a_ U_ => a_ = #[(.ref o), (.ref a)] ∧ Z.Warmed39 U_.vm ∧ U_.heap = h0) (fun _ _ _ _ _ => True) (fun _ U_ o_ U1_ => ∃ v_ L_, o_ = .returned v_ ∧ QAAc0 Z o a d kd vs1 b kb vs2 cs h0 n0 v_ U1_.heap L_ ∧ FrameEnd U_ o_ U1_ L_ rRrmAAc0.cells rRrmAAc0.slots) := by
  refine MetFree.of_bodySF pn_rmAAc0 hisR ?_
  intro p e s m args below meth c s₁ Bd hml0 hP hK
  obtain ⟨rfl, hZ, hh⟩ := hP
  have hx := Bd.exec
  have hby := Bd.bytes
  have hlk : meth.locks = false := Bd.notSynchronized
  have hml : c.maxLocals = 3 := hml0
  have hown : s.vm.findClass "java/lang/AbstractStringBuilder" = some m.cls := findClass_of_methodNamed Bd.named
  have hnm := (name_of_methodNamed Bd.named Bd.method).1
  have X0 : Stand p l e rRrmAAc0 s m #[(.ref o), (.ref a)] below meth c s₁ [] 0 0 := Stand.of_body Bd
  have e0 : s₁.heap = h0 := by rw [← hh, Bd.state]; rfl
  have N0 := Fr.nil n0
  show own_Goes p e below s (QAAc0 Z o a d kd vs1 b kb vs2 cs h0 n0) rRrmAAc0.cells rRrmAAc0.slots s₁ (entryFrame m #[(.ref o), (.ref a)] 3)
  rw [ef_rmAAc0 m o a]
  show own_Goes p e below s (QAAc0 Z o a d kd vs1 b kb vs2 cs h0 n0) rRrmAAc0.cells rRrmAAc0.slots s₁ (mkF m 0 #[rv o, rv a, .unset] [])
  refine own_st (fun _ kk_ => XS.aloadN X0.here hx rfl (hb hby d9_0) rfl rfl (XS.ifnonnullYes X0.here hx rfl (pc0 := 1) (pc' := 9) rfl (hb hby d9_1) rfl (by decide) (by decide) (XS.aloadN X0.here hx rfl (hb hby d9_9) rfl rfl kk_))) ?_
  show own_Goes _ _ _ _ _ _ _ s₁ (mkF m 10 #[rv o, rv a, .unset] [(.ref a)])
  obtain ⟨cq1, kq1, q1a, q1b, q1c⟩ := isOf hZ e0 p_6
  obtain ⟨_, _, ⟨T1, L1, k1, n1⟩, -, X1, ⟨Lc1, hQ1, l1, y1, z1⟩, st1⟩ := X0.virtualBack hx (y := yy1) (z := yy1) hown (mvT hZ (own_w hw 70 rfl)) (mvT hZ (own_w hw 71 rfl)) (notFace_of_selects (args := #[]) (mvT hZ (own_w hw 73 rfl))) (mvT hZ (own_w hw 73 rfl)) (mvT hZ (own_w hw 72 rfl)) (by decide) (backOf (W := 0) (rm10 l Z a0 hw [] (a) (b) (kb) ((13 : Int32)) (vs2) (cs) h0 n0 Z0 p_6 p_7 p_8 p_9 p_10 (by assumption)) hZ (own_w hw 74 rfl) (own_w hw 19 rfl) (by decide) (by decide)) q1a q1c (g := (mkF m 10 #[rv o, rv a, .unset] [(.ref a)])) rfl (by rw [hml]; rfl) (Steps.refl _) (argsL := []) (rest := []) (lenOf pd_9 rfl) rfl (by show 2 * 0 + _ ≤ _; exact Nat.le_of_eq rfl) (hb hby d9_10) (fun _ _ => ⟨rfl, e0, (by decide : 0 + 0 ≤ _), (by decide : 0 + 0 ≤ _)⟩)
  dsimp only [Pt.U, Pt.locs, Pt.cells, Pt.slots] at X1 l1 y1 z1 st1 hQ1
  subst l1 y1 z1
  obtain ⟨rfl, Nq1, eq1⟩ := hQ1
  have N1 := Fr.app N0 Nq1
  refine own_st (fun _ kk_ => st1.trans kk_) ?_
  show own_Goes _ _ _ _ _ _ _ T1 (mkF m 13 #[rv o, rv a, .unset] [(.int (13 : Int32))])
  refine own_st (fun _ kk_ => XS.istoreN X1.here hx rfl (hb hby d9_13) rfl (l' := #[rv o, rv a, iv (13 : Int32)]) rfl (XS.aloadN X1.here hx rfl (hb hby d9_14) rfl rfl (XS.aloadN X1.here hx rfl (hb hby d9_15) rfl rfl kk_))) ?_
  show own_Goes _ _ _ _ _ _ _ T1 (mkF m 16 #[rv o, rv a, iv (13 : Int32)] [(.ref o), (.ref o)])
  obtain ⟨T2, X2, e2, st2⟩ := getF X1 hx hZ hown (host := "") (Or.inl (own_w hw 83 rfl)) Via.refl eq1 p_3 (g := (mkF m 16 #[rv o, rv a, iv (13 : Int32)] [(.ref o), (.ref o)])) rfl rfl (hb hby d9_16)
  refine own_st st2 ?_
  show own_Goes _ _ _ _ _ _ _ T2 (mkF m 19 #[rv o, rv a, iv (13 : Int32)] [(.int (39 : Int32)), (.ref o)])
  refine own_st (fun _ kk_ => XS.iloadN X2.here hx rfl (hb hby d9_19) rfl (XS.iadd X2.here hx rfl (hb hby d9_20) rfl kk_)) ?_
  show own_Goes _ _ _ _ _ _ _ T2 (mkF m 21 #[rv o, rv a, iv (13 : Int32)] [(.int (52 : Int32)), (.ref o)])
  obtain ⟨cq3, q3, q3'⟩ := p_0.cell
  obtain ⟨_, _, ⟨T3, L3, k3, n3⟩, -, X3, ⟨Lc3, hQ3, l3, y3, z3⟩, st3⟩ := X2.privateBack hx (y := yy14) hown (mvT hZ (own_w hw 85 rfl)) (mvT hZ (own_w hw 86 rfl)) (own_selp (mvT hZ (own_w hw 88 rfl)) (Cond.privateMethod_at (mvP hZ (own_w hw 87 rfl) (args := #[]))) (mvT hZ (own_w hw 86 rfl)) (by decide)) (Cond.privateMethod_at (mvP hZ (own_w hw 87 rfl) (args := #[]))) (mvT hZ (own_w hw 89 rfl)) (by decide) (backOf (W := 0) (rmECc0 l Z a0 hw [] (o) (d) (kd) (vs1) ((39 : Int32)) h0 n0 Z0 p_0 p_1 p_2 p_3 p_4 p_5) hZ (own_w hw 89 rfl) (own_w hw 51 rfl) (by decide) (by decide)) (g := (mkF m 21 #[rv o, rv a, iv (13 : Int32)] [(.int (52 : Int32)), (.ref o)])) rfl (by rw [hml]; rfl) (Steps.refl _) (a := o) (by rw [e2]; exact q3) q3' (argsL := [(.int (52 : Int32))]) (rest := []) (lenOf pd_2 rfl) rfl (by show 2 * 0 + _ ≤ _; exact Nat.le_of_eq rfl) (hb hby d9_21) (fun _ _ => ⟨rfl, e2, (by decide : 0 + 1 ≤ _), (by decide : 0 + 80 ≤ _)⟩)
  dsimp only [Pt.U, Pt.locs, Pt.cells, Pt.slots] at X3 l3 y3 z3 st3 hQ3
  subst l3 y3 z3
  obtain ⟨x3_y, x3_ky, rfl, Nq3, Kq3, u3_0, u3_1, u3_2, u3_3, u3_4, u3_5⟩ := hQ3
  have N3 := Fr.app N1 Nq3
  have f3_0 := p_0.keep Kq3
  have f3_5 := p_6.keep Kq3
  have f3_6 := p_7.keep Kq3 (ninS (Ne.symm p_12) nin0)
  have f3_7 := p_8.keep Kq3 (ninS (Ne.symm p_12) nin0)
  have f3_8 := p_9.keep Kq3 (ninS (Ne.symm p_13) nin0)
  have f3_9 := own_Sta_keep p_10 Kq3 (nsS p_0.nostat ns0)
  have Zs3 : n0 ≤ T3.heap.size := Nat.le_trans Z0 Kq3.1
  have K3 := (Keep.refl h0 [o]).trans Kq3 (allS (Or.inl (List.mem_of_getElem? (i := 0) rfl)) all0)
  have ne3_o : o ≠ x3_y := Nat.ne_of_lt (Nat.lt_of_lt_of_le p_0.lt u3_0)
  have ne3_d : d ≠ x3_y := Nat.ne_of_lt (Nat.lt_of_lt_of_le p_5.lt u3_0)
  have ne3_a : a ≠ x3_y := Nat.ne_of_lt (Nat.lt_of_lt_of_le p_6.lt u3_0)
  have ne3_b : b ≠ x3_y := Nat.ne_of_lt (Nat.lt_of_lt_of_le p_9.lt u3_0)
  have sz3_y : h0.size ≤ x3_y := Nat.le_trans (Keep.refl h0 [o]).1 u3_0
  have gg3_y : n0 ≤ x3_y := Nat.le_trans Z0 u3_0
  refine own_st (fun _ kk_ => st3.trans kk_) ?_
  show own_Goes _ _ _ _ _ _ _ T3 (mkF m 24 #[rv o, rv a, iv (13 : Int32)] [])
  refine own_st (fun _ kk_ => XS.aloadN X3.here hx rfl (hb hby d9_24) rfl rfl (XS.aloadN X3.here hx rfl (hb hby d9_25) rfl rfl kk_)) ?_
  show own_Goes _ _ _ _ _ _ _ T3 (mkF m 26 #[rv o, rv a, iv (13 : Int32)] [(.ref o), (.ref o)])
  obtain ⟨T4, X4, e4, st4⟩ := getF X3 hx hZ hown (host := "") (Or.inl (own_w hw 83 rfl)) Via.refl rfl u3_4 (g := (mkF m 26 #[rv o, rv a, iv (13 : Int32)] [(.ref o), (.ref o)])) rfl rfl (hb hby d9_26)
  refine own_st st4 ?_
  show own_Goes _ _ _ _ _ _ _ T4 (mkF m 29 #[rv o, rv a, iv (13 : Int32)] [(.int (39 : Int32)), (.ref o)])
  refine own_st (fun _ kk_ => XS.aloadN X4.here hx rfl (hb hby d9_29) rfl rfl kk_) ?_
  show own_Goes _ _ _ _ _ _ _ T4 (mkF m 30 #[rv o, rv a, iv (13 : Int32)] [(.ref a), (.int (39 : Int32)), (.ref o)])
  obtain ⟨cq5, q5, q5'⟩ := u3_1.cell
  obtain ⟨_, _, ⟨T5, L5, k5, n5⟩, -, X5, ⟨Lc5, hQ5, l5, y5, z5⟩, st5⟩ := X4.privateBack hx (y := yy10) hown (mvT hZ (own_w hw 116 rfl)) (mvT hZ (own_w hw 117 rfl)) (own_selp (mvT hZ (own_w hw 119 rfl)) (Cond.privateMethod_at (mvP hZ (own_w hw 118 rfl) (args := #[]))) (mvT hZ (own_w hw 117 rfl)) (by decide)) (Cond.privateMethod_at (mvP hZ (own_w hw 118 rfl) (args := #[]))) (mvT hZ (own_w hw 120 rfl)) (by decide) (backOf (W := 0) (rmPSc0 l Z a0 hw [] (o) (a) (x3_y) (x3_ky) ((own_cp vs1 own_z80 (0 : Int32) (0 : Int32) (39 : Int32) (.int (0 : Int32)))) (b) (kb) (vs2) (cs) T3.heap n0 Zs3 u3_1 u3_2 u3_3 f3_5 f3_6 f3_7 f3_8 f3_9 (by assumption) u3_5 gg3_y (Nat.le_of_ble_eq_true rfl)) hZ (own_w hw 120 rfl) (own_w hw 51 rfl) (by decide) (by decide)) (g := (mkF m 30 #[rv o, rv a, iv (13 : Int32)] [(.ref a), (.int (39 : Int32)), (.ref o)])) rfl (by rw [hml]; rfl) (Steps.refl _) (a := o) (by rw [e4]; exact q5) q5' (argsL := [(.int (39 : Int32)), (.ref a)]) (rest := []) (lenOf pd_10 rfl) rfl (by show 2 * 0 + _ ≤ _; exact Nat.le_of_eq rfl) (hb hby d9_30) (fun _ _ => ⟨rfl, e4, (by decide : 1 + 0 ≤ _), (by decide : 80 + 0 ≤ _)⟩)
  dsimp only [Pt.U, Pt.locs, Pt.cells, Pt.slots] at X5 l5 y5 z5 st5 hQ5
  subst l5 y5 z5
  obtain ⟨rfl, Nq5, Kq5, u5_0⟩ := hQ5
  have N5 := Fr.app N3 Nq5
  have f5_0 := u3_1.keep Kq5
  have f5_1 := f3_5.keep Kq5
  have f5_2 := f3_6.keep Kq5 (ninS ne3_a nin0)
  have f5_3 := f3_7.keep Kq5 (ninS ne3_a nin0)
  have f5_4 := f3_8.keep Kq5 (ninS ne3_b nin0)
  have f5_5 := own_Sta_keep f3_9 Kq5 (nsS u3_5.nostat ns0)
  have f5_6 := u3_2.keep Kq5 (ninS ne3_o nin0)
  have f5_7 := u3_3.keep Kq5 (ninS ne3_o nin0)
  have f5_8 := u3_4.keep Kq5 (ninS ne3_o nin0)
  have Zs5 : n0 ≤ T5.heap.size := Nat.le_trans Zs3 Kq5.1
  have K5 := K3.trans Kq5 (allS (Or.inr sz3_y) all0)
  refine own_st (fun _ kk_ => st5.trans kk_) ?_
  show own_Goes _ _ _ _ _ _ _ T5 (mkF m 33 #[rv o, rv a, iv (13 : Int32)] [])
  refine own_st (fun _ kk_ => XS.aloadN X5.here hx rfl (hb hby d9_33) rfl rfl (XS.dup X5.here hx rfl (hb hby d9_34) rfl rfl kk_)) ?_
  show own_Goes _ _ _ _ _ _ _ T5 (mkF m 35 #[rv o, rv a, iv (13 : Int32)] [(.ref o), (.ref o)])
  obtain ⟨T6, X6, e6, st6⟩ := getF X5 hx hZ hown (host := "") (Or.inl (own_w hw 83 rfl)) Via.refl rfl f5_8 (g := (mkF m 35 #[rv o, rv a, iv (13 : Int32)] [(.ref o), (.ref o)])) rfl rfl (hb hby d9_35)
  refine own_st st6 ?_
  show own_Goes _ _ _ _ _ _ _ T6 (mkF m 38 #[rv o, rv a, iv (13 : Int32)] [(.int (39 : Int32)), (.ref o)])
  refine own_st (fun _ kk_ => XS.iloadN X6.here hx rfl (hb hby d9_38) rfl (XS.iadd X6.here hx rfl (hb hby d9_39) rfl kk_)) ?_
  show own_Goes _ _ _ _ _ _ _ T6 (mkF m 40 #[rv o, rv a, iv (13 : Int32)] [(.int (52 : Int32)), (.ref o)])
  obtain ⟨T7, h7, X7, e7, W7, st7⟩ := putF X6 hx hZ hown (host := "") (Or.inl (own_w hw 83 rfl)) Via.refl e6 f5_8 f5_0 (Or.inl (own_w hw 84 rfl)) (own_w hw 42 rfl) (ty := .int) (by decide) rfl rfl (g := (mkF m 40 #[rv o, rv a, iv (13 : Int32)] [(.int (52 : Int32)), (.ref o)])) rfl rfl (hb hby d9_40)
  have fw7 : Fld Z h7 o "java/lang/AbstractStringBuilder" "count" "I" (.int (52 : Int32)) := f5_8.same W7
  have f7_0 := f5_0.wr W7
  have f7_1 := f5_1.wr W7
  have f7_2 := f5_2.other W7 (Or.inl (Ne.symm p_12))
  have f7_3 := f5_3.other W7 (Or.inl (Ne.symm p_12))
  have f7_4 := f5_4.other W7 (Ne.symm p_13)
  have f7_5 := f5_5.wr W7
  have f7_6 := f5_6.other W7 (Or.inr (slot_ne (Or.inl (own_w hw 56 rfl)) (Or.inl (own_w hw 84 rfl)) (by decide) (t := (.array .byte)) (t' := .int) (by decide) (by decide)))
  have f7_7 := f5_7.other W7 (Or.inr (slot_ne (Or.inl (own_w hw 58 rfl)) (Or.inl (own_w hw 84 rfl)) (by decide) (t := .byte) (t' := .int) (by decide) (by decide)))
  have f7_9 := u5_0.other W7 (Ne.symm ne3_o)
  have Zs7 : n0 ≤ h7.size := Nat.le_trans Zs5 (Nat.le_of_eq W7.size.symm)
  have K7 := K5.wr W7 (Or.inl (List.mem_of_getElem? (i := 0) rfl))
  have N7 := Fr.snoc X7 N5 p_4
  refine own_st st7 ?_
  show own_Goes _ _ _ _ _ _ _ T7 (mkF m 43 #[rv o, rv a, iv (13 : Int32)] [])
  refine own_st (fun _ kk_ => XS.aloadN X7.here hx rfl (hb hby d9_43) rfl rfl kk_) ?_
  show own_Goes _ _ _ _ _ _ _ T7 (mkF m 44 #[rv o, rv a, iv (13 : Int32)] [(.ref o)])
  refine own_retA X7 hx hlk rfl Bd.returns rfl (hb hby d9_44) (by decide) (by decide) ?_
  show QAAc0 Z o a d kd vs1 b kb vs2 cs h0 n0 (some (.ref o)) T7.heap _
  rw [e7]
  exact ⟨x3_y, x3_ky, rfl, N7, K7, sz3_y, f7_0, f7_6, f7_7, fw7, f7_9⟩
abbrev rRrmSAc0 : Room := { frames := 5, cells := 1, slots := 80, locals := 76 }
theorem pn_rmSAc0 : plainFor yy16 = true := by first | exact plainFor_of_name (by first | (simp [plainName, overriddenIn]; done) | decide +kernel) | decide +kernel
theorem ef_rmSAc0 (m : MethodId) (o : Addr) (a : Addr) : entryFrame m #[(.ref o), (.ref a)] 2 = (mkF m 0 #[rv o, rv a] []) := by first | (simp [entryFrame, mkF, argsToLocals, Value.category]; done) | rfl
def QSAc0 (Z : State) (o : Addr) (a : Addr) (d : Addr) (kd : ClassId) (vs1 : List Value) (b : Addr) (kb : ClassId) (vs2 : List Value) (cs : Int32) (h0 : Heap) (n0 : Nat) (v_ : Option Value) (h_ : Heap) (L_ : List Loc) : Prop := ∃ y : Addr, ∃ ky : ClassId, (v_ = some (.ref o)) ∧ (Fr n0 L_) ∧ (Keep h0 h_ [o]) ∧ (h0.size ≤ y) ∧ (Exa Z h_ o "java/lang/StringBuilder") ∧ (Fld Z h_ o "java/lang/AbstractStringBuilder" "value" "[B" (.ref y)) ∧ (Fld Z h_ o "java/lang/AbstractStringBuilder" "coder" "B" (.int (0 : Int32))) ∧ (Fld Z h_ o "java/lang/AbstractStringBuilder" "count" "I" (.int (52 : Int32))) ∧ (Arv Z h_ y ky .byte (80 : Int32) (own_cp vs2 (own_cp vs1 own_z80 (0 : Int32) (0 : Int32) (39 : Int32) (.int (0 : Int32))) (0 : Int32) (39 : Int32) (13 : Int32) (.int (0 : Int32))) (.int (0 : Int32)))
set_option maxRecDepth 65536 in
set_option maxHeartbeats 40000000 in
theorem rmSAc0 (l : Launch) (Z : State) (a0 : Array Value) (hw : ∀ d ∈ tables_1, d.before a0 Z = true) (ws : List Jvm.Cond) (o : Addr) (a : Addr) (d : Addr) (kd : ClassId) (vs1 : List Value) (b : Addr) (kb : ClassId) (vs2 : List Value) (cs : Int32) (h0 : Heap) (n0 : Nat) (Z0 : n0 ≤ h0.size) (p_0 : Exa Z h0 o "java/lang/StringBuilder") (p_1 : Fld Z h0 o "java/lang/AbstractStringBuilder" "value" "[B" (.ref d)) (p_2 : Fld Z h0 o "java/lang/AbstractStringBuilder" "coder" "B" (.int (0 : Int32))) (p_3 : Fld Z h0 o "java/lang/AbstractStringBuilder" "count" "I" (.int (39 : Int32))) (p_4 : n0 ≤ o) (p_5 : Arv Z h0 d kd .byte (39 : Int32) vs1 (.int (0 : Int32))) (p_6 : Exa Z h0 a "java/lang/String") (p_7 : Fld Z h0 a "java/lang/String" "coder" "B" (.int (0 : Int32))) (p_8 : Fld Z h0 a "java/lang/String" "value" "[B" (.ref b)) (p_9 : Arv Z h0 b kb .byte (13 : Int32) vs2 (.int (0 : Int32))) (p_10 : Sta Z h0 "java/lang/String" "COMPACT_STRINGS" "Z" (.int cs)) (hcs : ¬ cs = (0 : Int32)) (p_12 : o ≠ a) (p_13 : o ≠ b) :
    MetFree l yy16 (head1 (Jvm.Cond.code yy16 jdk_67_method_7_code 2 (some (.object "java/lang/StringBuilder")) :: ws) rRrmSAc0) (fun a_ U_ => a_ = #[(.ref o), (.ref a)] ∧ Z.Warmed39 U_.vm ∧ U_.heap = h0) (fun _ _ _ _ _ => True) (fun _ U_ o_ U1_ => ∃ v_ L_, o_ = .returned v_ ∧ QSAc0 Z o a d kd vs1 b kb vs2 cs h0 n0 v_ U1_.heap L_ ∧ FrameEnd U_ o_ U1_ L_ rRrmSAc0.cells rRrmSAc0.slots) := by
  refine MetFree.of_bodySF pn_rmSAc0 hisR ?_
  intro p e s m args below meth c s₁ Bd hml0 hP hK
  obtain ⟨rfl, hZ, hh⟩ := hP
  have hx := Bd.exec
  have hby := Bd.bytes
  have hlk : meth.locks = false := Bd.notSynchronized
  have hml : c.maxLocals = 2 := hml0
  have hown : s.vm.findClass "java/lang/StringBuilder" = some m.cls := findClass_of_methodNamed Bd.named
  have hnm := (name_of_methodNamed Bd.named Bd.method).1
  have X0 : Stand p l e rRrmSAc0 s m #[(.ref o), (.ref a)] below meth c s₁ [] 0 0 := Stand.of_body Bd
  have e0 : s₁.heap = h0 := by rw [← hh, Bd.state]; rfl
  have N0 := Fr.nil n0
  show own_Goes p e below s (QSAc0 Z o a d kd vs1 b kb vs2 cs h0 n0) rRrmSAc0.cells rRrmSAc0.slots s₁ (entryFrame m #[(.ref o), (.ref a)] 2)
  rw [ef_rmSAc0 m o a]
  show own_Goes p e below s (QSAc0 Z o a d kd vs1 b kb vs2 cs h0 n0) rRrmSAc0.cells rRrmSAc0.slots s₁ (mkF m 0 #[rv o, rv a] [])
  refine own_st (fun _ kk_ => XS.aloadN X0.here hx rfl (hb hby d8_0) rfl rfl (XS.aloadN X0.here hx rfl (hb hby d8_1) rfl rfl kk_)) ?_
  show own_Goes _ _ _ _ _ _ _ s₁ (mkF m 2 #[rv o, rv a] [(.ref a), (.ref o)])
  obtain ⟨_, _, ⟨T1, L1, k1, n1⟩, -, X1, ⟨Lc1, hQ1, l1, y1, z1⟩, st1⟩ := superBack X0 hx hZ (y := yy15) hown (own_w hw 65 rfl) (own_smo (own_w hw 88 rfl) rfl (own_w hw 66 rfl) (by decide)) (own_w hw 66 rfl) (own_w hw 67 rfl) (by decide) (backOf (W := 0) (rmAAc0 l Z a0 hw [] (o) (a) (d) (kd) (vs1) (b) (kb) (vs2) (cs) h0 n0 Z0 p_0 p_1 p_2 p_3 p_4 p_5 p_6 p_7 p_8 p_9 p_10 (by assumption) p_12 p_13) hZ (own_w hw 69 rfl) (own_w hw 51 rfl) (by decide) (by decide)) e0 (Ins.self p_0) (g := (mkF m 2 #[rv o, rv a] [(.ref a), (.ref o)])) rfl (by rw [hml]; rfl) (own_w hw 69 rfl) (argsL := [(.ref a)]) (rest := []) (lenOf pd_11 rfl) rfl (by show 2 * 0 + _ ≤ _; exact Nat.le_of_eq rfl) (hb hby d8_2) (fun _ _ => ⟨rfl, e0, (by decide : 0 + 1 ≤ _), (by decide : 0 + 80 ≤ _)⟩)
  dsimp only [Pt.U, Pt.locs, Pt.cells, Pt.slots] at X1 l1 y1 z1 st1 hQ1
  subst l1 y1 z1
  obtain ⟨x1_y, x1_ky, rfl, Nq1, Kq1, u1_0, u1_1, u1_2, u1_3, u1_4, u1_5⟩ := hQ1
  have N1 := Fr.app N0 Nq1
  have f1_0 := p_0.keep Kq1
  have f1_5 := p_6.keep Kq1
  have f1_6 := p_7.keep Kq1 (ninS (Ne.symm p_12) nin0)
  have f1_7 := p_8.keep Kq1 (ninS (Ne.symm p_12) nin0)
  have f1_8 := p_9.keep Kq1 (ninS (Ne.symm p_13) nin0)
  have f1_9 := own_Sta_keep p_10 Kq1 (nsS p_0.nostat ns0)
  have Zs1 : n0 ≤ T1.heap.size := Nat.le_trans Z0 Kq1.1
  have K1 := (Keep.refl h0 [o]).trans Kq1 (allS (Or.inl (List.mem_of_getElem? (i := 0) rfl)) all0)
  have ne1_o : o ≠ x1_y := Nat.ne_of_lt (Nat.lt_of_lt_of_le p_0.lt u1_0)
  have ne1_d : d ≠ x1_y := Nat.ne_of_lt (Nat.lt_of_lt_of_le p_5.lt u1_0)
  have ne1_a : a ≠ x1_y := Nat.ne_of_lt (Nat.lt_of_lt_of_le p_6.lt u1_0)
  have ne1_b : b ≠ x1_y := Nat.ne_of_lt (Nat.lt_of_lt_of_le p_9.lt u1_0)
  have sz1_y : h0.size ≤ x1_y := Nat.le_trans (Keep.refl h0 [o]).1 u1_0
  have gg1_y : n0 ≤ x1_y := Nat.le_trans Z0 u1_0
  refine own_st (fun _ kk_ => st1.trans kk_) ?_
  show own_Goes _ _ _ _ _ _ _ T1 (mkF m 5 #[rv o, rv a] [(.ref o)])
  refine own_st (fun _ kk_ => XS.pop X1.here hx rfl (hb hby d8_5) rfl rfl (XS.aloadN X1.here hx rfl (hb hby d8_6) rfl rfl kk_)) ?_
  show own_Goes _ _ _ _ _ _ _ T1 (mkF m 7 #[rv o, rv a] [(.ref o)])
  refine own_retA X1 hx hlk rfl Bd.returns rfl (hb hby d8_7) (by decide) (by decide) ?_
  show QSAc0 Z o a d kd vs1 b kb vs2 cs h0 n0 (some (.ref o)) T1.heap _
  exact ⟨x1_y, x1_ky, rfl, N1, K1, u1_0, u1_1, u1_2, u1_3, u1_4, u1_5⟩
abbrev rRrmGBc1 : Room := { frames := 1, cells := 0, slots := 0, locals := 18 }
theorem pn_rmGBc1 : plainFor yy9 = true := by first | exact plainFor_of_name (by first | (simp [plainName, overriddenIn]; done) | decide +kernel) | decide +kernel
theorem ef_rmGBc1 (m : MethodId) (a : Addr) (d : Addr) : entryFrame m #[(.ref a), (.ref d), (.int (39 : Int32)), (.int (0 : Int32))] 4 = (mkF m 0 #[rv a, rv d, iv (39 : Int32), iv (0 : Int32)] []) := by first | (simp [entryFrame, mkF, argsToLocals, Value.category]; done) | rfl
def QGBc1 (Z : State) (a : Addr) (d : Addr) (kd : ClassId) (vs1 : List Value) (b : Addr) (kb : ClassId) (vs2 : List Value) (cs : Int32) (h0 : Heap) (n0 : Nat) (v_ : Option Value) (h_ : Heap) (L_ : List Loc) : Prop := (v_ = none) ∧ (Fr n0 L_) ∧ (Keep h0 h_ [d]) ∧ (Arv Z h_ d kd .byte (80 : Int32) (own_cp vs2 vs1 (0 : Int32) (39 : Int32) (18 : Int32) (.int (0 : Int32))) (.int (0 : Int32)))
set_option maxRecDepth 65536 in
set_option maxHeartbeats 40000000 in
theorem rmGBc1 (l : Launch) (Z : State) (a0 : Array Value) (hw : ∀ d ∈ tables_1, d.before a0 Z = true) (ws : List Jvm.Cond) (a : Addr) (d : Addr) (kd : ClassId) (vs1 : List Value) (b : Addr) (kb : ClassId) (vs2 : List Value) (cs : Int32) (h0 : Heap) (n0 : Nat) (Z0 : n0 ≤ h0.size) (p_0 : Exa Z h0 a "java/lang/String") (p_1 : Fld Z h0 a "java/lang/String" "coder" "B" (.int (0 : Int32))) (p_2 : Fld Z h0 a "java/lang/String" "value" "[B" (.ref b)) (p_3 : Arv Z h0 b kb .byte (18 : Int32) vs2 (.int (0 : Int32))) (p_4 : Sta Z h0 "java/lang/String" "COMPACT_STRINGS" "Z" (.int cs)) (hcs : ¬ cs = (0 : Int32)) (p_6 : Arv Z h0 d kd .byte (80 : Int32) vs1 (.int (0 : Int32))) (p_7 : n0 ≤ d) (hl : (39 : Int32).toNatClampNeg + (18 : Int32).toNatClampNeg ≤ vs1.length) :
    MetFree l yy9 (head1 (Jvm.Cond.code yy9 jdk_42_method_147_code 4 none :: ws) rRrmGBc1) (fun a_ U_ => a_ = #[(.ref a), (.ref d), (.int (39 : Int32)), (.int (0 : Int32))] ∧ Z.Warmed39 U_.vm ∧ U_.heap = h0) (fun _ _ _ _ _ => True) (fun _ U_ o_ U1_ => ∃ v_ L_, o_ = .returned v_ ∧ QGBc1 Z a d kd vs1 b kb vs2 cs h0 n0 v_ U1_.heap L_ ∧ FrameEnd U_ o_ U1_ L_ rRrmGBc1.cells rRrmGBc1.slots) := by
  refine MetFree.of_bodySF pn_rmGBc1 hisR ?_
  intro p e s m args below meth c s₁ Bd hml0 hP hK
  obtain ⟨rfl, hZ, hh⟩ := hP
  have hx := Bd.exec
  have hby := Bd.bytes
  have hlk : meth.locks = false := Bd.notSynchronized
  have hml : c.maxLocals = 4 := hml0
  have hown : s.vm.findClass "java/lang/String" = some m.cls := findClass_of_methodNamed Bd.named
  have hnm := (name_of_methodNamed Bd.named Bd.method).1
  have X0 : Stand p l e rRrmGBc1 s m #[(.ref a), (.ref d), (.int (39 : Int32)), (.int (0 : Int32))] below meth c s₁ [] 0 0 := Stand.of_body Bd
  have e0 : s₁.heap = h0 := by rw [← hh, Bd.state]; rfl
  have N0 := Fr.nil n0
  show own_Goes p e below s (QGBc1 Z a d kd vs1 b kb vs2 cs h0 n0) rRrmGBc1.cells rRrmGBc1.slots s₁ (entryFrame m #[(.ref a), (.ref d), (.int (39 : Int32)), (.int (0 : Int32))] 4)
  rw [ef_rmGBc1 m a d]
  show own_Goes p e below s (QGBc1 Z a d kd vs1 b kb vs2 cs h0 n0) rRrmGBc1.cells rRrmGBc1.slots s₁ (mkF m 0 #[rv a, rv d, iv (39 : Int32), iv (0 : Int32)] [])
  refine own_st (fun _ kk_ => XS.aloadN X0.here hx rfl (hb hby d20_0) rfl rfl kk_) ?_
  show own_Goes _ _ _ _ _ _ _ s₁ (mkF m 1 #[rv a, rv d, iv (39 : Int32), iv (0 : Int32)] [(.ref a)])
  obtain ⟨cq1, kq1, q1a, q1b, q1c⟩ := isOf hZ e0 p_0
  obtain ⟨_, _, ⟨T1, L1, k1, n1⟩, -, X1, ⟨Lc1, hQ1, l1, y1, z1⟩, st1⟩ := X0.virtualBack hx (y := yy0) (z := yy0) hown (mvT hZ (own_w hw 76 rfl)) (mvT hZ (own_w hw 77 rfl)) (notFace_of_selects (args := #[]) (mvT hZ (own_w hw 79 rfl))) (mvT hZ (own_w hw 79 rfl)) (mvT hZ (own_w hw 78 rfl)) (by decide) (backOf (W := 0) (rm11 l Z a0 hw [] (a) (cs) h0 n0 Z0 p_1 p_4 (by assumption)) hZ (own_w hw 80 rfl) (own_w hw 19 rfl) (by decide) (by decide)) q1a q1c (g := (mkF m 1 #[rv a, rv d, iv (39 : Int32), iv (0 : Int32)] [(.ref a)])) rfl (by rw [hml]; rfl) (Steps.refl _) (argsL := []) (rest := []) (lenOf pd_0 rfl) rfl (by show 2 * 0 + _ ≤ _; exact Nat.le_of_eq rfl) (hb hby d20_1) (fun _ _ => ⟨rfl, e0, (by decide : 0 + 0 ≤ _), (by decide : 0 + 0 ≤ _)⟩)
  dsimp only [Pt.U, Pt.locs, Pt.cells, Pt.slots] at X1 l1 y1 z1 st1 hQ1
  subst l1 y1 z1
  obtain ⟨rfl, Nq1, eq1⟩ := hQ1
  have N1 := Fr.app N0 Nq1
  refine own_st (fun _ kk_ => st1.trans kk_) ?_
  show own_Goes _ _ _ _ _ _ _ T1 (mkF m 4 #[rv a, rv d, iv (39 : Int32), iv (0 : Int32)] [(.int (0 : Int32))])
  refine own_st (fun _ kk_ => XS.iloadN X1.here hx rfl (hb hby d20_4) rfl (XS.icmpNo X1.here hx rfl (hb hby d20_5) rfl (XT.ii_ne_f (by decide)) (XS.aloadN X1.here hx rfl (hb hby d20_8) rfl rfl kk_))) ?_
  show own_Goes _ _ _ _ _ _ _ T1 (mkF m 9 #[rv a, rv d, iv (39 : Int32), iv (0 : Int32)] [(.ref a)])
  obtain ⟨T2, X2, e2, st2⟩ := getF X1 hx hZ hown (host := "") (Or.inl (own_w hw 75 rfl)) Via.refl eq1 p_2 (g := (mkF m 9 #[rv a, rv d, iv (39 : Int32), iv (0 : Int32)] [(.ref a)])) rfl rfl (hb hby d20_9)
  refine own_st st2 ?_
  show own_Goes _ _ _ _ _ _ _ T2 (mkF m 12 #[rv a, rv d, iv (39 : Int32), iv (0 : Int32)] [(.ref b)])
  refine own_st (fun _ kk_ => XS.iconst X2.here hx rfl (hb hby d20_12) (XS.aloadN X2.here hx rfl (hb hby d20_13) rfl rfl (XS.iloadN X2.here hx rfl (hb hby d20_14) rfl (XS.iloadN X2.here hx rfl (hb hby d20_15) rfl (XS.ishl X2.here hx rfl (hb hby d20_16) rfl (XS.aloadN X2.here hx rfl (hb hby d20_17) rfl rfl kk_)))))) ?_
  show own_Goes _ _ _ _ _ _ _ T2 (mkF m 18 #[rv a, rv d, iv (39 : Int32), iv (0 : Int32)] [(.ref a), (.int (39 : Int32)), (.ref d), (.int (0 : Int32)), (.ref b)])
  obtain ⟨T3, X3, e3, st3⟩ := getF X2 hx hZ hown (host := "") (Or.inl (own_w hw 75 rfl)) Via.refl e2 p_2 (g := (mkF m 18 #[rv a, rv d, iv (39 : Int32), iv (0 : Int32)] [(.ref a), (.int (39 : Int32)), (.ref d), (.int (0 : Int32)), (.ref b)])) rfl rfl (hb hby d20_18)
  refine own_st st3 ?_
  show own_Goes _ _ _ _ _ _ _ T3 (mkF m 21 #[rv a, rv d, iv (39 : Int32), iv (0 : Int32)] [(.ref b), (.int (39 : Int32)), (.ref d), (.int (0 : Int32)), (.ref b)])
  obtain ⟨cl4, Ar4, -, Sz4, Nn4, -, -⟩ := id p_3
  refine own_st (fun _ kk_ => X3.arraylength hx (by rw [e3]; exact Ar4.1) (State.isArrayOf_alike hZ.alike Ar4.2.1) (g := (mkF m 21 #[rv a, rv d, iv (39 : Int32), iv (0 : Int32)] [(.ref b), (.int (39 : Int32)), (.ref d), (.int (0 : Int32)), (.ref b)])) rfl rfl (hb hby d20_21) _ kk_) ?_
  rw [len_of Sz4 Nn4]
  show own_Goes _ _ _ _ _ _ _ T3 (mkF m 22 #[rv a, rv d, iv (39 : Int32), iv (0 : Int32)] [(.int (18 : Int32)), (.int (39 : Int32)), (.ref d), (.int (0 : Int32)), (.ref b)])
  obtain ⟨T5, h5, L5, X5, e5, N5, Kp5, A5, st5⟩ := cpA X3 hx hZ hown (own_w hw 132 rfl) (own_w hw 115 rfl) (own_w hw 113 rfl) (own_w hw 114 rfl) e3 p_3 p_6 (Or.inl ⟨rfl, rfl⟩) (by decide) (by decide) (by decide) (by decide) (by decide) rfl hl N1 p_7 (g := (mkF m 22 #[rv a, rv d, iv (39 : Int32), iv (0 : Int32)] [(.int (18 : Int32)), (.int (39 : Int32)), (.ref d), (.int (0 : Int32)), (.ref b)])) rfl (by rw [hml]; rfl) (rest := []) rfl (hb hby d20_22) (by decide) (W := 0) (by show 2 * 0 + _ ≤ _; exact Nat.le_of_eq rfl) (by decide)
  have f5_0 := p_0.keep Kp5
  have f5_4 := own_Sta_keep p_4 Kp5 (nsS p_6.nostat ns0)
  have Zs5 : n0 ≤ h5.size := Nat.le_trans Z0 Kp5.1
  have K5 := (Keep.refl h0 [d]).trans Kp5 (allS (Or.inl (List.mem_of_getElem? (i := 0) rfl)) all0)
  have V5 : Arv Z h5 d kd .byte (80 : Int32) (own_cp vs2 vs1 (0 : Int32) (39 : Int32) (18 : Int32) (.int (0 : Int32))) (.int (0 : Int32)) := A5
  refine own_st st5 ?_
  show own_Goes _ _ _ _ _ _ _ T5 (mkF m 25 #[rv a, rv d, iv (39 : Int32), iv (0 : Int32)] [])
  refine own_st (fun _ kk_ => XS.goto X5.here hx rfl (pc0 := 25) (pc' := 43) rfl (hb hby d20_25) (by decide) (by decide) kk_) ?_
  show own_Goes _ _ _ _ _ _ _ T5 (mkF m 43 #[rv a, rv d, iv (39 : Int32), iv (0 : Int32)] [])
  refine own_ret0 X5 hx hlk Bd.returns (hb hby d20_43) (by decide) (by decide) ?_
  show QGBc1 Z a d kd vs1 b kb vs2 cs h0 n0 none T5.heap _
  rw [e5]
  exact ⟨rfl, N5, K5, V5⟩
abbrev rRrmPSc1 : Room := { frames := 2, cells := 0, slots := 0, locals := 33 }
theorem pn_rmPSc1 : plainFor yy10 = true := by first | exact plainFor_of_name (by first | (simp [plainName, overriddenIn]; done) | decide +kernel) | decide +kernel
theorem ef_rmPSc1 (m : MethodId) (o : Addr) (a : Addr) : entryFrame m #[(.ref o), (.int (39 : Int32)), (.ref a)] 3 = (mkF m 0 #[rv o, iv (39 : Int32), rv a] []) := by first | (simp [entryFrame, mkF, argsToLocals, Value.category]; done) | rfl
def QPSc1 (Z : State) (o : Addr) (a : Addr) (d : Addr) (kd : ClassId) (vs1 : List Value) (b : Addr) (kb : ClassId) (vs2 : List Value) (cs : Int32) (h0 : Heap) (n0 : Nat) (v_ : Option Value) (h_ : Heap) (L_ : List Loc) : Prop := (v_ = none) ∧ (Fr n0 L_) ∧ (Keep h0 h_ [d]) ∧ (Arv Z h_ d kd .byte (80 : Int32) (own_cp vs2 vs1 (0 : Int32) (39 : Int32) (18 : Int32) (.int (0 : Int32))) (.int (0 : Int32)))
set_option maxRecDepth 65536 in
set_option maxHeartbeats 40000000 in
theorem rmPSc1 (l : Launch) (Z : State) (a0 : Array Value) (hw : ∀ d ∈ tables_1, d.before a0 Z = true) (ws : List Jvm.Cond) (o : Addr) (a : Addr) (d : Addr) (kd : ClassId) (vs1 : List Value) (b : Addr) (kb : ClassId) (vs2 : List Value) (cs : Int32) (h0 : Heap) (n0 : Nat) (Z0 : n0 ≤ h0.size) (p_0 : Exa Z h0 o "java/lang/StringBuilder") (p_1 : Fld Z h0 o "java/lang/AbstractStringBuilder" "value" "[B" (.ref d)) (p_2 : Fld Z h0 o "java/lang/AbstractStringBuilder" "coder" "B" (.int (0 : Int32))) (p_3 : Exa Z h0 a "java/lang/String") (p_4 : Fld Z h0 a "java/lang/String" "coder" "B" (.int (0 : Int32))) (p_5 : Fld Z h0 a "java/lang/String" "value" "[B" (.ref b)) (p_6 : Arv Z h0 b kb .byte (18 : Int32) vs2 (.int (0 : Int32))) (p_7 : Sta Z h0 "java/lang/String" "COMPACT_STRINGS" "Z" (.int cs)) (hcs : ¬ cs = (0 : Int32)) (p_9 : Arv Z h0 d kd .byte (80 : Int32) vs1 (.int (0 : Int32))) (p_10 : n0 ≤ d) (hl : (39 : Int32).toNatClampNeg + (18 : Int32).toNatClampNeg ≤ vs1.length) :
    MetFree l yy10 (head1 (Jvm.Cond.code yy10 jdk_68_method_73_code 3 none :: ws) rRrmPSc1) (fun a_ U_ => a_ = #[(.ref o), (.int (39 : Int32)), (.ref a)] ∧ Z.Warmed39 U_.vm ∧ U_.heap = h0) (fun _ _ _ _ _ => True) (fun _ U_ o_ U1_ => ∃ v_ L_, o_ = .returned v_ ∧ QPSc1 Z o a d kd vs1 b kb vs2 cs h0 n0 v_ U1_.heap L_ ∧ FrameEnd U_ o_ U1_ L_ rRrmPSc1.cells rRrmPSc1.slots) := by
  refine MetFree.of_bodySF pn_rmPSc1 hisR ?_
  intro p e s m args below meth c s₁ Bd hml0 hP hK
  obtain ⟨rfl, hZ, hh⟩ := hP
  have hx := Bd.exec
  have hby := Bd.bytes
  have hlk : meth.locks = false := Bd.notSynchronized
  have hml : c.maxLocals = 3 := hml0
  have hown : s.vm.findClass "java/lang/AbstractStringBuilder" = some m.cls := findClass_of_methodNamed Bd.named
  have hnm := (name_of_methodNamed Bd.named Bd.method).1
  have X0 : Stand p l e rRrmPSc1 s m #[(.ref o), (.int (39 : Int32)), (.ref a)] below meth c s₁ [] 0 0 := Stand.of_body Bd
  have e0 : s₁.heap = h0 := by rw [← hh, Bd.state]; rfl
  have N0 := Fr.nil n0
  show own_Goes p e below s (QPSc1 Z o a d kd vs1 b kb vs2 cs h0 n0) rRrmPSc1.cells rRrmPSc1.slots s₁ (entryFrame m #[(.ref o), (.int (39 : Int32)), (.ref a)] 3)
  rw [ef_rmPSc1 m o a]
  show own_Goes p e below s (QPSc1 Z o a d kd vs1 b kb vs2 cs h0 n0) rRrmPSc1.cells rRrmPSc1.slots s₁ (mkF m 0 #[rv o, iv (39 : Int32), rv a] [])
  refine own_st (fun _ kk_ => XS.aloadN X0.here hx rfl (hb hby d18_0) rfl rfl (XS.aloadN X0.here hx rfl (hb hby d18_1) rfl rfl kk_)) ?_
  show own_Goes _ _ _ _ _ _ _ s₁ (mkF m 2 #[rv o, iv (39 : Int32), rv a] [(.ref a), (.ref o)])
  obtain ⟨cq1, q1, q1'⟩ := p_0.cell
  obtain ⟨_, _, ⟨T1, L1, k1, n1⟩, -, X1, ⟨Lc1, hQ1, l1, y1, z1⟩, st1⟩ := X0.privateBack hx (y := yy8) hown (mvT hZ (own_w hw 121 rfl)) (mvT hZ (own_w hw 122 rfl)) (own_selp (mvT hZ (own_w hw 124 rfl)) (Cond.privateMethod_at (mvP hZ (own_w hw 123 rfl) (args := #[]))) (mvT hZ (own_w hw 122 rfl)) (by decide)) (Cond.privateMethod_at (mvP hZ (own_w hw 123 rfl) (args := #[]))) (mvT hZ (own_w hw 125 rfl)) (by decide) (backOf (W := 0) (rm19 l Z a0 hw [] (o) (a) (cs) h0 n0 Z0 p_0 p_2 p_3 p_4 p_7 (by assumption)) hZ (own_w hw 125 rfl) (own_w hw 51 rfl) (by decide) (by decide)) (g := (mkF m 2 #[rv o, iv (39 : Int32), rv a] [(.ref a), (.ref o)])) rfl (by rw [hml]; rfl) (Steps.refl _) (a := o) (by rw [e0]; exact q1) q1' (argsL := [(.ref a)]) (rest := []) (lenOf pd_3 rfl) rfl (by show 2 * 0 + _ ≤ _; exact Nat.le_of_eq rfl) (hb hby d18_2) (fun _ _ => ⟨rfl, e0, (by decide : 0 + 0 ≤ _), (by decide : 0 + 0 ≤ _)⟩)
  dsimp only [Pt.U, Pt.locs, Pt.cells, Pt.slots] at X1 l1 y1 z1 st1 hQ1
  subst l1 y1 z1
  obtain ⟨rfl, Nq1, eq1⟩ := hQ1
  have N1 := Fr.app N0 Nq1
  refine own_st (fun _ kk_ => st1.trans kk_) ?_
  show own_Goes _ _ _ _ _ _ _ T1 (mkF m 5 #[rv o, iv (39 : Int32), rv a] [])
  refine own_st (fun _ kk_ => XS.aloadN X1.here hx rfl (hb hby d18_5) rfl rfl (XS.aloadN X1.here hx rfl (hb hby d18_6) rfl rfl kk_)) ?_
  show own_Goes _ _ _ _ _ _ _ T1 (mkF m 7 #[rv o, iv (39 : Int32), rv a] [(.ref o), (.ref a)])
  obtain ⟨T2, X2, e2, st2⟩ := getF X1 hx hZ hown (host := "") (Or.inl (own_w hw 55 rfl)) Via.refl eq1 p_1 (g := (mkF m 7 #[rv o, iv (39 : Int32), rv a] [(.ref o), (.ref a)])) rfl rfl (hb hby d18_7)
  refine own_st st2 ?_
  show own_Goes _ _ _ _ _ _ _ T2 (mkF m 10 #[rv o, iv (39 : Int32), rv a] [(.ref d), (.ref a)])
  refine own_st (fun _ kk_ => XS.iloadN X2.here hx rfl (hb hby d18_10) rfl (XS.aloadN X2.here hx rfl (hb hby d18_11) rfl rfl kk_)) ?_
  show own_Goes _ _ _ _ _ _ _ T2 (mkF m 12 #[rv o, iv (39 : Int32), rv a] [(.ref o), (.int (39 : Int32)), (.ref d), (.ref a)])
  obtain ⟨T3, X3, e3, st3⟩ := getF X2 hx hZ hown (host := "") (Or.inl (own_w hw 57 rfl)) Via.refl e2 p_2 (g := (mkF m 12 #[rv o, iv (39 : Int32), rv a] [(.ref o), (.int (39 : Int32)), (.ref d), (.ref a)])) rfl rfl (hb hby d18_12)
  refine own_st st3 ?_
  show own_Goes _ _ _ _ _ _ _ T3 (mkF m 15 #[rv o, iv (39 : Int32), rv a] [(.int (0 : Int32)), (.int (39 : Int32)), (.ref d), (.ref a)])
  obtain ⟨cq4, kq4, q4a, q4b, q4c⟩ := isOf hZ e3 p_3
  obtain ⟨_, _, ⟨T4, L4, k4, n4⟩, -, X4, ⟨Lc4, hQ4, l4, y4, z4⟩, st4⟩ := X3.virtualBack hx (y := yy9) (z := yy9) hown (mvT hZ (own_w hw 127 rfl)) (mvT hZ (own_w hw 128 rfl)) (notFace_of_selects (args := #[]) (mvT hZ (own_w hw 130 rfl))) (mvT hZ (own_w hw 130 rfl)) (mvT hZ (own_w hw 129 rfl)) (by decide) (backOf (W := 0) (rmGBc1 l Z a0 hw [] (a) (d) (kd) (vs1) (b) (kb) (vs2) (cs) h0 n0 Z0 p_3 p_4 p_5 p_6 p_7 (by assumption) p_9 p_10 hl) hZ (own_w hw 131 rfl) (own_w hw 19 rfl) (by decide) (by decide)) q4a q4c (g := (mkF m 15 #[rv o, iv (39 : Int32), rv a] [(.int (0 : Int32)), (.int (39 : Int32)), (.ref d), (.ref a)])) rfl (by rw [hml]; rfl) (Steps.refl _) (argsL := [(.ref d), (.int (39 : Int32)), (.int (0 : Int32))]) (rest := []) (lenOf pd_4 rfl) rfl (by show 2 * 0 + _ ≤ _; exact Nat.le_of_eq rfl) (hb hby d18_15) (fun _ _ => ⟨rfl, e3, (by decide : 0 + 0 ≤ _), (by decide : 0 + 0 ≤ _)⟩)
  dsimp only [Pt.U, Pt.locs, Pt.cells, Pt.slots] at X4 l4 y4 z4 st4 hQ4
  subst l4 y4 z4
  obtain ⟨rfl, Nq4, Kq4, u4_0⟩ := hQ4
  have N4 := Fr.app N1 Nq4
  have f4_0 := p_0.keep Kq4
  have f4_3 := p_3.keep Kq4
  have f4_7 := own_Sta_keep p_7 Kq4 (nsS p_9.nostat ns0)
  have Zs4 : n0 ≤ T4.heap.size := Nat.le_trans Z0 Kq4.1
  have K4 := (Keep.refl h0 [d]).trans Kq4 (allS (Or.inl (List.mem_of_getElem? (i := 0) rfl)) all0)
  refine own_st (fun _ kk_ => st4.trans kk_) ?_
  show own_Goes _ _ _ _ _ _ _ T4 (mkF m 18 #[rv o, iv (39 : Int32), rv a] [])
  refine own_ret0 X4 hx hlk Bd.returns (hb hby d18_18) (by decide) (by decide) ?_
  show QPSc1 Z o a d kd vs1 b kb vs2 cs h0 n0 none T4.heap _
  exact ⟨rfl, N4, K4, u4_0⟩
abbrev rRrmNLc1 : Room := { frames := 1, cells := 0, slots := 0, locals := 14 }
theorem pn_rmNLc1 : plainFor yy11 = true := by first | exact plainFor_of_name (by first | (simp [plainName, overriddenIn]; done) | decide +kernel) | decide +kernel
theorem ef_rmNLc1 (m : MethodId) : entryFrame m #[(.int (39 : Int32)), (.int (18 : Int32)), (.int (41 : Int32))] 4 = (mkF m 0 #[iv (39 : Int32), iv (18 : Int32), iv (41 : Int32), .unset] []) := by first | (simp [entryFrame, mkF, argsToLocals, Value.category]; done) | rfl
def QNLc1 (Z : State) (h0 : Heap) (n0 : Nat) (v_ : Option Value) (h_ : Heap) (L_ : List Loc) : Prop := (v_ = some (.int (80 : Int32))) ∧ (Fr n0 L_) ∧ (h_ = h0)
set_option maxRecDepth 65536 in
set_option maxHeartbeats 40000000 in
theorem rmNLc1 (l : Launch) (Z : State) (a0 : Array Value) (hw : ∀ d ∈ tables_1, d.before a0 Z = true) (ws : List Jvm.Cond) (h0 : Heap) (n0 : Nat) (Z0 : n0 ≤ h0.size) :
    MetFree l yy11 (head1 (Jvm.Cond.code yy11 jdk_48_method_27_code 4 (some .int) :: ws) rRrmNLc1) (fun a_ U_ => a_ = #[(.int (39 : Int32)), (.int (18 : Int32)), (.int (41 : Int32))] ∧ Z.Warmed39 U_.vm ∧ U_.heap = h0) (fun _ _ _ _ _ => True) (fun _ U_ o_ U1_ => ∃ v_ L_, o_ = .returned v_ ∧ QNLc1 Z h0 n0 v_ U1_.heap L_ ∧ FrameEnd U_ o_ U1_ L_ rRrmNLc1.cells rRrmNLc1.slots) := by
  refine MetFree.of_bodySF pn_rmNLc1 hisR ?_
  intro p e s m args below meth c s₁ Bd hml0 hP hK
  obtain ⟨rfl, hZ, hh⟩ := hP
  have hx := Bd.exec
  have hby := Bd.bytes
  have hlk : meth.locks = false := Bd.notSynchronized
  have hml : c.maxLocals = 4 := hml0
  have hown : s.vm.findClass "jdk/internal/util/ArraysSupport" = some m.cls := findClass_of_methodNamed Bd.named
  have hnm := (name_of_methodNamed Bd.named Bd.method).1
  have X0 : Stand p l e rRrmNLc1 s m #[(.int (39 : Int32)), (.int (18 : Int32)), (.int (41 : Int32))] below meth c s₁ [] 0 0 := Stand.of_body Bd
  have e0 : s₁.heap = h0 := by rw [← hh, Bd.state]; rfl
  have N0 := Fr.nil n0
  show own_Goes p e below s (QNLc1 Z h0 n0) rRrmNLc1.cells rRrmNLc1.slots s₁ (entryFrame m #[(.int (39 : Int32)), (.int (18 : Int32)), (.int (41 : Int32))] 4)
  rw [ef_rmNLc1 m]
  show own_Goes p e below s (QNLc1 Z h0 n0) rRrmNLc1.cells rRrmNLc1.slots s₁ (mkF m 0 #[iv (39 : Int32), iv (18 : Int32), iv (41 : Int32), .unset] [])
  refine own_st (fun _ kk_ => XS.iloadN X0.here hx rfl (hb hby d14_0) rfl (XS.iloadN X0.here hx rfl (hb hby d14_1) rfl (XS.iloadN X0.here hx rfl (hb hby d14_2) rfl kk_))) ?_
  show own_Goes _ _ _ _ _ _ _ s₁ (mkF m 3 #[iv (39 : Int32), iv (18 : Int32), iv (41 : Int32), .unset] [(.int (41 : Int32)), (.int (18 : Int32)), (.int (39 : Int32))])
  obtain ⟨_, _, ⟨T1, L1, k1, n1⟩, -, X1, ⟨Lc1, hQ1, l1, y1, z1⟩, st1⟩ := Jvm.LawKit.callS X0 hx (y := yy2) hown (mvT hZ (own_w hw 99 rfl)) (mvT hZ (own_w hw 100 rfl)) (mvT hZ (own_w hw 101 rfl)) (mvT hZ (own_w hw 102 rfl)) (by decide) (backOf (W := 1) (rmxB l Z a0 hw [] ((18 : Int32)) ((41 : Int32)) h0 n0 Z0 (by decide)) hZ (own_w hw 102 rfl) (own_w hw 101 rfl) (by decide) (by decide)) (g := (mkF m 3 #[iv (39 : Int32), iv (18 : Int32), iv (41 : Int32), .unset] [(.int (41 : Int32)), (.int (18 : Int32)), (.int (39 : Int32))])) rfl (by rw [hml]; rfl) (argsL := [(.int (18 : Int32)), (.int (41 : Int32))]) (rest := [(.int (39 : Int32))]) (lenOf pd_5 rfl) rfl (by show 2 * 0 + _ ≤ _; exact Nat.le_of_eq rfl) (hb hby d14_3) (fun _ _ => ⟨rfl, e0, (by decide : 0 + 0 ≤ _), (by decide : 0 + 0 ≤ _)⟩)
  dsimp only [Pt.U, Pt.locs, Pt.cells, Pt.slots] at X1 l1 y1 z1 st1 hQ1
  subst l1 y1 z1
  obtain ⟨rfl, Nq1, eq1⟩ := hQ1
  have N1 := Fr.app N0 Nq1
  refine own_st st1 ?_
  show own_Goes _ _ _ _ _ _ _ T1 (mkF m 6 #[iv (39 : Int32), iv (18 : Int32), iv (41 : Int32), .unset] [(.int (41 : Int32)), (.int (39 : Int32))])
  refine own_st (fun _ kk_ => XS.iadd X1.here hx rfl (hb hby d14_6) rfl (XS.istoreN X1.here hx rfl (hb hby d14_7) rfl (l' := #[iv (39 : Int32), iv (18 : Int32), iv (41 : Int32), iv (80 : Int32)]) rfl (XS.iconst X1.here hx rfl (hb hby d14_8) (XS.iloadN X1.here hx rfl (hb hby d14_9) rfl (XS.icmpNo X1.here hx rfl (hb hby d14_10) rfl (XT.ii_ge_f (by decide)) (XS.iloadN X1.here hx rfl (hb hby d14_13) rfl (X1.ldcInt hx hown (mvT hZ (own_w hw 103 rfl)) (g := (mkF m 14 #[iv (39 : Int32), iv (18 : Int32), iv (41 : Int32), iv (80 : Int32)] [(.int (80 : Int32))])) rfl (hb hby d14_14) _ (XS.icmpNo X1.here hx rfl (hb hby d14_16) rfl (XT.ii_gt_f (by decide)) (XS.iloadN X1.here hx rfl (hb hby d14_19) rfl kk_))))))))) ?_
  show own_Goes _ _ _ _ _ _ _ T1 (mkF m 20 #[iv (39 : Int32), iv (18 : Int32), iv (41 : Int32), iv (80 : Int32)] [(.int (80 : Int32))])
  refine own_retI X1 hx hlk Bd.returns (hb hby d14_20) (by decide) (by decide) ?_
  show QNLc1 Z h0 n0 (some (.int (80 : Int32))) T1.heap _
  rw [eq1]
  exact ⟨rfl, N1, rfl⟩
abbrev rRrmNCc1 : Room := { frames := 2, cells := 0, slots := 0, locals := 29 }
theorem pn_rmNCc1 : plainFor yy12 = true := by first | exact plainFor_of_name (by first | (simp [plainName, overriddenIn]; done) | decide +kernel) | decide +kernel
theorem ef_rmNCc1 (m : MethodId) (o : Addr) : entryFrame m #[(.ref o), (.int (57 : Int32))] 6 = (mkF m 0 #[rv o, iv (57 : Int32), .unset, .unset, .unset, .unset] []) := by first | (simp [entryFrame, mkF, argsToLocals, Value.category]; done) | rfl
def QNCc1 (Z : State) (o : Addr) (d : Addr) (kd : ClassId) (vs1 : List Value) (h0 : Heap) (n0 : Nat) (v_ : Option Value) (h_ : Heap) (L_ : List Loc) : Prop := (v_ = some (.int (80 : Int32))) ∧ (Fr n0 L_) ∧ (h_ = h0)
set_option maxRecDepth 65536 in
set_option maxHeartbeats 40000000 in
theorem rmNCc1 (l : Launch) (Z : State) (a0 : Array Value) (hw : ∀ d ∈ tables_1, d.before a0 Z = true) (ws : List Jvm.Cond) (o : Addr) (d : Addr) (kd : ClassId) (vs1 : List Value) (h0 : Heap) (n0 : Nat) (Z0 : n0 ≤ h0.size) (p_0 : Exa Z h0 o "java/lang/StringBuilder") (p_1 : Fld Z h0 o "java/lang/AbstractStringBuilder" "value" "[B" (.ref d)) (p_2 : Fld Z h0 o "java/lang/AbstractStringBuilder" "coder" "B" (.int (0 : Int32))) (p_3 : Arv Z h0 d kd .byte (39 : Int32) vs1 (.int (0 : Int32))) :
    MetFree l yy12 (head1 (Jvm.Cond.code yy12 jdk_68_method_10_code 6 (some .int) :: ws) rRrmNCc1) (fun a_ U_ => a_ = #[(.ref o), (.int (57 : Int32))] ∧ Z.Warmed39 U_.vm ∧ U_.heap = h0) (fun _ _ _ _ _ => True) (fun _ U_ o_ U1_ => ∃ v_ L_, o_ = .returned v_ ∧ QNCc1 Z o d kd vs1 h0 n0 v_ U1_.heap L_ ∧ FrameEnd U_ o_ U1_ L_ rRrmNCc1.cells rRrmNCc1.slots) := by
  refine MetFree.of_bodySF pn_rmNCc1 hisR ?_
  intro p e s m args below meth c s₁ Bd hml0 hP hK
  obtain ⟨rfl, hZ, hh⟩ := hP
  have hx := Bd.exec
  have hby := Bd.bytes
  have hlk : meth.locks = false := Bd.notSynchronized
  have hml : c.maxLocals = 6 := hml0
  have hown : s.vm.findClass "java/lang/AbstractStringBuilder" = some m.cls := findClass_of_methodNamed Bd.named
  have hnm := (name_of_methodNamed Bd.named Bd.method).1
  have X0 : Stand p l e rRrmNCc1 s m #[(.ref o), (.int (57 : Int32))] below meth c s₁ [] 0 0 := Stand.of_body Bd
  have e0 : s₁.heap = h0 := by rw [← hh, Bd.state]; rfl
  have N0 := Fr.nil n0
  show own_Goes p e below s (QNCc1 Z o d kd vs1 h0 n0) rRrmNCc1.cells rRrmNCc1.slots s₁ (entryFrame m #[(.ref o), (.int (57 : Int32))] 6)
  rw [ef_rmNCc1 m o]
  show own_Goes p e below s (QNCc1 Z o d kd vs1 h0 n0) rRrmNCc1.cells rRrmNCc1.slots s₁ (mkF m 0 #[rv o, iv (57 : Int32), .unset, .unset, .unset, .unset] [])
  refine own_st (fun _ kk_ => XS.aloadN X0.here hx rfl (hb hby d13_0) rfl rfl kk_) ?_
  show own_Goes _ _ _ _ _ _ _ s₁ (mkF m 1 #[rv o, iv (57 : Int32), .unset, .unset, .unset, .unset] [(.ref o)])
  obtain ⟨T1, X1, e1, st1⟩ := getF X0 hx hZ hown (host := "") (Or.inl (own_w hw 55 rfl)) Via.refl e0 p_1 (g := (mkF m 1 #[rv o, iv (57 : Int32), .unset, .unset, .unset, .unset] [(.ref o)])) rfl rfl (hb hby d13_1)
  refine own_st st1 ?_
  show own_Goes _ _ _ _ _ _ _ T1 (mkF m 4 #[rv o, iv (57 : Int32), .unset, .unset, .unset, .unset] [(.ref d)])
  obtain ⟨cl2, Ar2, -, Sz2, Nn2, -, -⟩ := id p_3
  refine own_st (fun _ kk_ => X1.arraylength hx (by rw [e1]; exact Ar2.1) (State.isArrayOf_alike hZ.alike Ar2.2.1) (g := (mkF m 4 #[rv o, iv (57 : Int32), .unset, .unset, .unset, .unset] [(.ref d)])) rfl rfl (hb hby d13_4) _ kk_) ?_
  rw [len_of Sz2 Nn2]
  show own_Goes _ _ _ _ _ _ _ T1 (mkF m 5 #[rv o, iv (57 : Int32), .unset, .unset, .unset, .unset] [(.int (39 : Int32))])
  refine own_st (fun _ kk_ => XS.istoreN X1.here hx rfl (hb hby d13_5) rfl (l' := #[rv o, iv (57 : Int32), iv (39 : Int32), .unset, .unset, .unset]) rfl (XS.iloadN X1.here hx rfl (hb hby d13_6) rfl (XS.aloadN X1.here hx rfl (hb hby d13_7) rfl rfl kk_))) ?_
  show own_Goes _ _ _ _ _ _ _ T1 (mkF m 8 #[rv o, iv (57 : Int32), iv (39 : Int32), .unset, .unset, .unset] [(.ref o), (.int (57 : Int32))])
  obtain ⟨T3, X3, e3, st3⟩ := getF X1 hx hZ hown (host := "") (Or.inl (own_w hw 57 rfl)) Via.refl e1 p_2 (g := (mkF m 8 #[rv o, iv (57 : Int32), iv (39 : Int32), .unset, .unset, .unset] [(.ref o), (.int (57 : Int32))])) rfl rfl (hb hby d13_8)
  refine own_st st3 ?_
  show own_Goes _ _ _ _ _ _ _ T3 (mkF m 11 #[rv o, iv (57 : Int32), iv (39 : Int32), .unset, .unset, .unset] [(.int (0 : Int32)), (.int (57 : Int32))])
  refine own_st (fun _ kk_ => XS.ishl X3.here hx rfl (hb hby d13_11) rfl (XS.istoreN X3.here hx rfl (hb hby d13_12) rfl (l' := #[rv o, iv (57 : Int32), iv (39 : Int32), iv (57 : Int32), .unset, .unset]) rfl (XS.iloadN X3.here hx rfl (hb hby d13_13) rfl (XS.iloadN X3.here hx rfl (hb hby d13_14) rfl (XS.isub X3.here hx rfl (hb hby d13_15) rfl (XS.istore X3.here hx rfl (hb hby d13_16) rfl (l' := #[rv o, iv (57 : Int32), iv (39 : Int32), iv (57 : Int32), iv (18 : Int32), .unset]) rfl (XS.iloadN X3.here hx rfl (hb hby d13_18) rfl (XS.iload X3.here hx rfl (hb hby d13_19) rfl (XS.iloadN X3.here hx rfl (hb hby d13_21) rfl (XS.iconst X3.here hx rfl (hb hby d13_22) (XS.aloadN X3.here hx rfl (hb hby d13_23) rfl rfl kk_))))))))))) ?_
  show own_Goes _ _ _ _ _ _ _ T3 (mkF m 24 #[rv o, iv (57 : Int32), iv (39 : Int32), iv (57 : Int32), iv (18 : Int32), .unset] [(.ref o), (.int (2 : Int32)), (.int (39 : Int32)), (.int (18 : Int32)), (.int (39 : Int32))])
  obtain ⟨T4, X4, e4, st4⟩ := getF X3 hx hZ hown (host := "") (Or.inl (own_w hw 57 rfl)) Via.refl e3 p_2 (g := (mkF m 24 #[rv o, iv (57 : Int32), iv (39 : Int32), iv (57 : Int32), iv (18 : Int32), .unset] [(.ref o), (.int (2 : Int32)), (.int (39 : Int32)), (.int (18 : Int32)), (.int (39 : Int32))])) rfl rfl (hb hby d13_24)
  refine own_st st4 ?_
  show own_Goes _ _ _ _ _ _ _ T4 (mkF m 27 #[rv o, iv (57 : Int32), iv (39 : Int32), iv (57 : Int32), iv (18 : Int32), .unset] [(.int (0 : Int32)), (.int (2 : Int32)), (.int (39 : Int32)), (.int (18 : Int32)), (.int (39 : Int32))])
  refine own_st (fun _ kk_ => XS.ishl X4.here hx rfl (hb hby d13_27) rfl (XS.iadd X4.here hx rfl (hb hby d13_28) rfl kk_)) ?_
  show own_Goes _ _ _ _ _ _ _ T4 (mkF m 29 #[rv o, iv (57 : Int32), iv (39 : Int32), iv (57 : Int32), iv (18 : Int32), .unset] [(.int (41 : Int32)), (.int (18 : Int32)), (.int (39 : Int32))])
  obtain ⟨_, _, ⟨T5, L5, k5, n5⟩, -, X5, ⟨Lc5, hQ5, l5, y5, z5⟩, st5⟩ := Jvm.LawKit.callS X4 hx (y := yy11) hown (mvT hZ (own_w hw 95 rfl)) (mvT hZ (own_w hw 96 rfl)) (mvT hZ (own_w hw 97 rfl)) (mvT hZ (own_w hw 98 rfl)) (by decide) (backOf (W := 0) (rmNLc1 l Z a0 hw []  h0 n0 Z0) hZ (own_w hw 98 rfl) (own_w hw 97 rfl) (by decide) (by decide)) (g := (mkF m 29 #[rv o, iv (57 : Int32), iv (39 : Int32), iv (57 : Int32), iv (18 : Int32), .unset] [(.int (41 : Int32)), (.int (18 : Int32)), (.int (39 : Int32))])) rfl (by rw [hml]; rfl) (argsL := [(.int (39 : Int32)), (.int (18 : Int32)), (.int (41 : Int32))]) (rest := []) (lenOf pd_6 rfl) rfl (by show 2 * 0 + _ ≤ _; exact Nat.le_of_eq rfl) (hb hby d13_29) (fun _ _ => ⟨rfl, e4, (by decide : 0 + 0 ≤ _), (by decide : 0 + 0 ≤ _)⟩)
  dsimp only [Pt.U, Pt.locs, Pt.cells, Pt.slots] at X5 l5 y5 z5 st5 hQ5
  subst l5 y5 z5
  obtain ⟨rfl, Nq5, eq5⟩ := hQ5
  have N5 := Fr.app N0 Nq5
  refine own_st st5 ?_
  show own_Goes _ _ _ _ _ _ _ T5 (mkF m 32 #[rv o, iv (57 : Int32), iv (39 : Int32), iv (57 : Int32), iv (18 : Int32), .unset] [(.int (80 : Int32))])
  refine own_st (fun _ kk_ => XS.istore X5.here hx rfl (hb hby d13_32) rfl (l' := #[rv o, iv (57 : Int32), iv (39 : Int32), iv (57 : Int32), iv (18 : Int32), iv (80 : Int32)]) rfl (XS.iload X5.here hx rfl (hb hby d13_34) rfl (X5.ldcInt hx hown (mvT hZ (own_w hw 104 rfl)) (g := (mkF m 36 #[rv o, iv (57 : Int32), iv (39 : Int32), iv (57 : Int32), iv (18 : Int32), iv (80 : Int32)] [(.int (80 : Int32))])) rfl (hb hby d13_36) _ (XS.icmpYes X5.here hx rfl (pc0 := 38) (pc' := 51) rfl (hb hby d13_38) rfl (XT.ii_ne_t (by decide)) (by decide) (by decide) (XS.iload X5.here hx rfl (hb hby d13_51) rfl (XS.aloadN X5.here hx rfl (hb hby d13_53) rfl rfl kk_)))))) ?_
  show own_Goes _ _ _ _ _ _ _ T5 (mkF m 54 #[rv o, iv (57 : Int32), iv (39 : Int32), iv (57 : Int32), iv (18 : Int32), iv (80 : Int32)] [(.ref o), (.int (80 : Int32))])
  obtain ⟨T6, X6, e6, st6⟩ := getF X5 hx hZ hown (host := "") (Or.inl (own_w hw 57 rfl)) Via.refl eq5 p_2 (g := (mkF m 54 #[rv o, iv (57 : Int32), iv (39 : Int32), iv (57 : Int32), iv (18 : Int32), iv (80 : Int32)] [(.ref o), (.int (80 : Int32))])) rfl rfl (hb hby d13_54)
  refine own_st st6 ?_
  show own_Goes _ _ _ _ _ _ _ T6 (mkF m 57 #[rv o, iv (57 : Int32), iv (39 : Int32), iv (57 : Int32), iv (18 : Int32), iv (80 : Int32)] [(.int (0 : Int32)), (.int (80 : Int32))])
  refine own_st (fun _ kk_ => XS.ishr X6.here hx rfl (hb hby d13_57) rfl kk_) ?_
  show own_Goes _ _ _ _ _ _ _ T6 (mkF m 58 #[rv o, iv (57 : Int32), iv (39 : Int32), iv (57 : Int32), iv (18 : Int32), iv (80 : Int32)] [(.int (80 : Int32))])
  refine own_retI X6 hx hlk Bd.returns (hb hby d13_58) (by decide) (by decide) ?_
  show QNCc1 Z o d kd vs1 h0 n0 (some (.int (80 : Int32))) T6.heap _
  rw [e6]
  exact ⟨rfl, N5, rfl⟩
abbrev rRrmECc1 : Room := { frames := 3, cells := 1, slots := 80, locals := 48 }
theorem pn_rmECc1 : plainFor yy14 = true := by first | exact plainFor_of_name (by first | (simp [plainName, overriddenIn]; done) | decide +kernel) | decide +kernel
theorem ef_rmECc1 (m : MethodId) (o : Addr) : entryFrame m #[(.ref o), (.int (57 : Int32))] 3 = (mkF m 0 #[rv o, iv (57 : Int32), .unset] []) := by first | (simp [entryFrame, mkF, argsToLocals, Value.category]; done) | rfl
def QECc1 (Z : State) (o : Addr) (d : Addr) (kd : ClassId) (vs1 : List Value) (cn : Int32) (h0 : Heap) (n0 : Nat) (v_ : Option Value) (h_ : Heap) (L_ : List Loc) : Prop := ∃ y : Addr, ∃ ky : ClassId, (v_ = none) ∧ (Fr n0 L_) ∧ (Keep h0 h_ [o]) ∧ (h0.size ≤ y) ∧ (Exa Z h_ o "java/lang/StringBuilder") ∧ (Fld Z h_ o "java/lang/AbstractStringBuilder" "value" "[B" (.ref y)) ∧ (Fld Z h_ o "java/lang/AbstractStringBuilder" "coder" "B" (.int (0 : Int32))) ∧ (Fld Z h_ o "java/lang/AbstractStringBuilder" "count" "I" (.int cn)) ∧ (Arv Z h_ y ky .byte (80 : Int32) (own_cp vs1 own_z80 (0 : Int32) (0 : Int32) (39 : Int32) (.int (0 : Int32))) (.int (0 : Int32)))
set_option maxRecDepth 65536 in
set_option maxHeartbeats 40000000 in
theorem rmECc1 (l : Launch) (Z : State) (a0 : Array Value) (hw : ∀ d ∈ tables_1, d.before a0 Z = true) (ws : List Jvm.Cond) (o : Addr) (d : Addr) (kd : ClassId) (vs1 : List Value) (cn : Int32) (h0 : Heap) (n0 : Nat) (Z0 : n0 ≤ h0.size) (p_0 : Exa Z h0 o "java/lang/StringBuilder") (p_1 : Fld Z h0 o "java/lang/AbstractStringBuilder" "value" "[B" (.ref d)) (p_2 : Fld Z h0 o "java/lang/AbstractStringBuilder" "coder" "B" (.int (0 : Int32))) (p_3 : Fld Z h0 o "java/lang/AbstractStringBuilder" "count" "I" (.int cn)) (p_4 : n0 ≤ o) (p_5 : Arv Z h0 d kd .byte (39 : Int32) vs1 (.int (0 : Int32))) :
    MetFree l yy14 (head1 (Jvm.Cond.code yy14 jdk_68_method_9_code 3 none :: ws) rRrmECc1) (fun a_ U_ => a_ = #[(.ref o), (.int (57 : Int32))] ∧ Z.Warmed39 U_.vm ∧ U_.heap = h0) (fun _ _ _ _ _ => True) (fun _ U_ o_ U1_ => ∃ v_ L_, o_ = .returned v_ ∧ QECc1 Z o d kd vs1 cn h0 n0 v_ U1_.heap L_ ∧ FrameEnd U_ o_ U1_ L_ rRrmECc1.cells rRrmECc1.slots) := by
  refine MetFree.of_bodySF pn_rmECc1 hisR ?_
  intro p e s m args below meth c s₁ Bd hml0 hP hK
  obtain ⟨rfl, hZ, hh⟩ := hP
  have hx := Bd.exec
  have hby := Bd.bytes
  have hlk : meth.locks = false := Bd.notSynchronized
  have hml : c.maxLocals = 3 := hml0
  have hown : s.vm.findClass "java/lang/AbstractStringBuilder" = some m.cls := findClass_of_methodNamed Bd.named
  have hnm := (name_of_methodNamed Bd.named Bd.method).1
  have X0 : Stand p l e rRrmECc1 s m #[(.ref o), (.int (57 : Int32))] below meth c s₁ [] 0 0 := Stand.of_body Bd
  have e0 : s₁.heap = h0 := by rw [← hh, Bd.state]; rfl
  have N0 := Fr.nil n0
  show own_Goes p e below s (QECc1 Z o d kd vs1 cn h0 n0) rRrmECc1.cells rRrmECc1.slots s₁ (entryFrame m #[(.ref o), (.int (57 : Int32))] 3)
  rw [ef_rmECc1 m o]
  show own_Goes p e below s (QECc1 Z o d kd vs1 cn h0 n0) rRrmECc1.cells rRrmECc1.slots s₁ (mkF m 0 #[rv o, iv (57 : Int32), .unset] [])
  refine own_st (fun _ kk_ => XS.aloadN X0.here hx rfl (hb hby d12_0) rfl rfl kk_) ?_
  show own_Goes _ _ _ _ _ _ _ s₁ (mkF m 1 #[rv o, iv (57 : Int32), .unset] [(.ref o)])
  obtain ⟨T1, X1, e1, st1⟩ := getF X0 hx hZ hown (host := "") (Or.inl (own_w hw 55 rfl)) Via.refl e0 p_1 (g := (mkF m 1 #[rv o, iv (57 : Int32), .unset] [(.ref o)])) rfl rfl (hb hby d12_1)
  refine own_st st1 ?_
  show own_Goes _ _ _ _ _ _ _ T1 (mkF m 4 #[rv o, iv (57 : Int32), .unset] [(.ref d)])
  obtain ⟨cl2, Ar2, -, Sz2, Nn2, -, -⟩ := id p_5
  refine own_st (fun _ kk_ => X1.arraylength hx (by rw [e1]; exact Ar2.1) (State.isArrayOf_alike hZ.alike Ar2.2.1) (g := (mkF m 4 #[rv o, iv (57 : Int32), .unset] [(.ref d)])) rfl rfl (hb hby d12_4) _ kk_) ?_
  rw [len_of Sz2 Nn2]
  show own_Goes _ _ _ _ _ _ _ T1 (mkF m 5 #[rv o, iv (57 : Int32), .unset] [(.int (39 : Int32))])
  refine own_st (fun _ kk_ => XS.aloadN X1.here hx rfl (hb hby d12_5) rfl rfl kk_) ?_
  show own_Goes _ _ _ _ _ _ _ T1 (mkF m 6 #[rv o, iv (57 : Int32), .unset] [(.ref o), (.int (39 : Int32))])
  obtain ⟨T3, X3, e3, st3⟩ := getF X1 hx hZ hown (host := "") (Or.inl (own_w hw 57 rfl)) Via.refl e1 p_2 (g := (mkF m 6 #[rv o, iv (57 : Int32), .unset] [(.ref o), (.int (39 : Int32))])) rfl rfl (hb hby d12_6)
  refine own_st st3 ?_
  show own_Goes _ _ _ _ _ _ _ T3 (mkF m 9 #[rv o, iv (57 : Int32), .unset] [(.int (0 : Int32)), (.int (39 : Int32))])
  refine own_st (fun _ kk_ => XS.ishr X3.here hx rfl (hb hby d12_9) rfl (XS.istoreN X3.here hx rfl (hb hby d12_10) rfl (l' := #[rv o, iv (57 : Int32), iv (39 : Int32)]) rfl (XS.iloadN X3.here hx rfl (hb hby d12_11) rfl (XS.iloadN X3.here hx rfl (hb hby d12_12) rfl (XS.isub X3.here hx rfl (hb hby d12_13) rfl (XS.ifNo X3.here hx rfl (hb hby d12_14) rfl (XT.i0_le_f (by decide)) (XS.aloadN X3.here hx rfl (hb hby d12_17) rfl rfl (XS.aloadN X3.here hx rfl (hb hby d12_18) rfl rfl kk_)))))))) ?_
  show own_Goes _ _ _ _ _ _ _ T3 (mkF m 19 #[rv o, iv (57 : Int32), iv (39 : Int32)] [(.ref o), (.ref o)])
  obtain ⟨T4, X4, e4, st4⟩ := getF X3 hx hZ hown (host := "") (Or.inl (own_w hw 55 rfl)) Via.refl e3 p_1 (g := (mkF m 19 #[rv o, iv (57 : Int32), iv (39 : Int32)] [(.ref o), (.ref o)])) rfl rfl (hb hby d12_19)
  refine own_st st4 ?_
  show own_Goes _ _ _ _ _ _ _ T4 (mkF m 22 #[rv o, iv (57 : Int32), iv (39 : Int32)] [(.ref d), (.ref o)])
  refine own_st (fun _ kk_ => XS.aloadN X4.here hx rfl (hb hby d12_22) rfl rfl (XS.iloadN X4.here hx rfl (hb hby d12_23) rfl kk_)) ?_
  show own_Goes _ _ _ _ _ _ _ T4 (mkF m 24 #[rv o, iv (57 : Int32), iv (39 : Int32)] [(.int (57 : Int32)), (.ref o), (.ref d), (.ref o)])
  obtain ⟨cq5, q5, q5'⟩ := p_0.cell
  obtain ⟨_, _, ⟨T5, L5, k5, n5⟩, -, X5, ⟨Lc5, hQ5, l5, y5, z5⟩, st5⟩ := X4.privateBack hx (y := yy12) hown (mvT hZ (own_w hw 90 rfl)) (mvT hZ (own_w hw 91 rfl)) (own_selp (mvT hZ (own_w hw 93 rfl)) (Cond.privateMethod_at (mvP hZ (own_w hw 92 rfl) (args := #[]))) (mvT hZ (own_w hw 91 rfl)) (by decide)) (Cond.privateMethod_at (mvP hZ (own_w hw 92 rfl) (args := #[]))) (mvT hZ (own_w hw 94 rfl)) (by decide) (backOf (W := 2) (rmNCc1 l Z a0 hw [] (o) (d) (kd) (vs1) h0 n0 Z0 p_0 p_1 p_2 p_5) hZ (own_w hw 94 rfl) (own_w hw 51 rfl) (by decide) (by decide)) (g := (mkF m 24 #[rv o, iv (57 : Int32), iv (39 : Int32)] [(.int (57 : Int32)), (.ref o), (.ref d), (.ref o)])) rfl (by rw [hml]; rfl) (Steps.refl _) (a := o) (by rw [e4]; exact q5) q5' (argsL := [(.int (57 : Int32))]) (rest := [(.ref d), (.ref o)]) (lenOf pd_7 rfl) rfl (by show 2 * 0 + _ ≤ _; exact Nat.le_of_eq rfl) (hb hby d12_24) (fun _ _ => ⟨rfl, e4, (by decide : 0 + 0 ≤ _), (by decide : 0 + 0 ≤ _)⟩)
  dsimp only [Pt.U, Pt.locs, Pt.cells, Pt.slots] at X5 l5 y5 z5 st5 hQ5
  subst l5 y5 z5
  obtain ⟨rfl, Nq5, eq5⟩ := hQ5
  have N5 := Fr.app N0 Nq5
  refine own_st (fun _ kk_ => st5.trans kk_) ?_
  show own_Goes _ _ _ _ _ _ _ T5 (mkF m 27 #[rv o, iv (57 : Int32), iv (39 : Int32)] [(.int (80 : Int32)), (.ref d), (.ref o)])
  refine own_st (fun _ kk_ => XS.aloadN X5.here hx rfl (hb hby d12_27) rfl rfl kk_) ?_
  show own_Goes _ _ _ _ _ _ _ T5 (mkF m 28 #[rv o, iv (57 : Int32), iv (39 : Int32)] [(.ref o), (.int (80 : Int32)), (.ref d), (.ref o)])
  obtain ⟨T6, X6, e6, st6⟩ := getF X5 hx hZ hown (host := "") (Or.inl (own_w hw 57 rfl)) Via.refl eq5 p_2 (g := (mkF m 28 #[rv o, iv (57 : Int32), iv (39 : Int32)] [(.ref o), (.int (80 : Int32)), (.ref d), (.ref o)])) rfl rfl (hb hby d12_28)
  refine own_st st6 ?_
  show own_Goes _ _ _ _ _ _ _ T6 (mkF m 31 #[rv o, iv (57 : Int32), iv (39 : Int32)] [(.int (0 : Int32)), (.int (80 : Int32)), (.ref d), (.ref o)])
  refine own_st (fun _ kk_ => XS.ishl X6.here hx rfl (hb hby d12_31) rfl kk_) ?_
  show own_Goes _ _ _ _ _ _ _ T6 (mkF m 32 #[rv o, iv (57 : Int32), iv (39 : Int32)] [(.int (80 : Int32)), (.ref d), (.ref o)])
  obtain ⟨_, _, ⟨T7, L7, k7, n7⟩, -, X7, ⟨Lc7, hQ7, l7, y7, z7⟩, st7⟩ := Jvm.LawKit.callS X6 hx (y := yy13) hown (mvT hZ (own_w hw 105 rfl)) (mvT hZ (own_w hw 106 rfl)) (mvT hZ (own_w hw 107 rfl)) (mvT hZ (own_w hw 108 rfl)) (by decide) (backOf (W := 1) (rmcp39_80 l Z a0 hw [] (d) (kd) (vs1) h0 n0 Z0 p_5) hZ (own_w hw 108 rfl) (own_w hw 107 rfl) (by decide) (by decide)) (g := (mkF m 32 #[rv o, iv (57 : Int32), iv (39 : Int32)] [(.int (80 : Int32)), (.ref d), (.ref o)])) rfl (by rw [hml]; rfl) (argsL := [(.ref d), (.int (80 : Int32))]) (rest := [(.ref o)]) (lenOf pd_8 rfl) rfl (by show 2 * 0 + _ ≤ _; exact Nat.le_of_eq rfl) (hb hby d12_32) (fun _ _ => ⟨rfl, e6, (by decide : 0 + 1 ≤ _), (by decide : 0 + 80 ≤ _)⟩)
  dsimp only [Pt.U, Pt.locs, Pt.cells, Pt.slots] at X7 l7 y7 z7 st7 hQ7
  subst l7 y7 z7
  obtain ⟨x7_y, x7_ky, rfl, Nq7, Kq7, u7_0, u7_1⟩ := hQ7
  have N7 := Fr.app N5 Nq7
  have f7_0 := p_0.keep Kq7
  have f7_1 := p_1.keep Kq7 nin0
  have f7_2 := p_2.keep Kq7 nin0
  have f7_3 := p_3.keep Kq7 nin0
  have f7_4 := p_5.keep Kq7 nin0
  have Zs7 : n0 ≤ T7.heap.size := Nat.le_trans Z0 Kq7.1
  have K7 := (Keep.refl h0 [o]).trans Kq7 all0
  have ne7_o : o ≠ x7_y := Nat.ne_of_lt (Nat.lt_of_lt_of_le p_0.lt u7_0)
  have ne7_d : d ≠ x7_y := Nat.ne_of_lt (Nat.lt_of_lt_of_le p_5.lt u7_0)
  have sz7_y : h0.size ≤ x7_y := Nat.le_trans (Keep.refl h0 [o]).1 u7_0
  have gg7_y : n0 ≤ x7_y := Nat.le_trans Z0 u7_0
  refine own_st st7 ?_
  show own_Goes _ _ _ _ _ _ _ T7 (mkF m 35 #[rv o, iv (57 : Int32), iv (39 : Int32)] [(.ref x7_y), (.ref o)])
  obtain ⟨T8, h8, X8, e8, W8, st8⟩ := putF X7 hx hZ hown (host := "") (Or.inl (own_w hw 55 rfl)) Via.refl rfl f7_1 f7_0 (Or.inl (own_w hw 56 rfl)) (own_w hw 42 rfl) (ty := (.array .byte)) (by decide) rfl rfl (g := (mkF m 35 #[rv o, iv (57 : Int32), iv (39 : Int32)] [(.ref x7_y), (.ref o)])) rfl rfl (hb hby d12_35)
  have fw8 : Fld Z h8 o "java/lang/AbstractStringBuilder" "value" "[B" (.ref x7_y) := f7_1.same W8
  have f8_0 := f7_0.wr W8
  have f8_2 := f7_2.other W8 (Or.inr (slot_ne (Or.inl (own_w hw 58 rfl)) (Or.inl (own_w hw 56 rfl)) (by decide) (t := .byte) (t' := (.array .byte)) (by decide) (by decide)))
  have f8_3 := f7_3.other W8 (Or.inr (slot_ne (Or.inl (own_w hw 84 rfl)) (Or.inl (own_w hw 56 rfl)) (by decide) (t := .int) (t' := (.array .byte)) (by decide) (by decide)))
  have f8_5 := u7_1.other W8 (Ne.symm ne7_o)
  have Zs8 : n0 ≤ h8.size := Nat.le_trans Zs7 (Nat.le_of_eq W8.size.symm)
  have K8 := K7.wr W8 (Or.inl (List.mem_of_getElem? (i := 0) rfl))
  have N8 := Fr.snoc X8 N7 p_4
  refine own_st st8 ?_
  show own_Goes _ _ _ _ _ _ _ T8 (mkF m 38 #[rv o, iv (57 : Int32), iv (39 : Int32)] [])
  refine own_ret0 X8 hx hlk Bd.returns (hb hby d12_38) (by decide) (by decide) ?_
  show QECc1 Z o d kd vs1 cn h0 n0 none T8.heap _
  rw [e8]
  exact ⟨x7_y, x7_ky, rfl, N8, K8, sz7_y, f8_0, fw8, f8_2, f8_3, f8_5⟩
abbrev rRrmAAc1 : Room := { frames := 4, cells := 1, slots := 80, locals := 62 }
theorem pn_rmAAc1 : plainFor yy15 = true := by first | exact plainFor_of_name (by first | (simp [plainName, overriddenIn]; done) | decide +kernel) | decide +kernel
theorem ef_rmAAc1 (m : MethodId) (o : Addr) (a : Addr) : entryFrame m #[(.ref o), (.ref a)] 3 = (mkF m 0 #[rv o, rv a, .unset] []) := by first | (simp [entryFrame, mkF, argsToLocals, Value.category]; done) | rfl
def QAAc1 (Z : State) (o : Addr) (a : Addr) (d : Addr) (kd : ClassId) (vs1 : List Value) (b : Addr) (kb : ClassId) (vs2 : List Value) (cs : Int32) (h0 : Heap) (n0 : Nat) (v_ : Option Value) (h_ : Heap) (L_ : List Loc) : Prop := ∃ y : Addr, ∃ ky : ClassId, (v_ = some (.ref o)) ∧ (Fr n0 L_) ∧ (Keep h0 h_ [o]) ∧ (h0.size ≤ y) ∧ (Exa Z h_ o "java/lang/StringBuilder") ∧ (Fld Z h_ o "java/lang/AbstractStringBuilder" "value" "[B" (.ref y)) ∧ (Fld Z h_ o "java/lang/AbstractStringBuilder" "coder" "B" (.int (0 : Int32))) ∧ (Fld Z h_ o "java/lang/AbstractStringBuilder" "count" "I" (.int (57 : Int32))) ∧ (Arv Z h_ y ky .byte (80 : Int32) (own_cp vs2 (own_cp vs1 own_z80 (0 : Int32) (0 : Int32) (39 : Int32) (.int (0 : Int32))) (0 : Int32) (39 : Int32) (18 : Int32) (.int (0 : Int32))) (.int (0 : Int32)))
set_option maxRecDepth 65536 in
set_option maxHeartbeats 40000000 in
theorem rmAAc1 (l : Launch) (Z : State) (a0 : Array Value) (hw : ∀ d ∈ tables_1, d.before a0 Z = true) (ws : List Jvm.Cond) (o : Addr) (a : Addr) (d : Addr) (kd : ClassId) (vs1 : List Value) (b : Addr) (kb : ClassId) (vs2 : List Value) (cs : Int32) (h0 : Heap) (n0 : Nat) (Z0 : n0 ≤ h0.size) (p_0 : Exa Z h0 o "java/lang/StringBuilder") (p_1 : Fld Z h0 o "java/lang/AbstractStringBuilder" "value" "[B" (.ref d)) (p_2 : Fld Z h0 o "java/lang/AbstractStringBuilder" "coder" "B" (.int (0 : Int32))) (p_3 : Fld Z h0 o "java/lang/AbstractStringBuilder" "count" "I" (.int (39 : Int32))) (p_4 : n0 ≤ o) (p_5 : Arv Z h0 d kd .byte (39 : Int32) vs1 (.int (0 : Int32))) (p_6 : Exa Z h0 a "java/lang/String") (p_7 : Fld Z h0 a "java/lang/String" "coder" "B" (.int (0 : Int32))) (p_8 : Fld Z h0 a "java/lang/String" "value" "[B" (.ref b)) (p_9 : Arv Z h0 b kb .byte (18 : Int32) vs2 (.int (0 : Int32))) (p_10 : Sta Z h0 "java/lang/String" "COMPACT_STRINGS" "Z" (.int cs)) (hcs : ¬ cs = (0 : Int32)) (p_12 : o ≠ a) (p_13 : o ≠ b) :
    MetFree l yy15 (head1 (Jvm.Cond.code yy15 jdk_68_method_22_code 3 (some (.object "java/lang/AbstractStringBuilder")) :: ws) rRrmAAc1) (fun a_ U_ => a_ = #[(.ref o), (.ref a)] ∧ Z.Warmed39 U_.vm ∧ U_.heap = h0) (fun _ _ _ _ _ => True) (fun _ U_ o_ U1_ => ∃ v_ L_, o_ = .returned v_ ∧ QAAc1 Z o a d kd vs1 b kb vs2 cs h0 n0 v_ U1_.heap L_ ∧ FrameEnd U_ o_ U1_ L_ rRrmAAc1.cells rRrmAAc1.slots) := by
  refine MetFree.of_bodySF pn_rmAAc1 hisR ?_
  intro p e s m args below meth c s₁ Bd hml0 hP hK
  obtain ⟨rfl, hZ, hh⟩ := hP
  have hx := Bd.exec
  have hby := Bd.bytes
  have hlk : meth.locks = false := Bd.notSynchronized
  have hml : c.maxLocals = 3 := hml0
  have hown : s.vm.findClass "java/lang/AbstractStringBuilder" = some m.cls := findClass_of_methodNamed Bd.named
  have hnm := (name_of_methodNamed Bd.named Bd.method).1
  have X0 : Stand p l e rRrmAAc1 s m #[(.ref o), (.ref a)] below meth c s₁ [] 0 0 := Stand.of_body Bd
  have e0 : s₁.heap = h0 := by rw [← hh, Bd.state]; rfl
  have N0 := Fr.nil n0
  show own_Goes p e below s (QAAc1 Z o a d kd vs1 b kb vs2 cs h0 n0) rRrmAAc1.cells rRrmAAc1.slots s₁ (entryFrame m #[(.ref o), (.ref a)] 3)
  rw [ef_rmAAc1 m o a]
  show own_Goes p e below s (QAAc1 Z o a d kd vs1 b kb vs2 cs h0 n0) rRrmAAc1.cells rRrmAAc1.slots s₁ (mkF m 0 #[rv o, rv a, .unset] [])
  refine own_st (fun _ kk_ => XS.aloadN X0.here hx rfl (hb hby d9_0) rfl rfl (XS.ifnonnullYes X0.here hx rfl (pc0 := 1) (pc' := 9) rfl (hb hby d9_1) rfl (by decide) (by decide) (XS.aloadN X0.here hx rfl (hb hby d9_9) rfl rfl kk_))) ?_
  show own_Goes _ _ _ _ _ _ _ s₁ (mkF m 10 #[rv o, rv a, .unset] [(.ref a)])
  obtain ⟨cq1, kq1, q1a, q1b, q1c⟩ := isOf hZ e0 p_6
  obtain ⟨_, _, ⟨T1, L1, k1, n1⟩, -, X1, ⟨Lc1, hQ1, l1, y1, z1⟩, st1⟩ := X0.virtualBack hx (y := yy1) (z := yy1) hown (mvT hZ (own_w hw 70 rfl)) (mvT hZ (own_w hw 71 rfl)) (notFace_of_selects (args := #[]) (mvT hZ (own_w hw 73 rfl))) (mvT hZ (own_w hw 73 rfl)) (mvT hZ (own_w hw 72 rfl)) (by decide) (backOf (W := 0) (rm10 l Z a0 hw [] (a) (b) (kb) ((18 : Int32)) (vs2) (cs) h0 n0 Z0 p_6 p_7 p_8 p_9 p_10 (by assumption)) hZ (own_w hw 74 rfl) (own_w hw 19 rfl) (by decide) (by decide)) q1a q1c (g := (mkF m 10 #[rv o, rv a, .unset] [(.ref a)])) rfl (by rw [hml]; rfl) (Steps.refl _) (argsL := []) (rest := []) (lenOf pd_9 rfl) rfl (by show 2 * 0 + _ ≤ _; exact Nat.le_of_eq rfl) (hb hby d9_10) (fun _ _ => ⟨rfl, e0, (by decide : 0 + 0 ≤ _), (by decide : 0 + 0 ≤ _)⟩)
  dsimp only [Pt.U, Pt.locs, Pt.cells, Pt.slots] at X1 l1 y1 z1 st1 hQ1
  subst l1 y1 z1
  obtain ⟨rfl, Nq1, eq1⟩ := hQ1
  have N1 := Fr.app N0 Nq1
  refine own_st (fun _ kk_ => st1.trans kk_) ?_
  show own_Goes _ _ _ _ _ _ _ T1 (mkF m 13 #[rv o, rv a, .unset] [(.int (18 : Int32))])
  refine own_st (fun _ kk_ => XS.istoreN X1.here hx rfl (hb hby d9_13) rfl (l' := #[rv o, rv a, iv (18 : Int32)]) rfl (XS.aloadN X1.here hx rfl (hb hby d9_14) rfl rfl (XS.aloadN X1.here hx rfl (hb hby d9_15) rfl rfl kk_))) ?_
  show own_Goes _ _ _ _ _ _ _ T1 (mkF m 16 #[rv o, rv a, iv (18 : Int32)] [(.ref o), (.ref o)])
  obtain ⟨T2, X2, e2, st2⟩ := getF X1 hx hZ hown (host := "") (Or.inl (own_w hw 83 rfl)) Via.refl eq1 p_3 (g := (mkF m 16 #[rv o, rv a, iv (18 : Int32)] [(.ref o), (.ref o)])) rfl rfl (hb hby d9_16)
  refine own_st st2 ?_
  show own_Goes _ _ _ _ _ _ _ T2 (mkF m 19 #[rv o, rv a, iv (18 : Int32)] [(.int (39 : Int32)), (.ref o)])
  refine own_st (fun _ kk_ => XS.iloadN X2.here hx rfl (hb hby d9_19) rfl (XS.iadd X2.here hx rfl (hb hby d9_20) rfl kk_)) ?_
  show own_Goes _ _ _ _ _ _ _ T2 (mkF m 21 #[rv o, rv a, iv (18 : Int32)] [(.int (57 : Int32)), (.ref o)])
  obtain ⟨cq3, q3, q3'⟩ := p_0.cell
  obtain ⟨_, _, ⟨T3, L3, k3, n3⟩, -, X3, ⟨Lc3, hQ3, l3, y3, z3⟩, st3⟩ := X2.privateBack hx (y := yy14) hown (mvT hZ (own_w hw 85 rfl)) (mvT hZ (own_w hw 86 rfl)) (own_selp (mvT hZ (own_w hw 88 rfl)) (Cond.privateMethod_at (mvP hZ (own_w hw 87 rfl) (args := #[]))) (mvT hZ (own_w hw 86 rfl)) (by decide)) (Cond.privateMethod_at (mvP hZ (own_w hw 87 rfl) (args := #[]))) (mvT hZ (own_w hw 89 rfl)) (by decide) (backOf (W := 0) (rmECc1 l Z a0 hw [] (o) (d) (kd) (vs1) ((39 : Int32)) h0 n0 Z0 p_0 p_1 p_2 p_3 p_4 p_5) hZ (own_w hw 89 rfl) (own_w hw 51 rfl) (by decide) (by decide)) (g := (mkF m 21 #[rv o, rv a, iv (18 : Int32)] [(.int (57 : Int32)), (.ref o)])) rfl (by rw [hml]; rfl) (Steps.refl _) (a := o) (by rw [e2]; exact q3) q3' (argsL := [(.int (57 : Int32))]) (rest := []) (lenOf pd_2 rfl) rfl (by show 2 * 0 + _ ≤ _; exact Nat.le_of_eq rfl) (hb hby d9_21) (fun _ _ => ⟨rfl, e2, (by decide : 0 + 1 ≤ _), (by decide : 0 + 80 ≤ _)⟩)
  dsimp only [Pt.U, Pt.locs, Pt.cells, Pt.slots] at X3 l3 y3 z3 st3 hQ3
  subst l3 y3 z3
  obtain ⟨x3_y, x3_ky, rfl, Nq3, Kq3, u3_0, u3_1, u3_2, u3_3, u3_4, u3_5⟩ := hQ3
  have N3 := Fr.app N1 Nq3
  have f3_0 := p_0.keep Kq3
  have f3_5 := p_6.keep Kq3
  have f3_6 := p_7.keep Kq3 (ninS (Ne.symm p_12) nin0)
  have f3_7 := p_8.keep Kq3 (ninS (Ne.symm p_12) nin0)
  have f3_8 := p_9.keep Kq3 (ninS (Ne.symm p_13) nin0)
  have f3_9 := own_Sta_keep p_10 Kq3 (nsS p_0.nostat ns0)
  have Zs3 : n0 ≤ T3.heap.size := Nat.le_trans Z0 Kq3.1
  have K3 := (Keep.refl h0 [o]).trans Kq3 (allS (Or.inl (List.mem_of_getElem? (i := 0) rfl)) all0)
  have ne3_o : o ≠ x3_y := Nat.ne_of_lt (Nat.lt_of_lt_of_le p_0.lt u3_0)
  have ne3_d : d ≠ x3_y := Nat.ne_of_lt (Nat.lt_of_lt_of_le p_5.lt u3_0)
  have ne3_a : a ≠ x3_y := Nat.ne_of_lt (Nat.lt_of_lt_of_le p_6.lt u3_0)
  have ne3_b : b ≠ x3_y := Nat.ne_of_lt (Nat.lt_of_lt_of_le p_9.lt u3_0)
  have sz3_y : h0.size ≤ x3_y := Nat.le_trans (Keep.refl h0 [o]).1 u3_0
  have gg3_y : n0 ≤ x3_y := Nat.le_trans Z0 u3_0
  refine own_st (fun _ kk_ => st3.trans kk_) ?_
  show own_Goes _ _ _ _ _ _ _ T3 (mkF m 24 #[rv o, rv a, iv (18 : Int32)] [])
  refine own_st (fun _ kk_ => XS.aloadN X3.here hx rfl (hb hby d9_24) rfl rfl (XS.aloadN X3.here hx rfl (hb hby d9_25) rfl rfl kk_)) ?_
  show own_Goes _ _ _ _ _ _ _ T3 (mkF m 26 #[rv o, rv a, iv (18 : Int32)] [(.ref o), (.ref o)])
  obtain ⟨T4, X4, e4, st4⟩ := getF X3 hx hZ hown (host := "") (Or.inl (own_w hw 83 rfl)) Via.refl rfl u3_4 (g := (mkF m 26 #[rv o, rv a, iv (18 : Int32)] [(.ref o), (.ref o)])) rfl rfl (hb hby d9_26)
  refine own_st st4 ?_
  show own_Goes _ _ _ _ _ _ _ T4 (mkF m 29 #[rv o, rv a, iv (18 : Int32)] [(.int (39 : Int32)), (.ref o)])
  refine own_st (fun _ kk_ => XS.aloadN X4.here hx rfl (hb hby d9_29) rfl rfl kk_) ?_
  show own_Goes _ _ _ _ _ _ _ T4 (mkF m 30 #[rv o, rv a, iv (18 : Int32)] [(.ref a), (.int (39 : Int32)), (.ref o)])
  obtain ⟨cq5, q5, q5'⟩ := u3_1.cell
  obtain ⟨_, _, ⟨T5, L5, k5, n5⟩, -, X5, ⟨Lc5, hQ5, l5, y5, z5⟩, st5⟩ := X4.privateBack hx (y := yy10) hown (mvT hZ (own_w hw 116 rfl)) (mvT hZ (own_w hw 117 rfl)) (own_selp (mvT hZ (own_w hw 119 rfl)) (Cond.privateMethod_at (mvP hZ (own_w hw 118 rfl) (args := #[]))) (mvT hZ (own_w hw 117 rfl)) (by decide)) (Cond.privateMethod_at (mvP hZ (own_w hw 118 rfl) (args := #[]))) (mvT hZ (own_w hw 120 rfl)) (by decide) (backOf (W := 0) (rmPSc1 l Z a0 hw [] (o) (a) (x3_y) (x3_ky) ((own_cp vs1 own_z80 (0 : Int32) (0 : Int32) (39 : Int32) (.int (0 : Int32)))) (b) (kb) (vs2) (cs) T3.heap n0 Zs3 u3_1 u3_2 u3_3 f3_5 f3_6 f3_7 f3_8 f3_9 (by assumption) u3_5 gg3_y (Nat.le_of_ble_eq_true rfl)) hZ (own_w hw 120 rfl) (own_w hw 51 rfl) (by decide) (by decide)) (g := (mkF m 30 #[rv o, rv a, iv (18 : Int32)] [(.ref a), (.int (39 : Int32)), (.ref o)])) rfl (by rw [hml]; rfl) (Steps.refl _) (a := o) (by rw [e4]; exact q5) q5' (argsL := [(.int (39 : Int32)), (.ref a)]) (rest := []) (lenOf pd_10 rfl) rfl (by show 2 * 0 + _ ≤ _; exact Nat.le_of_eq rfl) (hb hby d9_30) (fun _ _ => ⟨rfl, e4, (by decide : 1 + 0 ≤ _), (by decide : 80 + 0 ≤ _)⟩)
  dsimp only [Pt.U, Pt.locs, Pt.cells, Pt.slots] at X5 l5 y5 z5 st5 hQ5
  subst l5 y5 z5
  obtain ⟨rfl, Nq5, Kq5, u5_0⟩ := hQ5
  have N5 := Fr.app N3 Nq5
  have f5_0 := u3_1.keep Kq5
  have f5_1 := f3_5.keep Kq5
  have f5_2 := f3_6.keep Kq5 (ninS ne3_a nin0)
  have f5_3 := f3_7.keep Kq5 (ninS ne3_a nin0)
  have f5_4 := f3_8.keep Kq5 (ninS ne3_b nin0)
  have f5_5 := own_Sta_keep f3_9 Kq5 (nsS u3_5.nostat ns0)
  have f5_6 := u3_2.keep Kq5 (ninS ne3_o nin0)
  have f5_7 := u3_3.keep Kq5 (ninS ne3_o nin0)
  have f5_8 := u3_4.keep Kq5 (ninS ne3_o nin0)
  have Zs5 : n0 ≤ T5.heap.size := Nat.le_trans Zs3 Kq5.1
  have K5 := K3.trans Kq5 (allS (Or.inr sz3_y) all0)
  refine own_st (fun _ kk_ => st5.trans kk_) ?_
  show own_Goes _ _ _ _ _ _ _ T5 (mkF m 33 #[rv o, rv a, iv (18 : Int32)] [])
  refine own_st (fun _ kk_ => XS.aloadN X5.here hx rfl (hb hby d9_33) rfl rfl (XS.dup X5.here hx rfl (hb hby d9_34) rfl rfl kk_)) ?_
  show own_Goes _ _ _ _ _ _ _ T5 (mkF m 35 #[rv o, rv a, iv (18 : Int32)] [(.ref o), (.ref o)])
  obtain ⟨T6, X6, e6, st6⟩ := getF X5 hx hZ hown (host := "") (Or.inl (own_w hw 83 rfl)) Via.refl rfl f5_8 (g := (mkF m 35 #[rv o, rv a, iv (18 : Int32)] [(.ref o), (.ref o)])) rfl rfl (hb hby d9_35)
  refine own_st st6 ?_
  show own_Goes _ _ _ _ _ _ _ T6 (mkF m 38 #[rv o, rv a, iv (18 : Int32)] [(.int (39 : Int32)), (.ref o)])
  refine own_st (fun _ kk_ => XS.iloadN X6.here hx rfl (hb hby d9_38) rfl (XS.iadd X6.here hx rfl (hb hby d9_39) rfl kk_)) ?_
  show own_Goes _ _ _ _ _ _ _ T6 (mkF m 40 #[rv o, rv a, iv (18 : Int32)] [(.int (57 : Int32)), (.ref o)])
  obtain ⟨T7, h7, X7, e7, W7, st7⟩ := putF X6 hx hZ hown (host := "") (Or.inl (own_w hw 83 rfl)) Via.refl e6 f5_8 f5_0 (Or.inl (own_w hw 84 rfl)) (own_w hw 42 rfl) (ty := .int) (by decide) rfl rfl (g := (mkF m 40 #[rv o, rv a, iv (18 : Int32)] [(.int (57 : Int32)), (.ref o)])) rfl rfl (hb hby d9_40)
  have fw7 : Fld Z h7 o "java/lang/AbstractStringBuilder" "count" "I" (.int (57 : Int32)) := f5_8.same W7
  have f7_0 := f5_0.wr W7
  have f7_1 := f5_1.wr W7
  have f7_2 := f5_2.other W7 (Or.inl (Ne.symm p_12))
  have f7_3 := f5_3.other W7 (Or.inl (Ne.symm p_12))
  have f7_4 := f5_4.other W7 (Ne.symm p_13)
  have f7_5 := f5_5.wr W7
  have f7_6 := f5_6.other W7 (Or.inr (slot_ne (Or.inl (own_w hw 56 rfl)) (Or.inl (own_w hw 84 rfl)) (by decide) (t := (.array .byte)) (t' := .int) (by decide) (by decide)))
  have f7_7 := f5_7.other W7 (Or.inr (slot_ne (Or.inl (own_w hw 58 rfl)) (Or.inl (own_w hw 84 rfl)) (by decide) (t := .byte) (t' := .int) (by decide) (by decide)))
  have f7_9 := u5_0.other W7 (Ne.symm ne3_o)
  have Zs7 : n0 ≤ h7.size := Nat.le_trans Zs5 (Nat.le_of_eq W7.size.symm)
  have K7 := K5.wr W7 (Or.inl (List.mem_of_getElem? (i := 0) rfl))
  have N7 := Fr.snoc X7 N5 p_4
  refine own_st st7 ?_
  show own_Goes _ _ _ _ _ _ _ T7 (mkF m 43 #[rv o, rv a, iv (18 : Int32)] [])
  refine own_st (fun _ kk_ => XS.aloadN X7.here hx rfl (hb hby d9_43) rfl rfl kk_) ?_
  show own_Goes _ _ _ _ _ _ _ T7 (mkF m 44 #[rv o, rv a, iv (18 : Int32)] [(.ref o)])
  refine own_retA X7 hx hlk rfl Bd.returns rfl (hb hby d9_44) (by decide) (by decide) ?_
  show QAAc1 Z o a d kd vs1 b kb vs2 cs h0 n0 (some (.ref o)) T7.heap _
  rw [e7]
  exact ⟨x3_y, x3_ky, rfl, N7, K7, sz3_y, f7_0, f7_6, f7_7, fw7, f7_9⟩
abbrev rRrmSAc1 : Room := { frames := 5, cells := 1, slots := 80, locals := 76 }
theorem pn_rmSAc1 : plainFor yy16 = true := by first | exact plainFor_of_name (by first | (simp [plainName, overriddenIn]; done) | decide +kernel) | decide +kernel
theorem ef_rmSAc1 (m : MethodId) (o : Addr) (a : Addr) : entryFrame m #[(.ref o), (.ref a)] 2 = (mkF m 0 #[rv o, rv a] []) := by first | (simp [entryFrame, mkF, argsToLocals, Value.category]; done) | rfl
def QSAc1 (Z : State) (o : Addr) (a : Addr) (d : Addr) (kd : ClassId) (vs1 : List Value) (b : Addr) (kb : ClassId) (vs2 : List Value) (cs : Int32) (h0 : Heap) (n0 : Nat) (v_ : Option Value) (h_ : Heap) (L_ : List Loc) : Prop := ∃ y : Addr, ∃ ky : ClassId, (v_ = some (.ref o)) ∧ (Fr n0 L_) ∧ (Keep h0 h_ [o]) ∧ (h0.size ≤ y) ∧ (Exa Z h_ o "java/lang/StringBuilder") ∧ (Fld Z h_ o "java/lang/AbstractStringBuilder" "value" "[B" (.ref y)) ∧ (Fld Z h_ o "java/lang/AbstractStringBuilder" "coder" "B" (.int (0 : Int32))) ∧ (Fld Z h_ o "java/lang/AbstractStringBuilder" "count" "I" (.int (57 : Int32))) ∧ (Arv Z h_ y ky .byte (80 : Int32) (own_cp vs2 (own_cp vs1 own_z80 (0 : Int32) (0 : Int32) (39 : Int32) (.int (0 : Int32))) (0 : Int32) (39 : Int32) (18 : Int32) (.int (0 : Int32))) (.int (0 : Int32)))
set_option maxRecDepth 65536 in
set_option maxHeartbeats 40000000 in
theorem rmSAc1 (l : Launch) (Z : State) (a0 : Array Value) (hw : ∀ d ∈ tables_1, d.before a0 Z = true) (ws : List Jvm.Cond) (o : Addr) (a : Addr) (d : Addr) (kd : ClassId) (vs1 : List Value) (b : Addr) (kb : ClassId) (vs2 : List Value) (cs : Int32) (h0 : Heap) (n0 : Nat) (Z0 : n0 ≤ h0.size) (p_0 : Exa Z h0 o "java/lang/StringBuilder") (p_1 : Fld Z h0 o "java/lang/AbstractStringBuilder" "value" "[B" (.ref d)) (p_2 : Fld Z h0 o "java/lang/AbstractStringBuilder" "coder" "B" (.int (0 : Int32))) (p_3 : Fld Z h0 o "java/lang/AbstractStringBuilder" "count" "I" (.int (39 : Int32))) (p_4 : n0 ≤ o) (p_5 : Arv Z h0 d kd .byte (39 : Int32) vs1 (.int (0 : Int32))) (p_6 : Exa Z h0 a "java/lang/String") (p_7 : Fld Z h0 a "java/lang/String" "coder" "B" (.int (0 : Int32))) (p_8 : Fld Z h0 a "java/lang/String" "value" "[B" (.ref b)) (p_9 : Arv Z h0 b kb .byte (18 : Int32) vs2 (.int (0 : Int32))) (p_10 : Sta Z h0 "java/lang/String" "COMPACT_STRINGS" "Z" (.int cs)) (hcs : ¬ cs = (0 : Int32)) (p_12 : o ≠ a) (p_13 : o ≠ b) :
    MetFree l yy16 (head1 (Jvm.Cond.code yy16 jdk_67_method_7_code 2 (some (.object "java/lang/StringBuilder")) :: ws) rRrmSAc1) (fun a_ U_ => a_ = #[(.ref o), (.ref a)] ∧ Z.Warmed39 U_.vm ∧ U_.heap = h0) (fun _ _ _ _ _ => True) (fun _ U_ o_ U1_ => ∃ v_ L_, o_ = .returned v_ ∧ QSAc1 Z o a d kd vs1 b kb vs2 cs h0 n0 v_ U1_.heap L_ ∧ FrameEnd U_ o_ U1_ L_ rRrmSAc1.cells rRrmSAc1.slots) := by
  refine MetFree.of_bodySF pn_rmSAc1 hisR ?_
  intro p e s m args below meth c s₁ Bd hml0 hP hK
  obtain ⟨rfl, hZ, hh⟩ := hP
  have hx := Bd.exec
  have hby := Bd.bytes
  have hlk : meth.locks = false := Bd.notSynchronized
  have hml : c.maxLocals = 2 := hml0
  have hown : s.vm.findClass "java/lang/StringBuilder" = some m.cls := findClass_of_methodNamed Bd.named
  have hnm := (name_of_methodNamed Bd.named Bd.method).1
  have X0 : Stand p l e rRrmSAc1 s m #[(.ref o), (.ref a)] below meth c s₁ [] 0 0 := Stand.of_body Bd
  have e0 : s₁.heap = h0 := by rw [← hh, Bd.state]; rfl
  have N0 := Fr.nil n0
  show own_Goes p e below s (QSAc1 Z o a d kd vs1 b kb vs2 cs h0 n0) rRrmSAc1.cells rRrmSAc1.slots s₁ (entryFrame m #[(.ref o), (.ref a)] 2)
  rw [ef_rmSAc1 m o a]
  show own_Goes p e below s (QSAc1 Z o a d kd vs1 b kb vs2 cs h0 n0) rRrmSAc1.cells rRrmSAc1.slots s₁ (mkF m 0 #[rv o, rv a] [])
  refine own_st (fun _ kk_ => XS.aloadN X0.here hx rfl (hb hby d8_0) rfl rfl (XS.aloadN X0.here hx rfl (hb hby d8_1) rfl rfl kk_)) ?_
  show own_Goes _ _ _ _ _ _ _ s₁ (mkF m 2 #[rv o, rv a] [(.ref a), (.ref o)])
  obtain ⟨_, _, ⟨T1, L1, k1, n1⟩, -, X1, ⟨Lc1, hQ1, l1, y1, z1⟩, st1⟩ := superBack X0 hx hZ (y := yy15) hown (own_w hw 65 rfl) (own_smo (own_w hw 88 rfl) rfl (own_w hw 66 rfl) (by decide)) (own_w hw 66 rfl) (own_w hw 67 rfl) (by decide) (backOf (W := 0) (rmAAc1 l Z a0 hw [] (o) (a) (d) (kd) (vs1) (b) (kb) (vs2) (cs) h0 n0 Z0 p_0 p_1 p_2 p_3 p_4 p_5 p_6 p_7 p_8 p_9 p_10 (by assumption) p_12 p_13) hZ (own_w hw 69 rfl) (own_w hw 51 rfl) (by decide) (by decide)) e0 (Ins.self p_0) (g := (mkF m 2 #[rv o, rv a] [(.ref a), (.ref o)])) rfl (by rw [hml]; rfl) (own_w hw 69 rfl) (argsL := [(.ref a)]) (rest := []) (lenOf pd_11 rfl) rfl (by show 2 * 0 + _ ≤ _; exact Nat.le_of_eq rfl) (hb hby d8_2) (fun _ _ => ⟨rfl, e0, (by decide : 0 + 1 ≤ _), (by decide : 0 + 80 ≤ _)⟩)
  dsimp only [Pt.U, Pt.locs, Pt.cells, Pt.slots] at X1 l1 y1 z1 st1 hQ1
  subst l1 y1 z1
  obtain ⟨x1_y, x1_ky, rfl, Nq1, Kq1, u1_0, u1_1, u1_2, u1_3, u1_4, u1_5⟩ := hQ1
  have N1 := Fr.app N0 Nq1
  have f1_0 := p_0.keep Kq1
  have f1_5 := p_6.keep Kq1
  have f1_6 := p_7.keep Kq1 (ninS (Ne.symm p_12) nin0)
  have f1_7 := p_8.keep Kq1 (ninS (Ne.symm p_12) nin0)
  have f1_8 := p_9.keep Kq1 (ninS (Ne.symm p_13) nin0)
  have f1_9 := own_Sta_keep p_10 Kq1 (nsS p_0.nostat ns0)
  have Zs1 : n0 ≤ T1.heap.size := Nat.le_trans Z0 Kq1.1
  have K1 := (Keep.refl h0 [o]).trans Kq1 (allS (Or.inl (List.mem_of_getElem? (i := 0) rfl)) all0)
  have ne1_o : o ≠ x1_y := Nat.ne_of_lt (Nat.lt_of_lt_of_le p_0.lt u1_0)
  have ne1_d : d ≠ x1_y := Nat.ne_of_lt (Nat.lt_of_lt_of_le p_5.lt u1_0)
  have ne1_a : a ≠ x1_y := Nat.ne_of_lt (Nat.lt_of_lt_of_le p_6.lt u1_0)
  have ne1_b : b ≠ x1_y := Nat.ne_of_lt (Nat.lt_of_lt_of_le p_9.lt u1_0)
  have sz1_y : h0.size ≤ x1_y := Nat.le_trans (Keep.refl h0 [o]).1 u1_0
  have gg1_y : n0 ≤ x1_y := Nat.le_trans Z0 u1_0
  refine own_st (fun _ kk_ => st1.trans kk_) ?_
  show own_Goes _ _ _ _ _ _ _ T1 (mkF m 5 #[rv o, rv a] [(.ref o)])
  refine own_st (fun _ kk_ => XS.pop X1.here hx rfl (hb hby d8_5) rfl rfl (XS.aloadN X1.here hx rfl (hb hby d8_6) rfl rfl kk_)) ?_
  show own_Goes _ _ _ _ _ _ _ T1 (mkF m 7 #[rv o, rv a] [(.ref o)])
  refine own_retA X1 hx hlk rfl Bd.returns rfl (hb hby d8_7) (by decide) (by decide) ?_
  show QSAc1 Z o a d kd vs1 b kb vs2 cs h0 n0 (some (.ref o)) T1.heap _
  exact ⟨x1_y, x1_ky, rfl, N1, K1, u1_0, u1_1, u1_2, u1_3, u1_4, u1_5⟩
abbrev rRrmGBc2 : Room := { frames := 1, cells := 0, slots := 0, locals := 18 }
theorem pn_rmGBc2 : plainFor yy9 = true := by first | exact plainFor_of_name (by first | (simp [plainName, overriddenIn]; done) | decide +kernel) | decide +kernel
theorem ef_rmGBc2 (m : MethodId) (a : Addr) (d : Addr) : entryFrame m #[(.ref a), (.ref d), (.int (39 : Int32)), (.int (0 : Int32))] 4 = (mkF m 0 #[rv a, rv d, iv (39 : Int32), iv (0 : Int32)] []) := by first | (simp [entryFrame, mkF, argsToLocals, Value.category]; done) | rfl
def QGBc2 (Z : State) (a : Addr) (d : Addr) (kd : ClassId) (vs1 : List Value) (b : Addr) (kb : ClassId) (vs2 : List Value) (cs : Int32) (h0 : Heap) (n0 : Nat) (v_ : Option Value) (h_ : Heap) (L_ : List Loc) : Prop := (v_ = none) ∧ (Fr n0 L_) ∧ (Keep h0 h_ [d]) ∧ (Arv Z h_ d kd .byte (80 : Int32) (own_cp vs2 vs1 (0 : Int32) (39 : Int32) (11 : Int32) (.int (0 : Int32))) (.int (0 : Int32)))
set_option maxRecDepth 65536 in
set_option maxHeartbeats 40000000 in
theorem rmGBc2 (l : Launch) (Z : State) (a0 : Array Value) (hw : ∀ d ∈ tables_1, d.before a0 Z = true) (ws : List Jvm.Cond) (a : Addr) (d : Addr) (kd : ClassId) (vs1 : List Value) (b : Addr) (kb : ClassId) (vs2 : List Value) (cs : Int32) (h0 : Heap) (n0 : Nat) (Z0 : n0 ≤ h0.size) (p_0 : Exa Z h0 a "java/lang/String") (p_1 : Fld Z h0 a "java/lang/String" "coder" "B" (.int (0 : Int32))) (p_2 : Fld Z h0 a "java/lang/String" "value" "[B" (.ref b)) (p_3 : Arv Z h0 b kb .byte (11 : Int32) vs2 (.int (0 : Int32))) (p_4 : Sta Z h0 "java/lang/String" "COMPACT_STRINGS" "Z" (.int cs)) (hcs : ¬ cs = (0 : Int32)) (p_6 : Arv Z h0 d kd .byte (80 : Int32) vs1 (.int (0 : Int32))) (p_7 : n0 ≤ d) (hl : (39 : Int32).toNatClampNeg + (11 : Int32).toNatClampNeg ≤ vs1.length) :
    MetFree l yy9 (head1 (Jvm.Cond.code yy9 jdk_42_method_147_code 4 none :: ws) rRrmGBc2) (fun a_ U_ => a_ = #[(.ref a), (.ref d), (.int (39 : Int32)), (.int (0 : Int32))] ∧ Z.Warmed39 U_.vm ∧ U_.heap = h0) (fun _ _ _ _ _ => True) (fun _ U_ o_ U1_ => ∃ v_ L_, o_ = .returned v_ ∧ QGBc2 Z a d kd vs1 b kb vs2 cs h0 n0 v_ U1_.heap L_ ∧ FrameEnd U_ o_ U1_ L_ rRrmGBc2.cells rRrmGBc2.slots) := by
  refine MetFree.of_bodySF pn_rmGBc2 hisR ?_
  intro p e s m args below meth c s₁ Bd hml0 hP hK
  obtain ⟨rfl, hZ, hh⟩ := hP
  have hx := Bd.exec
  have hby := Bd.bytes
  have hlk : meth.locks = false := Bd.notSynchronized
  have hml : c.maxLocals = 4 := hml0
  have hown : s.vm.findClass "java/lang/String" = some m.cls := findClass_of_methodNamed Bd.named
  have hnm := (name_of_methodNamed Bd.named Bd.method).1
  have X0 : Stand p l e rRrmGBc2 s m #[(.ref a), (.ref d), (.int (39 : Int32)), (.int (0 : Int32))] below meth c s₁ [] 0 0 := Stand.of_body Bd
  have e0 : s₁.heap = h0 := by rw [← hh, Bd.state]; rfl
  have N0 := Fr.nil n0
  show own_Goes p e below s (QGBc2 Z a d kd vs1 b kb vs2 cs h0 n0) rRrmGBc2.cells rRrmGBc2.slots s₁ (entryFrame m #[(.ref a), (.ref d), (.int (39 : Int32)), (.int (0 : Int32))] 4)
  rw [ef_rmGBc2 m a d]
  show own_Goes p e below s (QGBc2 Z a d kd vs1 b kb vs2 cs h0 n0) rRrmGBc2.cells rRrmGBc2.slots s₁ (mkF m 0 #[rv a, rv d, iv (39 : Int32), iv (0 : Int32)] [])
  refine own_st (fun _ kk_ => XS.aloadN X0.here hx rfl (hb hby d20_0) rfl rfl kk_) ?_
  show own_Goes _ _ _ _ _ _ _ s₁ (mkF m 1 #[rv a, rv d, iv (39 : Int32), iv (0 : Int32)] [(.ref a)])
  obtain ⟨cq1, kq1, q1a, q1b, q1c⟩ := isOf hZ e0 p_0
  obtain ⟨_, _, ⟨T1, L1, k1, n1⟩, -, X1, ⟨Lc1, hQ1, l1, y1, z1⟩, st1⟩ := X0.virtualBack hx (y := yy0) (z := yy0) hown (mvT hZ (own_w hw 76 rfl)) (mvT hZ (own_w hw 77 rfl)) (notFace_of_selects (args := #[]) (mvT hZ (own_w hw 79 rfl))) (mvT hZ (own_w hw 79 rfl)) (mvT hZ (own_w hw 78 rfl)) (by decide) (backOf (W := 0) (rm11 l Z a0 hw [] (a) (cs) h0 n0 Z0 p_1 p_4 (by assumption)) hZ (own_w hw 80 rfl) (own_w hw 19 rfl) (by decide) (by decide)) q1a q1c (g := (mkF m 1 #[rv a, rv d, iv (39 : Int32), iv (0 : Int32)] [(.ref a)])) rfl (by rw [hml]; rfl) (Steps.refl _) (argsL := []) (rest := []) (lenOf pd_0 rfl) rfl (by show 2 * 0 + _ ≤ _; exact Nat.le_of_eq rfl) (hb hby d20_1) (fun _ _ => ⟨rfl, e0, (by decide : 0 + 0 ≤ _), (by decide : 0 + 0 ≤ _)⟩)
  dsimp only [Pt.U, Pt.locs, Pt.cells, Pt.slots] at X1 l1 y1 z1 st1 hQ1
  subst l1 y1 z1
  obtain ⟨rfl, Nq1, eq1⟩ := hQ1
  have N1 := Fr.app N0 Nq1
  refine own_st (fun _ kk_ => st1.trans kk_) ?_
  show own_Goes _ _ _ _ _ _ _ T1 (mkF m 4 #[rv a, rv d, iv (39 : Int32), iv (0 : Int32)] [(.int (0 : Int32))])
  refine own_st (fun _ kk_ => XS.iloadN X1.here hx rfl (hb hby d20_4) rfl (XS.icmpNo X1.here hx rfl (hb hby d20_5) rfl (XT.ii_ne_f (by decide)) (XS.aloadN X1.here hx rfl (hb hby d20_8) rfl rfl kk_))) ?_
  show own_Goes _ _ _ _ _ _ _ T1 (mkF m 9 #[rv a, rv d, iv (39 : Int32), iv (0 : Int32)] [(.ref a)])
  obtain ⟨T2, X2, e2, st2⟩ := getF X1 hx hZ hown (host := "") (Or.inl (own_w hw 75 rfl)) Via.refl eq1 p_2 (g := (mkF m 9 #[rv a, rv d, iv (39 : Int32), iv (0 : Int32)] [(.ref a)])) rfl rfl (hb hby d20_9)
  refine own_st st2 ?_
  show own_Goes _ _ _ _ _ _ _ T2 (mkF m 12 #[rv a, rv d, iv (39 : Int32), iv (0 : Int32)] [(.ref b)])
  refine own_st (fun _ kk_ => XS.iconst X2.here hx rfl (hb hby d20_12) (XS.aloadN X2.here hx rfl (hb hby d20_13) rfl rfl (XS.iloadN X2.here hx rfl (hb hby d20_14) rfl (XS.iloadN X2.here hx rfl (hb hby d20_15) rfl (XS.ishl X2.here hx rfl (hb hby d20_16) rfl (XS.aloadN X2.here hx rfl (hb hby d20_17) rfl rfl kk_)))))) ?_
  show own_Goes _ _ _ _ _ _ _ T2 (mkF m 18 #[rv a, rv d, iv (39 : Int32), iv (0 : Int32)] [(.ref a), (.int (39 : Int32)), (.ref d), (.int (0 : Int32)), (.ref b)])
  obtain ⟨T3, X3, e3, st3⟩ := getF X2 hx hZ hown (host := "") (Or.inl (own_w hw 75 rfl)) Via.refl e2 p_2 (g := (mkF m 18 #[rv a, rv d, iv (39 : Int32), iv (0 : Int32)] [(.ref a), (.int (39 : Int32)), (.ref d), (.int (0 : Int32)), (.ref b)])) rfl rfl (hb hby d20_18)
  refine own_st st3 ?_
  show own_Goes _ _ _ _ _ _ _ T3 (mkF m 21 #[rv a, rv d, iv (39 : Int32), iv (0 : Int32)] [(.ref b), (.int (39 : Int32)), (.ref d), (.int (0 : Int32)), (.ref b)])
  obtain ⟨cl4, Ar4, -, Sz4, Nn4, -, -⟩ := id p_3
  refine own_st (fun _ kk_ => X3.arraylength hx (by rw [e3]; exact Ar4.1) (State.isArrayOf_alike hZ.alike Ar4.2.1) (g := (mkF m 21 #[rv a, rv d, iv (39 : Int32), iv (0 : Int32)] [(.ref b), (.int (39 : Int32)), (.ref d), (.int (0 : Int32)), (.ref b)])) rfl rfl (hb hby d20_21) _ kk_) ?_
  rw [len_of Sz4 Nn4]
  show own_Goes _ _ _ _ _ _ _ T3 (mkF m 22 #[rv a, rv d, iv (39 : Int32), iv (0 : Int32)] [(.int (11 : Int32)), (.int (39 : Int32)), (.ref d), (.int (0 : Int32)), (.ref b)])
  obtain ⟨T5, h5, L5, X5, e5, N5, Kp5, A5, st5⟩ := cpA X3 hx hZ hown (own_w hw 132 rfl) (own_w hw 115 rfl) (own_w hw 113 rfl) (own_w hw 114 rfl) e3 p_3 p_6 (Or.inl ⟨rfl, rfl⟩) (by decide) (by decide) (by decide) (by decide) (by decide) rfl hl N1 p_7 (g := (mkF m 22 #[rv a, rv d, iv (39 : Int32), iv (0 : Int32)] [(.int (11 : Int32)), (.int (39 : Int32)), (.ref d), (.int (0 : Int32)), (.ref b)])) rfl (by rw [hml]; rfl) (rest := []) rfl (hb hby d20_22) (by decide) (W := 0) (by show 2 * 0 + _ ≤ _; exact Nat.le_of_eq rfl) (by decide)
  have f5_0 := p_0.keep Kp5
  have f5_4 := own_Sta_keep p_4 Kp5 (nsS p_6.nostat ns0)
  have Zs5 : n0 ≤ h5.size := Nat.le_trans Z0 Kp5.1
  have K5 := (Keep.refl h0 [d]).trans Kp5 (allS (Or.inl (List.mem_of_getElem? (i := 0) rfl)) all0)
  have V5 : Arv Z h5 d kd .byte (80 : Int32) (own_cp vs2 vs1 (0 : Int32) (39 : Int32) (11 : Int32) (.int (0 : Int32))) (.int (0 : Int32)) := A5
  refine own_st st5 ?_
  show own_Goes _ _ _ _ _ _ _ T5 (mkF m 25 #[rv a, rv d, iv (39 : Int32), iv (0 : Int32)] [])
  refine own_st (fun _ kk_ => XS.goto X5.here hx rfl (pc0 := 25) (pc' := 43) rfl (hb hby d20_25) (by decide) (by decide) kk_) ?_
  show own_Goes _ _ _ _ _ _ _ T5 (mkF m 43 #[rv a, rv d, iv (39 : Int32), iv (0 : Int32)] [])
  refine own_ret0 X5 hx hlk Bd.returns (hb hby d20_43) (by decide) (by decide) ?_
  show QGBc2 Z a d kd vs1 b kb vs2 cs h0 n0 none T5.heap _
  rw [e5]
  exact ⟨rfl, N5, K5, V5⟩
abbrev rRrmPSc2 : Room := { frames := 2, cells := 0, slots := 0, locals := 33 }
theorem pn_rmPSc2 : plainFor yy10 = true := by first | exact plainFor_of_name (by first | (simp [plainName, overriddenIn]; done) | decide +kernel) | decide +kernel
theorem ef_rmPSc2 (m : MethodId) (o : Addr) (a : Addr) : entryFrame m #[(.ref o), (.int (39 : Int32)), (.ref a)] 3 = (mkF m 0 #[rv o, iv (39 : Int32), rv a] []) := by first | (simp [entryFrame, mkF, argsToLocals, Value.category]; done) | rfl
def QPSc2 (Z : State) (o : Addr) (a : Addr) (d : Addr) (kd : ClassId) (vs1 : List Value) (b : Addr) (kb : ClassId) (vs2 : List Value) (cs : Int32) (h0 : Heap) (n0 : Nat) (v_ : Option Value) (h_ : Heap) (L_ : List Loc) : Prop := (v_ = none) ∧ (Fr n0 L_) ∧ (Keep h0 h_ [d]) ∧ (Arv Z h_ d kd .byte (80 : Int32) (own_cp vs2 vs1 (0 : Int32) (39 : Int32) (11 : Int32) (.int (0 : Int32))) (.int (0 : Int32)))
set_option maxRecDepth 65536 in
set_option maxHeartbeats 40000000 in
theorem rmPSc2 (l : Launch) (Z : State) (a0 : Array Value) (hw : ∀ d ∈ tables_1, d.before a0 Z = true) (ws : List Jvm.Cond) (o : Addr) (a : Addr) (d : Addr) (kd : ClassId) (vs1 : List Value) (b : Addr) (kb : ClassId) (vs2 : List Value) (cs : Int32) (h0 : Heap) (n0 : Nat) (Z0 : n0 ≤ h0.size) (p_0 : Exa Z h0 o "java/lang/StringBuilder") (p_1 : Fld Z h0 o "java/lang/AbstractStringBuilder" "value" "[B" (.ref d)) (p_2 : Fld Z h0 o "java/lang/AbstractStringBuilder" "coder" "B" (.int (0 : Int32))) (p_3 : Exa Z h0 a "java/lang/String") (p_4 : Fld Z h0 a "java/lang/String" "coder" "B" (.int (0 : Int32))) (p_5 : Fld Z h0 a "java/lang/String" "value" "[B" (.ref b)) (p_6 : Arv Z h0 b kb .byte (11 : Int32) vs2 (.int (0 : Int32))) (p_7 : Sta Z h0 "java/lang/String" "COMPACT_STRINGS" "Z" (.int cs)) (hcs : ¬ cs = (0 : Int32)) (p_9 : Arv Z h0 d kd .byte (80 : Int32) vs1 (.int (0 : Int32))) (p_10 : n0 ≤ d) (hl : (39 : Int32).toNatClampNeg + (11 : Int32).toNatClampNeg ≤ vs1.length) :
    MetFree l yy10 (head1 (Jvm.Cond.code yy10 jdk_68_method_73_code 3 none :: ws) rRrmPSc2) (fun a_ U_ => a_ = #[(.ref o), (.int (39 : Int32)), (.ref a)] ∧ Z.Warmed39 U_.vm ∧ U_.heap = h0) (fun _ _ _ _ _ => True) (fun _ U_ o_ U1_ => ∃ v_ L_, o_ = .returned v_ ∧ QPSc2 Z o a d kd vs1 b kb vs2 cs h0 n0 v_ U1_.heap L_ ∧ FrameEnd U_ o_ U1_ L_ rRrmPSc2.cells rRrmPSc2.slots) := by
  refine MetFree.of_bodySF pn_rmPSc2 hisR ?_
  intro p e s m args below meth c s₁ Bd hml0 hP hK
  obtain ⟨rfl, hZ, hh⟩ := hP
  have hx := Bd.exec
  have hby := Bd.bytes
  have hlk : meth.locks = false := Bd.notSynchronized
  have hml : c.maxLocals = 3 := hml0
  have hown : s.vm.findClass "java/lang/AbstractStringBuilder" = some m.cls := findClass_of_methodNamed Bd.named
  have hnm := (name_of_methodNamed Bd.named Bd.method).1
  have X0 : Stand p l e rRrmPSc2 s m #[(.ref o), (.int (39 : Int32)), (.ref a)] below meth c s₁ [] 0 0 := Stand.of_body Bd
  have e0 : s₁.heap = h0 := by rw [← hh, Bd.state]; rfl
  have N0 := Fr.nil n0
  show own_Goes p e below s (QPSc2 Z o a d kd vs1 b kb vs2 cs h0 n0) rRrmPSc2.cells rRrmPSc2.slots s₁ (entryFrame m #[(.ref o), (.int (39 : Int32)), (.ref a)] 3)
  rw [ef_rmPSc2 m o a]
  show own_Goes p e below s (QPSc2 Z o a d kd vs1 b kb vs2 cs h0 n0) rRrmPSc2.cells rRrmPSc2.slots s₁ (mkF m 0 #[rv o, iv (39 : Int32), rv a] [])
  refine own_st (fun _ kk_ => XS.aloadN X0.here hx rfl (hb hby d18_0) rfl rfl (XS.aloadN X0.here hx rfl (hb hby d18_1) rfl rfl kk_)) ?_
  show own_Goes _ _ _ _ _ _ _ s₁ (mkF m 2 #[rv o, iv (39 : Int32), rv a] [(.ref a), (.ref o)])
  obtain ⟨cq1, q1, q1'⟩ := p_0.cell
  obtain ⟨_, _, ⟨T1, L1, k1, n1⟩, -, X1, ⟨Lc1, hQ1, l1, y1, z1⟩, st1⟩ := X0.privateBack hx (y := yy8) hown (mvT hZ (own_w hw 121 rfl)) (mvT hZ (own_w hw 122 rfl)) (own_selp (mvT hZ (own_w hw 124 rfl)) (Cond.privateMethod_at (mvP hZ (own_w hw 123 rfl) (args := #[]))) (mvT hZ (own_w hw 122 rfl)) (by decide)) (Cond.privateMethod_at (mvP hZ (own_w hw 123 rfl) (args := #[]))) (mvT hZ (own_w hw 125 rfl)) (by decide) (backOf (W := 0) (rm19 l Z a0 hw [] (o) (a) (cs) h0 n0 Z0 p_0 p_2 p_3 p_4 p_7 (by assumption)) hZ (own_w hw 125 rfl) (own_w hw 51 rfl) (by decide) (by decide)) (g := (mkF m 2 #[rv o, iv (39 : Int32), rv a] [(.ref a), (.ref o)])) rfl (by rw [hml]; rfl) (Steps.refl _) (a := o) (by rw [e0]; exact q1) q1' (argsL := [(.ref a)]) (rest := []) (lenOf pd_3 rfl) rfl (by show 2 * 0 + _ ≤ _; exact Nat.le_of_eq rfl) (hb hby d18_2) (fun _ _ => ⟨rfl, e0, (by decide : 0 + 0 ≤ _), (by decide : 0 + 0 ≤ _)⟩)
  dsimp only [Pt.U, Pt.locs, Pt.cells, Pt.slots] at X1 l1 y1 z1 st1 hQ1
  subst l1 y1 z1
  obtain ⟨rfl, Nq1, eq1⟩ := hQ1
  have N1 := Fr.app N0 Nq1
  refine own_st (fun _ kk_ => st1.trans kk_) ?_
  show own_Goes _ _ _ _ _ _ _ T1 (mkF m 5 #[rv o, iv (39 : Int32), rv a] [])
  refine own_st (fun _ kk_ => XS.aloadN X1.here hx rfl (hb hby d18_5) rfl rfl (XS.aloadN X1.here hx rfl (hb hby d18_6) rfl rfl kk_)) ?_
  show own_Goes _ _ _ _ _ _ _ T1 (mkF m 7 #[rv o, iv (39 : Int32), rv a] [(.ref o), (.ref a)])
  obtain ⟨T2, X2, e2, st2⟩ := getF X1 hx hZ hown (host := "") (Or.inl (own_w hw 55 rfl)) Via.refl eq1 p_1 (g := (mkF m 7 #[rv o, iv (39 : Int32), rv a] [(.ref o), (.ref a)])) rfl rfl (hb hby d18_7)
  refine own_st st2 ?_
  show own_Goes _ _ _ _ _ _ _ T2 (mkF m 10 #[rv o, iv (39 : Int32), rv a] [(.ref d), (.ref a)])
  refine own_st (fun _ kk_ => XS.iloadN X2.here hx rfl (hb hby d18_10) rfl (XS.aloadN X2.here hx rfl (hb hby d18_11) rfl rfl kk_)) ?_
  show own_Goes _ _ _ _ _ _ _ T2 (mkF m 12 #[rv o, iv (39 : Int32), rv a] [(.ref o), (.int (39 : Int32)), (.ref d), (.ref a)])
  obtain ⟨T3, X3, e3, st3⟩ := getF X2 hx hZ hown (host := "") (Or.inl (own_w hw 57 rfl)) Via.refl e2 p_2 (g := (mkF m 12 #[rv o, iv (39 : Int32), rv a] [(.ref o), (.int (39 : Int32)), (.ref d), (.ref a)])) rfl rfl (hb hby d18_12)
  refine own_st st3 ?_
  show own_Goes _ _ _ _ _ _ _ T3 (mkF m 15 #[rv o, iv (39 : Int32), rv a] [(.int (0 : Int32)), (.int (39 : Int32)), (.ref d), (.ref a)])
  obtain ⟨cq4, kq4, q4a, q4b, q4c⟩ := isOf hZ e3 p_3
  obtain ⟨_, _, ⟨T4, L4, k4, n4⟩, -, X4, ⟨Lc4, hQ4, l4, y4, z4⟩, st4⟩ := X3.virtualBack hx (y := yy9) (z := yy9) hown (mvT hZ (own_w hw 127 rfl)) (mvT hZ (own_w hw 128 rfl)) (notFace_of_selects (args := #[]) (mvT hZ (own_w hw 130 rfl))) (mvT hZ (own_w hw 130 rfl)) (mvT hZ (own_w hw 129 rfl)) (by decide) (backOf (W := 0) (rmGBc2 l Z a0 hw [] (a) (d) (kd) (vs1) (b) (kb) (vs2) (cs) h0 n0 Z0 p_3 p_4 p_5 p_6 p_7 (by assumption) p_9 p_10 hl) hZ (own_w hw 131 rfl) (own_w hw 19 rfl) (by decide) (by decide)) q4a q4c (g := (mkF m 15 #[rv o, iv (39 : Int32), rv a] [(.int (0 : Int32)), (.int (39 : Int32)), (.ref d), (.ref a)])) rfl (by rw [hml]; rfl) (Steps.refl _) (argsL := [(.ref d), (.int (39 : Int32)), (.int (0 : Int32))]) (rest := []) (lenOf pd_4 rfl) rfl (by show 2 * 0 + _ ≤ _; exact Nat.le_of_eq rfl) (hb hby d18_15) (fun _ _ => ⟨rfl, e3, (by decide : 0 + 0 ≤ _), (by decide : 0 + 0 ≤ _)⟩)
  dsimp only [Pt.U, Pt.locs, Pt.cells, Pt.slots] at X4 l4 y4 z4 st4 hQ4
  subst l4 y4 z4
  obtain ⟨rfl, Nq4, Kq4, u4_0⟩ := hQ4
  have N4 := Fr.app N1 Nq4
  have f4_0 := p_0.keep Kq4
  have f4_3 := p_3.keep Kq4
  have f4_7 := own_Sta_keep p_7 Kq4 (nsS p_9.nostat ns0)
  have Zs4 : n0 ≤ T4.heap.size := Nat.le_trans Z0 Kq4.1
  have K4 := (Keep.refl h0 [d]).trans Kq4 (allS (Or.inl (List.mem_of_getElem? (i := 0) rfl)) all0)
  refine own_st (fun _ kk_ => st4.trans kk_) ?_
  show own_Goes _ _ _ _ _ _ _ T4 (mkF m 18 #[rv o, iv (39 : Int32), rv a] [])
  refine own_ret0 X4 hx hlk Bd.returns (hb hby d18_18) (by decide) (by decide) ?_
  show QPSc2 Z o a d kd vs1 b kb vs2 cs h0 n0 none T4.heap _
  exact ⟨rfl, N4, K4, u4_0⟩
abbrev rRrmNLc2 : Room := { frames := 1, cells := 0, slots := 0, locals := 14 }
theorem pn_rmNLc2 : plainFor yy11 = true := by first | exact plainFor_of_name (by first | (simp [plainName, overriddenIn]; done) | decide +kernel) | decide +kernel
theorem ef_rmNLc2 (m : MethodId) : entryFrame m #[(.int (39 : Int32)), (.int (11 : Int32)), (.int (41 : Int32))] 4 = (mkF m 0 #[iv (39 : Int32), iv (11 : Int32), iv (41 : Int32), .unset] []) := by first | (simp [entryFrame, mkF, argsToLocals, Value.category]; done) | rfl
def QNLc2 (Z : State) (h0 : Heap) (n0 : Nat) (v_ : Option Value) (h_ : Heap) (L_ : List Loc) : Prop := (v_ = some (.int (80 : Int32))) ∧ (Fr n0 L_) ∧ (h_ = h0)
set_option maxRecDepth 65536 in
set_option maxHeartbeats 40000000 in
theorem rmNLc2 (l : Launch) (Z : State) (a0 : Array Value) (hw : ∀ d ∈ tables_1, d.before a0 Z = true) (ws : List Jvm.Cond) (h0 : Heap) (n0 : Nat) (Z0 : n0 ≤ h0.size) :
    MetFree l yy11 (head1 (Jvm.Cond.code yy11 jdk_48_method_27_code 4 (some .int) :: ws) rRrmNLc2) (fun a_ U_ => a_ = #[(.int (39 : Int32)), (.int (11 : Int32)), (.int (41 : Int32))] ∧ Z.Warmed39 U_.vm ∧ U_.heap = h0) (fun _ _ _ _ _ => True) (fun _ U_ o_ U1_ => ∃ v_ L_, o_ = .returned v_ ∧ QNLc2 Z h0 n0 v_ U1_.heap L_ ∧ FrameEnd U_ o_ U1_ L_ rRrmNLc2.cells rRrmNLc2.slots) := by
  refine MetFree.of_bodySF pn_rmNLc2 hisR ?_
  intro p e s m args below meth c s₁ Bd hml0 hP hK
  obtain ⟨rfl, hZ, hh⟩ := hP
  have hx := Bd.exec
  have hby := Bd.bytes
  have hlk : meth.locks = false := Bd.notSynchronized
  have hml : c.maxLocals = 4 := hml0
  have hown : s.vm.findClass "jdk/internal/util/ArraysSupport" = some m.cls := findClass_of_methodNamed Bd.named
  have hnm := (name_of_methodNamed Bd.named Bd.method).1
  have X0 : Stand p l e rRrmNLc2 s m #[(.int (39 : Int32)), (.int (11 : Int32)), (.int (41 : Int32))] below meth c s₁ [] 0 0 := Stand.of_body Bd
  have e0 : s₁.heap = h0 := by rw [← hh, Bd.state]; rfl
  have N0 := Fr.nil n0
  show own_Goes p e below s (QNLc2 Z h0 n0) rRrmNLc2.cells rRrmNLc2.slots s₁ (entryFrame m #[(.int (39 : Int32)), (.int (11 : Int32)), (.int (41 : Int32))] 4)
  rw [ef_rmNLc2 m]
  show own_Goes p e below s (QNLc2 Z h0 n0) rRrmNLc2.cells rRrmNLc2.slots s₁ (mkF m 0 #[iv (39 : Int32), iv (11 : Int32), iv (41 : Int32), .unset] [])
  refine own_st (fun _ kk_ => XS.iloadN X0.here hx rfl (hb hby d14_0) rfl (XS.iloadN X0.here hx rfl (hb hby d14_1) rfl (XS.iloadN X0.here hx rfl (hb hby d14_2) rfl kk_))) ?_
  show own_Goes _ _ _ _ _ _ _ s₁ (mkF m 3 #[iv (39 : Int32), iv (11 : Int32), iv (41 : Int32), .unset] [(.int (41 : Int32)), (.int (11 : Int32)), (.int (39 : Int32))])
  obtain ⟨_, _, ⟨T1, L1, k1, n1⟩, -, X1, ⟨Lc1, hQ1, l1, y1, z1⟩, st1⟩ := Jvm.LawKit.callS X0 hx (y := yy2) hown (mvT hZ (own_w hw 99 rfl)) (mvT hZ (own_w hw 100 rfl)) (mvT hZ (own_w hw 101 rfl)) (mvT hZ (own_w hw 102 rfl)) (by decide) (backOf (W := 1) (rmxB l Z a0 hw [] ((11 : Int32)) ((41 : Int32)) h0 n0 Z0 (by decide)) hZ (own_w hw 102 rfl) (own_w hw 101 rfl) (by decide) (by decide)) (g := (mkF m 3 #[iv (39 : Int32), iv (11 : Int32), iv (41 : Int32), .unset] [(.int (41 : Int32)), (.int (11 : Int32)), (.int (39 : Int32))])) rfl (by rw [hml]; rfl) (argsL := [(.int (11 : Int32)), (.int (41 : Int32))]) (rest := [(.int (39 : Int32))]) (lenOf pd_5 rfl) rfl (by show 2 * 0 + _ ≤ _; exact Nat.le_of_eq rfl) (hb hby d14_3) (fun _ _ => ⟨rfl, e0, (by decide : 0 + 0 ≤ _), (by decide : 0 + 0 ≤ _)⟩)
  dsimp only [Pt.U, Pt.locs, Pt.cells, Pt.slots] at X1 l1 y1 z1 st1 hQ1
  subst l1 y1 z1
  obtain ⟨rfl, Nq1, eq1⟩ := hQ1
  have N1 := Fr.app N0 Nq1
  refine own_st st1 ?_
  show own_Goes _ _ _ _ _ _ _ T1 (mkF m 6 #[iv (39 : Int32), iv (11 : Int32), iv (41 : Int32), .unset] [(.int (41 : Int32)), (.int (39 : Int32))])
  refine own_st (fun _ kk_ => XS.iadd X1.here hx rfl (hb hby d14_6) rfl (XS.istoreN X1.here hx rfl (hb hby d14_7) rfl (l' := #[iv (39 : Int32), iv (11 : Int32), iv (41 : Int32), iv (80 : Int32)]) rfl (XS.iconst X1.here hx rfl (hb hby d14_8) (XS.iloadN X1.here hx rfl (hb hby d14_9) rfl (XS.icmpNo X1.here hx rfl (hb hby d14_10) rfl (XT.ii_ge_f (by decide)) (XS.iloadN X1.here hx rfl (hb hby d14_13) rfl (X1.ldcInt hx hown (mvT hZ (own_w hw 103 rfl)) (g := (mkF m 14 #[iv (39 : Int32), iv (11 : Int32), iv (41 : Int32), iv (80 : Int32)] [(.int (80 : Int32))])) rfl (hb hby d14_14) _ (XS.icmpNo X1.here hx rfl (hb hby d14_16) rfl (XT.ii_gt_f (by decide)) (XS.iloadN X1.here hx rfl (hb hby d14_19) rfl kk_))))))))) ?_
  show own_Goes _ _ _ _ _ _ _ T1 (mkF m 20 #[iv (39 : Int32), iv (11 : Int32), iv (41 : Int32), iv (80 : Int32)] [(.int (80 : Int32))])
  refine own_retI X1 hx hlk Bd.returns (hb hby d14_20) (by decide) (by decide) ?_
  show QNLc2 Z h0 n0 (some (.int (80 : Int32))) T1.heap _
  rw [eq1]
  exact ⟨rfl, N1, rfl⟩
abbrev rRrmNCc2 : Room := { frames := 2, cells := 0, slots := 0, locals := 29 }
theorem pn_rmNCc2 : plainFor yy12 = true := by first | exact plainFor_of_name (by first | (simp [plainName, overriddenIn]; done) | decide +kernel) | decide +kernel
theorem ef_rmNCc2 (m : MethodId) (o : Addr) : entryFrame m #[(.ref o), (.int (50 : Int32))] 6 = (mkF m 0 #[rv o, iv (50 : Int32), .unset, .unset, .unset, .unset] []) := by first | (simp [entryFrame, mkF, argsToLocals, Value.category]; done) | rfl
def QNCc2 (Z : State) (o : Addr) (d : Addr) (kd : ClassId) (vs1 : List Value) (h0 : Heap) (n0 : Nat) (v_ : Option Value) (h_ : Heap) (L_ : List Loc) : Prop := (v_ = some (.int (80 : Int32))) ∧ (Fr n0 L_) ∧ (h_ = h0)
set_option maxRecDepth 65536 in
set_option maxHeartbeats 40000000 in
theorem rmNCc2 (l : Launch) (Z : State) (a0 : Array Value) (hw : ∀ d ∈ tables_1, d.before a0 Z = true) (ws : List Jvm.Cond) (o : Addr) (d : Addr) (kd : ClassId) (vs1 : List Value) (h0 : Heap) (n0 : Nat) (Z0 : n0 ≤ h0.size) (p_0 : Exa Z h0 o "java/lang/StringBuilder") (p_1 : Fld Z h0 o "java/lang/AbstractStringBuilder" "value" "[B" (.ref d)) (p_2 : Fld Z h0 o "java/lang/AbstractStringBuilder" "coder" "B" (.int (0 : Int32))) (p_3 : Arv Z h0 d kd .byte (39 : Int32) vs1 (.int (0 : Int32))) :
    MetFree l yy12 (head1 (Jvm.Cond.code yy12 jdk_68_method_10_code 6 (some .int) :: ws) rRrmNCc2) (fun a_ U_ => a_ = #[(.ref o), (.int (50 : Int32))] ∧ Z.Warmed39 U_.vm ∧ U_.heap = h0) (fun _ _ _ _ _ => True) (fun _ U_ o_ U1_ => ∃ v_ L_, o_ = .returned v_ ∧ QNCc2 Z o d kd vs1 h0 n0 v_ U1_.heap L_ ∧ FrameEnd U_ o_ U1_ L_ rRrmNCc2.cells rRrmNCc2.slots) := by
  refine MetFree.of_bodySF pn_rmNCc2 hisR ?_
  intro p e s m args below meth c s₁ Bd hml0 hP hK
  obtain ⟨rfl, hZ, hh⟩ := hP
  have hx := Bd.exec
  have hby := Bd.bytes
  have hlk : meth.locks = false := Bd.notSynchronized
  have hml : c.maxLocals = 6 := hml0
  have hown : s.vm.findClass "java/lang/AbstractStringBuilder" = some m.cls := findClass_of_methodNamed Bd.named
  have hnm := (name_of_methodNamed Bd.named Bd.method).1
  have X0 : Stand p l e rRrmNCc2 s m #[(.ref o), (.int (50 : Int32))] below meth c s₁ [] 0 0 := Stand.of_body Bd
  have e0 : s₁.heap = h0 := by rw [← hh, Bd.state]; rfl
  have N0 := Fr.nil n0
  show own_Goes p e below s (QNCc2 Z o d kd vs1 h0 n0) rRrmNCc2.cells rRrmNCc2.slots s₁ (entryFrame m #[(.ref o), (.int (50 : Int32))] 6)
  rw [ef_rmNCc2 m o]
  show own_Goes p e below s (QNCc2 Z o d kd vs1 h0 n0) rRrmNCc2.cells rRrmNCc2.slots s₁ (mkF m 0 #[rv o, iv (50 : Int32), .unset, .unset, .unset, .unset] [])
  refine own_st (fun _ kk_ => XS.aloadN X0.here hx rfl (hb hby d13_0) rfl rfl kk_) ?_
  show own_Goes _ _ _ _ _ _ _ s₁ (mkF m 1 #[rv o, iv (50 : Int32), .unset, .unset, .unset, .unset] [(.ref o)])
  obtain ⟨T1, X1, e1, st1⟩ := getF X0 hx hZ hown (host := "") (Or.inl (own_w hw 55 rfl)) Via.refl e0 p_1 (g := (mkF m 1 #[rv o, iv (50 : Int32), .unset, .unset, .unset, .unset] [(.ref o)])) rfl rfl (hb hby d13_1)
  refine own_st st1 ?_
  show own_Goes _ _ _ _ _ _ _ T1 (mkF m 4 #[rv o, iv (50 : Int32), .unset, .unset, .unset, .unset] [(.ref d)])
  obtain ⟨cl2, Ar2, -, Sz2, Nn2, -, -⟩ := id p_3
  refine own_st (fun _ kk_ => X1.arraylength hx (by rw [e1]; exact Ar2.1) (State.isArrayOf_alike hZ.alike Ar2.2.1) (g := (mkF m 4 #[rv o, iv (50 : Int32), .unset, .unset, .unset, .unset] [(.ref d)])) rfl rfl (hb hby d13_4) _ kk_) ?_
  rw [len_of Sz2 Nn2]
  show own_Goes _ _ _ _ _ _ _ T1 (mkF m 5 #[rv o, iv (50 : Int32), .unset, .unset, .unset, .unset] [(.int (39 : Int32))])
  refine own_st (fun _ kk_ => XS.istoreN X1.here hx rfl (hb hby d13_5) rfl (l' := #[rv o, iv (50 : Int32), iv (39 : Int32), .unset, .unset, .unset]) rfl (XS.iloadN X1.here hx rfl (hb hby d13_6) rfl (XS.aloadN X1.here hx rfl (hb hby d13_7) rfl rfl kk_))) ?_
  show own_Goes _ _ _ _ _ _ _ T1 (mkF m 8 #[rv o, iv (50 : Int32), iv (39 : Int32), .unset, .unset, .unset] [(.ref o), (.int (50 : Int32))])
  obtain ⟨T3, X3, e3, st3⟩ := getF X1 hx hZ hown (host := "") (Or.inl (own_w hw 57 rfl)) Via.refl e1 p_2 (g := (mkF m 8 #[rv o, iv (50 : Int32), iv (39 : Int32), .unset, .unset, .unset] [(.ref o), (.int (50 : Int32))])) rfl rfl (hb hby d13_8)
  refine own_st st3 ?_
  show own_Goes _ _ _ _ _ _ _ T3 (mkF m 11 #[rv o, iv (50 : Int32), iv (39 : Int32), .unset, .unset, .unset] [(.int (0 : Int32)), (.int (50 : Int32))])
  refine own_st (fun _ kk_ => XS.ishl X3.here hx rfl (hb hby d13_11) rfl (XS.istoreN X3.here hx rfl (hb hby d13_12) rfl (l' := #[rv o, iv (50 : Int32), iv (39 : Int32), iv (50 : Int32), .unset, .unset]) rfl (XS.iloadN X3.here hx rfl (hb hby d13_13) rfl (XS.iloadN X3.here hx rfl (hb hby d13_14) rfl (XS.isub X3.here hx rfl (hb hby d13_15) rfl (XS.istore X3.here hx rfl (hb hby d13_16) rfl (l' := #[rv o, iv (50 : Int32), iv (39 : Int32), iv (50 : Int32), iv (11 : Int32), .unset]) rfl (XS.iloadN X3.here hx rfl (hb hby d13_18) rfl (XS.iload X3.here hx rfl (hb hby d13_19) rfl (XS.iloadN X3.here hx rfl (hb hby d13_21) rfl (XS.iconst X3.here hx rfl (hb hby d13_22) (XS.aloadN X3.here hx rfl (hb hby d13_23) rfl rfl kk_))))))))))) ?_
  show own_Goes _ _ _ _ _ _ _ T3 (mkF m 24 #[rv o, iv (50 : Int32), iv (39 : Int32), iv (50 : Int32), iv (11 : Int32), .unset] [(.ref o), (.int (2 : Int32)), (.int (39 : Int32)), (.int (11 : Int32)), (.int (39 : Int32))])
  obtain ⟨T4, X4, e4, st4⟩ := getF X3 hx hZ hown (host := "") (Or.inl (own_w hw 57 rfl)) Via.refl e3 p_2 (g := (mkF m 24 #[rv o, iv (50 : Int32), iv (39 : Int32), iv (50 : Int32), iv (11 : Int32), .unset] [(.ref o), (.int (2 : Int32)), (.int (39 : Int32)), (.int (11 : Int32)), (.int (39 : Int32))])) rfl rfl (hb hby d13_24)
  refine own_st st4 ?_
  show own_Goes _ _ _ _ _ _ _ T4 (mkF m 27 #[rv o, iv (50 : Int32), iv (39 : Int32), iv (50 : Int32), iv (11 : Int32), .unset] [(.int (0 : Int32)), (.int (2 : Int32)), (.int (39 : Int32)), (.int (11 : Int32)), (.int (39 : Int32))])
  refine own_st (fun _ kk_ => XS.ishl X4.here hx rfl (hb hby d13_27) rfl (XS.iadd X4.here hx rfl (hb hby d13_28) rfl kk_)) ?_
  show own_Goes _ _ _ _ _ _ _ T4 (mkF m 29 #[rv o, iv (50 : Int32), iv (39 : Int32), iv (50 : Int32), iv (11 : Int32), .unset] [(.int (41 : Int32)), (.int (11 : Int32)), (.int (39 : Int32))])
  obtain ⟨_, _, ⟨T5, L5, k5, n5⟩, -, X5, ⟨Lc5, hQ5, l5, y5, z5⟩, st5⟩ := Jvm.LawKit.callS X4 hx (y := yy11) hown (mvT hZ (own_w hw 95 rfl)) (mvT hZ (own_w hw 96 rfl)) (mvT hZ (own_w hw 97 rfl)) (mvT hZ (own_w hw 98 rfl)) (by decide) (backOf (W := 0) (rmNLc2 l Z a0 hw []  h0 n0 Z0) hZ (own_w hw 98 rfl) (own_w hw 97 rfl) (by decide) (by decide)) (g := (mkF m 29 #[rv o, iv (50 : Int32), iv (39 : Int32), iv (50 : Int32), iv (11 : Int32), .unset] [(.int (41 : Int32)), (.int (11 : Int32)), (.int (39 : Int32))])) rfl (by rw [hml]; rfl) (argsL := [(.int (39 : Int32)), (.int (11 : Int32)), (.int (41 : Int32))]) (rest := []) (lenOf pd_6 rfl) rfl (by show 2 * 0 + _ ≤ _; exact Nat.le_of_eq rfl) (hb hby d13_29) (fun _ _ => ⟨rfl, e4, (by decide : 0 + 0 ≤ _), (by decide : 0 + 0 ≤ _)⟩)
  dsimp only [Pt.U, Pt.locs, Pt.cells, Pt.slots] at X5 l5 y5 z5 st5 hQ5
  subst l5 y5 z5
  obtain ⟨rfl, Nq5, eq5⟩ := hQ5
  have N5 := Fr.app N0 Nq5
  refine own_st st5 ?_
  show own_Goes _ _ _ _ _ _ _ T5 (mkF m 32 #[rv o, iv (50 : Int32), iv (39 : Int32), iv (50 : Int32), iv (11 : Int32), .unset] [(.int (80 : Int32))])
  refine own_st (fun _ kk_ => XS.istore X5.here hx rfl (hb hby d13_32) rfl (l' := #[rv o, iv (50 : Int32), iv (39 : Int32), iv (50 : Int32), iv (11 : Int32), iv (80 : Int32)]) rfl (XS.iload X5.here hx rfl (hb hby d13_34) rfl (X5.ldcInt hx hown (mvT hZ (own_w hw 104 rfl)) (g := (mkF m 36 #[rv o, iv (50 : Int32), iv (39 : Int32), iv (50 : Int32), iv (11 : Int32), iv (80 : Int32)] [(.int (80 : Int32))])) rfl (hb hby d13_36) _ (XS.icmpYes X5.here hx rfl (pc0 := 38) (pc' := 51) rfl (hb hby d13_38) rfl (XT.ii_ne_t (by decide)) (by decide) (by decide) (XS.iload X5.here hx rfl (hb hby d13_51) rfl (XS.aloadN X5.here hx rfl (hb hby d13_53) rfl rfl kk_)))))) ?_
  show own_Goes _ _ _ _ _ _ _ T5 (mkF m 54 #[rv o, iv (50 : Int32), iv (39 : Int32), iv (50 : Int32), iv (11 : Int32), iv (80 : Int32)] [(.ref o), (.int (80 : Int32))])
  obtain ⟨T6, X6, e6, st6⟩ := getF X5 hx hZ hown (host := "") (Or.inl (own_w hw 57 rfl)) Via.refl eq5 p_2 (g := (mkF m 54 #[rv o, iv (50 : Int32), iv (39 : Int32), iv (50 : Int32), iv (11 : Int32), iv (80 : Int32)] [(.ref o), (.int (80 : Int32))])) rfl rfl (hb hby d13_54)
  refine own_st st6 ?_
  show own_Goes _ _ _ _ _ _ _ T6 (mkF m 57 #[rv o, iv (50 : Int32), iv (39 : Int32), iv (50 : Int32), iv (11 : Int32), iv (80 : Int32)] [(.int (0 : Int32)), (.int (80 : Int32))])
  refine own_st (fun _ kk_ => XS.ishr X6.here hx rfl (hb hby d13_57) rfl kk_) ?_
  show own_Goes _ _ _ _ _ _ _ T6 (mkF m 58 #[rv o, iv (50 : Int32), iv (39 : Int32), iv (50 : Int32), iv (11 : Int32), iv (80 : Int32)] [(.int (80 : Int32))])
  refine own_retI X6 hx hlk Bd.returns (hb hby d13_58) (by decide) (by decide) ?_
  show QNCc2 Z o d kd vs1 h0 n0 (some (.int (80 : Int32))) T6.heap _
  rw [e6]
  exact ⟨rfl, N5, rfl⟩
abbrev rRrmECc2 : Room := { frames := 3, cells := 1, slots := 80, locals := 48 }
theorem pn_rmECc2 : plainFor yy14 = true := by first | exact plainFor_of_name (by first | (simp [plainName, overriddenIn]; done) | decide +kernel) | decide +kernel
theorem ef_rmECc2 (m : MethodId) (o : Addr) : entryFrame m #[(.ref o), (.int (50 : Int32))] 3 = (mkF m 0 #[rv o, iv (50 : Int32), .unset] []) := by first | (simp [entryFrame, mkF, argsToLocals, Value.category]; done) | rfl
def QECc2 (Z : State) (o : Addr) (d : Addr) (kd : ClassId) (vs1 : List Value) (cn : Int32) (h0 : Heap) (n0 : Nat) (v_ : Option Value) (h_ : Heap) (L_ : List Loc) : Prop := ∃ y : Addr, ∃ ky : ClassId, (v_ = none) ∧ (Fr n0 L_) ∧ (Keep h0 h_ [o]) ∧ (h0.size ≤ y) ∧ (Exa Z h_ o "java/lang/StringBuilder") ∧ (Fld Z h_ o "java/lang/AbstractStringBuilder" "value" "[B" (.ref y)) ∧ (Fld Z h_ o "java/lang/AbstractStringBuilder" "coder" "B" (.int (0 : Int32))) ∧ (Fld Z h_ o "java/lang/AbstractStringBuilder" "count" "I" (.int cn)) ∧ (Arv Z h_ y ky .byte (80 : Int32) (own_cp vs1 own_z80 (0 : Int32) (0 : Int32) (39 : Int32) (.int (0 : Int32))) (.int (0 : Int32)))
set_option maxRecDepth 65536 in
set_option maxHeartbeats 40000000 in
theorem rmECc2 (l : Launch) (Z : State) (a0 : Array Value) (hw : ∀ d ∈ tables_1, d.before a0 Z = true) (ws : List Jvm.Cond) (o : Addr) (d : Addr) (kd : ClassId) (vs1 : List Value) (cn : Int32) (h0 : Heap) (n0 : Nat) (Z0 : n0 ≤ h0.size) (p_0 : Exa Z h0 o "java/lang/StringBuilder") (p_1 : Fld Z h0 o "java/lang/AbstractStringBuilder" "value" "[B" (.ref d)) (p_2 : Fld Z h0 o "java/lang/AbstractStringBuilder" "coder" "B" (.int (0 : Int32))) (p_3 : Fld Z h0 o "java/lang/AbstractStringBuilder" "count" "I" (.int cn)) (p_4 : n0 ≤ o) (p_5 : Arv Z h0 d kd .byte (39 : Int32) vs1 (.int (0 : Int32))) :
    MetFree l yy14 (head1 (Jvm.Cond.code yy14 jdk_68_method_9_code 3 none :: ws) rRrmECc2) (fun a_ U_ => a_ = #[(.ref o), (.int (50 : Int32))] ∧ Z.Warmed39 U_.vm ∧ U_.heap = h0) (fun _ _ _ _ _ => True) (fun _ U_ o_ U1_ => ∃ v_ L_, o_ = .returned v_ ∧ QECc2 Z o d kd vs1 cn h0 n0 v_ U1_.heap L_ ∧ FrameEnd U_ o_ U1_ L_ rRrmECc2.cells rRrmECc2.slots) := by
  refine MetFree.of_bodySF pn_rmECc2 hisR ?_
  intro p e s m args below meth c s₁ Bd hml0 hP hK
  obtain ⟨rfl, hZ, hh⟩ := hP
  have hx := Bd.exec
  have hby := Bd.bytes
  have hlk : meth.locks = false := Bd.notSynchronized
  have hml : c.maxLocals = 3 := hml0
  have hown : s.vm.findClass "java/lang/AbstractStringBuilder" = some m.cls := findClass_of_methodNamed Bd.named
  have hnm := (name_of_methodNamed Bd.named Bd.method).1
  have X0 : Stand p l e rRrmECc2 s m #[(.ref o), (.int (50 : Int32))] below meth c s₁ [] 0 0 := Stand.of_body Bd
  have e0 : s₁.heap = h0 := by rw [← hh, Bd.state]; rfl
  have N0 := Fr.nil n0
  show own_Goes p e below s (QECc2 Z o d kd vs1 cn h0 n0) rRrmECc2.cells rRrmECc2.slots s₁ (entryFrame m #[(.ref o), (.int (50 : Int32))] 3)
  rw [ef_rmECc2 m o]
  show own_Goes p e below s (QECc2 Z o d kd vs1 cn h0 n0) rRrmECc2.cells rRrmECc2.slots s₁ (mkF m 0 #[rv o, iv (50 : Int32), .unset] [])
  refine own_st (fun _ kk_ => XS.aloadN X0.here hx rfl (hb hby d12_0) rfl rfl kk_) ?_
  show own_Goes _ _ _ _ _ _ _ s₁ (mkF m 1 #[rv o, iv (50 : Int32), .unset] [(.ref o)])
  obtain ⟨T1, X1, e1, st1⟩ := getF X0 hx hZ hown (host := "") (Or.inl (own_w hw 55 rfl)) Via.refl e0 p_1 (g := (mkF m 1 #[rv o, iv (50 : Int32), .unset] [(.ref o)])) rfl rfl (hb hby d12_1)
  refine own_st st1 ?_
  show own_Goes _ _ _ _ _ _ _ T1 (mkF m 4 #[rv o, iv (50 : Int32), .unset] [(.ref d)])
  obtain ⟨cl2, Ar2, -, Sz2, Nn2, -, -⟩ := id p_5
  refine own_st (fun _ kk_ => X1.arraylength hx (by rw [e1]; exact Ar2.1) (State.isArrayOf_alike hZ.alike Ar2.2.1) (g := (mkF m 4 #[rv o, iv (50 : Int32), .unset] [(.ref d)])) rfl rfl (hb hby d12_4) _ kk_) ?_
  rw [len_of Sz2 Nn2]
  show own_Goes _ _ _ _ _ _ _ T1 (mkF m 5 #[rv o, iv (50 : Int32), .unset] [(.int (39 : Int32))])
  refine own_st (fun _ kk_ => XS.aloadN X1.here hx rfl (hb hby d12_5) rfl rfl kk_) ?_
  show own_Goes _ _ _ _ _ _ _ T1 (mkF m 6 #[rv o, iv (50 : Int32), .unset] [(.ref o), (.int (39 : Int32))])
  obtain ⟨T3, X3, e3, st3⟩ := getF X1 hx hZ hown (host := "") (Or.inl (own_w hw 57 rfl)) Via.refl e1 p_2 (g := (mkF m 6 #[rv o, iv (50 : Int32), .unset] [(.ref o), (.int (39 : Int32))])) rfl rfl (hb hby d12_6)
  refine own_st st3 ?_
  show own_Goes _ _ _ _ _ _ _ T3 (mkF m 9 #[rv o, iv (50 : Int32), .unset] [(.int (0 : Int32)), (.int (39 : Int32))])
  refine own_st (fun _ kk_ => XS.ishr X3.here hx rfl (hb hby d12_9) rfl (XS.istoreN X3.here hx rfl (hb hby d12_10) rfl (l' := #[rv o, iv (50 : Int32), iv (39 : Int32)]) rfl (XS.iloadN X3.here hx rfl (hb hby d12_11) rfl (XS.iloadN X3.here hx rfl (hb hby d12_12) rfl (XS.isub X3.here hx rfl (hb hby d12_13) rfl (XS.ifNo X3.here hx rfl (hb hby d12_14) rfl (XT.i0_le_f (by decide)) (XS.aloadN X3.here hx rfl (hb hby d12_17) rfl rfl (XS.aloadN X3.here hx rfl (hb hby d12_18) rfl rfl kk_)))))))) ?_
  show own_Goes _ _ _ _ _ _ _ T3 (mkF m 19 #[rv o, iv (50 : Int32), iv (39 : Int32)] [(.ref o), (.ref o)])
  obtain ⟨T4, X4, e4, st4⟩ := getF X3 hx hZ hown (host := "") (Or.inl (own_w hw 55 rfl)) Via.refl e3 p_1 (g := (mkF m 19 #[rv o, iv (50 : Int32), iv (39 : Int32)] [(.ref o), (.ref o)])) rfl rfl (hb hby d12_19)
  refine own_st st4 ?_
  show own_Goes _ _ _ _ _ _ _ T4 (mkF m 22 #[rv o, iv (50 : Int32), iv (39 : Int32)] [(.ref d), (.ref o)])
  refine own_st (fun _ kk_ => XS.aloadN X4.here hx rfl (hb hby d12_22) rfl rfl (XS.iloadN X4.here hx rfl (hb hby d12_23) rfl kk_)) ?_
  show own_Goes _ _ _ _ _ _ _ T4 (mkF m 24 #[rv o, iv (50 : Int32), iv (39 : Int32)] [(.int (50 : Int32)), (.ref o), (.ref d), (.ref o)])
  obtain ⟨cq5, q5, q5'⟩ := p_0.cell
  obtain ⟨_, _, ⟨T5, L5, k5, n5⟩, -, X5, ⟨Lc5, hQ5, l5, y5, z5⟩, st5⟩ := X4.privateBack hx (y := yy12) hown (mvT hZ (own_w hw 90 rfl)) (mvT hZ (own_w hw 91 rfl)) (own_selp (mvT hZ (own_w hw 93 rfl)) (Cond.privateMethod_at (mvP hZ (own_w hw 92 rfl) (args := #[]))) (mvT hZ (own_w hw 91 rfl)) (by decide)) (Cond.privateMethod_at (mvP hZ (own_w hw 92 rfl) (args := #[]))) (mvT hZ (own_w hw 94 rfl)) (by decide) (backOf (W := 2) (rmNCc2 l Z a0 hw [] (o) (d) (kd) (vs1) h0 n0 Z0 p_0 p_1 p_2 p_5) hZ (own_w hw 94 rfl) (own_w hw 51 rfl) (by decide) (by decide)) (g := (mkF m 24 #[rv o, iv (50 : Int32), iv (39 : Int32)] [(.int (50 : Int32)), (.ref o), (.ref d), (.ref o)])) rfl (by rw [hml]; rfl) (Steps.refl _) (a := o) (by rw [e4]; exact q5) q5' (argsL := [(.int (50 : Int32))]) (rest := [(.ref d), (.ref o)]) (lenOf pd_7 rfl) rfl (by show 2 * 0 + _ ≤ _; exact Nat.le_of_eq rfl) (hb hby d12_24) (fun _ _ => ⟨rfl, e4, (by decide : 0 + 0 ≤ _), (by decide : 0 + 0 ≤ _)⟩)
  dsimp only [Pt.U, Pt.locs, Pt.cells, Pt.slots] at X5 l5 y5 z5 st5 hQ5
  subst l5 y5 z5
  obtain ⟨rfl, Nq5, eq5⟩ := hQ5
  have N5 := Fr.app N0 Nq5
  refine own_st (fun _ kk_ => st5.trans kk_) ?_
  show own_Goes _ _ _ _ _ _ _ T5 (mkF m 27 #[rv o, iv (50 : Int32), iv (39 : Int32)] [(.int (80 : Int32)), (.ref d), (.ref o)])
  refine own_st (fun _ kk_ => XS.aloadN X5.here hx rfl (hb hby d12_27) rfl rfl kk_) ?_
  show own_Goes _ _ _ _ _ _ _ T5 (mkF m 28 #[rv o, iv (50 : Int32), iv (39 : Int32)] [(.ref o), (.int (80 : Int32)), (.ref d), (.ref o)])
  obtain ⟨T6, X6, e6, st6⟩ := getF X5 hx hZ hown (host := "") (Or.inl (own_w hw 57 rfl)) Via.refl eq5 p_2 (g := (mkF m 28 #[rv o, iv (50 : Int32), iv (39 : Int32)] [(.ref o), (.int (80 : Int32)), (.ref d), (.ref o)])) rfl rfl (hb hby d12_28)
  refine own_st st6 ?_
  show own_Goes _ _ _ _ _ _ _ T6 (mkF m 31 #[rv o, iv (50 : Int32), iv (39 : Int32)] [(.int (0 : Int32)), (.int (80 : Int32)), (.ref d), (.ref o)])
  refine own_st (fun _ kk_ => XS.ishl X6.here hx rfl (hb hby d12_31) rfl kk_) ?_
  show own_Goes _ _ _ _ _ _ _ T6 (mkF m 32 #[rv o, iv (50 : Int32), iv (39 : Int32)] [(.int (80 : Int32)), (.ref d), (.ref o)])
  obtain ⟨_, _, ⟨T7, L7, k7, n7⟩, -, X7, ⟨Lc7, hQ7, l7, y7, z7⟩, st7⟩ := Jvm.LawKit.callS X6 hx (y := yy13) hown (mvT hZ (own_w hw 105 rfl)) (mvT hZ (own_w hw 106 rfl)) (mvT hZ (own_w hw 107 rfl)) (mvT hZ (own_w hw 108 rfl)) (by decide) (backOf (W := 1) (rmcp39_80 l Z a0 hw [] (d) (kd) (vs1) h0 n0 Z0 p_5) hZ (own_w hw 108 rfl) (own_w hw 107 rfl) (by decide) (by decide)) (g := (mkF m 32 #[rv o, iv (50 : Int32), iv (39 : Int32)] [(.int (80 : Int32)), (.ref d), (.ref o)])) rfl (by rw [hml]; rfl) (argsL := [(.ref d), (.int (80 : Int32))]) (rest := [(.ref o)]) (lenOf pd_8 rfl) rfl (by show 2 * 0 + _ ≤ _; exact Nat.le_of_eq rfl) (hb hby d12_32) (fun _ _ => ⟨rfl, e6, (by decide : 0 + 1 ≤ _), (by decide : 0 + 80 ≤ _)⟩)
  dsimp only [Pt.U, Pt.locs, Pt.cells, Pt.slots] at X7 l7 y7 z7 st7 hQ7
  subst l7 y7 z7
  obtain ⟨x7_y, x7_ky, rfl, Nq7, Kq7, u7_0, u7_1⟩ := hQ7
  have N7 := Fr.app N5 Nq7
  have f7_0 := p_0.keep Kq7
  have f7_1 := p_1.keep Kq7 nin0
  have f7_2 := p_2.keep Kq7 nin0
  have f7_3 := p_3.keep Kq7 nin0
  have f7_4 := p_5.keep Kq7 nin0
  have Zs7 : n0 ≤ T7.heap.size := Nat.le_trans Z0 Kq7.1
  have K7 := (Keep.refl h0 [o]).trans Kq7 all0
  have ne7_o : o ≠ x7_y := Nat.ne_of_lt (Nat.lt_of_lt_of_le p_0.lt u7_0)
  have ne7_d : d ≠ x7_y := Nat.ne_of_lt (Nat.lt_of_lt_of_le p_5.lt u7_0)
  have sz7_y : h0.size ≤ x7_y := Nat.le_trans (Keep.refl h0 [o]).1 u7_0
  have gg7_y : n0 ≤ x7_y := Nat.le_trans Z0 u7_0
  refine own_st st7 ?_
  show own_Goes _ _ _ _ _ _ _ T7 (mkF m 35 #[rv o, iv (50 : Int32), iv (39 : Int32)] [(.ref x7_y), (.ref o)])
  obtain ⟨T8, h8, X8, e8, W8, st8⟩ := putF X7 hx hZ hown (host := "") (Or.inl (own_w hw 55 rfl)) Via.refl rfl f7_1 f7_0 (Or.inl (own_w hw 56 rfl)) (own_w hw 42 rfl) (ty := (.array .byte)) (by decide) rfl rfl (g := (mkF m 35 #[rv o, iv (50 : Int32), iv (39 : Int32)] [(.ref x7_y), (.ref o)])) rfl rfl (hb hby d12_35)
  have fw8 : Fld Z h8 o "java/lang/AbstractStringBuilder" "value" "[B" (.ref x7_y) := f7_1.same W8
  have f8_0 := f7_0.wr W8
  have f8_2 := f7_2.other W8 (Or.inr (slot_ne (Or.inl (own_w hw 58 rfl)) (Or.inl (own_w hw 56 rfl)) (by decide) (t := .byte) (t' := (.array .byte)) (by decide) (by decide)))
  have f8_3 := f7_3.other W8 (Or.inr (slot_ne (Or.inl (own_w hw 84 rfl)) (Or.inl (own_w hw 56 rfl)) (by decide) (t := .int) (t' := (.array .byte)) (by decide) (by decide)))
  have f8_5 := u7_1.other W8 (Ne.symm ne7_o)
  have Zs8 : n0 ≤ h8.size := Nat.le_trans Zs7 (Nat.le_of_eq W8.size.symm)
  have K8 := K7.wr W8 (Or.inl (List.mem_of_getElem? (i := 0) rfl))
  have N8 := Fr.snoc X8 N7 p_4
  refine own_st st8 ?_
  show own_Goes _ _ _ _ _ _ _ T8 (mkF m 38 #[rv o, iv (50 : Int32), iv (39 : Int32)] [])
  refine own_ret0 X8 hx hlk Bd.returns (hb hby d12_38) (by decide) (by decide) ?_
  show QECc2 Z o d kd vs1 cn h0 n0 none T8.heap _
  rw [e8]
  exact ⟨x7_y, x7_ky, rfl, N8, K8, sz7_y, f8_0, fw8, f8_2, f8_3, f8_5⟩
abbrev rRrmAAc2 : Room := { frames := 4, cells := 1, slots := 80, locals := 62 }
theorem pn_rmAAc2 : plainFor yy15 = true := by first | exact plainFor_of_name (by first | (simp [plainName, overriddenIn]; done) | decide +kernel) | decide +kernel
theorem ef_rmAAc2 (m : MethodId) (o : Addr) (a : Addr) : entryFrame m #[(.ref o), (.ref a)] 3 = (mkF m 0 #[rv o, rv a, .unset] []) := by first | (simp [entryFrame, mkF, argsToLocals, Value.category]; done) | rfl
def QAAc2 (Z : State) (o : Addr) (a : Addr) (d : Addr) (kd : ClassId) (vs1 : List Value) (b : Addr) (kb : ClassId) (vs2 : List Value) (cs : Int32) (h0 : Heap) (n0 : Nat) (v_ : Option Value) (h_ : Heap) (L_ : List Loc) : Prop := ∃ y : Addr, ∃ ky : ClassId, (v_ = some (.ref o)) ∧ (Fr n0 L_) ∧ (Keep h0 h_ [o]) ∧ (h0.size ≤ y) ∧ (Exa Z h_ o "java/lang/StringBuilder") ∧ (Fld Z h_ o "java/lang/AbstractStringBuilder" "value" "[B" (.ref y)) ∧ (Fld Z h_ o "java/lang/AbstractStringBuilder" "coder" "B" (.int (0 : Int32))) ∧ (Fld Z h_ o "java/lang/AbstractStringBuilder" "count" "I" (.int (50 : Int32))) ∧ (Arv Z h_ y ky .byte (80 : Int32) (own_cp vs2 (own_cp vs1 own_z80 (0 : Int32) (0 : Int32) (39 : Int32) (.int (0 : Int32))) (0 : Int32) (39 : Int32) (11 : Int32) (.int (0 : Int32))) (.int (0 : Int32)))
set_option maxRecDepth 65536 in
set_option maxHeartbeats 40000000 in
theorem rmAAc2 (l : Launch) (Z : State) (a0 : Array Value) (hw : ∀ d ∈ tables_1, d.before a0 Z = true) (ws : List Jvm.Cond) (o : Addr) (a : Addr) (d : Addr) (kd : ClassId) (vs1 : List Value) (b : Addr) (kb : ClassId) (vs2 : List Value) (cs : Int32) (h0 : Heap) (n0 : Nat) (Z0 : n0 ≤ h0.size) (p_0 : Exa Z h0 o "java/lang/StringBuilder") (p_1 : Fld Z h0 o "java/lang/AbstractStringBuilder" "value" "[B" (.ref d)) (p_2 : Fld Z h0 o "java/lang/AbstractStringBuilder" "coder" "B" (.int (0 : Int32))) (p_3 : Fld Z h0 o "java/lang/AbstractStringBuilder" "count" "I" (.int (39 : Int32))) (p_4 : n0 ≤ o) (p_5 : Arv Z h0 d kd .byte (39 : Int32) vs1 (.int (0 : Int32))) (p_6 : Exa Z h0 a "java/lang/String") (p_7 : Fld Z h0 a "java/lang/String" "coder" "B" (.int (0 : Int32))) (p_8 : Fld Z h0 a "java/lang/String" "value" "[B" (.ref b)) (p_9 : Arv Z h0 b kb .byte (11 : Int32) vs2 (.int (0 : Int32))) (p_10 : Sta Z h0 "java/lang/String" "COMPACT_STRINGS" "Z" (.int cs)) (hcs : ¬ cs = (0 : Int32)) (p_12 : o ≠ a) (p_13 : o ≠ b) :
    MetFree l yy15 (head1 (Jvm.Cond.code yy15 jdk_68_method_22_code 3 (some (.object "java/lang/AbstractStringBuilder")) :: ws) rRrmAAc2) (fun a_ U_ => a_ = #[(.ref o), (.ref a)] ∧ Z.Warmed39 U_.vm ∧ U_.heap = h0) (fun _ _ _ _ _ => True) (fun _ U_ o_ U1_ => ∃ v_ L_, o_ = .returned v_ ∧ QAAc2 Z o a d kd vs1 b kb vs2 cs h0 n0 v_ U1_.heap L_ ∧ FrameEnd U_ o_ U1_ L_ rRrmAAc2.cells rRrmAAc2.slots) := by
  refine MetFree.of_bodySF pn_rmAAc2 hisR ?_
  intro p e s m args below meth c s₁ Bd hml0 hP hK
  obtain ⟨rfl, hZ, hh⟩ := hP
  have hx := Bd.exec
  have hby := Bd.bytes
  have hlk : meth.locks = false := Bd.notSynchronized
  have hml : c.maxLocals = 3 := hml0
  have hown : s.vm.findClass "java/lang/AbstractStringBuilder" = some m.cls := findClass_of_methodNamed Bd.named
  have hnm := (name_of_methodNamed Bd.named Bd.method).1
  have X0 : Stand p l e rRrmAAc2 s m #[(.ref o), (.ref a)] below meth c s₁ [] 0 0 := Stand.of_body Bd
  have e0 : s₁.heap = h0 := by rw [← hh, Bd.state]; rfl
  have N0 := Fr.nil n0
  show own_Goes p e below s (QAAc2 Z o a d kd vs1 b kb vs2 cs h0 n0) rRrmAAc2.cells rRrmAAc2.slots s₁ (entryFrame m #[(.ref o), (.ref a)] 3)
  rw [ef_rmAAc2 m o a]
  show own_Goes p e below s (QAAc2 Z o a d kd vs1 b kb vs2 cs h0 n0) rRrmAAc2.cells rRrmAAc2.slots s₁ (mkF m 0 #[rv o, rv a, .unset] [])
  refine own_st (fun _ kk_ => XS.aloadN X0.here hx rfl (hb hby d9_0) rfl rfl (XS.ifnonnullYes X0.here hx rfl (pc0 := 1) (pc' := 9) rfl (hb hby d9_1) rfl (by decide) (by decide) (XS.aloadN X0.here hx rfl (hb hby d9_9) rfl rfl kk_))) ?_
  show own_Goes _ _ _ _ _ _ _ s₁ (mkF m 10 #[rv o, rv a, .unset] [(.ref a)])
  obtain ⟨cq1, kq1, q1a, q1b, q1c⟩ := isOf hZ e0 p_6
  obtain ⟨_, _, ⟨T1, L1, k1, n1⟩, -, X1, ⟨Lc1, hQ1, l1, y1, z1⟩, st1⟩ := X0.virtualBack hx (y := yy1) (z := yy1) hown (mvT hZ (own_w hw 70 rfl)) (mvT hZ (own_w hw 71 rfl)) (notFace_of_selects (args := #[]) (mvT hZ (own_w hw 73 rfl))) (mvT hZ (own_w hw 73 rfl)) (mvT hZ (own_w hw 72 rfl)) (by decide) (backOf (W := 0) (rm10 l Z a0 hw [] (a) (b) (kb) ((11 : Int32)) (vs2) (cs) h0 n0 Z0 p_6 p_7 p_8 p_9 p_10 (by assumption)) hZ (own_w hw 74 rfl) (own_w hw 19 rfl) (by decide) (by decide)) q1a q1c (g := (mkF m 10 #[rv o, rv a, .unset] [(.ref a)])) rfl (by rw [hml]; rfl) (Steps.refl _) (argsL := []) (rest := []) (lenOf pd_9 rfl) rfl (by show 2 * 0 + _ ≤ _; exact Nat.le_of_eq rfl) (hb hby d9_10) (fun _ _ => ⟨rfl, e0, (by decide : 0 + 0 ≤ _), (by decide : 0 + 0 ≤ _)⟩)
  dsimp only [Pt.U, Pt.locs, Pt.cells, Pt.slots] at X1 l1 y1 z1 st1 hQ1
  subst l1 y1 z1
  obtain ⟨rfl, Nq1, eq1⟩ := hQ1
  have N1 := Fr.app N0 Nq1
  refine own_st (fun _ kk_ => st1.trans kk_) ?_
  show own_Goes _ _ _ _ _ _ _ T1 (mkF m 13 #[rv o, rv a, .unset] [(.int (11 : Int32))])
  refine own_st (fun _ kk_ => XS.istoreN X1.here hx rfl (hb hby d9_13) rfl (l' := #[rv o, rv a, iv (11 : Int32)]) rfl (XS.aloadN X1.here hx rfl (hb hby d9_14) rfl rfl (XS.aloadN X1.here hx rfl (hb hby d9_15) rfl rfl kk_))) ?_
  show own_Goes _ _ _ _ _ _ _ T1 (mkF m 16 #[rv o, rv a, iv (11 : Int32)] [(.ref o), (.ref o)])
  obtain ⟨T2, X2, e2, st2⟩ := getF X1 hx hZ hown (host := "") (Or.inl (own_w hw 83 rfl)) Via.refl eq1 p_3 (g := (mkF m 16 #[rv o, rv a, iv (11 : Int32)] [(.ref o), (.ref o)])) rfl rfl (hb hby d9_16)
  refine own_st st2 ?_
  show own_Goes _ _ _ _ _ _ _ T2 (mkF m 19 #[rv o, rv a, iv (11 : Int32)] [(.int (39 : Int32)), (.ref o)])
  refine own_st (fun _ kk_ => XS.iloadN X2.here hx rfl (hb hby d9_19) rfl (XS.iadd X2.here hx rfl (hb hby d9_20) rfl kk_)) ?_
  show own_Goes _ _ _ _ _ _ _ T2 (mkF m 21 #[rv o, rv a, iv (11 : Int32)] [(.int (50 : Int32)), (.ref o)])
  obtain ⟨cq3, q3, q3'⟩ := p_0.cell
  obtain ⟨_, _, ⟨T3, L3, k3, n3⟩, -, X3, ⟨Lc3, hQ3, l3, y3, z3⟩, st3⟩ := X2.privateBack hx (y := yy14) hown (mvT hZ (own_w hw 85 rfl)) (mvT hZ (own_w hw 86 rfl)) (own_selp (mvT hZ (own_w hw 88 rfl)) (Cond.privateMethod_at (mvP hZ (own_w hw 87 rfl) (args := #[]))) (mvT hZ (own_w hw 86 rfl)) (by decide)) (Cond.privateMethod_at (mvP hZ (own_w hw 87 rfl) (args := #[]))) (mvT hZ (own_w hw 89 rfl)) (by decide) (backOf (W := 0) (rmECc2 l Z a0 hw [] (o) (d) (kd) (vs1) ((39 : Int32)) h0 n0 Z0 p_0 p_1 p_2 p_3 p_4 p_5) hZ (own_w hw 89 rfl) (own_w hw 51 rfl) (by decide) (by decide)) (g := (mkF m 21 #[rv o, rv a, iv (11 : Int32)] [(.int (50 : Int32)), (.ref o)])) rfl (by rw [hml]; rfl) (Steps.refl _) (a := o) (by rw [e2]; exact q3) q3' (argsL := [(.int (50 : Int32))]) (rest := []) (lenOf pd_2 rfl) rfl (by show 2 * 0 + _ ≤ _; exact Nat.le_of_eq rfl) (hb hby d9_21) (fun _ _ => ⟨rfl, e2, (by decide : 0 + 1 ≤ _), (by decide : 0 + 80 ≤ _)⟩)
  dsimp only [Pt.U, Pt.locs, Pt.cells, Pt.slots] at X3 l3 y3 z3 st3 hQ3
  subst l3 y3 z3
  obtain ⟨x3_y, x3_ky, rfl, Nq3, Kq3, u3_0, u3_1, u3_2, u3_3, u3_4, u3_5⟩ := hQ3
  have N3 := Fr.app N1 Nq3
  have f3_0 := p_0.keep Kq3
  have f3_5 := p_6.keep Kq3
  have f3_6 := p_7.keep Kq3 (ninS (Ne.symm p_12) nin0)
  have f3_7 := p_8.keep Kq3 (ninS (Ne.symm p_12) nin0)
  have f3_8 := p_9.keep Kq3 (ninS (Ne.symm p_13) nin0)
  have f3_9 := own_Sta_keep p_10 Kq3 (nsS p_0.nostat ns0)
  have Zs3 : n0 ≤ T3.heap.size := Nat.le_trans Z0 Kq3.1
  have K3 := (Keep.refl h0 [o]).trans Kq3 (allS (Or.inl (List.mem_of_getElem? (i := 0) rfl)) all0)
  have ne3_o : o ≠ x3_y := Nat.ne_of_lt (Nat.lt_of_lt_of_le p_0.lt u3_0)
  have ne3_d : d ≠ x3_y := Nat.ne_of_lt (Nat.lt_of_lt_of_le p_5.lt u3_0)
  have ne3_a : a ≠ x3_y := Nat.ne_of_lt (Nat.lt_of_lt_of_le p_6.lt u3_0)
  have ne3_b : b ≠ x3_y := Nat.ne_of_lt (Nat.lt_of_lt_of_le p_9.lt u3_0)
  have sz3_y : h0.size ≤ x3_y := Nat.le_trans (Keep.refl h0 [o]).1 u3_0
  have gg3_y : n0 ≤ x3_y := Nat.le_trans Z0 u3_0
  refine own_st (fun _ kk_ => st3.trans kk_) ?_
  show own_Goes _ _ _ _ _ _ _ T3 (mkF m 24 #[rv o, rv a, iv (11 : Int32)] [])
  refine own_st (fun _ kk_ => XS.aloadN X3.here hx rfl (hb hby d9_24) rfl rfl (XS.aloadN X3.here hx rfl (hb hby d9_25) rfl rfl kk_)) ?_
  show own_Goes _ _ _ _ _ _ _ T3 (mkF m 26 #[rv o, rv a, iv (11 : Int32)] [(.ref o), (.ref o)])
  obtain ⟨T4, X4, e4, st4⟩ := getF X3 hx hZ hown (host := "") (Or.inl (own_w hw 83 rfl)) Via.refl rfl u3_4 (g := (mkF m 26 #[rv o, rv a, iv (11 : Int32)] [(.ref o), (.ref o)])) rfl rfl (hb hby d9_26)
  refine own_st st4 ?_
  show own_Goes _ _ _ _ _ _ _ T4 (mkF m 29 #[rv o, rv a, iv (11 : Int32)] [(.int (39 : Int32)), (.ref o)])
  refine own_st (fun _ kk_ => XS.aloadN X4.here hx rfl (hb hby d9_29) rfl rfl kk_) ?_
  show own_Goes _ _ _ _ _ _ _ T4 (mkF m 30 #[rv o, rv a, iv (11 : Int32)] [(.ref a), (.int (39 : Int32)), (.ref o)])
  obtain ⟨cq5, q5, q5'⟩ := u3_1.cell
  obtain ⟨_, _, ⟨T5, L5, k5, n5⟩, -, X5, ⟨Lc5, hQ5, l5, y5, z5⟩, st5⟩ := X4.privateBack hx (y := yy10) hown (mvT hZ (own_w hw 116 rfl)) (mvT hZ (own_w hw 117 rfl)) (own_selp (mvT hZ (own_w hw 119 rfl)) (Cond.privateMethod_at (mvP hZ (own_w hw 118 rfl) (args := #[]))) (mvT hZ (own_w hw 117 rfl)) (by decide)) (Cond.privateMethod_at (mvP hZ (own_w hw 118 rfl) (args := #[]))) (mvT hZ (own_w hw 120 rfl)) (by decide) (backOf (W := 0) (rmPSc2 l Z a0 hw [] (o) (a) (x3_y) (x3_ky) ((own_cp vs1 own_z80 (0 : Int32) (0 : Int32) (39 : Int32) (.int (0 : Int32)))) (b) (kb) (vs2) (cs) T3.heap n0 Zs3 u3_1 u3_2 u3_3 f3_5 f3_6 f3_7 f3_8 f3_9 (by assumption) u3_5 gg3_y (Nat.le_of_ble_eq_true rfl)) hZ (own_w hw 120 rfl) (own_w hw 51 rfl) (by decide) (by decide)) (g := (mkF m 30 #[rv o, rv a, iv (11 : Int32)] [(.ref a), (.int (39 : Int32)), (.ref o)])) rfl (by rw [hml]; rfl) (Steps.refl _) (a := o) (by rw [e4]; exact q5) q5' (argsL := [(.int (39 : Int32)), (.ref a)]) (rest := []) (lenOf pd_10 rfl) rfl (by show 2 * 0 + _ ≤ _; exact Nat.le_of_eq rfl) (hb hby d9_30) (fun _ _ => ⟨rfl, e4, (by decide : 1 + 0 ≤ _), (by decide : 80 + 0 ≤ _)⟩)
  dsimp only [Pt.U, Pt.locs, Pt.cells, Pt.slots] at X5 l5 y5 z5 st5 hQ5
  subst l5 y5 z5
  obtain ⟨rfl, Nq5, Kq5, u5_0⟩ := hQ5
  have N5 := Fr.app N3 Nq5
  have f5_0 := u3_1.keep Kq5
  have f5_1 := f3_5.keep Kq5
  have f5_2 := f3_6.keep Kq5 (ninS ne3_a nin0)
  have f5_3 := f3_7.keep Kq5 (ninS ne3_a nin0)
  have f5_4 := f3_8.keep Kq5 (ninS ne3_b nin0)
  have f5_5 := own_Sta_keep f3_9 Kq5 (nsS u3_5.nostat ns0)
  have f5_6 := u3_2.keep Kq5 (ninS ne3_o nin0)
  have f5_7 := u3_3.keep Kq5 (ninS ne3_o nin0)
  have f5_8 := u3_4.keep Kq5 (ninS ne3_o nin0)
  have Zs5 : n0 ≤ T5.heap.size := Nat.le_trans Zs3 Kq5.1
  have K5 := K3.trans Kq5 (allS (Or.inr sz3_y) all0)
  refine own_st (fun _ kk_ => st5.trans kk_) ?_
  show own_Goes _ _ _ _ _ _ _ T5 (mkF m 33 #[rv o, rv a, iv (11 : Int32)] [])
  refine own_st (fun _ kk_ => XS.aloadN X5.here hx rfl (hb hby d9_33) rfl rfl (XS.dup X5.here hx rfl (hb hby d9_34) rfl rfl kk_)) ?_
  show own_Goes _ _ _ _ _ _ _ T5 (mkF m 35 #[rv o, rv a, iv (11 : Int32)] [(.ref o), (.ref o)])
  obtain ⟨T6, X6, e6, st6⟩ := getF X5 hx hZ hown (host := "") (Or.inl (own_w hw 83 rfl)) Via.refl rfl f5_8 (g := (mkF m 35 #[rv o, rv a, iv (11 : Int32)] [(.ref o), (.ref o)])) rfl rfl (hb hby d9_35)
  refine own_st st6 ?_
  show own_Goes _ _ _ _ _ _ _ T6 (mkF m 38 #[rv o, rv a, iv (11 : Int32)] [(.int (39 : Int32)), (.ref o)])
  refine own_st (fun _ kk_ => XS.iloadN X6.here hx rfl (hb hby d9_38) rfl (XS.iadd X6.here hx rfl (hb hby d9_39) rfl kk_)) ?_
  show own_Goes _ _ _ _ _ _ _ T6 (mkF m 40 #[rv o, rv a, iv (11 : Int32)] [(.int (50 : Int32)), (.ref o)])
  obtain ⟨T7, h7, X7, e7, W7, st7⟩ := putF X6 hx hZ hown (host := "") (Or.inl (own_w hw 83 rfl)) Via.refl e6 f5_8 f5_0 (Or.inl (own_w hw 84 rfl)) (own_w hw 42 rfl) (ty := .int) (by decide) rfl rfl (g := (mkF m 40 #[rv o, rv a, iv (11 : Int32)] [(.int (50 : Int32)), (.ref o)])) rfl rfl (hb hby d9_40)
  have fw7 : Fld Z h7 o "java/lang/AbstractStringBuilder" "count" "I" (.int (50 : Int32)) := f5_8.same W7
  have f7_0 := f5_0.wr W7
  have f7_1 := f5_1.wr W7
  have f7_2 := f5_2.other W7 (Or.inl (Ne.symm p_12))
  have f7_3 := f5_3.other W7 (Or.inl (Ne.symm p_12))
  have f7_4 := f5_4.other W7 (Ne.symm p_13)
  have f7_5 := f5_5.wr W7
  have f7_6 := f5_6.other W7 (Or.inr (slot_ne (Or.inl (own_w hw 56 rfl)) (Or.inl (own_w hw 84 rfl)) (by decide) (t := (.array .byte)) (t' := .int) (by decide) (by decide)))
  have f7_7 := f5_7.other W7 (Or.inr (slot_ne (Or.inl (own_w hw 58 rfl)) (Or.inl (own_w hw 84 rfl)) (by decide) (t := .byte) (t' := .int) (by decide) (by decide)))
  have f7_9 := u5_0.other W7 (Ne.symm ne3_o)
  have Zs7 : n0 ≤ h7.size := Nat.le_trans Zs5 (Nat.le_of_eq W7.size.symm)
  have K7 := K5.wr W7 (Or.inl (List.mem_of_getElem? (i := 0) rfl))
  have N7 := Fr.snoc X7 N5 p_4
  refine own_st st7 ?_
  show own_Goes _ _ _ _ _ _ _ T7 (mkF m 43 #[rv o, rv a, iv (11 : Int32)] [])
  refine own_st (fun _ kk_ => XS.aloadN X7.here hx rfl (hb hby d9_43) rfl rfl kk_) ?_
  show own_Goes _ _ _ _ _ _ _ T7 (mkF m 44 #[rv o, rv a, iv (11 : Int32)] [(.ref o)])
  refine own_retA X7 hx hlk rfl Bd.returns rfl (hb hby d9_44) (by decide) (by decide) ?_
  show QAAc2 Z o a d kd vs1 b kb vs2 cs h0 n0 (some (.ref o)) T7.heap _
  rw [e7]
  exact ⟨x3_y, x3_ky, rfl, N7, K7, sz3_y, f7_0, f7_6, f7_7, fw7, f7_9⟩
abbrev rRrmSAc2 : Room := { frames := 5, cells := 1, slots := 80, locals := 76 }
theorem pn_rmSAc2 : plainFor yy16 = true := by first | exact plainFor_of_name (by first | (simp [plainName, overriddenIn]; done) | decide +kernel) | decide +kernel
theorem ef_rmSAc2 (m : MethodId) (o : Addr) (a : Addr) : entryFrame m #[(.ref o), (.ref a)] 2 = (mkF m 0 #[rv o, rv a] []) := by first | (simp [entryFrame, mkF, argsToLocals, Value.category]; done) | rfl
def QSAc2 (Z : State) (o : Addr) (a : Addr) (d : Addr) (kd : ClassId) (vs1 : List Value) (b : Addr) (kb : ClassId) (vs2 : List Value) (cs : Int32) (h0 : Heap) (n0 : Nat) (v_ : Option Value) (h_ : Heap) (L_ : List Loc) : Prop := ∃ y : Addr, ∃ ky : ClassId, (v_ = some (.ref o)) ∧ (Fr n0 L_) ∧ (Keep h0 h_ [o]) ∧ (h0.size ≤ y) ∧ (Exa Z h_ o "java/lang/StringBuilder") ∧ (Fld Z h_ o "java/lang/AbstractStringBuilder" "value" "[B" (.ref y)) ∧ (Fld Z h_ o "java/lang/AbstractStringBuilder" "coder" "B" (.int (0 : Int32))) ∧ (Fld Z h_ o "java/lang/AbstractStringBuilder" "count" "I" (.int (50 : Int32))) ∧ (Arv Z h_ y ky .byte (80 : Int32) (own_cp vs2 (own_cp vs1 own_z80 (0 : Int32) (0 : Int32) (39 : Int32) (.int (0 : Int32))) (0 : Int32) (39 : Int32) (11 : Int32) (.int (0 : Int32))) (.int (0 : Int32)))
set_option maxRecDepth 65536 in
set_option maxHeartbeats 40000000 in
theorem rmSAc2 (l : Launch) (Z : State) (a0 : Array Value) (hw : ∀ d ∈ tables_1, d.before a0 Z = true) (ws : List Jvm.Cond) (o : Addr) (a : Addr) (d : Addr) (kd : ClassId) (vs1 : List Value) (b : Addr) (kb : ClassId) (vs2 : List Value) (cs : Int32) (h0 : Heap) (n0 : Nat) (Z0 : n0 ≤ h0.size) (p_0 : Exa Z h0 o "java/lang/StringBuilder") (p_1 : Fld Z h0 o "java/lang/AbstractStringBuilder" "value" "[B" (.ref d)) (p_2 : Fld Z h0 o "java/lang/AbstractStringBuilder" "coder" "B" (.int (0 : Int32))) (p_3 : Fld Z h0 o "java/lang/AbstractStringBuilder" "count" "I" (.int (39 : Int32))) (p_4 : n0 ≤ o) (p_5 : Arv Z h0 d kd .byte (39 : Int32) vs1 (.int (0 : Int32))) (p_6 : Exa Z h0 a "java/lang/String") (p_7 : Fld Z h0 a "java/lang/String" "coder" "B" (.int (0 : Int32))) (p_8 : Fld Z h0 a "java/lang/String" "value" "[B" (.ref b)) (p_9 : Arv Z h0 b kb .byte (11 : Int32) vs2 (.int (0 : Int32))) (p_10 : Sta Z h0 "java/lang/String" "COMPACT_STRINGS" "Z" (.int cs)) (hcs : ¬ cs = (0 : Int32)) (p_12 : o ≠ a) (p_13 : o ≠ b) :
    MetFree l yy16 (head1 (Jvm.Cond.code yy16 jdk_67_method_7_code 2 (some (.object "java/lang/StringBuilder")) :: ws) rRrmSAc2) (fun a_ U_ => a_ = #[(.ref o), (.ref a)] ∧ Z.Warmed39 U_.vm ∧ U_.heap = h0) (fun _ _ _ _ _ => True) (fun _ U_ o_ U1_ => ∃ v_ L_, o_ = .returned v_ ∧ QSAc2 Z o a d kd vs1 b kb vs2 cs h0 n0 v_ U1_.heap L_ ∧ FrameEnd U_ o_ U1_ L_ rRrmSAc2.cells rRrmSAc2.slots) := by
  refine MetFree.of_bodySF pn_rmSAc2 hisR ?_
  intro p e s m args below meth c s₁ Bd hml0 hP hK
  obtain ⟨rfl, hZ, hh⟩ := hP
  have hx := Bd.exec
  have hby := Bd.bytes
  have hlk : meth.locks = false := Bd.notSynchronized
  have hml : c.maxLocals = 2 := hml0
  have hown : s.vm.findClass "java/lang/StringBuilder" = some m.cls := findClass_of_methodNamed Bd.named
  have hnm := (name_of_methodNamed Bd.named Bd.method).1
  have X0 : Stand p l e rRrmSAc2 s m #[(.ref o), (.ref a)] below meth c s₁ [] 0 0 := Stand.of_body Bd
  have e0 : s₁.heap = h0 := by rw [← hh, Bd.state]; rfl
  have N0 := Fr.nil n0
  show own_Goes p e below s (QSAc2 Z o a d kd vs1 b kb vs2 cs h0 n0) rRrmSAc2.cells rRrmSAc2.slots s₁ (entryFrame m #[(.ref o), (.ref a)] 2)
  rw [ef_rmSAc2 m o a]
  show own_Goes p e below s (QSAc2 Z o a d kd vs1 b kb vs2 cs h0 n0) rRrmSAc2.cells rRrmSAc2.slots s₁ (mkF m 0 #[rv o, rv a] [])
  refine own_st (fun _ kk_ => XS.aloadN X0.here hx rfl (hb hby d8_0) rfl rfl (XS.aloadN X0.here hx rfl (hb hby d8_1) rfl rfl kk_)) ?_
  show own_Goes _ _ _ _ _ _ _ s₁ (mkF m 2 #[rv o, rv a] [(.ref a), (.ref o)])
  obtain ⟨_, _, ⟨T1, L1, k1, n1⟩, -, X1, ⟨Lc1, hQ1, l1, y1, z1⟩, st1⟩ := superBack X0 hx hZ (y := yy15) hown (own_w hw 65 rfl) (own_smo (own_w hw 88 rfl) rfl (own_w hw 66 rfl) (by decide)) (own_w hw 66 rfl) (own_w hw 67 rfl) (by decide) (backOf (W := 0) (rmAAc2 l Z a0 hw [] (o) (a) (d) (kd) (vs1) (b) (kb) (vs2) (cs) h0 n0 Z0 p_0 p_1 p_2 p_3 p_4 p_5 p_6 p_7 p_8 p_9 p_10 (by assumption) p_12 p_13) hZ (own_w hw 69 rfl) (own_w hw 51 rfl) (by decide) (by decide)) e0 (Ins.self p_0) (g := (mkF m 2 #[rv o, rv a] [(.ref a), (.ref o)])) rfl (by rw [hml]; rfl) (own_w hw 69 rfl) (argsL := [(.ref a)]) (rest := []) (lenOf pd_11 rfl) rfl (by show 2 * 0 + _ ≤ _; exact Nat.le_of_eq rfl) (hb hby d8_2) (fun _ _ => ⟨rfl, e0, (by decide : 0 + 1 ≤ _), (by decide : 0 + 80 ≤ _)⟩)
  dsimp only [Pt.U, Pt.locs, Pt.cells, Pt.slots] at X1 l1 y1 z1 st1 hQ1
  subst l1 y1 z1
  obtain ⟨x1_y, x1_ky, rfl, Nq1, Kq1, u1_0, u1_1, u1_2, u1_3, u1_4, u1_5⟩ := hQ1
  have N1 := Fr.app N0 Nq1
  have f1_0 := p_0.keep Kq1
  have f1_5 := p_6.keep Kq1
  have f1_6 := p_7.keep Kq1 (ninS (Ne.symm p_12) nin0)
  have f1_7 := p_8.keep Kq1 (ninS (Ne.symm p_12) nin0)
  have f1_8 := p_9.keep Kq1 (ninS (Ne.symm p_13) nin0)
  have f1_9 := own_Sta_keep p_10 Kq1 (nsS p_0.nostat ns0)
  have Zs1 : n0 ≤ T1.heap.size := Nat.le_trans Z0 Kq1.1
  have K1 := (Keep.refl h0 [o]).trans Kq1 (allS (Or.inl (List.mem_of_getElem? (i := 0) rfl)) all0)
  have ne1_o : o ≠ x1_y := Nat.ne_of_lt (Nat.lt_of_lt_of_le p_0.lt u1_0)
  have ne1_d : d ≠ x1_y := Nat.ne_of_lt (Nat.lt_of_lt_of_le p_5.lt u1_0)
  have ne1_a : a ≠ x1_y := Nat.ne_of_lt (Nat.lt_of_lt_of_le p_6.lt u1_0)
  have ne1_b : b ≠ x1_y := Nat.ne_of_lt (Nat.lt_of_lt_of_le p_9.lt u1_0)
  have sz1_y : h0.size ≤ x1_y := Nat.le_trans (Keep.refl h0 [o]).1 u1_0
  have gg1_y : n0 ≤ x1_y := Nat.le_trans Z0 u1_0
  refine own_st (fun _ kk_ => st1.trans kk_) ?_
  show own_Goes _ _ _ _ _ _ _ T1 (mkF m 5 #[rv o, rv a] [(.ref o)])
  refine own_st (fun _ kk_ => XS.pop X1.here hx rfl (hb hby d8_5) rfl rfl (XS.aloadN X1.here hx rfl (hb hby d8_6) rfl rfl kk_)) ?_
  show own_Goes _ _ _ _ _ _ _ T1 (mkF m 7 #[rv o, rv a] [(.ref o)])
  refine own_retA X1 hx hlk rfl Bd.returns rfl (hb hby d8_7) (by decide) (by decide) ?_
  show QSAc2 Z o a d kd vs1 b kb vs2 cs h0 n0 (some (.ref o)) T1.heap _
  exact ⟨x1_y, x1_ky, rfl, N1, K1, u1_0, u1_1, u1_2, u1_3, u1_4, u1_5⟩
abbrev rRrmGBs0 : Room := { frames := 1, cells := 0, slots := 0, locals := 18 }
theorem pn_rmGBs0 : plainFor yy9 = true := by first | exact plainFor_of_name (by first | (simp [plainName, overriddenIn]; done) | decide +kernel) | decide +kernel
theorem ef_rmGBs0 (m : MethodId) (a : Addr) (d : Addr) : entryFrame m #[(.ref a), (.ref d), (.int (52 : Int32)), (.int (0 : Int32))] 4 = (mkF m 0 #[rv a, rv d, iv (52 : Int32), iv (0 : Int32)] []) := by first | (simp [entryFrame, mkF, argsToLocals, Value.category]; done) | rfl
def QGBs0 (Z : State) (a : Addr) (d : Addr) (kd : ClassId) (vs1 : List Value) (b : Addr) (kb : ClassId) (vs2 : List Value) (cs : Int32) (h0 : Heap) (n0 : Nat) (v_ : Option Value) (h_ : Heap) (L_ : List Loc) : Prop := (v_ = none) ∧ (Fr n0 L_) ∧ (Keep h0 h_ [d]) ∧ (Arv Z h_ d kd .byte (80 : Int32) (own_cp vs2 vs1 (0 : Int32) (52 : Int32) (3 : Int32) (.int (0 : Int32))) (.int (0 : Int32)))
set_option maxRecDepth 65536 in
set_option maxHeartbeats 40000000 in
theorem rmGBs0 (l : Launch) (Z : State) (a0 : Array Value) (hw : ∀ d ∈ tables_1, d.before a0 Z = true) (ws : List Jvm.Cond) (a : Addr) (d : Addr) (kd : ClassId) (vs1 : List Value) (b : Addr) (kb : ClassId) (vs2 : List Value) (cs : Int32) (h0 : Heap) (n0 : Nat) (Z0 : n0 ≤ h0.size) (p_0 : Exa Z h0 a "java/lang/String") (p_1 : Fld Z h0 a "java/lang/String" "coder" "B" (.int (0 : Int32))) (p_2 : Fld Z h0 a "java/lang/String" "value" "[B" (.ref b)) (p_3 : Arv Z h0 b kb .byte (3 : Int32) vs2 (.int (0 : Int32))) (p_4 : Sta Z h0 "java/lang/String" "COMPACT_STRINGS" "Z" (.int cs)) (hcs : ¬ cs = (0 : Int32)) (p_6 : Arv Z h0 d kd .byte (80 : Int32) vs1 (.int (0 : Int32))) (p_7 : n0 ≤ d) (hl : (52 : Int32).toNatClampNeg + (3 : Int32).toNatClampNeg ≤ vs1.length) :
    MetFree l yy9 (head1 (Jvm.Cond.code yy9 jdk_42_method_147_code 4 none :: ws) rRrmGBs0) (fun a_ U_ => a_ = #[(.ref a), (.ref d), (.int (52 : Int32)), (.int (0 : Int32))] ∧ Z.Warmed39 U_.vm ∧ U_.heap = h0) (fun _ _ _ _ _ => True) (fun _ U_ o_ U1_ => ∃ v_ L_, o_ = .returned v_ ∧ QGBs0 Z a d kd vs1 b kb vs2 cs h0 n0 v_ U1_.heap L_ ∧ FrameEnd U_ o_ U1_ L_ rRrmGBs0.cells rRrmGBs0.slots) := by
  refine MetFree.of_bodySF pn_rmGBs0 hisR ?_
  intro p e s m args below meth c s₁ Bd hml0 hP hK
  obtain ⟨rfl, hZ, hh⟩ := hP
  have hx := Bd.exec
  have hby := Bd.bytes
  have hlk : meth.locks = false := Bd.notSynchronized
  have hml : c.maxLocals = 4 := hml0
  have hown : s.vm.findClass "java/lang/String" = some m.cls := findClass_of_methodNamed Bd.named
  have hnm := (name_of_methodNamed Bd.named Bd.method).1
  have X0 : Stand p l e rRrmGBs0 s m #[(.ref a), (.ref d), (.int (52 : Int32)), (.int (0 : Int32))] below meth c s₁ [] 0 0 := Stand.of_body Bd
  have e0 : s₁.heap = h0 := by rw [← hh, Bd.state]; rfl
  have N0 := Fr.nil n0
  show own_Goes p e below s (QGBs0 Z a d kd vs1 b kb vs2 cs h0 n0) rRrmGBs0.cells rRrmGBs0.slots s₁ (entryFrame m #[(.ref a), (.ref d), (.int (52 : Int32)), (.int (0 : Int32))] 4)
  rw [ef_rmGBs0 m a d]
  show own_Goes p e below s (QGBs0 Z a d kd vs1 b kb vs2 cs h0 n0) rRrmGBs0.cells rRrmGBs0.slots s₁ (mkF m 0 #[rv a, rv d, iv (52 : Int32), iv (0 : Int32)] [])
  refine own_st (fun _ kk_ => XS.aloadN X0.here hx rfl (hb hby d20_0) rfl rfl kk_) ?_
  show own_Goes _ _ _ _ _ _ _ s₁ (mkF m 1 #[rv a, rv d, iv (52 : Int32), iv (0 : Int32)] [(.ref a)])
  obtain ⟨cq1, kq1, q1a, q1b, q1c⟩ := isOf hZ e0 p_0
  obtain ⟨_, _, ⟨T1, L1, k1, n1⟩, -, X1, ⟨Lc1, hQ1, l1, y1, z1⟩, st1⟩ := X0.virtualBack hx (y := yy0) (z := yy0) hown (mvT hZ (own_w hw 76 rfl)) (mvT hZ (own_w hw 77 rfl)) (notFace_of_selects (args := #[]) (mvT hZ (own_w hw 79 rfl))) (mvT hZ (own_w hw 79 rfl)) (mvT hZ (own_w hw 78 rfl)) (by decide) (backOf (W := 0) (rm11 l Z a0 hw [] (a) (cs) h0 n0 Z0 p_1 p_4 (by assumption)) hZ (own_w hw 80 rfl) (own_w hw 19 rfl) (by decide) (by decide)) q1a q1c (g := (mkF m 1 #[rv a, rv d, iv (52 : Int32), iv (0 : Int32)] [(.ref a)])) rfl (by rw [hml]; rfl) (Steps.refl _) (argsL := []) (rest := []) (lenOf pd_0 rfl) rfl (by show 2 * 0 + _ ≤ _; exact Nat.le_of_eq rfl) (hb hby d20_1) (fun _ _ => ⟨rfl, e0, (by decide : 0 + 0 ≤ _), (by decide : 0 + 0 ≤ _)⟩)
  dsimp only [Pt.U, Pt.locs, Pt.cells, Pt.slots] at X1 l1 y1 z1 st1 hQ1
  subst l1 y1 z1
  obtain ⟨rfl, Nq1, eq1⟩ := hQ1
  have N1 := Fr.app N0 Nq1
  refine own_st (fun _ kk_ => st1.trans kk_) ?_
  show own_Goes _ _ _ _ _ _ _ T1 (mkF m 4 #[rv a, rv d, iv (52 : Int32), iv (0 : Int32)] [(.int (0 : Int32))])
  refine own_st (fun _ kk_ => XS.iloadN X1.here hx rfl (hb hby d20_4) rfl (XS.icmpNo X1.here hx rfl (hb hby d20_5) rfl (XT.ii_ne_f (by decide)) (XS.aloadN X1.here hx rfl (hb hby d20_8) rfl rfl kk_))) ?_
  show own_Goes _ _ _ _ _ _ _ T1 (mkF m 9 #[rv a, rv d, iv (52 : Int32), iv (0 : Int32)] [(.ref a)])
  obtain ⟨T2, X2, e2, st2⟩ := getF X1 hx hZ hown (host := "") (Or.inl (own_w hw 75 rfl)) Via.refl eq1 p_2 (g := (mkF m 9 #[rv a, rv d, iv (52 : Int32), iv (0 : Int32)] [(.ref a)])) rfl rfl (hb hby d20_9)
  refine own_st st2 ?_
  show own_Goes _ _ _ _ _ _ _ T2 (mkF m 12 #[rv a, rv d, iv (52 : Int32), iv (0 : Int32)] [(.ref b)])
  refine own_st (fun _ kk_ => XS.iconst X2.here hx rfl (hb hby d20_12) (XS.aloadN X2.here hx rfl (hb hby d20_13) rfl rfl (XS.iloadN X2.here hx rfl (hb hby d20_14) rfl (XS.iloadN X2.here hx rfl (hb hby d20_15) rfl (XS.ishl X2.here hx rfl (hb hby d20_16) rfl (XS.aloadN X2.here hx rfl (hb hby d20_17) rfl rfl kk_)))))) ?_
  show own_Goes _ _ _ _ _ _ _ T2 (mkF m 18 #[rv a, rv d, iv (52 : Int32), iv (0 : Int32)] [(.ref a), (.int (52 : Int32)), (.ref d), (.int (0 : Int32)), (.ref b)])
  obtain ⟨T3, X3, e3, st3⟩ := getF X2 hx hZ hown (host := "") (Or.inl (own_w hw 75 rfl)) Via.refl e2 p_2 (g := (mkF m 18 #[rv a, rv d, iv (52 : Int32), iv (0 : Int32)] [(.ref a), (.int (52 : Int32)), (.ref d), (.int (0 : Int32)), (.ref b)])) rfl rfl (hb hby d20_18)
  refine own_st st3 ?_
  show own_Goes _ _ _ _ _ _ _ T3 (mkF m 21 #[rv a, rv d, iv (52 : Int32), iv (0 : Int32)] [(.ref b), (.int (52 : Int32)), (.ref d), (.int (0 : Int32)), (.ref b)])
  obtain ⟨cl4, Ar4, -, Sz4, Nn4, -, -⟩ := id p_3
  refine own_st (fun _ kk_ => X3.arraylength hx (by rw [e3]; exact Ar4.1) (State.isArrayOf_alike hZ.alike Ar4.2.1) (g := (mkF m 21 #[rv a, rv d, iv (52 : Int32), iv (0 : Int32)] [(.ref b), (.int (52 : Int32)), (.ref d), (.int (0 : Int32)), (.ref b)])) rfl rfl (hb hby d20_21) _ kk_) ?_
  rw [len_of Sz4 Nn4]
  show own_Goes _ _ _ _ _ _ _ T3 (mkF m 22 #[rv a, rv d, iv (52 : Int32), iv (0 : Int32)] [(.int (3 : Int32)), (.int (52 : Int32)), (.ref d), (.int (0 : Int32)), (.ref b)])
  obtain ⟨T5, h5, L5, X5, e5, N5, Kp5, A5, st5⟩ := cpA X3 hx hZ hown (own_w hw 132 rfl) (own_w hw 115 rfl) (own_w hw 113 rfl) (own_w hw 114 rfl) e3 p_3 p_6 (Or.inl ⟨rfl, rfl⟩) (by decide) (by decide) (by decide) (by decide) (by decide) rfl hl N1 p_7 (g := (mkF m 22 #[rv a, rv d, iv (52 : Int32), iv (0 : Int32)] [(.int (3 : Int32)), (.int (52 : Int32)), (.ref d), (.int (0 : Int32)), (.ref b)])) rfl (by rw [hml]; rfl) (rest := []) rfl (hb hby d20_22) (by decide) (W := 0) (by show 2 * 0 + _ ≤ _; exact Nat.le_of_eq rfl) (by decide)
  have f5_0 := p_0.keep Kp5
  have f5_4 := own_Sta_keep p_4 Kp5 (nsS p_6.nostat ns0)
  have Zs5 : n0 ≤ h5.size := Nat.le_trans Z0 Kp5.1
  have K5 := (Keep.refl h0 [d]).trans Kp5 (allS (Or.inl (List.mem_of_getElem? (i := 0) rfl)) all0)
  have V5 : Arv Z h5 d kd .byte (80 : Int32) (own_cp vs2 vs1 (0 : Int32) (52 : Int32) (3 : Int32) (.int (0 : Int32))) (.int (0 : Int32)) := A5
  refine own_st st5 ?_
  show own_Goes _ _ _ _ _ _ _ T5 (mkF m 25 #[rv a, rv d, iv (52 : Int32), iv (0 : Int32)] [])
  refine own_st (fun _ kk_ => XS.goto X5.here hx rfl (pc0 := 25) (pc' := 43) rfl (hb hby d20_25) (by decide) (by decide) kk_) ?_
  show own_Goes _ _ _ _ _ _ _ T5 (mkF m 43 #[rv a, rv d, iv (52 : Int32), iv (0 : Int32)] [])
  refine own_ret0 X5 hx hlk Bd.returns (hb hby d20_43) (by decide) (by decide) ?_
  show QGBs0 Z a d kd vs1 b kb vs2 cs h0 n0 none T5.heap _
  rw [e5]
  exact ⟨rfl, N5, K5, V5⟩
abbrev rRrmPSs0 : Room := { frames := 2, cells := 0, slots := 0, locals := 33 }
theorem pn_rmPSs0 : plainFor yy10 = true := by first | exact plainFor_of_name (by first | (simp [plainName, overriddenIn]; done) | decide +kernel) | decide +kernel
theorem ef_rmPSs0 (m : MethodId) (o : Addr) (a : Addr) : entryFrame m #[(.ref o), (.int (52 : Int32)), (.ref a)] 3 = (mkF m 0 #[rv o, iv (52 : Int32), rv a] []) := by first | (simp [entryFrame, mkF, argsToLocals, Value.category]; done) | rfl
def QPSs0 (Z : State) (o : Addr) (a : Addr) (d : Addr) (kd : ClassId) (vs1 : List Value) (b : Addr) (kb : ClassId) (vs2 : List Value) (cs : Int32) (h0 : Heap) (n0 : Nat) (v_ : Option Value) (h_ : Heap) (L_ : List Loc) : Prop := (v_ = none) ∧ (Fr n0 L_) ∧ (Keep h0 h_ [d]) ∧ (Arv Z h_ d kd .byte (80 : Int32) (own_cp vs2 vs1 (0 : Int32) (52 : Int32) (3 : Int32) (.int (0 : Int32))) (.int (0 : Int32)))
set_option maxRecDepth 65536 in
set_option maxHeartbeats 40000000 in
theorem rmPSs0 (l : Launch) (Z : State) (a0 : Array Value) (hw : ∀ d ∈ tables_1, d.before a0 Z = true) (ws : List Jvm.Cond) (o : Addr) (a : Addr) (d : Addr) (kd : ClassId) (vs1 : List Value) (b : Addr) (kb : ClassId) (vs2 : List Value) (cs : Int32) (h0 : Heap) (n0 : Nat) (Z0 : n0 ≤ h0.size) (p_0 : Exa Z h0 o "java/lang/StringBuilder") (p_1 : Fld Z h0 o "java/lang/AbstractStringBuilder" "value" "[B" (.ref d)) (p_2 : Fld Z h0 o "java/lang/AbstractStringBuilder" "coder" "B" (.int (0 : Int32))) (p_3 : Exa Z h0 a "java/lang/String") (p_4 : Fld Z h0 a "java/lang/String" "coder" "B" (.int (0 : Int32))) (p_5 : Fld Z h0 a "java/lang/String" "value" "[B" (.ref b)) (p_6 : Arv Z h0 b kb .byte (3 : Int32) vs2 (.int (0 : Int32))) (p_7 : Sta Z h0 "java/lang/String" "COMPACT_STRINGS" "Z" (.int cs)) (hcs : ¬ cs = (0 : Int32)) (p_9 : Arv Z h0 d kd .byte (80 : Int32) vs1 (.int (0 : Int32))) (p_10 : n0 ≤ d) (hl : (52 : Int32).toNatClampNeg + (3 : Int32).toNatClampNeg ≤ vs1.length) :
    MetFree l yy10 (head1 (Jvm.Cond.code yy10 jdk_68_method_73_code 3 none :: ws) rRrmPSs0) (fun a_ U_ => a_ = #[(.ref o), (.int (52 : Int32)), (.ref a)] ∧ Z.Warmed39 U_.vm ∧ U_.heap = h0) (fun _ _ _ _ _ => True) (fun _ U_ o_ U1_ => ∃ v_ L_, o_ = .returned v_ ∧ QPSs0 Z o a d kd vs1 b kb vs2 cs h0 n0 v_ U1_.heap L_ ∧ FrameEnd U_ o_ U1_ L_ rRrmPSs0.cells rRrmPSs0.slots) := by
  refine MetFree.of_bodySF pn_rmPSs0 hisR ?_
  intro p e s m args below meth c s₁ Bd hml0 hP hK
  obtain ⟨rfl, hZ, hh⟩ := hP
  have hx := Bd.exec
  have hby := Bd.bytes
  have hlk : meth.locks = false := Bd.notSynchronized
  have hml : c.maxLocals = 3 := hml0
  have hown : s.vm.findClass "java/lang/AbstractStringBuilder" = some m.cls := findClass_of_methodNamed Bd.named
  have hnm := (name_of_methodNamed Bd.named Bd.method).1
  have X0 : Stand p l e rRrmPSs0 s m #[(.ref o), (.int (52 : Int32)), (.ref a)] below meth c s₁ [] 0 0 := Stand.of_body Bd
  have e0 : s₁.heap = h0 := by rw [← hh, Bd.state]; rfl
  have N0 := Fr.nil n0
  show own_Goes p e below s (QPSs0 Z o a d kd vs1 b kb vs2 cs h0 n0) rRrmPSs0.cells rRrmPSs0.slots s₁ (entryFrame m #[(.ref o), (.int (52 : Int32)), (.ref a)] 3)
  rw [ef_rmPSs0 m o a]
  show own_Goes p e below s (QPSs0 Z o a d kd vs1 b kb vs2 cs h0 n0) rRrmPSs0.cells rRrmPSs0.slots s₁ (mkF m 0 #[rv o, iv (52 : Int32), rv a] [])
  refine own_st (fun _ kk_ => XS.aloadN X0.here hx rfl (hb hby d18_0) rfl rfl (XS.aloadN X0.here hx rfl (hb hby d18_1) rfl rfl kk_)) ?_
  show own_Goes _ _ _ _ _ _ _ s₁ (mkF m 2 #[rv o, iv (52 : Int32), rv a] [(.ref a), (.ref o)])
  obtain ⟨cq1, q1, q1'⟩ := p_0.cell
  obtain ⟨_, _, ⟨T1, L1, k1, n1⟩, -, X1, ⟨Lc1, hQ1, l1, y1, z1⟩, st1⟩ := X0.privateBack hx (y := yy8) hown (mvT hZ (own_w hw 121 rfl)) (mvT hZ (own_w hw 122 rfl)) (own_selp (mvT hZ (own_w hw 124 rfl)) (Cond.privateMethod_at (mvP hZ (own_w hw 123 rfl) (args := #[]))) (mvT hZ (own_w hw 122 rfl)) (by decide)) (Cond.privateMethod_at (mvP hZ (own_w hw 123 rfl) (args := #[]))) (mvT hZ (own_w hw 125 rfl)) (by decide) (backOf (W := 0) (rm19 l Z a0 hw [] (o) (a) (cs) h0 n0 Z0 p_0 p_2 p_3 p_4 p_7 (by assumption)) hZ (own_w hw 125 rfl) (own_w hw 51 rfl) (by decide) (by decide)) (g := (mkF m 2 #[rv o, iv (52 : Int32), rv a] [(.ref a), (.ref o)])) rfl (by rw [hml]; rfl) (Steps.refl _) (a := o) (by rw [e0]; exact q1) q1' (argsL := [(.ref a)]) (rest := []) (lenOf pd_3 rfl) rfl (by show 2 * 0 + _ ≤ _; exact Nat.le_of_eq rfl) (hb hby d18_2) (fun _ _ => ⟨rfl, e0, (by decide : 0 + 0 ≤ _), (by decide : 0 + 0 ≤ _)⟩)
  dsimp only [Pt.U, Pt.locs, Pt.cells, Pt.slots] at X1 l1 y1 z1 st1 hQ1
  subst l1 y1 z1
  obtain ⟨rfl, Nq1, eq1⟩ := hQ1
  have N1 := Fr.app N0 Nq1
  refine own_st (fun _ kk_ => st1.trans kk_) ?_
  show own_Goes _ _ _ _ _ _ _ T1 (mkF m 5 #[rv o, iv (52 : Int32), rv a] [])
  refine own_st (fun _ kk_ => XS.aloadN X1.here hx rfl (hb hby d18_5) rfl rfl (XS.aloadN X1.here hx rfl (hb hby d18_6) rfl rfl kk_)) ?_
  show own_Goes _ _ _ _ _ _ _ T1 (mkF m 7 #[rv o, iv (52 : Int32), rv a] [(.ref o), (.ref a)])
  obtain ⟨T2, X2, e2, st2⟩ := getF X1 hx hZ hown (host := "") (Or.inl (own_w hw 55 rfl)) Via.refl eq1 p_1 (g := (mkF m 7 #[rv o, iv (52 : Int32), rv a] [(.ref o), (.ref a)])) rfl rfl (hb hby d18_7)
  refine own_st st2 ?_
  show own_Goes _ _ _ _ _ _ _ T2 (mkF m 10 #[rv o, iv (52 : Int32), rv a] [(.ref d), (.ref a)])
  refine own_st (fun _ kk_ => XS.iloadN X2.here hx rfl (hb hby d18_10) rfl (XS.aloadN X2.here hx rfl (hb hby d18_11) rfl rfl kk_)) ?_
  show own_Goes _ _ _ _ _ _ _ T2 (mkF m 12 #[rv o, iv (52 : Int32), rv a] [(.ref o), (.int (52 : Int32)), (.ref d), (.ref a)])
  obtain ⟨T3, X3, e3, st3⟩ := getF X2 hx hZ hown (host := "") (Or.inl (own_w hw 57 rfl)) Via.refl e2 p_2 (g := (mkF m 12 #[rv o, iv (52 : Int32), rv a] [(.ref o), (.int (52 : Int32)), (.ref d), (.ref a)])) rfl rfl (hb hby d18_12)
  refine own_st st3 ?_
  show own_Goes _ _ _ _ _ _ _ T3 (mkF m 15 #[rv o, iv (52 : Int32), rv a] [(.int (0 : Int32)), (.int (52 : Int32)), (.ref d), (.ref a)])
  obtain ⟨cq4, kq4, q4a, q4b, q4c⟩ := isOf hZ e3 p_3
  obtain ⟨_, _, ⟨T4, L4, k4, n4⟩, -, X4, ⟨Lc4, hQ4, l4, y4, z4⟩, st4⟩ := X3.virtualBack hx (y := yy9) (z := yy9) hown (mvT hZ (own_w hw 127 rfl)) (mvT hZ (own_w hw 128 rfl)) (notFace_of_selects (args := #[]) (mvT hZ (own_w hw 130 rfl))) (mvT hZ (own_w hw 130 rfl)) (mvT hZ (own_w hw 129 rfl)) (by decide) (backOf (W := 0) (rmGBs0 l Z a0 hw [] (a) (d) (kd) (vs1) (b) (kb) (vs2) (cs) h0 n0 Z0 p_3 p_4 p_5 p_6 p_7 (by assumption) p_9 p_10 hl) hZ (own_w hw 131 rfl) (own_w hw 19 rfl) (by decide) (by decide)) q4a q4c (g := (mkF m 15 #[rv o, iv (52 : Int32), rv a] [(.int (0 : Int32)), (.int (52 : Int32)), (.ref d), (.ref a)])) rfl (by rw [hml]; rfl) (Steps.refl _) (argsL := [(.ref d), (.int (52 : Int32)), (.int (0 : Int32))]) (rest := []) (lenOf pd_4 rfl) rfl (by show 2 * 0 + _ ≤ _; exact Nat.le_of_eq rfl) (hb hby d18_15) (fun _ _ => ⟨rfl, e3, (by decide : 0 + 0 ≤ _), (by decide : 0 + 0 ≤ _)⟩)
  dsimp only [Pt.U, Pt.locs, Pt.cells, Pt.slots] at X4 l4 y4 z4 st4 hQ4
  subst l4 y4 z4
  obtain ⟨rfl, Nq4, Kq4, u4_0⟩ := hQ4
  have N4 := Fr.app N1 Nq4
  have f4_0 := p_0.keep Kq4
  have f4_3 := p_3.keep Kq4
  have f4_7 := own_Sta_keep p_7 Kq4 (nsS p_9.nostat ns0)
  have Zs4 : n0 ≤ T4.heap.size := Nat.le_trans Z0 Kq4.1
  have K4 := (Keep.refl h0 [d]).trans Kq4 (allS (Or.inl (List.mem_of_getElem? (i := 0) rfl)) all0)
  refine own_st (fun _ kk_ => st4.trans kk_) ?_
  show own_Goes _ _ _ _ _ _ _ T4 (mkF m 18 #[rv o, iv (52 : Int32), rv a] [])
  refine own_ret0 X4 hx hlk Bd.returns (hb hby d18_18) (by decide) (by decide) ?_
  show QPSs0 Z o a d kd vs1 b kb vs2 cs h0 n0 none T4.heap _
  exact ⟨rfl, N4, K4, u4_0⟩
abbrev rRrmECs0 : Room := { frames := 0, cells := 0, slots := 0, locals := 0 }
theorem pn_rmECs0 : plainFor yy14 = true := by first | exact plainFor_of_name (by first | (simp [plainName, overriddenIn]; done) | decide +kernel) | decide +kernel
theorem ef_rmECs0 (m : MethodId) (o : Addr) : entryFrame m #[(.ref o), (.int (55 : Int32))] 3 = (mkF m 0 #[rv o, iv (55 : Int32), .unset] []) := by first | (simp [entryFrame, mkF, argsToLocals, Value.category]; done) | rfl
def QECs0 (Z : State) (o : Addr) (d : Addr) (kd : ClassId) (vs1 : List Value) (h0 : Heap) (n0 : Nat) (v_ : Option Value) (h_ : Heap) (L_ : List Loc) : Prop := (v_ = none) ∧ (Fr n0 L_) ∧ (h_ = h0)
set_option maxRecDepth 65536 in
set_option maxHeartbeats 40000000 in
theorem rmECs0 (l : Launch) (Z : State) (a0 : Array Value) (hw : ∀ d ∈ tables_1, d.before a0 Z = true) (ws : List Jvm.Cond) (o : Addr) (d : Addr) (kd : ClassId) (vs1 : List Value) (h0 : Heap) (n0 : Nat) (Z0 : n0 ≤ h0.size) (p_0 : Exa Z h0 o "java/lang/StringBuilder") (p_1 : Fld Z h0 o "java/lang/AbstractStringBuilder" "value" "[B" (.ref d)) (p_2 : Fld Z h0 o "java/lang/AbstractStringBuilder" "coder" "B" (.int (0 : Int32))) (p_3 : Arv Z h0 d kd .byte (80 : Int32) vs1 (.int (0 : Int32))) :
    MetFree l yy14 (head1 (Jvm.Cond.code yy14 jdk_68_method_9_code 3 none :: ws) rRrmECs0) (fun a_ U_ => a_ = #[(.ref o), (.int (55 : Int32))] ∧ Z.Warmed39 U_.vm ∧ U_.heap = h0) (fun _ _ _ _ _ => True) (fun _ U_ o_ U1_ => ∃ v_ L_, o_ = .returned v_ ∧ QECs0 Z o d kd vs1 h0 n0 v_ U1_.heap L_ ∧ FrameEnd U_ o_ U1_ L_ rRrmECs0.cells rRrmECs0.slots) := by
  refine MetFree.of_bodySF pn_rmECs0 hisR ?_
  intro p e s m args below meth c s₁ Bd hml0 hP hK
  obtain ⟨rfl, hZ, hh⟩ := hP
  have hx := Bd.exec
  have hby := Bd.bytes
  have hlk : meth.locks = false := Bd.notSynchronized
  have hml : c.maxLocals = 3 := hml0
  have hown : s.vm.findClass "java/lang/AbstractStringBuilder" = some m.cls := findClass_of_methodNamed Bd.named
  have hnm := (name_of_methodNamed Bd.named Bd.method).1
  have X0 : Stand p l e rRrmECs0 s m #[(.ref o), (.int (55 : Int32))] below meth c s₁ [] 0 0 := Stand.of_body Bd
  have e0 : s₁.heap = h0 := by rw [← hh, Bd.state]; rfl
  have N0 := Fr.nil n0
  show own_Goes p e below s (QECs0 Z o d kd vs1 h0 n0) rRrmECs0.cells rRrmECs0.slots s₁ (entryFrame m #[(.ref o), (.int (55 : Int32))] 3)
  rw [ef_rmECs0 m o]
  show own_Goes p e below s (QECs0 Z o d kd vs1 h0 n0) rRrmECs0.cells rRrmECs0.slots s₁ (mkF m 0 #[rv o, iv (55 : Int32), .unset] [])
  refine own_st (fun _ kk_ => XS.aloadN X0.here hx rfl (hb hby d12_0) rfl rfl kk_) ?_
  show own_Goes _ _ _ _ _ _ _ s₁ (mkF m 1 #[rv o, iv (55 : Int32), .unset] [(.ref o)])
  obtain ⟨T1, X1, e1, st1⟩ := getF X0 hx hZ hown (host := "") (Or.inl (own_w hw 55 rfl)) Via.refl e0 p_1 (g := (mkF m 1 #[rv o, iv (55 : Int32), .unset] [(.ref o)])) rfl rfl (hb hby d12_1)
  refine own_st st1 ?_
  show own_Goes _ _ _ _ _ _ _ T1 (mkF m 4 #[rv o, iv (55 : Int32), .unset] [(.ref d)])
  obtain ⟨cl2, Ar2, -, Sz2, Nn2, -, -⟩ := id p_3
  refine own_st (fun _ kk_ => X1.arraylength hx (by rw [e1]; exact Ar2.1) (State.isArrayOf_alike hZ.alike Ar2.2.1) (g := (mkF m 4 #[rv o, iv (55 : Int32), .unset] [(.ref d)])) rfl rfl (hb hby d12_4) _ kk_) ?_
  rw [len_of Sz2 Nn2]
  show own_Goes _ _ _ _ _ _ _ T1 (mkF m 5 #[rv o, iv (55 : Int32), .unset] [(.int (80 : Int32))])
  refine own_st (fun _ kk_ => XS.aloadN X1.here hx rfl (hb hby d12_5) rfl rfl kk_) ?_
  show own_Goes _ _ _ _ _ _ _ T1 (mkF m 6 #[rv o, iv (55 : Int32), .unset] [(.ref o), (.int (80 : Int32))])
  obtain ⟨T3, X3, e3, st3⟩ := getF X1 hx hZ hown (host := "") (Or.inl (own_w hw 57 rfl)) Via.refl e1 p_2 (g := (mkF m 6 #[rv o, iv (55 : Int32), .unset] [(.ref o), (.int (80 : Int32))])) rfl rfl (hb hby d12_6)
  refine own_st st3 ?_
  show own_Goes _ _ _ _ _ _ _ T3 (mkF m 9 #[rv o, iv (55 : Int32), .unset] [(.int (0 : Int32)), (.int (80 : Int32))])
  refine own_st (fun _ kk_ => XS.ishr X3.here hx rfl (hb hby d12_9) rfl (XS.istoreN X3.here hx rfl (hb hby d12_10) rfl (l' := #[rv o, iv (55 : Int32), iv (80 : Int32)]) rfl (XS.iloadN X3.here hx rfl (hb hby d12_11) rfl (XS.iloadN X3.here hx rfl (hb hby d12_12) rfl (XS.isub X3.here hx rfl (hb hby d12_13) rfl (XS.ifYes X3.here hx rfl (pc0 := 14) (pc' := 38) rfl (hb hby d12_14) rfl (XT.i0_le_t (by decide)) (by decide) (by decide) kk_)))))) ?_
  show own_Goes _ _ _ _ _ _ _ T3 (mkF m 38 #[rv o, iv (55 : Int32), iv (80 : Int32)] [])
  refine own_ret0 X3 hx hlk Bd.returns (hb hby d12_38) (by decide) (by decide) ?_
  show QECs0 Z o d kd vs1 h0 n0 none T3.heap _
  rw [e3]
  exact ⟨rfl, N0, rfl⟩
abbrev rRrmAAs0 : Room := { frames := 3, cells := 0, slots := 0, locals := 47 }
theorem pn_rmAAs0 : plainFor yy15 = true := by first | exact plainFor_of_name (by first | (simp [plainName, overriddenIn]; done) | decide +kernel) | decide +kernel
theorem ef_rmAAs0 (m : MethodId) (o : Addr) (a : Addr) : entryFrame m #[(.ref o), (.ref a)] 3 = (mkF m 0 #[rv o, rv a, .unset] []) := by first | (simp [entryFrame, mkF, argsToLocals, Value.category]; done) | rfl
def QAAs0 (Z : State) (o : Addr) (a : Addr) (d : Addr) (kd : ClassId) (vs1 : List Value) (b : Addr) (kb : ClassId) (vs2 : List Value) (cs : Int32) (h0 : Heap) (n0 : Nat) (v_ : Option Value) (h_ : Heap) (L_ : List Loc) : Prop := (v_ = some (.ref o)) ∧ (Fr n0 L_) ∧ (Keep h0 h_ [o, d]) ∧ (Exa Z h_ o "java/lang/StringBuilder") ∧ (Fld Z h_ o "java/lang/AbstractStringBuilder" "value" "[B" (.ref d)) ∧ (Fld Z h_ o "java/lang/AbstractStringBuilder" "coder" "B" (.int (0 : Int32))) ∧ (Fld Z h_ o "java/lang/AbstractStringBuilder" "count" "I" (.int (55 : Int32))) ∧ (Arv Z h_ d kd .byte (80 : Int32) (own_cp vs2 vs1 (0 : Int32) (52 : Int32) (3 : Int32) (.int (0 : Int32))) (.int (0 : Int32)))
set_option maxRecDepth 65536 in
set_option maxHeartbeats 40000000 in
theorem rmAAs0 (l : Launch) (Z : State) (a0 : Array Value) (hw : ∀ d ∈ tables_1, d.before a0 Z = true) (ws : List Jvm.Cond) (o : Addr) (a : Addr) (d : Addr) (kd : ClassId) (vs1 : List Value) (b : Addr) (kb : ClassId) (vs2 : List Value) (cs : Int32) (h0 : Heap) (n0 : Nat) (Z0 : n0 ≤ h0.size) (p_0 : Exa Z h0 o "java/lang/StringBuilder") (p_1 : Fld Z h0 o "java/lang/AbstractStringBuilder" "value" "[B" (.ref d)) (p_2 : Fld Z h0 o "java/lang/AbstractStringBuilder" "coder" "B" (.int (0 : Int32))) (p_3 : Fld Z h0 o "java/lang/AbstractStringBuilder" "count" "I" (.int (52 : Int32))) (p_4 : n0 ≤ o) (p_5 : Arv Z h0 d kd .byte (80 : Int32) vs1 (.int (0 : Int32))) (p_6 : Exa Z h0 a "java/lang/String") (p_7 : Fld Z h0 a "java/lang/String" "coder" "B" (.int (0 : Int32))) (p_8 : Fld Z h0 a "java/lang/String" "value" "[B" (.ref b)) (p_9 : Arv Z h0 b kb .byte (3 : Int32) vs2 (.int (0 : Int32))) (p_10 : Sta Z h0 "java/lang/String" "COMPACT_STRINGS" "Z" (.int cs)) (hcs : ¬ cs = (0 : Int32)) (p_12 : o ≠ a) (p_13 : o ≠ b) (p_14 : n0 ≤ d) (p_15 : o ≠ d) (hl : (52 : Int32).toNatClampNeg + (3 : Int32).toNatClampNeg ≤ vs1.length) :
    MetFree l yy15 (head1 (Jvm.Cond.code yy15 jdk_68_method_22_code 3 (some (.object "java/lang/AbstractStringBuilder")) :: ws) rRrmAAs0) (fun a_ U_ => a_ = #[(.ref o), (.ref a)] ∧ Z.Warmed39 U_.vm ∧ U_.heap = h0) (fun _ _ _ _ _ => True) (fun _ U_ o_ U1_ => ∃ v_ L_, o_ = .returned v_ ∧ QAAs0 Z o a d kd vs1 b kb vs2 cs h0 n0 v_ U1_.heap L_ ∧ FrameEnd U_ o_ U1_ L_ rRrmAAs0.cells rRrmAAs0.slots) := by
  refine MetFree.of_bodySF pn_rmAAs0 hisR ?_
  intro p e s m args below meth c s₁ Bd hml0 hP hK
  obtain ⟨rfl, hZ, hh⟩ := hP
  have hx := Bd.exec
  have hby := Bd.bytes
  have hlk : meth.locks = false := Bd.notSynchronized
  have hml : c.maxLocals = 3 := hml0
  have hown : s.vm.findClass "java/lang/AbstractStringBuilder" = some m.cls := findClass_of_methodNamed Bd.named
  have hnm := (name_of_methodNamed Bd.named Bd.method).1
  have X0 : Stand p l e rRrmAAs0 s m #[(.ref o), (.ref a)] below meth c s₁ [] 0 0 := Stand.of_body Bd
  have e0 : s₁.heap = h0 := by rw [← hh, Bd.state]; rfl
  have N0 := Fr.nil n0
  show own_Goes p e below s (QAAs0 Z o a d kd vs1 b kb vs2 cs h0 n0) rRrmAAs0.cells rRrmAAs0.slots s₁ (entryFrame m #[(.ref o), (.ref a)] 3)
  rw [ef_rmAAs0 m o a]
  show own_Goes p e below s (QAAs0 Z o a d kd vs1 b kb vs2 cs h0 n0) rRrmAAs0.cells rRrmAAs0.slots s₁ (mkF m 0 #[rv o, rv a, .unset] [])
  refine own_st (fun _ kk_ => XS.aloadN X0.here hx rfl (hb hby d9_0) rfl rfl (XS.ifnonnullYes X0.here hx rfl (pc0 := 1) (pc' := 9) rfl (hb hby d9_1) rfl (by decide) (by decide) (XS.aloadN X0.here hx rfl (hb hby d9_9) rfl rfl kk_))) ?_
  show own_Goes _ _ _ _ _ _ _ s₁ (mkF m 10 #[rv o, rv a, .unset] [(.ref a)])
  obtain ⟨cq1, kq1, q1a, q1b, q1c⟩ := isOf hZ e0 p_6
  obtain ⟨_, _, ⟨T1, L1, k1, n1⟩, -, X1, ⟨Lc1, hQ1, l1, y1, z1⟩, st1⟩ := X0.virtualBack hx (y := yy1) (z := yy1) hown (mvT hZ (own_w hw 70 rfl)) (mvT hZ (own_w hw 71 rfl)) (notFace_of_selects (args := #[]) (mvT hZ (own_w hw 73 rfl))) (mvT hZ (own_w hw 73 rfl)) (mvT hZ (own_w hw 72 rfl)) (by decide) (backOf (W := 0) (rm10 l Z a0 hw [] (a) (b) (kb) ((3 : Int32)) (vs2) (cs) h0 n0 Z0 p_6 p_7 p_8 p_9 p_10 (by assumption)) hZ (own_w hw 74 rfl) (own_w hw 19 rfl) (by decide) (by decide)) q1a q1c (g := (mkF m 10 #[rv o, rv a, .unset] [(.ref a)])) rfl (by rw [hml]; rfl) (Steps.refl _) (argsL := []) (rest := []) (lenOf pd_9 rfl) rfl (by show 2 * 0 + _ ≤ _; exact Nat.le_of_eq rfl) (hb hby d9_10) (fun _ _ => ⟨rfl, e0, (by decide : 0 + 0 ≤ _), (by decide : 0 + 0 ≤ _)⟩)
  dsimp only [Pt.U, Pt.locs, Pt.cells, Pt.slots] at X1 l1 y1 z1 st1 hQ1
  subst l1 y1 z1
  obtain ⟨rfl, Nq1, eq1⟩ := hQ1
  have N1 := Fr.app N0 Nq1
  refine own_st (fun _ kk_ => st1.trans kk_) ?_
  show own_Goes _ _ _ _ _ _ _ T1 (mkF m 13 #[rv o, rv a, .unset] [(.int (3 : Int32))])
  refine own_st (fun _ kk_ => XS.istoreN X1.here hx rfl (hb hby d9_13) rfl (l' := #[rv o, rv a, iv (3 : Int32)]) rfl (XS.aloadN X1.here hx rfl (hb hby d9_14) rfl rfl (XS.aloadN X1.here hx rfl (hb hby d9_15) rfl rfl kk_))) ?_
  show own_Goes _ _ _ _ _ _ _ T1 (mkF m 16 #[rv o, rv a, iv (3 : Int32)] [(.ref o), (.ref o)])
  obtain ⟨T2, X2, e2, st2⟩ := getF X1 hx hZ hown (host := "") (Or.inl (own_w hw 83 rfl)) Via.refl eq1 p_3 (g := (mkF m 16 #[rv o, rv a, iv (3 : Int32)] [(.ref o), (.ref o)])) rfl rfl (hb hby d9_16)
  refine own_st st2 ?_
  show own_Goes _ _ _ _ _ _ _ T2 (mkF m 19 #[rv o, rv a, iv (3 : Int32)] [(.int (52 : Int32)), (.ref o)])
  refine own_st (fun _ kk_ => XS.iloadN X2.here hx rfl (hb hby d9_19) rfl (XS.iadd X2.here hx rfl (hb hby d9_20) rfl kk_)) ?_
  show own_Goes _ _ _ _ _ _ _ T2 (mkF m 21 #[rv o, rv a, iv (3 : Int32)] [(.int (55 : Int32)), (.ref o)])
  obtain ⟨cq3, q3, q3'⟩ := p_0.cell
  obtain ⟨_, _, ⟨T3, L3, k3, n3⟩, -, X3, ⟨Lc3, hQ3, l3, y3, z3⟩, st3⟩ := X2.privateBack hx (y := yy14) hown (mvT hZ (own_w hw 85 rfl)) (mvT hZ (own_w hw 86 rfl)) (own_selp (mvT hZ (own_w hw 88 rfl)) (Cond.privateMethod_at (mvP hZ (own_w hw 87 rfl) (args := #[]))) (mvT hZ (own_w hw 86 rfl)) (by decide)) (Cond.privateMethod_at (mvP hZ (own_w hw 87 rfl) (args := #[]))) (mvT hZ (own_w hw 89 rfl)) (by decide) (backOf (W := 0) (rmECs0 l Z a0 hw [] (o) (d) (kd) (vs1) h0 n0 Z0 p_0 p_1 p_2 p_5) hZ (own_w hw 89 rfl) (own_w hw 51 rfl) (by decide) (by decide)) (g := (mkF m 21 #[rv o, rv a, iv (3 : Int32)] [(.int (55 : Int32)), (.ref o)])) rfl (by rw [hml]; rfl) (Steps.refl _) (a := o) (by rw [e2]; exact q3) q3' (argsL := [(.int (55 : Int32))]) (rest := []) (lenOf pd_2 rfl) rfl (by show 2 * 0 + _ ≤ _; exact Nat.le_of_eq rfl) (hb hby d9_21) (fun _ _ => ⟨rfl, e2, (by decide : 0 + 0 ≤ _), (by decide : 0 + 0 ≤ _)⟩)
  dsimp only [Pt.U, Pt.locs, Pt.cells, Pt.slots] at X3 l3 y3 z3 st3 hQ3
  subst l3 y3 z3
  obtain ⟨rfl, Nq3, eq3⟩ := hQ3
  have N3 := Fr.app N1 Nq3
  refine own_st (fun _ kk_ => st3.trans kk_) ?_
  show own_Goes _ _ _ _ _ _ _ T3 (mkF m 24 #[rv o, rv a, iv (3 : Int32)] [])
  refine own_st (fun _ kk_ => XS.aloadN X3.here hx rfl (hb hby d9_24) rfl rfl (XS.aloadN X3.here hx rfl (hb hby d9_25) rfl rfl kk_)) ?_
  show own_Goes _ _ _ _ _ _ _ T3 (mkF m 26 #[rv o, rv a, iv (3 : Int32)] [(.ref o), (.ref o)])
  obtain ⟨T4, X4, e4, st4⟩ := getF X3 hx hZ hown (host := "") (Or.inl (own_w hw 83 rfl)) Via.refl eq3 p_3 (g := (mkF m 26 #[rv o, rv a, iv (3 : Int32)] [(.ref o), (.ref o)])) rfl rfl (hb hby d9_26)
  refine own_st st4 ?_
  show own_Goes _ _ _ _ _ _ _ T4 (mkF m 29 #[rv o, rv a, iv (3 : Int32)] [(.int (52 : Int32)), (.ref o)])
  refine own_st (fun _ kk_ => XS.aloadN X4.here hx rfl (hb hby d9_29) rfl rfl kk_) ?_
  show own_Goes _ _ _ _ _ _ _ T4 (mkF m 30 #[rv o, rv a, iv (3 : Int32)] [(.ref a), (.int (52 : Int32)), (.ref o)])
  obtain ⟨cq5, q5, q5'⟩ := p_0.cell
  obtain ⟨_, _, ⟨T5, L5, k5, n5⟩, -, X5, ⟨Lc5, hQ5, l5, y5, z5⟩, st5⟩ := X4.privateBack hx (y := yy10) hown (mvT hZ (own_w hw 116 rfl)) (mvT hZ (own_w hw 117 rfl)) (own_selp (mvT hZ (own_w hw 119 rfl)) (Cond.privateMethod_at (mvP hZ (own_w hw 118 rfl) (args := #[]))) (mvT hZ (own_w hw 117 rfl)) (by decide)) (Cond.privateMethod_at (mvP hZ (own_w hw 118 rfl) (args := #[]))) (mvT hZ (own_w hw 120 rfl)) (by decide) (backOf (W := 0) (rmPSs0 l Z a0 hw [] (o) (a) (d) (kd) (vs1) (b) (kb) (vs2) (cs) h0 n0 Z0 p_0 p_1 p_2 p_6 p_7 p_8 p_9 p_10 (by assumption) p_5 p_14 hl) hZ (own_w hw 120 rfl) (own_w hw 51 rfl) (by decide) (by decide)) (g := (mkF m 30 #[rv o, rv a, iv (3 : Int32)] [(.ref a), (.int (52 : Int32)), (.ref o)])) rfl (by rw [hml]; rfl) (Steps.refl _) (a := o) (by rw [e4]; exact q5) q5' (argsL := [(.int (52 : Int32)), (.ref a)]) (rest := []) (lenOf pd_10 rfl) rfl (by show 2 * 0 + _ ≤ _; exact Nat.le_of_eq rfl) (hb hby d9_30) (fun _ _ => ⟨rfl, e4, (by decide : 0 + 0 ≤ _), (by decide : 0 + 0 ≤ _)⟩)
  dsimp only [Pt.U, Pt.locs, Pt.cells, Pt.slots] at X5 l5 y5 z5 st5 hQ5
  subst l5 y5 z5
  obtain ⟨rfl, Nq5, Kq5, u5_0⟩ := hQ5
  have N5 := Fr.app N3 Nq5
  have f5_0 := p_0.keep Kq5
  have f5_1 := p_1.keep Kq5 (ninS p_15 nin0)
  have f5_2 := p_2.keep Kq5 (ninS p_15 nin0)
  have f5_3 := p_3.keep Kq5 (ninS p_15 nin0)
  have f5_5 := p_6.keep Kq5
  have f5_9 := own_Sta_keep p_10 Kq5 (nsS p_5.nostat ns0)
  have Zs5 : n0 ≤ T5.heap.size := Nat.le_trans Z0 Kq5.1
  have K5 := (Keep.refl h0 [o, d]).trans Kq5 (allS (Or.inl (List.mem_of_getElem? (i := 1) rfl)) all0)
  refine own_st (fun _ kk_ => st5.trans kk_) ?_
  show own_Goes _ _ _ _ _ _ _ T5 (mkF m 33 #[rv o, rv a, iv (3 : Int32)] [])
  refine own_st (fun _ kk_ => XS.aloadN X5.here hx rfl (hb hby d9_33) rfl rfl (XS.dup X5.here hx rfl (hb hby d9_34) rfl rfl kk_)) ?_
  show own_Goes _ _ _ _ _ _ _ T5 (mkF m 35 #[rv o, rv a, iv (3 : Int32)] [(.ref o), (.ref o)])
  obtain ⟨T6, X6, e6, st6⟩ := getF X5 hx hZ hown (host := "") (Or.inl (own_w hw 83 rfl)) Via.refl rfl f5_3 (g := (mkF m 35 #[rv o, rv a, iv (3 : Int32)] [(.ref o), (.ref o)])) rfl rfl (hb hby d9_35)
  refine own_st st6 ?_
  show own_Goes _ _ _ _ _ _ _ T6 (mkF m 38 #[rv o, rv a, iv (3 : Int32)] [(.int (52 : Int32)), (.ref o)])
  refine own_st (fun _ kk_ => XS.iloadN X6.here hx rfl (hb hby d9_38) rfl (XS.iadd X6.here hx rfl (hb hby d9_39) rfl kk_)) ?_
  show own_Goes _ _ _ _ _ _ _ T6 (mkF m 40 #[rv o, rv a, iv (3 : Int32)] [(.int (55 : Int32)), (.ref o)])
  obtain ⟨T7, h7, X7, e7, W7, st7⟩ := putF X6 hx hZ hown (host := "") (Or.inl (own_w hw 83 rfl)) Via.refl e6 f5_3 f5_0 (Or.inl (own_w hw 84 rfl)) (own_w hw 42 rfl) (ty := .int) (by decide) rfl rfl (g := (mkF m 40 #[rv o, rv a, iv (3 : Int32)] [(.int (55 : Int32)), (.ref o)])) rfl rfl (hb hby d9_40)
  have fw7 : Fld Z h7 o "java/lang/AbstractStringBuilder" "count" "I" (.int (55 : Int32)) := f5_3.same W7
  have f7_0 := f5_0.wr W7
  have f7_1 := f5_1.other W7 (Or.inr (slot_ne (Or.inl (own_w hw 56 rfl)) (Or.inl (own_w hw 84 rfl)) (by decide) (t := (.array .byte)) (t' := .int) (by decide) (by decide)))
  have f7_2 := f5_2.other W7 (Or.inr (slot_ne (Or.inl (own_w hw 58 rfl)) (Or.inl (own_w hw 84 rfl)) (by decide) (t := .byte) (t' := .int) (by decide) (by decide)))
  have f7_4 := f5_5.wr W7
  have f7_5 := f5_9.wr W7
  have f7_6 := u5_0.other W7 (Ne.symm p_15)
  have Zs7 : n0 ≤ h7.size := Nat.le_trans Zs5 (Nat.le_of_eq W7.size.symm)
  have K7 := K5.wr W7 (Or.inl (List.mem_of_getElem? (i := 0) rfl))
  have N7 := Fr.snoc X7 N5 p_4
  refine own_st st7 ?_
  show own_Goes _ _ _ _ _ _ _ T7 (mkF m 43 #[rv o, rv a, iv (3 : Int32)] [])
  refine own_st (fun _ kk_ => XS.aloadN X7.here hx rfl (hb hby d9_43) rfl rfl kk_) ?_
  show own_Goes _ _ _ _ _ _ _ T7 (mkF m 44 #[rv o, rv a, iv (3 : Int32)] [(.ref o)])
  refine own_retA X7 hx hlk rfl Bd.returns rfl (hb hby d9_44) (by decide) (by decide) ?_
  show QAAs0 Z o a d kd vs1 b kb vs2 cs h0 n0 (some (.ref o)) T7.heap _
  rw [e7]
  exact ⟨rfl, N7, K7, f7_0, f7_1, f7_2, fw7, f7_6⟩
abbrev rRrmSAs0 : Room := { frames := 4, cells := 0, slots := 0, locals := 61 }
theorem pn_rmSAs0 : plainFor yy16 = true := by first | exact plainFor_of_name (by first | (simp [plainName, overriddenIn]; done) | decide +kernel) | decide +kernel
theorem ef_rmSAs0 (m : MethodId) (o : Addr) (a : Addr) : entryFrame m #[(.ref o), (.ref a)] 2 = (mkF m 0 #[rv o, rv a] []) := by first | (simp [entryFrame, mkF, argsToLocals, Value.category]; done) | rfl
def QSAs0 (Z : State) (o : Addr) (a : Addr) (d : Addr) (kd : ClassId) (vs1 : List Value) (b : Addr) (kb : ClassId) (vs2 : List Value) (cs : Int32) (h0 : Heap) (n0 : Nat) (v_ : Option Value) (h_ : Heap) (L_ : List Loc) : Prop := (v_ = some (.ref o)) ∧ (Fr n0 L_) ∧ (Keep h0 h_ [o, d]) ∧ (Exa Z h_ o "java/lang/StringBuilder") ∧ (Fld Z h_ o "java/lang/AbstractStringBuilder" "value" "[B" (.ref d)) ∧ (Fld Z h_ o "java/lang/AbstractStringBuilder" "coder" "B" (.int (0 : Int32))) ∧ (Fld Z h_ o "java/lang/AbstractStringBuilder" "count" "I" (.int (55 : Int32))) ∧ (Arv Z h_ d kd .byte (80 : Int32) (own_cp vs2 vs1 (0 : Int32) (52 : Int32) (3 : Int32) (.int (0 : Int32))) (.int (0 : Int32)))
set_option maxRecDepth 65536 in
set_option maxHeartbeats 40000000 in
theorem rmSAs0 (l : Launch) (Z : State) (a0 : Array Value) (hw : ∀ d ∈ tables_1, d.before a0 Z = true) (ws : List Jvm.Cond) (o : Addr) (a : Addr) (d : Addr) (kd : ClassId) (vs1 : List Value) (b : Addr) (kb : ClassId) (vs2 : List Value) (cs : Int32) (h0 : Heap) (n0 : Nat) (Z0 : n0 ≤ h0.size) (p_0 : Exa Z h0 o "java/lang/StringBuilder") (p_1 : Fld Z h0 o "java/lang/AbstractStringBuilder" "value" "[B" (.ref d)) (p_2 : Fld Z h0 o "java/lang/AbstractStringBuilder" "coder" "B" (.int (0 : Int32))) (p_3 : Fld Z h0 o "java/lang/AbstractStringBuilder" "count" "I" (.int (52 : Int32))) (p_4 : n0 ≤ o) (p_5 : Arv Z h0 d kd .byte (80 : Int32) vs1 (.int (0 : Int32))) (p_6 : Exa Z h0 a "java/lang/String") (p_7 : Fld Z h0 a "java/lang/String" "coder" "B" (.int (0 : Int32))) (p_8 : Fld Z h0 a "java/lang/String" "value" "[B" (.ref b)) (p_9 : Arv Z h0 b kb .byte (3 : Int32) vs2 (.int (0 : Int32))) (p_10 : Sta Z h0 "java/lang/String" "COMPACT_STRINGS" "Z" (.int cs)) (hcs : ¬ cs = (0 : Int32)) (p_12 : o ≠ a) (p_13 : o ≠ b) (p_14 : n0 ≤ d) (p_15 : o ≠ d) (hl : (52 : Int32).toNatClampNeg + (3 : Int32).toNatClampNeg ≤ vs1.length) :
    MetFree l yy16 (head1 (Jvm.Cond.code yy16 jdk_67_method_7_code 2 (some (.object "java/lang/StringBuilder")) :: ws) rRrmSAs0) (fun a_ U_ => a_ = #[(.ref o), (.ref a)] ∧ Z.Warmed39 U_.vm ∧ U_.heap = h0) (fun _ _ _ _ _ => True) (fun _ U_ o_ U1_ => ∃ v_ L_, o_ = .returned v_ ∧ QSAs0 Z o a d kd vs1 b kb vs2 cs h0 n0 v_ U1_.heap L_ ∧ FrameEnd U_ o_ U1_ L_ rRrmSAs0.cells rRrmSAs0.slots) := by
  refine MetFree.of_bodySF pn_rmSAs0 hisR ?_
  intro p e s m args below meth c s₁ Bd hml0 hP hK
  obtain ⟨rfl, hZ, hh⟩ := hP
  have hx := Bd.exec
  have hby := Bd.bytes
  have hlk : meth.locks = false := Bd.notSynchronized
  have hml : c.maxLocals = 2 := hml0
  have hown : s.vm.findClass "java/lang/StringBuilder" = some m.cls := findClass_of_methodNamed Bd.named
  have hnm := (name_of_methodNamed Bd.named Bd.method).1
  have X0 : Stand p l e rRrmSAs0 s m #[(.ref o), (.ref a)] below meth c s₁ [] 0 0 := Stand.of_body Bd
  have e0 : s₁.heap = h0 := by rw [← hh, Bd.state]; rfl
  have N0 := Fr.nil n0
  show own_Goes p e below s (QSAs0 Z o a d kd vs1 b kb vs2 cs h0 n0) rRrmSAs0.cells rRrmSAs0.slots s₁ (entryFrame m #[(.ref o), (.ref a)] 2)
  rw [ef_rmSAs0 m o a]
  show own_Goes p e below s (QSAs0 Z o a d kd vs1 b kb vs2 cs h0 n0) rRrmSAs0.cells rRrmSAs0.slots s₁ (mkF m 0 #[rv o, rv a] [])
  refine own_st (fun _ kk_ => XS.aloadN X0.here hx rfl (hb hby d8_0) rfl rfl (XS.aloadN X0.here hx rfl (hb hby d8_1) rfl rfl kk_)) ?_
  show own_Goes _ _ _ _ _ _ _ s₁ (mkF m 2 #[rv o, rv a] [(.ref a), (.ref o)])
  obtain ⟨_, _, ⟨T1, L1, k1, n1⟩, -, X1, ⟨Lc1, hQ1, l1, y1, z1⟩, st1⟩ := superBack X0 hx hZ (y := yy15) hown (own_w hw 65 rfl) (own_smo (own_w hw 88 rfl) rfl (own_w hw 66 rfl) (by decide)) (own_w hw 66 rfl) (own_w hw 67 rfl) (by decide) (backOf (W := 0) (rmAAs0 l Z a0 hw [] (o) (a) (d) (kd) (vs1) (b) (kb) (vs2) (cs) h0 n0 Z0 p_0 p_1 p_2 p_3 p_4 p_5 p_6 p_7 p_8 p_9 p_10 (by assumption) p_12 p_13 p_14 p_15 hl) hZ (own_w hw 69 rfl) (own_w hw 51 rfl) (by decide) (by decide)) e0 (Ins.self p_0) (g := (mkF m 2 #[rv o, rv a] [(.ref a), (.ref o)])) rfl (by rw [hml]; rfl) (own_w hw 69 rfl) (argsL := [(.ref a)]) (rest := []) (lenOf pd_11 rfl) rfl (by show 2 * 0 + _ ≤ _; exact Nat.le_of_eq rfl) (hb hby d8_2) (fun _ _ => ⟨rfl, e0, (by decide : 0 + 0 ≤ _), (by decide : 0 + 0 ≤ _)⟩)
  dsimp only [Pt.U, Pt.locs, Pt.cells, Pt.slots] at X1 l1 y1 z1 st1 hQ1
  subst l1 y1 z1
  obtain ⟨rfl, Nq1, Kq1, u1_0, u1_1, u1_2, u1_3, u1_4⟩ := hQ1
  have N1 := Fr.app N0 Nq1
  have f1_0 := p_0.keep Kq1
  have f1_5 := p_6.keep Kq1
  have f1_9 := own_Sta_keep p_10 Kq1 (nsS p_0.nostat (nsS p_5.nostat ns0))
  have Zs1 : n0 ≤ T1.heap.size := Nat.le_trans Z0 Kq1.1
  have K1 := (Keep.refl h0 [o, d]).trans Kq1 (allS (Or.inl (List.mem_of_getElem? (i := 0) rfl)) (allS (Or.inl (List.mem_of_getElem? (i := 1) rfl)) all0))
  refine own_st (fun _ kk_ => st1.trans kk_) ?_
  show own_Goes _ _ _ _ _ _ _ T1 (mkF m 5 #[rv o, rv a] [(.ref o)])
  refine own_st (fun _ kk_ => XS.pop X1.here hx rfl (hb hby d8_5) rfl rfl (XS.aloadN X1.here hx rfl (hb hby d8_6) rfl rfl kk_)) ?_
  show own_Goes _ _ _ _ _ _ _ T1 (mkF m 7 #[rv o, rv a] [(.ref o)])
  refine own_retA X1 hx hlk rfl Bd.returns rfl (hb hby d8_7) (by decide) (by decide) ?_
  show QSAs0 Z o a d kd vs1 b kb vs2 cs h0 n0 (some (.ref o)) T1.heap _
  exact ⟨rfl, N1, K1, u1_0, u1_1, u1_2, u1_3, u1_4⟩
abbrev rRrmGBs1 : Room := { frames := 1, cells := 0, slots := 0, locals := 18 }
theorem pn_rmGBs1 : plainFor yy9 = true := by first | exact plainFor_of_name (by first | (simp [plainName, overriddenIn]; done) | decide +kernel) | decide +kernel
theorem ef_rmGBs1 (m : MethodId) (a : Addr) (d : Addr) : entryFrame m #[(.ref a), (.ref d), (.int (57 : Int32)), (.int (0 : Int32))] 4 = (mkF m 0 #[rv a, rv d, iv (57 : Int32), iv (0 : Int32)] []) := by first | (simp [entryFrame, mkF, argsToLocals, Value.category]; done) | rfl
def QGBs1 (Z : State) (a : Addr) (d : Addr) (kd : ClassId) (vs1 : List Value) (b : Addr) (kb : ClassId) (vs2 : List Value) (cs : Int32) (h0 : Heap) (n0 : Nat) (v_ : Option Value) (h_ : Heap) (L_ : List Loc) : Prop := (v_ = none) ∧ (Fr n0 L_) ∧ (Keep h0 h_ [d]) ∧ (Arv Z h_ d kd .byte (80 : Int32) (own_cp vs2 vs1 (0 : Int32) (57 : Int32) (3 : Int32) (.int (0 : Int32))) (.int (0 : Int32)))
set_option maxRecDepth 65536 in
set_option maxHeartbeats 40000000 in
theorem rmGBs1 (l : Launch) (Z : State) (a0 : Array Value) (hw : ∀ d ∈ tables_1, d.before a0 Z = true) (ws : List Jvm.Cond) (a : Addr) (d : Addr) (kd : ClassId) (vs1 : List Value) (b : Addr) (kb : ClassId) (vs2 : List Value) (cs : Int32) (h0 : Heap) (n0 : Nat) (Z0 : n0 ≤ h0.size) (p_0 : Exa Z h0 a "java/lang/String") (p_1 : Fld Z h0 a "java/lang/String" "coder" "B" (.int (0 : Int32))) (p_2 : Fld Z h0 a "java/lang/String" "value" "[B" (.ref b)) (p_3 : Arv Z h0 b kb .byte (3 : Int32) vs2 (.int (0 : Int32))) (p_4 : Sta Z h0 "java/lang/String" "COMPACT_STRINGS" "Z" (.int cs)) (hcs : ¬ cs = (0 : Int32)) (p_6 : Arv Z h0 d kd .byte (80 : Int32) vs1 (.int (0 : Int32))) (p_7 : n0 ≤ d) (hl : (57 : Int32).toNatClampNeg + (3 : Int32).toNatClampNeg ≤ vs1.length) :
    MetFree l yy9 (head1 (Jvm.Cond.code yy9 jdk_42_method_147_code 4 none :: ws) rRrmGBs1) (fun a_ U_ => a_ = #[(.ref a), (.ref d), (.int (57 : Int32)), (.int (0 : Int32))] ∧ Z.Warmed39 U_.vm ∧ U_.heap = h0) (fun _ _ _ _ _ => True) (fun _ U_ o_ U1_ => ∃ v_ L_, o_ = .returned v_ ∧ QGBs1 Z a d kd vs1 b kb vs2 cs h0 n0 v_ U1_.heap L_ ∧ FrameEnd U_ o_ U1_ L_ rRrmGBs1.cells rRrmGBs1.slots) := by
  refine MetFree.of_bodySF pn_rmGBs1 hisR ?_
  intro p e s m args below meth c s₁ Bd hml0 hP hK
  obtain ⟨rfl, hZ, hh⟩ := hP
  have hx := Bd.exec
  have hby := Bd.bytes
  have hlk : meth.locks = false := Bd.notSynchronized
  have hml : c.maxLocals = 4 := hml0
  have hown : s.vm.findClass "java/lang/String" = some m.cls := findClass_of_methodNamed Bd.named
  have hnm := (name_of_methodNamed Bd.named Bd.method).1
  have X0 : Stand p l e rRrmGBs1 s m #[(.ref a), (.ref d), (.int (57 : Int32)), (.int (0 : Int32))] below meth c s₁ [] 0 0 := Stand.of_body Bd
  have e0 : s₁.heap = h0 := by rw [← hh, Bd.state]; rfl
  have N0 := Fr.nil n0
  show own_Goes p e below s (QGBs1 Z a d kd vs1 b kb vs2 cs h0 n0) rRrmGBs1.cells rRrmGBs1.slots s₁ (entryFrame m #[(.ref a), (.ref d), (.int (57 : Int32)), (.int (0 : Int32))] 4)
  rw [ef_rmGBs1 m a d]
  show own_Goes p e below s (QGBs1 Z a d kd vs1 b kb vs2 cs h0 n0) rRrmGBs1.cells rRrmGBs1.slots s₁ (mkF m 0 #[rv a, rv d, iv (57 : Int32), iv (0 : Int32)] [])
  refine own_st (fun _ kk_ => XS.aloadN X0.here hx rfl (hb hby d20_0) rfl rfl kk_) ?_
  show own_Goes _ _ _ _ _ _ _ s₁ (mkF m 1 #[rv a, rv d, iv (57 : Int32), iv (0 : Int32)] [(.ref a)])
  obtain ⟨cq1, kq1, q1a, q1b, q1c⟩ := isOf hZ e0 p_0
  obtain ⟨_, _, ⟨T1, L1, k1, n1⟩, -, X1, ⟨Lc1, hQ1, l1, y1, z1⟩, st1⟩ := X0.virtualBack hx (y := yy0) (z := yy0) hown (mvT hZ (own_w hw 76 rfl)) (mvT hZ (own_w hw 77 rfl)) (notFace_of_selects (args := #[]) (mvT hZ (own_w hw 79 rfl))) (mvT hZ (own_w hw 79 rfl)) (mvT hZ (own_w hw 78 rfl)) (by decide) (backOf (W := 0) (rm11 l Z a0 hw [] (a) (cs) h0 n0 Z0 p_1 p_4 (by assumption)) hZ (own_w hw 80 rfl) (own_w hw 19 rfl) (by decide) (by decide)) q1a q1c (g := (mkF m 1 #[rv a, rv d, iv (57 : Int32), iv (0 : Int32)] [(.ref a)])) rfl (by rw [hml]; rfl) (Steps.refl _) (argsL := []) (rest := []) (lenOf pd_0 rfl) rfl (by show 2 * 0 + _ ≤ _; exact Nat.le_of_eq rfl) (hb hby d20_1) (fun _ _ => ⟨rfl, e0, (by decide : 0 + 0 ≤ _), (by decide : 0 + 0 ≤ _)⟩)
  dsimp only [Pt.U, Pt.locs, Pt.cells, Pt.slots] at X1 l1 y1 z1 st1 hQ1
  subst l1 y1 z1
  obtain ⟨rfl, Nq1, eq1⟩ := hQ1
  have N1 := Fr.app N0 Nq1
  refine own_st (fun _ kk_ => st1.trans kk_) ?_
  show own_Goes _ _ _ _ _ _ _ T1 (mkF m 4 #[rv a, rv d, iv (57 : Int32), iv (0 : Int32)] [(.int (0 : Int32))])
  refine own_st (fun _ kk_ => XS.iloadN X1.here hx rfl (hb hby d20_4) rfl (XS.icmpNo X1.here hx rfl (hb hby d20_5) rfl (XT.ii_ne_f (by decide)) (XS.aloadN X1.here hx rfl (hb hby d20_8) rfl rfl kk_))) ?_
  show own_Goes _ _ _ _ _ _ _ T1 (mkF m 9 #[rv a, rv d, iv (57 : Int32), iv (0 : Int32)] [(.ref a)])
  obtain ⟨T2, X2, e2, st2⟩ := getF X1 hx hZ hown (host := "") (Or.inl (own_w hw 75 rfl)) Via.refl eq1 p_2 (g := (mkF m 9 #[rv a, rv d, iv (57 : Int32), iv (0 : Int32)] [(.ref a)])) rfl rfl (hb hby d20_9)
  refine own_st st2 ?_
  show own_Goes _ _ _ _ _ _ _ T2 (mkF m 12 #[rv a, rv d, iv (57 : Int32), iv (0 : Int32)] [(.ref b)])
  refine own_st (fun _ kk_ => XS.iconst X2.here hx rfl (hb hby d20_12) (XS.aloadN X2.here hx rfl (hb hby d20_13) rfl rfl (XS.iloadN X2.here hx rfl (hb hby d20_14) rfl (XS.iloadN X2.here hx rfl (hb hby d20_15) rfl (XS.ishl X2.here hx rfl (hb hby d20_16) rfl (XS.aloadN X2.here hx rfl (hb hby d20_17) rfl rfl kk_)))))) ?_
  show own_Goes _ _ _ _ _ _ _ T2 (mkF m 18 #[rv a, rv d, iv (57 : Int32), iv (0 : Int32)] [(.ref a), (.int (57 : Int32)), (.ref d), (.int (0 : Int32)), (.ref b)])
  obtain ⟨T3, X3, e3, st3⟩ := getF X2 hx hZ hown (host := "") (Or.inl (own_w hw 75 rfl)) Via.refl e2 p_2 (g := (mkF m 18 #[rv a, rv d, iv (57 : Int32), iv (0 : Int32)] [(.ref a), (.int (57 : Int32)), (.ref d), (.int (0 : Int32)), (.ref b)])) rfl rfl (hb hby d20_18)
  refine own_st st3 ?_
  show own_Goes _ _ _ _ _ _ _ T3 (mkF m 21 #[rv a, rv d, iv (57 : Int32), iv (0 : Int32)] [(.ref b), (.int (57 : Int32)), (.ref d), (.int (0 : Int32)), (.ref b)])
  obtain ⟨cl4, Ar4, -, Sz4, Nn4, -, -⟩ := id p_3
  refine own_st (fun _ kk_ => X3.arraylength hx (by rw [e3]; exact Ar4.1) (State.isArrayOf_alike hZ.alike Ar4.2.1) (g := (mkF m 21 #[rv a, rv d, iv (57 : Int32), iv (0 : Int32)] [(.ref b), (.int (57 : Int32)), (.ref d), (.int (0 : Int32)), (.ref b)])) rfl rfl (hb hby d20_21) _ kk_) ?_
  rw [len_of Sz4 Nn4]
  show own_Goes _ _ _ _ _ _ _ T3 (mkF m 22 #[rv a, rv d, iv (57 : Int32), iv (0 : Int32)] [(.int (3 : Int32)), (.int (57 : Int32)), (.ref d), (.int (0 : Int32)), (.ref b)])
  obtain ⟨T5, h5, L5, X5, e5, N5, Kp5, A5, st5⟩ := cpA X3 hx hZ hown (own_w hw 132 rfl) (own_w hw 115 rfl) (own_w hw 113 rfl) (own_w hw 114 rfl) e3 p_3 p_6 (Or.inl ⟨rfl, rfl⟩) (by decide) (by decide) (by decide) (by decide) (by decide) rfl hl N1 p_7 (g := (mkF m 22 #[rv a, rv d, iv (57 : Int32), iv (0 : Int32)] [(.int (3 : Int32)), (.int (57 : Int32)), (.ref d), (.int (0 : Int32)), (.ref b)])) rfl (by rw [hml]; rfl) (rest := []) rfl (hb hby d20_22) (by decide) (W := 0) (by show 2 * 0 + _ ≤ _; exact Nat.le_of_eq rfl) (by decide)
  have f5_0 := p_0.keep Kp5
  have f5_4 := own_Sta_keep p_4 Kp5 (nsS p_6.nostat ns0)
  have Zs5 : n0 ≤ h5.size := Nat.le_trans Z0 Kp5.1
  have K5 := (Keep.refl h0 [d]).trans Kp5 (allS (Or.inl (List.mem_of_getElem? (i := 0) rfl)) all0)
  have V5 : Arv Z h5 d kd .byte (80 : Int32) (own_cp vs2 vs1 (0 : Int32) (57 : Int32) (3 : Int32) (.int (0 : Int32))) (.int (0 : Int32)) := A5
  refine own_st st5 ?_
  show own_Goes _ _ _ _ _ _ _ T5 (mkF m 25 #[rv a, rv d, iv (57 : Int32), iv (0 : Int32)] [])
  refine own_st (fun _ kk_ => XS.goto X5.here hx rfl (pc0 := 25) (pc' := 43) rfl (hb hby d20_25) (by decide) (by decide) kk_) ?_
  show own_Goes _ _ _ _ _ _ _ T5 (mkF m 43 #[rv a, rv d, iv (57 : Int32), iv (0 : Int32)] [])
  refine own_ret0 X5 hx hlk Bd.returns (hb hby d20_43) (by decide) (by decide) ?_
  show QGBs1 Z a d kd vs1 b kb vs2 cs h0 n0 none T5.heap _
  rw [e5]
  exact ⟨rfl, N5, K5, V5⟩
abbrev rRrmPSs1 : Room := { frames := 2, cells := 0, slots := 0, locals := 33 }
theorem pn_rmPSs1 : plainFor yy10 = true := by first | exact plainFor_of_name (by first | (simp [plainName, overriddenIn]; done) | decide +kernel) | decide +kernel
theorem ef_rmPSs1 (m : MethodId) (o : Addr) (a : Addr) : entryFrame m #[(.ref o), (.int (57 : Int32)), (.ref a)] 3 = (mkF m 0 #[rv o, iv (57 : Int32), rv a] []) := by first | (simp [entryFrame, mkF, argsToLocals, Value.category]; done) | rfl
def QPSs1 (Z : State) (o : Addr) (a : Addr) (d : Addr) (kd : ClassId) (vs1 : List Value) (b : Addr) (kb : ClassId) (vs2 : List Value) (cs : Int32) (h0 : Heap) (n0 : Nat) (v_ : Option Value) (h_ : Heap) (L_ : List Loc) : Prop := (v_ = none) ∧ (Fr n0 L_) ∧ (Keep h0 h_ [d]) ∧ (Arv Z h_ d kd .byte (80 : Int32) (own_cp vs2 vs1 (0 : Int32) (57 : Int32) (3 : Int32) (.int (0 : Int32))) (.int (0 : Int32)))
set_option maxRecDepth 65536 in
set_option maxHeartbeats 40000000 in
theorem rmPSs1 (l : Launch) (Z : State) (a0 : Array Value) (hw : ∀ d ∈ tables_1, d.before a0 Z = true) (ws : List Jvm.Cond) (o : Addr) (a : Addr) (d : Addr) (kd : ClassId) (vs1 : List Value) (b : Addr) (kb : ClassId) (vs2 : List Value) (cs : Int32) (h0 : Heap) (n0 : Nat) (Z0 : n0 ≤ h0.size) (p_0 : Exa Z h0 o "java/lang/StringBuilder") (p_1 : Fld Z h0 o "java/lang/AbstractStringBuilder" "value" "[B" (.ref d)) (p_2 : Fld Z h0 o "java/lang/AbstractStringBuilder" "coder" "B" (.int (0 : Int32))) (p_3 : Exa Z h0 a "java/lang/String") (p_4 : Fld Z h0 a "java/lang/String" "coder" "B" (.int (0 : Int32))) (p_5 : Fld Z h0 a "java/lang/String" "value" "[B" (.ref b)) (p_6 : Arv Z h0 b kb .byte (3 : Int32) vs2 (.int (0 : Int32))) (p_7 : Sta Z h0 "java/lang/String" "COMPACT_STRINGS" "Z" (.int cs)) (hcs : ¬ cs = (0 : Int32)) (p_9 : Arv Z h0 d kd .byte (80 : Int32) vs1 (.int (0 : Int32))) (p_10 : n0 ≤ d) (hl : (57 : Int32).toNatClampNeg + (3 : Int32).toNatClampNeg ≤ vs1.length) :
    MetFree l yy10 (head1 (Jvm.Cond.code yy10 jdk_68_method_73_code 3 none :: ws) rRrmPSs1) (fun a_ U_ => a_ = #[(.ref o), (.int (57 : Int32)), (.ref a)] ∧ Z.Warmed39 U_.vm ∧ U_.heap = h0) (fun _ _ _ _ _ => True) (fun _ U_ o_ U1_ => ∃ v_ L_, o_ = .returned v_ ∧ QPSs1 Z o a d kd vs1 b kb vs2 cs h0 n0 v_ U1_.heap L_ ∧ FrameEnd U_ o_ U1_ L_ rRrmPSs1.cells rRrmPSs1.slots) := by
  refine MetFree.of_bodySF pn_rmPSs1 hisR ?_
  intro p e s m args below meth c s₁ Bd hml0 hP hK
  obtain ⟨rfl, hZ, hh⟩ := hP
  have hx := Bd.exec
  have hby := Bd.bytes
  have hlk : meth.locks = false := Bd.notSynchronized
  have hml : c.maxLocals = 3 := hml0
  have hown : s.vm.findClass "java/lang/AbstractStringBuilder" = some m.cls := findClass_of_methodNamed Bd.named
  have hnm := (name_of_methodNamed Bd.named Bd.method).1
  have X0 : Stand p l e rRrmPSs1 s m #[(.ref o), (.int (57 : Int32)), (.ref a)] below meth c s₁ [] 0 0 := Stand.of_body Bd
  have e0 : s₁.heap = h0 := by rw [← hh, Bd.state]; rfl
  have N0 := Fr.nil n0
  show own_Goes p e below s (QPSs1 Z o a d kd vs1 b kb vs2 cs h0 n0) rRrmPSs1.cells rRrmPSs1.slots s₁ (entryFrame m #[(.ref o), (.int (57 : Int32)), (.ref a)] 3)
  rw [ef_rmPSs1 m o a]
  show own_Goes p e below s (QPSs1 Z o a d kd vs1 b kb vs2 cs h0 n0) rRrmPSs1.cells rRrmPSs1.slots s₁ (mkF m 0 #[rv o, iv (57 : Int32), rv a] [])
  refine own_st (fun _ kk_ => XS.aloadN X0.here hx rfl (hb hby d18_0) rfl rfl (XS.aloadN X0.here hx rfl (hb hby d18_1) rfl rfl kk_)) ?_
  show own_Goes _ _ _ _ _ _ _ s₁ (mkF m 2 #[rv o, iv (57 : Int32), rv a] [(.ref a), (.ref o)])
  obtain ⟨cq1, q1, q1'⟩ := p_0.cell
  obtain ⟨_, _, ⟨T1, L1, k1, n1⟩, -, X1, ⟨Lc1, hQ1, l1, y1, z1⟩, st1⟩ := X0.privateBack hx (y := yy8) hown (mvT hZ (own_w hw 121 rfl)) (mvT hZ (own_w hw 122 rfl)) (own_selp (mvT hZ (own_w hw 124 rfl)) (Cond.privateMethod_at (mvP hZ (own_w hw 123 rfl) (args := #[]))) (mvT hZ (own_w hw 122 rfl)) (by decide)) (Cond.privateMethod_at (mvP hZ (own_w hw 123 rfl) (args := #[]))) (mvT hZ (own_w hw 125 rfl)) (by decide) (backOf (W := 0) (rm19 l Z a0 hw [] (o) (a) (cs) h0 n0 Z0 p_0 p_2 p_3 p_4 p_7 (by assumption)) hZ (own_w hw 125 rfl) (own_w hw 51 rfl) (by decide) (by decide)) (g := (mkF m 2 #[rv o, iv (57 : Int32), rv a] [(.ref a), (.ref o)])) rfl (by rw [hml]; rfl) (Steps.refl _) (a := o) (by rw [e0]; exact q1) q1' (argsL := [(.ref a)]) (rest := []) (lenOf pd_3 rfl) rfl (by show 2 * 0 + _ ≤ _; exact Nat.le_of_eq rfl) (hb hby d18_2) (fun _ _ => ⟨rfl, e0, (by decide : 0 + 0 ≤ _), (by decide : 0 + 0 ≤ _)⟩)
  dsimp only [Pt.U, Pt.locs, Pt.cells, Pt.slots] at X1 l1 y1 z1 st1 hQ1
  subst l1 y1 z1
  obtain ⟨rfl, Nq1, eq1⟩ := hQ1
  have N1 := Fr.app N0 Nq1
  refine own_st (fun _ kk_ => st1.trans kk_) ?_
  show own_Goes _ _ _ _ _ _ _ T1 (mkF m 5 #[rv o, iv (57 : Int32), rv a] [])
  refine own_st (fun _ kk_ => XS.aloadN X1.here hx rfl (hb hby d18_5) rfl rfl (XS.aloadN X1.here hx rfl (hb hby d18_6) rfl rfl kk_)) ?_
  show own_Goes _ _ _ _ _ _ _ T1 (mkF m 7 #[rv o, iv (57 : Int32), rv a] [(.ref o), (.ref a)])
  obtain ⟨T2, X2, e2, st2⟩ := getF X1 hx hZ hown (host := "") (Or.inl (own_w hw 55 rfl)) Via.refl eq1 p_1 (g := (mkF m 7 #[rv o, iv (57 : Int32), rv a] [(.ref o), (.ref a)])) rfl rfl (hb hby d18_7)
  refine own_st st2 ?_
  show own_Goes _ _ _ _ _ _ _ T2 (mkF m 10 #[rv o, iv (57 : Int32), rv a] [(.ref d), (.ref a)])
  refine own_st (fun _ kk_ => XS.iloadN X2.here hx rfl (hb hby d18_10) rfl (XS.aloadN X2.here hx rfl (hb hby d18_11) rfl rfl kk_)) ?_
  show own_Goes _ _ _ _ _ _ _ T2 (mkF m 12 #[rv o, iv (57 : Int32), rv a] [(.ref o), (.int (57 : Int32)), (.ref d), (.ref a)])
  obtain ⟨T3, X3, e3, st3⟩ := getF X2 hx hZ hown (host := "") (Or.inl (own_w hw 57 rfl)) Via.refl e2 p_2 (g := (mkF m 12 #[rv o, iv (57 : Int32), rv a] [(.ref o), (.int (57 : Int32)), (.ref d), (.ref a)])) rfl rfl (hb hby d18_12)
  refine own_st st3 ?_
  show own_Goes _ _ _ _ _ _ _ T3 (mkF m 15 #[rv o, iv (57 : Int32), rv a] [(.int (0 : Int32)), (.int (57 : Int32)), (.ref d), (.ref a)])
  obtain ⟨cq4, kq4, q4a, q4b, q4c⟩ := isOf hZ e3 p_3
  obtain ⟨_, _, ⟨T4, L4, k4, n4⟩, -, X4, ⟨Lc4, hQ4, l4, y4, z4⟩, st4⟩ := X3.virtualBack hx (y := yy9) (z := yy9) hown (mvT hZ (own_w hw 127 rfl)) (mvT hZ (own_w hw 128 rfl)) (notFace_of_selects (args := #[]) (mvT hZ (own_w hw 130 rfl))) (mvT hZ (own_w hw 130 rfl)) (mvT hZ (own_w hw 129 rfl)) (by decide) (backOf (W := 0) (rmGBs1 l Z a0 hw [] (a) (d) (kd) (vs1) (b) (kb) (vs2) (cs) h0 n0 Z0 p_3 p_4 p_5 p_6 p_7 (by assumption) p_9 p_10 hl) hZ (own_w hw 131 rfl) (own_w hw 19 rfl) (by decide) (by decide)) q4a q4c (g := (mkF m 15 #[rv o, iv (57 : Int32), rv a] [(.int (0 : Int32)), (.int (57 : Int32)), (.ref d), (.ref a)])) rfl (by rw [hml]; rfl) (Steps.refl _) (argsL := [(.ref d), (.int (57 : Int32)), (.int (0 : Int32))]) (rest := []) (lenOf pd_4 rfl) rfl (by show 2 * 0 + _ ≤ _; exact Nat.le_of_eq rfl) (hb hby d18_15) (fun _ _ => ⟨rfl, e3, (by decide : 0 + 0 ≤ _), (by decide : 0 + 0 ≤ _)⟩)
  dsimp only [Pt.U, Pt.locs, Pt.cells, Pt.slots] at X4 l4 y4 z4 st4 hQ4
  subst l4 y4 z4
  obtain ⟨rfl, Nq4, Kq4, u4_0⟩ := hQ4
  have N4 := Fr.app N1 Nq4
  have f4_0 := p_0.keep Kq4
  have f4_3 := p_3.keep Kq4
  have f4_7 := own_Sta_keep p_7 Kq4 (nsS p_9.nostat ns0)
  have Zs4 : n0 ≤ T4.heap.size := Nat.le_trans Z0 Kq4.1
  have K4 := (Keep.refl h0 [d]).trans Kq4 (allS (Or.inl (List.mem_of_getElem? (i := 0) rfl)) all0)
  refine own_st (fun _ kk_ => st4.trans kk_) ?_
  show own_Goes _ _ _ _ _ _ _ T4 (mkF m 18 #[rv o, iv (57 : Int32), rv a] [])
  refine own_ret0 X4 hx hlk Bd.returns (hb hby d18_18) (by decide) (by decide) ?_
  show QPSs1 Z o a d kd vs1 b kb vs2 cs h0 n0 none T4.heap _
  exact ⟨rfl, N4, K4, u4_0⟩
abbrev rRrmECs1 : Room := { frames := 0, cells := 0, slots := 0, locals := 0 }
theorem pn_rmECs1 : plainFor yy14 = true := by first | exact plainFor_of_name (by first | (simp [plainName, overriddenIn]; done) | decide +kernel) | decide +kernel
theorem ef_rmECs1 (m : MethodId) (o : Addr) : entryFrame m #[(.ref o), (.int (60 : Int32))] 3 = (mkF m 0 #[rv o, iv (60 : Int32), .unset] []) := by first | (simp [entryFrame, mkF, argsToLocals, Value.category]; done) | rfl
def QECs1 (Z : State) (o : Addr) (d : Addr) (kd : ClassId) (vs1 : List Value) (h0 : Heap) (n0 : Nat) (v_ : Option Value) (h_ : Heap) (L_ : List Loc) : Prop := (v_ = none) ∧ (Fr n0 L_) ∧ (h_ = h0)
set_option maxRecDepth 65536 in
set_option maxHeartbeats 40000000 in
theorem rmECs1 (l : Launch) (Z : State) (a0 : Array Value) (hw : ∀ d ∈ tables_1, d.before a0 Z = true) (ws : List Jvm.Cond) (o : Addr) (d : Addr) (kd : ClassId) (vs1 : List Value) (h0 : Heap) (n0 : Nat) (Z0 : n0 ≤ h0.size) (p_0 : Exa Z h0 o "java/lang/StringBuilder") (p_1 : Fld Z h0 o "java/lang/AbstractStringBuilder" "value" "[B" (.ref d)) (p_2 : Fld Z h0 o "java/lang/AbstractStringBuilder" "coder" "B" (.int (0 : Int32))) (p_3 : Arv Z h0 d kd .byte (80 : Int32) vs1 (.int (0 : Int32))) :
    MetFree l yy14 (head1 (Jvm.Cond.code yy14 jdk_68_method_9_code 3 none :: ws) rRrmECs1) (fun a_ U_ => a_ = #[(.ref o), (.int (60 : Int32))] ∧ Z.Warmed39 U_.vm ∧ U_.heap = h0) (fun _ _ _ _ _ => True) (fun _ U_ o_ U1_ => ∃ v_ L_, o_ = .returned v_ ∧ QECs1 Z o d kd vs1 h0 n0 v_ U1_.heap L_ ∧ FrameEnd U_ o_ U1_ L_ rRrmECs1.cells rRrmECs1.slots) := by
  refine MetFree.of_bodySF pn_rmECs1 hisR ?_
  intro p e s m args below meth c s₁ Bd hml0 hP hK
  obtain ⟨rfl, hZ, hh⟩ := hP
  have hx := Bd.exec
  have hby := Bd.bytes
  have hlk : meth.locks = false := Bd.notSynchronized
  have hml : c.maxLocals = 3 := hml0
  have hown : s.vm.findClass "java/lang/AbstractStringBuilder" = some m.cls := findClass_of_methodNamed Bd.named
  have hnm := (name_of_methodNamed Bd.named Bd.method).1
  have X0 : Stand p l e rRrmECs1 s m #[(.ref o), (.int (60 : Int32))] below meth c s₁ [] 0 0 := Stand.of_body Bd
  have e0 : s₁.heap = h0 := by rw [← hh, Bd.state]; rfl
  have N0 := Fr.nil n0
  show own_Goes p e below s (QECs1 Z o d kd vs1 h0 n0) rRrmECs1.cells rRrmECs1.slots s₁ (entryFrame m #[(.ref o), (.int (60 : Int32))] 3)
  rw [ef_rmECs1 m o]
  show own_Goes p e below s (QECs1 Z o d kd vs1 h0 n0) rRrmECs1.cells rRrmECs1.slots s₁ (mkF m 0 #[rv o, iv (60 : Int32), .unset] [])
  refine own_st (fun _ kk_ => XS.aloadN X0.here hx rfl (hb hby d12_0) rfl rfl kk_) ?_
  show own_Goes _ _ _ _ _ _ _ s₁ (mkF m 1 #[rv o, iv (60 : Int32), .unset] [(.ref o)])
  obtain ⟨T1, X1, e1, st1⟩ := getF X0 hx hZ hown (host := "") (Or.inl (own_w hw 55 rfl)) Via.refl e0 p_1 (g := (mkF m 1 #[rv o, iv (60 : Int32), .unset] [(.ref o)])) rfl rfl (hb hby d12_1)
  refine own_st st1 ?_
  show own_Goes _ _ _ _ _ _ _ T1 (mkF m 4 #[rv o, iv (60 : Int32), .unset] [(.ref d)])
  obtain ⟨cl2, Ar2, -, Sz2, Nn2, -, -⟩ := id p_3
  refine own_st (fun _ kk_ => X1.arraylength hx (by rw [e1]; exact Ar2.1) (State.isArrayOf_alike hZ.alike Ar2.2.1) (g := (mkF m 4 #[rv o, iv (60 : Int32), .unset] [(.ref d)])) rfl rfl (hb hby d12_4) _ kk_) ?_
  rw [len_of Sz2 Nn2]
  show own_Goes _ _ _ _ _ _ _ T1 (mkF m 5 #[rv o, iv (60 : Int32), .unset] [(.int (80 : Int32))])
  refine own_st (fun _ kk_ => XS.aloadN X1.here hx rfl (hb hby d12_5) rfl rfl kk_) ?_
  show own_Goes _ _ _ _ _ _ _ T1 (mkF m 6 #[rv o, iv (60 : Int32), .unset] [(.ref o), (.int (80 : Int32))])
  obtain ⟨T3, X3, e3, st3⟩ := getF X1 hx hZ hown (host := "") (Or.inl (own_w hw 57 rfl)) Via.refl e1 p_2 (g := (mkF m 6 #[rv o, iv (60 : Int32), .unset] [(.ref o), (.int (80 : Int32))])) rfl rfl (hb hby d12_6)
  refine own_st st3 ?_
  show own_Goes _ _ _ _ _ _ _ T3 (mkF m 9 #[rv o, iv (60 : Int32), .unset] [(.int (0 : Int32)), (.int (80 : Int32))])
  refine own_st (fun _ kk_ => XS.ishr X3.here hx rfl (hb hby d12_9) rfl (XS.istoreN X3.here hx rfl (hb hby d12_10) rfl (l' := #[rv o, iv (60 : Int32), iv (80 : Int32)]) rfl (XS.iloadN X3.here hx rfl (hb hby d12_11) rfl (XS.iloadN X3.here hx rfl (hb hby d12_12) rfl (XS.isub X3.here hx rfl (hb hby d12_13) rfl (XS.ifYes X3.here hx rfl (pc0 := 14) (pc' := 38) rfl (hb hby d12_14) rfl (XT.i0_le_t (by decide)) (by decide) (by decide) kk_)))))) ?_
  show own_Goes _ _ _ _ _ _ _ T3 (mkF m 38 #[rv o, iv (60 : Int32), iv (80 : Int32)] [])
  refine own_ret0 X3 hx hlk Bd.returns (hb hby d12_38) (by decide) (by decide) ?_
  show QECs1 Z o d kd vs1 h0 n0 none T3.heap _
  rw [e3]
  exact ⟨rfl, N0, rfl⟩
abbrev rRrmAAs1 : Room := { frames := 3, cells := 0, slots := 0, locals := 47 }
theorem pn_rmAAs1 : plainFor yy15 = true := by first | exact plainFor_of_name (by first | (simp [plainName, overriddenIn]; done) | decide +kernel) | decide +kernel
theorem ef_rmAAs1 (m : MethodId) (o : Addr) (a : Addr) : entryFrame m #[(.ref o), (.ref a)] 3 = (mkF m 0 #[rv o, rv a, .unset] []) := by first | (simp [entryFrame, mkF, argsToLocals, Value.category]; done) | rfl
def QAAs1 (Z : State) (o : Addr) (a : Addr) (d : Addr) (kd : ClassId) (vs1 : List Value) (b : Addr) (kb : ClassId) (vs2 : List Value) (cs : Int32) (h0 : Heap) (n0 : Nat) (v_ : Option Value) (h_ : Heap) (L_ : List Loc) : Prop := (v_ = some (.ref o)) ∧ (Fr n0 L_) ∧ (Keep h0 h_ [o, d]) ∧ (Exa Z h_ o "java/lang/StringBuilder") ∧ (Fld Z h_ o "java/lang/AbstractStringBuilder" "value" "[B" (.ref d)) ∧ (Fld Z h_ o "java/lang/AbstractStringBuilder" "coder" "B" (.int (0 : Int32))) ∧ (Fld Z h_ o "java/lang/AbstractStringBuilder" "count" "I" (.int (60 : Int32))) ∧ (Arv Z h_ d kd .byte (80 : Int32) (own_cp vs2 vs1 (0 : Int32) (57 : Int32) (3 : Int32) (.int (0 : Int32))) (.int (0 : Int32)))
set_option maxRecDepth 65536 in
set_option maxHeartbeats 40000000 in
theorem rmAAs1 (l : Launch) (Z : State) (a0 : Array Value) (hw : ∀ d ∈ tables_1, d.before a0 Z = true) (ws : List Jvm.Cond) (o : Addr) (a : Addr) (d : Addr) (kd : ClassId) (vs1 : List Value) (b : Addr) (kb : ClassId) (vs2 : List Value) (cs : Int32) (h0 : Heap) (n0 : Nat) (Z0 : n0 ≤ h0.size) (p_0 : Exa Z h0 o "java/lang/StringBuilder") (p_1 : Fld Z h0 o "java/lang/AbstractStringBuilder" "value" "[B" (.ref d)) (p_2 : Fld Z h0 o "java/lang/AbstractStringBuilder" "coder" "B" (.int (0 : Int32))) (p_3 : Fld Z h0 o "java/lang/AbstractStringBuilder" "count" "I" (.int (57 : Int32))) (p_4 : n0 ≤ o) (p_5 : Arv Z h0 d kd .byte (80 : Int32) vs1 (.int (0 : Int32))) (p_6 : Exa Z h0 a "java/lang/String") (p_7 : Fld Z h0 a "java/lang/String" "coder" "B" (.int (0 : Int32))) (p_8 : Fld Z h0 a "java/lang/String" "value" "[B" (.ref b)) (p_9 : Arv Z h0 b kb .byte (3 : Int32) vs2 (.int (0 : Int32))) (p_10 : Sta Z h0 "java/lang/String" "COMPACT_STRINGS" "Z" (.int cs)) (hcs : ¬ cs = (0 : Int32)) (p_12 : o ≠ a) (p_13 : o ≠ b) (p_14 : n0 ≤ d) (p_15 : o ≠ d) (hl : (57 : Int32).toNatClampNeg + (3 : Int32).toNatClampNeg ≤ vs1.length) :
    MetFree l yy15 (head1 (Jvm.Cond.code yy15 jdk_68_method_22_code 3 (some (.object "java/lang/AbstractStringBuilder")) :: ws) rRrmAAs1) (fun a_ U_ => a_ = #[(.ref o), (.ref a)] ∧ Z.Warmed39 U_.vm ∧ U_.heap = h0) (fun _ _ _ _ _ => True) (fun _ U_ o_ U1_ => ∃ v_ L_, o_ = .returned v_ ∧ QAAs1 Z o a d kd vs1 b kb vs2 cs h0 n0 v_ U1_.heap L_ ∧ FrameEnd U_ o_ U1_ L_ rRrmAAs1.cells rRrmAAs1.slots) := by
  refine MetFree.of_bodySF pn_rmAAs1 hisR ?_
  intro p e s m args below meth c s₁ Bd hml0 hP hK
  obtain ⟨rfl, hZ, hh⟩ := hP
  have hx := Bd.exec
  have hby := Bd.bytes
  have hlk : meth.locks = false := Bd.notSynchronized
  have hml : c.maxLocals = 3 := hml0
  have hown : s.vm.findClass "java/lang/AbstractStringBuilder" = some m.cls := findClass_of_methodNamed Bd.named
  have hnm := (name_of_methodNamed Bd.named Bd.method).1
  have X0 : Stand p l e rRrmAAs1 s m #[(.ref o), (.ref a)] below meth c s₁ [] 0 0 := Stand.of_body Bd
  have e0 : s₁.heap = h0 := by rw [← hh, Bd.state]; rfl
  have N0 := Fr.nil n0
  show own_Goes p e below s (QAAs1 Z o a d kd vs1 b kb vs2 cs h0 n0) rRrmAAs1.cells rRrmAAs1.slots s₁ (entryFrame m #[(.ref o), (.ref a)] 3)
  rw [ef_rmAAs1 m o a]
  show own_Goes p e below s (QAAs1 Z o a d kd vs1 b kb vs2 cs h0 n0) rRrmAAs1.cells rRrmAAs1.slots s₁ (mkF m 0 #[rv o, rv a, .unset] [])
  refine own_st (fun _ kk_ => XS.aloadN X0.here hx rfl (hb hby d9_0) rfl rfl (XS.ifnonnullYes X0.here hx rfl (pc0 := 1) (pc' := 9) rfl (hb hby d9_1) rfl (by decide) (by decide) (XS.aloadN X0.here hx rfl (hb hby d9_9) rfl rfl kk_))) ?_
  show own_Goes _ _ _ _ _ _ _ s₁ (mkF m 10 #[rv o, rv a, .unset] [(.ref a)])
  obtain ⟨cq1, kq1, q1a, q1b, q1c⟩ := isOf hZ e0 p_6
  obtain ⟨_, _, ⟨T1, L1, k1, n1⟩, -, X1, ⟨Lc1, hQ1, l1, y1, z1⟩, st1⟩ := X0.virtualBack hx (y := yy1) (z := yy1) hown (mvT hZ (own_w hw 70 rfl)) (mvT hZ (own_w hw 71 rfl)) (notFace_of_selects (args := #[]) (mvT hZ (own_w hw 73 rfl))) (mvT hZ (own_w hw 73 rfl)) (mvT hZ (own_w hw 72 rfl)) (by decide) (backOf (W := 0) (rm10 l Z a0 hw [] (a) (b) (kb) ((3 : Int32)) (vs2) (cs) h0 n0 Z0 p_6 p_7 p_8 p_9 p_10 (by assumption)) hZ (own_w hw 74 rfl) (own_w hw 19 rfl) (by decide) (by decide)) q1a q1c (g := (mkF m 10 #[rv o, rv a, .unset] [(.ref a)])) rfl (by rw [hml]; rfl) (Steps.refl _) (argsL := []) (rest := []) (lenOf pd_9 rfl) rfl (by show 2 * 0 + _ ≤ _; exact Nat.le_of_eq rfl) (hb hby d9_10) (fun _ _ => ⟨rfl, e0, (by decide : 0 + 0 ≤ _), (by decide : 0 + 0 ≤ _)⟩)
  dsimp only [Pt.U, Pt.locs, Pt.cells, Pt.slots] at X1 l1 y1 z1 st1 hQ1
  subst l1 y1 z1
  obtain ⟨rfl, Nq1, eq1⟩ := hQ1
  have N1 := Fr.app N0 Nq1
  refine own_st (fun _ kk_ => st1.trans kk_) ?_
  show own_Goes _ _ _ _ _ _ _ T1 (mkF m 13 #[rv o, rv a, .unset] [(.int (3 : Int32))])
  refine own_st (fun _ kk_ => XS.istoreN X1.here hx rfl (hb hby d9_13) rfl (l' := #[rv o, rv a, iv (3 : Int32)]) rfl (XS.aloadN X1.here hx rfl (hb hby d9_14) rfl rfl (XS.aloadN X1.here hx rfl (hb hby d9_15) rfl rfl kk_))) ?_
  show own_Goes _ _ _ _ _ _ _ T1 (mkF m 16 #[rv o, rv a, iv (3 : Int32)] [(.ref o), (.ref o)])
  obtain ⟨T2, X2, e2, st2⟩ := getF X1 hx hZ hown (host := "") (Or.inl (own_w hw 83 rfl)) Via.refl eq1 p_3 (g := (mkF m 16 #[rv o, rv a, iv (3 : Int32)] [(.ref o), (.ref o)])) rfl rfl (hb hby d9_16)
  refine own_st st2 ?_
  show own_Goes _ _ _ _ _ _ _ T2 (mkF m 19 #[rv o, rv a, iv (3 : Int32)] [(.int (57 : Int32)), (.ref o)])
  refine own_st (fun _ kk_ => XS.iloadN X2.here hx rfl (hb hby d9_19) rfl (XS.iadd X2.here hx rfl (hb hby d9_20) rfl kk_)) ?_
  show own_Goes _ _ _ _ _ _ _ T2 (mkF m 21 #[rv o, rv a, iv (3 : Int32)] [(.int (60 : Int32)), (.ref o)])
  obtain ⟨cq3, q3, q3'⟩ := p_0.cell
  obtain ⟨_, _, ⟨T3, L3, k3, n3⟩, -, X3, ⟨Lc3, hQ3, l3, y3, z3⟩, st3⟩ := X2.privateBack hx (y := yy14) hown (mvT hZ (own_w hw 85 rfl)) (mvT hZ (own_w hw 86 rfl)) (own_selp (mvT hZ (own_w hw 88 rfl)) (Cond.privateMethod_at (mvP hZ (own_w hw 87 rfl) (args := #[]))) (mvT hZ (own_w hw 86 rfl)) (by decide)) (Cond.privateMethod_at (mvP hZ (own_w hw 87 rfl) (args := #[]))) (mvT hZ (own_w hw 89 rfl)) (by decide) (backOf (W := 0) (rmECs1 l Z a0 hw [] (o) (d) (kd) (vs1) h0 n0 Z0 p_0 p_1 p_2 p_5) hZ (own_w hw 89 rfl) (own_w hw 51 rfl) (by decide) (by decide)) (g := (mkF m 21 #[rv o, rv a, iv (3 : Int32)] [(.int (60 : Int32)), (.ref o)])) rfl (by rw [hml]; rfl) (Steps.refl _) (a := o) (by rw [e2]; exact q3) q3' (argsL := [(.int (60 : Int32))]) (rest := []) (lenOf pd_2 rfl) rfl (by show 2 * 0 + _ ≤ _; exact Nat.le_of_eq rfl) (hb hby d9_21) (fun _ _ => ⟨rfl, e2, (by decide : 0 + 0 ≤ _), (by decide : 0 + 0 ≤ _)⟩)
  dsimp only [Pt.U, Pt.locs, Pt.cells, Pt.slots] at X3 l3 y3 z3 st3 hQ3
  subst l3 y3 z3
  obtain ⟨rfl, Nq3, eq3⟩ := hQ3
  have N3 := Fr.app N1 Nq3
  refine own_st (fun _ kk_ => st3.trans kk_) ?_
  show own_Goes _ _ _ _ _ _ _ T3 (mkF m 24 #[rv o, rv a, iv (3 : Int32)] [])
  refine own_st (fun _ kk_ => XS.aloadN X3.here hx rfl (hb hby d9_24) rfl rfl (XS.aloadN X3.here hx rfl (hb hby d9_25) rfl rfl kk_)) ?_
  show own_Goes _ _ _ _ _ _ _ T3 (mkF m 26 #[rv o, rv a, iv (3 : Int32)] [(.ref o), (.ref o)])
  obtain ⟨T4, X4, e4, st4⟩ := getF X3 hx hZ hown (host := "") (Or.inl (own_w hw 83 rfl)) Via.refl eq3 p_3 (g := (mkF m 26 #[rv o, rv a, iv (3 : Int32)] [(.ref o), (.ref o)])) rfl rfl (hb hby d9_26)
  refine own_st st4 ?_
  show own_Goes _ _ _ _ _ _ _ T4 (mkF m 29 #[rv o, rv a, iv (3 : Int32)] [(.int (57 : Int32)), (.ref o)])
  refine own_st (fun _ kk_ => XS.aloadN X4.here hx rfl (hb hby d9_29) rfl rfl kk_) ?_
  show own_Goes _ _ _ _ _ _ _ T4 (mkF m 30 #[rv o, rv a, iv (3 : Int32)] [(.ref a), (.int (57 : Int32)), (.ref o)])
  obtain ⟨cq5, q5, q5'⟩ := p_0.cell
  obtain ⟨_, _, ⟨T5, L5, k5, n5⟩, -, X5, ⟨Lc5, hQ5, l5, y5, z5⟩, st5⟩ := X4.privateBack hx (y := yy10) hown (mvT hZ (own_w hw 116 rfl)) (mvT hZ (own_w hw 117 rfl)) (own_selp (mvT hZ (own_w hw 119 rfl)) (Cond.privateMethod_at (mvP hZ (own_w hw 118 rfl) (args := #[]))) (mvT hZ (own_w hw 117 rfl)) (by decide)) (Cond.privateMethod_at (mvP hZ (own_w hw 118 rfl) (args := #[]))) (mvT hZ (own_w hw 120 rfl)) (by decide) (backOf (W := 0) (rmPSs1 l Z a0 hw [] (o) (a) (d) (kd) (vs1) (b) (kb) (vs2) (cs) h0 n0 Z0 p_0 p_1 p_2 p_6 p_7 p_8 p_9 p_10 (by assumption) p_5 p_14 hl) hZ (own_w hw 120 rfl) (own_w hw 51 rfl) (by decide) (by decide)) (g := (mkF m 30 #[rv o, rv a, iv (3 : Int32)] [(.ref a), (.int (57 : Int32)), (.ref o)])) rfl (by rw [hml]; rfl) (Steps.refl _) (a := o) (by rw [e4]; exact q5) q5' (argsL := [(.int (57 : Int32)), (.ref a)]) (rest := []) (lenOf pd_10 rfl) rfl (by show 2 * 0 + _ ≤ _; exact Nat.le_of_eq rfl) (hb hby d9_30) (fun _ _ => ⟨rfl, e4, (by decide : 0 + 0 ≤ _), (by decide : 0 + 0 ≤ _)⟩)
  dsimp only [Pt.U, Pt.locs, Pt.cells, Pt.slots] at X5 l5 y5 z5 st5 hQ5
  subst l5 y5 z5
  obtain ⟨rfl, Nq5, Kq5, u5_0⟩ := hQ5
  have N5 := Fr.app N3 Nq5
  have f5_0 := p_0.keep Kq5
  have f5_1 := p_1.keep Kq5 (ninS p_15 nin0)
  have f5_2 := p_2.keep Kq5 (ninS p_15 nin0)
  have f5_3 := p_3.keep Kq5 (ninS p_15 nin0)
  have f5_5 := p_6.keep Kq5
  have f5_9 := own_Sta_keep p_10 Kq5 (nsS p_5.nostat ns0)
  have Zs5 : n0 ≤ T5.heap.size := Nat.le_trans Z0 Kq5.1
  have K5 := (Keep.refl h0 [o, d]).trans Kq5 (allS (Or.inl (List.mem_of_getElem? (i := 1) rfl)) all0)
  refine own_st (fun _ kk_ => st5.trans kk_) ?_
  show own_Goes _ _ _ _ _ _ _ T5 (mkF m 33 #[rv o, rv a, iv (3 : Int32)] [])
  refine own_st (fun _ kk_ => XS.aloadN X5.here hx rfl (hb hby d9_33) rfl rfl (XS.dup X5.here hx rfl (hb hby d9_34) rfl rfl kk_)) ?_
  show own_Goes _ _ _ _ _ _ _ T5 (mkF m 35 #[rv o, rv a, iv (3 : Int32)] [(.ref o), (.ref o)])
  obtain ⟨T6, X6, e6, st6⟩ := getF X5 hx hZ hown (host := "") (Or.inl (own_w hw 83 rfl)) Via.refl rfl f5_3 (g := (mkF m 35 #[rv o, rv a, iv (3 : Int32)] [(.ref o), (.ref o)])) rfl rfl (hb hby d9_35)
  refine own_st st6 ?_
  show own_Goes _ _ _ _ _ _ _ T6 (mkF m 38 #[rv o, rv a, iv (3 : Int32)] [(.int (57 : Int32)), (.ref o)])
  refine own_st (fun _ kk_ => XS.iloadN X6.here hx rfl (hb hby d9_38) rfl (XS.iadd X6.here hx rfl (hb hby d9_39) rfl kk_)) ?_
  show own_Goes _ _ _ _ _ _ _ T6 (mkF m 40 #[rv o, rv a, iv (3 : Int32)] [(.int (60 : Int32)), (.ref o)])
  obtain ⟨T7, h7, X7, e7, W7, st7⟩ := putF X6 hx hZ hown (host := "") (Or.inl (own_w hw 83 rfl)) Via.refl e6 f5_3 f5_0 (Or.inl (own_w hw 84 rfl)) (own_w hw 42 rfl) (ty := .int) (by decide) rfl rfl (g := (mkF m 40 #[rv o, rv a, iv (3 : Int32)] [(.int (60 : Int32)), (.ref o)])) rfl rfl (hb hby d9_40)
  have fw7 : Fld Z h7 o "java/lang/AbstractStringBuilder" "count" "I" (.int (60 : Int32)) := f5_3.same W7
  have f7_0 := f5_0.wr W7
  have f7_1 := f5_1.other W7 (Or.inr (slot_ne (Or.inl (own_w hw 56 rfl)) (Or.inl (own_w hw 84 rfl)) (by decide) (t := (.array .byte)) (t' := .int) (by decide) (by decide)))
  have f7_2 := f5_2.other W7 (Or.inr (slot_ne (Or.inl (own_w hw 58 rfl)) (Or.inl (own_w hw 84 rfl)) (by decide) (t := .byte) (t' := .int) (by decide) (by decide)))
  have f7_4 := f5_5.wr W7
  have f7_5 := f5_9.wr W7
  have f7_6 := u5_0.other W7 (Ne.symm p_15)
  have Zs7 : n0 ≤ h7.size := Nat.le_trans Zs5 (Nat.le_of_eq W7.size.symm)
  have K7 := K5.wr W7 (Or.inl (List.mem_of_getElem? (i := 0) rfl))
  have N7 := Fr.snoc X7 N5 p_4
  refine own_st st7 ?_
  show own_Goes _ _ _ _ _ _ _ T7 (mkF m 43 #[rv o, rv a, iv (3 : Int32)] [])
  refine own_st (fun _ kk_ => XS.aloadN X7.here hx rfl (hb hby d9_43) rfl rfl kk_) ?_
  show own_Goes _ _ _ _ _ _ _ T7 (mkF m 44 #[rv o, rv a, iv (3 : Int32)] [(.ref o)])
  refine own_retA X7 hx hlk rfl Bd.returns rfl (hb hby d9_44) (by decide) (by decide) ?_
  show QAAs1 Z o a d kd vs1 b kb vs2 cs h0 n0 (some (.ref o)) T7.heap _
  rw [e7]
  exact ⟨rfl, N7, K7, f7_0, f7_1, f7_2, fw7, f7_6⟩
abbrev rRrmSAs1 : Room := { frames := 4, cells := 0, slots := 0, locals := 61 }
theorem pn_rmSAs1 : plainFor yy16 = true := by first | exact plainFor_of_name (by first | (simp [plainName, overriddenIn]; done) | decide +kernel) | decide +kernel
theorem ef_rmSAs1 (m : MethodId) (o : Addr) (a : Addr) : entryFrame m #[(.ref o), (.ref a)] 2 = (mkF m 0 #[rv o, rv a] []) := by first | (simp [entryFrame, mkF, argsToLocals, Value.category]; done) | rfl
def QSAs1 (Z : State) (o : Addr) (a : Addr) (d : Addr) (kd : ClassId) (vs1 : List Value) (b : Addr) (kb : ClassId) (vs2 : List Value) (cs : Int32) (h0 : Heap) (n0 : Nat) (v_ : Option Value) (h_ : Heap) (L_ : List Loc) : Prop := (v_ = some (.ref o)) ∧ (Fr n0 L_) ∧ (Keep h0 h_ [o, d]) ∧ (Exa Z h_ o "java/lang/StringBuilder") ∧ (Fld Z h_ o "java/lang/AbstractStringBuilder" "value" "[B" (.ref d)) ∧ (Fld Z h_ o "java/lang/AbstractStringBuilder" "coder" "B" (.int (0 : Int32))) ∧ (Fld Z h_ o "java/lang/AbstractStringBuilder" "count" "I" (.int (60 : Int32))) ∧ (Arv Z h_ d kd .byte (80 : Int32) (own_cp vs2 vs1 (0 : Int32) (57 : Int32) (3 : Int32) (.int (0 : Int32))) (.int (0 : Int32)))
set_option maxRecDepth 65536 in
set_option maxHeartbeats 40000000 in
theorem rmSAs1 (l : Launch) (Z : State) (a0 : Array Value) (hw : ∀ d ∈ tables_1, d.before a0 Z = true) (ws : List Jvm.Cond) (o : Addr) (a : Addr) (d : Addr) (kd : ClassId) (vs1 : List Value) (b : Addr) (kb : ClassId) (vs2 : List Value) (cs : Int32) (h0 : Heap) (n0 : Nat) (Z0 : n0 ≤ h0.size) (p_0 : Exa Z h0 o "java/lang/StringBuilder") (p_1 : Fld Z h0 o "java/lang/AbstractStringBuilder" "value" "[B" (.ref d)) (p_2 : Fld Z h0 o "java/lang/AbstractStringBuilder" "coder" "B" (.int (0 : Int32))) (p_3 : Fld Z h0 o "java/lang/AbstractStringBuilder" "count" "I" (.int (57 : Int32))) (p_4 : n0 ≤ o) (p_5 : Arv Z h0 d kd .byte (80 : Int32) vs1 (.int (0 : Int32))) (p_6 : Exa Z h0 a "java/lang/String") (p_7 : Fld Z h0 a "java/lang/String" "coder" "B" (.int (0 : Int32))) (p_8 : Fld Z h0 a "java/lang/String" "value" "[B" (.ref b)) (p_9 : Arv Z h0 b kb .byte (3 : Int32) vs2 (.int (0 : Int32))) (p_10 : Sta Z h0 "java/lang/String" "COMPACT_STRINGS" "Z" (.int cs)) (hcs : ¬ cs = (0 : Int32)) (p_12 : o ≠ a) (p_13 : o ≠ b) (p_14 : n0 ≤ d) (p_15 : o ≠ d) (hl : (57 : Int32).toNatClampNeg + (3 : Int32).toNatClampNeg ≤ vs1.length) :
    MetFree l yy16 (head1 (Jvm.Cond.code yy16 jdk_67_method_7_code 2 (some (.object "java/lang/StringBuilder")) :: ws) rRrmSAs1) (fun a_ U_ => a_ = #[(.ref o), (.ref a)] ∧ Z.Warmed39 U_.vm ∧ U_.heap = h0) (fun _ _ _ _ _ => True) (fun _ U_ o_ U1_ => ∃ v_ L_, o_ = .returned v_ ∧ QSAs1 Z o a d kd vs1 b kb vs2 cs h0 n0 v_ U1_.heap L_ ∧ FrameEnd U_ o_ U1_ L_ rRrmSAs1.cells rRrmSAs1.slots) := by
  refine MetFree.of_bodySF pn_rmSAs1 hisR ?_
  intro p e s m args below meth c s₁ Bd hml0 hP hK
  obtain ⟨rfl, hZ, hh⟩ := hP
  have hx := Bd.exec
  have hby := Bd.bytes
  have hlk : meth.locks = false := Bd.notSynchronized
  have hml : c.maxLocals = 2 := hml0
  have hown : s.vm.findClass "java/lang/StringBuilder" = some m.cls := findClass_of_methodNamed Bd.named
  have hnm := (name_of_methodNamed Bd.named Bd.method).1
  have X0 : Stand p l e rRrmSAs1 s m #[(.ref o), (.ref a)] below meth c s₁ [] 0 0 := Stand.of_body Bd
  have e0 : s₁.heap = h0 := by rw [← hh, Bd.state]; rfl
  have N0 := Fr.nil n0
  show own_Goes p e below s (QSAs1 Z o a d kd vs1 b kb vs2 cs h0 n0) rRrmSAs1.cells rRrmSAs1.slots s₁ (entryFrame m #[(.ref o), (.ref a)] 2)
  rw [ef_rmSAs1 m o a]
  show own_Goes p e below s (QSAs1 Z o a d kd vs1 b kb vs2 cs h0 n0) rRrmSAs1.cells rRrmSAs1.slots s₁ (mkF m 0 #[rv o, rv a] [])
  refine own_st (fun _ kk_ => XS.aloadN X0.here hx rfl (hb hby d8_0) rfl rfl (XS.aloadN X0.here hx rfl (hb hby d8_1) rfl rfl kk_)) ?_
  show own_Goes _ _ _ _ _ _ _ s₁ (mkF m 2 #[rv o, rv a] [(.ref a), (.ref o)])
  obtain ⟨_, _, ⟨T1, L1, k1, n1⟩, -, X1, ⟨Lc1, hQ1, l1, y1, z1⟩, st1⟩ := superBack X0 hx hZ (y := yy15) hown (own_w hw 65 rfl) (own_smo (own_w hw 88 rfl) rfl (own_w hw 66 rfl) (by decide)) (own_w hw 66 rfl) (own_w hw 67 rfl) (by decide) (backOf (W := 0) (rmAAs1 l Z a0 hw [] (o) (a) (d) (kd) (vs1) (b) (kb) (vs2) (cs) h0 n0 Z0 p_0 p_1 p_2 p_3 p_4 p_5 p_6 p_7 p_8 p_9 p_10 (by assumption) p_12 p_13 p_14 p_15 hl) hZ (own_w hw 69 rfl) (own_w hw 51 rfl) (by decide) (by decide)) e0 (Ins.self p_0) (g := (mkF m 2 #[rv o, rv a] [(.ref a), (.ref o)])) rfl (by rw [hml]; rfl) (own_w hw 69 rfl) (argsL := [(.ref a)]) (rest := []) (lenOf pd_11 rfl) rfl (by show 2 * 0 + _ ≤ _; exact Nat.le_of_eq rfl) (hb hby d8_2) (fun _ _ => ⟨rfl, e0, (by decide : 0 + 0 ≤ _), (by decide : 0 + 0 ≤ _)⟩)
  dsimp only [Pt.U, Pt.locs, Pt.cells, Pt.slots] at X1 l1 y1 z1 st1 hQ1
  subst l1 y1 z1
  obtain ⟨rfl, Nq1, Kq1, u1_0, u1_1, u1_2, u1_3, u1_4⟩ := hQ1
  have N1 := Fr.app N0 Nq1
  have f1_0 := p_0.keep Kq1
  have f1_5 := p_6.keep Kq1
  have f1_9 := own_Sta_keep p_10 Kq1 (nsS p_0.nostat (nsS p_5.nostat ns0))
  have Zs1 : n0 ≤ T1.heap.size := Nat.le_trans Z0 Kq1.1
  have K1 := (Keep.refl h0 [o, d]).trans Kq1 (allS (Or.inl (List.mem_of_getElem? (i := 0) rfl)) (allS (Or.inl (List.mem_of_getElem? (i := 1) rfl)) all0))
  refine own_st (fun _ kk_ => st1.trans kk_) ?_
  show own_Goes _ _ _ _ _ _ _ T1 (mkF m 5 #[rv o, rv a] [(.ref o)])
  refine own_st (fun _ kk_ => XS.pop X1.here hx rfl (hb hby d8_5) rfl rfl (XS.aloadN X1.here hx rfl (hb hby d8_6) rfl rfl kk_)) ?_
  show own_Goes _ _ _ _ _ _ _ T1 (mkF m 7 #[rv o, rv a] [(.ref o)])
  refine own_retA X1 hx hlk rfl Bd.returns rfl (hb hby d8_7) (by decide) (by decide) ?_
  show QSAs1 Z o a d kd vs1 b kb vs2 cs h0 n0 (some (.ref o)) T1.heap _
  exact ⟨rfl, N1, K1, u1_0, u1_1, u1_2, u1_3, u1_4⟩
abbrev rRrmGBs2 : Room := { frames := 1, cells := 0, slots := 0, locals := 18 }
theorem pn_rmGBs2 : plainFor yy9 = true := by first | exact plainFor_of_name (by first | (simp [plainName, overriddenIn]; done) | decide +kernel) | decide +kernel
theorem ef_rmGBs2 (m : MethodId) (a : Addr) (d : Addr) : entryFrame m #[(.ref a), (.ref d), (.int (50 : Int32)), (.int (0 : Int32))] 4 = (mkF m 0 #[rv a, rv d, iv (50 : Int32), iv (0 : Int32)] []) := by first | (simp [entryFrame, mkF, argsToLocals, Value.category]; done) | rfl
def QGBs2 (Z : State) (a : Addr) (d : Addr) (kd : ClassId) (vs1 : List Value) (b : Addr) (kb : ClassId) (vs2 : List Value) (cs : Int32) (h0 : Heap) (n0 : Nat) (v_ : Option Value) (h_ : Heap) (L_ : List Loc) : Prop := (v_ = none) ∧ (Fr n0 L_) ∧ (Keep h0 h_ [d]) ∧ (Arv Z h_ d kd .byte (80 : Int32) (own_cp vs2 vs1 (0 : Int32) (50 : Int32) (3 : Int32) (.int (0 : Int32))) (.int (0 : Int32)))
set_option maxRecDepth 65536 in
set_option maxHeartbeats 40000000 in
theorem rmGBs2 (l : Launch) (Z : State) (a0 : Array Value) (hw : ∀ d ∈ tables_1, d.before a0 Z = true) (ws : List Jvm.Cond) (a : Addr) (d : Addr) (kd : ClassId) (vs1 : List Value) (b : Addr) (kb : ClassId) (vs2 : List Value) (cs : Int32) (h0 : Heap) (n0 : Nat) (Z0 : n0 ≤ h0.size) (p_0 : Exa Z h0 a "java/lang/String") (p_1 : Fld Z h0 a "java/lang/String" "coder" "B" (.int (0 : Int32))) (p_2 : Fld Z h0 a "java/lang/String" "value" "[B" (.ref b)) (p_3 : Arv Z h0 b kb .byte (3 : Int32) vs2 (.int (0 : Int32))) (p_4 : Sta Z h0 "java/lang/String" "COMPACT_STRINGS" "Z" (.int cs)) (hcs : ¬ cs = (0 : Int32)) (p_6 : Arv Z h0 d kd .byte (80 : Int32) vs1 (.int (0 : Int32))) (p_7 : n0 ≤ d) (hl : (50 : Int32).toNatClampNeg + (3 : Int32).toNatClampNeg ≤ vs1.length) :
    MetFree l yy9 (head1 (Jvm.Cond.code yy9 jdk_42_method_147_code 4 none :: ws) rRrmGBs2) (fun a_ U_ => a_ = #[(.ref a), (.ref d), (.int (50 : Int32)), (.int (0 : Int32))] ∧ Z.Warmed39 U_.vm ∧ U_.heap = h0) (fun _ _ _ _ _ => True) (fun _ U_ o_ U1_ => ∃ v_ L_, o_ = .returned v_ ∧ QGBs2 Z a d kd vs1 b kb vs2 cs h0 n0 v_ U1_.heap L_ ∧ FrameEnd U_ o_ U1_ L_ rRrmGBs2.cells rRrmGBs2.slots) := by
  refine MetFree.of_bodySF pn_rmGBs2 hisR ?_
  intro p e s m args below meth c s₁ Bd hml0 hP hK
  obtain ⟨rfl, hZ, hh⟩ := hP
  have hx := Bd.exec
  have hby := Bd.bytes
  have hlk : meth.locks = false := Bd.notSynchronized
  have hml : c.maxLocals = 4 := hml0
  have hown : s.vm.findClass "java/lang/String" = some m.cls := findClass_of_methodNamed Bd.named
  have hnm := (name_of_methodNamed Bd.named Bd.method).1
  have X0 : Stand p l e rRrmGBs2 s m #[(.ref a), (.ref d), (.int (50 : Int32)), (.int (0 : Int32))] below meth c s₁ [] 0 0 := Stand.of_body Bd
  have e0 : s₁.heap = h0 := by rw [← hh, Bd.state]; rfl
  have N0 := Fr.nil n0
  show own_Goes p e below s (QGBs2 Z a d kd vs1 b kb vs2 cs h0 n0) rRrmGBs2.cells rRrmGBs2.slots s₁ (entryFrame m #[(.ref a), (.ref d), (.int (50 : Int32)), (.int (0 : Int32))] 4)
  rw [ef_rmGBs2 m a d]
  show own_Goes p e below s (QGBs2 Z a d kd vs1 b kb vs2 cs h0 n0) rRrmGBs2.cells rRrmGBs2.slots s₁ (mkF m 0 #[rv a, rv d, iv (50 : Int32), iv (0 : Int32)] [])
  refine own_st (fun _ kk_ => XS.aloadN X0.here hx rfl (hb hby d20_0) rfl rfl kk_) ?_
  show own_Goes _ _ _ _ _ _ _ s₁ (mkF m 1 #[rv a, rv d, iv (50 : Int32), iv (0 : Int32)] [(.ref a)])
  obtain ⟨cq1, kq1, q1a, q1b, q1c⟩ := isOf hZ e0 p_0
  obtain ⟨_, _, ⟨T1, L1, k1, n1⟩, -, X1, ⟨Lc1, hQ1, l1, y1, z1⟩, st1⟩ := X0.virtualBack hx (y := yy0) (z := yy0) hown (mvT hZ (own_w hw 76 rfl)) (mvT hZ (own_w hw 77 rfl)) (notFace_of_selects (args := #[]) (mvT hZ (own_w hw 79 rfl))) (mvT hZ (own_w hw 79 rfl)) (mvT hZ (own_w hw 78 rfl)) (by decide) (backOf (W := 0) (rm11 l Z a0 hw [] (a) (cs) h0 n0 Z0 p_1 p_4 (by assumption)) hZ (own_w hw 80 rfl) (own_w hw 19 rfl) (by decide) (by decide)) q1a q1c (g := (mkF m 1 #[rv a, rv d, iv (50 : Int32), iv (0 : Int32)] [(.ref a)])) rfl (by rw [hml]; rfl) (Steps.refl _) (argsL := []) (rest := []) (lenOf pd_0 rfl) rfl (by show 2 * 0 + _ ≤ _; exact Nat.le_of_eq rfl) (hb hby d20_1) (fun _ _ => ⟨rfl, e0, (by decide : 0 + 0 ≤ _), (by decide : 0 + 0 ≤ _)⟩)
  dsimp only [Pt.U, Pt.locs, Pt.cells, Pt.slots] at X1 l1 y1 z1 st1 hQ1
  subst l1 y1 z1
  obtain ⟨rfl, Nq1, eq1⟩ := hQ1
  have N1 := Fr.app N0 Nq1
  refine own_st (fun _ kk_ => st1.trans kk_) ?_
  show own_Goes _ _ _ _ _ _ _ T1 (mkF m 4 #[rv a, rv d, iv (50 : Int32), iv (0 : Int32)] [(.int (0 : Int32))])
  refine own_st (fun _ kk_ => XS.iloadN X1.here hx rfl (hb hby d20_4) rfl (XS.icmpNo X1.here hx rfl (hb hby d20_5) rfl (XT.ii_ne_f (by decide)) (XS.aloadN X1.here hx rfl (hb hby d20_8) rfl rfl kk_))) ?_
  show own_Goes _ _ _ _ _ _ _ T1 (mkF m 9 #[rv a, rv d, iv (50 : Int32), iv (0 : Int32)] [(.ref a)])
  obtain ⟨T2, X2, e2, st2⟩ := getF X1 hx hZ hown (host := "") (Or.inl (own_w hw 75 rfl)) Via.refl eq1 p_2 (g := (mkF m 9 #[rv a, rv d, iv (50 : Int32), iv (0 : Int32)] [(.ref a)])) rfl rfl (hb hby d20_9)
  refine own_st st2 ?_
  show own_Goes _ _ _ _ _ _ _ T2 (mkF m 12 #[rv a, rv d, iv (50 : Int32), iv (0 : Int32)] [(.ref b)])
  refine own_st (fun _ kk_ => XS.iconst X2.here hx rfl (hb hby d20_12) (XS.aloadN X2.here hx rfl (hb hby d20_13) rfl rfl (XS.iloadN X2.here hx rfl (hb hby d20_14) rfl (XS.iloadN X2.here hx rfl (hb hby d20_15) rfl (XS.ishl X2.here hx rfl (hb hby d20_16) rfl (XS.aloadN X2.here hx rfl (hb hby d20_17) rfl rfl kk_)))))) ?_
  show own_Goes _ _ _ _ _ _ _ T2 (mkF m 18 #[rv a, rv d, iv (50 : Int32), iv (0 : Int32)] [(.ref a), (.int (50 : Int32)), (.ref d), (.int (0 : Int32)), (.ref b)])
  obtain ⟨T3, X3, e3, st3⟩ := getF X2 hx hZ hown (host := "") (Or.inl (own_w hw 75 rfl)) Via.refl e2 p_2 (g := (mkF m 18 #[rv a, rv d, iv (50 : Int32), iv (0 : Int32)] [(.ref a), (.int (50 : Int32)), (.ref d), (.int (0 : Int32)), (.ref b)])) rfl rfl (hb hby d20_18)
  refine own_st st3 ?_
  show own_Goes _ _ _ _ _ _ _ T3 (mkF m 21 #[rv a, rv d, iv (50 : Int32), iv (0 : Int32)] [(.ref b), (.int (50 : Int32)), (.ref d), (.int (0 : Int32)), (.ref b)])
  obtain ⟨cl4, Ar4, -, Sz4, Nn4, -, -⟩ := id p_3
  refine own_st (fun _ kk_ => X3.arraylength hx (by rw [e3]; exact Ar4.1) (State.isArrayOf_alike hZ.alike Ar4.2.1) (g := (mkF m 21 #[rv a, rv d, iv (50 : Int32), iv (0 : Int32)] [(.ref b), (.int (50 : Int32)), (.ref d), (.int (0 : Int32)), (.ref b)])) rfl rfl (hb hby d20_21) _ kk_) ?_
  rw [len_of Sz4 Nn4]
  show own_Goes _ _ _ _ _ _ _ T3 (mkF m 22 #[rv a, rv d, iv (50 : Int32), iv (0 : Int32)] [(.int (3 : Int32)), (.int (50 : Int32)), (.ref d), (.int (0 : Int32)), (.ref b)])
  obtain ⟨T5, h5, L5, X5, e5, N5, Kp5, A5, st5⟩ := cpA X3 hx hZ hown (own_w hw 132 rfl) (own_w hw 115 rfl) (own_w hw 113 rfl) (own_w hw 114 rfl) e3 p_3 p_6 (Or.inl ⟨rfl, rfl⟩) (by decide) (by decide) (by decide) (by decide) (by decide) rfl hl N1 p_7 (g := (mkF m 22 #[rv a, rv d, iv (50 : Int32), iv (0 : Int32)] [(.int (3 : Int32)), (.int (50 : Int32)), (.ref d), (.int (0 : Int32)), (.ref b)])) rfl (by rw [hml]; rfl) (rest := []) rfl (hb hby d20_22) (by decide) (W := 0) (by show 2 * 0 + _ ≤ _; exact Nat.le_of_eq rfl) (by decide)
  have f5_0 := p_0.keep Kp5
  have f5_4 := own_Sta_keep p_4 Kp5 (nsS p_6.nostat ns0)
  have Zs5 : n0 ≤ h5.size := Nat.le_trans Z0 Kp5.1
  have K5 := (Keep.refl h0 [d]).trans Kp5 (allS (Or.inl (List.mem_of_getElem? (i := 0) rfl)) all0)
  have V5 : Arv Z h5 d kd .byte (80 : Int32) (own_cp vs2 vs1 (0 : Int32) (50 : Int32) (3 : Int32) (.int (0 : Int32))) (.int (0 : Int32)) := A5
  refine own_st st5 ?_
  show own_Goes _ _ _ _ _ _ _ T5 (mkF m 25 #[rv a, rv d, iv (50 : Int32), iv (0 : Int32)] [])
  refine own_st (fun _ kk_ => XS.goto X5.here hx rfl (pc0 := 25) (pc' := 43) rfl (hb hby d20_25) (by decide) (by decide) kk_) ?_
  show own_Goes _ _ _ _ _ _ _ T5 (mkF m 43 #[rv a, rv d, iv (50 : Int32), iv (0 : Int32)] [])
  refine own_ret0 X5 hx hlk Bd.returns (hb hby d20_43) (by decide) (by decide) ?_
  show QGBs2 Z a d kd vs1 b kb vs2 cs h0 n0 none T5.heap _
  rw [e5]
  exact ⟨rfl, N5, K5, V5⟩
abbrev rRrmPSs2 : Room := { frames := 2, cells := 0, slots := 0, locals := 33 }
theorem pn_rmPSs2 : plainFor yy10 = true := by first | exact plainFor_of_name (by first | (simp [plainName, overriddenIn]; done) | decide +kernel) | decide +kernel
theorem ef_rmPSs2 (m : MethodId) (o : Addr) (a : Addr) : entryFrame m #[(.ref o), (.int (50 : Int32)), (.ref a)] 3 = (mkF m 0 #[rv o, iv (50 : Int32), rv a] []) := by first | (simp [entryFrame, mkF, argsToLocals, Value.category]; done) | rfl
def QPSs2 (Z : State) (o : Addr) (a : Addr) (d : Addr) (kd : ClassId) (vs1 : List Value) (b : Addr) (kb : ClassId) (vs2 : List Value) (cs : Int32) (h0 : Heap) (n0 : Nat) (v_ : Option Value) (h_ : Heap) (L_ : List Loc) : Prop := (v_ = none) ∧ (Fr n0 L_) ∧ (Keep h0 h_ [d]) ∧ (Arv Z h_ d kd .byte (80 : Int32) (own_cp vs2 vs1 (0 : Int32) (50 : Int32) (3 : Int32) (.int (0 : Int32))) (.int (0 : Int32)))
set_option maxRecDepth 65536 in
set_option maxHeartbeats 40000000 in
theorem rmPSs2 (l : Launch) (Z : State) (a0 : Array Value) (hw : ∀ d ∈ tables_1, d.before a0 Z = true) (ws : List Jvm.Cond) (o : Addr) (a : Addr) (d : Addr) (kd : ClassId) (vs1 : List Value) (b : Addr) (kb : ClassId) (vs2 : List Value) (cs : Int32) (h0 : Heap) (n0 : Nat) (Z0 : n0 ≤ h0.size) (p_0 : Exa Z h0 o "java/lang/StringBuilder") (p_1 : Fld Z h0 o "java/lang/AbstractStringBuilder" "value" "[B" (.ref d)) (p_2 : Fld Z h0 o "java/lang/AbstractStringBuilder" "coder" "B" (.int (0 : Int32))) (p_3 : Exa Z h0 a "java/lang/String") (p_4 : Fld Z h0 a "java/lang/String" "coder" "B" (.int (0 : Int32))) (p_5 : Fld Z h0 a "java/lang/String" "value" "[B" (.ref b)) (p_6 : Arv Z h0 b kb .byte (3 : Int32) vs2 (.int (0 : Int32))) (p_7 : Sta Z h0 "java/lang/String" "COMPACT_STRINGS" "Z" (.int cs)) (hcs : ¬ cs = (0 : Int32)) (p_9 : Arv Z h0 d kd .byte (80 : Int32) vs1 (.int (0 : Int32))) (p_10 : n0 ≤ d) (hl : (50 : Int32).toNatClampNeg + (3 : Int32).toNatClampNeg ≤ vs1.length) :
    MetFree l yy10 (head1 (Jvm.Cond.code yy10 jdk_68_method_73_code 3 none :: ws) rRrmPSs2) (fun a_ U_ => a_ = #[(.ref o), (.int (50 : Int32)), (.ref a)] ∧ Z.Warmed39 U_.vm ∧ U_.heap = h0) (fun _ _ _ _ _ => True) (fun _ U_ o_ U1_ => ∃ v_ L_, o_ = .returned v_ ∧ QPSs2 Z o a d kd vs1 b kb vs2 cs h0 n0 v_ U1_.heap L_ ∧ FrameEnd U_ o_ U1_ L_ rRrmPSs2.cells rRrmPSs2.slots) := by
  refine MetFree.of_bodySF pn_rmPSs2 hisR ?_
  intro p e s m args below meth c s₁ Bd hml0 hP hK
  obtain ⟨rfl, hZ, hh⟩ := hP
  have hx := Bd.exec
  have hby := Bd.bytes
  have hlk : meth.locks = false := Bd.notSynchronized
  have hml : c.maxLocals = 3 := hml0
  have hown : s.vm.findClass "java/lang/AbstractStringBuilder" = some m.cls := findClass_of_methodNamed Bd.named
  have hnm := (name_of_methodNamed Bd.named Bd.method).1
  have X0 : Stand p l e rRrmPSs2 s m #[(.ref o), (.int (50 : Int32)), (.ref a)] below meth c s₁ [] 0 0 := Stand.of_body Bd
  have e0 : s₁.heap = h0 := by rw [← hh, Bd.state]; rfl
  have N0 := Fr.nil n0
  show own_Goes p e below s (QPSs2 Z o a d kd vs1 b kb vs2 cs h0 n0) rRrmPSs2.cells rRrmPSs2.slots s₁ (entryFrame m #[(.ref o), (.int (50 : Int32)), (.ref a)] 3)
  rw [ef_rmPSs2 m o a]
  show own_Goes p e below s (QPSs2 Z o a d kd vs1 b kb vs2 cs h0 n0) rRrmPSs2.cells rRrmPSs2.slots s₁ (mkF m 0 #[rv o, iv (50 : Int32), rv a] [])
  refine own_st (fun _ kk_ => XS.aloadN X0.here hx rfl (hb hby d18_0) rfl rfl (XS.aloadN X0.here hx rfl (hb hby d18_1) rfl rfl kk_)) ?_
  show own_Goes _ _ _ _ _ _ _ s₁ (mkF m 2 #[rv o, iv (50 : Int32), rv a] [(.ref a), (.ref o)])
  obtain ⟨cq1, q1, q1'⟩ := p_0.cell
  obtain ⟨_, _, ⟨T1, L1, k1, n1⟩, -, X1, ⟨Lc1, hQ1, l1, y1, z1⟩, st1⟩ := X0.privateBack hx (y := yy8) hown (mvT hZ (own_w hw 121 rfl)) (mvT hZ (own_w hw 122 rfl)) (own_selp (mvT hZ (own_w hw 124 rfl)) (Cond.privateMethod_at (mvP hZ (own_w hw 123 rfl) (args := #[]))) (mvT hZ (own_w hw 122 rfl)) (by decide)) (Cond.privateMethod_at (mvP hZ (own_w hw 123 rfl) (args := #[]))) (mvT hZ (own_w hw 125 rfl)) (by decide) (backOf (W := 0) (rm19 l Z a0 hw [] (o) (a) (cs) h0 n0 Z0 p_0 p_2 p_3 p_4 p_7 (by assumption)) hZ (own_w hw 125 rfl) (own_w hw 51 rfl) (by decide) (by decide)) (g := (mkF m 2 #[rv o, iv (50 : Int32), rv a] [(.ref a), (.ref o)])) rfl (by rw [hml]; rfl) (Steps.refl _) (a := o) (by rw [e0]; exact q1) q1' (argsL := [(.ref a)]) (rest := []) (lenOf pd_3 rfl) rfl (by show 2 * 0 + _ ≤ _; exact Nat.le_of_eq rfl) (hb hby d18_2) (fun _ _ => ⟨rfl, e0, (by decide : 0 + 0 ≤ _), (by decide : 0 + 0 ≤ _)⟩)
  dsimp only [Pt.U, Pt.locs, Pt.cells, Pt.slots] at X1 l1 y1 z1 st1 hQ1
  subst l1 y1 z1
  obtain ⟨rfl, Nq1, eq1⟩ := hQ1
  have N1 := Fr.app N0 Nq1
  refine own_st (fun _ kk_ => st1.trans kk_) ?_
  show own_Goes _ _ _ _ _ _ _ T1 (mkF m 5 #[rv o, iv (50 : Int32), rv a] [])
  refine own_st (fun _ kk_ => XS.aloadN X1.here hx rfl (hb hby d18_5) rfl rfl (XS.aloadN X1.here hx rfl (hb hby d18_6) rfl rfl kk_)) ?_
  show own_Goes _ _ _ _ _ _ _ T1 (mkF m 7 #[rv o, iv (50 : Int32), rv a] [(.ref o), (.ref a)])
  obtain ⟨T2, X2, e2, st2⟩ := getF X1 hx hZ hown (host := "") (Or.inl (own_w hw 55 rfl)) Via.refl eq1 p_1 (g := (mkF m 7 #[rv o, iv (50 : Int32), rv a] [(.ref o), (.ref a)])) rfl rfl (hb hby d18_7)
  refine own_st st2 ?_
  show own_Goes _ _ _ _ _ _ _ T2 (mkF m 10 #[rv o, iv (50 : Int32), rv a] [(.ref d), (.ref a)])
  refine own_st (fun _ kk_ => XS.iloadN X2.here hx rfl (hb hby d18_10) rfl (XS.aloadN X2.here hx rfl (hb hby d18_11) rfl rfl kk_)) ?_
  show own_Goes _ _ _ _ _ _ _ T2 (mkF m 12 #[rv o, iv (50 : Int32), rv a] [(.ref o), (.int (50 : Int32)), (.ref d), (.ref a)])
  obtain ⟨T3, X3, e3, st3⟩ := getF X2 hx hZ hown (host := "") (Or.inl (own_w hw 57 rfl)) Via.refl e2 p_2 (g := (mkF m 12 #[rv o, iv (50 : Int32), rv a] [(.ref o), (.int (50 : Int32)), (.ref d), (.ref a)])) rfl rfl (hb hby d18_12)
  refine own_st st3 ?_
  show own_Goes _ _ _ _ _ _ _ T3 (mkF m 15 #[rv o, iv (50 : Int32), rv a] [(.int (0 : Int32)), (.int (50 : Int32)), (.ref d), (.ref a)])
  obtain ⟨cq4, kq4, q4a, q4b, q4c⟩ := isOf hZ e3 p_3
  obtain ⟨_, _, ⟨T4, L4, k4, n4⟩, -, X4, ⟨Lc4, hQ4, l4, y4, z4⟩, st4⟩ := X3.virtualBack hx (y := yy9) (z := yy9) hown (mvT hZ (own_w hw 127 rfl)) (mvT hZ (own_w hw 128 rfl)) (notFace_of_selects (args := #[]) (mvT hZ (own_w hw 130 rfl))) (mvT hZ (own_w hw 130 rfl)) (mvT hZ (own_w hw 129 rfl)) (by decide) (backOf (W := 0) (rmGBs2 l Z a0 hw [] (a) (d) (kd) (vs1) (b) (kb) (vs2) (cs) h0 n0 Z0 p_3 p_4 p_5 p_6 p_7 (by assumption) p_9 p_10 hl) hZ (own_w hw 131 rfl) (own_w hw 19 rfl) (by decide) (by decide)) q4a q4c (g := (mkF m 15 #[rv o, iv (50 : Int32), rv a] [(.int (0 : Int32)), (.int (50 : Int32)), (.ref d), (.ref a)])) rfl (by rw [hml]; rfl) (Steps.refl _) (argsL := [(.ref d), (.int (50 : Int32)), (.int (0 : Int32))]) (rest := []) (lenOf pd_4 rfl) rfl (by show 2 * 0 + _ ≤ _; exact Nat.le_of_eq rfl) (hb hby d18_15) (fun _ _ => ⟨rfl, e3, (by decide : 0 + 0 ≤ _), (by decide : 0 + 0 ≤ _)⟩)
  dsimp only [Pt.U, Pt.locs, Pt.cells, Pt.slots] at X4 l4 y4 z4 st4 hQ4
  subst l4 y4 z4
  obtain ⟨rfl, Nq4, Kq4, u4_0⟩ := hQ4
  have N4 := Fr.app N1 Nq4
  have f4_0 := p_0.keep Kq4
  have f4_3 := p_3.keep Kq4
  have f4_7 := own_Sta_keep p_7 Kq4 (nsS p_9.nostat ns0)
  have Zs4 : n0 ≤ T4.heap.size := Nat.le_trans Z0 Kq4.1
  have K4 := (Keep.refl h0 [d]).trans Kq4 (allS (Or.inl (List.mem_of_getElem? (i := 0) rfl)) all0)
  refine own_st (fun _ kk_ => st4.trans kk_) ?_
  show own_Goes _ _ _ _ _ _ _ T4 (mkF m 18 #[rv o, iv (50 : Int32), rv a] [])
  refine own_ret0 X4 hx hlk Bd.returns (hb hby d18_18) (by decide) (by decide) ?_
  show QPSs2 Z o a d kd vs1 b kb vs2 cs h0 n0 none T4.heap _
  exact ⟨rfl, N4, K4, u4_0⟩
abbrev rRrmECs2 : Room := { frames := 0, cells := 0, slots := 0, locals := 0 }
theorem pn_rmECs2 : plainFor yy14 = true := by first | exact plainFor_of_name (by first | (simp [plainName, overriddenIn]; done) | decide +kernel) | decide +kernel
theorem ef_rmECs2 (m : MethodId) (o : Addr) : entryFrame m #[(.ref o), (.int (53 : Int32))] 3 = (mkF m 0 #[rv o, iv (53 : Int32), .unset] []) := by first | (simp [entryFrame, mkF, argsToLocals, Value.category]; done) | rfl
def QECs2 (Z : State) (o : Addr) (d : Addr) (kd : ClassId) (vs1 : List Value) (h0 : Heap) (n0 : Nat) (v_ : Option Value) (h_ : Heap) (L_ : List Loc) : Prop := (v_ = none) ∧ (Fr n0 L_) ∧ (h_ = h0)
set_option maxRecDepth 65536 in
set_option maxHeartbeats 40000000 in
theorem rmECs2 (l : Launch) (Z : State) (a0 : Array Value) (hw : ∀ d ∈ tables_1, d.before a0 Z = true) (ws : List Jvm.Cond) (o : Addr) (d : Addr) (kd : ClassId) (vs1 : List Value) (h0 : Heap) (n0 : Nat) (Z0 : n0 ≤ h0.size) (p_0 : Exa Z h0 o "java/lang/StringBuilder") (p_1 : Fld Z h0 o "java/lang/AbstractStringBuilder" "value" "[B" (.ref d)) (p_2 : Fld Z h0 o "java/lang/AbstractStringBuilder" "coder" "B" (.int (0 : Int32))) (p_3 : Arv Z h0 d kd .byte (80 : Int32) vs1 (.int (0 : Int32))) :
    MetFree l yy14 (head1 (Jvm.Cond.code yy14 jdk_68_method_9_code 3 none :: ws) rRrmECs2) (fun a_ U_ => a_ = #[(.ref o), (.int (53 : Int32))] ∧ Z.Warmed39 U_.vm ∧ U_.heap = h0) (fun _ _ _ _ _ => True) (fun _ U_ o_ U1_ => ∃ v_ L_, o_ = .returned v_ ∧ QECs2 Z o d kd vs1 h0 n0 v_ U1_.heap L_ ∧ FrameEnd U_ o_ U1_ L_ rRrmECs2.cells rRrmECs2.slots) := by
  refine MetFree.of_bodySF pn_rmECs2 hisR ?_
  intro p e s m args below meth c s₁ Bd hml0 hP hK
  obtain ⟨rfl, hZ, hh⟩ := hP
  have hx := Bd.exec
  have hby := Bd.bytes
  have hlk : meth.locks = false := Bd.notSynchronized
  have hml : c.maxLocals = 3 := hml0
  have hown : s.vm.findClass "java/lang/AbstractStringBuilder" = some m.cls := findClass_of_methodNamed Bd.named
  have hnm := (name_of_methodNamed Bd.named Bd.method).1
  have X0 : Stand p l e rRrmECs2 s m #[(.ref o), (.int (53 : Int32))] below meth c s₁ [] 0 0 := Stand.of_body Bd
  have e0 : s₁.heap = h0 := by rw [← hh, Bd.state]; rfl
  have N0 := Fr.nil n0
  show own_Goes p e below s (QECs2 Z o d kd vs1 h0 n0) rRrmECs2.cells rRrmECs2.slots s₁ (entryFrame m #[(.ref o), (.int (53 : Int32))] 3)
  rw [ef_rmECs2 m o]
  show own_Goes p e below s (QECs2 Z o d kd vs1 h0 n0) rRrmECs2.cells rRrmECs2.slots s₁ (mkF m 0 #[rv o, iv (53 : Int32), .unset] [])
  refine own_st (fun _ kk_ => XS.aloadN X0.here hx rfl (hb hby d12_0) rfl rfl kk_) ?_
  show own_Goes _ _ _ _ _ _ _ s₁ (mkF m 1 #[rv o, iv (53 : Int32), .unset] [(.ref o)])
  obtain ⟨T1, X1, e1, st1⟩ := getF X0 hx hZ hown (host := "") (Or.inl (own_w hw 55 rfl)) Via.refl e0 p_1 (g := (mkF m 1 #[rv o, iv (53 : Int32), .unset] [(.ref o)])) rfl rfl (hb hby d12_1)
  refine own_st st1 ?_
  show own_Goes _ _ _ _ _ _ _ T1 (mkF m 4 #[rv o, iv (53 : Int32), .unset] [(.ref d)])
  obtain ⟨cl2, Ar2, -, Sz2, Nn2, -, -⟩ := id p_3
  refine own_st (fun _ kk_ => X1.arraylength hx (by rw [e1]; exact Ar2.1) (State.isArrayOf_alike hZ.alike Ar2.2.1) (g := (mkF m 4 #[rv o, iv (53 : Int32), .unset] [(.ref d)])) rfl rfl (hb hby d12_4) _ kk_) ?_
  rw [len_of Sz2 Nn2]
  show own_Goes _ _ _ _ _ _ _ T1 (mkF m 5 #[rv o, iv (53 : Int32), .unset] [(.int (80 : Int32))])
  refine own_st (fun _ kk_ => XS.aloadN X1.here hx rfl (hb hby d12_5) rfl rfl kk_) ?_
  show own_Goes _ _ _ _ _ _ _ T1 (mkF m 6 #[rv o, iv (53 : Int32), .unset] [(.ref o), (.int (80 : Int32))])
  obtain ⟨T3, X3, e3, st3⟩ := getF X1 hx hZ hown (host := "") (Or.inl (own_w hw 57 rfl)) Via.refl e1 p_2 (g := (mkF m 6 #[rv o, iv (53 : Int32), .unset] [(.ref o), (.int (80 : Int32))])) rfl rfl (hb hby d12_6)
  refine own_st st3 ?_
  show own_Goes _ _ _ _ _ _ _ T3 (mkF m 9 #[rv o, iv (53 : Int32), .unset] [(.int (0 : Int32)), (.int (80 : Int32))])
  refine own_st (fun _ kk_ => XS.ishr X3.here hx rfl (hb hby d12_9) rfl (XS.istoreN X3.here hx rfl (hb hby d12_10) rfl (l' := #[rv o, iv (53 : Int32), iv (80 : Int32)]) rfl (XS.iloadN X3.here hx rfl (hb hby d12_11) rfl (XS.iloadN X3.here hx rfl (hb hby d12_12) rfl (XS.isub X3.here hx rfl (hb hby d12_13) rfl (XS.ifYes X3.here hx rfl (pc0 := 14) (pc' := 38) rfl (hb hby d12_14) rfl (XT.i0_le_t (by decide)) (by decide) (by decide) kk_)))))) ?_
  show own_Goes _ _ _ _ _ _ _ T3 (mkF m 38 #[rv o, iv (53 : Int32), iv (80 : Int32)] [])
  refine own_ret0 X3 hx hlk Bd.returns (hb hby d12_38) (by decide) (by decide) ?_
  show QECs2 Z o d kd vs1 h0 n0 none T3.heap _
  rw [e3]
  exact ⟨rfl, N0, rfl⟩
abbrev rRrmAAs2 : Room := { frames := 3, cells := 0, slots := 0, locals := 47 }
theorem pn_rmAAs2 : plainFor yy15 = true := by first | exact plainFor_of_name (by first | (simp [plainName, overriddenIn]; done) | decide +kernel) | decide +kernel
theorem ef_rmAAs2 (m : MethodId) (o : Addr) (a : Addr) : entryFrame m #[(.ref o), (.ref a)] 3 = (mkF m 0 #[rv o, rv a, .unset] []) := by first | (simp [entryFrame, mkF, argsToLocals, Value.category]; done) | rfl
def QAAs2 (Z : State) (o : Addr) (a : Addr) (d : Addr) (kd : ClassId) (vs1 : List Value) (b : Addr) (kb : ClassId) (vs2 : List Value) (cs : Int32) (h0 : Heap) (n0 : Nat) (v_ : Option Value) (h_ : Heap) (L_ : List Loc) : Prop := (v_ = some (.ref o)) ∧ (Fr n0 L_) ∧ (Keep h0 h_ [o, d]) ∧ (Exa Z h_ o "java/lang/StringBuilder") ∧ (Fld Z h_ o "java/lang/AbstractStringBuilder" "value" "[B" (.ref d)) ∧ (Fld Z h_ o "java/lang/AbstractStringBuilder" "coder" "B" (.int (0 : Int32))) ∧ (Fld Z h_ o "java/lang/AbstractStringBuilder" "count" "I" (.int (53 : Int32))) ∧ (Arv Z h_ d kd .byte (80 : Int32) (own_cp vs2 vs1 (0 : Int32) (50 : Int32) (3 : Int32) (.int (0 : Int32))) (.int (0 : Int32)))
set_option maxRecDepth 65536 in
set_option maxHeartbeats 40000000 in
theorem rmAAs2 (l : Launch) (Z : State) (a0 : Array Value) (hw : ∀ d ∈ tables_1, d.before a0 Z = true) (ws : List Jvm.Cond) (o : Addr) (a : Addr) (d : Addr) (kd : ClassId) (vs1 : List Value) (b : Addr) (kb : ClassId) (vs2 : List Value) (cs : Int32) (h0 : Heap) (n0 : Nat) (Z0 : n0 ≤ h0.size) (p_0 : Exa Z h0 o "java/lang/StringBuilder") (p_1 : Fld Z h0 o "java/lang/AbstractStringBuilder" "value" "[B" (.ref d)) (p_2 : Fld Z h0 o "java/lang/AbstractStringBuilder" "coder" "B" (.int (0 : Int32))) (p_3 : Fld Z h0 o "java/lang/AbstractStringBuilder" "count" "I" (.int (50 : Int32))) (p_4 : n0 ≤ o) (p_5 : Arv Z h0 d kd .byte (80 : Int32) vs1 (.int (0 : Int32))) (p_6 : Exa Z h0 a "java/lang/String") (p_7 : Fld Z h0 a "java/lang/String" "coder" "B" (.int (0 : Int32))) (p_8 : Fld Z h0 a "java/lang/String" "value" "[B" (.ref b)) (p_9 : Arv Z h0 b kb .byte (3 : Int32) vs2 (.int (0 : Int32))) (p_10 : Sta Z h0 "java/lang/String" "COMPACT_STRINGS" "Z" (.int cs)) (hcs : ¬ cs = (0 : Int32)) (p_12 : o ≠ a) (p_13 : o ≠ b) (p_14 : n0 ≤ d) (p_15 : o ≠ d) (hl : (50 : Int32).toNatClampNeg + (3 : Int32).toNatClampNeg ≤ vs1.length) :
    MetFree l yy15 (head1 (Jvm.Cond.code yy15 jdk_68_method_22_code 3 (some (.object "java/lang/AbstractStringBuilder")) :: ws) rRrmAAs2) (fun a_ U_ => a_ = #[(.ref o), (.ref a)] ∧ Z.Warmed39 U_.vm ∧ U_.heap = h0) (fun _ _ _ _ _ => True) (fun _ U_ o_ U1_ => ∃ v_ L_, o_ = .returned v_ ∧ QAAs2 Z o a d kd vs1 b kb vs2 cs h0 n0 v_ U1_.heap L_ ∧ FrameEnd U_ o_ U1_ L_ rRrmAAs2.cells rRrmAAs2.slots) := by
  refine MetFree.of_bodySF pn_rmAAs2 hisR ?_
  intro p e s m args below meth c s₁ Bd hml0 hP hK
  obtain ⟨rfl, hZ, hh⟩ := hP
  have hx := Bd.exec
  have hby := Bd.bytes
  have hlk : meth.locks = false := Bd.notSynchronized
  have hml : c.maxLocals = 3 := hml0
  have hown : s.vm.findClass "java/lang/AbstractStringBuilder" = some m.cls := findClass_of_methodNamed Bd.named
  have hnm := (name_of_methodNamed Bd.named Bd.method).1
  have X0 : Stand p l e rRrmAAs2 s m #[(.ref o), (.ref a)] below meth c s₁ [] 0 0 := Stand.of_body Bd
  have e0 : s₁.heap = h0 := by rw [← hh, Bd.state]; rfl
  have N0 := Fr.nil n0
  show own_Goes p e below s (QAAs2 Z o a d kd vs1 b kb vs2 cs h0 n0) rRrmAAs2.cells rRrmAAs2.slots s₁ (entryFrame m #[(.ref o), (.ref a)] 3)
  rw [ef_rmAAs2 m o a]
  show own_Goes p e below s (QAAs2 Z o a d kd vs1 b kb vs2 cs h0 n0) rRrmAAs2.cells rRrmAAs2.slots s₁ (mkF m 0 #[rv o, rv a, .unset] [])
  refine own_st (fun _ kk_ => XS.aloadN X0.here hx rfl (hb hby d9_0) rfl rfl (XS.ifnonnullYes X0.here hx rfl (pc0 := 1) (pc' := 9) rfl (hb hby d9_1) rfl (by decide) (by decide) (XS.aloadN X0.here hx rfl (hb hby d9_9) rfl rfl kk_))) ?_
  show own_Goes _ _ _ _ _ _ _ s₁ (mkF m 10 #[rv o, rv a, .unset] [(.ref a)])
  obtain ⟨cq1, kq1, q1a, q1b, q1c⟩ := isOf hZ e0 p_6
  obtain ⟨_, _, ⟨T1, L1, k1, n1⟩, -, X1, ⟨Lc1, hQ1, l1, y1, z1⟩, st1⟩ := X0.virtualBack hx (y := yy1) (z := yy1) hown (mvT hZ (own_w hw 70 rfl)) (mvT hZ (own_w hw 71 rfl)) (notFace_of_selects (args := #[]) (mvT hZ (own_w hw 73 rfl))) (mvT hZ (own_w hw 73 rfl)) (mvT hZ (own_w hw 72 rfl)) (by decide) (backOf (W := 0) (rm10 l Z a0 hw [] (a) (b) (kb) ((3 : Int32)) (vs2) (cs) h0 n0 Z0 p_6 p_7 p_8 p_9 p_10 (by assumption)) hZ (own_w hw 74 rfl) (own_w hw 19 rfl) (by decide) (by decide)) q1a q1c (g := (mkF m 10 #[rv o, rv a, .unset] [(.ref a)])) rfl (by rw [hml]; rfl) (Steps.refl _) (argsL := []) (rest := []) (lenOf pd_9 rfl) rfl (by show 2 * 0 + _ ≤ _; exact Nat.le_of_eq rfl) (hb hby d9_10) (fun _ _ => ⟨rfl, e0, (by decide : 0 + 0 ≤ _), (by decide : 0 + 0 ≤ _)⟩)
  dsimp only [Pt.U, Pt.locs, Pt.cells, Pt.slots] at X1 l1 y1 z1 st1 hQ1
  subst l1 y1 z1
  obtain ⟨rfl, Nq1, eq1⟩ := hQ1
  have N1 := Fr.app N0 Nq1
  refine own_st (fun _ kk_ => st1.trans kk_) ?_
  show own_Goes _ _ _ _ _ _ _ T1 (mkF m 13 #[rv o, rv a, .unset] [(.int (3 : Int32))])
  refine own_st (fun _ kk_ => XS.istoreN X1.here hx rfl (hb hby d9_13) rfl (l' := #[rv o, rv a, iv (3 : Int32)]) rfl (XS.aloadN X1.here hx rfl (hb hby d9_14) rfl rfl (XS.aloadN X1.here hx rfl (hb hby d9_15) rfl rfl kk_))) ?_
  show own_Goes _ _ _ _ _ _ _ T1 (mkF m 16 #[rv o, rv a, iv (3 : Int32)] [(.ref o), (.ref o)])
  obtain ⟨T2, X2, e2, st2⟩ := getF X1 hx hZ hown (host := "") (Or.inl (own_w hw 83 rfl)) Via.refl eq1 p_3 (g := (mkF m 16 #[rv o, rv a, iv (3 : Int32)] [(.ref o), (.ref o)])) rfl rfl (hb hby d9_16)
  refine own_st st2 ?_
  show own_Goes _ _ _ _ _ _ _ T2 (mkF m 19 #[rv o, rv a, iv (3 : Int32)] [(.int (50 : Int32)), (.ref o)])
  refine own_st (fun _ kk_ => XS.iloadN X2.here hx rfl (hb hby d9_19) rfl (XS.iadd X2.here hx rfl (hb hby d9_20) rfl kk_)) ?_
  show own_Goes _ _ _ _ _ _ _ T2 (mkF m 21 #[rv o, rv a, iv (3 : Int32)] [(.int (53 : Int32)), (.ref o)])
  obtain ⟨cq3, q3, q3'⟩ := p_0.cell
  obtain ⟨_, _, ⟨T3, L3, k3, n3⟩, -, X3, ⟨Lc3, hQ3, l3, y3, z3⟩, st3⟩ := X2.privateBack hx (y := yy14) hown (mvT hZ (own_w hw 85 rfl)) (mvT hZ (own_w hw 86 rfl)) (own_selp (mvT hZ (own_w hw 88 rfl)) (Cond.privateMethod_at (mvP hZ (own_w hw 87 rfl) (args := #[]))) (mvT hZ (own_w hw 86 rfl)) (by decide)) (Cond.privateMethod_at (mvP hZ (own_w hw 87 rfl) (args := #[]))) (mvT hZ (own_w hw 89 rfl)) (by decide) (backOf (W := 0) (rmECs2 l Z a0 hw [] (o) (d) (kd) (vs1) h0 n0 Z0 p_0 p_1 p_2 p_5) hZ (own_w hw 89 rfl) (own_w hw 51 rfl) (by decide) (by decide)) (g := (mkF m 21 #[rv o, rv a, iv (3 : Int32)] [(.int (53 : Int32)), (.ref o)])) rfl (by rw [hml]; rfl) (Steps.refl _) (a := o) (by rw [e2]; exact q3) q3' (argsL := [(.int (53 : Int32))]) (rest := []) (lenOf pd_2 rfl) rfl (by show 2 * 0 + _ ≤ _; exact Nat.le_of_eq rfl) (hb hby d9_21) (fun _ _ => ⟨rfl, e2, (by decide : 0 + 0 ≤ _), (by decide : 0 + 0 ≤ _)⟩)
  dsimp only [Pt.U, Pt.locs, Pt.cells, Pt.slots] at X3 l3 y3 z3 st3 hQ3
  subst l3 y3 z3
  obtain ⟨rfl, Nq3, eq3⟩ := hQ3
  have N3 := Fr.app N1 Nq3
  refine own_st (fun _ kk_ => st3.trans kk_) ?_
  show own_Goes _ _ _ _ _ _ _ T3 (mkF m 24 #[rv o, rv a, iv (3 : Int32)] [])
  refine own_st (fun _ kk_ => XS.aloadN X3.here hx rfl (hb hby d9_24) rfl rfl (XS.aloadN X3.here hx rfl (hb hby d9_25) rfl rfl kk_)) ?_
  show own_Goes _ _ _ _ _ _ _ T3 (mkF m 26 #[rv o, rv a, iv (3 : Int32)] [(.ref o), (.ref o)])
  obtain ⟨T4, X4, e4, st4⟩ := getF X3 hx hZ hown (host := "") (Or.inl (own_w hw 83 rfl)) Via.refl eq3 p_3 (g := (mkF m 26 #[rv o, rv a, iv (3 : Int32)] [(.ref o), (.ref o)])) rfl rfl (hb hby d9_26)
  refine own_st st4 ?_
  show own_Goes _ _ _ _ _ _ _ T4 (mkF m 29 #[rv o, rv a, iv (3 : Int32)] [(.int (50 : Int32)), (.ref o)])
  refine own_st (fun _ kk_ => XS.aloadN X4.here hx rfl (hb hby d9_29) rfl rfl kk_) ?_
  show own_Goes _ _ _ _ _ _ _ T4 (mkF m 30 #[rv o, rv a, iv (3 : Int32)] [(.ref a), (.int (50 : Int32)), (.ref o)])
  obtain ⟨cq5, q5, q5'⟩ := p_0.cell
  obtain ⟨_, _, ⟨T5, L5, k5, n5⟩, -, X5, ⟨Lc5, hQ5, l5, y5, z5⟩, st5⟩ := X4.privateBack hx (y := yy10) hown (mvT hZ (own_w hw 116 rfl)) (mvT hZ (own_w hw 117 rfl)) (own_selp (mvT hZ (own_w hw 119 rfl)) (Cond.privateMethod_at (mvP hZ (own_w hw 118 rfl) (args := #[]))) (mvT hZ (own_w hw 117 rfl)) (by decide)) (Cond.privateMethod_at (mvP hZ (own_w hw 118 rfl) (args := #[]))) (mvT hZ (own_w hw 120 rfl)) (by decide) (backOf (W := 0) (rmPSs2 l Z a0 hw [] (o) (a) (d) (kd) (vs1) (b) (kb) (vs2) (cs) h0 n0 Z0 p_0 p_1 p_2 p_6 p_7 p_8 p_9 p_10 (by assumption) p_5 p_14 hl) hZ (own_w hw 120 rfl) (own_w hw 51 rfl) (by decide) (by decide)) (g := (mkF m 30 #[rv o, rv a, iv (3 : Int32)] [(.ref a), (.int (50 : Int32)), (.ref o)])) rfl (by rw [hml]; rfl) (Steps.refl _) (a := o) (by rw [e4]; exact q5) q5' (argsL := [(.int (50 : Int32)), (.ref a)]) (rest := []) (lenOf pd_10 rfl) rfl (by show 2 * 0 + _ ≤ _; exact Nat.le_of_eq rfl) (hb hby d9_30) (fun _ _ => ⟨rfl, e4, (by decide : 0 + 0 ≤ _), (by decide : 0 + 0 ≤ _)⟩)
  dsimp only [Pt.U, Pt.locs, Pt.cells, Pt.slots] at X5 l5 y5 z5 st5 hQ5
  subst l5 y5 z5
  obtain ⟨rfl, Nq5, Kq5, u5_0⟩ := hQ5
  have N5 := Fr.app N3 Nq5
  have f5_0 := p_0.keep Kq5
  have f5_1 := p_1.keep Kq5 (ninS p_15 nin0)
  have f5_2 := p_2.keep Kq5 (ninS p_15 nin0)
  have f5_3 := p_3.keep Kq5 (ninS p_15 nin0)
  have f5_5 := p_6.keep Kq5
  have f5_9 := own_Sta_keep p_10 Kq5 (nsS p_5.nostat ns0)
  have Zs5 : n0 ≤ T5.heap.size := Nat.le_trans Z0 Kq5.1
  have K5 := (Keep.refl h0 [o, d]).trans Kq5 (allS (Or.inl (List.mem_of_getElem? (i := 1) rfl)) all0)
  refine own_st (fun _ kk_ => st5.trans kk_) ?_
  show own_Goes _ _ _ _ _ _ _ T5 (mkF m 33 #[rv o, rv a, iv (3 : Int32)] [])
  refine own_st (fun _ kk_ => XS.aloadN X5.here hx rfl (hb hby d9_33) rfl rfl (XS.dup X5.here hx rfl (hb hby d9_34) rfl rfl kk_)) ?_
  show own_Goes _ _ _ _ _ _ _ T5 (mkF m 35 #[rv o, rv a, iv (3 : Int32)] [(.ref o), (.ref o)])
  obtain ⟨T6, X6, e6, st6⟩ := getF X5 hx hZ hown (host := "") (Or.inl (own_w hw 83 rfl)) Via.refl rfl f5_3 (g := (mkF m 35 #[rv o, rv a, iv (3 : Int32)] [(.ref o), (.ref o)])) rfl rfl (hb hby d9_35)
  refine own_st st6 ?_
  show own_Goes _ _ _ _ _ _ _ T6 (mkF m 38 #[rv o, rv a, iv (3 : Int32)] [(.int (50 : Int32)), (.ref o)])
  refine own_st (fun _ kk_ => XS.iloadN X6.here hx rfl (hb hby d9_38) rfl (XS.iadd X6.here hx rfl (hb hby d9_39) rfl kk_)) ?_
  show own_Goes _ _ _ _ _ _ _ T6 (mkF m 40 #[rv o, rv a, iv (3 : Int32)] [(.int (53 : Int32)), (.ref o)])
  obtain ⟨T7, h7, X7, e7, W7, st7⟩ := putF X6 hx hZ hown (host := "") (Or.inl (own_w hw 83 rfl)) Via.refl e6 f5_3 f5_0 (Or.inl (own_w hw 84 rfl)) (own_w hw 42 rfl) (ty := .int) (by decide) rfl rfl (g := (mkF m 40 #[rv o, rv a, iv (3 : Int32)] [(.int (53 : Int32)), (.ref o)])) rfl rfl (hb hby d9_40)
  have fw7 : Fld Z h7 o "java/lang/AbstractStringBuilder" "count" "I" (.int (53 : Int32)) := f5_3.same W7
  have f7_0 := f5_0.wr W7
  have f7_1 := f5_1.other W7 (Or.inr (slot_ne (Or.inl (own_w hw 56 rfl)) (Or.inl (own_w hw 84 rfl)) (by decide) (t := (.array .byte)) (t' := .int) (by decide) (by decide)))
  have f7_2 := f5_2.other W7 (Or.inr (slot_ne (Or.inl (own_w hw 58 rfl)) (Or.inl (own_w hw 84 rfl)) (by decide) (t := .byte) (t' := .int) (by decide) (by decide)))
  have f7_4 := f5_5.wr W7
  have f7_5 := f5_9.wr W7
  have f7_6 := u5_0.other W7 (Ne.symm p_15)
  have Zs7 : n0 ≤ h7.size := Nat.le_trans Zs5 (Nat.le_of_eq W7.size.symm)
  have K7 := K5.wr W7 (Or.inl (List.mem_of_getElem? (i := 0) rfl))
  have N7 := Fr.snoc X7 N5 p_4
  refine own_st st7 ?_
  show own_Goes _ _ _ _ _ _ _ T7 (mkF m 43 #[rv o, rv a, iv (3 : Int32)] [])
  refine own_st (fun _ kk_ => XS.aloadN X7.here hx rfl (hb hby d9_43) rfl rfl kk_) ?_
  show own_Goes _ _ _ _ _ _ _ T7 (mkF m 44 #[rv o, rv a, iv (3 : Int32)] [(.ref o)])
  refine own_retA X7 hx hlk rfl Bd.returns rfl (hb hby d9_44) (by decide) (by decide) ?_
  show QAAs2 Z o a d kd vs1 b kb vs2 cs h0 n0 (some (.ref o)) T7.heap _
  rw [e7]
  exact ⟨rfl, N7, K7, f7_0, f7_1, f7_2, fw7, f7_6⟩
abbrev rRrmSAs2 : Room := { frames := 4, cells := 0, slots := 0, locals := 61 }
theorem pn_rmSAs2 : plainFor yy16 = true := by first | exact plainFor_of_name (by first | (simp [plainName, overriddenIn]; done) | decide +kernel) | decide +kernel
theorem ef_rmSAs2 (m : MethodId) (o : Addr) (a : Addr) : entryFrame m #[(.ref o), (.ref a)] 2 = (mkF m 0 #[rv o, rv a] []) := by first | (simp [entryFrame, mkF, argsToLocals, Value.category]; done) | rfl
def QSAs2 (Z : State) (o : Addr) (a : Addr) (d : Addr) (kd : ClassId) (vs1 : List Value) (b : Addr) (kb : ClassId) (vs2 : List Value) (cs : Int32) (h0 : Heap) (n0 : Nat) (v_ : Option Value) (h_ : Heap) (L_ : List Loc) : Prop := (v_ = some (.ref o)) ∧ (Fr n0 L_) ∧ (Keep h0 h_ [o, d]) ∧ (Exa Z h_ o "java/lang/StringBuilder") ∧ (Fld Z h_ o "java/lang/AbstractStringBuilder" "value" "[B" (.ref d)) ∧ (Fld Z h_ o "java/lang/AbstractStringBuilder" "coder" "B" (.int (0 : Int32))) ∧ (Fld Z h_ o "java/lang/AbstractStringBuilder" "count" "I" (.int (53 : Int32))) ∧ (Arv Z h_ d kd .byte (80 : Int32) (own_cp vs2 vs1 (0 : Int32) (50 : Int32) (3 : Int32) (.int (0 : Int32))) (.int (0 : Int32)))
set_option maxRecDepth 65536 in
set_option maxHeartbeats 40000000 in
theorem rmSAs2 (l : Launch) (Z : State) (a0 : Array Value) (hw : ∀ d ∈ tables_1, d.before a0 Z = true) (ws : List Jvm.Cond) (o : Addr) (a : Addr) (d : Addr) (kd : ClassId) (vs1 : List Value) (b : Addr) (kb : ClassId) (vs2 : List Value) (cs : Int32) (h0 : Heap) (n0 : Nat) (Z0 : n0 ≤ h0.size) (p_0 : Exa Z h0 o "java/lang/StringBuilder") (p_1 : Fld Z h0 o "java/lang/AbstractStringBuilder" "value" "[B" (.ref d)) (p_2 : Fld Z h0 o "java/lang/AbstractStringBuilder" "coder" "B" (.int (0 : Int32))) (p_3 : Fld Z h0 o "java/lang/AbstractStringBuilder" "count" "I" (.int (50 : Int32))) (p_4 : n0 ≤ o) (p_5 : Arv Z h0 d kd .byte (80 : Int32) vs1 (.int (0 : Int32))) (p_6 : Exa Z h0 a "java/lang/String") (p_7 : Fld Z h0 a "java/lang/String" "coder" "B" (.int (0 : Int32))) (p_8 : Fld Z h0 a "java/lang/String" "value" "[B" (.ref b)) (p_9 : Arv Z h0 b kb .byte (3 : Int32) vs2 (.int (0 : Int32))) (p_10 : Sta Z h0 "java/lang/String" "COMPACT_STRINGS" "Z" (.int cs)) (hcs : ¬ cs = (0 : Int32)) (p_12 : o ≠ a) (p_13 : o ≠ b) (p_14 : n0 ≤ d) (p_15 : o ≠ d) (hl : (50 : Int32).toNatClampNeg + (3 : Int32).toNatClampNeg ≤ vs1.length) :
    MetFree l yy16 (head1 (Jvm.Cond.code yy16 jdk_67_method_7_code 2 (some (.object "java/lang/StringBuilder")) :: ws) rRrmSAs2) (fun a_ U_ => a_ = #[(.ref o), (.ref a)] ∧ Z.Warmed39 U_.vm ∧ U_.heap = h0) (fun _ _ _ _ _ => True) (fun _ U_ o_ U1_ => ∃ v_ L_, o_ = .returned v_ ∧ QSAs2 Z o a d kd vs1 b kb vs2 cs h0 n0 v_ U1_.heap L_ ∧ FrameEnd U_ o_ U1_ L_ rRrmSAs2.cells rRrmSAs2.slots) := by
  refine MetFree.of_bodySF pn_rmSAs2 hisR ?_
  intro p e s m args below meth c s₁ Bd hml0 hP hK
  obtain ⟨rfl, hZ, hh⟩ := hP
  have hx := Bd.exec
  have hby := Bd.bytes
  have hlk : meth.locks = false := Bd.notSynchronized
  have hml : c.maxLocals = 2 := hml0
  have hown : s.vm.findClass "java/lang/StringBuilder" = some m.cls := findClass_of_methodNamed Bd.named
  have hnm := (name_of_methodNamed Bd.named Bd.method).1
  have X0 : Stand p l e rRrmSAs2 s m #[(.ref o), (.ref a)] below meth c s₁ [] 0 0 := Stand.of_body Bd
  have e0 : s₁.heap = h0 := by rw [← hh, Bd.state]; rfl
  have N0 := Fr.nil n0
  show own_Goes p e below s (QSAs2 Z o a d kd vs1 b kb vs2 cs h0 n0) rRrmSAs2.cells rRrmSAs2.slots s₁ (entryFrame m #[(.ref o), (.ref a)] 2)
  rw [ef_rmSAs2 m o a]
  show own_Goes p e below s (QSAs2 Z o a d kd vs1 b kb vs2 cs h0 n0) rRrmSAs2.cells rRrmSAs2.slots s₁ (mkF m 0 #[rv o, rv a] [])
  refine own_st (fun _ kk_ => XS.aloadN X0.here hx rfl (hb hby d8_0) rfl rfl (XS.aloadN X0.here hx rfl (hb hby d8_1) rfl rfl kk_)) ?_
  show own_Goes _ _ _ _ _ _ _ s₁ (mkF m 2 #[rv o, rv a] [(.ref a), (.ref o)])
  obtain ⟨_, _, ⟨T1, L1, k1, n1⟩, -, X1, ⟨Lc1, hQ1, l1, y1, z1⟩, st1⟩ := superBack X0 hx hZ (y := yy15) hown (own_w hw 65 rfl) (own_smo (own_w hw 88 rfl) rfl (own_w hw 66 rfl) (by decide)) (own_w hw 66 rfl) (own_w hw 67 rfl) (by decide) (backOf (W := 0) (rmAAs2 l Z a0 hw [] (o) (a) (d) (kd) (vs1) (b) (kb) (vs2) (cs) h0 n0 Z0 p_0 p_1 p_2 p_3 p_4 p_5 p_6 p_7 p_8 p_9 p_10 (by assumption) p_12 p_13 p_14 p_15 hl) hZ (own_w hw 69 rfl) (own_w hw 51 rfl) (by decide) (by decide)) e0 (Ins.self p_0) (g := (mkF m 2 #[rv o, rv a] [(.ref a), (.ref o)])) rfl (by rw [hml]; rfl) (own_w hw 69 rfl) (argsL := [(.ref a)]) (rest := []) (lenOf pd_11 rfl) rfl (by show 2 * 0 + _ ≤ _; exact Nat.le_of_eq rfl) (hb hby d8_2) (fun _ _ => ⟨rfl, e0, (by decide : 0 + 0 ≤ _), (by decide : 0 + 0 ≤ _)⟩)
  dsimp only [Pt.U, Pt.locs, Pt.cells, Pt.slots] at X1 l1 y1 z1 st1 hQ1
  subst l1 y1 z1
  obtain ⟨rfl, Nq1, Kq1, u1_0, u1_1, u1_2, u1_3, u1_4⟩ := hQ1
  have N1 := Fr.app N0 Nq1
  have f1_0 := p_0.keep Kq1
  have f1_5 := p_6.keep Kq1
  have f1_9 := own_Sta_keep p_10 Kq1 (nsS p_0.nostat (nsS p_5.nostat ns0))
  have Zs1 : n0 ≤ T1.heap.size := Nat.le_trans Z0 Kq1.1
  have K1 := (Keep.refl h0 [o, d]).trans Kq1 (allS (Or.inl (List.mem_of_getElem? (i := 0) rfl)) (allS (Or.inl (List.mem_of_getElem? (i := 1) rfl)) all0))
  refine own_st (fun _ kk_ => st1.trans kk_) ?_
  show own_Goes _ _ _ _ _ _ _ T1 (mkF m 5 #[rv o, rv a] [(.ref o)])
  refine own_st (fun _ kk_ => XS.pop X1.here hx rfl (hb hby d8_5) rfl rfl (XS.aloadN X1.here hx rfl (hb hby d8_6) rfl rfl kk_)) ?_
  show own_Goes _ _ _ _ _ _ _ T1 (mkF m 7 #[rv o, rv a] [(.ref o)])
  refine own_retA X1 hx hlk rfl Bd.returns rfl (hb hby d8_7) (by decide) (by decide) ?_
  show QSAs2 Z o a d kd vs1 b kb vs2 cs h0 n0 (some (.ref o)) T1.heap _
  exact ⟨rfl, N1, K1, u1_0, u1_1, u1_2, u1_3, u1_4⟩
abbrev rRrm25 : Room := { frames := 0, cells := 0, slots := 0, locals := 0 }
theorem d25_0 : decode jdk_68_method_64_code 0 = .ok (.aload_n 0, 1) := by decide +kernel
theorem d25_1 : decode jdk_68_method_64_code 1 = .ok (.getfield 15, 3) := by decide +kernel
theorem d25_4 : decode jdk_68_method_64_code 4 = .ok (.areturn, 1) := by decide +kernel
theorem pn_rm25 : plainFor yy17 = true := by first | exact plainFor_of_name (by first | (simp [plainName, overriddenIn]; done) | decide +kernel) | decide +kernel
theorem ef_rm25 (m : MethodId) (o : Addr) : entryFrame m #[(.ref o)] 1 = (mkF m 0 #[rv o] []) := by first | (simp [entryFrame, mkF, argsToLocals, Value.category]; done) | rfl
def Q25 (Z : State) (o : Addr) (d : Addr) (h0 : Heap) (n0 : Nat) (v_ : Option Value) (h_ : Heap) (L_ : List Loc) : Prop := (v_ = some (.ref d)) ∧ (Fr n0 L_) ∧ (h_ = h0)
set_option maxRecDepth 65536 in
set_option maxHeartbeats 40000000 in
theorem rm25 (l : Launch) (Z : State) (a0 : Array Value) (hw : ∀ d ∈ tables_1, d.before a0 Z = true) (ws : List Jvm.Cond) (o : Addr) (d : Addr) (h0 : Heap) (n0 : Nat) (Z0 : n0 ≤ h0.size) (p_0 : Exa Z h0 o "java/lang/StringBuilder") (p_1 : Fld Z h0 o "java/lang/AbstractStringBuilder" "value" "[B" (.ref d)) :
    MetFree l yy17 (head1 (Jvm.Cond.code yy17 jdk_68_method_64_code 1 (some (.array .byte)) :: ws) rRrm25) (fun a_ U_ => a_ = #[(.ref o)] ∧ Z.Warmed39 U_.vm ∧ U_.heap = h0) (fun _ _ _ _ _ => True) (fun _ U_ o_ U1_ => ∃ v_ L_, o_ = .returned v_ ∧ Q25 Z o d h0 n0 v_ U1_.heap L_ ∧ FrameEnd U_ o_ U1_ L_ rRrm25.cells rRrm25.slots) := by
  refine MetFree.of_bodySF pn_rm25 hisR ?_
  intro p e s m args below meth c s₁ Bd hml0 hP hK
  obtain ⟨rfl, hZ, hh⟩ := hP
  have hx := Bd.exec
  have hby := Bd.bytes
  have hlk : meth.locks = false := Bd.notSynchronized
  have hml : c.maxLocals = 1 := hml0
  have hown : s.vm.findClass "java/lang/AbstractStringBuilder" = some m.cls := findClass_of_methodNamed Bd.named
  have hnm := (name_of_methodNamed Bd.named Bd.method).1
  have X0 : Stand p l e rRrm25 s m #[(.ref o)] below meth c s₁ [] 0 0 := Stand.of_body Bd
  have e0 : s₁.heap = h0 := by rw [← hh, Bd.state]; rfl
  have N0 := Fr.nil n0
  show own_Goes p e below s (Q25 Z o d h0 n0) rRrm25.cells rRrm25.slots s₁ (entryFrame m #[(.ref o)] 1)
  rw [ef_rm25 m o]
  show own_Goes p e below s (Q25 Z o d h0 n0) rRrm25.cells rRrm25.slots s₁ (mkF m 0 #[rv o] [])
  refine own_st (fun _ kk_ => XS.aloadN X0.here hx rfl (hb hby d25_0) rfl rfl kk_) ?_
  show own_Goes _ _ _ _ _ _ _ s₁ (mkF m 1 #[rv o] [(.ref o)])
  obtain ⟨T1, X1, e1, st1⟩ := getF X0 hx hZ hown (host := "") (Or.inl (own_w hw 55 rfl)) Via.refl e0 p_1 (g := (mkF m 1 #[rv o] [(.ref o)])) rfl rfl (hb hby d25_1)
  refine own_st st1 ?_
  show own_Goes _ _ _ _ _ _ _ T1 (mkF m 4 #[rv o] [(.ref d)])
  refine own_retA X1 hx hlk rfl Bd.returns rfl (hb hby d25_4) (by decide) (by decide) ?_
  show Q25 Z o d h0 n0 (some (.ref d)) T1.heap _
  rw [e1]
  exact ⟨rfl, N0, rfl⟩
abbrev rRrm27 : Room := { frames := 0, cells := 0, slots := 0, locals := 0 }
theorem d27_0 : decode jdk_68_method_6_code 0 = .ok (.aload_n 0, 1) := by decide +kernel
theorem d27_1 : decode jdk_68_method_6_code 1 = .ok (.getfield 79, 3) := by decide +kernel
theorem d27_4 : decode jdk_68_method_6_code 4 = .ok (.ireturn, 1) := by decide +kernel
theorem pn_rm27 : plainFor yy18 = true := by first | exact plainFor_of_name (by first | (simp [plainName, overriddenIn]; done) | decide +kernel) | decide +kernel
theorem ef_rm27 (m : MethodId) (o : Addr) : entryFrame m #[(.ref o)] 1 = (mkF m 0 #[rv o] []) := by first | (simp [entryFrame, mkF, argsToLocals, Value.category]; done) | rfl
def Q27 (Z : State) (o : Addr) (cn : Int32) (h0 : Heap) (n0 : Nat) (v_ : Option Value) (h_ : Heap) (L_ : List Loc) : Prop := (v_ = some (.int cn)) ∧ (Fr n0 L_) ∧ (h_ = h0)
set_option maxRecDepth 65536 in
set_option maxHeartbeats 40000000 in
theorem rm27 (l : Launch) (Z : State) (a0 : Array Value) (hw : ∀ d ∈ tables_1, d.before a0 Z = true) (ws : List Jvm.Cond) (o : Addr) (cn : Int32) (h0 : Heap) (n0 : Nat) (Z0 : n0 ≤ h0.size) (p_0 : Exa Z h0 o "java/lang/StringBuilder") (p_1 : Fld Z h0 o "java/lang/AbstractStringBuilder" "count" "I" (.int cn)) :
    MetFree l yy18 (head1 (Jvm.Cond.code yy18 jdk_68_method_6_code 1 (some .int) :: ws) rRrm27) (fun a_ U_ => a_ = #[(.ref o)] ∧ Z.Warmed39 U_.vm ∧ U_.heap = h0) (fun _ _ _ _ _ => True) (fun _ U_ o_ U1_ => ∃ v_ L_, o_ = .returned v_ ∧ Q27 Z o cn h0 n0 v_ U1_.heap L_ ∧ FrameEnd U_ o_ U1_ L_ rRrm27.cells rRrm27.slots) := by
  refine MetFree.of_bodySF pn_rm27 hisR ?_
  intro p e s m args below meth c s₁ Bd hml0 hP hK
  obtain ⟨rfl, hZ, hh⟩ := hP
  have hx := Bd.exec
  have hby := Bd.bytes
  have hlk : meth.locks = false := Bd.notSynchronized
  have hml : c.maxLocals = 1 := hml0
  have hown : s.vm.findClass "java/lang/AbstractStringBuilder" = some m.cls := findClass_of_methodNamed Bd.named
  have hnm := (name_of_methodNamed Bd.named Bd.method).1
  have X0 : Stand p l e rRrm27 s m #[(.ref o)] below meth c s₁ [] 0 0 := Stand.of_body Bd
  have e0 : s₁.heap = h0 := by rw [← hh, Bd.state]; rfl
  have N0 := Fr.nil n0
  show own_Goes p e below s (Q27 Z o cn h0 n0) rRrm27.cells rRrm27.slots s₁ (entryFrame m #[(.ref o)] 1)
  rw [ef_rm27 m o]
  show own_Goes p e below s (Q27 Z o cn h0 n0) rRrm27.cells rRrm27.slots s₁ (mkF m 0 #[rv o] [])
  refine own_st (fun _ kk_ => XS.aloadN X0.here hx rfl (hb hby d27_0) rfl rfl kk_) ?_
  show own_Goes _ _ _ _ _ _ _ s₁ (mkF m 1 #[rv o] [(.ref o)])
  obtain ⟨T1, X1, e1, st1⟩ := getF X0 hx hZ hown (host := "") (Or.inl (own_w hw 83 rfl)) Via.refl e0 p_1 (g := (mkF m 1 #[rv o] [(.ref o)])) rfl rfl (hb hby d27_1)
  refine own_st st1 ?_
  show own_Goes _ _ _ _ _ _ _ T1 (mkF m 4 #[rv o] [(.int cn)])
  refine own_retI X1 hx hlk Bd.returns (hb hby d27_4) (by decide) (by decide) ?_
  show Q27 Z o cn h0 n0 (some (.int cn)) T1.heap _
  rw [e1]
  exact ⟨rfl, N0, rfl⟩
abbrev rRrm26 : Room := { frames := 1, cells := 0, slots := 0, locals := 12 }
theorem d26_0 : decode jdk_67_method_93_code 0 = .ok (.aload_n 0, 1) := by decide +kernel
theorem d26_1 : decode jdk_67_method_93_code 1 = .ok (.invokespecial 343, 3) := by decide +kernel
theorem d26_4 : decode jdk_67_method_93_code 4 = .ok (.ireturn, 1) := by decide +kernel
theorem pn_rm26 : plainFor yy19 = true := by first | exact plainFor_of_name (by first | (simp [plainName, overriddenIn]; done) | decide +kernel) | decide +kernel
theorem ef_rm26 (m : MethodId) (o : Addr) : entryFrame m #[(.ref o)] 1 = (mkF m 0 #[rv o] []) := by first | (simp [entryFrame, mkF, argsToLocals, Value.category]; done) | rfl
def Q26 (Z : State) (o : Addr) (cn : Int32) (h0 : Heap) (n0 : Nat) (v_ : Option Value) (h_ : Heap) (L_ : List Loc) : Prop := (v_ = some (.int cn)) ∧ (Fr n0 L_) ∧ (h_ = h0)
set_option maxRecDepth 65536 in
set_option maxHeartbeats 40000000 in
theorem rm26 (l : Launch) (Z : State) (a0 : Array Value) (hw : ∀ d ∈ tables_1, d.before a0 Z = true) (ws : List Jvm.Cond) (o : Addr) (cn : Int32) (h0 : Heap) (n0 : Nat) (Z0 : n0 ≤ h0.size) (p_0 : Exa Z h0 o "java/lang/StringBuilder") (p_1 : Fld Z h0 o "java/lang/AbstractStringBuilder" "count" "I" (.int cn)) :
    MetFree l yy19 (head1 (Jvm.Cond.code yy19 jdk_67_method_93_code 1 (some .int) :: ws) rRrm26) (fun a_ U_ => a_ = #[(.ref o)] ∧ Z.Warmed39 U_.vm ∧ U_.heap = h0) (fun _ _ _ _ _ => True) (fun _ U_ o_ U1_ => ∃ v_ L_, o_ = .returned v_ ∧ Q26 Z o cn h0 n0 v_ U1_.heap L_ ∧ FrameEnd U_ o_ U1_ L_ rRrm26.cells rRrm26.slots) := by
  refine MetFree.of_bodySF pn_rm26 hisR ?_
  intro p e s m args below meth c s₁ Bd hml0 hP hK
  obtain ⟨rfl, hZ, hh⟩ := hP
  have hx := Bd.exec
  have hby := Bd.bytes
  have hlk : meth.locks = false := Bd.notSynchronized
  have hml : c.maxLocals = 1 := hml0
  have hown : s.vm.findClass "java/lang/StringBuilder" = some m.cls := findClass_of_methodNamed Bd.named
  have hnm := (name_of_methodNamed Bd.named Bd.method).1
  have X0 : Stand p l e rRrm26 s m #[(.ref o)] below meth c s₁ [] 0 0 := Stand.of_body Bd
  have e0 : s₁.heap = h0 := by rw [← hh, Bd.state]; rfl
  have N0 := Fr.nil n0
  show own_Goes p e below s (Q26 Z o cn h0 n0) rRrm26.cells rRrm26.slots s₁ (entryFrame m #[(.ref o)] 1)
  rw [ef_rm26 m o]
  show own_Goes p e below s (Q26 Z o cn h0 n0) rRrm26.cells rRrm26.slots s₁ (mkF m 0 #[rv o] [])
  refine own_st (fun _ kk_ => XS.aloadN X0.here hx rfl (hb hby d26_0) rfl rfl kk_) ?_
  show own_Goes _ _ _ _ _ _ _ s₁ (mkF m 1 #[rv o] [(.ref o)])
  obtain ⟨_, _, ⟨T1, L1, k1, n1⟩, -, X1, ⟨Lc1, hQ1, l1, y1, z1⟩, st1⟩ := superBack X0 hx hZ (y := yy18) hown (own_w hw 166 rfl) (own_smo (own_w hw 88 rfl) rfl (own_w hw 162 rfl) (by decide)) (own_w hw 162 rfl) (own_w hw 67 rfl) (by decide) (backOf (W := 0) (rm27 l Z a0 hw [] (o) (cn) h0 n0 Z0 p_0 p_1) hZ (own_w hw 167 rfl) (own_w hw 51 rfl) (by decide) (by decide)) e0 (Ins.self p_0) (g := (mkF m 1 #[rv o] [(.ref o)])) rfl (by rw [hml]; rfl) (own_w hw 167 rfl) (argsL := []) (rest := []) (lenOf pd_9 rfl) rfl (by show 2 * 0 + _ ≤ _; exact Nat.le_of_eq rfl) (hb hby d26_1) (fun _ _ => ⟨rfl, e0, (by decide : 0 + 0 ≤ _), (by decide : 0 + 0 ≤ _)⟩)
  dsimp only [Pt.U, Pt.locs, Pt.cells, Pt.slots] at X1 l1 y1 z1 st1 hQ1
  subst l1 y1 z1
  obtain ⟨rfl, Nq1, eq1⟩ := hQ1
  have N1 := Fr.app N0 Nq1
  refine own_st (fun _ kk_ => st1.trans kk_) ?_
  show own_Goes _ _ _ _ _ _ _ T1 (mkF m 4 #[rv o] [(.int cn)])
  refine own_retI X1 hx hlk Bd.returns (hb hby d26_4) (by decide) (by decide) ?_
  show Q26 Z o cn h0 n0 (some (.int cn)) T1.heap _
  rw [eq1]
  exact ⟨rfl, N1, rfl⟩
abbrev rRrm28 : Room := { frames := 0, cells := 0, slots := 0, locals := 0 }
theorem d28_0 : decode jdk_68_method_68_code 0 = .ok (.getstatic 18, 3) := by decide +kernel
theorem d28_3 : decode jdk_68_method_68_code 3 = .ok (.ifCond .eq 14, 3) := by decide +kernel
theorem d28_6 : decode jdk_68_method_68_code 6 = .ok (.aload_n 0, 1) := by decide +kernel
theorem d28_7 : decode jdk_68_method_68_code 7 = .ok (.getfield 22, 3) := by decide +kernel
theorem d28_10 : decode jdk_68_method_68_code 10 = .ok (.ifCond .ne 7, 3) := by decide +kernel
theorem d28_13 : decode jdk_68_method_68_code 13 = .ok (.iconst 1, 1) := by decide +kernel
theorem d28_14 : decode jdk_68_method_68_code 14 = .ok (.goto 4, 3) := by decide +kernel
theorem d28_18 : decode jdk_68_method_68_code 18 = .ok (.ireturn, 1) := by decide +kernel
theorem pn_rm28 : plainFor yy20 = true := by first | exact plainFor_of_name (by first | (simp [plainName, overriddenIn]; done) | decide +kernel) | decide +kernel
theorem ef_rm28 (m : MethodId) (o : Addr) : entryFrame m #[(.ref o)] 1 = (mkF m 0 #[rv o] []) := by first | (simp [entryFrame, mkF, argsToLocals, Value.category]; done) | rfl
def Q28 (Z : State) (o : Addr) (cs : Int32) (h0 : Heap) (n0 : Nat) (v_ : Option Value) (h_ : Heap) (L_ : List Loc) : Prop := (v_ = some (.int (1 : Int32))) ∧ (Fr n0 L_) ∧ (h_ = h0)
set_option maxRecDepth 65536 in
set_option maxHeartbeats 40000000 in
theorem rm28 (l : Launch) (Z : State) (a0 : Array Value) (hw : ∀ d ∈ tables_1, d.before a0 Z = true) (ws : List Jvm.Cond) (o : Addr) (cs : Int32) (h0 : Heap) (n0 : Nat) (Z0 : n0 ≤ h0.size) (p_0 : Exa Z h0 o "java/lang/StringBuilder") (p_1 : Fld Z h0 o "java/lang/AbstractStringBuilder" "coder" "B" (.int (0 : Int32))) (p_2 : Sta Z h0 "java/lang/String" "COMPACT_STRINGS" "Z" (.int cs)) (hcs : ¬ cs = (0 : Int32)) :
    MetFree l yy20 (head1 (Jvm.Cond.code yy20 jdk_68_method_68_code 1 (some .boolean) :: ws) rRrm28) (fun a_ U_ => a_ = #[(.ref o)] ∧ Z.Warmed39 U_.vm ∧ U_.heap = h0) (fun _ _ _ _ _ => True) (fun _ U_ o_ U1_ => ∃ v_ L_, o_ = .returned v_ ∧ Q28 Z o cs h0 n0 v_ U1_.heap L_ ∧ FrameEnd U_ o_ U1_ L_ rRrm28.cells rRrm28.slots) := by
  refine MetFree.of_bodySF pn_rm28 hisR ?_
  intro p e s m args below meth c s₁ Bd hml0 hP hK
  obtain ⟨rfl, hZ, hh⟩ := hP
  have hx := Bd.exec
  have hby := Bd.bytes
  have hlk : meth.locks = false := Bd.notSynchronized
  have hml : c.maxLocals = 1 := hml0
  have hown : s.vm.findClass "java/lang/AbstractStringBuilder" = some m.cls := findClass_of_methodNamed Bd.named
  have hnm := (name_of_methodNamed Bd.named Bd.method).1
  have X0 : Stand p l e rRrm28 s m #[(.ref o)] below meth c s₁ [] 0 0 := Stand.of_body Bd
  have e0 : s₁.heap = h0 := by rw [← hh, Bd.state]; rfl
  have N0 := Fr.nil n0
  show own_Goes p e below s (Q28 Z o cs h0 n0) rRrm28.cells rRrm28.slots s₁ (entryFrame m #[(.ref o)] 1)
  rw [ef_rm28 m o]
  show own_Goes p e below s (Q28 Z o cs h0 n0) rRrm28.cells rRrm28.slots s₁ (mkF m 0 #[rv o] [])
  obtain ⟨T1, X1, e1, st1⟩ := getS2 X0 hx hZ hown (host := "") (Or.inl (own_w hw 54 rfl)) Via.refl e0 p_2 (g := (mkF m 0 #[rv o] [])) rfl (hb hby d28_0)
  refine own_st st1 ?_
  show own_Goes _ _ _ _ _ _ _ T1 (mkF m 3 #[rv o] [(.int cs)])
  refine own_st (fun _ kk_ => XS.ifNo X1.here hx rfl (hb hby d28_3) rfl (XT.i0_eq_f hcs) (XS.aloadN X1.here hx rfl (hb hby d28_6) rfl rfl kk_)) ?_
  show own_Goes _ _ _ _ _ _ _ T1 (mkF m 7 #[rv o] [(.ref o)])
  obtain ⟨T2, X2, e2, st2⟩ := getF X1 hx hZ hown (host := "") (Or.inl (own_w hw 57 rfl)) Via.refl e1 p_1 (g := (mkF m 7 #[rv o] [(.ref o)])) rfl rfl (hb hby d28_7)
  refine own_st st2 ?_
  show own_Goes _ _ _ _ _ _ _ T2 (mkF m 10 #[rv o] [(.int (0 : Int32))])
  refine own_st (fun _ kk_ => XS.ifNo X2.here hx rfl (hb hby d28_10) rfl (XT.i0_ne_f (by decide)) (XS.iconst X2.here hx rfl (hb hby d28_13) (XS.goto X2.here hx rfl (pc0 := 14) (pc' := 18) rfl (hb hby d28_14) (by decide) (by decide) kk_))) ?_
  show own_Goes _ _ _ _ _ _ _ T2 (mkF m 18 #[rv o] [(.int (1 : Int32))])
  refine own_retN X2 hx hlk (t := .boolean) Bd.returns (by simp) (hb hby d28_18) (by decide) (by decide) ?_
  show Q28 Z o cs h0 n0 (some (.int (nar .boolean (1 : Int32)))) T2.heap _
  rw [e2]
  exact ⟨rfl, N0, rfl⟩
abbrev rRrmCKt0 : Room := { frames := 0, cells := 0, slots := 0, locals := 0 }
theorem d31_0 : decode jdk_65_method_131_code 0 = .ok (.iload_n 1, 1) := by decide +kernel
theorem d31_1 : decode jdk_65_method_131_code 1 = .ok (.iload_n 0, 1) := by decide +kernel
theorem d31_2 : decode jdk_65_method_131_code 2 = .ok (.if_icmp .ge 35, 3) := by decide +kernel
theorem d31_37 : decode jdk_65_method_131_code 37 = .ok (.return_, 1) := by decide +kernel
theorem pn_rmCKt0 : plainFor yy21 = true := by first | exact plainFor_of_name (by first | (simp [plainName, overriddenIn]; done) | decide +kernel) | decide +kernel
theorem ef_rmCKt0 (m : MethodId) : entryFrame m #[(.int (0 : Int32)), (.int (55 : Int32))] 2 = (mkF m 0 #[iv (0 : Int32), iv (55 : Int32)] []) := by first | (simp [entryFrame, mkF, argsToLocals, Value.category]; done) | rfl
def QCKt0 (Z : State) (h0 : Heap) (n0 : Nat) (v_ : Option Value) (h_ : Heap) (L_ : List Loc) : Prop := (v_ = none) ∧ (Fr n0 L_) ∧ (h_ = h0)
set_option maxRecDepth 65536 in
set_option maxHeartbeats 40000000 in
theorem rmCKt0 (l : Launch) (Z : State) (a0 : Array Value) (hw : ∀ d ∈ tables_1, d.before a0 Z = true) (ws : List Jvm.Cond) (h0 : Heap) (n0 : Nat) (Z0 : n0 ≤ h0.size) :
    MetFree l yy21 (head1 (Jvm.Cond.code yy21 jdk_65_method_131_code 2 none :: ws) rRrmCKt0) (fun a_ U_ => a_ = #[(.int (0 : Int32)), (.int (55 : Int32))] ∧ Z.Warmed39 U_.vm ∧ U_.heap = h0) (fun _ _ _ _ _ => True) (fun _ U_ o_ U1_ => ∃ v_ L_, o_ = .returned v_ ∧ QCKt0 Z h0 n0 v_ U1_.heap L_ ∧ FrameEnd U_ o_ U1_ L_ rRrmCKt0.cells rRrmCKt0.slots) := by
  refine MetFree.of_bodySF pn_rmCKt0 hisR ?_
  intro p e s m args below meth c s₁ Bd hml0 hP hK
  obtain ⟨rfl, hZ, hh⟩ := hP
  have hx := Bd.exec
  have hby := Bd.bytes
  have hlk : meth.locks = false := Bd.notSynchronized
  have hml : c.maxLocals = 2 := hml0
  have hown : s.vm.findClass "java/util/Arrays" = some m.cls := findClass_of_methodNamed Bd.named
  have hnm := (name_of_methodNamed Bd.named Bd.method).1
  have X0 : Stand p l e rRrmCKt0 s m #[(.int (0 : Int32)), (.int (55 : Int32))] below meth c s₁ [] 0 0 := Stand.of_body Bd
  have e0 : s₁.heap = h0 := by rw [← hh, Bd.state]; rfl
  have N0 := Fr.nil n0
  show own_Goes p e below s (QCKt0 Z h0 n0) rRrmCKt0.cells rRrmCKt0.slots s₁ (entryFrame m #[(.int (0 : Int32)), (.int (55 : Int32))] 2)
  rw [ef_rmCKt0 m]
  show own_Goes p e below s (QCKt0 Z h0 n0) rRrmCKt0.cells rRrmCKt0.slots s₁ (mkF m 0 #[iv (0 : Int32), iv (55 : Int32)] [])
  refine own_st (fun _ kk_ => XS.iloadN X0.here hx rfl (hb hby d31_0) rfl (XS.iloadN X0.here hx rfl (hb hby d31_1) rfl (XS.icmpYes X0.here hx rfl (pc0 := 2) (pc' := 37) rfl (hb hby d31_2) rfl (XT.ii_ge_t (by decide)) (by decide) (by decide) kk_))) ?_
  show own_Goes _ _ _ _ _ _ _ s₁ (mkF m 37 #[iv (0 : Int32), iv (55 : Int32)] [])
  refine own_ret0 X0 hx hlk Bd.returns (hb hby d31_37) (by decide) (by decide) ?_
  show QCKt0 Z h0 n0 none s₁.heap _
  rw [e0]
  exact ⟨rfl, N0, rfl⟩
abbrev rRrmRBt0 : Room := { frames := 1, cells := 1, slots := 55, locals := 18 }
theorem d30_0 : decode jdk_65_method_133_code 0 = .ok (.iload_n 1, 1) := by decide +kernel
theorem d30_1 : decode jdk_65_method_133_code 1 = .ok (.iload_n 2, 1) := by decide +kernel
theorem d30_2 : decode jdk_65_method_133_code 2 = .ok (.invokestatic 343, 3) := by decide +kernel
theorem d30_5 : decode jdk_65_method_133_code 5 = .ok (.iload_n 2, 1) := by decide +kernel
theorem d30_6 : decode jdk_65_method_133_code 6 = .ok (.iload_n 1, 1) := by decide +kernel
theorem d30_7 : decode jdk_65_method_133_code 7 = .ok (.isub, 1) := by decide +kernel
theorem d30_8 : decode jdk_65_method_133_code 8 = .ok (.istore_n 3, 1) := by decide +kernel
theorem d30_9 : decode jdk_65_method_133_code 9 = .ok (.iload_n 3, 1) := by decide +kernel
theorem d30_10 : decode jdk_65_method_133_code 10 = .ok (.newarray .byte, 2) := by decide +kernel
theorem d30_12 : decode jdk_65_method_133_code 12 = .ok (.astore 4, 2) := by decide +kernel
theorem d30_14 : decode jdk_65_method_133_code 14 = .ok (.aload_n 0, 1) := by decide +kernel
theorem d30_15 : decode jdk_65_method_133_code 15 = .ok (.iload_n 1, 1) := by decide +kernel
theorem d30_16 : decode jdk_65_method_133_code 16 = .ok (.aload 4, 2) := by decide +kernel
theorem d30_18 : decode jdk_65_method_133_code 18 = .ok (.iconst 0, 1) := by decide +kernel
theorem d30_19 : decode jdk_65_method_133_code 19 = .ok (.aload_n 0, 1) := by decide +kernel
theorem d30_20 : decode jdk_65_method_133_code 20 = .ok (.arraylength, 1) := by decide +kernel
theorem d30_21 : decode jdk_65_method_133_code 21 = .ok (.iload_n 1, 1) := by decide +kernel
theorem d30_22 : decode jdk_65_method_133_code 22 = .ok (.isub, 1) := by decide +kernel
theorem d30_23 : decode jdk_65_method_133_code 23 = .ok (.iload_n 3, 1) := by decide +kernel
theorem d30_24 : decode jdk_65_method_133_code 24 = .ok (.invokestatic 304, 3) := by decide +kernel
theorem d30_27 : decode jdk_65_method_133_code 27 = .ok (.invokestatic 150, 3) := by decide +kernel
theorem d30_30 : decode jdk_65_method_133_code 30 = .ok (.aload 4, 2) := by decide +kernel
theorem d30_32 : decode jdk_65_method_133_code 32 = .ok (.areturn, 1) := by decide +kernel
theorem pd_12 : parseMethodDescriptor "(II)V" = some ⟨[.int, .int], none⟩ := by decide +kernel
theorem pn_rmRBt0 : plainFor yy22 = true := by first | exact plainFor_of_name (by first | (simp [plainName, overriddenIn]; done) | decide +kernel) | decide +kernel
theorem ef_rmRBt0 (m : MethodId) (d : Addr) : entryFrame m #[(.ref d), (.int (0 : Int32)), (.int (55 : Int32))] 5 = (mkF m 0 #[rv d, iv (0 : Int32), iv (55 : Int32), .unset, .unset] []) := by first | (simp [entryFrame, mkF, argsToLocals, Value.category]; done) | rfl
def QRBt0 (Z : State) (d : Addr) (kd : ClassId) (vs1 : List Value) (h0 : Heap) (n0 : Nat) (v_ : Option Value) (h_ : Heap) (L_ : List Loc) : Prop := ∃ y : Addr, ∃ ky : ClassId, (v_ = some (.ref y)) ∧ (Fr n0 L_) ∧ (Keep h0 h_ []) ∧ (h0.size ≤ y) ∧ (Arv Z h_ y ky .byte (55 : Int32) (own_cp vs1 own_z55 (0 : Int32) (0 : Int32) (55 : Int32) (.int (0 : Int32))) (.int (0 : Int32)))
set_option maxRecDepth 65536 in
set_option maxHeartbeats 40000000 in
theorem rmRBt0 (l : Launch) (Z : State) (a0 : Array Value) (hw : ∀ d ∈ tables_1, d.before a0 Z = true) (ws : List Jvm.Cond) (d : Addr) (kd : ClassId) (vs1 : List Value) (h0 : Heap) (n0 : Nat) (Z0 : n0 ≤ h0.size) (p_0 : Arv Z h0 d kd .byte (80 : Int32) vs1 (.int (0 : Int32))) :
    MetFree l yy22 (head1 (Jvm.Cond.code yy22 jdk_65_method_133_code 5 (some (.array .byte)) :: ws) rRrmRBt0) (fun a_ U_ => a_ = #[(.ref d), (.int (0 : Int32)), (.int (55 : Int32))] ∧ Z.Warmed39 U_.vm ∧ U_.heap = h0) (fun _ _ _ _ _ => True) (fun _ U_ o_ U1_ => ∃ v_ L_, o_ = .returned v_ ∧ QRBt0 Z d kd vs1 h0 n0 v_ U1_.heap L_ ∧ FrameEnd U_ o_ U1_ L_ rRrmRBt0.cells rRrmRBt0.slots) := by
  refine MetFree.of_bodySF pn_rmRBt0 hisR ?_
  intro p e s m args below meth c s₁ Bd hml0 hP hK
  obtain ⟨rfl, hZ, hh⟩ := hP
  have hx := Bd.exec
  have hby := Bd.bytes
  have hlk : meth.locks = false := Bd.notSynchronized
  have hml : c.maxLocals = 5 := hml0
  have hown : s.vm.findClass "java/util/Arrays" = some m.cls := findClass_of_methodNamed Bd.named
  have hnm := (name_of_methodNamed Bd.named Bd.method).1
  have X0 : Stand p l e rRrmRBt0 s m #[(.ref d), (.int (0 : Int32)), (.int (55 : Int32))] below meth c s₁ [] 0 0 := Stand.of_body Bd
  have e0 : s₁.heap = h0 := by rw [← hh, Bd.state]; rfl
  have N0 := Fr.nil n0
  show own_Goes p e below s (QRBt0 Z d kd vs1 h0 n0) rRrmRBt0.cells rRrmRBt0.slots s₁ (entryFrame m #[(.ref d), (.int (0 : Int32)), (.int (55 : Int32))] 5)
  rw [ef_rmRBt0 m d]
  show own_Goes p e below s (QRBt0 Z d kd vs1 h0 n0) rRrmRBt0.cells rRrmRBt0.slots s₁ (mkF m 0 #[rv d, iv (0 : Int32), iv (55 : Int32), .unset, .unset] [])
  refine own_st (fun _ kk_ => XS.iloadN X0.here hx rfl (hb hby d30_0) rfl (XS.iloadN X0.here hx rfl (hb hby d30_1) rfl kk_)) ?_
  show own_Goes _ _ _ _ _ _ _ s₁ (mkF m 2 #[rv d, iv (0 : Int32), iv (55 : Int32), .unset, .unset] [(.int (55 : Int32)), (.int (0 : Int32))])
  obtain ⟨_, _, ⟨T1, L1, k1, n1⟩, -, X1, ⟨Lc1, hQ1, l1, y1, z1⟩, st1⟩ := Jvm.LawKit.callS X0 hx (y := yy21) hown (mvT hZ (own_w hw 179 rfl)) (mvT hZ (own_w hw 180 rfl)) (mvT hZ (own_w hw 107 rfl)) (mvT hZ (own_w hw 181 rfl)) (by decide) (backOf (W := 0) (rmCKt0 l Z a0 hw []  h0 n0 Z0) hZ (own_w hw 181 rfl) (own_w hw 107 rfl) (by decide) (by decide)) (g := (mkF m 2 #[rv d, iv (0 : Int32), iv (55 : Int32), .unset, .unset] [(.int (55 : Int32)), (.int (0 : Int32))])) rfl (by rw [hml]; rfl) (argsL := [(.int (0 : Int32)), (.int (55 : Int32))]) (rest := []) (lenOf pd_12 rfl) rfl (by show 2 * 0 + _ ≤ _; exact Nat.le_of_eq rfl) (hb hby d30_2) (fun _ _ => ⟨rfl, e0, (by decide : 0 + 0 ≤ _), (by decide : 0 + 0 ≤ _)⟩)
  dsimp only [Pt.U, Pt.locs, Pt.cells, Pt.slots] at X1 l1 y1 z1 st1 hQ1
  subst l1 y1 z1
  obtain ⟨rfl, Nq1, eq1⟩ := hQ1
  have N1 := Fr.app N0 Nq1
  refine own_st st1 ?_
  show own_Goes _ _ _ _ _ _ _ T1 (mkF m 5 #[rv d, iv (0 : Int32), iv (55 : Int32), .unset, .unset] [])
  refine own_st (fun _ kk_ => XS.iloadN X1.here hx rfl (hb hby d30_5) rfl (XS.iloadN X1.here hx rfl (hb hby d30_6) rfl (XS.isub X1.here hx rfl (hb hby d30_7) rfl (XS.istoreN X1.here hx rfl (hb hby d30_8) rfl (l' := #[rv d, iv (0 : Int32), iv (55 : Int32), iv (55 : Int32), .unset]) rfl (XS.iloadN X1.here hx rfl (hb hby d30_9) rfl kk_))))) ?_
  show own_Goes _ _ _ _ _ _ _ T1 (mkF m 10 #[rv d, iv (0 : Int32), iv (55 : Int32), iv (55 : Int32), .unset] [(.int (55 : Int32))])
  obtain ⟨T2, h2, k2, X2, e2, E2, A2, st2⟩ := newP X1 hx hZ (own_w hw 21 rfl) eq1 (g := (mkF m 10 #[rv d, iv (0 : Int32), iv (55 : Int32), iv (55 : Int32), .unset] [(.int (55 : Int32))])) rfl (hb hby d30_10) rfl (by decide) (cap := 55) (by decide) (by decide) (by decide) (by decide)
  obtain ⟨b2, gx2⟩ : ∃ z, z = h0.size := ⟨_, rfl⟩
  rw [← gx2] at A2 st2
  have ne2_d : d ≠ b2 := Nat.ne_of_lt (Nat.lt_of_lt_of_eq p_0.lt gx2.symm)
  have gg2 : n0 ≤ b2 := Nat.le_trans Z0 (Nat.le_of_eq gx2.symm)
  have sz2 : h0.size ≤ b2 := Nat.le_trans (Keep.refl h0 []).1 (Nat.le_of_eq gx2.symm)
  have f2_0 := p_0.ext E2
  have Zs2 : n0 ≤ h2.size := Nat.le_trans Z0 E2.1
  have K2 := (Keep.refl h0 []).ext E2
  have V2 : Arv Z h2 b2 k2 .byte (55 : Int32) [(.int (0 : Int32)), (.int (0 : Int32)), (.int (0 : Int32)), (.int (0 : Int32)), (.int (0 : Int32)), (.int (0 : Int32)), (.int (0 : Int32)), (.int (0 : Int32)), (.int (0 : Int32)), (.int (0 : Int32)), (.int (0 : Int32)), (.int (0 : Int32)), (.int (0 : Int32)), (.int (0 : Int32)), (.int (0 : Int32)), (.int (0 : Int32)), (.int (0 : Int32)), (.int (0 : Int32)), (.int (0 : Int32)), (.int (0 : Int32)), (.int (0 : Int32)), (.int (0 : Int32)), (.int (0 : Int32)), (.int (0 : Int32)), (.int (0 : Int32)), (.int (0 : Int32)), (.int (0 : Int32)), (.int (0 : Int32)), (.int (0 : Int32)), (.int (0 : Int32)), (.int (0 : Int32)), (.int (0 : Int32)), (.int (0 : Int32)), (.int (0 : Int32)), (.int (0 : Int32)), (.int (0 : Int32)), (.int (0 : Int32)), (.int (0 : Int32)), (.int (0 : Int32)), (.int (0 : Int32)), (.int (0 : Int32)), (.int (0 : Int32)), (.int (0 : Int32)), (.int (0 : Int32)), (.int (0 : Int32)), (.int (0 : Int32)), (.int (0 : Int32)), (.int (0 : Int32)), (.int (0 : Int32)), (.int (0 : Int32)), (.int (0 : Int32)), (.int (0 : Int32)), (.int (0 : Int32)), (.int (0 : Int32)), (.int (0 : Int32))] (.int (0 : Int32)) := (Arv.new A2 (by decide)).pad (pad_rep [] (.int (0 : Int32)) 55)
  refine own_st st2 ?_
  show own_Goes _ _ _ _ _ _ _ T2 (mkF m 12 #[rv d, iv (0 : Int32), iv (55 : Int32), iv (55 : Int32), .unset] [(.ref b2)])
  have Vz : Arv Z h2 b2 k2 .byte (55 : Int32) own_z55 (.int (0 : Int32)) := V2
  refine own_st (fun _ kk_ => XS.astore X2.here hx rfl (hb hby d30_12) rfl rfl (l' := #[rv d, iv (0 : Int32), iv (55 : Int32), iv (55 : Int32), rv b2]) rfl (XS.aloadN X2.here hx rfl (hb hby d30_14) rfl rfl (XS.iloadN X2.here hx rfl (hb hby d30_15) rfl (XS.aload X2.here hx rfl (hb hby d30_16) rfl rfl (XS.iconst X2.here hx rfl (hb hby d30_18) (XS.aloadN X2.here hx rfl (hb hby d30_19) rfl rfl kk_)))))) ?_
  show own_Goes _ _ _ _ _ _ _ T2 (mkF m 20 #[rv d, iv (0 : Int32), iv (55 : Int32), iv (55 : Int32), rv b2] [(.ref d), (.int (0 : Int32)), (.ref b2), (.int (0 : Int32)), (.ref d)])
  obtain ⟨cl3, Ar3, -, Sz3, Nn3, -, -⟩ := id f2_0
  refine own_st (fun _ kk_ => X2.arraylength hx (by rw [e2]; exact Ar3.1) (State.isArrayOf_alike hZ.alike Ar3.2.1) (g := (mkF m 20 #[rv d, iv (0 : Int32), iv (55 : Int32), iv (55 : Int32), rv b2] [(.ref d), (.int (0 : Int32)), (.ref b2), (.int (0 : Int32)), (.ref d)])) rfl rfl (hb hby d30_20) _ kk_) ?_
  rw [len_of Sz3 Nn3]
  show own_Goes _ _ _ _ _ _ _ T2 (mkF m 21 #[rv d, iv (0 : Int32), iv (55 : Int32), iv (55 : Int32), rv b2] [(.int (80 : Int32)), (.int (0 : Int32)), (.ref b2), (.int (0 : Int32)), (.ref d)])
  refine own_st (fun _ kk_ => XS.iloadN X2.here hx rfl (hb hby d30_21) rfl (XS.isub X2.here hx rfl (hb hby d30_22) rfl (XS.iloadN X2.here hx rfl (hb hby d30_23) rfl kk_))) ?_
  show own_Goes _ _ _ _ _ _ _ T2 (mkF m 24 #[rv d, iv (0 : Int32), iv (55 : Int32), iv (55 : Int32), rv b2] [(.int (55 : Int32)), (.int (80 : Int32)), (.int (0 : Int32)), (.ref b2), (.int (0 : Int32)), (.ref d)])
  obtain ⟨_, _, ⟨T4, L4, k4, n4⟩, -, X4, ⟨Lc4, hQ4, l4, y4, z4⟩, st4⟩ := Jvm.LawKit.callS X2 hx (y := yy3) hown (mvT hZ (own_w hw 109 rfl)) (mvT hZ (own_w hw 110 rfl)) (mvT hZ (own_w hw 101 rfl)) (mvT hZ (own_w hw 111 rfl)) (by decide) (backOf (W := 4) (rmnB l Z a0 hw [] ((80 : Int32)) ((55 : Int32)) h2 n0 Zs2 (by decide)) hZ (own_w hw 111 rfl) (own_w hw 101 rfl) (by decide) (by decide)) (g := (mkF m 24 #[rv d, iv (0 : Int32), iv (55 : Int32), iv (55 : Int32), rv b2] [(.int (55 : Int32)), (.int (80 : Int32)), (.int (0 : Int32)), (.ref b2), (.int (0 : Int32)), (.ref d)])) rfl (by rw [hml]; rfl) (argsL := [(.int (80 : Int32)), (.int (55 : Int32))]) (rest := [(.int (0 : Int32)), (.ref b2), (.int (0 : Int32)), (.ref d)]) (lenOf pd_5 rfl) rfl (by show 2 * 0 + _ ≤ _; exact Nat.le_of_eq rfl) (hb hby d30_24) (fun _ _ => ⟨rfl, e2, (by decide : 1 + 0 ≤ _), (by decide : 55 + 0 ≤ _)⟩)
  dsimp only [Pt.U, Pt.locs, Pt.cells, Pt.slots] at X4 l4 y4 z4 st4 hQ4
  subst l4 y4 z4
  obtain ⟨rfl, Nq4, eq4⟩ := hQ4
  have N4 := Fr.app N1 Nq4
  refine own_st st4 ?_
  show own_Goes _ _ _ _ _ _ _ T4 (mkF m 27 #[rv d, iv (0 : Int32), iv (55 : Int32), iv (55 : Int32), rv b2] [(.int (55 : Int32)), (.int (0 : Int32)), (.ref b2), (.int (0 : Int32)), (.ref d)])
  obtain ⟨T5, h5, L5, X5, e5, N5, Kp5, A5, st5⟩ := cpA X4 hx hZ hown (own_w hw 112 rfl) (own_w hw 115 rfl) (own_w hw 113 rfl) (own_w hw 114 rfl) eq4 f2_0 Vz (Or.inl ⟨rfl, rfl⟩) (by decide) (by decide) (by decide) (by decide) (by decide) rfl (Nat.le_of_ble_eq_true rfl) N4 gg2 (g := (mkF m 27 #[rv d, iv (0 : Int32), iv (55 : Int32), iv (55 : Int32), rv b2] [(.int (55 : Int32)), (.int (0 : Int32)), (.ref b2), (.int (0 : Int32)), (.ref d)])) rfl (by rw [hml]; rfl) (rest := []) rfl (hb hby d30_27) (by decide) (W := 0) (by show 2 * 0 + _ ≤ _; exact Nat.le_of_eq rfl) (by decide)
  have f5_0 := f2_0.keep Kp5 (ninS ne2_d nin0)
  have Zs5 : n0 ≤ h5.size := Nat.le_trans Zs2 Kp5.1
  have K5 := K2.trans Kp5 (allS (Or.inr sz2) all0)
  have V5 : Arv Z h5 b2 k2 .byte (55 : Int32) (own_cp vs1 own_z55 (0 : Int32) (0 : Int32) (55 : Int32) (.int (0 : Int32))) (.int (0 : Int32)) := A5
  refine own_st st5 ?_
  show own_Goes _ _ _ _ _ _ _ T5 (mkF m 30 #[rv d, iv (0 : Int32), iv (55 : Int32), iv (55 : Int32), rv b2] [])
  refine own_st (fun _ kk_ => XS.aload X5.here hx rfl (hb hby d30_30) rfl rfl kk_) ?_
  show own_Goes _ _ _ _ _ _ _ T5 (mkF m 32 #[rv d, iv (0 : Int32), iv (55 : Int32), iv (55 : Int32), rv b2] [(.ref b2)])
  refine own_retA X5 hx hlk rfl Bd.returns rfl (hb hby d30_32) (by decide) (by decide) ?_
  show QRBt0 Z d kd vs1 h0 n0 (some (.ref b2)) T5.heap _
  rw [e5]
  exact ⟨b2, k2, rfl, N5, K5, sz2, V5⟩
abbrev rRrmCRt0 : Room := { frames := 2, cells := 1, slots := 55, locals := 34 }
theorem d29_0 : decode jdk_65_method_132_code 0 = .ok (.iload_n 1, 1) := by decide +kernel
theorem d29_1 : decode jdk_65_method_132_code 1 = .ok (.ifCond .ne 9, 3) := by decide +kernel
theorem d29_4 : decode jdk_65_method_132_code 4 = .ok (.iload_n 2, 1) := by decide +kernel
theorem d29_5 : decode jdk_65_method_132_code 5 = .ok (.aload_n 0, 1) := by decide +kernel
theorem d29_6 : decode jdk_65_method_132_code 6 = .ok (.arraylength, 1) := by decide +kernel
theorem d29_7 : decode jdk_65_method_132_code 7 = .ok (.if_icmp .eq 10, 3) := by decide +kernel
theorem d29_10 : decode jdk_65_method_132_code 10 = .ok (.aload_n 0, 1) := by decide +kernel
theorem d29_11 : decode jdk_65_method_132_code 11 = .ok (.iload_n 1, 1) := by decide +kernel
theorem d29_12 : decode jdk_65_method_132_code 12 = .ok (.iload_n 2, 1) := by decide +kernel
theorem d29_13 : decode jdk_65_method_132_code 13 = .ok (.invokestatic 339, 3) := by decide +kernel
theorem d29_16 : decode jdk_65_method_132_code 16 = .ok (.areturn, 1) := by decide +kernel
theorem pd_13 : parseMethodDescriptor "([BII)[B" = some ⟨[(.array .byte), .int, .int], some (.array .byte)⟩ := by decide +kernel
theorem pn_rmCRt0 : plainFor yy23 = true := by first | exact plainFor_of_name (by first | (simp [plainName, overriddenIn]; done) | decide +kernel) | decide +kernel
theorem ef_rmCRt0 (m : MethodId) (d : Addr) : entryFrame m #[(.ref d), (.int (0 : Int32)), (.int (55 : Int32))] 3 = (mkF m 0 #[rv d, iv (0 : Int32), iv (55 : Int32)] []) := by first | (simp [entryFrame, mkF, argsToLocals, Value.category]; done) | rfl
def QCRt0 (Z : State) (d : Addr) (kd : ClassId) (vs1 : List Value) (h0 : Heap) (n0 : Nat) (v_ : Option Value) (h_ : Heap) (L_ : List Loc) : Prop := ∃ y : Addr, ∃ ky : ClassId, (v_ = some (.ref y)) ∧ (Fr n0 L_) ∧ (Keep h0 h_ []) ∧ (h0.size ≤ y) ∧ (Arv Z h_ y ky .byte (55 : Int32) (own_cp vs1 own_z55 (0 : Int32) (0 : Int32) (55 : Int32) (.int (0 : Int32))) (.int (0 : Int32)))
set_option maxRecDepth 65536 in
set_option maxHeartbeats 40000000 in
theorem rmCRt0 (l : Launch) (Z : State) (a0 : Array Value) (hw : ∀ d ∈ tables_1, d.before a0 Z = true) (ws : List Jvm.Cond) (d : Addr) (kd : ClassId) (vs1 : List Value) (h0 : Heap) (n0 : Nat) (Z0 : n0 ≤ h0.size) (p_0 : Arv Z h0 d kd .byte (80 : Int32) vs1 (.int (0 : Int32))) :
    MetFree l yy23 (head1 (Jvm.Cond.code yy23 jdk_65_method_132_code 3 (some (.array .byte)) :: ws) rRrmCRt0) (fun a_ U_ => a_ = #[(.ref d), (.int (0 : Int32)), (.int (55 : Int32))] ∧ Z.Warmed39 U_.vm ∧ U_.heap = h0) (fun _ _ _ _ _ => True) (fun _ U_ o_ U1_ => ∃ v_ L_, o_ = .returned v_ ∧ QCRt0 Z d kd vs1 h0 n0 v_ U1_.heap L_ ∧ FrameEnd U_ o_ U1_ L_ rRrmCRt0.cells rRrmCRt0.slots) := by
  refine MetFree.of_bodySF pn_rmCRt0 hisR ?_
  intro p e s m args below meth c s₁ Bd hml0 hP hK
  obtain ⟨rfl, hZ, hh⟩ := hP
  have hx := Bd.exec
  have hby := Bd.bytes
  have hlk : meth.locks = false := Bd.notSynchronized
  have hml : c.maxLocals = 3 := hml0
  have hown : s.vm.findClass "java/util/Arrays" = some m.cls := findClass_of_methodNamed Bd.named
  have hnm := (name_of_methodNamed Bd.named Bd.method).1
  have X0 : Stand p l e rRrmCRt0 s m #[(.ref d), (.int (0 : Int32)), (.int (55 : Int32))] below meth c s₁ [] 0 0 := Stand.of_body Bd
  have e0 : s₁.heap = h0 := by rw [← hh, Bd.state]; rfl
  have N0 := Fr.nil n0
  show own_Goes p e below s (QCRt0 Z d kd vs1 h0 n0) rRrmCRt0.cells rRrmCRt0.slots s₁ (entryFrame m #[(.ref d), (.int (0 : Int32)), (.int (55 : Int32))] 3)
  rw [ef_rmCRt0 m d]
  show own_Goes p e below s (QCRt0 Z d kd vs1 h0 n0) rRrmCRt0.cells rRrmCRt0.slots s₁ (mkF m 0 #[rv d, iv (0 : Int32), iv (55 : Int32)] [])
  refine own_st (fun _ kk_ => XS.iloadN X0.here hx rfl (hb hby d29_0) rfl (XS.ifNo X0.here hx rfl (hb hby d29_1) rfl (XT.i0_ne_f (by decide)) (XS.iloadN X0.here hx rfl (hb hby d29_4) rfl (XS.aloadN X0.here hx rfl (hb hby d29_5) rfl rfl kk_)))) ?_
  show own_Goes _ _ _ _ _ _ _ s₁ (mkF m 6 #[rv d, iv (0 : Int32), iv (55 : Int32)] [(.ref d), (.int (55 : Int32))])
  obtain ⟨cl1, Ar1, -, Sz1, Nn1, -, -⟩ := id p_0
  refine own_st (fun _ kk_ => X0.arraylength hx (by rw [e0]; exact Ar1.1) (State.isArrayOf_alike hZ.alike Ar1.2.1) (g := (mkF m 6 #[rv d, iv (0 : Int32), iv (55 : Int32)] [(.ref d), (.int (55 : Int32))])) rfl rfl (hb hby d29_6) _ kk_) ?_
  rw [len_of Sz1 Nn1]
  show own_Goes _ _ _ _ _ _ _ s₁ (mkF m 7 #[rv d, iv (0 : Int32), iv (55 : Int32)] [(.int (80 : Int32)), (.int (55 : Int32))])
  refine own_st (fun _ kk_ => XS.icmpNo X0.here hx rfl (hb hby d29_7) rfl (XT.ii_eq_f (by decide)) (XS.aloadN X0.here hx rfl (hb hby d29_10) rfl rfl (XS.iloadN X0.here hx rfl (hb hby d29_11) rfl (XS.iloadN X0.here hx rfl (hb hby d29_12) rfl kk_)))) ?_
  show own_Goes _ _ _ _ _ _ _ s₁ (mkF m 13 #[rv d, iv (0 : Int32), iv (55 : Int32)] [(.int (55 : Int32)), (.int (0 : Int32)), (.ref d)])
  obtain ⟨_, _, ⟨T2, L2, k2, n2⟩, -, X2, ⟨Lc2, hQ2, l2, y2, z2⟩, st2⟩ := Jvm.LawKit.callS X0 hx (y := yy22) hown (mvT hZ (own_w hw 176 rfl)) (mvT hZ (own_w hw 177 rfl)) (mvT hZ (own_w hw 107 rfl)) (mvT hZ (own_w hw 178 rfl)) (by decide) (backOf (W := 0) (rmRBt0 l Z a0 hw [] (d) (kd) (vs1) h0 n0 Z0 p_0) hZ (own_w hw 178 rfl) (own_w hw 107 rfl) (by decide) (by decide)) (g := (mkF m 13 #[rv d, iv (0 : Int32), iv (55 : Int32)] [(.int (55 : Int32)), (.int (0 : Int32)), (.ref d)])) rfl (by rw [hml]; rfl) (argsL := [(.ref d), (.int (0 : Int32)), (.int (55 : Int32))]) (rest := []) (lenOf pd_13 rfl) rfl (by show 2 * 0 + _ ≤ _; exact Nat.le_of_eq rfl) (hb hby d29_13) (fun _ _ => ⟨rfl, e0, (by decide : 0 + 1 ≤ _), (by decide : 0 + 55 ≤ _)⟩)
  dsimp only [Pt.U, Pt.locs, Pt.cells, Pt.slots] at X2 l2 y2 z2 st2 hQ2
  subst l2 y2 z2
  obtain ⟨x2_y, x2_ky, rfl, Nq2, Kq2, u2_0, u2_1⟩ := hQ2
  have N2 := Fr.app N0 Nq2
  have f2_0 := p_0.keep Kq2 nin0
  have Zs2 : n0 ≤ T2.heap.size := Nat.le_trans Z0 Kq2.1
  have K2 := (Keep.refl h0 []).trans Kq2 all0
  have ne2_d : d ≠ x2_y := Nat.ne_of_lt (Nat.lt_of_lt_of_le p_0.lt u2_0)
  have sz2_y : h0.size ≤ x2_y := Nat.le_trans (Keep.refl h0 []).1 u2_0
  have gg2_y : n0 ≤ x2_y := Nat.le_trans Z0 u2_0
  refine own_st st2 ?_
  show own_Goes _ _ _ _ _ _ _ T2 (mkF m 16 #[rv d, iv (0 : Int32), iv (55 : Int32)] [(.ref x2_y)])
  refine own_retA X2 hx hlk rfl Bd.returns rfl (hb hby d29_16) (by decide) (by decide) ?_
  show QCRt0 Z d kd vs1 h0 n0 (some (.ref x2_y)) T2.heap _
  exact ⟨x2_y, x2_ky, rfl, N2, K2, u2_0, u2_1⟩
abbrev rRrmSVt0 : Room := { frames := 3, cells := 1, slots := 55, locals := 49 }
theorem d24_0 : decode jdk_42_method_150_code 0 = .ok (.aload_n 0, 1) := by decide +kernel
theorem d24_1 : decode jdk_42_method_150_code 1 = .ok (.invokespecial 1, 3) := by decide +kernel
theorem d24_4 : decode jdk_42_method_150_code 4 = .ok (.aload_n 1, 1) := by decide +kernel
theorem d24_5 : decode jdk_42_method_150_code 5 = .ok (.invokevirtual 552, 3) := by decide +kernel
theorem d24_8 : decode jdk_42_method_150_code 8 = .ok (.astore_n 3, 1) := by decide +kernel
theorem d24_9 : decode jdk_42_method_150_code 9 = .ok (.aload_n 1, 1) := by decide +kernel
theorem d24_10 : decode jdk_42_method_150_code 10 = .ok (.invokevirtual 549, 3) := by decide +kernel
theorem d24_13 : decode jdk_42_method_150_code 13 = .ok (.istore 4, 2) := by decide +kernel
theorem d24_15 : decode jdk_42_method_150_code 15 = .ok (.aload_n 1, 1) := by decide +kernel
theorem d24_16 : decode jdk_42_method_150_code 16 = .ok (.invokevirtual 1047, 3) := by decide +kernel
theorem d24_19 : decode jdk_42_method_150_code 19 = .ok (.ifCond .eq 22, 3) := by decide +kernel
theorem d24_22 : decode jdk_42_method_150_code 22 = .ok (.aload_n 0, 1) := by decide +kernel
theorem d24_23 : decode jdk_42_method_150_code 23 = .ok (.iconst 0, 1) := by decide +kernel
theorem d24_24 : decode jdk_42_method_150_code 24 = .ok (.putfield 15, 3) := by decide +kernel
theorem d24_27 : decode jdk_42_method_150_code 27 = .ok (.aload_n 0, 1) := by decide +kernel
theorem d24_28 : decode jdk_42_method_150_code 28 = .ok (.aload_n 3, 1) := by decide +kernel
theorem d24_29 : decode jdk_42_method_150_code 29 = .ok (.iconst 0, 1) := by decide +kernel
theorem d24_30 : decode jdk_42_method_150_code 30 = .ok (.iload 4, 2) := by decide +kernel
theorem d24_32 : decode jdk_42_method_150_code 32 = .ok (.invokestatic 54, 3) := by decide +kernel
theorem d24_35 : decode jdk_42_method_150_code 35 = .ok (.putfield 9, 3) := by decide +kernel
theorem d24_38 : decode jdk_42_method_150_code 38 = .ok (.goto 59, 3) := by decide +kernel
theorem d24_97 : decode jdk_42_method_150_code 97 = .ok (.return_, 1) := by decide +kernel
theorem pd_14 : parseMethodDescriptor "()[B" = some ⟨[], some (.array .byte)⟩ := by decide +kernel
theorem pd_15 : parseMethodDescriptor "()Z" = some ⟨[], some .boolean⟩ := by decide +kernel
theorem pn_rmSVt0 : plainFor yy24 = true := by first | exact plainFor_of_name (by first | (simp [plainName, overriddenIn]; done) | decide +kernel) | decide +kernel
theorem ef_rmSVt0 (m : MethodId) (s9 : Addr) (o : Addr) : entryFrame m #[(.ref s9), (.ref o), .null] 5 = (mkF m 0 #[rv s9, rv o, .val .null, .unset, .unset] []) := by first | (simp [entryFrame, mkF, argsToLocals, Value.category]; done) | rfl
def QSVt0 (Z : State) (s9 : Addr) (o : Addr) (d : Addr) (kd : ClassId) (vs1 : List Value) (cs : Int32) (h0 : Heap) (n0 : Nat) (v_ : Option Value) (h_ : Heap) (L_ : List Loc) : Prop := ∃ y : Addr, ∃ ky : ClassId, (v_ = none) ∧ (Fr n0 L_) ∧ (Keep h0 h_ [s9]) ∧ (h0.size ≤ y) ∧ (Exa Z h_ s9 "java/lang/String") ∧ (Fld Z h_ s9 "java/lang/String" "coder" "B" (.int (0 : Int32))) ∧ (Fld Z h_ s9 "java/lang/String" "value" "[B" (.ref y)) ∧ (Arv Z h_ y ky .byte (55 : Int32) (own_cp vs1 own_z55 (0 : Int32) (0 : Int32) (55 : Int32) (.int (0 : Int32))) (.int (0 : Int32)))
set_option maxRecDepth 65536 in
set_option maxHeartbeats 40000000 in
theorem rmSVt0 (l : Launch) (Z : State) (a0 : Array Value) (hw : ∀ d ∈ tables_1, d.before a0 Z = true) (ws : List Jvm.Cond) (s9 : Addr) (o : Addr) (d : Addr) (kd : ClassId) (vs1 : List Value) (cs : Int32) (h0 : Heap) (n0 : Nat) (Z0 : n0 ≤ h0.size) (p_0 : Exa Z h0 s9 "java/lang/String") (p_1 : Fld Z h0 s9 "java/lang/String" "value" "[B" .null) (p_2 : Fld Z h0 s9 "java/lang/String" "coder" "B" (.int (0 : Int32))) (p_3 : n0 ≤ s9) (p_4 : Exa Z h0 o "java/lang/StringBuilder") (p_5 : Fld Z h0 o "java/lang/AbstractStringBuilder" "value" "[B" (.ref d)) (p_6 : Fld Z h0 o "java/lang/AbstractStringBuilder" "coder" "B" (.int (0 : Int32))) (p_7 : Fld Z h0 o "java/lang/AbstractStringBuilder" "count" "I" (.int (55 : Int32))) (p_8 : Arv Z h0 d kd .byte (80 : Int32) vs1 (.int (0 : Int32))) (p_9 : Sta Z h0 "java/lang/String" "COMPACT_STRINGS" "Z" (.int cs)) (hcs : ¬ cs = (0 : Int32)) (p_11 : s9 ≠ o) (p_12 : s9 ≠ d) :
    MetFree l yy24 (head1 (Jvm.Cond.code yy24 jdk_42_method_150_code 5 none :: ws) rRrmSVt0) (fun a_ U_ => a_ = #[(.ref s9), (.ref o), .null] ∧ Z.Warmed39 U_.vm ∧ U_.heap = h0) (fun _ _ _ _ _ => True) (fun _ U_ o_ U1_ => ∃ v_ L_, o_ = .returned v_ ∧ QSVt0 Z s9 o d kd vs1 cs h0 n0 v_ U1_.heap L_ ∧ FrameEnd U_ o_ U1_ L_ rRrmSVt0.cells rRrmSVt0.slots) := by
  refine MetFree.of_bodySF pn_rmSVt0 hisR ?_
  intro p e s m args below meth c s₁ Bd hml0 hP hK
  obtain ⟨rfl, hZ, hh⟩ := hP
  have hx := Bd.exec
  have hby := Bd.bytes
  have hlk : meth.locks = false := Bd.notSynchronized
  have hml : c.maxLocals = 5 := hml0
  have hown : s.vm.findClass "java/lang/String" = some m.cls := findClass_of_methodNamed Bd.named
  have hnm := (name_of_methodNamed Bd.named Bd.method).1
  have X0 : Stand p l e rRrmSVt0 s m #[(.ref s9), (.ref o), .null] below meth c s₁ [] 0 0 := Stand.of_body Bd
  have e0 : s₁.heap = h0 := by rw [← hh, Bd.state]; rfl
  have N0 := Fr.nil n0
  show own_Goes p e below s (QSVt0 Z s9 o d kd vs1 cs h0 n0) rRrmSVt0.cells rRrmSVt0.slots s₁ (entryFrame m #[(.ref s9), (.ref o), .null] 5)
  rw [ef_rmSVt0 m s9 o]
  show own_Goes p e below s (QSVt0 Z s9 o d kd vs1 cs h0 n0) rRrmSVt0.cells rRrmSVt0.slots s₁ (mkF m 0 #[rv s9, rv o, .val .null, .unset, .unset] [])
  refine own_st (fun _ kk_ => XS.aloadN X0.here hx rfl (hb hby d24_0) rfl rfl kk_) ?_
  show own_Goes _ _ _ _ _ _ _ s₁ (mkF m 1 #[rv s9, rv o, .val .null, .unset, .unset] [(.ref s9)])
  obtain ⟨T1, X1, e1, st1⟩ := initO X0 hx hZ hown (own_w hw 154 rfl) (own_w hw 12 rfl) (own_w hw 13 rfl) e0 (g := (mkF m 1 #[rv s9, rv o, .val .null, .unset, .unset] [(.ref s9)])) rfl (by rw [hml]; rfl) rfl (hb hby d24_1) (by decide) (W := 0) (by show 2 * 0 + _ ≤ _; exact Nat.le_of_eq rfl) (by decide)
  refine own_st st1 ?_
  show own_Goes _ _ _ _ _ _ _ T1 (mkF m 4 #[rv s9, rv o, .val .null, .unset, .unset] [])
  refine own_st (fun _ kk_ => XS.aloadN X1.here hx rfl (hb hby d24_4) rfl rfl kk_) ?_
  show own_Goes _ _ _ _ _ _ _ T1 (mkF m 5 #[rv s9, rv o, .val .null, .unset, .unset] [(.ref o)])
  obtain ⟨cq2, kq2, q2a, q2b, q2c⟩ := isOf hZ e1 p_4
  obtain ⟨_, _, ⟨T2, L2, k2, n2⟩, -, X2, ⟨Lc2, hQ2, l2, y2, z2⟩, st2⟩ := X1.virtualBack hx (y := yy17) (z := yy17) hown (mvT hZ (own_w hw 155 rfl)) (mvT hZ (own_w hw 156 rfl)) (notFace_of_selects (args := #[]) (mvT hZ (own_w hw 158 rfl))) (mvT hZ (own_w hw 158 rfl)) (mvT hZ (own_w hw 157 rfl)) (by decide) (backOf (W := 0) (rm25 l Z a0 hw [] (o) (d) h0 n0 Z0 p_4 p_5) hZ (own_w hw 159 rfl) (own_w hw 51 rfl) (by decide) (by decide)) q2a q2c (g := (mkF m 5 #[rv s9, rv o, .val .null, .unset, .unset] [(.ref o)])) rfl (by rw [hml]; rfl) (Steps.refl _) (argsL := []) (rest := []) (lenOf pd_14 rfl) rfl (by show 2 * 0 + _ ≤ _; exact Nat.le_of_eq rfl) (hb hby d24_5) (fun _ _ => ⟨rfl, e1, (by decide : 0 + 0 ≤ _), (by decide : 0 + 0 ≤ _)⟩)
  dsimp only [Pt.U, Pt.locs, Pt.cells, Pt.slots] at X2 l2 y2 z2 st2 hQ2
  subst l2 y2 z2
  obtain ⟨rfl, Nq2, eq2⟩ := hQ2
  have N2 := Fr.app N0 Nq2
  refine own_st (fun _ kk_ => st2.trans kk_) ?_
  show own_Goes _ _ _ _ _ _ _ T2 (mkF m 8 #[rv s9, rv o, .val .null, .unset, .unset] [(.ref d)])
  refine own_st (fun _ kk_ => XS.astoreN X2.here hx rfl (hb hby d24_8) rfl rfl (l' := #[rv s9, rv o, .val .null, rv d, .unset]) rfl (XS.aloadN X2.here hx rfl (hb hby d24_9) rfl rfl kk_)) ?_
  show own_Goes _ _ _ _ _ _ _ T2 (mkF m 10 #[rv s9, rv o, .val .null, rv d, .unset] [(.ref o)])
  obtain ⟨cq3, kq3, q3a, q3b, q3c⟩ := isOf hZ eq2 p_4
  obtain ⟨_, _, ⟨T3, L3, k3, n3⟩, -, X3, ⟨Lc3, hQ3, l3, y3, z3⟩, st3⟩ := X2.virtualBack hx (y := yy18) (z := yy19) hown (mvT hZ (own_w hw 160 rfl)) (mvT hZ (own_w hw 161 rfl)) (own_nf (args := #[]) (mvT hZ (own_w hw 88 rfl)) rfl) (mvT hZ (own_w hw 163 rfl)) (mvT hZ (own_w hw 164 rfl)) (by decide) (backOf (W := 0) (rm26 l Z a0 hw [] (o) ((55 : Int32)) h0 n0 Z0 p_4 p_7) hZ (own_w hw 165 rfl) (own_w hw 43 rfl) (by decide) (by decide)) q3a q3c (g := (mkF m 10 #[rv s9, rv o, .val .null, rv d, .unset] [(.ref o)])) rfl (by rw [hml]; rfl) (Steps.refl _) (argsL := []) (rest := []) (lenOf pd_9 rfl) rfl (by show 2 * 0 + _ ≤ _; exact Nat.le_of_eq rfl) (hb hby d24_10) (fun _ _ => ⟨rfl, eq2, (by decide : 0 + 0 ≤ _), (by decide : 0 + 0 ≤ _)⟩)
  dsimp only [Pt.U, Pt.locs, Pt.cells, Pt.slots] at X3 l3 y3 z3 st3 hQ3
  subst l3 y3 z3
  obtain ⟨rfl, Nq3, eq3⟩ := hQ3
  have N3 := Fr.app N2 Nq3
  refine own_st (fun _ kk_ => st3.trans kk_) ?_
  show own_Goes _ _ _ _ _ _ _ T3 (mkF m 13 #[rv s9, rv o, .val .null, rv d, .unset] [(.int (55 : Int32))])
  refine own_st (fun _ kk_ => XS.istore X3.here hx rfl (hb hby d24_13) rfl (l' := #[rv s9, rv o, .val .null, rv d, iv (55 : Int32)]) rfl (XS.aloadN X3.here hx rfl (hb hby d24_15) rfl rfl kk_)) ?_
  show own_Goes _ _ _ _ _ _ _ T3 (mkF m 16 #[rv s9, rv o, .val .null, rv d, iv (55 : Int32)] [(.ref o)])
  obtain ⟨cq4, kq4, q4a, q4b, q4c⟩ := isOf hZ eq3 p_4
  obtain ⟨_, _, ⟨T4, L4, k4, n4⟩, -, X4, ⟨Lc4, hQ4, l4, y4, z4⟩, st4⟩ := X3.virtualBack hx (y := yy20) (z := yy20) hown (mvT hZ (own_w hw 168 rfl)) (mvT hZ (own_w hw 169 rfl)) (notFace_of_selects (args := #[]) (mvT hZ (own_w hw 171 rfl))) (mvT hZ (own_w hw 171 rfl)) (mvT hZ (own_w hw 170 rfl)) (by decide) (backOf (W := 0) (rm28 l Z a0 hw [] (o) (cs) h0 n0 Z0 p_4 p_6 p_9 (by assumption)) hZ (own_w hw 172 rfl) (own_w hw 51 rfl) (by decide) (by decide)) q4a q4c (g := (mkF m 16 #[rv s9, rv o, .val .null, rv d, iv (55 : Int32)] [(.ref o)])) rfl (by rw [hml]; rfl) (Steps.refl _) (argsL := []) (rest := []) (lenOf pd_15 rfl) rfl (by show 2 * 0 + _ ≤ _; exact Nat.le_of_eq rfl) (hb hby d24_16) (fun _ _ => ⟨rfl, eq3, (by decide : 0 + 0 ≤ _), (by decide : 0 + 0 ≤ _)⟩)
  dsimp only [Pt.U, Pt.locs, Pt.cells, Pt.slots] at X4 l4 y4 z4 st4 hQ4
  subst l4 y4 z4
  obtain ⟨rfl, Nq4, eq4⟩ := hQ4
  have N4 := Fr.app N3 Nq4
  refine own_st (fun _ kk_ => st4.trans kk_) ?_
  show own_Goes _ _ _ _ _ _ _ T4 (mkF m 19 #[rv s9, rv o, .val .null, rv d, iv (55 : Int32)] [(.int (1 : Int32))])
  refine own_st (fun _ kk_ => XS.ifNo X4.here hx rfl (hb hby d24_19) rfl (XT.i0_eq_f (by decide)) (XS.aloadN X4.here hx rfl (hb hby d24_22) rfl rfl (XS.iconst X4.here hx rfl (hb hby d24_23) kk_))) ?_
  show own_Goes _ _ _ _ _ _ _ T4 (mkF m 24 #[rv s9, rv o, .val .null, rv d, iv (55 : Int32)] [(.int (0 : Int32)), (.ref s9)])
  obtain ⟨T5, h5, X5, e5, W5, st5⟩ := putFN X4 hx hZ hown (own_w hw 82 rfl) Via.refl eq4 p_2 p_0 (Or.inr ⟨(own_w hw 23 rfl), rfl, hnm⟩) (own_w hw 20 rfl) (ty := .byte) (v' := (.int (nar .byte (0 : Int32)))) (by decide) rfl (fits_nar_byte _) (g := (mkF m 24 #[rv s9, rv o, .val .null, rv d, iv (55 : Int32)] [(.int (0 : Int32)), (.ref s9)])) rfl rfl (hb hby d24_24)
  have fw5 : Fld Z h5 s9 "java/lang/String" "coder" "B" (.int (nar .byte (0 : Int32))) := p_2.same W5
  have f5_0 := p_0.wr W5
  have f5_1 := p_1.other W5 (Or.inr (slot_ne (Or.inr (own_w hw 22 rfl)) (Or.inr (own_w hw 23 rfl)) (by decide) (t := (.array .byte)) (t' := .byte) (by decide) (by decide)))
  have f5_3 := p_4.wr W5
  have f5_4 := p_5.other W5 (Or.inl (Ne.symm p_11))
  have f5_5 := p_6.other W5 (Or.inl (Ne.symm p_11))
  have f5_6 := p_7.other W5 (Or.inl (Ne.symm p_11))
  have f5_7 := p_8.other W5 (Ne.symm p_12)
  have f5_8 := p_9.wr W5
  have Zs5 : n0 ≤ h5.size := Nat.le_trans Z0 (Nat.le_of_eq W5.size.symm)
  have K5 := (Keep.refl h0 [s9]).wr W5 (Or.inl (List.mem_of_getElem? (i := 0) rfl))
  have N5 := Fr.snoc X5 N4 p_3
  refine own_st st5 ?_
  show own_Goes _ _ _ _ _ _ _ T5 (mkF m 27 #[rv s9, rv o, .val .null, rv d, iv (55 : Int32)] [])
  refine own_st (fun _ kk_ => XS.aloadN X5.here hx rfl (hb hby d24_27) rfl rfl (XS.aloadN X5.here hx rfl (hb hby d24_28) rfl rfl (XS.iconst X5.here hx rfl (hb hby d24_29) (XS.iload X5.here hx rfl (hb hby d24_30) rfl kk_)))) ?_
  show own_Goes _ _ _ _ _ _ _ T5 (mkF m 32 #[rv s9, rv o, .val .null, rv d, iv (55 : Int32)] [(.int (55 : Int32)), (.int (0 : Int32)), (.ref d), (.ref s9)])
  obtain ⟨_, _, ⟨T6, L6, k6, n6⟩, -, X6, ⟨Lc6, hQ6, l6, y6, z6⟩, st6⟩ := Jvm.LawKit.callS X5 hx (y := yy23) hown (mvT hZ (own_w hw 173 rfl)) (mvT hZ (own_w hw 174 rfl)) (mvT hZ (own_w hw 107 rfl)) (mvT hZ (own_w hw 175 rfl)) (by decide) (backOf (W := 1) (rmCRt0 l Z a0 hw [] (d) (kd) (vs1) h5 n0 Zs5 f5_7) hZ (own_w hw 175 rfl) (own_w hw 107 rfl) (by decide) (by decide)) (g := (mkF m 32 #[rv s9, rv o, .val .null, rv d, iv (55 : Int32)] [(.int (55 : Int32)), (.int (0 : Int32)), (.ref d), (.ref s9)])) rfl (by rw [hml]; rfl) (argsL := [(.ref d), (.int (0 : Int32)), (.int (55 : Int32))]) (rest := [(.ref s9)]) (lenOf pd_13 rfl) rfl (by show 2 * 0 + _ ≤ _; exact Nat.le_of_eq rfl) (hb hby d24_32) (fun _ _ => ⟨rfl, e5, (by decide : 0 + 1 ≤ _), (by decide : 0 + 55 ≤ _)⟩)
  dsimp only [Pt.U, Pt.locs, Pt.cells, Pt.slots] at X6 l6 y6 z6 st6 hQ6
  subst l6 y6 z6
  obtain ⟨x6_y, x6_ky, rfl, Nq6, Kq6, u6_0, u6_1⟩ := hQ6
  have N6 := Fr.app N5 Nq6
  have f6_0 := f5_0.keep Kq6
  have f6_1 := f5_1.keep Kq6 nin0
  have f6_2 := f5_3.keep Kq6
  have f6_3 := f5_4.keep Kq6 nin0
  have f6_4 := f5_5.keep Kq6 nin0
  have f6_5 := f5_6.keep Kq6 nin0
  have f6_6 := f5_7.keep Kq6 nin0
  have f6_7 := own_Sta_keep f5_8 Kq6 ns0
  have f6_8 := fw5.keep Kq6 nin0
  have Zs6 : n0 ≤ T6.heap.size := Nat.le_trans Zs5 Kq6.1
  have K6 := K5.trans Kq6 all0
  have ne6_s9 : s9 ≠ x6_y := Nat.ne_of_lt (Nat.lt_of_lt_of_le f5_0.lt u6_0)
  have ne6_o : o ≠ x6_y := Nat.ne_of_lt (Nat.lt_of_lt_of_le f5_3.lt u6_0)
  have ne6_d : d ≠ x6_y := Nat.ne_of_lt (Nat.lt_of_lt_of_le f5_7.lt u6_0)
  have sz6_y : h0.size ≤ x6_y := Nat.le_trans K5.1 u6_0
  have gg6_y : n0 ≤ x6_y := Nat.le_trans Zs5 u6_0
  refine own_st st6 ?_
  show own_Goes _ _ _ _ _ _ _ T6 (mkF m 35 #[rv s9, rv o, .val .null, rv d, iv (55 : Int32)] [(.ref x6_y), (.ref s9)])
  obtain ⟨T7, h7, X7, e7, W7, st7⟩ := putF X6 hx hZ hown (host := "") (Or.inl (own_w hw 75 rfl)) Via.refl rfl f6_1 f6_0 (Or.inr ⟨(own_w hw 22 rfl), rfl, hnm⟩) (own_w hw 20 rfl) (ty := (.array .byte)) (by decide) rfl rfl (g := (mkF m 35 #[rv s9, rv o, .val .null, rv d, iv (55 : Int32)] [(.ref x6_y), (.ref s9)])) rfl rfl (hb hby d24_35)
  have fw7 : Fld Z h7 s9 "java/lang/String" "value" "[B" (.ref x6_y) := f6_1.same W7
  have f7_0 := f6_0.wr W7
  have f7_2 := f6_2.wr W7
  have f7_3 := f6_3.other W7 (Or.inl (Ne.symm p_11))
  have f7_4 := f6_4.other W7 (Or.inl (Ne.symm p_11))
  have f7_5 := f6_5.other W7 (Or.inl (Ne.symm p_11))
  have f7_6 := f6_6.other W7 (Ne.symm p_12)
  have f7_7 := f6_7.wr W7
  have f7_8 := f6_8.other W7 (Or.inr (slot_ne (Or.inr (own_w hw 23 rfl)) (Or.inr (own_w hw 22 rfl)) (by decide) (t := .byte) (t' := (.array .byte)) (by decide) (by decide)))
  have f7_9 := u6_1.other W7 (Ne.symm ne6_s9)
  have Zs7 : n0 ≤ h7.size := Nat.le_trans Zs6 (Nat.le_of_eq W7.size.symm)
  have K7 := K6.wr W7 (Or.inl (List.mem_of_getElem? (i := 0) rfl))
  have N7 := Fr.snoc X7 N6 p_3
  refine own_st st7 ?_
  show own_Goes _ _ _ _ _ _ _ T7 (mkF m 38 #[rv s9, rv o, .val .null, rv d, iv (55 : Int32)] [])
  refine own_st (fun _ kk_ => XS.goto X7.here hx rfl (pc0 := 38) (pc' := 97) rfl (hb hby d24_38) (by decide) (by decide) kk_) ?_
  show own_Goes _ _ _ _ _ _ _ T7 (mkF m 97 #[rv s9, rv o, .val .null, rv d, iv (55 : Int32)] [])
  refine own_ret0 X7 hx hlk Bd.returns (hb hby d24_97) (by decide) (by decide) ?_
  show QSVt0 Z s9 o d kd vs1 cs h0 n0 none T7.heap _
  rw [e7]
  exact ⟨x6_y, x6_ky, rfl, N7, K7, sz6_y, f7_0, f7_8, fw7, f7_9⟩
abbrev rRrmSIt0 : Room := { frames := 4, cells := 1, slots := 55, locals := 65 }
theorem d23_0 : decode jdk_42_method_53_code 0 = .ok (.aload_n 0, 1) := by decide +kernel
theorem d23_1 : decode jdk_42_method_53_code 1 = .ok (.aload_n 1, 1) := by decide +kernel
theorem d23_2 : decode jdk_42_method_53_code 2 = .ok (.aconst_null, 1) := by decide +kernel
theorem d23_3 : decode jdk_42_method_53_code 3 = .ok (.invokespecial 489, 3) := by decide +kernel
theorem d23_6 : decode jdk_42_method_53_code 6 = .ok (.return_, 1) := by decide +kernel
theorem pd_16 : parseMethodDescriptor "(Ljava/lang/AbstractStringBuilder;Ljava/lang/Void;)V" = some ⟨[(.object "java/lang/AbstractStringBuilder"), (.object "java/lang/Void")], none⟩ := by decide +kernel
theorem pn_rmSIt0 : plainFor yy25 = true := by first | exact plainFor_of_name (by first | (simp [plainName, overriddenIn]; done) | decide +kernel) | decide +kernel
theorem ef_rmSIt0 (m : MethodId) (s9 : Addr) (o : Addr) : entryFrame m #[(.ref s9), (.ref o)] 2 = (mkF m 0 #[rv s9, rv o] []) := by first | (simp [entryFrame, mkF, argsToLocals, Value.category]; done) | rfl
def QSIt0 (Z : State) (s9 : Addr) (o : Addr) (d : Addr) (kd : ClassId) (vs1 : List Value) (cs : Int32) (h0 : Heap) (n0 : Nat) (v_ : Option Value) (h_ : Heap) (L_ : List Loc) : Prop := ∃ y : Addr, ∃ ky : ClassId, (v_ = none) ∧ (Fr n0 L_) ∧ (Keep h0 h_ [s9]) ∧ (h0.size ≤ y) ∧ (Exa Z h_ s9 "java/lang/String") ∧ (Fld Z h_ s9 "java/lang/String" "coder" "B" (.int (0 : Int32))) ∧ (Fld Z h_ s9 "java/lang/String" "value" "[B" (.ref y)) ∧ (Arv Z h_ y ky .byte (55 : Int32) (own_cp vs1 own_z55 (0 : Int32) (0 : Int32) (55 : Int32) (.int (0 : Int32))) (.int (0 : Int32)))
set_option maxRecDepth 65536 in
set_option maxHeartbeats 40000000 in
theorem rmSIt0 (l : Launch) (Z : State) (a0 : Array Value) (hw : ∀ d ∈ tables_1, d.before a0 Z = true) (ws : List Jvm.Cond) (s9 : Addr) (o : Addr) (d : Addr) (kd : ClassId) (vs1 : List Value) (cs : Int32) (h0 : Heap) (n0 : Nat) (Z0 : n0 ≤ h0.size) (p_0 : Exa Z h0 s9 "java/lang/String") (p_1 : Fld Z h0 s9 "java/lang/String" "value" "[B" .null) (p_2 : Fld Z h0 s9 "java/lang/String" "coder" "B" (.int (0 : Int32))) (p_3 : n0 ≤ s9) (p_4 : Exa Z h0 o "java/lang/StringBuilder") (p_5 : Fld Z h0 o "java/lang/AbstractStringBuilder" "value" "[B" (.ref d)) (p_6 : Fld Z h0 o "java/lang/AbstractStringBuilder" "coder" "B" (.int (0 : Int32))) (p_7 : Fld Z h0 o "java/lang/AbstractStringBuilder" "count" "I" (.int (55 : Int32))) (p_8 : Arv Z h0 d kd .byte (80 : Int32) vs1 (.int (0 : Int32))) (p_9 : Sta Z h0 "java/lang/String" "COMPACT_STRINGS" "Z" (.int cs)) (hcs : ¬ cs = (0 : Int32)) (p_11 : s9 ≠ o) (p_12 : s9 ≠ d) :
    MetFree l yy25 (head1 (Jvm.Cond.code yy25 jdk_42_method_53_code 2 none :: ws) rRrmSIt0) (fun a_ U_ => a_ = #[(.ref s9), (.ref o)] ∧ Z.Warmed39 U_.vm ∧ U_.heap = h0) (fun _ _ _ _ _ => True) (fun _ U_ o_ U1_ => ∃ v_ L_, o_ = .returned v_ ∧ QSIt0 Z s9 o d kd vs1 cs h0 n0 v_ U1_.heap L_ ∧ FrameEnd U_ o_ U1_ L_ rRrmSIt0.cells rRrmSIt0.slots) := by
  refine MetFree.of_bodySF pn_rmSIt0 hisR ?_
  intro p e s m args below meth c s₁ Bd hml0 hP hK
  obtain ⟨rfl, hZ, hh⟩ := hP
  have hx := Bd.exec
  have hby := Bd.bytes
  have hlk : meth.locks = false := Bd.notSynchronized
  have hml : c.maxLocals = 2 := hml0
  have hown : s.vm.findClass "java/lang/String" = some m.cls := findClass_of_methodNamed Bd.named
  have hnm := (name_of_methodNamed Bd.named Bd.method).1
  have X0 : Stand p l e rRrmSIt0 s m #[(.ref s9), (.ref o)] below meth c s₁ [] 0 0 := Stand.of_body Bd
  have e0 : s₁.heap = h0 := by rw [← hh, Bd.state]; rfl
  have N0 := Fr.nil n0
  show own_Goes p e below s (QSIt0 Z s9 o d kd vs1 cs h0 n0) rRrmSIt0.cells rRrmSIt0.slots s₁ (entryFrame m #[(.ref s9), (.ref o)] 2)
  rw [ef_rmSIt0 m s9 o]
  show own_Goes p e below s (QSIt0 Z s9 o d kd vs1 cs h0 n0) rRrmSIt0.cells rRrmSIt0.slots s₁ (mkF m 0 #[rv s9, rv o] [])
  refine own_st (fun _ kk_ => XS.aloadN X0.here hx rfl (hb hby d23_0) rfl rfl (XS.aloadN X0.here hx rfl (hb hby d23_1) rfl rfl (XS.aconstNull X0.here hx rfl (hb hby d23_2) kk_))) ?_
  show own_Goes _ _ _ _ _ _ _ s₁ (mkF m 3 #[rv s9, rv o] [.null, (.ref o), (.ref s9)])
  obtain ⟨_, _, ⟨T1, L1, k1, n1⟩, -, X1, ⟨Lc1, hQ1, l1, y1, z1⟩, st1⟩ := X0.specialBack hx (y := yy24) rfl hown (mvT hZ (own_w hw 151 rfl)) (mvT hZ (own_w hw 152 rfl)) (mvT hZ (own_w hw 153 rfl)) (by decide) (backOf (W := 0) (rmSVt0 l Z a0 hw [] (s9) (o) (d) (kd) (vs1) (cs) h0 n0 Z0 p_0 p_1 p_2 p_3 p_4 p_5 p_6 p_7 p_8 p_9 (by assumption) p_11 p_12) hZ (own_w hw 153 rfl) (own_w hw 19 rfl) (by decide) (by decide)) (g := (mkF m 3 #[rv s9, rv o] [.null, (.ref o), (.ref s9)])) rfl (by rw [hml]; rfl) (Steps.refl _) (a := s9) (argsL := [(.ref o), .null]) (rest := []) (lenOf pd_16 rfl) rfl (by show 2 * 0 + _ ≤ _; exact Nat.le_of_eq rfl) (hb hby d23_3) (fun _ _ => ⟨rfl, e0, (by decide : 0 + 1 ≤ _), (by decide : 0 + 55 ≤ _)⟩)
  dsimp only [Pt.U, Pt.locs, Pt.cells, Pt.slots] at X1 l1 y1 z1 st1 hQ1
  subst l1 y1 z1
  obtain ⟨x1_y, x1_ky, rfl, Nq1, Kq1, u1_0, u1_1, u1_2, u1_3, u1_4⟩ := hQ1
  have N1 := Fr.app N0 Nq1
  have f1_0 := p_0.keep Kq1
  have f1_3 := p_4.keep Kq1
  have f1_4 := p_5.keep Kq1 (ninS (Ne.symm p_11) nin0)
  have f1_5 := p_6.keep Kq1 (ninS (Ne.symm p_11) nin0)
  have f1_6 := p_7.keep Kq1 (ninS (Ne.symm p_11) nin0)
  have f1_7 := p_8.keep Kq1 (ninS (Ne.symm p_12) nin0)
  have f1_8 := own_Sta_keep p_9 Kq1 (nsS p_0.nostat ns0)
  have Zs1 : n0 ≤ T1.heap.size := Nat.le_trans Z0 Kq1.1
  have K1 := (Keep.refl h0 [s9]).trans Kq1 (allS (Or.inl (List.mem_of_getElem? (i := 0) rfl)) all0)
  have ne1_s9 : s9 ≠ x1_y := Nat.ne_of_lt (Nat.lt_of_lt_of_le p_0.lt u1_0)
  have ne1_o : o ≠ x1_y := Nat.ne_of_lt (Nat.lt_of_lt_of_le p_4.lt u1_0)
  have ne1_d : d ≠ x1_y := Nat.ne_of_lt (Nat.lt_of_lt_of_le p_8.lt u1_0)
  have sz1_y : h0.size ≤ x1_y := Nat.le_trans (Keep.refl h0 [s9]).1 u1_0
  have gg1_y : n0 ≤ x1_y := Nat.le_trans Z0 u1_0
  refine own_st (fun _ kk_ => st1.trans kk_) ?_
  show own_Goes _ _ _ _ _ _ _ T1 (mkF m 6 #[rv s9, rv o] [])
  refine own_ret0 X1 hx hlk Bd.returns (hb hby d23_6) (by decide) (by decide) ?_
  show QSIt0 Z s9 o d kd vs1 cs h0 n0 none T1.heap _
  exact ⟨x1_y, x1_ky, rfl, N1, K1, u1_0, u1_1, u1_2, u1_3, u1_4⟩
abbrev rRrmTSt0 : Room := { frames := 5, cells := 2, slots := 59, locals := 79 }
theorem d22_0 : decode jdk_67_method_42_code 0 = .ok (.new 18, 3) := by decide +kernel
theorem d22_3 : decode jdk_67_method_42_code 3 = .ok (.dup, 1) := by decide +kernel
theorem d22_4 : decode jdk_67_method_42_code 4 = .ok (.aload_n 0, 1) := by decide +kernel
theorem d22_5 : decode jdk_67_method_42_code 5 = .ok (.invokespecial 137, 3) := by decide +kernel
theorem d22_8 : decode jdk_67_method_42_code 8 = .ok (.areturn, 1) := by decide +kernel
theorem pd_17 : parseMethodDescriptor "(Ljava/lang/StringBuilder;)V" = some ⟨[(.object "java/lang/StringBuilder")], none⟩ := by decide +kernel
theorem pn_rmTSt0 : plainFor yy26 = true := by first | exact plainFor_of_name (by first | (simp [plainName, overriddenIn]; done) | decide +kernel) | decide +kernel
theorem ef_rmTSt0 (m : MethodId) (o : Addr) : entryFrame m #[(.ref o)] 1 = (mkF m 0 #[rv o] []) := by first | (simp [entryFrame, mkF, argsToLocals, Value.category]; done) | rfl
def QTSt0 (Z : State) (o : Addr) (d : Addr) (kd : ClassId) (vs1 : List Value) (cs : Int32) (h0 : Heap) (n0 : Nat) (v_ : Option Value) (h_ : Heap) (L_ : List Loc) : Prop := ∃ s9 : Addr, ∃ y : Addr, ∃ ky : ClassId, (v_ = some (.ref s9)) ∧ (Fr n0 L_) ∧ (Keep h0 h_ []) ∧ (h0.size ≤ s9) ∧ (Exa Z h_ s9 "java/lang/String") ∧ (Fld Z h_ s9 "java/lang/String" "coder" "B" (.int (0 : Int32))) ∧ (Fld Z h_ s9 "java/lang/String" "value" "[B" (.ref y)) ∧ (Arv Z h_ y ky .byte (55 : Int32) (own_cp vs1 own_z55 (0 : Int32) (0 : Int32) (55 : Int32) (.int (0 : Int32))) (.int (0 : Int32)))
set_option maxRecDepth 65536 in
set_option maxHeartbeats 40000000 in
theorem rmTSt0 (l : Launch) (Z : State) (a0 : Array Value) (hw : ∀ d ∈ tables_1, d.before a0 Z = true) (ws : List Jvm.Cond) (o : Addr) (d : Addr) (kd : ClassId) (vs1 : List Value) (cs : Int32) (h0 : Heap) (n0 : Nat) (Z0 : n0 ≤ h0.size) (p_0 : Exa Z h0 o "java/lang/StringBuilder") (p_1 : Fld Z h0 o "java/lang/AbstractStringBuilder" "value" "[B" (.ref d)) (p_2 : Fld Z h0 o "java/lang/AbstractStringBuilder" "coder" "B" (.int (0 : Int32))) (p_3 : Fld Z h0 o "java/lang/AbstractStringBuilder" "count" "I" (.int (55 : Int32))) (p_4 : Arv Z h0 d kd .byte (80 : Int32) vs1 (.int (0 : Int32))) (p_5 : Sta Z h0 "java/lang/String" "COMPACT_STRINGS" "Z" (.int cs)) (hcs : ¬ cs = (0 : Int32)) :
    MetFree l yy26 (head1 (Jvm.Cond.code yy26 jdk_67_method_42_code 1 (some (.object "java/lang/String")) :: ws) rRrmTSt0) (fun a_ U_ => a_ = #[(.ref o)] ∧ Z.Warmed39 U_.vm ∧ U_.heap = h0) (fun _ _ _ _ _ => True) (fun _ U_ o_ U1_ => ∃ v_ L_, o_ = .returned v_ ∧ QTSt0 Z o d kd vs1 cs h0 n0 v_ U1_.heap L_ ∧ FrameEnd U_ o_ U1_ L_ rRrmTSt0.cells rRrmTSt0.slots) := by
  refine MetFree.of_bodySF pn_rmTSt0 hisR ?_
  intro p e s m args below meth c s₁ Bd hml0 hP hK
  obtain ⟨rfl, hZ, hh⟩ := hP
  have hx := Bd.exec
  have hby := Bd.bytes
  have hlk : meth.locks = false := Bd.notSynchronized
  have hml : c.maxLocals = 1 := hml0
  have hown : s.vm.findClass "java/lang/StringBuilder" = some m.cls := findClass_of_methodNamed Bd.named
  have hnm := (name_of_methodNamed Bd.named Bd.method).1
  have X0 : Stand p l e rRrmTSt0 s m #[(.ref o)] below meth c s₁ [] 0 0 := Stand.of_body Bd
  have e0 : s₁.heap = h0 := by rw [← hh, Bd.state]; rfl
  have N0 := Fr.nil n0
  show own_Goes p e below s (QTSt0 Z o d kd vs1 cs h0 n0) rRrmTSt0.cells rRrmTSt0.slots s₁ (entryFrame m #[(.ref o)] 1)
  rw [ef_rmTSt0 m o]
  show own_Goes p e below s (QTSt0 Z o d kd vs1 cs h0 n0) rRrmTSt0.cells rRrmTSt0.slots s₁ (mkF m 0 #[rv o] [])
  obtain ⟨T1, h1, X1, e1, E1, A1, D1, -, st1⟩ := newO X0 hx hZ hown (own_w hw 146 rfl) (own_w hw 20 rfl) (own_w hw 19 rfl) e0 (g := (mkF m 0 #[rv o] [])) rfl (hb hby d22_0) (by decide) (by decide)
  obtain ⟨b1, gx1⟩ : ∃ z, z = h0.size := ⟨_, rfl⟩
  rw [← gx1] at A1 D1 st1
  have ne1_o : o ≠ b1 := Nat.ne_of_lt (Nat.lt_of_lt_of_eq p_0.lt gx1.symm)
  have ne1_d : d ≠ b1 := Nat.ne_of_lt (Nat.lt_of_lt_of_eq p_4.lt gx1.symm)
  have gg1 : n0 ≤ b1 := Nat.le_trans Z0 (Nat.le_of_eq gx1.symm)
  have sz1 : h0.size ≤ b1 := Nat.le_trans (Keep.refl h0 []).1 (Nat.le_of_eq gx1.symm)
  have f1_0 := p_0.ext E1
  have f1_1 := p_1.ext E1
  have f1_2 := p_2.ext E1
  have f1_3 := p_3.ext E1
  have f1_4 := p_4.ext E1
  have f1_5 := p_5.ext E1
  have Zs1 : n0 ≤ h1.size := Nat.le_trans Z0 E1.1
  have K1 := (Keep.refl h0 []).ext E1
  have fn1_value : Fld Z h1 b1 "java/lang/String" "value" "[B" .null := D1 (Or.inr (own_w hw 22 rfl)) (ty := (.array .byte)) (by decide)
  have fn1_coder : Fld Z h1 b1 "java/lang/String" "coder" "B" (.int (0 : Int32)) := D1 (Or.inr (own_w hw 23 rfl)) (ty := .byte) (by decide)
  refine own_st st1 ?_
  show own_Goes _ _ _ _ _ _ _ T1 (mkF m 3 #[rv o] [(.ref b1)])
  refine own_st (fun _ kk_ => XS.dup X1.here hx rfl (hb hby d22_3) rfl rfl (XS.aloadN X1.here hx rfl (hb hby d22_4) rfl rfl kk_)) ?_
  show own_Goes _ _ _ _ _ _ _ T1 (mkF m 5 #[rv o] [(.ref o), (.ref b1), (.ref b1)])
  obtain ⟨_, _, ⟨T2, L2, k2, n2⟩, -, X2, ⟨Lc2, hQ2, l2, y2, z2⟩, st2⟩ := X1.specialBack hx (y := yy25) rfl hown (mvT hZ (own_w hw 147 rfl)) (mvT hZ (own_w hw 148 rfl)) (mvT hZ (own_w hw 150 rfl)) (by decide) (backOf (W := 1) (rmSIt0 l Z a0 hw [] (b1) (o) (d) (kd) (vs1) (cs) h1 n0 Zs1 A1 fn1_value fn1_coder gg1 f1_0 f1_1 f1_2 f1_3 f1_4 f1_5 (by assumption) (Ne.symm ne1_o) (Ne.symm ne1_d)) hZ (own_w hw 150 rfl) (own_w hw 19 rfl) (by decide) (by decide)) (g := (mkF m 5 #[rv o] [(.ref o), (.ref b1), (.ref b1)])) rfl (by rw [hml]; rfl) (Steps.refl _) (a := b1) (argsL := [(.ref o)]) (rest := [(.ref b1)]) (lenOf pd_17 rfl) rfl (by show 2 * 0 + _ ≤ _; exact Nat.le_of_eq rfl) (hb hby d22_5) (fun _ _ => ⟨rfl, e1, (by decide : 1 + 1 ≤ _), (by decide : 4 + 55 ≤ _)⟩)
  dsimp only [Pt.U, Pt.locs, Pt.cells, Pt.slots] at X2 l2 y2 z2 st2 hQ2
  subst l2 y2 z2
  obtain ⟨x2_y, x2_ky, rfl, Nq2, Kq2, u2_0, u2_1, u2_2, u2_3, u2_4⟩ := hQ2
  have N2 := Fr.app N0 Nq2
  have f2_0 := f1_0.keep Kq2
  have f2_1 := f1_1.keep Kq2 (ninS ne1_o nin0)
  have f2_2 := f1_2.keep Kq2 (ninS ne1_o nin0)
  have f2_3 := f1_3.keep Kq2 (ninS ne1_o nin0)
  have f2_4 := f1_4.keep Kq2 (ninS ne1_d nin0)
  have f2_5 := own_Sta_keep f1_5 Kq2 (nsS A1.nostat ns0)
  have f2_6 := A1.keep Kq2
  have Zs2 : n0 ≤ T2.heap.size := Nat.le_trans Zs1 Kq2.1
  have K2 := K1.trans Kq2 (allS (Or.inr sz1) all0)
  have ne2_o : o ≠ x2_y := Nat.ne_of_lt (Nat.lt_of_lt_of_le f1_0.lt u2_0)
  have ne2_d : d ≠ x2_y := Nat.ne_of_lt (Nat.lt_of_lt_of_le f1_4.lt u2_0)
  have ne2_b1 : b1 ≠ x2_y := Nat.ne_of_lt (Nat.lt_of_lt_of_le A1.lt u2_0)
  have sz2_y : h0.size ≤ x2_y := Nat.le_trans K1.1 u2_0
  have gg2_y : n0 ≤ x2_y := Nat.le_trans Zs1 u2_0
  refine own_st (fun _ kk_ => st2.trans kk_) ?_
  show own_Goes _ _ _ _ _ _ _ T2 (mkF m 8 #[rv o] [(.ref b1)])
  refine own_retA X2 hx hlk rfl Bd.returns rfl (hb hby d22_8) (by decide) (by decide) ?_
  show QTSt0 Z o d kd vs1 cs h0 n0 (some (.ref b1)) T2.heap _
  exact ⟨b1, x2_y, x2_ky, rfl, N2, K2, sz1, u2_1, u2_2, u2_3, u2_4⟩
abbrev rRrmCKt1 : Room := { frames := 0, cells := 0, slots := 0, locals := 0 }
theorem pn_rmCKt1 : plainFor yy21 = true := by first | exact plainFor_of_name (by first | (simp [plainName, overriddenIn]; done) | decide +kernel) | decide +kernel
theorem ef_rmCKt1 (m : MethodId) : entryFrame m #[(.int (0 : Int32)), (.int (60 : Int32))] 2 = (mkF m 0 #[iv (0 : Int32), iv (60 : Int32)] []) := by first | (simp [entryFrame, mkF, argsToLocals, Value.category]; done) | rfl
def QCKt1 (Z : State) (h0 : Heap) (n0 : Nat) (v_ : Option Value) (h_ : Heap) (L_ : List Loc) : Prop := (v_ = none) ∧ (Fr n0 L_) ∧ (h_ = h0)
set_option maxRecDepth 65536 in
set_option maxHeartbeats 40000000 in
theorem rmCKt1 (l : Launch) (Z : State) (a0 : Array Value) (hw : ∀ d ∈ tables_1, d.before a0 Z = true) (ws : List Jvm.Cond) (h0 : Heap) (n0 : Nat) (Z0 : n0 ≤ h0.size) :
    MetFree l yy21 (head1 (Jvm.Cond.code yy21 jdk_65_method_131_code 2 none :: ws) rRrmCKt1) (fun a_ U_ => a_ = #[(.int (0 : Int32)), (.int (60 : Int32))] ∧ Z.Warmed39 U_.vm ∧ U_.heap = h0) (fun _ _ _ _ _ => True) (fun _ U_ o_ U1_ => ∃ v_ L_, o_ = .returned v_ ∧ QCKt1 Z h0 n0 v_ U1_.heap L_ ∧ FrameEnd U_ o_ U1_ L_ rRrmCKt1.cells rRrmCKt1.slots) := by
  refine MetFree.of_bodySF pn_rmCKt1 hisR ?_
  intro p e s m args below meth c s₁ Bd hml0 hP hK
  obtain ⟨rfl, hZ, hh⟩ := hP
  have hx := Bd.exec
  have hby := Bd.bytes
  have hlk : meth.locks = false := Bd.notSynchronized
  have hml : c.maxLocals = 2 := hml0
  have hown : s.vm.findClass "java/util/Arrays" = some m.cls := findClass_of_methodNamed Bd.named
  have hnm := (name_of_methodNamed Bd.named Bd.method).1
  have X0 : Stand p l e rRrmCKt1 s m #[(.int (0 : Int32)), (.int (60 : Int32))] below meth c s₁ [] 0 0 := Stand.of_body Bd
  have e0 : s₁.heap = h0 := by rw [← hh, Bd.state]; rfl
  have N0 := Fr.nil n0
  show own_Goes p e below s (QCKt1 Z h0 n0) rRrmCKt1.cells rRrmCKt1.slots s₁ (entryFrame m #[(.int (0 : Int32)), (.int (60 : Int32))] 2)
  rw [ef_rmCKt1 m]
  show own_Goes p e below s (QCKt1 Z h0 n0) rRrmCKt1.cells rRrmCKt1.slots s₁ (mkF m 0 #[iv (0 : Int32), iv (60 : Int32)] [])
  refine own_st (fun _ kk_ => XS.iloadN X0.here hx rfl (hb hby d31_0) rfl (XS.iloadN X0.here hx rfl (hb hby d31_1) rfl (XS.icmpYes X0.here hx rfl (pc0 := 2) (pc' := 37) rfl (hb hby d31_2) rfl (XT.ii_ge_t (by decide)) (by decide) (by decide) kk_))) ?_
  show own_Goes _ _ _ _ _ _ _ s₁ (mkF m 37 #[iv (0 : Int32), iv (60 : Int32)] [])
  refine own_ret0 X0 hx hlk Bd.returns (hb hby d31_37) (by decide) (by decide) ?_
  show QCKt1 Z h0 n0 none s₁.heap _
  rw [e0]
  exact ⟨rfl, N0, rfl⟩
abbrev rRrmRBt1 : Room := { frames := 1, cells := 1, slots := 60, locals := 18 }
theorem pn_rmRBt1 : plainFor yy22 = true := by first | exact plainFor_of_name (by first | (simp [plainName, overriddenIn]; done) | decide +kernel) | decide +kernel
theorem ef_rmRBt1 (m : MethodId) (d : Addr) : entryFrame m #[(.ref d), (.int (0 : Int32)), (.int (60 : Int32))] 5 = (mkF m 0 #[rv d, iv (0 : Int32), iv (60 : Int32), .unset, .unset] []) := by first | (simp [entryFrame, mkF, argsToLocals, Value.category]; done) | rfl
def QRBt1 (Z : State) (d : Addr) (kd : ClassId) (vs1 : List Value) (h0 : Heap) (n0 : Nat) (v_ : Option Value) (h_ : Heap) (L_ : List Loc) : Prop := ∃ y : Addr, ∃ ky : ClassId, (v_ = some (.ref y)) ∧ (Fr n0 L_) ∧ (Keep h0 h_ []) ∧ (h0.size ≤ y) ∧ (Arv Z h_ y ky .byte (60 : Int32) (own_cp vs1 own_z60 (0 : Int32) (0 : Int32) (60 : Int32) (.int (0 : Int32))) (.int (0 : Int32)))
set_option maxRecDepth 65536 in
set_option maxHeartbeats 40000000 in
theorem rmRBt1 (l : Launch) (Z : State) (a0 : Array Value) (hw : ∀ d ∈ tables_1, d.before a0 Z = true) (ws : List Jvm.Cond) (d : Addr) (kd : ClassId) (vs1 : List Value) (h0 : Heap) (n0 : Nat) (Z0 : n0 ≤ h0.size) (p_0 : Arv Z h0 d kd .byte (80 : Int32) vs1 (.int (0 : Int32))) :
    MetFree l yy22 (head1 (Jvm.Cond.code yy22 jdk_65_method_133_code 5 (some (.array .byte)) :: ws) rRrmRBt1) (fun a_ U_ => a_ = #[(.ref d), (.int (0 : Int32)), (.int (60 : Int32))] ∧ Z.Warmed39 U_.vm ∧ U_.heap = h0) (fun _ _ _ _ _ => True) (fun _ U_ o_ U1_ => ∃ v_ L_, o_ = .returned v_ ∧ QRBt1 Z d kd vs1 h0 n0 v_ U1_.heap L_ ∧ FrameEnd U_ o_ U1_ L_ rRrmRBt1.cells rRrmRBt1.slots) := by
  refine MetFree.of_bodySF pn_rmRBt1 hisR ?_
  intro p e s m args below meth c s₁ Bd hml0 hP hK
  obtain ⟨rfl, hZ, hh⟩ := hP
  have hx := Bd.exec
  have hby := Bd.bytes
  have hlk : meth.locks = false := Bd.notSynchronized
  have hml : c.maxLocals = 5 := hml0
  have hown : s.vm.findClass "java/util/Arrays" = some m.cls := findClass_of_methodNamed Bd.named
  have hnm := (name_of_methodNamed Bd.named Bd.method).1
  have X0 : Stand p l e rRrmRBt1 s m #[(.ref d), (.int (0 : Int32)), (.int (60 : Int32))] below meth c s₁ [] 0 0 := Stand.of_body Bd
  have e0 : s₁.heap = h0 := by rw [← hh, Bd.state]; rfl
  have N0 := Fr.nil n0
  show own_Goes p e below s (QRBt1 Z d kd vs1 h0 n0) rRrmRBt1.cells rRrmRBt1.slots s₁ (entryFrame m #[(.ref d), (.int (0 : Int32)), (.int (60 : Int32))] 5)
  rw [ef_rmRBt1 m d]
  show own_Goes p e below s (QRBt1 Z d kd vs1 h0 n0) rRrmRBt1.cells rRrmRBt1.slots s₁ (mkF m 0 #[rv d, iv (0 : Int32), iv (60 : Int32), .unset, .unset] [])
  refine own_st (fun _ kk_ => XS.iloadN X0.here hx rfl (hb hby d30_0) rfl (XS.iloadN X0.here hx rfl (hb hby d30_1) rfl kk_)) ?_
  show own_Goes _ _ _ _ _ _ _ s₁ (mkF m 2 #[rv d, iv (0 : Int32), iv (60 : Int32), .unset, .unset] [(.int (60 : Int32)), (.int (0 : Int32))])
  obtain ⟨_, _, ⟨T1, L1, k1, n1⟩, -, X1, ⟨Lc1, hQ1, l1, y1, z1⟩, st1⟩ := Jvm.LawKit.callS X0 hx (y := yy21) hown (mvT hZ (own_w hw 179 rfl)) (mvT hZ (own_w hw 180 rfl)) (mvT hZ (own_w hw 107 rfl)) (mvT hZ (own_w hw 181 rfl)) (by decide) (backOf (W := 0) (rmCKt1 l Z a0 hw []  h0 n0 Z0) hZ (own_w hw 181 rfl) (own_w hw 107 rfl) (by decide) (by decide)) (g := (mkF m 2 #[rv d, iv (0 : Int32), iv (60 : Int32), .unset, .unset] [(.int (60 : Int32)), (.int (0 : Int32))])) rfl (by rw [hml]; rfl) (argsL := [(.int (0 : Int32)), (.int (60 : Int32))]) (rest := []) (lenOf pd_12 rfl) rfl (by show 2 * 0 + _ ≤ _; exact Nat.le_of_eq rfl) (hb hby d30_2) (fun _ _ => ⟨rfl, e0, (by decide : 0 + 0 ≤ _), (by decide : 0 + 0 ≤ _)⟩)
  dsimp only [Pt.U, Pt.locs, Pt.cells, Pt.slots] at X1 l1 y1 z1 st1 hQ1
  subst l1 y1 z1
  obtain ⟨rfl, Nq1, eq1⟩ := hQ1
  have N1 := Fr.app N0 Nq1
  refine own_st st1 ?_
  show own_Goes _ _ _ _ _ _ _ T1 (mkF m 5 #[rv d, iv (0 : Int32), iv (60 : Int32), .unset, .unset] [])
  refine own_st (fun _ kk_ => XS.iloadN X1.here hx rfl (hb hby d30_5) rfl (XS.iloadN X1.here hx rfl (hb hby d30_6) rfl (XS.isub X1.here hx rfl (hb hby d30_7) rfl (XS.istoreN X1.here hx rfl (hb hby d30_8) rfl (l' := #[rv d, iv (0 : Int32), iv (60 : Int32), iv (60 : Int32), .unset]) rfl (XS.iloadN X1.here hx rfl (hb hby d30_9) rfl kk_))))) ?_
  show own_Goes _ _ _ _ _ _ _ T1 (mkF m 10 #[rv d, iv (0 : Int32), iv (60 : Int32), iv (60 : Int32), .unset] [(.int (60 : Int32))])
  obtain ⟨T2, h2, k2, X2, e2, E2, A2, st2⟩ := newP X1 hx hZ (own_w hw 21 rfl) eq1 (g := (mkF m 10 #[rv d, iv (0 : Int32), iv (60 : Int32), iv (60 : Int32), .unset] [(.int (60 : Int32))])) rfl (hb hby d30_10) rfl (by decide) (cap := 60) (by decide) (by decide) (by decide) (by decide)
  obtain ⟨b2, gx2⟩ : ∃ z, z = h0.size := ⟨_, rfl⟩
  rw [← gx2] at A2 st2
  have ne2_d : d ≠ b2 := Nat.ne_of_lt (Nat.lt_of_lt_of_eq p_0.lt gx2.symm)
  have gg2 : n0 ≤ b2 := Nat.le_trans Z0 (Nat.le_of_eq gx2.symm)
  have sz2 : h0.size ≤ b2 := Nat.le_trans (Keep.refl h0 []).1 (Nat.le_of_eq gx2.symm)
  have f2_0 := p_0.ext E2
  have Zs2 : n0 ≤ h2.size := Nat.le_trans Z0 E2.1
  have K2 := (Keep.refl h0 []).ext E2
  have V2 : Arv Z h2 b2 k2 .byte (60 : Int32) [(.int (0 : Int32)), (.int (0 : Int32)), (.int (0 : Int32)), (.int (0 : Int32)), (.int (0 : Int32)), (.int (0 : Int32)), (.int (0 : Int32)), (.int (0 : Int32)), (.int (0 : Int32)), (.int (0 : Int32)), (.int (0 : Int32)), (.int (0 : Int32)), (.int (0 : Int32)), (.int (0 : Int32)), (.int (0 : Int32)), (.int (0 : Int32)), (.int (0 : Int32)), (.int (0 : Int32)), (.int (0 : Int32)), (.int (0 : Int32)), (.int (0 : Int32)), (.int (0 : Int32)), (.int (0 : Int32)), (.int (0 : Int32)), (.int (0 : Int32)), (.int (0 : Int32)), (.int (0 : Int32)), (.int (0 : Int32)), (.int (0 : Int32)), (.int (0 : Int32)), (.int (0 : Int32)), (.int (0 : Int32)), (.int (0 : Int32)), (.int (0 : Int32)), (.int (0 : Int32)), (.int (0 : Int32)), (.int (0 : Int32)), (.int (0 : Int32)), (.int (0 : Int32)), (.int (0 : Int32)), (.int (0 : Int32)), (.int (0 : Int32)), (.int (0 : Int32)), (.int (0 : Int32)), (.int (0 : Int32)), (.int (0 : Int32)), (.int (0 : Int32)), (.int (0 : Int32)), (.int (0 : Int32)), (.int (0 : Int32)), (.int (0 : Int32)), (.int (0 : Int32)), (.int (0 : Int32)), (.int (0 : Int32)), (.int (0 : Int32)), (.int (0 : Int32)), (.int (0 : Int32)), (.int (0 : Int32)), (.int (0 : Int32)), (.int (0 : Int32))] (.int (0 : Int32)) := (Arv.new A2 (by decide)).pad (pad_rep [] (.int (0 : Int32)) 60)
  refine own_st st2 ?_
  show own_Goes _ _ _ _ _ _ _ T2 (mkF m 12 #[rv d, iv (0 : Int32), iv (60 : Int32), iv (60 : Int32), .unset] [(.ref b2)])
  have Vz : Arv Z h2 b2 k2 .byte (60 : Int32) own_z60 (.int (0 : Int32)) := V2
  refine own_st (fun _ kk_ => XS.astore X2.here hx rfl (hb hby d30_12) rfl rfl (l' := #[rv d, iv (0 : Int32), iv (60 : Int32), iv (60 : Int32), rv b2]) rfl (XS.aloadN X2.here hx rfl (hb hby d30_14) rfl rfl (XS.iloadN X2.here hx rfl (hb hby d30_15) rfl (XS.aload X2.here hx rfl (hb hby d30_16) rfl rfl (XS.iconst X2.here hx rfl (hb hby d30_18) (XS.aloadN X2.here hx rfl (hb hby d30_19) rfl rfl kk_)))))) ?_
  show own_Goes _ _ _ _ _ _ _ T2 (mkF m 20 #[rv d, iv (0 : Int32), iv (60 : Int32), iv (60 : Int32), rv b2] [(.ref d), (.int (0 : Int32)), (.ref b2), (.int (0 : Int32)), (.ref d)])
  obtain ⟨cl3, Ar3, -, Sz3, Nn3, -, -⟩ := id f2_0
  refine own_st (fun _ kk_ => X2.arraylength hx (by rw [e2]; exact Ar3.1) (State.isArrayOf_alike hZ.alike Ar3.2.1) (g := (mkF m 20 #[rv d, iv (0 : Int32), iv (60 : Int32), iv (60 : Int32), rv b2] [(.ref d), (.int (0 : Int32)), (.ref b2), (.int (0 : Int32)), (.ref d)])) rfl rfl (hb hby d30_20) _ kk_) ?_
  rw [len_of Sz3 Nn3]
  show own_Goes _ _ _ _ _ _ _ T2 (mkF m 21 #[rv d, iv (0 : Int32), iv (60 : Int32), iv (60 : Int32), rv b2] [(.int (80 : Int32)), (.int (0 : Int32)), (.ref b2), (.int (0 : Int32)), (.ref d)])
  refine own_st (fun _ kk_ => XS.iloadN X2.here hx rfl (hb hby d30_21) rfl (XS.isub X2.here hx rfl (hb hby d30_22) rfl (XS.iloadN X2.here hx rfl (hb hby d30_23) rfl kk_))) ?_
  show own_Goes _ _ _ _ _ _ _ T2 (mkF m 24 #[rv d, iv (0 : Int32), iv (60 : Int32), iv (60 : Int32), rv b2] [(.int (60 : Int32)), (.int (80 : Int32)), (.int (0 : Int32)), (.ref b2), (.int (0 : Int32)), (.ref d)])
  obtain ⟨_, _, ⟨T4, L4, k4, n4⟩, -, X4, ⟨Lc4, hQ4, l4, y4, z4⟩, st4⟩ := Jvm.LawKit.callS X2 hx (y := yy3) hown (mvT hZ (own_w hw 109 rfl)) (mvT hZ (own_w hw 110 rfl)) (mvT hZ (own_w hw 101 rfl)) (mvT hZ (own_w hw 111 rfl)) (by decide) (backOf (W := 4) (rmnB l Z a0 hw [] ((80 : Int32)) ((60 : Int32)) h2 n0 Zs2 (by decide)) hZ (own_w hw 111 rfl) (own_w hw 101 rfl) (by decide) (by decide)) (g := (mkF m 24 #[rv d, iv (0 : Int32), iv (60 : Int32), iv (60 : Int32), rv b2] [(.int (60 : Int32)), (.int (80 : Int32)), (.int (0 : Int32)), (.ref b2), (.int (0 : Int32)), (.ref d)])) rfl (by rw [hml]; rfl) (argsL := [(.int (80 : Int32)), (.int (60 : Int32))]) (rest := [(.int (0 : Int32)), (.ref b2), (.int (0 : Int32)), (.ref d)]) (lenOf pd_5 rfl) rfl (by show 2 * 0 + _ ≤ _; exact Nat.le_of_eq rfl) (hb hby d30_24) (fun _ _ => ⟨rfl, e2, (by decide : 1 + 0 ≤ _), (by decide : 60 + 0 ≤ _)⟩)
  dsimp only [Pt.U, Pt.locs, Pt.cells, Pt.slots] at X4 l4 y4 z4 st4 hQ4
  subst l4 y4 z4
  obtain ⟨rfl, Nq4, eq4⟩ := hQ4
  have N4 := Fr.app N1 Nq4
  refine own_st st4 ?_
  show own_Goes _ _ _ _ _ _ _ T4 (mkF m 27 #[rv d, iv (0 : Int32), iv (60 : Int32), iv (60 : Int32), rv b2] [(.int (60 : Int32)), (.int (0 : Int32)), (.ref b2), (.int (0 : Int32)), (.ref d)])
  obtain ⟨T5, h5, L5, X5, e5, N5, Kp5, A5, st5⟩ := cpA X4 hx hZ hown (own_w hw 112 rfl) (own_w hw 115 rfl) (own_w hw 113 rfl) (own_w hw 114 rfl) eq4 f2_0 Vz (Or.inl ⟨rfl, rfl⟩) (by decide) (by decide) (by decide) (by decide) (by decide) rfl (Nat.le_of_ble_eq_true rfl) N4 gg2 (g := (mkF m 27 #[rv d, iv (0 : Int32), iv (60 : Int32), iv (60 : Int32), rv b2] [(.int (60 : Int32)), (.int (0 : Int32)), (.ref b2), (.int (0 : Int32)), (.ref d)])) rfl (by rw [hml]; rfl) (rest := []) rfl (hb hby d30_27) (by decide) (W := 0) (by show 2 * 0 + _ ≤ _; exact Nat.le_of_eq rfl) (by decide)
  have f5_0 := f2_0.keep Kp5 (ninS ne2_d nin0)
  have Zs5 : n0 ≤ h5.size := Nat.le_trans Zs2 Kp5.1
  have K5 := K2.trans Kp5 (allS (Or.inr sz2) all0)
  have V5 : Arv Z h5 b2 k2 .byte (60 : Int32) (own_cp vs1 own_z60 (0 : Int32) (0 : Int32) (60 : Int32) (.int (0 : Int32))) (.int (0 : Int32)) := A5
  refine own_st st5 ?_
  show own_Goes _ _ _ _ _ _ _ T5 (mkF m 30 #[rv d, iv (0 : Int32), iv (60 : Int32), iv (60 : Int32), rv b2] [])
  refine own_st (fun _ kk_ => XS.aload X5.here hx rfl (hb hby d30_30) rfl rfl kk_) ?_
  show own_Goes _ _ _ _ _ _ _ T5 (mkF m 32 #[rv d, iv (0 : Int32), iv (60 : Int32), iv (60 : Int32), rv b2] [(.ref b2)])
  refine own_retA X5 hx hlk rfl Bd.returns rfl (hb hby d30_32) (by decide) (by decide) ?_
  show QRBt1 Z d kd vs1 h0 n0 (some (.ref b2)) T5.heap _
  rw [e5]
  exact ⟨b2, k2, rfl, N5, K5, sz2, V5⟩
abbrev rRrmCRt1 : Room := { frames := 2, cells := 1, slots := 60, locals := 34 }
theorem pn_rmCRt1 : plainFor yy23 = true := by first | exact plainFor_of_name (by first | (simp [plainName, overriddenIn]; done) | decide +kernel) | decide +kernel
theorem ef_rmCRt1 (m : MethodId) (d : Addr) : entryFrame m #[(.ref d), (.int (0 : Int32)), (.int (60 : Int32))] 3 = (mkF m 0 #[rv d, iv (0 : Int32), iv (60 : Int32)] []) := by first | (simp [entryFrame, mkF, argsToLocals, Value.category]; done) | rfl
def QCRt1 (Z : State) (d : Addr) (kd : ClassId) (vs1 : List Value) (h0 : Heap) (n0 : Nat) (v_ : Option Value) (h_ : Heap) (L_ : List Loc) : Prop := ∃ y : Addr, ∃ ky : ClassId, (v_ = some (.ref y)) ∧ (Fr n0 L_) ∧ (Keep h0 h_ []) ∧ (h0.size ≤ y) ∧ (Arv Z h_ y ky .byte (60 : Int32) (own_cp vs1 own_z60 (0 : Int32) (0 : Int32) (60 : Int32) (.int (0 : Int32))) (.int (0 : Int32)))
set_option maxRecDepth 65536 in
set_option maxHeartbeats 40000000 in
theorem rmCRt1 (l : Launch) (Z : State) (a0 : Array Value) (hw : ∀ d ∈ tables_1, d.before a0 Z = true) (ws : List Jvm.Cond) (d : Addr) (kd : ClassId) (vs1 : List Value) (h0 : Heap) (n0 : Nat) (Z0 : n0 ≤ h0.size) (p_0 : Arv Z h0 d kd .byte (80 : Int32) vs1 (.int (0 : Int32))) :
    MetFree l yy23 (head1 (Jvm.Cond.code yy23 jdk_65_method_132_code 3 (some (.array .byte)) :: ws) rRrmCRt1) (fun a_ U_ => a_ = #[(.ref d), (.int (0 : Int32)), (.int (60 : Int32))] ∧ Z.Warmed39 U_.vm ∧ U_.heap = h0) (fun _ _ _ _ _ => True) (fun _ U_ o_ U1_ => ∃ v_ L_, o_ = .returned v_ ∧ QCRt1 Z d kd vs1 h0 n0 v_ U1_.heap L_ ∧ FrameEnd U_ o_ U1_ L_ rRrmCRt1.cells rRrmCRt1.slots) := by
  refine MetFree.of_bodySF pn_rmCRt1 hisR ?_
  intro p e s m args below meth c s₁ Bd hml0 hP hK
  obtain ⟨rfl, hZ, hh⟩ := hP
  have hx := Bd.exec
  have hby := Bd.bytes
  have hlk : meth.locks = false := Bd.notSynchronized
  have hml : c.maxLocals = 3 := hml0
  have hown : s.vm.findClass "java/util/Arrays" = some m.cls := findClass_of_methodNamed Bd.named
  have hnm := (name_of_methodNamed Bd.named Bd.method).1
  have X0 : Stand p l e rRrmCRt1 s m #[(.ref d), (.int (0 : Int32)), (.int (60 : Int32))] below meth c s₁ [] 0 0 := Stand.of_body Bd
  have e0 : s₁.heap = h0 := by rw [← hh, Bd.state]; rfl
  have N0 := Fr.nil n0
  show own_Goes p e below s (QCRt1 Z d kd vs1 h0 n0) rRrmCRt1.cells rRrmCRt1.slots s₁ (entryFrame m #[(.ref d), (.int (0 : Int32)), (.int (60 : Int32))] 3)
  rw [ef_rmCRt1 m d]
  show own_Goes p e below s (QCRt1 Z d kd vs1 h0 n0) rRrmCRt1.cells rRrmCRt1.slots s₁ (mkF m 0 #[rv d, iv (0 : Int32), iv (60 : Int32)] [])
  refine own_st (fun _ kk_ => XS.iloadN X0.here hx rfl (hb hby d29_0) rfl (XS.ifNo X0.here hx rfl (hb hby d29_1) rfl (XT.i0_ne_f (by decide)) (XS.iloadN X0.here hx rfl (hb hby d29_4) rfl (XS.aloadN X0.here hx rfl (hb hby d29_5) rfl rfl kk_)))) ?_
  show own_Goes _ _ _ _ _ _ _ s₁ (mkF m 6 #[rv d, iv (0 : Int32), iv (60 : Int32)] [(.ref d), (.int (60 : Int32))])
  obtain ⟨cl1, Ar1, -, Sz1, Nn1, -, -⟩ := id p_0
  refine own_st (fun _ kk_ => X0.arraylength hx (by rw [e0]; exact Ar1.1) (State.isArrayOf_alike hZ.alike Ar1.2.1) (g := (mkF m 6 #[rv d, iv (0 : Int32), iv (60 : Int32)] [(.ref d), (.int (60 : Int32))])) rfl rfl (hb hby d29_6) _ kk_) ?_
  rw [len_of Sz1 Nn1]
  show own_Goes _ _ _ _ _ _ _ s₁ (mkF m 7 #[rv d, iv (0 : Int32), iv (60 : Int32)] [(.int (80 : Int32)), (.int (60 : Int32))])
  refine own_st (fun _ kk_ => XS.icmpNo X0.here hx rfl (hb hby d29_7) rfl (XT.ii_eq_f (by decide)) (XS.aloadN X0.here hx rfl (hb hby d29_10) rfl rfl (XS.iloadN X0.here hx rfl (hb hby d29_11) rfl (XS.iloadN X0.here hx rfl (hb hby d29_12) rfl kk_)))) ?_
  show own_Goes _ _ _ _ _ _ _ s₁ (mkF m 13 #[rv d, iv (0 : Int32), iv (60 : Int32)] [(.int (60 : Int32)), (.int (0 : Int32)), (.ref d)])
  obtain ⟨_, _, ⟨T2, L2, k2, n2⟩, -, X2, ⟨Lc2, hQ2, l2, y2, z2⟩, st2⟩ := Jvm.LawKit.callS X0 hx (y := yy22) hown (mvT hZ (own_w hw 176 rfl)) (mvT hZ (own_w hw 177 rfl)) (mvT hZ (own_w hw 107 rfl)) (mvT hZ (own_w hw 178 rfl)) (by decide) (backOf (W := 0) (rmRBt1 l Z a0 hw [] (d) (kd) (vs1) h0 n0 Z0 p_0) hZ (own_w hw 178 rfl) (own_w hw 107 rfl) (by decide) (by decide)) (g := (mkF m 13 #[rv d, iv (0 : Int32), iv (60 : Int32)] [(.int (60 : Int32)), (.int (0 : Int32)), (.ref d)])) rfl (by rw [hml]; rfl) (argsL := [(.ref d), (.int (0 : Int32)), (.int (60 : Int32))]) (rest := []) (lenOf pd_13 rfl) rfl (by show 2 * 0 + _ ≤ _; exact Nat.le_of_eq rfl) (hb hby d29_13) (fun _ _ => ⟨rfl, e0, (by decide : 0 + 1 ≤ _), (by decide : 0 + 60 ≤ _)⟩)
  dsimp only [Pt.U, Pt.locs, Pt.cells, Pt.slots] at X2 l2 y2 z2 st2 hQ2
  subst l2 y2 z2
  obtain ⟨x2_y, x2_ky, rfl, Nq2, Kq2, u2_0, u2_1⟩ := hQ2
  have N2 := Fr.app N0 Nq2
  have f2_0 := p_0.keep Kq2 nin0
  have Zs2 : n0 ≤ T2.heap.size := Nat.le_trans Z0 Kq2.1
  have K2 := (Keep.refl h0 []).trans Kq2 all0
  have ne2_d : d ≠ x2_y := Nat.ne_of_lt (Nat.lt_of_lt_of_le p_0.lt u2_0)
  have sz2_y : h0.size ≤ x2_y := Nat.le_trans (Keep.refl h0 []).1 u2_0
  have gg2_y : n0 ≤ x2_y := Nat.le_trans Z0 u2_0
  refine own_st st2 ?_
  show own_Goes _ _ _ _ _ _ _ T2 (mkF m 16 #[rv d, iv (0 : Int32), iv (60 : Int32)] [(.ref x2_y)])
  refine own_retA X2 hx hlk rfl Bd.returns rfl (hb hby d29_16) (by decide) (by decide) ?_
  show QCRt1 Z d kd vs1 h0 n0 (some (.ref x2_y)) T2.heap _
  exact ⟨x2_y, x2_ky, rfl, N2, K2, u2_0, u2_1⟩
abbrev rRrmSVt1 : Room := { frames := 3, cells := 1, slots := 60, locals := 49 }
theorem pn_rmSVt1 : plainFor yy24 = true := by first | exact plainFor_of_name (by first | (simp [plainName, overriddenIn]; done) | decide +kernel) | decide +kernel
theorem ef_rmSVt1 (m : MethodId) (s9 : Addr) (o : Addr) : entryFrame m #[(.ref s9), (.ref o), .null] 5 = (mkF m 0 #[rv s9, rv o, .val .null, .unset, .unset] []) := by first | (simp [entryFrame, mkF, argsToLocals, Value.category]; done) | rfl
def QSVt1 (Z : State) (s9 : Addr) (o : Addr) (d : Addr) (kd : ClassId) (vs1 : List Value) (cs : Int32) (h0 : Heap) (n0 : Nat) (v_ : Option Value) (h_ : Heap) (L_ : List Loc) : Prop := ∃ y : Addr, ∃ ky : ClassId, (v_ = none) ∧ (Fr n0 L_) ∧ (Keep h0 h_ [s9]) ∧ (h0.size ≤ y) ∧ (Exa Z h_ s9 "java/lang/String") ∧ (Fld Z h_ s9 "java/lang/String" "coder" "B" (.int (0 : Int32))) ∧ (Fld Z h_ s9 "java/lang/String" "value" "[B" (.ref y)) ∧ (Arv Z h_ y ky .byte (60 : Int32) (own_cp vs1 own_z60 (0 : Int32) (0 : Int32) (60 : Int32) (.int (0 : Int32))) (.int (0 : Int32)))
set_option maxRecDepth 65536 in
set_option maxHeartbeats 40000000 in
theorem rmSVt1 (l : Launch) (Z : State) (a0 : Array Value) (hw : ∀ d ∈ tables_1, d.before a0 Z = true) (ws : List Jvm.Cond) (s9 : Addr) (o : Addr) (d : Addr) (kd : ClassId) (vs1 : List Value) (cs : Int32) (h0 : Heap) (n0 : Nat) (Z0 : n0 ≤ h0.size) (p_0 : Exa Z h0 s9 "java/lang/String") (p_1 : Fld Z h0 s9 "java/lang/String" "value" "[B" .null) (p_2 : Fld Z h0 s9 "java/lang/String" "coder" "B" (.int (0 : Int32))) (p_3 : n0 ≤ s9) (p_4 : Exa Z h0 o "java/lang/StringBuilder") (p_5 : Fld Z h0 o "java/lang/AbstractStringBuilder" "value" "[B" (.ref d)) (p_6 : Fld Z h0 o "java/lang/AbstractStringBuilder" "coder" "B" (.int (0 : Int32))) (p_7 : Fld Z h0 o "java/lang/AbstractStringBuilder" "count" "I" (.int (60 : Int32))) (p_8 : Arv Z h0 d kd .byte (80 : Int32) vs1 (.int (0 : Int32))) (p_9 : Sta Z h0 "java/lang/String" "COMPACT_STRINGS" "Z" (.int cs)) (hcs : ¬ cs = (0 : Int32)) (p_11 : s9 ≠ o) (p_12 : s9 ≠ d) :
    MetFree l yy24 (head1 (Jvm.Cond.code yy24 jdk_42_method_150_code 5 none :: ws) rRrmSVt1) (fun a_ U_ => a_ = #[(.ref s9), (.ref o), .null] ∧ Z.Warmed39 U_.vm ∧ U_.heap = h0) (fun _ _ _ _ _ => True) (fun _ U_ o_ U1_ => ∃ v_ L_, o_ = .returned v_ ∧ QSVt1 Z s9 o d kd vs1 cs h0 n0 v_ U1_.heap L_ ∧ FrameEnd U_ o_ U1_ L_ rRrmSVt1.cells rRrmSVt1.slots) := by
  refine MetFree.of_bodySF pn_rmSVt1 hisR ?_
  intro p e s m args below meth c s₁ Bd hml0 hP hK
  obtain ⟨rfl, hZ, hh⟩ := hP
  have hx := Bd.exec
  have hby := Bd.bytes
  have hlk : meth.locks = false := Bd.notSynchronized
  have hml : c.maxLocals = 5 := hml0
  have hown : s.vm.findClass "java/lang/String" = some m.cls := findClass_of_methodNamed Bd.named
  have hnm := (name_of_methodNamed Bd.named Bd.method).1
  have X0 : Stand p l e rRrmSVt1 s m #[(.ref s9), (.ref o), .null] below meth c s₁ [] 0 0 := Stand.of_body Bd
  have e0 : s₁.heap = h0 := by rw [← hh, Bd.state]; rfl
  have N0 := Fr.nil n0
  show own_Goes p e below s (QSVt1 Z s9 o d kd vs1 cs h0 n0) rRrmSVt1.cells rRrmSVt1.slots s₁ (entryFrame m #[(.ref s9), (.ref o), .null] 5)
  rw [ef_rmSVt1 m s9 o]
  show own_Goes p e below s (QSVt1 Z s9 o d kd vs1 cs h0 n0) rRrmSVt1.cells rRrmSVt1.slots s₁ (mkF m 0 #[rv s9, rv o, .val .null, .unset, .unset] [])
  refine own_st (fun _ kk_ => XS.aloadN X0.here hx rfl (hb hby d24_0) rfl rfl kk_) ?_
  show own_Goes _ _ _ _ _ _ _ s₁ (mkF m 1 #[rv s9, rv o, .val .null, .unset, .unset] [(.ref s9)])
  obtain ⟨T1, X1, e1, st1⟩ := initO X0 hx hZ hown (own_w hw 154 rfl) (own_w hw 12 rfl) (own_w hw 13 rfl) e0 (g := (mkF m 1 #[rv s9, rv o, .val .null, .unset, .unset] [(.ref s9)])) rfl (by rw [hml]; rfl) rfl (hb hby d24_1) (by decide) (W := 0) (by show 2 * 0 + _ ≤ _; exact Nat.le_of_eq rfl) (by decide)
  refine own_st st1 ?_
  show own_Goes _ _ _ _ _ _ _ T1 (mkF m 4 #[rv s9, rv o, .val .null, .unset, .unset] [])
  refine own_st (fun _ kk_ => XS.aloadN X1.here hx rfl (hb hby d24_4) rfl rfl kk_) ?_
  show own_Goes _ _ _ _ _ _ _ T1 (mkF m 5 #[rv s9, rv o, .val .null, .unset, .unset] [(.ref o)])
  obtain ⟨cq2, kq2, q2a, q2b, q2c⟩ := isOf hZ e1 p_4
  obtain ⟨_, _, ⟨T2, L2, k2, n2⟩, -, X2, ⟨Lc2, hQ2, l2, y2, z2⟩, st2⟩ := X1.virtualBack hx (y := yy17) (z := yy17) hown (mvT hZ (own_w hw 155 rfl)) (mvT hZ (own_w hw 156 rfl)) (notFace_of_selects (args := #[]) (mvT hZ (own_w hw 158 rfl))) (mvT hZ (own_w hw 158 rfl)) (mvT hZ (own_w hw 157 rfl)) (by decide) (backOf (W := 0) (rm25 l Z a0 hw [] (o) (d) h0 n0 Z0 p_4 p_5) hZ (own_w hw 159 rfl) (own_w hw 51 rfl) (by decide) (by decide)) q2a q2c (g := (mkF m 5 #[rv s9, rv o, .val .null, .unset, .unset] [(.ref o)])) rfl (by rw [hml]; rfl) (Steps.refl _) (argsL := []) (rest := []) (lenOf pd_14 rfl) rfl (by show 2 * 0 + _ ≤ _; exact Nat.le_of_eq rfl) (hb hby d24_5) (fun _ _ => ⟨rfl, e1, (by decide : 0 + 0 ≤ _), (by decide : 0 + 0 ≤ _)⟩)
  dsimp only [Pt.U, Pt.locs, Pt.cells, Pt.slots] at X2 l2 y2 z2 st2 hQ2
  subst l2 y2 z2
  obtain ⟨rfl, Nq2, eq2⟩ := hQ2
  have N2 := Fr.app N0 Nq2
  refine own_st (fun _ kk_ => st2.trans kk_) ?_
  show own_Goes _ _ _ _ _ _ _ T2 (mkF m 8 #[rv s9, rv o, .val .null, .unset, .unset] [(.ref d)])
  refine own_st (fun _ kk_ => XS.astoreN X2.here hx rfl (hb hby d24_8) rfl rfl (l' := #[rv s9, rv o, .val .null, rv d, .unset]) rfl (XS.aloadN X2.here hx rfl (hb hby d24_9) rfl rfl kk_)) ?_
  show own_Goes _ _ _ _ _ _ _ T2 (mkF m 10 #[rv s9, rv o, .val .null, rv d, .unset] [(.ref o)])
  obtain ⟨cq3, kq3, q3a, q3b, q3c⟩ := isOf hZ eq2 p_4
  obtain ⟨_, _, ⟨T3, L3, k3, n3⟩, -, X3, ⟨Lc3, hQ3, l3, y3, z3⟩, st3⟩ := X2.virtualBack hx (y := yy18) (z := yy19) hown (mvT hZ (own_w hw 160 rfl)) (mvT hZ (own_w hw 161 rfl)) (own_nf (args := #[]) (mvT hZ (own_w hw 88 rfl)) rfl) (mvT hZ (own_w hw 163 rfl)) (mvT hZ (own_w hw 164 rfl)) (by decide) (backOf (W := 0) (rm26 l Z a0 hw [] (o) ((60 : Int32)) h0 n0 Z0 p_4 p_7) hZ (own_w hw 165 rfl) (own_w hw 43 rfl) (by decide) (by decide)) q3a q3c (g := (mkF m 10 #[rv s9, rv o, .val .null, rv d, .unset] [(.ref o)])) rfl (by rw [hml]; rfl) (Steps.refl _) (argsL := []) (rest := []) (lenOf pd_9 rfl) rfl (by show 2 * 0 + _ ≤ _; exact Nat.le_of_eq rfl) (hb hby d24_10) (fun _ _ => ⟨rfl, eq2, (by decide : 0 + 0 ≤ _), (by decide : 0 + 0 ≤ _)⟩)
  dsimp only [Pt.U, Pt.locs, Pt.cells, Pt.slots] at X3 l3 y3 z3 st3 hQ3
  subst l3 y3 z3
  obtain ⟨rfl, Nq3, eq3⟩ := hQ3
  have N3 := Fr.app N2 Nq3
  refine own_st (fun _ kk_ => st3.trans kk_) ?_
  show own_Goes _ _ _ _ _ _ _ T3 (mkF m 13 #[rv s9, rv o, .val .null, rv d, .unset] [(.int (60 : Int32))])
  refine own_st (fun _ kk_ => XS.istore X3.here hx rfl (hb hby d24_13) rfl (l' := #[rv s9, rv o, .val .null, rv d, iv (60 : Int32)]) rfl (XS.aloadN X3.here hx rfl (hb hby d24_15) rfl rfl kk_)) ?_
  show own_Goes _ _ _ _ _ _ _ T3 (mkF m 16 #[rv s9, rv o, .val .null, rv d, iv (60 : Int32)] [(.ref o)])
  obtain ⟨cq4, kq4, q4a, q4b, q4c⟩ := isOf hZ eq3 p_4
  obtain ⟨_, _, ⟨T4, L4, k4, n4⟩, -, X4, ⟨Lc4, hQ4, l4, y4, z4⟩, st4⟩ := X3.virtualBack hx (y := yy20) (z := yy20) hown (mvT hZ (own_w hw 168 rfl)) (mvT hZ (own_w hw 169 rfl)) (notFace_of_selects (args := #[]) (mvT hZ (own_w hw 171 rfl))) (mvT hZ (own_w hw 171 rfl)) (mvT hZ (own_w hw 170 rfl)) (by decide) (backOf (W := 0) (rm28 l Z a0 hw [] (o) (cs) h0 n0 Z0 p_4 p_6 p_9 (by assumption)) hZ (own_w hw 172 rfl) (own_w hw 51 rfl) (by decide) (by decide)) q4a q4c (g := (mkF m 16 #[rv s9, rv o, .val .null, rv d, iv (60 : Int32)] [(.ref o)])) rfl (by rw [hml]; rfl) (Steps.refl _) (argsL := []) (rest := []) (lenOf pd_15 rfl) rfl (by show 2 * 0 + _ ≤ _; exact Nat.le_of_eq rfl) (hb hby d24_16) (fun _ _ => ⟨rfl, eq3, (by decide : 0 + 0 ≤ _), (by decide : 0 + 0 ≤ _)⟩)
  dsimp only [Pt.U, Pt.locs, Pt.cells, Pt.slots] at X4 l4 y4 z4 st4 hQ4
  subst l4 y4 z4
  obtain ⟨rfl, Nq4, eq4⟩ := hQ4
  have N4 := Fr.app N3 Nq4
  refine own_st (fun _ kk_ => st4.trans kk_) ?_
  show own_Goes _ _ _ _ _ _ _ T4 (mkF m 19 #[rv s9, rv o, .val .null, rv d, iv (60 : Int32)] [(.int (1 : Int32))])
  refine own_st (fun _ kk_ => XS.ifNo X4.here hx rfl (hb hby d24_19) rfl (XT.i0_eq_f (by decide)) (XS.aloadN X4.here hx rfl (hb hby d24_22) rfl rfl (XS.iconst X4.here hx rfl (hb hby d24_23) kk_))) ?_
  show own_Goes _ _ _ _ _ _ _ T4 (mkF m 24 #[rv s9, rv o, .val .null, rv d, iv (60 : Int32)] [(.int (0 : Int32)), (.ref s9)])
  obtain ⟨T5, h5, X5, e5, W5, st5⟩ := putFN X4 hx hZ hown (own_w hw 82 rfl) Via.refl eq4 p_2 p_0 (Or.inr ⟨(own_w hw 23 rfl), rfl, hnm⟩) (own_w hw 20 rfl) (ty := .byte) (v' := (.int (nar .byte (0 : Int32)))) (by decide) rfl (fits_nar_byte _) (g := (mkF m 24 #[rv s9, rv o, .val .null, rv d, iv (60 : Int32)] [(.int (0 : Int32)), (.ref s9)])) rfl rfl (hb hby d24_24)
  have fw5 : Fld Z h5 s9 "java/lang/String" "coder" "B" (.int (nar .byte (0 : Int32))) := p_2.same W5
  have f5_0 := p_0.wr W5
  have f5_1 := p_1.other W5 (Or.inr (slot_ne (Or.inr (own_w hw 22 rfl)) (Or.inr (own_w hw 23 rfl)) (by decide) (t := (.array .byte)) (t' := .byte) (by decide) (by decide)))
  have f5_3 := p_4.wr W5
  have f5_4 := p_5.other W5 (Or.inl (Ne.symm p_11))
  have f5_5 := p_6.other W5 (Or.inl (Ne.symm p_11))
  have f5_6 := p_7.other W5 (Or.inl (Ne.symm p_11))
  have f5_7 := p_8.other W5 (Ne.symm p_12)
  have f5_8 := p_9.wr W5
  have Zs5 : n0 ≤ h5.size := Nat.le_trans Z0 (Nat.le_of_eq W5.size.symm)
  have K5 := (Keep.refl h0 [s9]).wr W5 (Or.inl (List.mem_of_getElem? (i := 0) rfl))
  have N5 := Fr.snoc X5 N4 p_3
  refine own_st st5 ?_
  show own_Goes _ _ _ _ _ _ _ T5 (mkF m 27 #[rv s9, rv o, .val .null, rv d, iv (60 : Int32)] [])
  refine own_st (fun _ kk_ => XS.aloadN X5.here hx rfl (hb hby d24_27) rfl rfl (XS.aloadN X5.here hx rfl (hb hby d24_28) rfl rfl (XS.iconst X5.here hx rfl (hb hby d24_29) (XS.iload X5.here hx rfl (hb hby d24_30) rfl kk_)))) ?_
  show own_Goes _ _ _ _ _ _ _ T5 (mkF m 32 #[rv s9, rv o, .val .null, rv d, iv (60 : Int32)] [(.int (60 : Int32)), (.int (0 : Int32)), (.ref d), (.ref s9)])
  obtain ⟨_, _, ⟨T6, L6, k6, n6⟩, -, X6, ⟨Lc6, hQ6, l6, y6, z6⟩, st6⟩ := Jvm.LawKit.callS X5 hx (y := yy23) hown (mvT hZ (own_w hw 173 rfl)) (mvT hZ (own_w hw 174 rfl)) (mvT hZ (own_w hw 107 rfl)) (mvT hZ (own_w hw 175 rfl)) (by decide) (backOf (W := 1) (rmCRt1 l Z a0 hw [] (d) (kd) (vs1) h5 n0 Zs5 f5_7) hZ (own_w hw 175 rfl) (own_w hw 107 rfl) (by decide) (by decide)) (g := (mkF m 32 #[rv s9, rv o, .val .null, rv d, iv (60 : Int32)] [(.int (60 : Int32)), (.int (0 : Int32)), (.ref d), (.ref s9)])) rfl (by rw [hml]; rfl) (argsL := [(.ref d), (.int (0 : Int32)), (.int (60 : Int32))]) (rest := [(.ref s9)]) (lenOf pd_13 rfl) rfl (by show 2 * 0 + _ ≤ _; exact Nat.le_of_eq rfl) (hb hby d24_32) (fun _ _ => ⟨rfl, e5, (by decide : 0 + 1 ≤ _), (by decide : 0 + 60 ≤ _)⟩)
  dsimp only [Pt.U, Pt.locs, Pt.cells, Pt.slots] at X6 l6 y6 z6 st6 hQ6
  subst l6 y6 z6
  obtain ⟨x6_y, x6_ky, rfl, Nq6, Kq6, u6_0, u6_1⟩ := hQ6
  have N6 := Fr.app N5 Nq6
  have f6_0 := f5_0.keep Kq6
  have f6_1 := f5_1.keep Kq6 nin0
  have f6_2 := f5_3.keep Kq6
  have f6_3 := f5_4.keep Kq6 nin0
  have f6_4 := f5_5.keep Kq6 nin0
  have f6_5 := f5_6.keep Kq6 nin0
  have f6_6 := f5_7.keep Kq6 nin0
  have f6_7 := own_Sta_keep f5_8 Kq6 ns0
  have f6_8 := fw5.keep Kq6 nin0
  have Zs6 : n0 ≤ T6.heap.size := Nat.le_trans Zs5 Kq6.1
  have K6 := K5.trans Kq6 all0
  have ne6_s9 : s9 ≠ x6_y := Nat.ne_of_lt (Nat.lt_of_lt_of_le f5_0.lt u6_0)
  have ne6_o : o ≠ x6_y := Nat.ne_of_lt (Nat.lt_of_lt_of_le f5_3.lt u6_0)
  have ne6_d : d ≠ x6_y := Nat.ne_of_lt (Nat.lt_of_lt_of_le f5_7.lt u6_0)
  have sz6_y : h0.size ≤ x6_y := Nat.le_trans K5.1 u6_0
  have gg6_y : n0 ≤ x6_y := Nat.le_trans Zs5 u6_0
  refine own_st st6 ?_
  show own_Goes _ _ _ _ _ _ _ T6 (mkF m 35 #[rv s9, rv o, .val .null, rv d, iv (60 : Int32)] [(.ref x6_y), (.ref s9)])
  obtain ⟨T7, h7, X7, e7, W7, st7⟩ := putF X6 hx hZ hown (host := "") (Or.inl (own_w hw 75 rfl)) Via.refl rfl f6_1 f6_0 (Or.inr ⟨(own_w hw 22 rfl), rfl, hnm⟩) (own_w hw 20 rfl) (ty := (.array .byte)) (by decide) rfl rfl (g := (mkF m 35 #[rv s9, rv o, .val .null, rv d, iv (60 : Int32)] [(.ref x6_y), (.ref s9)])) rfl rfl (hb hby d24_35)
  have fw7 : Fld Z h7 s9 "java/lang/String" "value" "[B" (.ref x6_y) := f6_1.same W7
  have f7_0 := f6_0.wr W7
  have f7_2 := f6_2.wr W7
  have f7_3 := f6_3.other W7 (Or.inl (Ne.symm p_11))
  have f7_4 := f6_4.other W7 (Or.inl (Ne.symm p_11))
  have f7_5 := f6_5.other W7 (Or.inl (Ne.symm p_11))
  have f7_6 := f6_6.other W7 (Ne.symm p_12)
  have f7_7 := f6_7.wr W7
  have f7_8 := f6_8.other W7 (Or.inr (slot_ne (Or.inr (own_w hw 23 rfl)) (Or.inr (own_w hw 22 rfl)) (by decide) (t := .byte) (t' := (.array .byte)) (by decide) (by decide)))
  have f7_9 := u6_1.other W7 (Ne.symm ne6_s9)
  have Zs7 : n0 ≤ h7.size := Nat.le_trans Zs6 (Nat.le_of_eq W7.size.symm)
  have K7 := K6.wr W7 (Or.inl (List.mem_of_getElem? (i := 0) rfl))
  have N7 := Fr.snoc X7 N6 p_3
  refine own_st st7 ?_
  show own_Goes _ _ _ _ _ _ _ T7 (mkF m 38 #[rv s9, rv o, .val .null, rv d, iv (60 : Int32)] [])
  refine own_st (fun _ kk_ => XS.goto X7.here hx rfl (pc0 := 38) (pc' := 97) rfl (hb hby d24_38) (by decide) (by decide) kk_) ?_
  show own_Goes _ _ _ _ _ _ _ T7 (mkF m 97 #[rv s9, rv o, .val .null, rv d, iv (60 : Int32)] [])
  refine own_ret0 X7 hx hlk Bd.returns (hb hby d24_97) (by decide) (by decide) ?_
  show QSVt1 Z s9 o d kd vs1 cs h0 n0 none T7.heap _
  rw [e7]
  exact ⟨x6_y, x6_ky, rfl, N7, K7, sz6_y, f7_0, f7_8, fw7, f7_9⟩
abbrev rRrmSIt1 : Room := { frames := 4, cells := 1, slots := 60, locals := 65 }
theorem pn_rmSIt1 : plainFor yy25 = true := by first | exact plainFor_of_name (by first | (simp [plainName, overriddenIn]; done) | decide +kernel) | decide +kernel
theorem ef_rmSIt1 (m : MethodId) (s9 : Addr) (o : Addr) : entryFrame m #[(.ref s9), (.ref o)] 2 = (mkF m 0 #[rv s9, rv o] []) := by first | (simp [entryFrame, mkF, argsToLocals, Value.category]; done) | rfl
def QSIt1 (Z : State) (s9 : Addr) (o : Addr) (d : Addr) (kd : ClassId) (vs1 : List Value) (cs : Int32) (h0 : Heap) (n0 : Nat) (v_ : Option Value) (h_ : Heap) (L_ : List Loc) : Prop := ∃ y : Addr, ∃ ky : ClassId, (v_ = none) ∧ (Fr n0 L_) ∧ (Keep h0 h_ [s9]) ∧ (h0.size ≤ y) ∧ (Exa Z h_ s9 "java/lang/String") ∧ (Fld Z h_ s9 "java/lang/String" "coder" "B" (.int (0 : Int32))) ∧ (Fld Z h_ s9 "java/lang/String" "value" "[B" (.ref y)) ∧ (Arv Z h_ y ky .byte (60 : Int32) (own_cp vs1 own_z60 (0 : Int32) (0 : Int32) (60 : Int32) (.int (0 : Int32))) (.int (0 : Int32)))
set_option maxRecDepth 65536 in
set_option maxHeartbeats 40000000 in
theorem rmSIt1 (l : Launch) (Z : State) (a0 : Array Value) (hw : ∀ d ∈ tables_1, d.before a0 Z = true) (ws : List Jvm.Cond) (s9 : Addr) (o : Addr) (d : Addr) (kd : ClassId) (vs1 : List Value) (cs : Int32) (h0 : Heap) (n0 : Nat) (Z0 : n0 ≤ h0.size) (p_0 : Exa Z h0 s9 "java/lang/String") (p_1 : Fld Z h0 s9 "java/lang/String" "value" "[B" .null) (p_2 : Fld Z h0 s9 "java/lang/String" "coder" "B" (.int (0 : Int32))) (p_3 : n0 ≤ s9) (p_4 : Exa Z h0 o "java/lang/StringBuilder") (p_5 : Fld Z h0 o "java/lang/AbstractStringBuilder" "value" "[B" (.ref d)) (p_6 : Fld Z h0 o "java/lang/AbstractStringBuilder" "coder" "B" (.int (0 : Int32))) (p_7 : Fld Z h0 o "java/lang/AbstractStringBuilder" "count" "I" (.int (60 : Int32))) (p_8 : Arv Z h0 d kd .byte (80 : Int32) vs1 (.int (0 : Int32))) (p_9 : Sta Z h0 "java/lang/String" "COMPACT_STRINGS" "Z" (.int cs)) (hcs : ¬ cs = (0 : Int32)) (p_11 : s9 ≠ o) (p_12 : s9 ≠ d) :
    MetFree l yy25 (head1 (Jvm.Cond.code yy25 jdk_42_method_53_code 2 none :: ws) rRrmSIt1) (fun a_ U_ => a_ = #[(.ref s9), (.ref o)] ∧ Z.Warmed39 U_.vm ∧ U_.heap = h0) (fun _ _ _ _ _ => True) (fun _ U_ o_ U1_ => ∃ v_ L_, o_ = .returned v_ ∧ QSIt1 Z s9 o d kd vs1 cs h0 n0 v_ U1_.heap L_ ∧ FrameEnd U_ o_ U1_ L_ rRrmSIt1.cells rRrmSIt1.slots) := by
  refine MetFree.of_bodySF pn_rmSIt1 hisR ?_
  intro p e s m args below meth c s₁ Bd hml0 hP hK
  obtain ⟨rfl, hZ, hh⟩ := hP
  have hx := Bd.exec
  have hby := Bd.bytes
  have hlk : meth.locks = false := Bd.notSynchronized
  have hml : c.maxLocals = 2 := hml0
  have hown : s.vm.findClass "java/lang/String" = some m.cls := findClass_of_methodNamed Bd.named
  have hnm := (name_of_methodNamed Bd.named Bd.method).1
  have X0 : Stand p l e rRrmSIt1 s m #[(.ref s9), (.ref o)] below meth c s₁ [] 0 0 := Stand.of_body Bd
  have e0 : s₁.heap = h0 := by rw [← hh, Bd.state]; rfl
  have N0 := Fr.nil n0
  show own_Goes p e below s (QSIt1 Z s9 o d kd vs1 cs h0 n0) rRrmSIt1.cells rRrmSIt1.slots s₁ (entryFrame m #[(.ref s9), (.ref o)] 2)
  rw [ef_rmSIt1 m s9 o]
  show own_Goes p e below s (QSIt1 Z s9 o d kd vs1 cs h0 n0) rRrmSIt1.cells rRrmSIt1.slots s₁ (mkF m 0 #[rv s9, rv o] [])
  refine own_st (fun _ kk_ => XS.aloadN X0.here hx rfl (hb hby d23_0) rfl rfl (XS.aloadN X0.here hx rfl (hb hby d23_1) rfl rfl (XS.aconstNull X0.here hx rfl (hb hby d23_2) kk_))) ?_
  show own_Goes _ _ _ _ _ _ _ s₁ (mkF m 3 #[rv s9, rv o] [.null, (.ref o), (.ref s9)])
  obtain ⟨_, _, ⟨T1, L1, k1, n1⟩, -, X1, ⟨Lc1, hQ1, l1, y1, z1⟩, st1⟩ := X0.specialBack hx (y := yy24) rfl hown (mvT hZ (own_w hw 151 rfl)) (mvT hZ (own_w hw 152 rfl)) (mvT hZ (own_w hw 153 rfl)) (by decide) (backOf (W := 0) (rmSVt1 l Z a0 hw [] (s9) (o) (d) (kd) (vs1) (cs) h0 n0 Z0 p_0 p_1 p_2 p_3 p_4 p_5 p_6 p_7 p_8 p_9 (by assumption) p_11 p_12) hZ (own_w hw 153 rfl) (own_w hw 19 rfl) (by decide) (by decide)) (g := (mkF m 3 #[rv s9, rv o] [.null, (.ref o), (.ref s9)])) rfl (by rw [hml]; rfl) (Steps.refl _) (a := s9) (argsL := [(.ref o), .null]) (rest := []) (lenOf pd_16 rfl) rfl (by show 2 * 0 + _ ≤ _; exact Nat.le_of_eq rfl) (hb hby d23_3) (fun _ _ => ⟨rfl, e0, (by decide : 0 + 1 ≤ _), (by decide : 0 + 60 ≤ _)⟩)
  dsimp only [Pt.U, Pt.locs, Pt.cells, Pt.slots] at X1 l1 y1 z1 st1 hQ1
  subst l1 y1 z1
  obtain ⟨x1_y, x1_ky, rfl, Nq1, Kq1, u1_0, u1_1, u1_2, u1_3, u1_4⟩ := hQ1
  have N1 := Fr.app N0 Nq1
  have f1_0 := p_0.keep Kq1
  have f1_3 := p_4.keep Kq1
  have f1_4 := p_5.keep Kq1 (ninS (Ne.symm p_11) nin0)
  have f1_5 := p_6.keep Kq1 (ninS (Ne.symm p_11) nin0)
  have f1_6 := p_7.keep Kq1 (ninS (Ne.symm p_11) nin0)
  have f1_7 := p_8.keep Kq1 (ninS (Ne.symm p_12) nin0)
  have f1_8 := own_Sta_keep p_9 Kq1 (nsS p_0.nostat ns0)
  have Zs1 : n0 ≤ T1.heap.size := Nat.le_trans Z0 Kq1.1
  have K1 := (Keep.refl h0 [s9]).trans Kq1 (allS (Or.inl (List.mem_of_getElem? (i := 0) rfl)) all0)
  have ne1_s9 : s9 ≠ x1_y := Nat.ne_of_lt (Nat.lt_of_lt_of_le p_0.lt u1_0)
  have ne1_o : o ≠ x1_y := Nat.ne_of_lt (Nat.lt_of_lt_of_le p_4.lt u1_0)
  have ne1_d : d ≠ x1_y := Nat.ne_of_lt (Nat.lt_of_lt_of_le p_8.lt u1_0)
  have sz1_y : h0.size ≤ x1_y := Nat.le_trans (Keep.refl h0 [s9]).1 u1_0
  have gg1_y : n0 ≤ x1_y := Nat.le_trans Z0 u1_0
  refine own_st (fun _ kk_ => st1.trans kk_) ?_
  show own_Goes _ _ _ _ _ _ _ T1 (mkF m 6 #[rv s9, rv o] [])
  refine own_ret0 X1 hx hlk Bd.returns (hb hby d23_6) (by decide) (by decide) ?_
  show QSIt1 Z s9 o d kd vs1 cs h0 n0 none T1.heap _
  exact ⟨x1_y, x1_ky, rfl, N1, K1, u1_0, u1_1, u1_2, u1_3, u1_4⟩
abbrev rRrmTSt1 : Room := { frames := 5, cells := 2, slots := 64, locals := 79 }
theorem pn_rmTSt1 : plainFor yy26 = true := by first | exact plainFor_of_name (by first | (simp [plainName, overriddenIn]; done) | decide +kernel) | decide +kernel
theorem ef_rmTSt1 (m : MethodId) (o : Addr) : entryFrame m #[(.ref o)] 1 = (mkF m 0 #[rv o] []) := by first | (simp [entryFrame, mkF, argsToLocals, Value.category]; done) | rfl
def QTSt1 (Z : State) (o : Addr) (d : Addr) (kd : ClassId) (vs1 : List Value) (cs : Int32) (h0 : Heap) (n0 : Nat) (v_ : Option Value) (h_ : Heap) (L_ : List Loc) : Prop := ∃ s9 : Addr, ∃ y : Addr, ∃ ky : ClassId, (v_ = some (.ref s9)) ∧ (Fr n0 L_) ∧ (Keep h0 h_ []) ∧ (h0.size ≤ s9) ∧ (Exa Z h_ s9 "java/lang/String") ∧ (Fld Z h_ s9 "java/lang/String" "coder" "B" (.int (0 : Int32))) ∧ (Fld Z h_ s9 "java/lang/String" "value" "[B" (.ref y)) ∧ (Arv Z h_ y ky .byte (60 : Int32) (own_cp vs1 own_z60 (0 : Int32) (0 : Int32) (60 : Int32) (.int (0 : Int32))) (.int (0 : Int32)))
set_option maxRecDepth 65536 in
set_option maxHeartbeats 40000000 in
theorem rmTSt1 (l : Launch) (Z : State) (a0 : Array Value) (hw : ∀ d ∈ tables_1, d.before a0 Z = true) (ws : List Jvm.Cond) (o : Addr) (d : Addr) (kd : ClassId) (vs1 : List Value) (cs : Int32) (h0 : Heap) (n0 : Nat) (Z0 : n0 ≤ h0.size) (p_0 : Exa Z h0 o "java/lang/StringBuilder") (p_1 : Fld Z h0 o "java/lang/AbstractStringBuilder" "value" "[B" (.ref d)) (p_2 : Fld Z h0 o "java/lang/AbstractStringBuilder" "coder" "B" (.int (0 : Int32))) (p_3 : Fld Z h0 o "java/lang/AbstractStringBuilder" "count" "I" (.int (60 : Int32))) (p_4 : Arv Z h0 d kd .byte (80 : Int32) vs1 (.int (0 : Int32))) (p_5 : Sta Z h0 "java/lang/String" "COMPACT_STRINGS" "Z" (.int cs)) (hcs : ¬ cs = (0 : Int32)) :
    MetFree l yy26 (head1 (Jvm.Cond.code yy26 jdk_67_method_42_code 1 (some (.object "java/lang/String")) :: ws) rRrmTSt1) (fun a_ U_ => a_ = #[(.ref o)] ∧ Z.Warmed39 U_.vm ∧ U_.heap = h0) (fun _ _ _ _ _ => True) (fun _ U_ o_ U1_ => ∃ v_ L_, o_ = .returned v_ ∧ QTSt1 Z o d kd vs1 cs h0 n0 v_ U1_.heap L_ ∧ FrameEnd U_ o_ U1_ L_ rRrmTSt1.cells rRrmTSt1.slots) := by
  refine MetFree.of_bodySF pn_rmTSt1 hisR ?_
  intro p e s m args below meth c s₁ Bd hml0 hP hK
  obtain ⟨rfl, hZ, hh⟩ := hP
  have hx := Bd.exec
  have hby := Bd.bytes
  have hlk : meth.locks = false := Bd.notSynchronized
  have hml : c.maxLocals = 1 := hml0
  have hown : s.vm.findClass "java/lang/StringBuilder" = some m.cls := findClass_of_methodNamed Bd.named
  have hnm := (name_of_methodNamed Bd.named Bd.method).1
  have X0 : Stand p l e rRrmTSt1 s m #[(.ref o)] below meth c s₁ [] 0 0 := Stand.of_body Bd
  have e0 : s₁.heap = h0 := by rw [← hh, Bd.state]; rfl
  have N0 := Fr.nil n0
  show own_Goes p e below s (QTSt1 Z o d kd vs1 cs h0 n0) rRrmTSt1.cells rRrmTSt1.slots s₁ (entryFrame m #[(.ref o)] 1)
  rw [ef_rmTSt1 m o]
  show own_Goes p e below s (QTSt1 Z o d kd vs1 cs h0 n0) rRrmTSt1.cells rRrmTSt1.slots s₁ (mkF m 0 #[rv o] [])
  obtain ⟨T1, h1, X1, e1, E1, A1, D1, -, st1⟩ := newO X0 hx hZ hown (own_w hw 146 rfl) (own_w hw 20 rfl) (own_w hw 19 rfl) e0 (g := (mkF m 0 #[rv o] [])) rfl (hb hby d22_0) (by decide) (by decide)
  obtain ⟨b1, gx1⟩ : ∃ z, z = h0.size := ⟨_, rfl⟩
  rw [← gx1] at A1 D1 st1
  have ne1_o : o ≠ b1 := Nat.ne_of_lt (Nat.lt_of_lt_of_eq p_0.lt gx1.symm)
  have ne1_d : d ≠ b1 := Nat.ne_of_lt (Nat.lt_of_lt_of_eq p_4.lt gx1.symm)
  have gg1 : n0 ≤ b1 := Nat.le_trans Z0 (Nat.le_of_eq gx1.symm)
  have sz1 : h0.size ≤ b1 := Nat.le_trans (Keep.refl h0 []).1 (Nat.le_of_eq gx1.symm)
  have f1_0 := p_0.ext E1
  have f1_1 := p_1.ext E1
  have f1_2 := p_2.ext E1
  have f1_3 := p_3.ext E1
  have f1_4 := p_4.ext E1
  have f1_5 := p_5.ext E1
  have Zs1 : n0 ≤ h1.size := Nat.le_trans Z0 E1.1
  have K1 := (Keep.refl h0 []).ext E1
  have fn1_value : Fld Z h1 b1 "java/lang/String" "value" "[B" .null := D1 (Or.inr (own_w hw 22 rfl)) (ty := (.array .byte)) (by decide)
  have fn1_coder : Fld Z h1 b1 "java/lang/String" "coder" "B" (.int (0 : Int32)) := D1 (Or.inr (own_w hw 23 rfl)) (ty := .byte) (by decide)
  refine own_st st1 ?_
  show own_Goes _ _ _ _ _ _ _ T1 (mkF m 3 #[rv o] [(.ref b1)])
  refine own_st (fun _ kk_ => XS.dup X1.here hx rfl (hb hby d22_3) rfl rfl (XS.aloadN X1.here hx rfl (hb hby d22_4) rfl rfl kk_)) ?_
  show own_Goes _ _ _ _ _ _ _ T1 (mkF m 5 #[rv o] [(.ref o), (.ref b1), (.ref b1)])
  obtain ⟨_, _, ⟨T2, L2, k2, n2⟩, -, X2, ⟨Lc2, hQ2, l2, y2, z2⟩, st2⟩ := X1.specialBack hx (y := yy25) rfl hown (mvT hZ (own_w hw 147 rfl)) (mvT hZ (own_w hw 148 rfl)) (mvT hZ (own_w hw 150 rfl)) (by decide) (backOf (W := 1) (rmSIt1 l Z a0 hw [] (b1) (o) (d) (kd) (vs1) (cs) h1 n0 Zs1 A1 fn1_value fn1_coder gg1 f1_0 f1_1 f1_2 f1_3 f1_4 f1_5 (by assumption) (Ne.symm ne1_o) (Ne.symm ne1_d)) hZ (own_w hw 150 rfl) (own_w hw 19 rfl) (by decide) (by decide)) (g := (mkF m 5 #[rv o] [(.ref o), (.ref b1), (.ref b1)])) rfl (by rw [hml]; rfl) (Steps.refl _) (a := b1) (argsL := [(.ref o)]) (rest := [(.ref b1)]) (lenOf pd_17 rfl) rfl (by show 2 * 0 + _ ≤ _; exact Nat.le_of_eq rfl) (hb hby d22_5) (fun _ _ => ⟨rfl, e1, (by decide : 1 + 1 ≤ _), (by decide : 4 + 60 ≤ _)⟩)
  dsimp only [Pt.U, Pt.locs, Pt.cells, Pt.slots] at X2 l2 y2 z2 st2 hQ2
  subst l2 y2 z2
  obtain ⟨x2_y, x2_ky, rfl, Nq2, Kq2, u2_0, u2_1, u2_2, u2_3, u2_4⟩ := hQ2
  have N2 := Fr.app N0 Nq2
  have f2_0 := f1_0.keep Kq2
  have f2_1 := f1_1.keep Kq2 (ninS ne1_o nin0)
  have f2_2 := f1_2.keep Kq2 (ninS ne1_o nin0)
  have f2_3 := f1_3.keep Kq2 (ninS ne1_o nin0)
  have f2_4 := f1_4.keep Kq2 (ninS ne1_d nin0)
  have f2_5 := own_Sta_keep f1_5 Kq2 (nsS A1.nostat ns0)
  have f2_6 := A1.keep Kq2
  have Zs2 : n0 ≤ T2.heap.size := Nat.le_trans Zs1 Kq2.1
  have K2 := K1.trans Kq2 (allS (Or.inr sz1) all0)
  have ne2_o : o ≠ x2_y := Nat.ne_of_lt (Nat.lt_of_lt_of_le f1_0.lt u2_0)
  have ne2_d : d ≠ x2_y := Nat.ne_of_lt (Nat.lt_of_lt_of_le f1_4.lt u2_0)
  have ne2_b1 : b1 ≠ x2_y := Nat.ne_of_lt (Nat.lt_of_lt_of_le A1.lt u2_0)
  have sz2_y : h0.size ≤ x2_y := Nat.le_trans K1.1 u2_0
  have gg2_y : n0 ≤ x2_y := Nat.le_trans Zs1 u2_0
  refine own_st (fun _ kk_ => st2.trans kk_) ?_
  show own_Goes _ _ _ _ _ _ _ T2 (mkF m 8 #[rv o] [(.ref b1)])
  refine own_retA X2 hx hlk rfl Bd.returns rfl (hb hby d22_8) (by decide) (by decide) ?_
  show QTSt1 Z o d kd vs1 cs h0 n0 (some (.ref b1)) T2.heap _
  exact ⟨b1, x2_y, x2_ky, rfl, N2, K2, sz1, u2_1, u2_2, u2_3, u2_4⟩
abbrev rRrmCKt2 : Room := { frames := 0, cells := 0, slots := 0, locals := 0 }
theorem pn_rmCKt2 : plainFor yy21 = true := by first | exact plainFor_of_name (by first | (simp [plainName, overriddenIn]; done) | decide +kernel) | decide +kernel
theorem ef_rmCKt2 (m : MethodId) : entryFrame m #[(.int (0 : Int32)), (.int (53 : Int32))] 2 = (mkF m 0 #[iv (0 : Int32), iv (53 : Int32)] []) := by first | (simp [entryFrame, mkF, argsToLocals, Value.category]; done) | rfl
def QCKt2 (Z : State) (h0 : Heap) (n0 : Nat) (v_ : Option Value) (h_ : Heap) (L_ : List Loc) : Prop := (v_ = none) ∧ (Fr n0 L_) ∧ (h_ = h0)
set_option maxRecDepth 65536 in
set_option maxHeartbeats 40000000 in
theorem rmCKt2 (l : Launch) (Z : State) (a0 : Array Value) (hw : ∀ d ∈ tables_1, d.before a0 Z = true) (ws : List Jvm.Cond) (h0 : Heap) (n0 : Nat) (Z0 : n0 ≤ h0.size) :
    MetFree l yy21 (head1 (Jvm.Cond.code yy21 jdk_65_method_131_code 2 none :: ws) rRrmCKt2) (fun a_ U_ => a_ = #[(.int (0 : Int32)), (.int (53 : Int32))] ∧ Z.Warmed39 U_.vm ∧ U_.heap = h0) (fun _ _ _ _ _ => True) (fun _ U_ o_ U1_ => ∃ v_ L_, o_ = .returned v_ ∧ QCKt2 Z h0 n0 v_ U1_.heap L_ ∧ FrameEnd U_ o_ U1_ L_ rRrmCKt2.cells rRrmCKt2.slots) := by
  refine MetFree.of_bodySF pn_rmCKt2 hisR ?_
  intro p e s m args below meth c s₁ Bd hml0 hP hK
  obtain ⟨rfl, hZ, hh⟩ := hP
  have hx := Bd.exec
  have hby := Bd.bytes
  have hlk : meth.locks = false := Bd.notSynchronized
  have hml : c.maxLocals = 2 := hml0
  have hown : s.vm.findClass "java/util/Arrays" = some m.cls := findClass_of_methodNamed Bd.named
  have hnm := (name_of_methodNamed Bd.named Bd.method).1
  have X0 : Stand p l e rRrmCKt2 s m #[(.int (0 : Int32)), (.int (53 : Int32))] below meth c s₁ [] 0 0 := Stand.of_body Bd
  have e0 : s₁.heap = h0 := by rw [← hh, Bd.state]; rfl
  have N0 := Fr.nil n0
  show own_Goes p e below s (QCKt2 Z h0 n0) rRrmCKt2.cells rRrmCKt2.slots s₁ (entryFrame m #[(.int (0 : Int32)), (.int (53 : Int32))] 2)
  rw [ef_rmCKt2 m]
  show own_Goes p e below s (QCKt2 Z h0 n0) rRrmCKt2.cells rRrmCKt2.slots s₁ (mkF m 0 #[iv (0 : Int32), iv (53 : Int32)] [])
  refine own_st (fun _ kk_ => XS.iloadN X0.here hx rfl (hb hby d31_0) rfl (XS.iloadN X0.here hx rfl (hb hby d31_1) rfl (XS.icmpYes X0.here hx rfl (pc0 := 2) (pc' := 37) rfl (hb hby d31_2) rfl (XT.ii_ge_t (by decide)) (by decide) (by decide) kk_))) ?_
  show own_Goes _ _ _ _ _ _ _ s₁ (mkF m 37 #[iv (0 : Int32), iv (53 : Int32)] [])
  refine own_ret0 X0 hx hlk Bd.returns (hb hby d31_37) (by decide) (by decide) ?_
  show QCKt2 Z h0 n0 none s₁.heap _
  rw [e0]
  exact ⟨rfl, N0, rfl⟩
abbrev rRrmRBt2 : Room := { frames := 1, cells := 1, slots := 53, locals := 18 }
theorem pn_rmRBt2 : plainFor yy22 = true := by first | exact plainFor_of_name (by first | (simp [plainName, overriddenIn]; done) | decide +kernel) | decide +kernel
theorem ef_rmRBt2 (m : MethodId) (d : Addr) : entryFrame m #[(.ref d), (.int (0 : Int32)), (.int (53 : Int32))] 5 = (mkF m 0 #[rv d, iv (0 : Int32), iv (53 : Int32), .unset, .unset] []) := by first | (simp [entryFrame, mkF, argsToLocals, Value.category]; done) | rfl
def QRBt2 (Z : State) (d : Addr) (kd : ClassId) (vs1 : List Value) (h0 : Heap) (n0 : Nat) (v_ : Option Value) (h_ : Heap) (L_ : List Loc) : Prop := ∃ y : Addr, ∃ ky : ClassId, (v_ = some (.ref y)) ∧ (Fr n0 L_) ∧ (Keep h0 h_ []) ∧ (h0.size ≤ y) ∧ (Arv Z h_ y ky .byte (53 : Int32) (own_cp vs1 own_z53 (0 : Int32) (0 : Int32) (53 : Int32) (.int (0 : Int32))) (.int (0 : Int32)))
set_option maxRecDepth 65536 in
set_option maxHeartbeats 40000000 in
theorem rmRBt2 (l : Launch) (Z : State) (a0 : Array Value) (hw : ∀ d ∈ tables_1, d.before a0 Z = true) (ws : List Jvm.Cond) (d : Addr) (kd : ClassId) (vs1 : List Value) (h0 : Heap) (n0 : Nat) (Z0 : n0 ≤ h0.size) (p_0 : Arv Z h0 d kd .byte (80 : Int32) vs1 (.int (0 : Int32))) :
    MetFree l yy22 (head1 (Jvm.Cond.code yy22 jdk_65_method_133_code 5 (some (.array .byte)) :: ws) rRrmRBt2) (fun a_ U_ => a_ = #[(.ref d), (.int (0 : Int32)), (.int (53 : Int32))] ∧ Z.Warmed39 U_.vm ∧ U_.heap = h0) (fun _ _ _ _ _ => True) (fun _ U_ o_ U1_ => ∃ v_ L_, o_ = .returned v_ ∧ QRBt2 Z d kd vs1 h0 n0 v_ U1_.heap L_ ∧ FrameEnd U_ o_ U1_ L_ rRrmRBt2.cells rRrmRBt2.slots) := by
  refine MetFree.of_bodySF pn_rmRBt2 hisR ?_
  intro p e s m args below meth c s₁ Bd hml0 hP hK
  obtain ⟨rfl, hZ, hh⟩ := hP
  have hx := Bd.exec
  have hby := Bd.bytes
  have hlk : meth.locks = false := Bd.notSynchronized
  have hml : c.maxLocals = 5 := hml0
  have hown : s.vm.findClass "java/util/Arrays" = some m.cls := findClass_of_methodNamed Bd.named
  have hnm := (name_of_methodNamed Bd.named Bd.method).1
  have X0 : Stand p l e rRrmRBt2 s m #[(.ref d), (.int (0 : Int32)), (.int (53 : Int32))] below meth c s₁ [] 0 0 := Stand.of_body Bd
  have e0 : s₁.heap = h0 := by rw [← hh, Bd.state]; rfl
  have N0 := Fr.nil n0
  show own_Goes p e below s (QRBt2 Z d kd vs1 h0 n0) rRrmRBt2.cells rRrmRBt2.slots s₁ (entryFrame m #[(.ref d), (.int (0 : Int32)), (.int (53 : Int32))] 5)
  rw [ef_rmRBt2 m d]
  show own_Goes p e below s (QRBt2 Z d kd vs1 h0 n0) rRrmRBt2.cells rRrmRBt2.slots s₁ (mkF m 0 #[rv d, iv (0 : Int32), iv (53 : Int32), .unset, .unset] [])
  refine own_st (fun _ kk_ => XS.iloadN X0.here hx rfl (hb hby d30_0) rfl (XS.iloadN X0.here hx rfl (hb hby d30_1) rfl kk_)) ?_
  show own_Goes _ _ _ _ _ _ _ s₁ (mkF m 2 #[rv d, iv (0 : Int32), iv (53 : Int32), .unset, .unset] [(.int (53 : Int32)), (.int (0 : Int32))])
  obtain ⟨_, _, ⟨T1, L1, k1, n1⟩, -, X1, ⟨Lc1, hQ1, l1, y1, z1⟩, st1⟩ := Jvm.LawKit.callS X0 hx (y := yy21) hown (mvT hZ (own_w hw 179 rfl)) (mvT hZ (own_w hw 180 rfl)) (mvT hZ (own_w hw 107 rfl)) (mvT hZ (own_w hw 181 rfl)) (by decide) (backOf (W := 0) (rmCKt2 l Z a0 hw []  h0 n0 Z0) hZ (own_w hw 181 rfl) (own_w hw 107 rfl) (by decide) (by decide)) (g := (mkF m 2 #[rv d, iv (0 : Int32), iv (53 : Int32), .unset, .unset] [(.int (53 : Int32)), (.int (0 : Int32))])) rfl (by rw [hml]; rfl) (argsL := [(.int (0 : Int32)), (.int (53 : Int32))]) (rest := []) (lenOf pd_12 rfl) rfl (by show 2 * 0 + _ ≤ _; exact Nat.le_of_eq rfl) (hb hby d30_2) (fun _ _ => ⟨rfl, e0, (by decide : 0 + 0 ≤ _), (by decide : 0 + 0 ≤ _)⟩)
  dsimp only [Pt.U, Pt.locs, Pt.cells, Pt.slots] at X1 l1 y1 z1 st1 hQ1
  subst l1 y1 z1
  obtain ⟨rfl, Nq1, eq1⟩ := hQ1
  have N1 := Fr.app N0 Nq1
  refine own_st st1 ?_
  show own_Goes _ _ _ _ _ _ _ T1 (mkF m 5 #[rv d, iv (0 : Int32), iv (53 : Int32), .unset, .unset] [])
  refine own_st (fun _ kk_ => XS.iloadN X1.here hx rfl (hb hby d30_5) rfl (XS.iloadN X1.here hx rfl (hb hby d30_6) rfl (XS.isub X1.here hx rfl (hb hby d30_7) rfl (XS.istoreN X1.here hx rfl (hb hby d30_8) rfl (l' := #[rv d, iv (0 : Int32), iv (53 : Int32), iv (53 : Int32), .unset]) rfl (XS.iloadN X1.here hx rfl (hb hby d30_9) rfl kk_))))) ?_
  show own_Goes _ _ _ _ _ _ _ T1 (mkF m 10 #[rv d, iv (0 : Int32), iv (53 : Int32), iv (53 : Int32), .unset] [(.int (53 : Int32))])
  obtain ⟨T2, h2, k2, X2, e2, E2, A2, st2⟩ := newP X1 hx hZ (own_w hw 21 rfl) eq1 (g := (mkF m 10 #[rv d, iv (0 : Int32), iv (53 : Int32), iv (53 : Int32), .unset] [(.int (53 : Int32))])) rfl (hb hby d30_10) rfl (by decide) (cap := 53) (by decide) (by decide) (by decide) (by decide)
  obtain ⟨b2, gx2⟩ : ∃ z, z = h0.size := ⟨_, rfl⟩
  rw [← gx2] at A2 st2
  have ne2_d : d ≠ b2 := Nat.ne_of_lt (Nat.lt_of_lt_of_eq p_0.lt gx2.symm)
  have gg2 : n0 ≤ b2 := Nat.le_trans Z0 (Nat.le_of_eq gx2.symm)
  have sz2 : h0.size ≤ b2 := Nat.le_trans (Keep.refl h0 []).1 (Nat.le_of_eq gx2.symm)
  have f2_0 := p_0.ext E2
  have Zs2 : n0 ≤ h2.size := Nat.le_trans Z0 E2.1
  have K2 := (Keep.refl h0 []).ext E2
  have V2 : Arv Z h2 b2 k2 .byte (53 : Int32) [(.int (0 : Int32)), (.int (0 : Int32)), (.int (0 : Int32)), (.int (0 : Int32)), (.int (0 : Int32)), (.int (0 : Int32)), (.int (0 : Int32)), (.int (0 : Int32)), (.int (0 : Int32)), (.int (0 : Int32)), (.int (0 : Int32)), (.int (0 : Int32)), (.int (0 : Int32)), (.int (0 : Int32)), (.int (0 : Int32)), (.int (0 : Int32)), (.int (0 : Int32)), (.int (0 : Int32)), (.int (0 : Int32)), (.int (0 : Int32)), (.int (0 : Int32)), (.int (0 : Int32)), (.int (0 : Int32)), (.int (0 : Int32)), (.int (0 : Int32)), (.int (0 : Int32)), (.int (0 : Int32)), (.int (0 : Int32)), (.int (0 : Int32)), (.int (0 : Int32)), (.int (0 : Int32)), (.int (0 : Int32)), (.int (0 : Int32)), (.int (0 : Int32)), (.int (0 : Int32)), (.int (0 : Int32)), (.int (0 : Int32)), (.int (0 : Int32)), (.int (0 : Int32)), (.int (0 : Int32)), (.int (0 : Int32)), (.int (0 : Int32)), (.int (0 : Int32)), (.int (0 : Int32)), (.int (0 : Int32)), (.int (0 : Int32)), (.int (0 : Int32)), (.int (0 : Int32)), (.int (0 : Int32)), (.int (0 : Int32)), (.int (0 : Int32)), (.int (0 : Int32)), (.int (0 : Int32))] (.int (0 : Int32)) := (Arv.new A2 (by decide)).pad (pad_rep [] (.int (0 : Int32)) 53)
  refine own_st st2 ?_
  show own_Goes _ _ _ _ _ _ _ T2 (mkF m 12 #[rv d, iv (0 : Int32), iv (53 : Int32), iv (53 : Int32), .unset] [(.ref b2)])
  have Vz : Arv Z h2 b2 k2 .byte (53 : Int32) own_z53 (.int (0 : Int32)) := V2
  refine own_st (fun _ kk_ => XS.astore X2.here hx rfl (hb hby d30_12) rfl rfl (l' := #[rv d, iv (0 : Int32), iv (53 : Int32), iv (53 : Int32), rv b2]) rfl (XS.aloadN X2.here hx rfl (hb hby d30_14) rfl rfl (XS.iloadN X2.here hx rfl (hb hby d30_15) rfl (XS.aload X2.here hx rfl (hb hby d30_16) rfl rfl (XS.iconst X2.here hx rfl (hb hby d30_18) (XS.aloadN X2.here hx rfl (hb hby d30_19) rfl rfl kk_)))))) ?_
  show own_Goes _ _ _ _ _ _ _ T2 (mkF m 20 #[rv d, iv (0 : Int32), iv (53 : Int32), iv (53 : Int32), rv b2] [(.ref d), (.int (0 : Int32)), (.ref b2), (.int (0 : Int32)), (.ref d)])
  obtain ⟨cl3, Ar3, -, Sz3, Nn3, -, -⟩ := id f2_0
  refine own_st (fun _ kk_ => X2.arraylength hx (by rw [e2]; exact Ar3.1) (State.isArrayOf_alike hZ.alike Ar3.2.1) (g := (mkF m 20 #[rv d, iv (0 : Int32), iv (53 : Int32), iv (53 : Int32), rv b2] [(.ref d), (.int (0 : Int32)), (.ref b2), (.int (0 : Int32)), (.ref d)])) rfl rfl (hb hby d30_20) _ kk_) ?_
  rw [len_of Sz3 Nn3]
  show own_Goes _ _ _ _ _ _ _ T2 (mkF m 21 #[rv d, iv (0 : Int32), iv (53 : Int32), iv (53 : Int32), rv b2] [(.int (80 : Int32)), (.int (0 : Int32)), (.ref b2), (.int (0 : Int32)), (.ref d)])
  refine own_st (fun _ kk_ => XS.iloadN X2.here hx rfl (hb hby d30_21) rfl (XS.isub X2.here hx rfl (hb hby d30_22) rfl (XS.iloadN X2.here hx rfl (hb hby d30_23) rfl kk_))) ?_
  show own_Goes _ _ _ _ _ _ _ T2 (mkF m 24 #[rv d, iv (0 : Int32), iv (53 : Int32), iv (53 : Int32), rv b2] [(.int (53 : Int32)), (.int (80 : Int32)), (.int (0 : Int32)), (.ref b2), (.int (0 : Int32)), (.ref d)])
  obtain ⟨_, _, ⟨T4, L4, k4, n4⟩, -, X4, ⟨Lc4, hQ4, l4, y4, z4⟩, st4⟩ := Jvm.LawKit.callS X2 hx (y := yy3) hown (mvT hZ (own_w hw 109 rfl)) (mvT hZ (own_w hw 110 rfl)) (mvT hZ (own_w hw 101 rfl)) (mvT hZ (own_w hw 111 rfl)) (by decide) (backOf (W := 4) (rmnB l Z a0 hw [] ((80 : Int32)) ((53 : Int32)) h2 n0 Zs2 (by decide)) hZ (own_w hw 111 rfl) (own_w hw 101 rfl) (by decide) (by decide)) (g := (mkF m 24 #[rv d, iv (0 : Int32), iv (53 : Int32), iv (53 : Int32), rv b2] [(.int (53 : Int32)), (.int (80 : Int32)), (.int (0 : Int32)), (.ref b2), (.int (0 : Int32)), (.ref d)])) rfl (by rw [hml]; rfl) (argsL := [(.int (80 : Int32)), (.int (53 : Int32))]) (rest := [(.int (0 : Int32)), (.ref b2), (.int (0 : Int32)), (.ref d)]) (lenOf pd_5 rfl) rfl (by show 2 * 0 + _ ≤ _; exact Nat.le_of_eq rfl) (hb hby d30_24) (fun _ _ => ⟨rfl, e2, (by decide : 1 + 0 ≤ _), (by decide : 53 + 0 ≤ _)⟩)
  dsimp only [Pt.U, Pt.locs, Pt.cells, Pt.slots] at X4 l4 y4 z4 st4 hQ4
  subst l4 y4 z4
  obtain ⟨rfl, Nq4, eq4⟩ := hQ4
  have N4 := Fr.app N1 Nq4
  refine own_st st4 ?_
  show own_Goes _ _ _ _ _ _ _ T4 (mkF m 27 #[rv d, iv (0 : Int32), iv (53 : Int32), iv (53 : Int32), rv b2] [(.int (53 : Int32)), (.int (0 : Int32)), (.ref b2), (.int (0 : Int32)), (.ref d)])
  obtain ⟨T5, h5, L5, X5, e5, N5, Kp5, A5, st5⟩ := cpA X4 hx hZ hown (own_w hw 112 rfl) (own_w hw 115 rfl) (own_w hw 113 rfl) (own_w hw 114 rfl) eq4 f2_0 Vz (Or.inl ⟨rfl, rfl⟩) (by decide) (by decide) (by decide) (by decide) (by decide) rfl (Nat.le_of_ble_eq_true rfl) N4 gg2 (g := (mkF m 27 #[rv d, iv (0 : Int32), iv (53 : Int32), iv (53 : Int32), rv b2] [(.int (53 : Int32)), (.int (0 : Int32)), (.ref b2), (.int (0 : Int32)), (.ref d)])) rfl (by rw [hml]; rfl) (rest := []) rfl (hb hby d30_27) (by decide) (W := 0) (by show 2 * 0 + _ ≤ _; exact Nat.le_of_eq rfl) (by decide)
  have f5_0 := f2_0.keep Kp5 (ninS ne2_d nin0)
  have Zs5 : n0 ≤ h5.size := Nat.le_trans Zs2 Kp5.1
  have K5 := K2.trans Kp5 (allS (Or.inr sz2) all0)
  have V5 : Arv Z h5 b2 k2 .byte (53 : Int32) (own_cp vs1 own_z53 (0 : Int32) (0 : Int32) (53 : Int32) (.int (0 : Int32))) (.int (0 : Int32)) := A5
  refine own_st st5 ?_
  show own_Goes _ _ _ _ _ _ _ T5 (mkF m 30 #[rv d, iv (0 : Int32), iv (53 : Int32), iv (53 : Int32), rv b2] [])
  refine own_st (fun _ kk_ => XS.aload X5.here hx rfl (hb hby d30_30) rfl rfl kk_) ?_
  show own_Goes _ _ _ _ _ _ _ T5 (mkF m 32 #[rv d, iv (0 : Int32), iv (53 : Int32), iv (53 : Int32), rv b2] [(.ref b2)])
  refine own_retA X5 hx hlk rfl Bd.returns rfl (hb hby d30_32) (by decide) (by decide) ?_
  show QRBt2 Z d kd vs1 h0 n0 (some (.ref b2)) T5.heap _
  rw [e5]
  exact ⟨b2, k2, rfl, N5, K5, sz2, V5⟩
abbrev rRrmCRt2 : Room := { frames := 2, cells := 1, slots := 53, locals := 34 }
theorem pn_rmCRt2 : plainFor yy23 = true := by first | exact plainFor_of_name (by first | (simp [plainName, overriddenIn]; done) | decide +kernel) | decide +kernel
theorem ef_rmCRt2 (m : MethodId) (d : Addr) : entryFrame m #[(.ref d), (.int (0 : Int32)), (.int (53 : Int32))] 3 = (mkF m 0 #[rv d, iv (0 : Int32), iv (53 : Int32)] []) := by first | (simp [entryFrame, mkF, argsToLocals, Value.category]; done) | rfl
def QCRt2 (Z : State) (d : Addr) (kd : ClassId) (vs1 : List Value) (h0 : Heap) (n0 : Nat) (v_ : Option Value) (h_ : Heap) (L_ : List Loc) : Prop := ∃ y : Addr, ∃ ky : ClassId, (v_ = some (.ref y)) ∧ (Fr n0 L_) ∧ (Keep h0 h_ []) ∧ (h0.size ≤ y) ∧ (Arv Z h_ y ky .byte (53 : Int32) (own_cp vs1 own_z53 (0 : Int32) (0 : Int32) (53 : Int32) (.int (0 : Int32))) (.int (0 : Int32)))
set_option maxRecDepth 65536 in
set_option maxHeartbeats 40000000 in
theorem rmCRt2 (l : Launch) (Z : State) (a0 : Array Value) (hw : ∀ d ∈ tables_1, d.before a0 Z = true) (ws : List Jvm.Cond) (d : Addr) (kd : ClassId) (vs1 : List Value) (h0 : Heap) (n0 : Nat) (Z0 : n0 ≤ h0.size) (p_0 : Arv Z h0 d kd .byte (80 : Int32) vs1 (.int (0 : Int32))) :
    MetFree l yy23 (head1 (Jvm.Cond.code yy23 jdk_65_method_132_code 3 (some (.array .byte)) :: ws) rRrmCRt2) (fun a_ U_ => a_ = #[(.ref d), (.int (0 : Int32)), (.int (53 : Int32))] ∧ Z.Warmed39 U_.vm ∧ U_.heap = h0) (fun _ _ _ _ _ => True) (fun _ U_ o_ U1_ => ∃ v_ L_, o_ = .returned v_ ∧ QCRt2 Z d kd vs1 h0 n0 v_ U1_.heap L_ ∧ FrameEnd U_ o_ U1_ L_ rRrmCRt2.cells rRrmCRt2.slots) := by
  refine MetFree.of_bodySF pn_rmCRt2 hisR ?_
  intro p e s m args below meth c s₁ Bd hml0 hP hK
  obtain ⟨rfl, hZ, hh⟩ := hP
  have hx := Bd.exec
  have hby := Bd.bytes
  have hlk : meth.locks = false := Bd.notSynchronized
  have hml : c.maxLocals = 3 := hml0
  have hown : s.vm.findClass "java/util/Arrays" = some m.cls := findClass_of_methodNamed Bd.named
  have hnm := (name_of_methodNamed Bd.named Bd.method).1
  have X0 : Stand p l e rRrmCRt2 s m #[(.ref d), (.int (0 : Int32)), (.int (53 : Int32))] below meth c s₁ [] 0 0 := Stand.of_body Bd
  have e0 : s₁.heap = h0 := by rw [← hh, Bd.state]; rfl
  have N0 := Fr.nil n0
  show own_Goes p e below s (QCRt2 Z d kd vs1 h0 n0) rRrmCRt2.cells rRrmCRt2.slots s₁ (entryFrame m #[(.ref d), (.int (0 : Int32)), (.int (53 : Int32))] 3)
  rw [ef_rmCRt2 m d]
  show own_Goes p e below s (QCRt2 Z d kd vs1 h0 n0) rRrmCRt2.cells rRrmCRt2.slots s₁ (mkF m 0 #[rv d, iv (0 : Int32), iv (53 : Int32)] [])
  refine own_st (fun _ kk_ => XS.iloadN X0.here hx rfl (hb hby d29_0) rfl (XS.ifNo X0.here hx rfl (hb hby d29_1) rfl (XT.i0_ne_f (by decide)) (XS.iloadN X0.here hx rfl (hb hby d29_4) rfl (XS.aloadN X0.here hx rfl (hb hby d29_5) rfl rfl kk_)))) ?_
  show own_Goes _ _ _ _ _ _ _ s₁ (mkF m 6 #[rv d, iv (0 : Int32), iv (53 : Int32)] [(.ref d), (.int (53 : Int32))])
  obtain ⟨cl1, Ar1, -, Sz1, Nn1, -, -⟩ := id p_0
  refine own_st (fun _ kk_ => X0.arraylength hx (by rw [e0]; exact Ar1.1) (State.isArrayOf_alike hZ.alike Ar1.2.1) (g := (mkF m 6 #[rv d, iv (0 : Int32), iv (53 : Int32)] [(.ref d), (.int (53 : Int32))])) rfl rfl (hb hby d29_6) _ kk_) ?_
  rw [len_of Sz1 Nn1]
  show own_Goes _ _ _ _ _ _ _ s₁ (mkF m 7 #[rv d, iv (0 : Int32), iv (53 : Int32)] [(.int (80 : Int32)), (.int (53 : Int32))])
  refine own_st (fun _ kk_ => XS.icmpNo X0.here hx rfl (hb hby d29_7) rfl (XT.ii_eq_f (by decide)) (XS.aloadN X0.here hx rfl (hb hby d29_10) rfl rfl (XS.iloadN X0.here hx rfl (hb hby d29_11) rfl (XS.iloadN X0.here hx rfl (hb hby d29_12) rfl kk_)))) ?_
  show own_Goes _ _ _ _ _ _ _ s₁ (mkF m 13 #[rv d, iv (0 : Int32), iv (53 : Int32)] [(.int (53 : Int32)), (.int (0 : Int32)), (.ref d)])
  obtain ⟨_, _, ⟨T2, L2, k2, n2⟩, -, X2, ⟨Lc2, hQ2, l2, y2, z2⟩, st2⟩ := Jvm.LawKit.callS X0 hx (y := yy22) hown (mvT hZ (own_w hw 176 rfl)) (mvT hZ (own_w hw 177 rfl)) (mvT hZ (own_w hw 107 rfl)) (mvT hZ (own_w hw 178 rfl)) (by decide) (backOf (W := 0) (rmRBt2 l Z a0 hw [] (d) (kd) (vs1) h0 n0 Z0 p_0) hZ (own_w hw 178 rfl) (own_w hw 107 rfl) (by decide) (by decide)) (g := (mkF m 13 #[rv d, iv (0 : Int32), iv (53 : Int32)] [(.int (53 : Int32)), (.int (0 : Int32)), (.ref d)])) rfl (by rw [hml]; rfl) (argsL := [(.ref d), (.int (0 : Int32)), (.int (53 : Int32))]) (rest := []) (lenOf pd_13 rfl) rfl (by show 2 * 0 + _ ≤ _; exact Nat.le_of_eq rfl) (hb hby d29_13) (fun _ _ => ⟨rfl, e0, (by decide : 0 + 1 ≤ _), (by decide : 0 + 53 ≤ _)⟩)
  dsimp only [Pt.U, Pt.locs, Pt.cells, Pt.slots] at X2 l2 y2 z2 st2 hQ2
  subst l2 y2 z2
  obtain ⟨x2_y, x2_ky, rfl, Nq2, Kq2, u2_0, u2_1⟩ := hQ2
  have N2 := Fr.app N0 Nq2
  have f2_0 := p_0.keep Kq2 nin0
  have Zs2 : n0 ≤ T2.heap.size := Nat.le_trans Z0 Kq2.1
  have K2 := (Keep.refl h0 []).trans Kq2 all0
  have ne2_d : d ≠ x2_y := Nat.ne_of_lt (Nat.lt_of_lt_of_le p_0.lt u2_0)
  have sz2_y : h0.size ≤ x2_y := Nat.le_trans (Keep.refl h0 []).1 u2_0
  have gg2_y : n0 ≤ x2_y := Nat.le_trans Z0 u2_0
  refine own_st st2 ?_
  show own_Goes _ _ _ _ _ _ _ T2 (mkF m 16 #[rv d, iv (0 : Int32), iv (53 : Int32)] [(.ref x2_y)])
  refine own_retA X2 hx hlk rfl Bd.returns rfl (hb hby d29_16) (by decide) (by decide) ?_
  show QCRt2 Z d kd vs1 h0 n0 (some (.ref x2_y)) T2.heap _
  exact ⟨x2_y, x2_ky, rfl, N2, K2, u2_0, u2_1⟩
abbrev rRrmSVt2 : Room := { frames := 3, cells := 1, slots := 53, locals := 49 }
theorem pn_rmSVt2 : plainFor yy24 = true := by first | exact plainFor_of_name (by first | (simp [plainName, overriddenIn]; done) | decide +kernel) | decide +kernel
theorem ef_rmSVt2 (m : MethodId) (s9 : Addr) (o : Addr) : entryFrame m #[(.ref s9), (.ref o), .null] 5 = (mkF m 0 #[rv s9, rv o, .val .null, .unset, .unset] []) := by first | (simp [entryFrame, mkF, argsToLocals, Value.category]; done) | rfl
def QSVt2 (Z : State) (s9 : Addr) (o : Addr) (d : Addr) (kd : ClassId) (vs1 : List Value) (cs : Int32) (h0 : Heap) (n0 : Nat) (v_ : Option Value) (h_ : Heap) (L_ : List Loc) : Prop := ∃ y : Addr, ∃ ky : ClassId, (v_ = none) ∧ (Fr n0 L_) ∧ (Keep h0 h_ [s9]) ∧ (h0.size ≤ y) ∧ (Exa Z h_ s9 "java/lang/String") ∧ (Fld Z h_ s9 "java/lang/String" "coder" "B" (.int (0 : Int32))) ∧ (Fld Z h_ s9 "java/lang/String" "value" "[B" (.ref y)) ∧ (Arv Z h_ y ky .byte (53 : Int32) (own_cp vs1 own_z53 (0 : Int32) (0 : Int32) (53 : Int32) (.int (0 : Int32))) (.int (0 : Int32)))
set_option maxRecDepth 65536 in
set_option maxHeartbeats 40000000 in
theorem rmSVt2 (l : Launch) (Z : State) (a0 : Array Value) (hw : ∀ d ∈ tables_1, d.before a0 Z = true) (ws : List Jvm.Cond) (s9 : Addr) (o : Addr) (d : Addr) (kd : ClassId) (vs1 : List Value) (cs : Int32) (h0 : Heap) (n0 : Nat) (Z0 : n0 ≤ h0.size) (p_0 : Exa Z h0 s9 "java/lang/String") (p_1 : Fld Z h0 s9 "java/lang/String" "value" "[B" .null) (p_2 : Fld Z h0 s9 "java/lang/String" "coder" "B" (.int (0 : Int32))) (p_3 : n0 ≤ s9) (p_4 : Exa Z h0 o "java/lang/StringBuilder") (p_5 : Fld Z h0 o "java/lang/AbstractStringBuilder" "value" "[B" (.ref d)) (p_6 : Fld Z h0 o "java/lang/AbstractStringBuilder" "coder" "B" (.int (0 : Int32))) (p_7 : Fld Z h0 o "java/lang/AbstractStringBuilder" "count" "I" (.int (53 : Int32))) (p_8 : Arv Z h0 d kd .byte (80 : Int32) vs1 (.int (0 : Int32))) (p_9 : Sta Z h0 "java/lang/String" "COMPACT_STRINGS" "Z" (.int cs)) (hcs : ¬ cs = (0 : Int32)) (p_11 : s9 ≠ o) (p_12 : s9 ≠ d) :
    MetFree l yy24 (head1 (Jvm.Cond.code yy24 jdk_42_method_150_code 5 none :: ws) rRrmSVt2) (fun a_ U_ => a_ = #[(.ref s9), (.ref o), .null] ∧ Z.Warmed39 U_.vm ∧ U_.heap = h0) (fun _ _ _ _ _ => True) (fun _ U_ o_ U1_ => ∃ v_ L_, o_ = .returned v_ ∧ QSVt2 Z s9 o d kd vs1 cs h0 n0 v_ U1_.heap L_ ∧ FrameEnd U_ o_ U1_ L_ rRrmSVt2.cells rRrmSVt2.slots) := by
  refine MetFree.of_bodySF pn_rmSVt2 hisR ?_
  intro p e s m args below meth c s₁ Bd hml0 hP hK
  obtain ⟨rfl, hZ, hh⟩ := hP
  have hx := Bd.exec
  have hby := Bd.bytes
  have hlk : meth.locks = false := Bd.notSynchronized
  have hml : c.maxLocals = 5 := hml0
  have hown : s.vm.findClass "java/lang/String" = some m.cls := findClass_of_methodNamed Bd.named
  have hnm := (name_of_methodNamed Bd.named Bd.method).1
  have X0 : Stand p l e rRrmSVt2 s m #[(.ref s9), (.ref o), .null] below meth c s₁ [] 0 0 := Stand.of_body Bd
  have e0 : s₁.heap = h0 := by rw [← hh, Bd.state]; rfl
  have N0 := Fr.nil n0
  show own_Goes p e below s (QSVt2 Z s9 o d kd vs1 cs h0 n0) rRrmSVt2.cells rRrmSVt2.slots s₁ (entryFrame m #[(.ref s9), (.ref o), .null] 5)
  rw [ef_rmSVt2 m s9 o]
  show own_Goes p e below s (QSVt2 Z s9 o d kd vs1 cs h0 n0) rRrmSVt2.cells rRrmSVt2.slots s₁ (mkF m 0 #[rv s9, rv o, .val .null, .unset, .unset] [])
  refine own_st (fun _ kk_ => XS.aloadN X0.here hx rfl (hb hby d24_0) rfl rfl kk_) ?_
  show own_Goes _ _ _ _ _ _ _ s₁ (mkF m 1 #[rv s9, rv o, .val .null, .unset, .unset] [(.ref s9)])
  obtain ⟨T1, X1, e1, st1⟩ := initO X0 hx hZ hown (own_w hw 154 rfl) (own_w hw 12 rfl) (own_w hw 13 rfl) e0 (g := (mkF m 1 #[rv s9, rv o, .val .null, .unset, .unset] [(.ref s9)])) rfl (by rw [hml]; rfl) rfl (hb hby d24_1) (by decide) (W := 0) (by show 2 * 0 + _ ≤ _; exact Nat.le_of_eq rfl) (by decide)
  refine own_st st1 ?_
  show own_Goes _ _ _ _ _ _ _ T1 (mkF m 4 #[rv s9, rv o, .val .null, .unset, .unset] [])
  refine own_st (fun _ kk_ => XS.aloadN X1.here hx rfl (hb hby d24_4) rfl rfl kk_) ?_
  show own_Goes _ _ _ _ _ _ _ T1 (mkF m 5 #[rv s9, rv o, .val .null, .unset, .unset] [(.ref o)])
  obtain ⟨cq2, kq2, q2a, q2b, q2c⟩ := isOf hZ e1 p_4
  obtain ⟨_, _, ⟨T2, L2, k2, n2⟩, -, X2, ⟨Lc2, hQ2, l2, y2, z2⟩, st2⟩ := X1.virtualBack hx (y := yy17) (z := yy17) hown (mvT hZ (own_w hw 155 rfl)) (mvT hZ (own_w hw 156 rfl)) (notFace_of_selects (args := #[]) (mvT hZ (own_w hw 158 rfl))) (mvT hZ (own_w hw 158 rfl)) (mvT hZ (own_w hw 157 rfl)) (by decide) (backOf (W := 0) (rm25 l Z a0 hw [] (o) (d) h0 n0 Z0 p_4 p_5) hZ (own_w hw 159 rfl) (own_w hw 51 rfl) (by decide) (by decide)) q2a q2c (g := (mkF m 5 #[rv s9, rv o, .val .null, .unset, .unset] [(.ref o)])) rfl (by rw [hml]; rfl) (Steps.refl _) (argsL := []) (rest := []) (lenOf pd_14 rfl) rfl (by show 2 * 0 + _ ≤ _; exact Nat.le_of_eq rfl) (hb hby d24_5) (fun _ _ => ⟨rfl, e1, (by decide : 0 + 0 ≤ _), (by decide : 0 + 0 ≤ _)⟩)
  dsimp only [Pt.U, Pt.locs, Pt.cells, Pt.slots] at X2 l2 y2 z2 st2 hQ2
  subst l2 y2 z2
  obtain ⟨rfl, Nq2, eq2⟩ := hQ2
  have N2 := Fr.app N0 Nq2
  refine own_st (fun _ kk_ => st2.trans kk_) ?_
  show own_Goes _ _ _ _ _ _ _ T2 (mkF m 8 #[rv s9, rv o, .val .null, .unset, .unset] [(.ref d)])
  refine own_st (fun _ kk_ => XS.astoreN X2.here hx rfl (hb hby d24_8) rfl rfl (l' := #[rv s9, rv o, .val .null, rv d, .unset]) rfl (XS.aloadN X2.here hx rfl (hb hby d24_9) rfl rfl kk_)) ?_
  show own_Goes _ _ _ _ _ _ _ T2 (mkF m 10 #[rv s9, rv o, .val .null, rv d, .unset] [(.ref o)])
  obtain ⟨cq3, kq3, q3a, q3b, q3c⟩ := isOf hZ eq2 p_4
  obtain ⟨_, _, ⟨T3, L3, k3, n3⟩, -, X3, ⟨Lc3, hQ3, l3, y3, z3⟩, st3⟩ := X2.virtualBack hx (y := yy18) (z := yy19) hown (mvT hZ (own_w hw 160 rfl)) (mvT hZ (own_w hw 161 rfl)) (own_nf (args := #[]) (mvT hZ (own_w hw 88 rfl)) rfl) (mvT hZ (own_w hw 163 rfl)) (mvT hZ (own_w hw 164 rfl)) (by decide) (backOf (W := 0) (rm26 l Z a0 hw [] (o) ((53 : Int32)) h0 n0 Z0 p_4 p_7) hZ (own_w hw 165 rfl) (own_w hw 43 rfl) (by decide) (by decide)) q3a q3c (g := (mkF m 10 #[rv s9, rv o, .val .null, rv d, .unset] [(.ref o)])) rfl (by rw [hml]; rfl) (Steps.refl _) (argsL := []) (rest := []) (lenOf pd_9 rfl) rfl (by show 2 * 0 + _ ≤ _; exact Nat.le_of_eq rfl) (hb hby d24_10) (fun _ _ => ⟨rfl, eq2, (by decide : 0 + 0 ≤ _), (by decide : 0 + 0 ≤ _)⟩)
  dsimp only [Pt.U, Pt.locs, Pt.cells, Pt.slots] at X3 l3 y3 z3 st3 hQ3
  subst l3 y3 z3
  obtain ⟨rfl, Nq3, eq3⟩ := hQ3
  have N3 := Fr.app N2 Nq3
  refine own_st (fun _ kk_ => st3.trans kk_) ?_
  show own_Goes _ _ _ _ _ _ _ T3 (mkF m 13 #[rv s9, rv o, .val .null, rv d, .unset] [(.int (53 : Int32))])
  refine own_st (fun _ kk_ => XS.istore X3.here hx rfl (hb hby d24_13) rfl (l' := #[rv s9, rv o, .val .null, rv d, iv (53 : Int32)]) rfl (XS.aloadN X3.here hx rfl (hb hby d24_15) rfl rfl kk_)) ?_
  show own_Goes _ _ _ _ _ _ _ T3 (mkF m 16 #[rv s9, rv o, .val .null, rv d, iv (53 : Int32)] [(.ref o)])
  obtain ⟨cq4, kq4, q4a, q4b, q4c⟩ := isOf hZ eq3 p_4
  obtain ⟨_, _, ⟨T4, L4, k4, n4⟩, -, X4, ⟨Lc4, hQ4, l4, y4, z4⟩, st4⟩ := X3.virtualBack hx (y := yy20) (z := yy20) hown (mvT hZ (own_w hw 168 rfl)) (mvT hZ (own_w hw 169 rfl)) (notFace_of_selects (args := #[]) (mvT hZ (own_w hw 171 rfl))) (mvT hZ (own_w hw 171 rfl)) (mvT hZ (own_w hw 170 rfl)) (by decide) (backOf (W := 0) (rm28 l Z a0 hw [] (o) (cs) h0 n0 Z0 p_4 p_6 p_9 (by assumption)) hZ (own_w hw 172 rfl) (own_w hw 51 rfl) (by decide) (by decide)) q4a q4c (g := (mkF m 16 #[rv s9, rv o, .val .null, rv d, iv (53 : Int32)] [(.ref o)])) rfl (by rw [hml]; rfl) (Steps.refl _) (argsL := []) (rest := []) (lenOf pd_15 rfl) rfl (by show 2 * 0 + _ ≤ _; exact Nat.le_of_eq rfl) (hb hby d24_16) (fun _ _ => ⟨rfl, eq3, (by decide : 0 + 0 ≤ _), (by decide : 0 + 0 ≤ _)⟩)
  dsimp only [Pt.U, Pt.locs, Pt.cells, Pt.slots] at X4 l4 y4 z4 st4 hQ4
  subst l4 y4 z4
  obtain ⟨rfl, Nq4, eq4⟩ := hQ4
  have N4 := Fr.app N3 Nq4
  refine own_st (fun _ kk_ => st4.trans kk_) ?_
  show own_Goes _ _ _ _ _ _ _ T4 (mkF m 19 #[rv s9, rv o, .val .null, rv d, iv (53 : Int32)] [(.int (1 : Int32))])
  refine own_st (fun _ kk_ => XS.ifNo X4.here hx rfl (hb hby d24_19) rfl (XT.i0_eq_f (by decide)) (XS.aloadN X4.here hx rfl (hb hby d24_22) rfl rfl (XS.iconst X4.here hx rfl (hb hby d24_23) kk_))) ?_
  show own_Goes _ _ _ _ _ _ _ T4 (mkF m 24 #[rv s9, rv o, .val .null, rv d, iv (53 : Int32)] [(.int (0 : Int32)), (.ref s9)])
  obtain ⟨T5, h5, X5, e5, W5, st5⟩ := putFN X4 hx hZ hown (own_w hw 82 rfl) Via.refl eq4 p_2 p_0 (Or.inr ⟨(own_w hw 23 rfl), rfl, hnm⟩) (own_w hw 20 rfl) (ty := .byte) (v' := (.int (nar .byte (0 : Int32)))) (by decide) rfl (fits_nar_byte _) (g := (mkF m 24 #[rv s9, rv o, .val .null, rv d, iv (53 : Int32)] [(.int (0 : Int32)), (.ref s9)])) rfl rfl (hb hby d24_24)
  have fw5 : Fld Z h5 s9 "java/lang/String" "coder" "B" (.int (nar .byte (0 : Int32))) := p_2.same W5
  have f5_0 := p_0.wr W5
  have f5_1 := p_1.other W5 (Or.inr (slot_ne (Or.inr (own_w hw 22 rfl)) (Or.inr (own_w hw 23 rfl)) (by decide) (t := (.array .byte)) (t' := .byte) (by decide) (by decide)))
  have f5_3 := p_4.wr W5
  have f5_4 := p_5.other W5 (Or.inl (Ne.symm p_11))
  have f5_5 := p_6.other W5 (Or.inl (Ne.symm p_11))
  have f5_6 := p_7.other W5 (Or.inl (Ne.symm p_11))
  have f5_7 := p_8.other W5 (Ne.symm p_12)
  have f5_8 := p_9.wr W5
  have Zs5 : n0 ≤ h5.size := Nat.le_trans Z0 (Nat.le_of_eq W5.size.symm)
  have K5 := (Keep.refl h0 [s9]).wr W5 (Or.inl (List.mem_of_getElem? (i := 0) rfl))
  have N5 := Fr.snoc X5 N4 p_3
  refine own_st st5 ?_
  show own_Goes _ _ _ _ _ _ _ T5 (mkF m 27 #[rv s9, rv o, .val .null, rv d, iv (53 : Int32)] [])
  refine own_st (fun _ kk_ => XS.aloadN X5.here hx rfl (hb hby d24_27) rfl rfl (XS.aloadN X5.here hx rfl (hb hby d24_28) rfl rfl (XS.iconst X5.here hx rfl (hb hby d24_29) (XS.iload X5.here hx rfl (hb hby d24_30) rfl kk_)))) ?_
  show own_Goes _ _ _ _ _ _ _ T5 (mkF m 32 #[rv s9, rv o, .val .null, rv d, iv (53 : Int32)] [(.int (53 : Int32)), (.int (0 : Int32)), (.ref d), (.ref s9)])
  obtain ⟨_, _, ⟨T6, L6, k6, n6⟩, -, X6, ⟨Lc6, hQ6, l6, y6, z6⟩, st6⟩ := Jvm.LawKit.callS X5 hx (y := yy23) hown (mvT hZ (own_w hw 173 rfl)) (mvT hZ (own_w hw 174 rfl)) (mvT hZ (own_w hw 107 rfl)) (mvT hZ (own_w hw 175 rfl)) (by decide) (backOf (W := 1) (rmCRt2 l Z a0 hw [] (d) (kd) (vs1) h5 n0 Zs5 f5_7) hZ (own_w hw 175 rfl) (own_w hw 107 rfl) (by decide) (by decide)) (g := (mkF m 32 #[rv s9, rv o, .val .null, rv d, iv (53 : Int32)] [(.int (53 : Int32)), (.int (0 : Int32)), (.ref d), (.ref s9)])) rfl (by rw [hml]; rfl) (argsL := [(.ref d), (.int (0 : Int32)), (.int (53 : Int32))]) (rest := [(.ref s9)]) (lenOf pd_13 rfl) rfl (by show 2 * 0 + _ ≤ _; exact Nat.le_of_eq rfl) (hb hby d24_32) (fun _ _ => ⟨rfl, e5, (by decide : 0 + 1 ≤ _), (by decide : 0 + 53 ≤ _)⟩)
  dsimp only [Pt.U, Pt.locs, Pt.cells, Pt.slots] at X6 l6 y6 z6 st6 hQ6
  subst l6 y6 z6
  obtain ⟨x6_y, x6_ky, rfl, Nq6, Kq6, u6_0, u6_1⟩ := hQ6
  have N6 := Fr.app N5 Nq6
  have f6_0 := f5_0.keep Kq6
  have f6_1 := f5_1.keep Kq6 nin0
  have f6_2 := f5_3.keep Kq6
  have f6_3 := f5_4.keep Kq6 nin0
  have f6_4 := f5_5.keep Kq6 nin0
  have f6_5 := f5_6.keep Kq6 nin0
  have f6_6 := f5_7.keep Kq6 nin0
  have f6_7 := own_Sta_keep f5_8 Kq6 ns0
  have f6_8 := fw5.keep Kq6 nin0
  have Zs6 : n0 ≤ T6.heap.size := Nat.le_trans Zs5 Kq6.1
  have K6 := K5.trans Kq6 all0
  have ne6_s9 : s9 ≠ x6_y := Nat.ne_of_lt (Nat.lt_of_lt_of_le f5_0.lt u6_0)
  have ne6_o : o ≠ x6_y := Nat.ne_of_lt (Nat.lt_of_lt_of_le f5_3.lt u6_0)
  have ne6_d : d ≠ x6_y := Nat.ne_of_lt (Nat.lt_of_lt_of_le f5_7.lt u6_0)
  have sz6_y : h0.size ≤ x6_y := Nat.le_trans K5.1 u6_0
  have gg6_y : n0 ≤ x6_y := Nat.le_trans Zs5 u6_0
  refine own_st st6 ?_
  show own_Goes _ _ _ _ _ _ _ T6 (mkF m 35 #[rv s9, rv o, .val .null, rv d, iv (53 : Int32)] [(.ref x6_y), (.ref s9)])
  obtain ⟨T7, h7, X7, e7, W7, st7⟩ := putF X6 hx hZ hown (host := "") (Or.inl (own_w hw 75 rfl)) Via.refl rfl f6_1 f6_0 (Or.inr ⟨(own_w hw 22 rfl), rfl, hnm⟩) (own_w hw 20 rfl) (ty := (.array .byte)) (by decide) rfl rfl (g := (mkF m 35 #[rv s9, rv o, .val .null, rv d, iv (53 : Int32)] [(.ref x6_y), (.ref s9)])) rfl rfl (hb hby d24_35)
  have fw7 : Fld Z h7 s9 "java/lang/String" "value" "[B" (.ref x6_y) := f6_1.same W7
  have f7_0 := f6_0.wr W7
  have f7_2 := f6_2.wr W7
  have f7_3 := f6_3.other W7 (Or.inl (Ne.symm p_11))
  have f7_4 := f6_4.other W7 (Or.inl (Ne.symm p_11))
  have f7_5 := f6_5.other W7 (Or.inl (Ne.symm p_11))
  have f7_6 := f6_6.other W7 (Ne.symm p_12)
  have f7_7 := f6_7.wr W7
  have f7_8 := f6_8.other W7 (Or.inr (slot_ne (Or.inr (own_w hw 23 rfl)) (Or.inr (own_w hw 22 rfl)) (by decide) (t := .byte) (t' := (.array .byte)) (by decide) (by decide)))
  have f7_9 := u6_1.other W7 (Ne.symm ne6_s9)
  have Zs7 : n0 ≤ h7.size := Nat.le_trans Zs6 (Nat.le_of_eq W7.size.symm)
  have K7 := K6.wr W7 (Or.inl (List.mem_of_getElem? (i := 0) rfl))
  have N7 := Fr.snoc X7 N6 p_3
  refine own_st st7 ?_
  show own_Goes _ _ _ _ _ _ _ T7 (mkF m 38 #[rv s9, rv o, .val .null, rv d, iv (53 : Int32)] [])
  refine own_st (fun _ kk_ => XS.goto X7.here hx rfl (pc0 := 38) (pc' := 97) rfl (hb hby d24_38) (by decide) (by decide) kk_) ?_
  show own_Goes _ _ _ _ _ _ _ T7 (mkF m 97 #[rv s9, rv o, .val .null, rv d, iv (53 : Int32)] [])
  refine own_ret0 X7 hx hlk Bd.returns (hb hby d24_97) (by decide) (by decide) ?_
  show QSVt2 Z s9 o d kd vs1 cs h0 n0 none T7.heap _
  rw [e7]
  exact ⟨x6_y, x6_ky, rfl, N7, K7, sz6_y, f7_0, f7_8, fw7, f7_9⟩
abbrev rRrmSIt2 : Room := { frames := 4, cells := 1, slots := 53, locals := 65 }
theorem pn_rmSIt2 : plainFor yy25 = true := by first | exact plainFor_of_name (by first | (simp [plainName, overriddenIn]; done) | decide +kernel) | decide +kernel
theorem ef_rmSIt2 (m : MethodId) (s9 : Addr) (o : Addr) : entryFrame m #[(.ref s9), (.ref o)] 2 = (mkF m 0 #[rv s9, rv o] []) := by first | (simp [entryFrame, mkF, argsToLocals, Value.category]; done) | rfl
def QSIt2 (Z : State) (s9 : Addr) (o : Addr) (d : Addr) (kd : ClassId) (vs1 : List Value) (cs : Int32) (h0 : Heap) (n0 : Nat) (v_ : Option Value) (h_ : Heap) (L_ : List Loc) : Prop := ∃ y : Addr, ∃ ky : ClassId, (v_ = none) ∧ (Fr n0 L_) ∧ (Keep h0 h_ [s9]) ∧ (h0.size ≤ y) ∧ (Exa Z h_ s9 "java/lang/String") ∧ (Fld Z h_ s9 "java/lang/String" "coder" "B" (.int (0 : Int32))) ∧ (Fld Z h_ s9 "java/lang/String" "value" "[B" (.ref y)) ∧ (Arv Z h_ y ky .byte (53 : Int32) (own_cp vs1 own_z53 (0 : Int32) (0 : Int32) (53 : Int32) (.int (0 : Int32))) (.int (0 : Int32)))
set_option maxRecDepth 65536 in
set_option maxHeartbeats 40000000 in
theorem rmSIt2 (l : Launch) (Z : State) (a0 : Array Value) (hw : ∀ d ∈ tables_1, d.before a0 Z = true) (ws : List Jvm.Cond) (s9 : Addr) (o : Addr) (d : Addr) (kd : ClassId) (vs1 : List Value) (cs : Int32) (h0 : Heap) (n0 : Nat) (Z0 : n0 ≤ h0.size) (p_0 : Exa Z h0 s9 "java/lang/String") (p_1 : Fld Z h0 s9 "java/lang/String" "value" "[B" .null) (p_2 : Fld Z h0 s9 "java/lang/String" "coder" "B" (.int (0 : Int32))) (p_3 : n0 ≤ s9) (p_4 : Exa Z h0 o "java/lang/StringBuilder") (p_5 : Fld Z h0 o "java/lang/AbstractStringBuilder" "value" "[B" (.ref d)) (p_6 : Fld Z h0 o "java/lang/AbstractStringBuilder" "coder" "B" (.int (0 : Int32))) (p_7 : Fld Z h0 o "java/lang/AbstractStringBuilder" "count" "I" (.int (53 : Int32))) (p_8 : Arv Z h0 d kd .byte (80 : Int32) vs1 (.int (0 : Int32))) (p_9 : Sta Z h0 "java/lang/String" "COMPACT_STRINGS" "Z" (.int cs)) (hcs : ¬ cs = (0 : Int32)) (p_11 : s9 ≠ o) (p_12 : s9 ≠ d) :
    MetFree l yy25 (head1 (Jvm.Cond.code yy25 jdk_42_method_53_code 2 none :: ws) rRrmSIt2) (fun a_ U_ => a_ = #[(.ref s9), (.ref o)] ∧ Z.Warmed39 U_.vm ∧ U_.heap = h0) (fun _ _ _ _ _ => True) (fun _ U_ o_ U1_ => ∃ v_ L_, o_ = .returned v_ ∧ QSIt2 Z s9 o d kd vs1 cs h0 n0 v_ U1_.heap L_ ∧ FrameEnd U_ o_ U1_ L_ rRrmSIt2.cells rRrmSIt2.slots) := by
  refine MetFree.of_bodySF pn_rmSIt2 hisR ?_
  intro p e s m args below meth c s₁ Bd hml0 hP hK
  obtain ⟨rfl, hZ, hh⟩ := hP
  have hx := Bd.exec
  have hby := Bd.bytes
  have hlk : meth.locks = false := Bd.notSynchronized
  have hml : c.maxLocals = 2 := hml0
  have hown : s.vm.findClass "java/lang/String" = some m.cls := findClass_of_methodNamed Bd.named
  have hnm := (name_of_methodNamed Bd.named Bd.method).1
  have X0 : Stand p l e rRrmSIt2 s m #[(.ref s9), (.ref o)] below meth c s₁ [] 0 0 := Stand.of_body Bd
  have e0 : s₁.heap = h0 := by rw [← hh, Bd.state]; rfl
  have N0 := Fr.nil n0
  show own_Goes p e below s (QSIt2 Z s9 o d kd vs1 cs h0 n0) rRrmSIt2.cells rRrmSIt2.slots s₁ (entryFrame m #[(.ref s9), (.ref o)] 2)
  rw [ef_rmSIt2 m s9 o]
  show own_Goes p e below s (QSIt2 Z s9 o d kd vs1 cs h0 n0) rRrmSIt2.cells rRrmSIt2.slots s₁ (mkF m 0 #[rv s9, rv o] [])
  refine own_st (fun _ kk_ => XS.aloadN X0.here hx rfl (hb hby d23_0) rfl rfl (XS.aloadN X0.here hx rfl (hb hby d23_1) rfl rfl (XS.aconstNull X0.here hx rfl (hb hby d23_2) kk_))) ?_
  show own_Goes _ _ _ _ _ _ _ s₁ (mkF m 3 #[rv s9, rv o] [.null, (.ref o), (.ref s9)])
  obtain ⟨_, _, ⟨T1, L1, k1, n1⟩, -, X1, ⟨Lc1, hQ1, l1, y1, z1⟩, st1⟩ := X0.specialBack hx (y := yy24) rfl hown (mvT hZ (own_w hw 151 rfl)) (mvT hZ (own_w hw 152 rfl)) (mvT hZ (own_w hw 153 rfl)) (by decide) (backOf (W := 0) (rmSVt2 l Z a0 hw [] (s9) (o) (d) (kd) (vs1) (cs) h0 n0 Z0 p_0 p_1 p_2 p_3 p_4 p_5 p_6 p_7 p_8 p_9 (by assumption) p_11 p_12) hZ (own_w hw 153 rfl) (own_w hw 19 rfl) (by decide) (by decide)) (g := (mkF m 3 #[rv s9, rv o] [.null, (.ref o), (.ref s9)])) rfl (by rw [hml]; rfl) (Steps.refl _) (a := s9) (argsL := [(.ref o), .null]) (rest := []) (lenOf pd_16 rfl) rfl (by show 2 * 0 + _ ≤ _; exact Nat.le_of_eq rfl) (hb hby d23_3) (fun _ _ => ⟨rfl, e0, (by decide : 0 + 1 ≤ _), (by decide : 0 + 53 ≤ _)⟩)
  dsimp only [Pt.U, Pt.locs, Pt.cells, Pt.slots] at X1 l1 y1 z1 st1 hQ1
  subst l1 y1 z1
  obtain ⟨x1_y, x1_ky, rfl, Nq1, Kq1, u1_0, u1_1, u1_2, u1_3, u1_4⟩ := hQ1
  have N1 := Fr.app N0 Nq1
  have f1_0 := p_0.keep Kq1
  have f1_3 := p_4.keep Kq1
  have f1_4 := p_5.keep Kq1 (ninS (Ne.symm p_11) nin0)
  have f1_5 := p_6.keep Kq1 (ninS (Ne.symm p_11) nin0)
  have f1_6 := p_7.keep Kq1 (ninS (Ne.symm p_11) nin0)
  have f1_7 := p_8.keep Kq1 (ninS (Ne.symm p_12) nin0)
  have f1_8 := own_Sta_keep p_9 Kq1 (nsS p_0.nostat ns0)
  have Zs1 : n0 ≤ T1.heap.size := Nat.le_trans Z0 Kq1.1
  have K1 := (Keep.refl h0 [s9]).trans Kq1 (allS (Or.inl (List.mem_of_getElem? (i := 0) rfl)) all0)
  have ne1_s9 : s9 ≠ x1_y := Nat.ne_of_lt (Nat.lt_of_lt_of_le p_0.lt u1_0)
  have ne1_o : o ≠ x1_y := Nat.ne_of_lt (Nat.lt_of_lt_of_le p_4.lt u1_0)
  have ne1_d : d ≠ x1_y := Nat.ne_of_lt (Nat.lt_of_lt_of_le p_8.lt u1_0)
  have sz1_y : h0.size ≤ x1_y := Nat.le_trans (Keep.refl h0 [s9]).1 u1_0
  have gg1_y : n0 ≤ x1_y := Nat.le_trans Z0 u1_0
  refine own_st (fun _ kk_ => st1.trans kk_) ?_
  show own_Goes _ _ _ _ _ _ _ T1 (mkF m 6 #[rv s9, rv o] [])
  refine own_ret0 X1 hx hlk Bd.returns (hb hby d23_6) (by decide) (by decide) ?_
  show QSIt2 Z s9 o d kd vs1 cs h0 n0 none T1.heap _
  exact ⟨x1_y, x1_ky, rfl, N1, K1, u1_0, u1_1, u1_2, u1_3, u1_4⟩
abbrev rRrmTSt2 : Room := { frames := 5, cells := 2, slots := 57, locals := 79 }
theorem pn_rmTSt2 : plainFor yy26 = true := by first | exact plainFor_of_name (by first | (simp [plainName, overriddenIn]; done) | decide +kernel) | decide +kernel
theorem ef_rmTSt2 (m : MethodId) (o : Addr) : entryFrame m #[(.ref o)] 1 = (mkF m 0 #[rv o] []) := by first | (simp [entryFrame, mkF, argsToLocals, Value.category]; done) | rfl
def QTSt2 (Z : State) (o : Addr) (d : Addr) (kd : ClassId) (vs1 : List Value) (cs : Int32) (h0 : Heap) (n0 : Nat) (v_ : Option Value) (h_ : Heap) (L_ : List Loc) : Prop := ∃ s9 : Addr, ∃ y : Addr, ∃ ky : ClassId, (v_ = some (.ref s9)) ∧ (Fr n0 L_) ∧ (Keep h0 h_ []) ∧ (h0.size ≤ s9) ∧ (Exa Z h_ s9 "java/lang/String") ∧ (Fld Z h_ s9 "java/lang/String" "coder" "B" (.int (0 : Int32))) ∧ (Fld Z h_ s9 "java/lang/String" "value" "[B" (.ref y)) ∧ (Arv Z h_ y ky .byte (53 : Int32) (own_cp vs1 own_z53 (0 : Int32) (0 : Int32) (53 : Int32) (.int (0 : Int32))) (.int (0 : Int32)))
set_option maxRecDepth 65536 in
set_option maxHeartbeats 40000000 in
theorem rmTSt2 (l : Launch) (Z : State) (a0 : Array Value) (hw : ∀ d ∈ tables_1, d.before a0 Z = true) (ws : List Jvm.Cond) (o : Addr) (d : Addr) (kd : ClassId) (vs1 : List Value) (cs : Int32) (h0 : Heap) (n0 : Nat) (Z0 : n0 ≤ h0.size) (p_0 : Exa Z h0 o "java/lang/StringBuilder") (p_1 : Fld Z h0 o "java/lang/AbstractStringBuilder" "value" "[B" (.ref d)) (p_2 : Fld Z h0 o "java/lang/AbstractStringBuilder" "coder" "B" (.int (0 : Int32))) (p_3 : Fld Z h0 o "java/lang/AbstractStringBuilder" "count" "I" (.int (53 : Int32))) (p_4 : Arv Z h0 d kd .byte (80 : Int32) vs1 (.int (0 : Int32))) (p_5 : Sta Z h0 "java/lang/String" "COMPACT_STRINGS" "Z" (.int cs)) (hcs : ¬ cs = (0 : Int32)) :
    MetFree l yy26 (head1 (Jvm.Cond.code yy26 jdk_67_method_42_code 1 (some (.object "java/lang/String")) :: ws) rRrmTSt2) (fun a_ U_ => a_ = #[(.ref o)] ∧ Z.Warmed39 U_.vm ∧ U_.heap = h0) (fun _ _ _ _ _ => True) (fun _ U_ o_ U1_ => ∃ v_ L_, o_ = .returned v_ ∧ QTSt2 Z o d kd vs1 cs h0 n0 v_ U1_.heap L_ ∧ FrameEnd U_ o_ U1_ L_ rRrmTSt2.cells rRrmTSt2.slots) := by
  refine MetFree.of_bodySF pn_rmTSt2 hisR ?_
  intro p e s m args below meth c s₁ Bd hml0 hP hK
  obtain ⟨rfl, hZ, hh⟩ := hP
  have hx := Bd.exec
  have hby := Bd.bytes
  have hlk : meth.locks = false := Bd.notSynchronized
  have hml : c.maxLocals = 1 := hml0
  have hown : s.vm.findClass "java/lang/StringBuilder" = some m.cls := findClass_of_methodNamed Bd.named
  have hnm := (name_of_methodNamed Bd.named Bd.method).1
  have X0 : Stand p l e rRrmTSt2 s m #[(.ref o)] below meth c s₁ [] 0 0 := Stand.of_body Bd
  have e0 : s₁.heap = h0 := by rw [← hh, Bd.state]; rfl
  have N0 := Fr.nil n0
  show own_Goes p e below s (QTSt2 Z o d kd vs1 cs h0 n0) rRrmTSt2.cells rRrmTSt2.slots s₁ (entryFrame m #[(.ref o)] 1)
  rw [ef_rmTSt2 m o]
  show own_Goes p e below s (QTSt2 Z o d kd vs1 cs h0 n0) rRrmTSt2.cells rRrmTSt2.slots s₁ (mkF m 0 #[rv o] [])
  obtain ⟨T1, h1, X1, e1, E1, A1, D1, -, st1⟩ := newO X0 hx hZ hown (own_w hw 146 rfl) (own_w hw 20 rfl) (own_w hw 19 rfl) e0 (g := (mkF m 0 #[rv o] [])) rfl (hb hby d22_0) (by decide) (by decide)
  obtain ⟨b1, gx1⟩ : ∃ z, z = h0.size := ⟨_, rfl⟩
  rw [← gx1] at A1 D1 st1
  have ne1_o : o ≠ b1 := Nat.ne_of_lt (Nat.lt_of_lt_of_eq p_0.lt gx1.symm)
  have ne1_d : d ≠ b1 := Nat.ne_of_lt (Nat.lt_of_lt_of_eq p_4.lt gx1.symm)
  have gg1 : n0 ≤ b1 := Nat.le_trans Z0 (Nat.le_of_eq gx1.symm)
  have sz1 : h0.size ≤ b1 := Nat.le_trans (Keep.refl h0 []).1 (Nat.le_of_eq gx1.symm)
  have f1_0 := p_0.ext E1
  have f1_1 := p_1.ext E1
  have f1_2 := p_2.ext E1
  have f1_3 := p_3.ext E1
  have f1_4 := p_4.ext E1
  have f1_5 := p_5.ext E1
  have Zs1 : n0 ≤ h1.size := Nat.le_trans Z0 E1.1
  have K1 := (Keep.refl h0 []).ext E1
  have fn1_value : Fld Z h1 b1 "java/lang/String" "value" "[B" .null := D1 (Or.inr (own_w hw 22 rfl)) (ty := (.array .byte)) (by decide)
  have fn1_coder : Fld Z h1 b1 "java/lang/String" "coder" "B" (.int (0 : Int32)) := D1 (Or.inr (own_w hw 23 rfl)) (ty := .byte) (by decide)
  refine own_st st1 ?_
  show own_Goes _ _ _ _ _ _ _ T1 (mkF m 3 #[rv o] [(.ref b1)])
  refine own_st (fun _ kk_ => XS.dup X1.here hx rfl (hb hby d22_3) rfl rfl (XS.aloadN X1.here hx rfl (hb hby d22_4) rfl rfl kk_)) ?_
  show own_Goes _ _ _ _ _ _ _ T1 (mkF m 5 #[rv o] [(.ref o), (.ref b1), (.ref b1)])
  obtain ⟨_, _, ⟨T2, L2, k2, n2⟩, -, X2, ⟨Lc2, hQ2, l2, y2, z2⟩, st2⟩ := X1.specialBack hx (y := yy25) rfl hown (mvT hZ (own_w hw 147 rfl)) (mvT hZ (own_w hw 148 rfl)) (mvT hZ (own_w hw 150 rfl)) (by decide) (backOf (W := 1) (rmSIt2 l Z a0 hw [] (b1) (o) (d) (kd) (vs1) (cs) h1 n0 Zs1 A1 fn1_value fn1_coder gg1 f1_0 f1_1 f1_2 f1_3 f1_4 f1_5 (by assumption) (Ne.symm ne1_o) (Ne.symm ne1_d)) hZ (own_w hw 150 rfl) (own_w hw 19 rfl) (by decide) (by decide)) (g := (mkF m 5 #[rv o] [(.ref o), (.ref b1), (.ref b1)])) rfl (by rw [hml]; rfl) (Steps.refl _) (a := b1) (argsL := [(.ref o)]) (rest := [(.ref b1)]) (lenOf pd_17 rfl) rfl (by show 2 * 0 + _ ≤ _; exact Nat.le_of_eq rfl) (hb hby d22_5) (fun _ _ => ⟨rfl, e1, (by decide : 1 + 1 ≤ _), (by decide : 4 + 53 ≤ _)⟩)
  dsimp only [Pt.U, Pt.locs, Pt.cells, Pt.slots] at X2 l2 y2 z2 st2 hQ2
  subst l2 y2 z2
  obtain ⟨x2_y, x2_ky, rfl, Nq2, Kq2, u2_0, u2_1, u2_2, u2_3, u2_4⟩ := hQ2
  have N2 := Fr.app N0 Nq2
  have f2_0 := f1_0.keep Kq2
  have f2_1 := f1_1.keep Kq2 (ninS ne1_o nin0)
  have f2_2 := f1_2.keep Kq2 (ninS ne1_o nin0)
  have f2_3 := f1_3.keep Kq2 (ninS ne1_o nin0)
  have f2_4 := f1_4.keep Kq2 (ninS ne1_d nin0)
  have f2_5 := own_Sta_keep f1_5 Kq2 (nsS A1.nostat ns0)
  have f2_6 := A1.keep Kq2
  have Zs2 : n0 ≤ T2.heap.size := Nat.le_trans Zs1 Kq2.1
  have K2 := K1.trans Kq2 (allS (Or.inr sz1) all0)
  have ne2_o : o ≠ x2_y := Nat.ne_of_lt (Nat.lt_of_lt_of_le f1_0.lt u2_0)
  have ne2_d : d ≠ x2_y := Nat.ne_of_lt (Nat.lt_of_lt_of_le f1_4.lt u2_0)
  have ne2_b1 : b1 ≠ x2_y := Nat.ne_of_lt (Nat.lt_of_lt_of_le A1.lt u2_0)
  have sz2_y : h0.size ≤ x2_y := Nat.le_trans K1.1 u2_0
  have gg2_y : n0 ≤ x2_y := Nat.le_trans Zs1 u2_0
  refine own_st (fun _ kk_ => st2.trans kk_) ?_
  show own_Goes _ _ _ _ _ _ _ T2 (mkF m 8 #[rv o] [(.ref b1)])
  refine own_retA X2 hx hlk rfl Bd.returns rfl (hb hby d22_8) (by decide) (by decide) ?_
  show QTSt2 Z o d kd vs1 cs h0 n0 (some (.ref b1)) T2.heap _
  exact ⟨b1, x2_y, x2_ky, rfl, N2, K2, sz1, u2_1, u2_2, u2_3, u2_4⟩
abbrev rRrm21 : Room := { frames := 0, cells := 0, slots := 0, locals := 0 }
theorem d21_0 : decode prog_5_method_4_code 0 = .ok (.aload_n 0, 1) := by decide +kernel
theorem d21_1 : decode prog_5_method_4_code 1 = .ok (.getfield 32, 3) := by decide +kernel
theorem d21_4 : decode prog_5_method_4_code 4 = .ok (.areturn, 1) := by decide +kernel
theorem pn_rm21 : plainFor yy27 = true := by first | exact plainFor_of_name (by first | (simp [plainName, overriddenIn]; done) | decide +kernel) | decide +kernel
theorem ef_rm21 (m : MethodId) (ro : Addr) : entryFrame m #[(.ref ro)] 1 = (mkF m 0 #[rv ro] []) := by first | (simp [entryFrame, mkF, argsToLocals, Value.category]; done) | rfl
def Q21 (Z : State) (ro : Addr) (cx : Addr) (h0 : Heap) (n0 : Nat) (v_ : Option Value) (h_ : Heap) (L_ : List Loc) : Prop := (v_ = some (.ref cx)) ∧ (Fr n0 L_) ∧ (h_ = h0)
set_option maxRecDepth 65536 in
set_option maxHeartbeats 40000000 in
theorem rm21 (l : Launch) (Z : State) (a0 : Array Value) (hw : ∀ d ∈ tables_1, d.before a0 Z = true) (ws : List Jvm.Cond) (ro : Addr) (cx : Addr) (h0 : Heap) (n0 : Nat) (Z0 : n0 ≤ h0.size) (p_0 : Exa Z h0 ro "com/example/firm_duties/firmduties/Decision$Reason") (p_1 : Fld Z h0 ro "com/example/firm_duties/firmduties/Decision$Reason" "code" "Ljava/lang/String;" (.ref cx)) :
    MetFree l yy27 (head1 (Jvm.Cond.code yy27 prog_5_method_4_code 1 (some (.object "java/lang/String")) :: ws) rRrm21) (fun a_ U_ => a_ = #[(.ref ro)] ∧ Z.Warmed39 U_.vm ∧ U_.heap = h0) (fun _ _ _ _ _ => True) (fun _ U_ o_ U1_ => ∃ v_ L_, o_ = .returned v_ ∧ Q21 Z ro cx h0 n0 v_ U1_.heap L_ ∧ FrameEnd U_ o_ U1_ L_ rRrm21.cells rRrm21.slots) := by
  refine MetFree.of_bodySF pn_rm21 hisR ?_
  intro p e s m args below meth c s₁ Bd hml0 hP hK
  obtain ⟨rfl, hZ, hh⟩ := hP
  have hx := Bd.exec
  have hby := Bd.bytes
  have hlk : meth.locks = false := Bd.notSynchronized
  have hml : c.maxLocals = 1 := hml0
  have hown : s.vm.findClass "com/example/firm_duties/firmduties/Decision$Reason" = some m.cls := findClass_of_methodNamed Bd.named
  have hnm := (name_of_methodNamed Bd.named Bd.method).1
  have X0 : Stand p l e rRrm21 s m #[(.ref ro)] below meth c s₁ [] 0 0 := Stand.of_body Bd
  have e0 : s₁.heap = h0 := by rw [← hh, Bd.state]; rfl
  have N0 := Fr.nil n0
  show own_Goes p e below s (Q21 Z ro cx h0 n0) rRrm21.cells rRrm21.slots s₁ (entryFrame m #[(.ref ro)] 1)
  rw [ef_rm21 m ro]
  show own_Goes p e below s (Q21 Z ro cx h0 n0) rRrm21.cells rRrm21.slots s₁ (mkF m 0 #[rv ro] [])
  refine own_st (fun _ kk_ => XS.aloadN X0.here hx rfl (hb hby d21_0) rfl rfl kk_) ?_
  show own_Goes _ _ _ _ _ _ _ s₁ (mkF m 1 #[rv ro] [(.ref ro)])
  obtain ⟨T1, X1, e1, st1⟩ := getF X0 hx hZ hown (host := "") (Or.inl (own_w hw 138 rfl)) Via.refl e0 p_1 (g := (mkF m 1 #[rv ro] [(.ref ro)])) rfl rfl (hb hby d21_1)
  refine own_st st1 ?_
  show own_Goes _ _ _ _ _ _ _ T1 (mkF m 4 #[rv ro] [(.ref cx)])
  refine own_retA X1 hx hlk rfl Bd.returns rfl (hb hby d21_4) (by decide) (by decide) ?_
  show Q21 Z ro cx h0 n0 (some (.ref cx)) T1.heap _
  rw [e1]
  exact ⟨rfl, N0, rfl⟩
abbrev rRrmTJg : Room := { frames := 0, cells := 2, slots := 72, locals := 0 }
theorem d4_0 : decode prog_4_method_3_code 0 = .ok (.aload_n 0, 1) := by decide +kernel
theorem d4_1 : decode prog_4_method_3_code 1 = .ok (.getfield 14, 3) := by decide +kernel
theorem d4_4 : decode prog_4_method_3_code 4 = .ok (.ifCond .eq 6, 3) := by decide +kernel
theorem d4_7 : decode prog_4_method_3_code 7 = .ok (.ldc 27, 2) := by decide +kernel
theorem d4_9 : decode prog_4_method_3_code 9 = .ok (.areturn, 1) := by decide +kernel
theorem pn_rmTJg : plainFor yy28 = true := by first | exact plainFor_of_name (by first | (simp [plainName, overriddenIn]; done) | decide +kernel) | decide +kernel
theorem ef_rmTJg (m : MethodId) (de : Addr) : entryFrame m #[(.ref de)] 1 = (mkF m 0 #[rv de] []) := by first | (simp [entryFrame, mkF, argsToLocals, Value.category]; done) | rfl
def QTJg (Z : State) (de : Addr) (h0 : Heap) (n0 : Nat) (v_ : Option Value) (h_ : Heap) (L_ : List Loc) : Prop := ∃ y : Addr, ∃ dy : Addr, ∃ ky : ClassId, (v_ = some (.ref y)) ∧ (Fr n0 L_) ∧ (Keep h0 h_ []) ∧ (Exa Z h_ y "java/lang/String") ∧ (Fld Z h_ y "java/lang/String" "coder" "B" (.int (0 : Int32))) ∧ (Fld Z h_ y "java/lang/String" "value" "[B" (.ref dy)) ∧ (Arv Z h_ dy ky .byte (17 : Int32) own_gr (.int (0 : Int32)))
set_option maxRecDepth 65536 in
set_option maxHeartbeats 40000000 in
theorem rmTJg (l : Launch) (Z : State) (a0 : Array Value) (hw : ∀ d ∈ tables_1, d.before a0 Z = true) (ws : List Jvm.Cond) (hEL : EW Z a0 consts_1) (de : Addr) (h0 : Heap) (n0 : Nat) (Z0 : n0 ≤ h0.size) (p_0 : Exa Z h0 de "com/example/firm_duties/firmduties/Decision") (p_1 : Fld Z h0 de "com/example/firm_duties/firmduties/Decision" "granted" "Z" (.int (1 : Int32))) :
    MetFree l yy28 (head1 (Jvm.Cond.code yy28 prog_4_method_3_code 1 (some (.object "java/lang/String")) :: ws) rRrmTJg) (fun a_ U_ => a_ = #[(.ref de)] ∧ Z.Warmed39 U_.vm ∧ U_.heap = h0 ∧ CHv Z consts_1 U_.vm h0 ∧ ∀ x_ ∈ ([] : List Addr), Safe Z consts_1 U_.vm h0 x_) (fun _ _ _ _ _ => True) (fun _ U_ o_ U1_ => ∃ v_ L_, o_ = .returned v_ ∧ QTJg Z de h0 n0 v_ U1_.heap L_ ∧ CHr Z consts_1 U_.vm U_.heap U1_.vm U1_.heap ∧ ReturnedEndW U_ o_ U1_ L_ rRrmTJg.cells rRrmTJg.slots) := by
  refine MetFree.of_bodySF pn_rmTJg hisR ?_
  intro p e s m args below meth c s₁ Bd hml0 hP hK
  obtain ⟨rfl, hZ, hh, hCH, hSf⟩ := hP
  have hx := Bd.exec
  have hby := Bd.bytes
  have hlk : meth.locks = false := Bd.notSynchronized
  have hml : c.maxLocals = 1 := hml0
  have hown : s.vm.findClass "com/example/firm_duties/firmduties/Decision" = some m.cls := findClass_of_methodNamed Bd.named
  have hnm := (name_of_methodNamed Bd.named Bd.method).1
  have X0 : Stand p l e rRrmTJg (s.setVm s.vm) m #[(.ref de)] below meth c s₁ [] 0 0 := Stand.of_body Bd
  have e0 : s₁.heap = h0 := by rw [← hh, Bd.state]; rfl
  have N0 := Fr.nil n0
  have hS0 : s.Since s.vm n0 := (State.WarmedH.refl s).since n0
  have wS : ∀ d ∈ Bundle.stringAtoms, d.before a0 Z = true := by
    intro d hd
    simp only [Bundle.stringAtoms, List.mem_cons, List.not_mem_nil, or_false] at hd
    rcases hd with rfl | rfl | rfl | rfl | rfl | rfl | rfl
    · exact (own_w hw 19 rfl)
    · exact (own_w hw 20 rfl)
    · exact (own_w hw 21 rfl)
    · exact (own_w hw 22 rfl)
    · exact (own_w hw 23 rfl)
    · exact (own_w hw 24 rfl)
    · exact (own_w hw 25 rfl)
  have C0 := CHr.refl hCH
  show own_GoesH p e below s Z consts_1 (QTJg Z de h0 n0) rRrmTJg.cells rRrmTJg.slots s₁ (entryFrame m #[(.ref de)] 1)
  rw [ef_rmTJg m de]
  show own_GoesH p e below s Z consts_1 (QTJg Z de h0 n0) rRrmTJg.cells rRrmTJg.slots s₁ (mkF m 0 #[rv de] [])
  refine own_stH (fun _ kk_ => XS.aloadN X0.here hx rfl (hb hby d4_0) rfl rfl kk_) ?_
  show own_GoesH _ _ _ _ _ _ _ _ _ s₁ (mkF m 1 #[rv de] [(.ref de)])
  obtain ⟨T1, X1, e1, st1⟩ := getF X0 hx hZ hown (host := "") (Or.inl (own_w hw 14 rfl)) Via.refl e0 p_1 (g := (mkF m 1 #[rv de] [(.ref de)])) rfl rfl (hb hby d4_1)
  refine own_stH st1 ?_
  show own_GoesH _ _ _ _ _ _ _ _ _ T1 (mkF m 4 #[rv de] [(.int (1 : Int32))])
  refine own_stH (fun _ kk_ => XS.ifNo X1.here hx rfl (hb hby d4_4) rfl (XT.i0_eq_f (by decide)) kk_) ?_
  show own_GoesH _ _ _ _ _ _ _ _ _ T1 (mkF m 7 #[rv de] [])
  obtain ⟨b2, T2, h2, k2, d2, kc2, X2, e2, E2, hS2, Ka2, hZ, hown, Ex2, Fc2, Fv2, Av2, -, -, hC2, -, hsa2, st2⟩ := ldcCH X1 hx hZ hown (own_w hw 31 rfl) wS e1 hS0 Z0 hEL (List.mem_of_getElem? (i := 0) rfl) C0.1 (vs := [(.int (123 : Int32)), (.int (34 : Int32)), (.int (100 : Int32)), (.int (101 : Int32)), (.int (99 : Int32)), (.int (105 : Int32)), (.int (115 : Int32)), (.int (105 : Int32)), (.int (111 : Int32)), (.int (110 : Int32)), (.int (34 : Int32)), (.int (58 : Int32)), (.int (116 : Int32)), (.int (114 : Int32)), (.int (117 : Int32)), (.int (101 : Int32)), (.int (125 : Int32))]) (z := (17 : Int32)) ⟨by decide, by decide⟩ (by decide) (by decide) (g := (mkF m 7 #[rv de] [])) rfl (hb hby d4_7) (n := 68) (by decide) (by decide) (by decide) (by decide)
  have f2_0 := p_0.ext E2
  have f2_1 := p_1.ext E2
  have C2 := C0.trans hC2
  have Zs2 : n0 ≤ h2.size := Nat.le_trans Z0 E2.1
  have K2 := (Keep.refl h0 []).ext E2
  have Ks2 := Nat.le_trans Z0 E2.1
  have nl2_de := hsa2 de (Safe.exa hZ.alike f2_0 (by decide) (by decide))
  refine own_stH st2 ?_
  show own_GoesH _ _ _ _ _ _ _ _ _ T2 (mkF m 9 #[rv de] [(.ref b2)])
  have Vna : Arv Z h2 d2 kc2 .byte (17 : Int32) own_gr (.int (0 : Int32)) := Av2
  refine own_endH (v := (some (.ref b2))) X2 hlk hS2 (by rw [e2]; exact Ka2) hZ hEL hh e2 C2 (fun h => by rw [Bd.returns] at h; cases h) (by decide) (by decide) ?_ (fun fs hr => retOut X2 hx Bd.returns (own_narR rfl) (Or.inr (Or.inr (Or.inr (Or.inr ⟨rfl, rfl, rfl⟩)))) (hb hby d4_9) hr)
  show QTJg Z de h0 n0 (some (.ref b2)) T2.heap _
  rw [e2]
  exact ⟨b2, d2, kc2, rfl, N0, K2, Ex2, Fc2, Fv2, Vna⟩
abbrev rRrmTJ0 : Room := { frames := 6, cells := 10, slots := 374, locals := 91 }
theorem d4_10 : decode prog_4_method_3_code 10 = .ok (.new 29, 3) := by decide +kernel
theorem d4_13 : decode prog_4_method_3_code 13 = .ok (.dup, 1) := by decide +kernel
theorem d4_14 : decode prog_4_method_3_code 14 = .ok (.invokespecial 31, 3) := by decide +kernel
theorem d4_17 : decode prog_4_method_3_code 17 = .ok (.ldc 32, 2) := by decide +kernel
theorem d4_19 : decode prog_4_method_3_code 19 = .ok (.invokevirtual 34, 3) := by decide +kernel
theorem d4_22 : decode prog_4_method_3_code 22 = .ok (.aload_n 0, 1) := by decide +kernel
theorem d4_23 : decode prog_4_method_3_code 23 = .ok (.getfield 20, 3) := by decide +kernel
theorem d4_26 : decode prog_4_method_3_code 26 = .ok (.invokevirtual 38, 3) := by decide +kernel
theorem d4_29 : decode prog_4_method_3_code 29 = .ok (.invokevirtual 34, 3) := by decide +kernel
theorem d4_32 : decode prog_4_method_3_code 32 = .ok (.ldc 44, 2) := by decide +kernel
theorem d4_34 : decode prog_4_method_3_code 34 = .ok (.invokevirtual 34, 3) := by decide +kernel
theorem d4_37 : decode prog_4_method_3_code 37 = .ok (.invokevirtual 46, 3) := by decide +kernel
theorem d4_40 : decode prog_4_method_3_code 40 = .ok (.areturn, 1) := by decide +kernel
theorem pd_18 : parseMethodDescriptor "(Ljava/lang/String;)Ljava/lang/StringBuilder;" = some ⟨[(.object "java/lang/String")], some (.object "java/lang/StringBuilder")⟩ := by decide +kernel
theorem pd_19 : parseMethodDescriptor "()Ljava/lang/String;" = some ⟨[], some (.object "java/lang/String")⟩ := by decide +kernel
theorem pn_rmTJ0 : plainFor yy28 = true := by first | exact plainFor_of_name (by first | (simp [plainName, overriddenIn]; done) | decide +kernel) | decide +kernel
theorem ef_rmTJ0 (m : MethodId) (de : Addr) : entryFrame m #[(.ref de)] 1 = (mkF m 0 #[rv de] []) := by first | (simp [entryFrame, mkF, argsToLocals, Value.category]; done) | rfl
def QTJ0 (Z : State) (de : Addr) (ro : Addr) (cx : Addr) (cv : Addr) (kv : ClassId) (cs : Int32) (h0 : Heap) (n0 : Nat) (v_ : Option Value) (h_ : Heap) (L_ : List Loc) : Prop := ∃ y : Addr, ∃ dy : Addr, ∃ ky : ClassId, (v_ = some (.ref y)) ∧ (Fr n0 L_) ∧ (Keep h0 h_ []) ∧ (Exa Z h_ y "java/lang/String") ∧ (Fld Z h_ y "java/lang/String" "coder" "B" (.int (0 : Int32))) ∧ (Fld Z h_ y "java/lang/String" "value" "[B" (.ref dy)) ∧ (Arv Z h_ dy ky .byte (55 : Int32) own_x0 (.int (0 : Int32)))
set_option maxRecDepth 65536 in
set_option maxHeartbeats 40000000 in
theorem rmTJ0 (l : Launch) (Z : State) (a0 : Array Value) (hw : ∀ d ∈ tables_1, d.before a0 Z = true) (ws : List Jvm.Cond) (hEL : EW Z a0 consts_1) (de : Addr) (ro : Addr) (cx : Addr) (cv : Addr) (kv : ClassId) (cs : Int32) (h0 : Heap) (n0 : Nat) (Z0 : n0 ≤ h0.size) (p_0 : Exa Z h0 de "com/example/firm_duties/firmduties/Decision") (p_1 : Fld Z h0 de "com/example/firm_duties/firmduties/Decision" "granted" "Z" (.int (0 : Int32))) (p_2 : Fld Z h0 de "com/example/firm_duties/firmduties/Decision" "reason" "Lcom/example/firm_duties/firmduties/Decision$Reason;" (.ref ro)) (p_3 : Exa Z h0 ro "com/example/firm_duties/firmduties/Decision$Reason") (p_4 : Fld Z h0 ro "com/example/firm_duties/firmduties/Decision$Reason" "code" "Ljava/lang/String;" (.ref cx)) (p_5 : Exa Z h0 cx "java/lang/String") (p_6 : Fld Z h0 cx "java/lang/String" "coder" "B" (.int (0 : Int32))) (p_7 : Fld Z h0 cx "java/lang/String" "value" "[B" (.ref cv)) (p_8 : Arv Z h0 cv kv .byte (13 : Int32) own_cd0 (.int (0 : Int32))) (p_9 : Sta Z h0 "java/lang/String" "COMPACT_STRINGS" "Z" (.int cs)) (hcs : ¬ cs = (0 : Int32)) :
    MetFree l yy28 (head1 (Jvm.Cond.code yy28 prog_4_method_3_code 1 (some (.object "java/lang/String")) :: ws) rRrmTJ0) (fun a_ U_ => a_ = #[(.ref de)] ∧ Z.Warmed39 U_.vm ∧ U_.heap = h0 ∧ CHv Z consts_1 U_.vm h0 ∧ ∀ x_ ∈ ([] : List Addr), Safe Z consts_1 U_.vm h0 x_) (fun _ _ _ _ _ => True) (fun _ U_ o_ U1_ => ∃ v_ L_, o_ = .returned v_ ∧ QTJ0 Z de ro cx cv kv cs h0 n0 v_ U1_.heap L_ ∧ CHr Z consts_1 U_.vm U_.heap U1_.vm U1_.heap ∧ ReturnedEndW U_ o_ U1_ L_ rRrmTJ0.cells rRrmTJ0.slots) := by
  refine MetFree.of_bodySF pn_rmTJ0 hisR ?_
  intro p e s m args below meth c s₁ Bd hml0 hP hK
  obtain ⟨rfl, hZ, hh, hCH, hSf⟩ := hP
  have hx := Bd.exec
  have hby := Bd.bytes
  have hlk : meth.locks = false := Bd.notSynchronized
  have hml : c.maxLocals = 1 := hml0
  have hown : s.vm.findClass "com/example/firm_duties/firmduties/Decision" = some m.cls := findClass_of_methodNamed Bd.named
  have hnm := (name_of_methodNamed Bd.named Bd.method).1
  have X0 : Stand p l e rRrmTJ0 (s.setVm s.vm) m #[(.ref de)] below meth c s₁ [] 0 0 := Stand.of_body Bd
  have e0 : s₁.heap = h0 := by rw [← hh, Bd.state]; rfl
  have N0 := Fr.nil n0
  have hS0 : s.Since s.vm n0 := (State.WarmedH.refl s).since n0
  have wS : ∀ d ∈ Bundle.stringAtoms, d.before a0 Z = true := by
    intro d hd
    simp only [Bundle.stringAtoms, List.mem_cons, List.not_mem_nil, or_false] at hd
    rcases hd with rfl | rfl | rfl | rfl | rfl | rfl | rfl
    · exact (own_w hw 19 rfl)
    · exact (own_w hw 20 rfl)
    · exact (own_w hw 21 rfl)
    · exact (own_w hw 22 rfl)
    · exact (own_w hw 23 rfl)
    · exact (own_w hw 24 rfl)
    · exact (own_w hw 25 rfl)
  have C0 := CHr.refl hCH
  show own_GoesH p e below s Z consts_1 (QTJ0 Z de ro cx cv kv cs h0 n0) rRrmTJ0.cells rRrmTJ0.slots s₁ (entryFrame m #[(.ref de)] 1)
  rw [ef_rmTJ0 m de]
  show own_GoesH p e below s Z consts_1 (QTJ0 Z de ro cx cv kv cs h0 n0) rRrmTJ0.cells rRrmTJ0.slots s₁ (mkF m 0 #[rv de] [])
  refine own_stH (fun _ kk_ => XS.aloadN X0.here hx rfl (hb hby d4_0) rfl rfl kk_) ?_
  show own_GoesH _ _ _ _ _ _ _ _ _ s₁ (mkF m 1 #[rv de] [(.ref de)])
  obtain ⟨T1, X1, e1, st1⟩ := getF X0 hx hZ hown (host := "") (Or.inl (own_w hw 14 rfl)) Via.refl e0 p_1 (g := (mkF m 1 #[rv de] [(.ref de)])) rfl rfl (hb hby d4_1)
  refine own_stH st1 ?_
  show own_GoesH _ _ _ _ _ _ _ _ _ T1 (mkF m 4 #[rv de] [(.int (0 : Int32))])
  refine own_stH (fun _ kk_ => XS.ifYes X1.here hx rfl (pc0 := 4) (pc' := 10) rfl (hb hby d4_4) rfl (XT.i0_eq_t (by decide)) (by decide) (by decide) kk_) ?_
  show own_GoesH _ _ _ _ _ _ _ _ _ T1 (mkF m 10 #[rv de] [])
  obtain ⟨T2, h2, X2, e2, E2, A2, D2, -, st2⟩ := newO X1 hx hZ hown (own_w hw 41 rfl) (own_w hw 42 rfl) (own_w hw 43 rfl) e1 (g := (mkF m 10 #[rv de] [])) rfl (hb hby d4_10) (by decide) (by decide)
  obtain ⟨b2, gx2⟩ : ∃ z, z = h0.size := ⟨_, rfl⟩
  rw [← gx2] at A2 D2 st2
  have ne2_de : de ≠ b2 := Nat.ne_of_lt (Nat.lt_of_lt_of_eq p_0.lt gx2.symm)
  have ne2_ro : ro ≠ b2 := Nat.ne_of_lt (Nat.lt_of_lt_of_eq p_3.lt gx2.symm)
  have ne2_cx : cx ≠ b2 := Nat.ne_of_lt (Nat.lt_of_lt_of_eq p_5.lt gx2.symm)
  have ne2_cv : cv ≠ b2 := Nat.ne_of_lt (Nat.lt_of_lt_of_eq p_8.lt gx2.symm)
  have gg2 : n0 ≤ b2 := Nat.le_trans Z0 (Nat.le_of_eq gx2.symm)
  have sz2 : h0.size ≤ b2 := Nat.le_trans (Keep.refl h0 []).1 (Nat.le_of_eq gx2.symm)
  have f2_0 := p_0.ext E2
  have f2_1 := p_1.ext E2
  have f2_2 := p_2.ext E2
  have f2_3 := p_3.ext E2
  have f2_4 := p_4.ext E2
  have f2_5 := p_5.ext E2
  have f2_6 := p_6.ext E2
  have f2_7 := p_7.ext E2
  have f2_8 := p_8.ext E2
  have f2_9 := p_9.ext E2
  have C2 := C0.trans (CHr.ext E2 C0.1)
  have Zs2 : n0 ≤ h2.size := Nat.le_trans Z0 E2.1
  have K2 := (Keep.refl h0 []).ext E2
  have Ks2 := Nat.le_trans Z0 E2.1
  have fn2_value : Fld Z h2 b2 "java/lang/AbstractStringBuilder" "value" "[B" .null := D2 (Or.inl (own_w hw 56 rfl)) (ty := (.array .byte)) (by decide)
  have fn2_coder : Fld Z h2 b2 "java/lang/AbstractStringBuilder" "coder" "B" (.int (0 : Int32)) := D2 (Or.inl (own_w hw 58 rfl)) (ty := .byte) (by decide)
  have fn2_count : Fld Z h2 b2 "java/lang/AbstractStringBuilder" "count" "I" (.int (0 : Int32)) := D2 (Or.inl (own_w hw 84 rfl)) (ty := .int) (by decide)
  refine own_stH st2 ?_
  show own_GoesH _ _ _ _ _ _ _ _ _ T2 (mkF m 13 #[rv de] [(.ref b2)])
  refine own_stH (fun _ kk_ => XS.dup X2.here hx rfl (hb hby d4_13) rfl rfl kk_) ?_
  show own_GoesH _ _ _ _ _ _ _ _ _ T2 (mkF m 14 #[rv de] [(.ref b2), (.ref b2)])
  obtain ⟨_, _, ⟨T3, L3, k3, n3⟩, -, X3, ⟨Lc3, hQ3, l3, y3, z3⟩, st3⟩ := X2.specialBack hx (y := yy7) rfl hown (mvT hZ (own_w hw 44 rfl)) (mvT hZ (own_w hw 45 rfl)) (mvT hZ (own_w hw 46 rfl)) (by decide) (backOf (W := 1) (rm6 l Z a0 hw [] (b2) (cs) h2 n0 Zs2 A2 fn2_value fn2_coder fn2_count gg2 f2_9 (by assumption)) hZ (own_w hw 46 rfl) (own_w hw 43 rfl) (by decide) (by decide)) (g := (mkF m 14 #[rv de] [(.ref b2), (.ref b2)])) rfl (by rw [hml]; rfl) (Steps.refl _) (a := b2) (argsL := []) (rest := [(.ref b2)]) (lenOf pd_1 rfl) rfl (by show 2 * 0 + _ ≤ _; exact Nat.le_of_eq rfl) (hb hby d4_14) (fun _ _ => ⟨rfl, e2, (by decide : 1 + 1 ≤ _), (by decide : 4 + 16 ≤ _)⟩)
  dsimp only [Pt.U, Pt.locs, Pt.cells, Pt.slots] at X3 l3 y3 z3 st3 hQ3
  subst l3 y3 z3
  obtain ⟨x3_y, x3_ky, rfl, Nq3, Kq3, u3_0, u3_1, u3_2, u3_3, u3_4, u3_5⟩ := hQ3
  have N3 := Fr.app N0 Nq3
  have f3_0 := f2_0.keep Kq3
  have f3_1 := f2_1.keep Kq3 (ninS ne2_de nin0)
  have f3_2 := f2_2.keep Kq3 (ninS ne2_de nin0)
  have f3_3 := f2_3.keep Kq3
  have f3_4 := f2_4.keep Kq3 (ninS ne2_ro nin0)
  have f3_5 := f2_5.keep Kq3
  have f3_6 := f2_6.keep Kq3 (ninS ne2_cx nin0)
  have f3_7 := f2_7.keep Kq3 (ninS ne2_cx nin0)
  have f3_8 := f2_8.keep Kq3 (ninS ne2_cv nin0)
  have f3_9 := own_Sta_keep f2_9 Kq3 (nsS A2.nostat ns0)
  have f3_10 := A2.keep Kq3
  have C3 := C2.trans (CHr.keep Kq3 (sfS (Safe.exa hZ.alike A2 (by decide) (by decide)) sf0) C2.1)
  have Ks3 := Nat.le_trans Ks2 Kq3.1
  have Zs3 : n0 ≤ T3.heap.size := Nat.le_trans Zs2 Kq3.1
  have K3 := K2.trans Kq3 (allS (Or.inr sz2) all0)
  have ne3_de : de ≠ x3_y := Nat.ne_of_lt (Nat.lt_of_lt_of_le f2_0.lt u3_0)
  have ne3_ro : ro ≠ x3_y := Nat.ne_of_lt (Nat.lt_of_lt_of_le f2_3.lt u3_0)
  have ne3_cx : cx ≠ x3_y := Nat.ne_of_lt (Nat.lt_of_lt_of_le f2_5.lt u3_0)
  have ne3_cv : cv ≠ x3_y := Nat.ne_of_lt (Nat.lt_of_lt_of_le f2_8.lt u3_0)
  have ne3_b2 : b2 ≠ x3_y := Nat.ne_of_lt (Nat.lt_of_lt_of_le A2.lt u3_0)
  have sz3_y : h0.size ≤ x3_y := Nat.le_trans K2.1 u3_0
  have gg3_y : n0 ≤ x3_y := Nat.le_trans Zs2 u3_0
  refine own_stH (fun _ kk_ => st3.trans kk_) ?_
  show own_GoesH _ _ _ _ _ _ _ _ _ T3 (mkF m 17 #[rv de] [(.ref b2)])
  obtain ⟨b4, T4, h4, k4, d4, kc4, X4, e4, E4, hS4, Ka4, hZ, hown, Ex4, Fc4, Fv4, Av4, -, -, hC4, -, hsa4, st4⟩ := ldcCH X3 hx hZ hown (own_w hw 59 rfl) wS rfl hS0 Ks3 hEL (List.mem_of_getElem? (i := 1) rfl) C3.1 (vs := [(.int (123 : Int32)), (.int (34 : Int32)), (.int (100 : Int32)), (.int (101 : Int32)), (.int (99 : Int32)), (.int (105 : Int32)), (.int (115 : Int32)), (.int (105 : Int32)), (.int (111 : Int32)), (.int (110 : Int32)), (.int (34 : Int32)), (.int (58 : Int32)), (.int (102 : Int32)), (.int (97 : Int32)), (.int (108 : Int32)), (.int (115 : Int32)), (.int (101 : Int32)), (.int (44 : Int32)), (.int (34 : Int32)), (.int (99 : Int32)), (.int (111 : Int32)), (.int (110 : Int32)), (.int (116 : Int32)), (.int (101 : Int32)), (.int (120 : Int32)), (.int (116 : Int32)), (.int (34 : Int32)), (.int (58 : Int32)), (.int (123 : Int32)), (.int (34 : Int32)), (.int (114 : Int32)), (.int (101 : Int32)), (.int (97 : Int32)), (.int (115 : Int32)), (.int (111 : Int32)), (.int (110 : Int32)), (.int (34 : Int32)), (.int (58 : Int32)), (.int (34 : Int32))]) (z := (39 : Int32)) ⟨by decide, by decide⟩ (by decide) (by decide) (g := (mkF m 17 #[rv de] [(.ref b2)])) rfl (hb hby d4_17) (n := 156) (by decide) (by decide) (by decide) (by decide)
  have f4_0 := f3_0.ext E4
  have f4_1 := f3_1.ext E4
  have f4_2 := f3_2.ext E4
  have f4_3 := f3_3.ext E4
  have f4_4 := f3_4.ext E4
  have f4_5 := f3_5.ext E4
  have f4_6 := f3_6.ext E4
  have f4_7 := f3_7.ext E4
  have f4_8 := f3_8.ext E4
  have f4_9 := f3_9.ext E4
  have f4_10 := u3_1.ext E4
  have f4_11 := u3_2.ext E4
  have f4_12 := u3_3.ext E4
  have f4_13 := u3_4.ext E4
  have f4_14 := u3_5.ext E4
  have C4 := C3.trans hC4
  have Zs4 : n0 ≤ h4.size := Nat.le_trans Zs3 E4.1
  have K4 := K3.ext E4
  have Ks4 := Nat.le_trans Ks3 E4.1
  have nl4_de := hsa4 de (Safe.exa hZ.alike f4_0 (by decide) (by decide))
  have nl4_ro := hsa4 ro (Safe.exa hZ.alike f4_3 (by decide) (by decide))
  have nl4_b2 := hsa4 b2 (Safe.exa hZ.alike f4_10 (by decide) (by decide))
  refine own_stH st4 ?_
  show own_GoesH _ _ _ _ _ _ _ _ _ T4 (mkF m 19 #[rv de] [(.ref b4), (.ref b2)])
  have Vna : Arv Z h4 d4 kc4 .byte (39 : Int32) own_pre (.int (0 : Int32)) := Av4
  obtain ⟨cq5, kq5, q5a, q5b, q5c⟩ := isOf hZ e4 f4_10
  obtain ⟨_, _, ⟨T5, L5, k5, n5⟩, -, X5, ⟨Lc5, hQ5, l5, y5, z5⟩, st5⟩ := X4.virtualBack hx (y := yy16) (z := yy16) hown (mvT hZ (own_w hw 60 rfl)) (mvT hZ (own_w hw 61 rfl)) (notFace_of_selects (args := #[]) (mvT hZ (own_w hw 63 rfl))) (mvT hZ (own_w hw 63 rfl)) (mvT hZ (own_w hw 62 rfl)) (by decide) (backOf (W := 0) (rmSAp l Z a0 hw [] (b2) (b4) (x3_y) (x3_ky) (own_z16) (d4) (kc4) (own_pre) (cs) h4 n0 Zs4 f4_10 f4_11 f4_12 f4_13 gg2 f4_14 Ex4 Fc4 Fv4 Vna f4_9 (by assumption) nl4_b2.1 nl4_b2.2) hZ (own_w hw 64 rfl) (own_w hw 43 rfl) (by decide) (by decide)) q5a q5c (g := (mkF m 19 #[rv de] [(.ref b4), (.ref b2)])) rfl (by rw [hml]; rfl) (Steps.refl _) (argsL := [(.ref b4)]) (rest := []) (lenOf pd_18 rfl) rfl (by show 2 * 0 + _ ≤ _; exact Nat.le_of_eq rfl) (hb hby d4_19) (fun _ _ => ⟨rfl, e4, (by decide : 4 + 1 ≤ _), (by decide : 180 + 39 ≤ _)⟩)
  dsimp only [Pt.U, Pt.locs, Pt.cells, Pt.slots] at X5 l5 y5 z5 st5 hQ5
  subst l5 y5 z5
  obtain ⟨x5_y, x5_ky, rfl, Nq5, Kq5, u5_0, u5_1, u5_2, u5_3, u5_4, u5_5⟩ := hQ5
  have N5 := Fr.app N3 Nq5
  have f5_0 := f4_0.keep Kq5
  have f5_1 := f4_1.keep Kq5 (ninS ne2_de nin0)
  have f5_2 := f4_2.keep Kq5 (ninS ne2_de nin0)
  have f5_3 := f4_3.keep Kq5
  have f5_4 := f4_4.keep Kq5 (ninS ne2_ro nin0)
  have f5_5 := f4_5.keep Kq5
  have f5_6 := f4_6.keep Kq5 (ninS ne2_cx nin0)
  have f5_7 := f4_7.keep Kq5 (ninS ne2_cx nin0)
  have f5_8 := f4_8.keep Kq5 (ninS ne2_cv nin0)
  have f5_9 := own_Sta_keep f4_9 Kq5 (nsS f4_10.nostat ns0)
  have f5_10 := f4_10.keep Kq5
  have f5_14 := f4_14.keep Kq5 (ninS (Ne.symm ne3_b2) nin0)
  have f5_15 := Ex4.keep Kq5
  have f5_16 := Fc4.keep Kq5 (ninS (Ne.symm nl4_b2.1) nin0)
  have f5_17 := Fv4.keep Kq5 (ninS (Ne.symm nl4_b2.1) nin0)
  have f5_18 := Vna.keep Kq5 (ninS (Ne.symm nl4_b2.2) nin0)
  have C5 := C4.trans (CHr.keep Kq5 (sfS (Safe.exa hZ.alike f4_10 (by decide) (by decide)) sf0) C4.1)
  have Ks5 := Nat.le_trans Ka4 Kq5.1
  have Zs5 : n0 ≤ T5.heap.size := Nat.le_trans Zs4 Kq5.1
  have K5 := K4.trans Kq5 (allS (Or.inr sz2) all0)
  have ne5_de : de ≠ x5_y := Nat.ne_of_lt (Nat.lt_of_lt_of_le f4_0.lt u5_0)
  have ne5_ro : ro ≠ x5_y := Nat.ne_of_lt (Nat.lt_of_lt_of_le f4_3.lt u5_0)
  have ne5_cx : cx ≠ x5_y := Nat.ne_of_lt (Nat.lt_of_lt_of_le f4_5.lt u5_0)
  have ne5_cv : cv ≠ x5_y := Nat.ne_of_lt (Nat.lt_of_lt_of_le f4_8.lt u5_0)
  have ne5_b2 : b2 ≠ x5_y := Nat.ne_of_lt (Nat.lt_of_lt_of_le f4_10.lt u5_0)
  have ne5_x3_y : x3_y ≠ x5_y := Nat.ne_of_lt (Nat.lt_of_lt_of_le f4_14.lt u5_0)
  have ne5_b4 : b4 ≠ x5_y := Nat.ne_of_lt (Nat.lt_of_lt_of_le Ex4.lt u5_0)
  have ne5_d4 : d4 ≠ x5_y := Nat.ne_of_lt (Nat.lt_of_lt_of_le Vna.lt u5_0)
  have sz5_y : h0.size ≤ x5_y := Nat.le_trans K4.1 u5_0
  have gg5_y : n0 ≤ x5_y := Nat.le_trans Zs4 u5_0
  have sfq5_y := Safe.keep (Z := Z) (EL := consts_1) (x := x5_y) Kq5 (sfS (Safe.exa hZ.alike f4_10 (by decide) (by decide)) sf0) C4.1 (Safe.new u5_0)
  refine own_stH (fun _ kk_ => st5.trans kk_) ?_
  show own_GoesH _ _ _ _ _ _ _ _ _ T5 (mkF m 22 #[rv de] [(.ref b2)])
  have Vnb : Arv Z T5.heap x5_y x5_ky .byte (39 : Int32) own_pre (.int (0 : Int32)) := u5_5
  refine own_stH (fun _ kk_ => XS.aloadN X5.here hx rfl (hb hby d4_22) rfl rfl kk_) ?_
  show own_GoesH _ _ _ _ _ _ _ _ _ T5 (mkF m 23 #[rv de] [(.ref de), (.ref b2)])
  obtain ⟨T6, X6, e6, st6⟩ := getF X5 hx hZ hown (host := "") (Or.inl (own_w hw 16 rfl)) Via.refl rfl f5_2 (g := (mkF m 23 #[rv de] [(.ref de), (.ref b2)])) rfl rfl (hb hby d4_23)
  refine own_stH st6 ?_
  show own_GoesH _ _ _ _ _ _ _ _ _ T6 (mkF m 26 #[rv de] [(.ref ro), (.ref b2)])
  obtain ⟨cq7, kq7, q7a, q7b, q7c⟩ := isOf hZ e6 f5_3
  obtain ⟨_, _, ⟨T7, L7, k7, n7⟩, -, X7, ⟨Lc7, hQ7, l7, y7, z7⟩, st7⟩ := X6.virtualBack hx (y := yy27) (z := yy27) hown (mvT hZ (own_w hw 133 rfl)) (mvT hZ (own_w hw 134 rfl)) (notFace_of_selects (args := #[]) (mvT hZ (own_w hw 136 rfl))) (mvT hZ (own_w hw 136 rfl)) (mvT hZ (own_w hw 135 rfl)) (by decide) (backOf (W := 1) (rm21 l Z a0 hw [] (ro) (cx) T5.heap n0 Zs5 f5_3 f5_4) hZ (own_w hw 137 rfl) (own_w hw 38 rfl) (by decide) (by decide)) q7a q7c (g := (mkF m 26 #[rv de] [(.ref ro), (.ref b2)])) rfl (by rw [hml]; rfl) (Steps.refl _) (argsL := []) (rest := [(.ref b2)]) (lenOf pd_19 rfl) rfl (by show 2 * 0 + _ ≤ _; exact Nat.le_of_eq rfl) (hb hby d4_26) (fun _ _ => ⟨rfl, e6, (by decide : 5 + 0 ≤ _), (by decide : 219 + 0 ≤ _)⟩)
  dsimp only [Pt.U, Pt.locs, Pt.cells, Pt.slots] at X7 l7 y7 z7 st7 hQ7
  subst l7 y7 z7
  obtain ⟨rfl, Nq7, eq7⟩ := hQ7
  have N7 := Fr.app N5 Nq7
  refine own_stH (fun _ kk_ => st7.trans kk_) ?_
  show own_GoesH _ _ _ _ _ _ _ _ _ T7 (mkF m 29 #[rv de] [(.ref cx), (.ref b2)])
  obtain ⟨cq8, kq8, q8a, q8b, q8c⟩ := isOf hZ eq7 u5_1
  obtain ⟨_, _, ⟨T8, L8, k8, n8⟩, -, X8, ⟨Lc8, hQ8, l8, y8, z8⟩, st8⟩ := X7.virtualBack hx (y := yy16) (z := yy16) hown (mvT hZ (own_w hw 60 rfl)) (mvT hZ (own_w hw 61 rfl)) (notFace_of_selects (args := #[]) (mvT hZ (own_w hw 63 rfl))) (mvT hZ (own_w hw 63 rfl)) (mvT hZ (own_w hw 62 rfl)) (by decide) (backOf (W := 0) (rmSAc0 l Z a0 hw [] (b2) (cx) (x5_y) (x5_ky) (own_pre) (cv) (kv) (own_cd0) (cs) T5.heap n0 Zs5 u5_1 u5_2 u5_3 u5_4 gg2 Vnb f5_5 f5_6 f5_7 f5_8 f5_9 (by assumption) (Ne.symm ne2_cx) (Ne.symm ne2_cv)) hZ (own_w hw 64 rfl) (own_w hw 43 rfl) (by decide) (by decide)) q8a q8c (g := (mkF m 29 #[rv de] [(.ref cx), (.ref b2)])) rfl (by rw [hml]; rfl) (Steps.refl _) (argsL := [(.ref cx)]) (rest := []) (lenOf pd_18 rfl) rfl (by show 2 * 0 + _ ≤ _; exact Nat.le_of_eq rfl) (hb hby d4_29) (fun _ _ => ⟨rfl, eq7, (by decide : 5 + 1 ≤ _), (by decide : 219 + 80 ≤ _)⟩)
  dsimp only [Pt.U, Pt.locs, Pt.cells, Pt.slots] at X8 l8 y8 z8 st8 hQ8
  subst l8 y8 z8
  obtain ⟨x8_y, x8_ky, rfl, Nq8, Kq8, u8_0, u8_1, u8_2, u8_3, u8_4, u8_5⟩ := hQ8
  have N8 := Fr.app N7 Nq8
  have f8_0 := f5_0.keep Kq8
  have f8_1 := f5_1.keep Kq8 (ninS ne2_de nin0)
  have f8_2 := f5_2.keep Kq8 (ninS ne2_de nin0)
  have f8_3 := f5_3.keep Kq8
  have f8_4 := f5_4.keep Kq8 (ninS ne2_ro nin0)
  have f8_5 := f5_5.keep Kq8
  have f8_6 := f5_6.keep Kq8 (ninS ne2_cx nin0)
  have f8_7 := f5_7.keep Kq8 (ninS ne2_cx nin0)
  have f8_8 := f5_8.keep Kq8 (ninS ne2_cv nin0)
  have f8_9 := own_Sta_keep f5_9 Kq8 (nsS u5_1.nostat ns0)
  have f8_10 := u5_1.keep Kq8
  have f8_11 := f5_14.keep Kq8 (ninS (Ne.symm ne3_b2) nin0)
  have f8_12 := f5_15.keep Kq8
  have f8_13 := f5_16.keep Kq8 (ninS (Ne.symm nl4_b2.1) nin0)
  have f8_14 := f5_17.keep Kq8 (ninS (Ne.symm nl4_b2.1) nin0)
  have f8_15 := f5_18.keep Kq8 (ninS (Ne.symm nl4_b2.2) nin0)
  have f8_16 := Safe.keep Kq8 (sfS (Safe.exa hZ.alike u5_1 (by decide) (by decide)) sf0) C5.1 sfq5_y
  have f8_20 := Vnb.keep Kq8 (ninS (Ne.symm ne5_b2) nin0)
  have C8 := C5.trans (CHr.keep Kq8 (sfS (Safe.exa hZ.alike u5_1 (by decide) (by decide)) sf0) C5.1)
  have Ks8 := Nat.le_trans Ks5 Kq8.1
  have Zs8 : n0 ≤ T8.heap.size := Nat.le_trans Zs5 Kq8.1
  have K8 := K5.trans Kq8 (allS (Or.inr sz2) all0)
  have ne8_de : de ≠ x8_y := Nat.ne_of_lt (Nat.lt_of_lt_of_le f5_0.lt u8_0)
  have ne8_ro : ro ≠ x8_y := Nat.ne_of_lt (Nat.lt_of_lt_of_le f5_3.lt u8_0)
  have ne8_cx : cx ≠ x8_y := Nat.ne_of_lt (Nat.lt_of_lt_of_le f5_5.lt u8_0)
  have ne8_cv : cv ≠ x8_y := Nat.ne_of_lt (Nat.lt_of_lt_of_le f5_8.lt u8_0)
  have ne8_b2 : b2 ≠ x8_y := Nat.ne_of_lt (Nat.lt_of_lt_of_le u5_1.lt u8_0)
  have ne8_x3_y : x3_y ≠ x8_y := Nat.ne_of_lt (Nat.lt_of_lt_of_le f5_14.lt u8_0)
  have ne8_b4 : b4 ≠ x8_y := Nat.ne_of_lt (Nat.lt_of_lt_of_le f5_15.lt u8_0)
  have ne8_d4 : d4 ≠ x8_y := Nat.ne_of_lt (Nat.lt_of_lt_of_le f5_18.lt u8_0)
  have ne8_x5_y : x5_y ≠ x8_y := Nat.ne_of_lt (Nat.lt_of_lt_of_le Vnb.lt u8_0)
  have sz8_y : h0.size ≤ x8_y := Nat.le_trans K5.1 u8_0
  have gg8_y : n0 ≤ x8_y := Nat.le_trans Zs5 u8_0
  have sfq8_y := Safe.keep (Z := Z) (EL := consts_1) (x := x8_y) Kq8 (sfS (Safe.exa hZ.alike u5_1 (by decide) (by decide)) sf0) C5.1 (Safe.new u8_0)
  refine own_stH (fun _ kk_ => st8.trans kk_) ?_
  show own_GoesH _ _ _ _ _ _ _ _ _ T8 (mkF m 32 #[rv de] [(.ref b2)])
  obtain ⟨b9, T9, h9, k9, d9, kc9, X9, e9, E9, hS9, Ka9, hZ, hown, Ex9, Fc9, Fv9, Av9, -, -, hC9, -, hsa9, st9⟩ := ldcCH X8 hx hZ hown (own_w hw 140 rfl) wS rfl hS4 Ks8 hEL (List.mem_of_getElem? (i := 2) rfl) C8.1 (vs := [(.int (34 : Int32)), (.int (125 : Int32)), (.int (125 : Int32))]) (z := (3 : Int32)) ⟨by decide, by decide⟩ (by decide) (by decide) (g := (mkF m 32 #[rv de] [(.ref b2)])) rfl (hb hby d4_32) (n := 12) (by decide) (by decide) (by decide) (by decide)
  have f9_0 := f8_0.ext E9
  have f9_1 := f8_1.ext E9
  have f9_2 := f8_2.ext E9
  have f9_3 := f8_3.ext E9
  have f9_4 := f8_4.ext E9
  have f9_5 := f8_5.ext E9
  have f9_6 := f8_6.ext E9
  have f9_7 := f8_7.ext E9
  have f9_8 := f8_8.ext E9
  have f9_9 := f8_9.ext E9
  have f9_10 := u8_1.ext E9
  have f9_11 := f8_11.ext E9
  have f9_12 := f8_12.ext E9
  have f9_13 := f8_13.ext E9
  have f9_14 := f8_14.ext E9
  have f9_15 := f8_15.ext E9
  have f9_16 := CHr.safe hC9 f8_20.lt f8_16
  have f9_17 := f8_20.ext E9
  have f9_18 := CHr.safe hC9 u8_5.lt sfq8_y
  have f9_19 := u8_2.ext E9
  have f9_20 := u8_3.ext E9
  have f9_21 := u8_4.ext E9
  have f9_22 := u8_5.ext E9
  have C9 := C8.trans hC9
  have Zs9 : n0 ≤ h9.size := Nat.le_trans Zs8 E9.1
  have K9 := K8.ext E9
  have Ks9 := Nat.le_trans Ks8 E9.1
  have nl9_de := hsa9 de (Safe.exa hZ.alike f9_0 (by decide) (by decide))
  have nl9_ro := hsa9 ro (Safe.exa hZ.alike f9_3 (by decide) (by decide))
  have nl9_b2 := hsa9 b2 (Safe.exa hZ.alike f9_10 (by decide) (by decide))
  have nl9_x5_y := hsa9 x5_y f9_16
  have nl9_x8_y := hsa9 x8_y f9_18
  refine own_stH st9 ?_
  show own_GoesH _ _ _ _ _ _ _ _ _ T9 (mkF m 34 #[rv de] [(.ref b9), (.ref b2)])
  have Vnc : Arv Z h9 d9 kc9 .byte (3 : Int32) own_suf (.int (0 : Int32)) := Av9
  obtain ⟨cq10, kq10, q10a, q10b, q10c⟩ := isOf hZ e9 f9_10
  obtain ⟨_, _, ⟨T10, L10, k10, n10⟩, -, X10, ⟨Lc10, hQ10, l10, y10, z10⟩, st10⟩ := X9.virtualBack hx (y := yy16) (z := yy16) hown (mvT hZ (own_w hw 60 rfl)) (mvT hZ (own_w hw 61 rfl)) (notFace_of_selects (args := #[]) (mvT hZ (own_w hw 63 rfl))) (mvT hZ (own_w hw 63 rfl)) (mvT hZ (own_w hw 62 rfl)) (by decide) (backOf (W := 0) (rmSAs0 l Z a0 hw [] (b2) (b9) (x8_y) (x8_ky) ((own_cp own_cd0 (own_cp own_pre own_z80 (0 : Int32) (0 : Int32) (39 : Int32) (.int (0 : Int32))) (0 : Int32) (39 : Int32) (13 : Int32) (.int (0 : Int32)))) (d9) (kc9) (own_suf) (cs) h9 n0 Zs9 f9_10 f9_19 f9_20 f9_21 gg2 f9_22 Ex9 Fc9 Fv9 Vnc f9_9 (by assumption) nl9_b2.1 nl9_b2.2 gg8_y ne8_b2 (Nat.le_of_ble_eq_true rfl)) hZ (own_w hw 64 rfl) (own_w hw 43 rfl) (by decide) (by decide)) q10a q10c (g := (mkF m 34 #[rv de] [(.ref b9), (.ref b2)])) rfl (by rw [hml]; rfl) (Steps.refl _) (argsL := [(.ref b9)]) (rest := []) (lenOf pd_18 rfl) rfl (by show 2 * 0 + _ ≤ _; exact Nat.le_of_eq rfl) (hb hby d4_34) (fun _ _ => ⟨rfl, e9, (by decide : 8 + 0 ≤ _), (by decide : 315 + 0 ≤ _)⟩)
  dsimp only [Pt.U, Pt.locs, Pt.cells, Pt.slots] at X10 l10 y10 z10 st10 hQ10
  subst l10 y10 z10
  obtain ⟨rfl, Nq10, Kq10, u10_0, u10_1, u10_2, u10_3, u10_4⟩ := hQ10
  have N10 := Fr.app N8 Nq10
  have f10_0 := f9_0.keep Kq10
  have f10_1 := f9_1.keep Kq10 (ninS ne2_de (ninS ne8_de nin0))
  have f10_2 := f9_2.keep Kq10 (ninS ne2_de (ninS ne8_de nin0))
  have f10_3 := f9_3.keep Kq10
  have f10_4 := f9_4.keep Kq10 (ninS ne2_ro (ninS ne8_ro nin0))
  have f10_5 := f9_5.keep Kq10
  have f10_6 := f9_6.keep Kq10 (ninS ne2_cx (ninS ne8_cx nin0))
  have f10_7 := f9_7.keep Kq10 (ninS ne2_cx (ninS ne8_cx nin0))
  have f10_8 := f9_8.keep Kq10 (ninS ne2_cv (ninS ne8_cv nin0))
  have f10_9 := own_Sta_keep f9_9 Kq10 (nsS f9_10.nostat (nsS f9_22.nostat ns0))
  have f10_10 := f9_10.keep Kq10
  have f10_11 := f9_11.keep Kq10 (ninS (Ne.symm ne3_b2) (ninS ne8_x3_y nin0))
  have f10_12 := f9_12.keep Kq10
  have f10_13 := f9_13.keep Kq10 (ninS (Ne.symm nl4_b2.1) (ninS ne8_b4 nin0))
  have f10_14 := f9_14.keep Kq10 (ninS (Ne.symm nl4_b2.1) (ninS ne8_b4 nin0))
  have f10_15 := f9_15.keep Kq10 (ninS (Ne.symm nl4_b2.2) (ninS ne8_d4 nin0))
  have f10_16 := Safe.keep Kq10 (sfS (Safe.exa hZ.alike f9_10 (by decide) (by decide)) (sfS f9_18 sf0)) C9.1 f9_16
  have f10_17 := f9_17.keep Kq10 (ninS (Ne.symm ne5_b2) (ninS ne8_x5_y nin0))
  have f10_18 := Safe.keep Kq10 (sfS (Safe.exa hZ.alike f9_10 (by decide) (by decide)) (sfS f9_18 sf0)) C9.1 f9_18
  have f10_23 := Ex9.keep Kq10
  have f10_24 := Fc9.keep Kq10 (ninS (Ne.symm nl9_b2.1) (ninS (Ne.symm nl9_x8_y.1) nin0))
  have f10_25 := Fv9.keep Kq10 (ninS (Ne.symm nl9_b2.1) (ninS (Ne.symm nl9_x8_y.1) nin0))
  have f10_26 := Vnc.keep Kq10 (ninS (Ne.symm nl9_b2.2) (ninS (Ne.symm nl9_x8_y.2) nin0))
  have C10 := C9.trans (CHr.keep Kq10 (sfS (Safe.exa hZ.alike f9_10 (by decide) (by decide)) (sfS f9_18 sf0)) C9.1)
  have Ks10 := Nat.le_trans Ka9 Kq10.1
  have Zs10 : n0 ≤ T10.heap.size := Nat.le_trans Zs9 Kq10.1
  have K10 := K9.trans Kq10 (allS (Or.inr sz2) (allS (Or.inr sz8_y) all0))
  refine own_stH (fun _ kk_ => st10.trans kk_) ?_
  show own_GoesH _ _ _ _ _ _ _ _ _ T10 (mkF m 37 #[rv de] [(.ref b2)])
  obtain ⟨cq11, kq11, q11a, q11b, q11c⟩ := isOf hZ rfl u10_0
  obtain ⟨_, _, ⟨T11, L11, k11, n11⟩, -, X11, ⟨Lc11, hQ11, l11, y11, z11⟩, st11⟩ := X10.virtualBack hx (y := yy26) (z := yy26) hown (mvT hZ (own_w hw 141 rfl)) (mvT hZ (own_w hw 142 rfl)) (notFace_of_selects (args := #[]) (mvT hZ (own_w hw 144 rfl))) (mvT hZ (own_w hw 144 rfl)) (mvT hZ (own_w hw 143 rfl)) (by decide) (backOf (W := 0) (rmTSt0 l Z a0 hw [] (b2) (x8_y) (x8_ky) ((own_cp own_suf (own_cp own_cd0 (own_cp own_pre own_z80 (0 : Int32) (0 : Int32) (39 : Int32) (.int (0 : Int32))) (0 : Int32) (39 : Int32) (13 : Int32) (.int (0 : Int32))) (0 : Int32) (52 : Int32) (3 : Int32) (.int (0 : Int32)))) (cs) T10.heap n0 Zs10 u10_0 u10_1 u10_2 u10_3 u10_4 f10_9 (by assumption)) hZ (own_w hw 145 rfl) (own_w hw 43 rfl) (by decide) (by decide)) q11a q11c (g := (mkF m 37 #[rv de] [(.ref b2)])) rfl (by rw [hml]; rfl) (Steps.refl _) (argsL := []) (rest := []) (lenOf pd_19 rfl) rfl (by show 2 * 0 + _ ≤ _; exact Nat.le_of_eq rfl) (hb hby d4_37) (fun _ _ => ⟨rfl, rfl, (by decide : 8 + 2 ≤ _), (by decide : 315 + 59 ≤ _)⟩)
  dsimp only [Pt.U, Pt.locs, Pt.cells, Pt.slots] at X11 l11 y11 z11 st11 hQ11
  subst l11 y11 z11
  obtain ⟨x11_s9, x11_y, x11_ky, rfl, Nq11, Kq11, u11_0, u11_1, u11_2, u11_3, u11_4⟩ := hQ11
  have N11 := Fr.app N10 Nq11
  have f11_0 := f10_0.keep Kq11
  have f11_1 := f10_1.keep Kq11 nin0
  have f11_2 := f10_2.keep Kq11 nin0
  have f11_3 := f10_3.keep Kq11
  have f11_4 := f10_4.keep Kq11 nin0
  have f11_5 := f10_5.keep Kq11
  have f11_6 := f10_6.keep Kq11 nin0
  have f11_7 := f10_7.keep Kq11 nin0
  have f11_8 := f10_8.keep Kq11 nin0
  have f11_9 := own_Sta_keep f10_9 Kq11 ns0
  have f11_10 := u10_0.keep Kq11
  have f11_11 := f10_11.keep Kq11 nin0
  have f11_12 := f10_12.keep Kq11
  have f11_13 := f10_13.keep Kq11 nin0
  have f11_14 := f10_14.keep Kq11 nin0
  have f11_15 := f10_15.keep Kq11 nin0
  have f11_16 := Safe.keep Kq11 sf0 C10.1 f10_16
  have f11_17 := f10_17.keep Kq11 nin0
  have f11_18 := Safe.keep Kq11 sf0 C10.1 f10_18
  have f11_19 := f10_23.keep Kq11
  have f11_20 := f10_24.keep Kq11 nin0
  have f11_21 := f10_25.keep Kq11 nin0
  have f11_22 := f10_26.keep Kq11 nin0
  have f11_23 := u10_1.keep Kq11 nin0
  have f11_24 := u10_2.keep Kq11 nin0
  have f11_25 := u10_3.keep Kq11 nin0
  have f11_26 := u10_4.keep Kq11 nin0
  have C11 := C10.trans (CHr.keep Kq11 sf0 C10.1)
  have Ks11 := Nat.le_trans Ks10 Kq11.1
  have Zs11 : n0 ≤ T11.heap.size := Nat.le_trans Zs10 Kq11.1
  have K11 := K10.trans Kq11 all0
  have ne11_de : de ≠ x11_s9 := Nat.ne_of_lt (Nat.lt_of_lt_of_le f10_0.lt u11_0)
  have ne11_ro : ro ≠ x11_s9 := Nat.ne_of_lt (Nat.lt_of_lt_of_le f10_3.lt u11_0)
  have ne11_cx : cx ≠ x11_s9 := Nat.ne_of_lt (Nat.lt_of_lt_of_le f10_5.lt u11_0)
  have ne11_cv : cv ≠ x11_s9 := Nat.ne_of_lt (Nat.lt_of_lt_of_le f10_8.lt u11_0)
  have ne11_b2 : b2 ≠ x11_s9 := Nat.ne_of_lt (Nat.lt_of_lt_of_le u10_0.lt u11_0)
  have ne11_x3_y : x3_y ≠ x11_s9 := Nat.ne_of_lt (Nat.lt_of_lt_of_le f10_11.lt u11_0)
  have ne11_b4 : b4 ≠ x11_s9 := Nat.ne_of_lt (Nat.lt_of_lt_of_le f10_12.lt u11_0)
  have ne11_d4 : d4 ≠ x11_s9 := Nat.ne_of_lt (Nat.lt_of_lt_of_le f10_15.lt u11_0)
  have ne11_x5_y : x5_y ≠ x11_s9 := Nat.ne_of_lt (Nat.lt_of_lt_of_le f10_17.lt u11_0)
  have ne11_b9 : b9 ≠ x11_s9 := Nat.ne_of_lt (Nat.lt_of_lt_of_le f10_23.lt u11_0)
  have ne11_d9 : d9 ≠ x11_s9 := Nat.ne_of_lt (Nat.lt_of_lt_of_le f10_26.lt u11_0)
  have ne11_x8_y : x8_y ≠ x11_s9 := Nat.ne_of_lt (Nat.lt_of_lt_of_le u10_4.lt u11_0)
  have sz11_s9 : h0.size ≤ x11_s9 := Nat.le_trans K10.1 u11_0
  have gg11_s9 : n0 ≤ x11_s9 := Nat.le_trans Zs10 u11_0
  refine own_stH (fun _ kk_ => st11.trans kk_) ?_
  show own_GoesH _ _ _ _ _ _ _ _ _ T11 (mkF m 40 #[rv de] [(.ref x11_s9)])
  have Vnd : Arv Z T11.heap x11_y x11_ky .byte (55 : Int32) own_x0 (.int (0 : Int32)) := u11_4
  refine own_endH (v := (some (.ref x11_s9))) X11 hlk hS9 Ks11 hZ hEL hh rfl C11 (fun h => by rw [Bd.returns] at h; cases h) (by decide) (by decide) ?_ (fun fs hr => retOut X11 hx Bd.returns (own_narR rfl) (Or.inr (Or.inr (Or.inr (Or.inr ⟨rfl, rfl, rfl⟩)))) (hb hby d4_40) hr)
  show QTJ0 Z de ro cx cv kv cs h0 n0 (some (.ref x11_s9)) T11.heap _
  exact ⟨x11_s9, x11_y, x11_ky, rfl, N11, K11, u11_1, u11_2, u11_3, Vnd⟩
abbrev rRrmTJ1 : Room := { frames := 6, cells := 10, slots := 379, locals := 91 }
theorem pn_rmTJ1 : plainFor yy28 = true := by first | exact plainFor_of_name (by first | (simp [plainName, overriddenIn]; done) | decide +kernel) | decide +kernel
theorem ef_rmTJ1 (m : MethodId) (de : Addr) : entryFrame m #[(.ref de)] 1 = (mkF m 0 #[rv de] []) := by first | (simp [entryFrame, mkF, argsToLocals, Value.category]; done) | rfl
def QTJ1 (Z : State) (de : Addr) (ro : Addr) (cx : Addr) (cv : Addr) (kv : ClassId) (cs : Int32) (h0 : Heap) (n0 : Nat) (v_ : Option Value) (h_ : Heap) (L_ : List Loc) : Prop := ∃ y : Addr, ∃ dy : Addr, ∃ ky : ClassId, (v_ = some (.ref y)) ∧ (Fr n0 L_) ∧ (Keep h0 h_ []) ∧ (Exa Z h_ y "java/lang/String") ∧ (Fld Z h_ y "java/lang/String" "coder" "B" (.int (0 : Int32))) ∧ (Fld Z h_ y "java/lang/String" "value" "[B" (.ref dy)) ∧ (Arv Z h_ dy ky .byte (60 : Int32) own_x1 (.int (0 : Int32)))
set_option maxRecDepth 65536 in
set_option maxHeartbeats 40000000 in
theorem rmTJ1 (l : Launch) (Z : State) (a0 : Array Value) (hw : ∀ d ∈ tables_1, d.before a0 Z = true) (ws : List Jvm.Cond) (hEL : EW Z a0 consts_1) (de : Addr) (ro : Addr) (cx : Addr) (cv : Addr) (kv : ClassId) (cs : Int32) (h0 : Heap) (n0 : Nat) (Z0 : n0 ≤ h0.size) (p_0 : Exa Z h0 de "com/example/firm_duties/firmduties/Decision") (p_1 : Fld Z h0 de "com/example/firm_duties/firmduties/Decision" "granted" "Z" (.int (0 : Int32))) (p_2 : Fld Z h0 de "com/example/firm_duties/firmduties/Decision" "reason" "Lcom/example/firm_duties/firmduties/Decision$Reason;" (.ref ro)) (p_3 : Exa Z h0 ro "com/example/firm_duties/firmduties/Decision$Reason") (p_4 : Fld Z h0 ro "com/example/firm_duties/firmduties/Decision$Reason" "code" "Ljava/lang/String;" (.ref cx)) (p_5 : Exa Z h0 cx "java/lang/String") (p_6 : Fld Z h0 cx "java/lang/String" "coder" "B" (.int (0 : Int32))) (p_7 : Fld Z h0 cx "java/lang/String" "value" "[B" (.ref cv)) (p_8 : Arv Z h0 cv kv .byte (18 : Int32) own_cd1 (.int (0 : Int32))) (p_9 : Sta Z h0 "java/lang/String" "COMPACT_STRINGS" "Z" (.int cs)) (hcs : ¬ cs = (0 : Int32)) :
    MetFree l yy28 (head1 (Jvm.Cond.code yy28 prog_4_method_3_code 1 (some (.object "java/lang/String")) :: ws) rRrmTJ1) (fun a_ U_ => a_ = #[(.ref de)] ∧ Z.Warmed39 U_.vm ∧ U_.heap = h0 ∧ CHv Z consts_1 U_.vm h0 ∧ ∀ x_ ∈ ([] : List Addr), Safe Z consts_1 U_.vm h0 x_) (fun _ _ _ _ _ => True) (fun _ U_ o_ U1_ => ∃ v_ L_, o_ = .returned v_ ∧ QTJ1 Z de ro cx cv kv cs h0 n0 v_ U1_.heap L_ ∧ CHr Z consts_1 U_.vm U_.heap U1_.vm U1_.heap ∧ ReturnedEndW U_ o_ U1_ L_ rRrmTJ1.cells rRrmTJ1.slots) := by
  refine MetFree.of_bodySF pn_rmTJ1 hisR ?_
  intro p e s m args below meth c s₁ Bd hml0 hP hK
  obtain ⟨rfl, hZ, hh, hCH, hSf⟩ := hP
  have hx := Bd.exec
  have hby := Bd.bytes
  have hlk : meth.locks = false := Bd.notSynchronized
  have hml : c.maxLocals = 1 := hml0
  have hown : s.vm.findClass "com/example/firm_duties/firmduties/Decision" = some m.cls := findClass_of_methodNamed Bd.named
  have hnm := (name_of_methodNamed Bd.named Bd.method).1
  have X0 : Stand p l e rRrmTJ1 (s.setVm s.vm) m #[(.ref de)] below meth c s₁ [] 0 0 := Stand.of_body Bd
  have e0 : s₁.heap = h0 := by rw [← hh, Bd.state]; rfl
  have N0 := Fr.nil n0
  have hS0 : s.Since s.vm n0 := (State.WarmedH.refl s).since n0
  have wS : ∀ d ∈ Bundle.stringAtoms, d.before a0 Z = true := by
    intro d hd
    simp only [Bundle.stringAtoms, List.mem_cons, List.not_mem_nil, or_false] at hd
    rcases hd with rfl | rfl | rfl | rfl | rfl | rfl | rfl
    · exact (own_w hw 19 rfl)
    · exact (own_w hw 20 rfl)
    · exact (own_w hw 21 rfl)
    · exact (own_w hw 22 rfl)
    · exact (own_w hw 23 rfl)
    · exact (own_w hw 24 rfl)
    · exact (own_w hw 25 rfl)
  have C0 := CHr.refl hCH
  show own_GoesH p e below s Z consts_1 (QTJ1 Z de ro cx cv kv cs h0 n0) rRrmTJ1.cells rRrmTJ1.slots s₁ (entryFrame m #[(.ref de)] 1)
  rw [ef_rmTJ1 m de]
  show own_GoesH p e below s Z consts_1 (QTJ1 Z de ro cx cv kv cs h0 n0) rRrmTJ1.cells rRrmTJ1.slots s₁ (mkF m 0 #[rv de] [])
  refine own_stH (fun _ kk_ => XS.aloadN X0.here hx rfl (hb hby d4_0) rfl rfl kk_) ?_
  show own_GoesH _ _ _ _ _ _ _ _ _ s₁ (mkF m 1 #[rv de] [(.ref de)])
  obtain ⟨T1, X1, e1, st1⟩ := getF X0 hx hZ hown (host := "") (Or.inl (own_w hw 14 rfl)) Via.refl e0 p_1 (g := (mkF m 1 #[rv de] [(.ref de)])) rfl rfl (hb hby d4_1)
  refine own_stH st1 ?_
  show own_GoesH _ _ _ _ _ _ _ _ _ T1 (mkF m 4 #[rv de] [(.int (0 : Int32))])
  refine own_stH (fun _ kk_ => XS.ifYes X1.here hx rfl (pc0 := 4) (pc' := 10) rfl (hb hby d4_4) rfl (XT.i0_eq_t (by decide)) (by decide) (by decide) kk_) ?_
  show own_GoesH _ _ _ _ _ _ _ _ _ T1 (mkF m 10 #[rv de] [])
  obtain ⟨T2, h2, X2, e2, E2, A2, D2, -, st2⟩ := newO X1 hx hZ hown (own_w hw 41 rfl) (own_w hw 42 rfl) (own_w hw 43 rfl) e1 (g := (mkF m 10 #[rv de] [])) rfl (hb hby d4_10) (by decide) (by decide)
  obtain ⟨b2, gx2⟩ : ∃ z, z = h0.size := ⟨_, rfl⟩
  rw [← gx2] at A2 D2 st2
  have ne2_de : de ≠ b2 := Nat.ne_of_lt (Nat.lt_of_lt_of_eq p_0.lt gx2.symm)
  have ne2_ro : ro ≠ b2 := Nat.ne_of_lt (Nat.lt_of_lt_of_eq p_3.lt gx2.symm)
  have ne2_cx : cx ≠ b2 := Nat.ne_of_lt (Nat.lt_of_lt_of_eq p_5.lt gx2.symm)
  have ne2_cv : cv ≠ b2 := Nat.ne_of_lt (Nat.lt_of_lt_of_eq p_8.lt gx2.symm)
  have gg2 : n0 ≤ b2 := Nat.le_trans Z0 (Nat.le_of_eq gx2.symm)
  have sz2 : h0.size ≤ b2 := Nat.le_trans (Keep.refl h0 []).1 (Nat.le_of_eq gx2.symm)
  have f2_0 := p_0.ext E2
  have f2_1 := p_1.ext E2
  have f2_2 := p_2.ext E2
  have f2_3 := p_3.ext E2
  have f2_4 := p_4.ext E2
  have f2_5 := p_5.ext E2
  have f2_6 := p_6.ext E2
  have f2_7 := p_7.ext E2
  have f2_8 := p_8.ext E2
  have f2_9 := p_9.ext E2
  have C2 := C0.trans (CHr.ext E2 C0.1)
  have Zs2 : n0 ≤ h2.size := Nat.le_trans Z0 E2.1
  have K2 := (Keep.refl h0 []).ext E2
  have Ks2 := Nat.le_trans Z0 E2.1
  have fn2_value : Fld Z h2 b2 "java/lang/AbstractStringBuilder" "value" "[B" .null := D2 (Or.inl (own_w hw 56 rfl)) (ty := (.array .byte)) (by decide)
  have fn2_coder : Fld Z h2 b2 "java/lang/AbstractStringBuilder" "coder" "B" (.int (0 : Int32)) := D2 (Or.inl (own_w hw 58 rfl)) (ty := .byte) (by decide)
  have fn2_count : Fld Z h2 b2 "java/lang/AbstractStringBuilder" "count" "I" (.int (0 : Int32)) := D2 (Or.inl (own_w hw 84 rfl)) (ty := .int) (by decide)
  refine own_stH st2 ?_
  show own_GoesH _ _ _ _ _ _ _ _ _ T2 (mkF m 13 #[rv de] [(.ref b2)])
  refine own_stH (fun _ kk_ => XS.dup X2.here hx rfl (hb hby d4_13) rfl rfl kk_) ?_
  show own_GoesH _ _ _ _ _ _ _ _ _ T2 (mkF m 14 #[rv de] [(.ref b2), (.ref b2)])
  obtain ⟨_, _, ⟨T3, L3, k3, n3⟩, -, X3, ⟨Lc3, hQ3, l3, y3, z3⟩, st3⟩ := X2.specialBack hx (y := yy7) rfl hown (mvT hZ (own_w hw 44 rfl)) (mvT hZ (own_w hw 45 rfl)) (mvT hZ (own_w hw 46 rfl)) (by decide) (backOf (W := 1) (rm6 l Z a0 hw [] (b2) (cs) h2 n0 Zs2 A2 fn2_value fn2_coder fn2_count gg2 f2_9 (by assumption)) hZ (own_w hw 46 rfl) (own_w hw 43 rfl) (by decide) (by decide)) (g := (mkF m 14 #[rv de] [(.ref b2), (.ref b2)])) rfl (by rw [hml]; rfl) (Steps.refl _) (a := b2) (argsL := []) (rest := [(.ref b2)]) (lenOf pd_1 rfl) rfl (by show 2 * 0 + _ ≤ _; exact Nat.le_of_eq rfl) (hb hby d4_14) (fun _ _ => ⟨rfl, e2, (by decide : 1 + 1 ≤ _), (by decide : 4 + 16 ≤ _)⟩)
  dsimp only [Pt.U, Pt.locs, Pt.cells, Pt.slots] at X3 l3 y3 z3 st3 hQ3
  subst l3 y3 z3
  obtain ⟨x3_y, x3_ky, rfl, Nq3, Kq3, u3_0, u3_1, u3_2, u3_3, u3_4, u3_5⟩ := hQ3
  have N3 := Fr.app N0 Nq3
  have f3_0 := f2_0.keep Kq3
  have f3_1 := f2_1.keep Kq3 (ninS ne2_de nin0)
  have f3_2 := f2_2.keep Kq3 (ninS ne2_de nin0)
  have f3_3 := f2_3.keep Kq3
  have f3_4 := f2_4.keep Kq3 (ninS ne2_ro nin0)
  have f3_5 := f2_5.keep Kq3
  have f3_6 := f2_6.keep Kq3 (ninS ne2_cx nin0)
  have f3_7 := f2_7.keep Kq3 (ninS ne2_cx nin0)
  have f3_8 := f2_8.keep Kq3 (ninS ne2_cv nin0)
  have f3_9 := own_Sta_keep f2_9 Kq3 (nsS A2.nostat ns0)
  have f3_10 := A2.keep Kq3
  have C3 := C2.trans (CHr.keep Kq3 (sfS (Safe.exa hZ.alike A2 (by decide) (by decide)) sf0) C2.1)
  have Ks3 := Nat.le_trans Ks2 Kq3.1
  have Zs3 : n0 ≤ T3.heap.size := Nat.le_trans Zs2 Kq3.1
  have K3 := K2.trans Kq3 (allS (Or.inr sz2) all0)
  have ne3_de : de ≠ x3_y := Nat.ne_of_lt (Nat.lt_of_lt_of_le f2_0.lt u3_0)
  have ne3_ro : ro ≠ x3_y := Nat.ne_of_lt (Nat.lt_of_lt_of_le f2_3.lt u3_0)
  have ne3_cx : cx ≠ x3_y := Nat.ne_of_lt (Nat.lt_of_lt_of_le f2_5.lt u3_0)
  have ne3_cv : cv ≠ x3_y := Nat.ne_of_lt (Nat.lt_of_lt_of_le f2_8.lt u3_0)
  have ne3_b2 : b2 ≠ x3_y := Nat.ne_of_lt (Nat.lt_of_lt_of_le A2.lt u3_0)
  have sz3_y : h0.size ≤ x3_y := Nat.le_trans K2.1 u3_0
  have gg3_y : n0 ≤ x3_y := Nat.le_trans Zs2 u3_0
  refine own_stH (fun _ kk_ => st3.trans kk_) ?_
  show own_GoesH _ _ _ _ _ _ _ _ _ T3 (mkF m 17 #[rv de] [(.ref b2)])
  obtain ⟨b4, T4, h4, k4, d4, kc4, X4, e4, E4, hS4, Ka4, hZ, hown, Ex4, Fc4, Fv4, Av4, -, -, hC4, -, hsa4, st4⟩ := ldcCH X3 hx hZ hown (own_w hw 59 rfl) wS rfl hS0 Ks3 hEL (List.mem_of_getElem? (i := 1) rfl) C3.1 (vs := [(.int (123 : Int32)), (.int (34 : Int32)), (.int (100 : Int32)), (.int (101 : Int32)), (.int (99 : Int32)), (.int (105 : Int32)), (.int (115 : Int32)), (.int (105 : Int32)), (.int (111 : Int32)), (.int (110 : Int32)), (.int (34 : Int32)), (.int (58 : Int32)), (.int (102 : Int32)), (.int (97 : Int32)), (.int (108 : Int32)), (.int (115 : Int32)), (.int (101 : Int32)), (.int (44 : Int32)), (.int (34 : Int32)), (.int (99 : Int32)), (.int (111 : Int32)), (.int (110 : Int32)), (.int (116 : Int32)), (.int (101 : Int32)), (.int (120 : Int32)), (.int (116 : Int32)), (.int (34 : Int32)), (.int (58 : Int32)), (.int (123 : Int32)), (.int (34 : Int32)), (.int (114 : Int32)), (.int (101 : Int32)), (.int (97 : Int32)), (.int (115 : Int32)), (.int (111 : Int32)), (.int (110 : Int32)), (.int (34 : Int32)), (.int (58 : Int32)), (.int (34 : Int32))]) (z := (39 : Int32)) ⟨by decide, by decide⟩ (by decide) (by decide) (g := (mkF m 17 #[rv de] [(.ref b2)])) rfl (hb hby d4_17) (n := 156) (by decide) (by decide) (by decide) (by decide)
  have f4_0 := f3_0.ext E4
  have f4_1 := f3_1.ext E4
  have f4_2 := f3_2.ext E4
  have f4_3 := f3_3.ext E4
  have f4_4 := f3_4.ext E4
  have f4_5 := f3_5.ext E4
  have f4_6 := f3_6.ext E4
  have f4_7 := f3_7.ext E4
  have f4_8 := f3_8.ext E4
  have f4_9 := f3_9.ext E4
  have f4_10 := u3_1.ext E4
  have f4_11 := u3_2.ext E4
  have f4_12 := u3_3.ext E4
  have f4_13 := u3_4.ext E4
  have f4_14 := u3_5.ext E4
  have C4 := C3.trans hC4
  have Zs4 : n0 ≤ h4.size := Nat.le_trans Zs3 E4.1
  have K4 := K3.ext E4
  have Ks4 := Nat.le_trans Ks3 E4.1
  have nl4_de := hsa4 de (Safe.exa hZ.alike f4_0 (by decide) (by decide))
  have nl4_ro := hsa4 ro (Safe.exa hZ.alike f4_3 (by decide) (by decide))
  have nl4_b2 := hsa4 b2 (Safe.exa hZ.alike f4_10 (by decide) (by decide))
  refine own_stH st4 ?_
  show own_GoesH _ _ _ _ _ _ _ _ _ T4 (mkF m 19 #[rv de] [(.ref b4), (.ref b2)])
  have Vna : Arv Z h4 d4 kc4 .byte (39 : Int32) own_pre (.int (0 : Int32)) := Av4
  obtain ⟨cq5, kq5, q5a, q5b, q5c⟩ := isOf hZ e4 f4_10
  obtain ⟨_, _, ⟨T5, L5, k5, n5⟩, -, X5, ⟨Lc5, hQ5, l5, y5, z5⟩, st5⟩ := X4.virtualBack hx (y := yy16) (z := yy16) hown (mvT hZ (own_w hw 60 rfl)) (mvT hZ (own_w hw 61 rfl)) (notFace_of_selects (args := #[]) (mvT hZ (own_w hw 63 rfl))) (mvT hZ (own_w hw 63 rfl)) (mvT hZ (own_w hw 62 rfl)) (by decide) (backOf (W := 0) (rmSAp l Z a0 hw [] (b2) (b4) (x3_y) (x3_ky) (own_z16) (d4) (kc4) (own_pre) (cs) h4 n0 Zs4 f4_10 f4_11 f4_12 f4_13 gg2 f4_14 Ex4 Fc4 Fv4 Vna f4_9 (by assumption) nl4_b2.1 nl4_b2.2) hZ (own_w hw 64 rfl) (own_w hw 43 rfl) (by decide) (by decide)) q5a q5c (g := (mkF m 19 #[rv de] [(.ref b4), (.ref b2)])) rfl (by rw [hml]; rfl) (Steps.refl _) (argsL := [(.ref b4)]) (rest := []) (lenOf pd_18 rfl) rfl (by show 2 * 0 + _ ≤ _; exact Nat.le_of_eq rfl) (hb hby d4_19) (fun _ _ => ⟨rfl, e4, (by decide : 4 + 1 ≤ _), (by decide : 180 + 39 ≤ _)⟩)
  dsimp only [Pt.U, Pt.locs, Pt.cells, Pt.slots] at X5 l5 y5 z5 st5 hQ5
  subst l5 y5 z5
  obtain ⟨x5_y, x5_ky, rfl, Nq5, Kq5, u5_0, u5_1, u5_2, u5_3, u5_4, u5_5⟩ := hQ5
  have N5 := Fr.app N3 Nq5
  have f5_0 := f4_0.keep Kq5
  have f5_1 := f4_1.keep Kq5 (ninS ne2_de nin0)
  have f5_2 := f4_2.keep Kq5 (ninS ne2_de nin0)
  have f5_3 := f4_3.keep Kq5
  have f5_4 := f4_4.keep Kq5 (ninS ne2_ro nin0)
  have f5_5 := f4_5.keep Kq5
  have f5_6 := f4_6.keep Kq5 (ninS ne2_cx nin0)
  have f5_7 := f4_7.keep Kq5 (ninS ne2_cx nin0)
  have f5_8 := f4_8.keep Kq5 (ninS ne2_cv nin0)
  have f5_9 := own_Sta_keep f4_9 Kq5 (nsS f4_10.nostat ns0)
  have f5_10 := f4_10.keep Kq5
  have f5_14 := f4_14.keep Kq5 (ninS (Ne.symm ne3_b2) nin0)
  have f5_15 := Ex4.keep Kq5
  have f5_16 := Fc4.keep Kq5 (ninS (Ne.symm nl4_b2.1) nin0)
  have f5_17 := Fv4.keep Kq5 (ninS (Ne.symm nl4_b2.1) nin0)
  have f5_18 := Vna.keep Kq5 (ninS (Ne.symm nl4_b2.2) nin0)
  have C5 := C4.trans (CHr.keep Kq5 (sfS (Safe.exa hZ.alike f4_10 (by decide) (by decide)) sf0) C4.1)
  have Ks5 := Nat.le_trans Ka4 Kq5.1
  have Zs5 : n0 ≤ T5.heap.size := Nat.le_trans Zs4 Kq5.1
  have K5 := K4.trans Kq5 (allS (Or.inr sz2) all0)
  have ne5_de : de ≠ x5_y := Nat.ne_of_lt (Nat.lt_of_lt_of_le f4_0.lt u5_0)
  have ne5_ro : ro ≠ x5_y := Nat.ne_of_lt (Nat.lt_of_lt_of_le f4_3.lt u5_0)
  have ne5_cx : cx ≠ x5_y := Nat.ne_of_lt (Nat.lt_of_lt_of_le f4_5.lt u5_0)
  have ne5_cv : cv ≠ x5_y := Nat.ne_of_lt (Nat.lt_of_lt_of_le f4_8.lt u5_0)
  have ne5_b2 : b2 ≠ x5_y := Nat.ne_of_lt (Nat.lt_of_lt_of_le f4_10.lt u5_0)
  have ne5_x3_y : x3_y ≠ x5_y := Nat.ne_of_lt (Nat.lt_of_lt_of_le f4_14.lt u5_0)
  have ne5_b4 : b4 ≠ x5_y := Nat.ne_of_lt (Nat.lt_of_lt_of_le Ex4.lt u5_0)
  have ne5_d4 : d4 ≠ x5_y := Nat.ne_of_lt (Nat.lt_of_lt_of_le Vna.lt u5_0)
  have sz5_y : h0.size ≤ x5_y := Nat.le_trans K4.1 u5_0
  have gg5_y : n0 ≤ x5_y := Nat.le_trans Zs4 u5_0
  have sfq5_y := Safe.keep (Z := Z) (EL := consts_1) (x := x5_y) Kq5 (sfS (Safe.exa hZ.alike f4_10 (by decide) (by decide)) sf0) C4.1 (Safe.new u5_0)
  refine own_stH (fun _ kk_ => st5.trans kk_) ?_
  show own_GoesH _ _ _ _ _ _ _ _ _ T5 (mkF m 22 #[rv de] [(.ref b2)])
  have Vnb : Arv Z T5.heap x5_y x5_ky .byte (39 : Int32) own_pre (.int (0 : Int32)) := u5_5
  refine own_stH (fun _ kk_ => XS.aloadN X5.here hx rfl (hb hby d4_22) rfl rfl kk_) ?_
  show own_GoesH _ _ _ _ _ _ _ _ _ T5 (mkF m 23 #[rv de] [(.ref de), (.ref b2)])
  obtain ⟨T6, X6, e6, st6⟩ := getF X5 hx hZ hown (host := "") (Or.inl (own_w hw 16 rfl)) Via.refl rfl f5_2 (g := (mkF m 23 #[rv de] [(.ref de), (.ref b2)])) rfl rfl (hb hby d4_23)
  refine own_stH st6 ?_
  show own_GoesH _ _ _ _ _ _ _ _ _ T6 (mkF m 26 #[rv de] [(.ref ro), (.ref b2)])
  obtain ⟨cq7, kq7, q7a, q7b, q7c⟩ := isOf hZ e6 f5_3
  obtain ⟨_, _, ⟨T7, L7, k7, n7⟩, -, X7, ⟨Lc7, hQ7, l7, y7, z7⟩, st7⟩ := X6.virtualBack hx (y := yy27) (z := yy27) hown (mvT hZ (own_w hw 133 rfl)) (mvT hZ (own_w hw 134 rfl)) (notFace_of_selects (args := #[]) (mvT hZ (own_w hw 136 rfl))) (mvT hZ (own_w hw 136 rfl)) (mvT hZ (own_w hw 135 rfl)) (by decide) (backOf (W := 1) (rm21 l Z a0 hw [] (ro) (cx) T5.heap n0 Zs5 f5_3 f5_4) hZ (own_w hw 137 rfl) (own_w hw 38 rfl) (by decide) (by decide)) q7a q7c (g := (mkF m 26 #[rv de] [(.ref ro), (.ref b2)])) rfl (by rw [hml]; rfl) (Steps.refl _) (argsL := []) (rest := [(.ref b2)]) (lenOf pd_19 rfl) rfl (by show 2 * 0 + _ ≤ _; exact Nat.le_of_eq rfl) (hb hby d4_26) (fun _ _ => ⟨rfl, e6, (by decide : 5 + 0 ≤ _), (by decide : 219 + 0 ≤ _)⟩)
  dsimp only [Pt.U, Pt.locs, Pt.cells, Pt.slots] at X7 l7 y7 z7 st7 hQ7
  subst l7 y7 z7
  obtain ⟨rfl, Nq7, eq7⟩ := hQ7
  have N7 := Fr.app N5 Nq7
  refine own_stH (fun _ kk_ => st7.trans kk_) ?_
  show own_GoesH _ _ _ _ _ _ _ _ _ T7 (mkF m 29 #[rv de] [(.ref cx), (.ref b2)])
  obtain ⟨cq8, kq8, q8a, q8b, q8c⟩ := isOf hZ eq7 u5_1
  obtain ⟨_, _, ⟨T8, L8, k8, n8⟩, -, X8, ⟨Lc8, hQ8, l8, y8, z8⟩, st8⟩ := X7.virtualBack hx (y := yy16) (z := yy16) hown (mvT hZ (own_w hw 60 rfl)) (mvT hZ (own_w hw 61 rfl)) (notFace_of_selects (args := #[]) (mvT hZ (own_w hw 63 rfl))) (mvT hZ (own_w hw 63 rfl)) (mvT hZ (own_w hw 62 rfl)) (by decide) (backOf (W := 0) (rmSAc1 l Z a0 hw [] (b2) (cx) (x5_y) (x5_ky) (own_pre) (cv) (kv) (own_cd1) (cs) T5.heap n0 Zs5 u5_1 u5_2 u5_3 u5_4 gg2 Vnb f5_5 f5_6 f5_7 f5_8 f5_9 (by assumption) (Ne.symm ne2_cx) (Ne.symm ne2_cv)) hZ (own_w hw 64 rfl) (own_w hw 43 rfl) (by decide) (by decide)) q8a q8c (g := (mkF m 29 #[rv de] [(.ref cx), (.ref b2)])) rfl (by rw [hml]; rfl) (Steps.refl _) (argsL := [(.ref cx)]) (rest := []) (lenOf pd_18 rfl) rfl (by show 2 * 0 + _ ≤ _; exact Nat.le_of_eq rfl) (hb hby d4_29) (fun _ _ => ⟨rfl, eq7, (by decide : 5 + 1 ≤ _), (by decide : 219 + 80 ≤ _)⟩)
  dsimp only [Pt.U, Pt.locs, Pt.cells, Pt.slots] at X8 l8 y8 z8 st8 hQ8
  subst l8 y8 z8
  obtain ⟨x8_y, x8_ky, rfl, Nq8, Kq8, u8_0, u8_1, u8_2, u8_3, u8_4, u8_5⟩ := hQ8
  have N8 := Fr.app N7 Nq8
  have f8_0 := f5_0.keep Kq8
  have f8_1 := f5_1.keep Kq8 (ninS ne2_de nin0)
  have f8_2 := f5_2.keep Kq8 (ninS ne2_de nin0)
  have f8_3 := f5_3.keep Kq8
  have f8_4 := f5_4.keep Kq8 (ninS ne2_ro nin0)
  have f8_5 := f5_5.keep Kq8
  have f8_6 := f5_6.keep Kq8 (ninS ne2_cx nin0)
  have f8_7 := f5_7.keep Kq8 (ninS ne2_cx nin0)
  have f8_8 := f5_8.keep Kq8 (ninS ne2_cv nin0)
  have f8_9 := own_Sta_keep f5_9 Kq8 (nsS u5_1.nostat ns0)
  have f8_10 := u5_1.keep Kq8
  have f8_11 := f5_14.keep Kq8 (ninS (Ne.symm ne3_b2) nin0)
  have f8_12 := f5_15.keep Kq8
  have f8_13 := f5_16.keep Kq8 (ninS (Ne.symm nl4_b2.1) nin0)
  have f8_14 := f5_17.keep Kq8 (ninS (Ne.symm nl4_b2.1) nin0)
  have f8_15 := f5_18.keep Kq8 (ninS (Ne.symm nl4_b2.2) nin0)
  have f8_16 := Safe.keep Kq8 (sfS (Safe.exa hZ.alike u5_1 (by decide) (by decide)) sf0) C5.1 sfq5_y
  have f8_20 := Vnb.keep Kq8 (ninS (Ne.symm ne5_b2) nin0)
  have C8 := C5.trans (CHr.keep Kq8 (sfS (Safe.exa hZ.alike u5_1 (by decide) (by decide)) sf0) C5.1)
  have Ks8 := Nat.le_trans Ks5 Kq8.1
  have Zs8 : n0 ≤ T8.heap.size := Nat.le_trans Zs5 Kq8.1
  have K8 := K5.trans Kq8 (allS (Or.inr sz2) all0)
  have ne8_de : de ≠ x8_y := Nat.ne_of_lt (Nat.lt_of_lt_of_le f5_0.lt u8_0)
  have ne8_ro : ro ≠ x8_y := Nat.ne_of_lt (Nat.lt_of_lt_of_le f5_3.lt u8_0)
  have ne8_cx : cx ≠ x8_y := Nat.ne_of_lt (Nat.lt_of_lt_of_le f5_5.lt u8_0)
  have ne8_cv : cv ≠ x8_y := Nat.ne_of_lt (Nat.lt_of_lt_of_le f5_8.lt u8_0)
  have ne8_b2 : b2 ≠ x8_y := Nat.ne_of_lt (Nat.lt_of_lt_of_le u5_1.lt u8_0)
  have ne8_x3_y : x3_y ≠ x8_y := Nat.ne_of_lt (Nat.lt_of_lt_of_le f5_14.lt u8_0)
  have ne8_b4 : b4 ≠ x8_y := Nat.ne_of_lt (Nat.lt_of_lt_of_le f5_15.lt u8_0)
  have ne8_d4 : d4 ≠ x8_y := Nat.ne_of_lt (Nat.lt_of_lt_of_le f5_18.lt u8_0)
  have ne8_x5_y : x5_y ≠ x8_y := Nat.ne_of_lt (Nat.lt_of_lt_of_le Vnb.lt u8_0)
  have sz8_y : h0.size ≤ x8_y := Nat.le_trans K5.1 u8_0
  have gg8_y : n0 ≤ x8_y := Nat.le_trans Zs5 u8_0
  have sfq8_y := Safe.keep (Z := Z) (EL := consts_1) (x := x8_y) Kq8 (sfS (Safe.exa hZ.alike u5_1 (by decide) (by decide)) sf0) C5.1 (Safe.new u8_0)
  refine own_stH (fun _ kk_ => st8.trans kk_) ?_
  show own_GoesH _ _ _ _ _ _ _ _ _ T8 (mkF m 32 #[rv de] [(.ref b2)])
  obtain ⟨b9, T9, h9, k9, d9, kc9, X9, e9, E9, hS9, Ka9, hZ, hown, Ex9, Fc9, Fv9, Av9, -, -, hC9, -, hsa9, st9⟩ := ldcCH X8 hx hZ hown (own_w hw 140 rfl) wS rfl hS4 Ks8 hEL (List.mem_of_getElem? (i := 2) rfl) C8.1 (vs := [(.int (34 : Int32)), (.int (125 : Int32)), (.int (125 : Int32))]) (z := (3 : Int32)) ⟨by decide, by decide⟩ (by decide) (by decide) (g := (mkF m 32 #[rv de] [(.ref b2)])) rfl (hb hby d4_32) (n := 12) (by decide) (by decide) (by decide) (by decide)
  have f9_0 := f8_0.ext E9
  have f9_1 := f8_1.ext E9
  have f9_2 := f8_2.ext E9
  have f9_3 := f8_3.ext E9
  have f9_4 := f8_4.ext E9
  have f9_5 := f8_5.ext E9
  have f9_6 := f8_6.ext E9
  have f9_7 := f8_7.ext E9
  have f9_8 := f8_8.ext E9
  have f9_9 := f8_9.ext E9
  have f9_10 := u8_1.ext E9
  have f9_11 := f8_11.ext E9
  have f9_12 := f8_12.ext E9
  have f9_13 := f8_13.ext E9
  have f9_14 := f8_14.ext E9
  have f9_15 := f8_15.ext E9
  have f9_16 := CHr.safe hC9 f8_20.lt f8_16
  have f9_17 := f8_20.ext E9
  have f9_18 := CHr.safe hC9 u8_5.lt sfq8_y
  have f9_19 := u8_2.ext E9
  have f9_20 := u8_3.ext E9
  have f9_21 := u8_4.ext E9
  have f9_22 := u8_5.ext E9
  have C9 := C8.trans hC9
  have Zs9 : n0 ≤ h9.size := Nat.le_trans Zs8 E9.1
  have K9 := K8.ext E9
  have Ks9 := Nat.le_trans Ks8 E9.1
  have nl9_de := hsa9 de (Safe.exa hZ.alike f9_0 (by decide) (by decide))
  have nl9_ro := hsa9 ro (Safe.exa hZ.alike f9_3 (by decide) (by decide))
  have nl9_b2 := hsa9 b2 (Safe.exa hZ.alike f9_10 (by decide) (by decide))
  have nl9_x5_y := hsa9 x5_y f9_16
  have nl9_x8_y := hsa9 x8_y f9_18
  refine own_stH st9 ?_
  show own_GoesH _ _ _ _ _ _ _ _ _ T9 (mkF m 34 #[rv de] [(.ref b9), (.ref b2)])
  have Vnc : Arv Z h9 d9 kc9 .byte (3 : Int32) own_suf (.int (0 : Int32)) := Av9
  obtain ⟨cq10, kq10, q10a, q10b, q10c⟩ := isOf hZ e9 f9_10
  obtain ⟨_, _, ⟨T10, L10, k10, n10⟩, -, X10, ⟨Lc10, hQ10, l10, y10, z10⟩, st10⟩ := X9.virtualBack hx (y := yy16) (z := yy16) hown (mvT hZ (own_w hw 60 rfl)) (mvT hZ (own_w hw 61 rfl)) (notFace_of_selects (args := #[]) (mvT hZ (own_w hw 63 rfl))) (mvT hZ (own_w hw 63 rfl)) (mvT hZ (own_w hw 62 rfl)) (by decide) (backOf (W := 0) (rmSAs1 l Z a0 hw [] (b2) (b9) (x8_y) (x8_ky) ((own_cp own_cd1 (own_cp own_pre own_z80 (0 : Int32) (0 : Int32) (39 : Int32) (.int (0 : Int32))) (0 : Int32) (39 : Int32) (18 : Int32) (.int (0 : Int32)))) (d9) (kc9) (own_suf) (cs) h9 n0 Zs9 f9_10 f9_19 f9_20 f9_21 gg2 f9_22 Ex9 Fc9 Fv9 Vnc f9_9 (by assumption) nl9_b2.1 nl9_b2.2 gg8_y ne8_b2 (Nat.le_of_ble_eq_true rfl)) hZ (own_w hw 64 rfl) (own_w hw 43 rfl) (by decide) (by decide)) q10a q10c (g := (mkF m 34 #[rv de] [(.ref b9), (.ref b2)])) rfl (by rw [hml]; rfl) (Steps.refl _) (argsL := [(.ref b9)]) (rest := []) (lenOf pd_18 rfl) rfl (by show 2 * 0 + _ ≤ _; exact Nat.le_of_eq rfl) (hb hby d4_34) (fun _ _ => ⟨rfl, e9, (by decide : 8 + 0 ≤ _), (by decide : 315 + 0 ≤ _)⟩)
  dsimp only [Pt.U, Pt.locs, Pt.cells, Pt.slots] at X10 l10 y10 z10 st10 hQ10
  subst l10 y10 z10
  obtain ⟨rfl, Nq10, Kq10, u10_0, u10_1, u10_2, u10_3, u10_4⟩ := hQ10
  have N10 := Fr.app N8 Nq10
  have f10_0 := f9_0.keep Kq10
  have f10_1 := f9_1.keep Kq10 (ninS ne2_de (ninS ne8_de nin0))
  have f10_2 := f9_2.keep Kq10 (ninS ne2_de (ninS ne8_de nin0))
  have f10_3 := f9_3.keep Kq10
  have f10_4 := f9_4.keep Kq10 (ninS ne2_ro (ninS ne8_ro nin0))
  have f10_5 := f9_5.keep Kq10
  have f10_6 := f9_6.keep Kq10 (ninS ne2_cx (ninS ne8_cx nin0))
  have f10_7 := f9_7.keep Kq10 (ninS ne2_cx (ninS ne8_cx nin0))
  have f10_8 := f9_8.keep Kq10 (ninS ne2_cv (ninS ne8_cv nin0))
  have f10_9 := own_Sta_keep f9_9 Kq10 (nsS f9_10.nostat (nsS f9_22.nostat ns0))
  have f10_10 := f9_10.keep Kq10
  have f10_11 := f9_11.keep Kq10 (ninS (Ne.symm ne3_b2) (ninS ne8_x3_y nin0))
  have f10_12 := f9_12.keep Kq10
  have f10_13 := f9_13.keep Kq10 (ninS (Ne.symm nl4_b2.1) (ninS ne8_b4 nin0))
  have f10_14 := f9_14.keep Kq10 (ninS (Ne.symm nl4_b2.1) (ninS ne8_b4 nin0))
  have f10_15 := f9_15.keep Kq10 (ninS (Ne.symm nl4_b2.2) (ninS ne8_d4 nin0))
  have f10_16 := Safe.keep Kq10 (sfS (Safe.exa hZ.alike f9_10 (by decide) (by decide)) (sfS f9_18 sf0)) C9.1 f9_16
  have f10_17 := f9_17.keep Kq10 (ninS (Ne.symm ne5_b2) (ninS ne8_x5_y nin0))
  have f10_18 := Safe.keep Kq10 (sfS (Safe.exa hZ.alike f9_10 (by decide) (by decide)) (sfS f9_18 sf0)) C9.1 f9_18
  have f10_23 := Ex9.keep Kq10
  have f10_24 := Fc9.keep Kq10 (ninS (Ne.symm nl9_b2.1) (ninS (Ne.symm nl9_x8_y.1) nin0))
  have f10_25 := Fv9.keep Kq10 (ninS (Ne.symm nl9_b2.1) (ninS (Ne.symm nl9_x8_y.1) nin0))
  have f10_26 := Vnc.keep Kq10 (ninS (Ne.symm nl9_b2.2) (ninS (Ne.symm nl9_x8_y.2) nin0))
  have C10 := C9.trans (CHr.keep Kq10 (sfS (Safe.exa hZ.alike f9_10 (by decide) (by decide)) (sfS f9_18 sf0)) C9.1)
  have Ks10 := Nat.le_trans Ka9 Kq10.1
  have Zs10 : n0 ≤ T10.heap.size := Nat.le_trans Zs9 Kq10.1
  have K10 := K9.trans Kq10 (allS (Or.inr sz2) (allS (Or.inr sz8_y) all0))
  refine own_stH (fun _ kk_ => st10.trans kk_) ?_
  show own_GoesH _ _ _ _ _ _ _ _ _ T10 (mkF m 37 #[rv de] [(.ref b2)])
  obtain ⟨cq11, kq11, q11a, q11b, q11c⟩ := isOf hZ rfl u10_0
  obtain ⟨_, _, ⟨T11, L11, k11, n11⟩, -, X11, ⟨Lc11, hQ11, l11, y11, z11⟩, st11⟩ := X10.virtualBack hx (y := yy26) (z := yy26) hown (mvT hZ (own_w hw 141 rfl)) (mvT hZ (own_w hw 142 rfl)) (notFace_of_selects (args := #[]) (mvT hZ (own_w hw 144 rfl))) (mvT hZ (own_w hw 144 rfl)) (mvT hZ (own_w hw 143 rfl)) (by decide) (backOf (W := 0) (rmTSt1 l Z a0 hw [] (b2) (x8_y) (x8_ky) ((own_cp own_suf (own_cp own_cd1 (own_cp own_pre own_z80 (0 : Int32) (0 : Int32) (39 : Int32) (.int (0 : Int32))) (0 : Int32) (39 : Int32) (18 : Int32) (.int (0 : Int32))) (0 : Int32) (57 : Int32) (3 : Int32) (.int (0 : Int32)))) (cs) T10.heap n0 Zs10 u10_0 u10_1 u10_2 u10_3 u10_4 f10_9 (by assumption)) hZ (own_w hw 145 rfl) (own_w hw 43 rfl) (by decide) (by decide)) q11a q11c (g := (mkF m 37 #[rv de] [(.ref b2)])) rfl (by rw [hml]; rfl) (Steps.refl _) (argsL := []) (rest := []) (lenOf pd_19 rfl) rfl (by show 2 * 0 + _ ≤ _; exact Nat.le_of_eq rfl) (hb hby d4_37) (fun _ _ => ⟨rfl, rfl, (by decide : 8 + 2 ≤ _), (by decide : 315 + 64 ≤ _)⟩)
  dsimp only [Pt.U, Pt.locs, Pt.cells, Pt.slots] at X11 l11 y11 z11 st11 hQ11
  subst l11 y11 z11
  obtain ⟨x11_s9, x11_y, x11_ky, rfl, Nq11, Kq11, u11_0, u11_1, u11_2, u11_3, u11_4⟩ := hQ11
  have N11 := Fr.app N10 Nq11
  have f11_0 := f10_0.keep Kq11
  have f11_1 := f10_1.keep Kq11 nin0
  have f11_2 := f10_2.keep Kq11 nin0
  have f11_3 := f10_3.keep Kq11
  have f11_4 := f10_4.keep Kq11 nin0
  have f11_5 := f10_5.keep Kq11
  have f11_6 := f10_6.keep Kq11 nin0
  have f11_7 := f10_7.keep Kq11 nin0
  have f11_8 := f10_8.keep Kq11 nin0
  have f11_9 := own_Sta_keep f10_9 Kq11 ns0
  have f11_10 := u10_0.keep Kq11
  have f11_11 := f10_11.keep Kq11 nin0
  have f11_12 := f10_12.keep Kq11
  have f11_13 := f10_13.keep Kq11 nin0
  have f11_14 := f10_14.keep Kq11 nin0
  have f11_15 := f10_15.keep Kq11 nin0
  have f11_16 := Safe.keep Kq11 sf0 C10.1 f10_16
  have f11_17 := f10_17.keep Kq11 nin0
  have f11_18 := Safe.keep Kq11 sf0 C10.1 f10_18
  have f11_19 := f10_23.keep Kq11
  have f11_20 := f10_24.keep Kq11 nin0
  have f11_21 := f10_25.keep Kq11 nin0
  have f11_22 := f10_26.keep Kq11 nin0
  have f11_23 := u10_1.keep Kq11 nin0
  have f11_24 := u10_2.keep Kq11 nin0
  have f11_25 := u10_3.keep Kq11 nin0
  have f11_26 := u10_4.keep Kq11 nin0
  have C11 := C10.trans (CHr.keep Kq11 sf0 C10.1)
  have Ks11 := Nat.le_trans Ks10 Kq11.1
  have Zs11 : n0 ≤ T11.heap.size := Nat.le_trans Zs10 Kq11.1
  have K11 := K10.trans Kq11 all0
  have ne11_de : de ≠ x11_s9 := Nat.ne_of_lt (Nat.lt_of_lt_of_le f10_0.lt u11_0)
  have ne11_ro : ro ≠ x11_s9 := Nat.ne_of_lt (Nat.lt_of_lt_of_le f10_3.lt u11_0)
  have ne11_cx : cx ≠ x11_s9 := Nat.ne_of_lt (Nat.lt_of_lt_of_le f10_5.lt u11_0)
  have ne11_cv : cv ≠ x11_s9 := Nat.ne_of_lt (Nat.lt_of_lt_of_le f10_8.lt u11_0)
  have ne11_b2 : b2 ≠ x11_s9 := Nat.ne_of_lt (Nat.lt_of_lt_of_le u10_0.lt u11_0)
  have ne11_x3_y : x3_y ≠ x11_s9 := Nat.ne_of_lt (Nat.lt_of_lt_of_le f10_11.lt u11_0)
  have ne11_b4 : b4 ≠ x11_s9 := Nat.ne_of_lt (Nat.lt_of_lt_of_le f10_12.lt u11_0)
  have ne11_d4 : d4 ≠ x11_s9 := Nat.ne_of_lt (Nat.lt_of_lt_of_le f10_15.lt u11_0)
  have ne11_x5_y : x5_y ≠ x11_s9 := Nat.ne_of_lt (Nat.lt_of_lt_of_le f10_17.lt u11_0)
  have ne11_b9 : b9 ≠ x11_s9 := Nat.ne_of_lt (Nat.lt_of_lt_of_le f10_23.lt u11_0)
  have ne11_d9 : d9 ≠ x11_s9 := Nat.ne_of_lt (Nat.lt_of_lt_of_le f10_26.lt u11_0)
  have ne11_x8_y : x8_y ≠ x11_s9 := Nat.ne_of_lt (Nat.lt_of_lt_of_le u10_4.lt u11_0)
  have sz11_s9 : h0.size ≤ x11_s9 := Nat.le_trans K10.1 u11_0
  have gg11_s9 : n0 ≤ x11_s9 := Nat.le_trans Zs10 u11_0
  refine own_stH (fun _ kk_ => st11.trans kk_) ?_
  show own_GoesH _ _ _ _ _ _ _ _ _ T11 (mkF m 40 #[rv de] [(.ref x11_s9)])
  have Vnd : Arv Z T11.heap x11_y x11_ky .byte (60 : Int32) own_x1 (.int (0 : Int32)) := u11_4
  refine own_endH (v := (some (.ref x11_s9))) X11 hlk hS9 Ks11 hZ hEL hh rfl C11 (fun h => by rw [Bd.returns] at h; cases h) (by decide) (by decide) ?_ (fun fs hr => retOut X11 hx Bd.returns (own_narR rfl) (Or.inr (Or.inr (Or.inr (Or.inr ⟨rfl, rfl, rfl⟩)))) (hb hby d4_40) hr)
  show QTJ1 Z de ro cx cv kv cs h0 n0 (some (.ref x11_s9)) T11.heap _
  exact ⟨x11_s9, x11_y, x11_ky, rfl, N11, K11, u11_1, u11_2, u11_3, Vnd⟩
abbrev rRrmTJ2 : Room := { frames := 6, cells := 10, slots := 372, locals := 91 }
theorem pn_rmTJ2 : plainFor yy28 = true := by first | exact plainFor_of_name (by first | (simp [plainName, overriddenIn]; done) | decide +kernel) | decide +kernel
theorem ef_rmTJ2 (m : MethodId) (de : Addr) : entryFrame m #[(.ref de)] 1 = (mkF m 0 #[rv de] []) := by first | (simp [entryFrame, mkF, argsToLocals, Value.category]; done) | rfl
def QTJ2 (Z : State) (de : Addr) (ro : Addr) (cx : Addr) (cv : Addr) (kv : ClassId) (cs : Int32) (h0 : Heap) (n0 : Nat) (v_ : Option Value) (h_ : Heap) (L_ : List Loc) : Prop := ∃ y : Addr, ∃ dy : Addr, ∃ ky : ClassId, (v_ = some (.ref y)) ∧ (Fr n0 L_) ∧ (Keep h0 h_ []) ∧ (Exa Z h_ y "java/lang/String") ∧ (Fld Z h_ y "java/lang/String" "coder" "B" (.int (0 : Int32))) ∧ (Fld Z h_ y "java/lang/String" "value" "[B" (.ref dy)) ∧ (Arv Z h_ dy ky .byte (53 : Int32) own_x2 (.int (0 : Int32)))
set_option maxRecDepth 65536 in
set_option maxHeartbeats 40000000 in
theorem rmTJ2 (l : Launch) (Z : State) (a0 : Array Value) (hw : ∀ d ∈ tables_1, d.before a0 Z = true) (ws : List Jvm.Cond) (hEL : EW Z a0 consts_1) (de : Addr) (ro : Addr) (cx : Addr) (cv : Addr) (kv : ClassId) (cs : Int32) (h0 : Heap) (n0 : Nat) (Z0 : n0 ≤ h0.size) (p_0 : Exa Z h0 de "com/example/firm_duties/firmduties/Decision") (p_1 : Fld Z h0 de "com/example/firm_duties/firmduties/Decision" "granted" "Z" (.int (0 : Int32))) (p_2 : Fld Z h0 de "com/example/firm_duties/firmduties/Decision" "reason" "Lcom/example/firm_duties/firmduties/Decision$Reason;" (.ref ro)) (p_3 : Exa Z h0 ro "com/example/firm_duties/firmduties/Decision$Reason") (p_4 : Fld Z h0 ro "com/example/firm_duties/firmduties/Decision$Reason" "code" "Ljava/lang/String;" (.ref cx)) (p_5 : Exa Z h0 cx "java/lang/String") (p_6 : Fld Z h0 cx "java/lang/String" "coder" "B" (.int (0 : Int32))) (p_7 : Fld Z h0 cx "java/lang/String" "value" "[B" (.ref cv)) (p_8 : Arv Z h0 cv kv .byte (11 : Int32) own_cd2 (.int (0 : Int32))) (p_9 : Sta Z h0 "java/lang/String" "COMPACT_STRINGS" "Z" (.int cs)) (hcs : ¬ cs = (0 : Int32)) :
    MetFree l yy28 (head1 (Jvm.Cond.code yy28 prog_4_method_3_code 1 (some (.object "java/lang/String")) :: ws) rRrmTJ2) (fun a_ U_ => a_ = #[(.ref de)] ∧ Z.Warmed39 U_.vm ∧ U_.heap = h0 ∧ CHv Z consts_1 U_.vm h0 ∧ ∀ x_ ∈ ([] : List Addr), Safe Z consts_1 U_.vm h0 x_) (fun _ _ _ _ _ => True) (fun _ U_ o_ U1_ => ∃ v_ L_, o_ = .returned v_ ∧ QTJ2 Z de ro cx cv kv cs h0 n0 v_ U1_.heap L_ ∧ CHr Z consts_1 U_.vm U_.heap U1_.vm U1_.heap ∧ ReturnedEndW U_ o_ U1_ L_ rRrmTJ2.cells rRrmTJ2.slots) := by
  refine MetFree.of_bodySF pn_rmTJ2 hisR ?_
  intro p e s m args below meth c s₁ Bd hml0 hP hK
  obtain ⟨rfl, hZ, hh, hCH, hSf⟩ := hP
  have hx := Bd.exec
  have hby := Bd.bytes
  have hlk : meth.locks = false := Bd.notSynchronized
  have hml : c.maxLocals = 1 := hml0
  have hown : s.vm.findClass "com/example/firm_duties/firmduties/Decision" = some m.cls := findClass_of_methodNamed Bd.named
  have hnm := (name_of_methodNamed Bd.named Bd.method).1
  have X0 : Stand p l e rRrmTJ2 (s.setVm s.vm) m #[(.ref de)] below meth c s₁ [] 0 0 := Stand.of_body Bd
  have e0 : s₁.heap = h0 := by rw [← hh, Bd.state]; rfl
  have N0 := Fr.nil n0
  have hS0 : s.Since s.vm n0 := (State.WarmedH.refl s).since n0
  have wS : ∀ d ∈ Bundle.stringAtoms, d.before a0 Z = true := by
    intro d hd
    simp only [Bundle.stringAtoms, List.mem_cons, List.not_mem_nil, or_false] at hd
    rcases hd with rfl | rfl | rfl | rfl | rfl | rfl | rfl
    · exact (own_w hw 19 rfl)
    · exact (own_w hw 20 rfl)
    · exact (own_w hw 21 rfl)
    · exact (own_w hw 22 rfl)
    · exact (own_w hw 23 rfl)
    · exact (own_w hw 24 rfl)
    · exact (own_w hw 25 rfl)
  have C0 := CHr.refl hCH
  show own_GoesH p e below s Z consts_1 (QTJ2 Z de ro cx cv kv cs h0 n0) rRrmTJ2.cells rRrmTJ2.slots s₁ (entryFrame m #[(.ref de)] 1)
  rw [ef_rmTJ2 m de]
  show own_GoesH p e below s Z consts_1 (QTJ2 Z de ro cx cv kv cs h0 n0) rRrmTJ2.cells rRrmTJ2.slots s₁ (mkF m 0 #[rv de] [])
  refine own_stH (fun _ kk_ => XS.aloadN X0.here hx rfl (hb hby d4_0) rfl rfl kk_) ?_
  show own_GoesH _ _ _ _ _ _ _ _ _ s₁ (mkF m 1 #[rv de] [(.ref de)])
  obtain ⟨T1, X1, e1, st1⟩ := getF X0 hx hZ hown (host := "") (Or.inl (own_w hw 14 rfl)) Via.refl e0 p_1 (g := (mkF m 1 #[rv de] [(.ref de)])) rfl rfl (hb hby d4_1)
  refine own_stH st1 ?_
  show own_GoesH _ _ _ _ _ _ _ _ _ T1 (mkF m 4 #[rv de] [(.int (0 : Int32))])
  refine own_stH (fun _ kk_ => XS.ifYes X1.here hx rfl (pc0 := 4) (pc' := 10) rfl (hb hby d4_4) rfl (XT.i0_eq_t (by decide)) (by decide) (by decide) kk_) ?_
  show own_GoesH _ _ _ _ _ _ _ _ _ T1 (mkF m 10 #[rv de] [])
  obtain ⟨T2, h2, X2, e2, E2, A2, D2, -, st2⟩ := newO X1 hx hZ hown (own_w hw 41 rfl) (own_w hw 42 rfl) (own_w hw 43 rfl) e1 (g := (mkF m 10 #[rv de] [])) rfl (hb hby d4_10) (by decide) (by decide)
  obtain ⟨b2, gx2⟩ : ∃ z, z = h0.size := ⟨_, rfl⟩
  rw [← gx2] at A2 D2 st2
  have ne2_de : de ≠ b2 := Nat.ne_of_lt (Nat.lt_of_lt_of_eq p_0.lt gx2.symm)
  have ne2_ro : ro ≠ b2 := Nat.ne_of_lt (Nat.lt_of_lt_of_eq p_3.lt gx2.symm)
  have ne2_cx : cx ≠ b2 := Nat.ne_of_lt (Nat.lt_of_lt_of_eq p_5.lt gx2.symm)
  have ne2_cv : cv ≠ b2 := Nat.ne_of_lt (Nat.lt_of_lt_of_eq p_8.lt gx2.symm)
  have gg2 : n0 ≤ b2 := Nat.le_trans Z0 (Nat.le_of_eq gx2.symm)
  have sz2 : h0.size ≤ b2 := Nat.le_trans (Keep.refl h0 []).1 (Nat.le_of_eq gx2.symm)
  have f2_0 := p_0.ext E2
  have f2_1 := p_1.ext E2
  have f2_2 := p_2.ext E2
  have f2_3 := p_3.ext E2
  have f2_4 := p_4.ext E2
  have f2_5 := p_5.ext E2
  have f2_6 := p_6.ext E2
  have f2_7 := p_7.ext E2
  have f2_8 := p_8.ext E2
  have f2_9 := p_9.ext E2
  have C2 := C0.trans (CHr.ext E2 C0.1)
  have Zs2 : n0 ≤ h2.size := Nat.le_trans Z0 E2.1
  have K2 := (Keep.refl h0 []).ext E2
  have Ks2 := Nat.le_trans Z0 E2.1
  have fn2_value : Fld Z h2 b2 "java/lang/AbstractStringBuilder" "value" "[B" .null := D2 (Or.inl (own_w hw 56 rfl)) (ty := (.array .byte)) (by decide)
  have fn2_coder : Fld Z h2 b2 "java/lang/AbstractStringBuilder" "coder" "B" (.int (0 : Int32)) := D2 (Or.inl (own_w hw 58 rfl)) (ty := .byte) (by decide)
  have fn2_count : Fld Z h2 b2 "java/lang/AbstractStringBuilder" "count" "I" (.int (0 : Int32)) := D2 (Or.inl (own_w hw 84 rfl)) (ty := .int) (by decide)
  refine own_stH st2 ?_
  show own_GoesH _ _ _ _ _ _ _ _ _ T2 (mkF m 13 #[rv de] [(.ref b2)])
  refine own_stH (fun _ kk_ => XS.dup X2.here hx rfl (hb hby d4_13) rfl rfl kk_) ?_
  show own_GoesH _ _ _ _ _ _ _ _ _ T2 (mkF m 14 #[rv de] [(.ref b2), (.ref b2)])
  obtain ⟨_, _, ⟨T3, L3, k3, n3⟩, -, X3, ⟨Lc3, hQ3, l3, y3, z3⟩, st3⟩ := X2.specialBack hx (y := yy7) rfl hown (mvT hZ (own_w hw 44 rfl)) (mvT hZ (own_w hw 45 rfl)) (mvT hZ (own_w hw 46 rfl)) (by decide) (backOf (W := 1) (rm6 l Z a0 hw [] (b2) (cs) h2 n0 Zs2 A2 fn2_value fn2_coder fn2_count gg2 f2_9 (by assumption)) hZ (own_w hw 46 rfl) (own_w hw 43 rfl) (by decide) (by decide)) (g := (mkF m 14 #[rv de] [(.ref b2), (.ref b2)])) rfl (by rw [hml]; rfl) (Steps.refl _) (a := b2) (argsL := []) (rest := [(.ref b2)]) (lenOf pd_1 rfl) rfl (by show 2 * 0 + _ ≤ _; exact Nat.le_of_eq rfl) (hb hby d4_14) (fun _ _ => ⟨rfl, e2, (by decide : 1 + 1 ≤ _), (by decide : 4 + 16 ≤ _)⟩)
  dsimp only [Pt.U, Pt.locs, Pt.cells, Pt.slots] at X3 l3 y3 z3 st3 hQ3
  subst l3 y3 z3
  obtain ⟨x3_y, x3_ky, rfl, Nq3, Kq3, u3_0, u3_1, u3_2, u3_3, u3_4, u3_5⟩ := hQ3
  have N3 := Fr.app N0 Nq3
  have f3_0 := f2_0.keep Kq3
  have f3_1 := f2_1.keep Kq3 (ninS ne2_de nin0)
  have f3_2 := f2_2.keep Kq3 (ninS ne2_de nin0)
  have f3_3 := f2_3.keep Kq3
  have f3_4 := f2_4.keep Kq3 (ninS ne2_ro nin0)
  have f3_5 := f2_5.keep Kq3
  have f3_6 := f2_6.keep Kq3 (ninS ne2_cx nin0)
  have f3_7 := f2_7.keep Kq3 (ninS ne2_cx nin0)
  have f3_8 := f2_8.keep Kq3 (ninS ne2_cv nin0)
  have f3_9 := own_Sta_keep f2_9 Kq3 (nsS A2.nostat ns0)
  have f3_10 := A2.keep Kq3
  have C3 := C2.trans (CHr.keep Kq3 (sfS (Safe.exa hZ.alike A2 (by decide) (by decide)) sf0) C2.1)
  have Ks3 := Nat.le_trans Ks2 Kq3.1
  have Zs3 : n0 ≤ T3.heap.size := Nat.le_trans Zs2 Kq3.1
  have K3 := K2.trans Kq3 (allS (Or.inr sz2) all0)
  have ne3_de : de ≠ x3_y := Nat.ne_of_lt (Nat.lt_of_lt_of_le f2_0.lt u3_0)
  have ne3_ro : ro ≠ x3_y := Nat.ne_of_lt (Nat.lt_of_lt_of_le f2_3.lt u3_0)
  have ne3_cx : cx ≠ x3_y := Nat.ne_of_lt (Nat.lt_of_lt_of_le f2_5.lt u3_0)
  have ne3_cv : cv ≠ x3_y := Nat.ne_of_lt (Nat.lt_of_lt_of_le f2_8.lt u3_0)
  have ne3_b2 : b2 ≠ x3_y := Nat.ne_of_lt (Nat.lt_of_lt_of_le A2.lt u3_0)
  have sz3_y : h0.size ≤ x3_y := Nat.le_trans K2.1 u3_0
  have gg3_y : n0 ≤ x3_y := Nat.le_trans Zs2 u3_0
  refine own_stH (fun _ kk_ => st3.trans kk_) ?_
  show own_GoesH _ _ _ _ _ _ _ _ _ T3 (mkF m 17 #[rv de] [(.ref b2)])
  obtain ⟨b4, T4, h4, k4, d4, kc4, X4, e4, E4, hS4, Ka4, hZ, hown, Ex4, Fc4, Fv4, Av4, -, -, hC4, -, hsa4, st4⟩ := ldcCH X3 hx hZ hown (own_w hw 59 rfl) wS rfl hS0 Ks3 hEL (List.mem_of_getElem? (i := 1) rfl) C3.1 (vs := [(.int (123 : Int32)), (.int (34 : Int32)), (.int (100 : Int32)), (.int (101 : Int32)), (.int (99 : Int32)), (.int (105 : Int32)), (.int (115 : Int32)), (.int (105 : Int32)), (.int (111 : Int32)), (.int (110 : Int32)), (.int (34 : Int32)), (.int (58 : Int32)), (.int (102 : Int32)), (.int (97 : Int32)), (.int (108 : Int32)), (.int (115 : Int32)), (.int (101 : Int32)), (.int (44 : Int32)), (.int (34 : Int32)), (.int (99 : Int32)), (.int (111 : Int32)), (.int (110 : Int32)), (.int (116 : Int32)), (.int (101 : Int32)), (.int (120 : Int32)), (.int (116 : Int32)), (.int (34 : Int32)), (.int (58 : Int32)), (.int (123 : Int32)), (.int (34 : Int32)), (.int (114 : Int32)), (.int (101 : Int32)), (.int (97 : Int32)), (.int (115 : Int32)), (.int (111 : Int32)), (.int (110 : Int32)), (.int (34 : Int32)), (.int (58 : Int32)), (.int (34 : Int32))]) (z := (39 : Int32)) ⟨by decide, by decide⟩ (by decide) (by decide) (g := (mkF m 17 #[rv de] [(.ref b2)])) rfl (hb hby d4_17) (n := 156) (by decide) (by decide) (by decide) (by decide)
  have f4_0 := f3_0.ext E4
  have f4_1 := f3_1.ext E4
  have f4_2 := f3_2.ext E4
  have f4_3 := f3_3.ext E4
  have f4_4 := f3_4.ext E4
  have f4_5 := f3_5.ext E4
  have f4_6 := f3_6.ext E4
  have f4_7 := f3_7.ext E4
  have f4_8 := f3_8.ext E4
  have f4_9 := f3_9.ext E4
  have f4_10 := u3_1.ext E4
  have f4_11 := u3_2.ext E4
  have f4_12 := u3_3.ext E4
  have f4_13 := u3_4.ext E4
  have f4_14 := u3_5.ext E4
  have C4 := C3.trans hC4
  have Zs4 : n0 ≤ h4.size := Nat.le_trans Zs3 E4.1
  have K4 := K3.ext E4
  have Ks4 := Nat.le_trans Ks3 E4.1
  have nl4_de := hsa4 de (Safe.exa hZ.alike f4_0 (by decide) (by decide))
  have nl4_ro := hsa4 ro (Safe.exa hZ.alike f4_3 (by decide) (by decide))
  have nl4_b2 := hsa4 b2 (Safe.exa hZ.alike f4_10 (by decide) (by decide))
  refine own_stH st4 ?_
  show own_GoesH _ _ _ _ _ _ _ _ _ T4 (mkF m 19 #[rv de] [(.ref b4), (.ref b2)])
  have Vna : Arv Z h4 d4 kc4 .byte (39 : Int32) own_pre (.int (0 : Int32)) := Av4
  obtain ⟨cq5, kq5, q5a, q5b, q5c⟩ := isOf hZ e4 f4_10
  obtain ⟨_, _, ⟨T5, L5, k5, n5⟩, -, X5, ⟨Lc5, hQ5, l5, y5, z5⟩, st5⟩ := X4.virtualBack hx (y := yy16) (z := yy16) hown (mvT hZ (own_w hw 60 rfl)) (mvT hZ (own_w hw 61 rfl)) (notFace_of_selects (args := #[]) (mvT hZ (own_w hw 63 rfl))) (mvT hZ (own_w hw 63 rfl)) (mvT hZ (own_w hw 62 rfl)) (by decide) (backOf (W := 0) (rmSAp l Z a0 hw [] (b2) (b4) (x3_y) (x3_ky) (own_z16) (d4) (kc4) (own_pre) (cs) h4 n0 Zs4 f4_10 f4_11 f4_12 f4_13 gg2 f4_14 Ex4 Fc4 Fv4 Vna f4_9 (by assumption) nl4_b2.1 nl4_b2.2) hZ (own_w hw 64 rfl) (own_w hw 43 rfl) (by decide) (by decide)) q5a q5c (g := (mkF m 19 #[rv de] [(.ref b4), (.ref b2)])) rfl (by rw [hml]; rfl) (Steps.refl _) (argsL := [(.ref b4)]) (rest := []) (lenOf pd_18 rfl) rfl (by show 2 * 0 + _ ≤ _; exact Nat.le_of_eq rfl) (hb hby d4_19) (fun _ _ => ⟨rfl, e4, (by decide : 4 + 1 ≤ _), (by decide : 180 + 39 ≤ _)⟩)
  dsimp only [Pt.U, Pt.locs, Pt.cells, Pt.slots] at X5 l5 y5 z5 st5 hQ5
  subst l5 y5 z5
  obtain ⟨x5_y, x5_ky, rfl, Nq5, Kq5, u5_0, u5_1, u5_2, u5_3, u5_4, u5_5⟩ := hQ5
  have N5 := Fr.app N3 Nq5
  have f5_0 := f4_0.keep Kq5
  have f5_1 := f4_1.keep Kq5 (ninS ne2_de nin0)
  have f5_2 := f4_2.keep Kq5 (ninS ne2_de nin0)
  have f5_3 := f4_3.keep Kq5
  have f5_4 := f4_4.keep Kq5 (ninS ne2_ro nin0)
  have f5_5 := f4_5.keep Kq5
  have f5_6 := f4_6.keep Kq5 (ninS ne2_cx nin0)
  have f5_7 := f4_7.keep Kq5 (ninS ne2_cx nin0)
  have f5_8 := f4_8.keep Kq5 (ninS ne2_cv nin0)
  have f5_9 := own_Sta_keep f4_9 Kq5 (nsS f4_10.nostat ns0)
  have f5_10 := f4_10.keep Kq5
  have f5_14 := f4_14.keep Kq5 (ninS (Ne.symm ne3_b2) nin0)
  have f5_15 := Ex4.keep Kq5
  have f5_16 := Fc4.keep Kq5 (ninS (Ne.symm nl4_b2.1) nin0)
  have f5_17 := Fv4.keep Kq5 (ninS (Ne.symm nl4_b2.1) nin0)
  have f5_18 := Vna.keep Kq5 (ninS (Ne.symm nl4_b2.2) nin0)
  have C5 := C4.trans (CHr.keep Kq5 (sfS (Safe.exa hZ.alike f4_10 (by decide) (by decide)) sf0) C4.1)
  have Ks5 := Nat.le_trans Ka4 Kq5.1
  have Zs5 : n0 ≤ T5.heap.size := Nat.le_trans Zs4 Kq5.1
  have K5 := K4.trans Kq5 (allS (Or.inr sz2) all0)
  have ne5_de : de ≠ x5_y := Nat.ne_of_lt (Nat.lt_of_lt_of_le f4_0.lt u5_0)
  have ne5_ro : ro ≠ x5_y := Nat.ne_of_lt (Nat.lt_of_lt_of_le f4_3.lt u5_0)
  have ne5_cx : cx ≠ x5_y := Nat.ne_of_lt (Nat.lt_of_lt_of_le f4_5.lt u5_0)
  have ne5_cv : cv ≠ x5_y := Nat.ne_of_lt (Nat.lt_of_lt_of_le f4_8.lt u5_0)
  have ne5_b2 : b2 ≠ x5_y := Nat.ne_of_lt (Nat.lt_of_lt_of_le f4_10.lt u5_0)
  have ne5_x3_y : x3_y ≠ x5_y := Nat.ne_of_lt (Nat.lt_of_lt_of_le f4_14.lt u5_0)
  have ne5_b4 : b4 ≠ x5_y := Nat.ne_of_lt (Nat.lt_of_lt_of_le Ex4.lt u5_0)
  have ne5_d4 : d4 ≠ x5_y := Nat.ne_of_lt (Nat.lt_of_lt_of_le Vna.lt u5_0)
  have sz5_y : h0.size ≤ x5_y := Nat.le_trans K4.1 u5_0
  have gg5_y : n0 ≤ x5_y := Nat.le_trans Zs4 u5_0
  have sfq5_y := Safe.keep (Z := Z) (EL := consts_1) (x := x5_y) Kq5 (sfS (Safe.exa hZ.alike f4_10 (by decide) (by decide)) sf0) C4.1 (Safe.new u5_0)
  refine own_stH (fun _ kk_ => st5.trans kk_) ?_
  show own_GoesH _ _ _ _ _ _ _ _ _ T5 (mkF m 22 #[rv de] [(.ref b2)])
  have Vnb : Arv Z T5.heap x5_y x5_ky .byte (39 : Int32) own_pre (.int (0 : Int32)) := u5_5
  refine own_stH (fun _ kk_ => XS.aloadN X5.here hx rfl (hb hby d4_22) rfl rfl kk_) ?_
  show own_GoesH _ _ _ _ _ _ _ _ _ T5 (mkF m 23 #[rv de] [(.ref de), (.ref b2)])
  obtain ⟨T6, X6, e6, st6⟩ := getF X5 hx hZ hown (host := "") (Or.inl (own_w hw 16 rfl)) Via.refl rfl f5_2 (g := (mkF m 23 #[rv de] [(.ref de), (.ref b2)])) rfl rfl (hb hby d4_23)
  refine own_stH st6 ?_
  show own_GoesH _ _ _ _ _ _ _ _ _ T6 (mkF m 26 #[rv de] [(.ref ro), (.ref b2)])
  obtain ⟨cq7, kq7, q7a, q7b, q7c⟩ := isOf hZ e6 f5_3
  obtain ⟨_, _, ⟨T7, L7, k7, n7⟩, -, X7, ⟨Lc7, hQ7, l7, y7, z7⟩, st7⟩ := X6.virtualBack hx (y := yy27) (z := yy27) hown (mvT hZ (own_w hw 133 rfl)) (mvT hZ (own_w hw 134 rfl)) (notFace_of_selects (args := #[]) (mvT hZ (own_w hw 136 rfl))) (mvT hZ (own_w hw 136 rfl)) (mvT hZ (own_w hw 135 rfl)) (by decide) (backOf (W := 1) (rm21 l Z a0 hw [] (ro) (cx) T5.heap n0 Zs5 f5_3 f5_4) hZ (own_w hw 137 rfl) (own_w hw 38 rfl) (by decide) (by decide)) q7a q7c (g := (mkF m 26 #[rv de] [(.ref ro), (.ref b2)])) rfl (by rw [hml]; rfl) (Steps.refl _) (argsL := []) (rest := [(.ref b2)]) (lenOf pd_19 rfl) rfl (by show 2 * 0 + _ ≤ _; exact Nat.le_of_eq rfl) (hb hby d4_26) (fun _ _ => ⟨rfl, e6, (by decide : 5 + 0 ≤ _), (by decide : 219 + 0 ≤ _)⟩)
  dsimp only [Pt.U, Pt.locs, Pt.cells, Pt.slots] at X7 l7 y7 z7 st7 hQ7
  subst l7 y7 z7
  obtain ⟨rfl, Nq7, eq7⟩ := hQ7
  have N7 := Fr.app N5 Nq7
  refine own_stH (fun _ kk_ => st7.trans kk_) ?_
  show own_GoesH _ _ _ _ _ _ _ _ _ T7 (mkF m 29 #[rv de] [(.ref cx), (.ref b2)])
  obtain ⟨cq8, kq8, q8a, q8b, q8c⟩ := isOf hZ eq7 u5_1
  obtain ⟨_, _, ⟨T8, L8, k8, n8⟩, -, X8, ⟨Lc8, hQ8, l8, y8, z8⟩, st8⟩ := X7.virtualBack hx (y := yy16) (z := yy16) hown (mvT hZ (own_w hw 60 rfl)) (mvT hZ (own_w hw 61 rfl)) (notFace_of_selects (args := #[]) (mvT hZ (own_w hw 63 rfl))) (mvT hZ (own_w hw 63 rfl)) (mvT hZ (own_w hw 62 rfl)) (by decide) (backOf (W := 0) (rmSAc2 l Z a0 hw [] (b2) (cx) (x5_y) (x5_ky) (own_pre) (cv) (kv) (own_cd2) (cs) T5.heap n0 Zs5 u5_1 u5_2 u5_3 u5_4 gg2 Vnb f5_5 f5_6 f5_7 f5_8 f5_9 (by assumption) (Ne.symm ne2_cx) (Ne.symm ne2_cv)) hZ (own_w hw 64 rfl) (own_w hw 43 rfl) (by decide) (by decide)) q8a q8c (g := (mkF m 29 #[rv de] [(.ref cx), (.ref b2)])) rfl (by rw [hml]; rfl) (Steps.refl _) (argsL := [(.ref cx)]) (rest := []) (lenOf pd_18 rfl) rfl (by show 2 * 0 + _ ≤ _; exact Nat.le_of_eq rfl) (hb hby d4_29) (fun _ _ => ⟨rfl, eq7, (by decide : 5 + 1 ≤ _), (by decide : 219 + 80 ≤ _)⟩)
  dsimp only [Pt.U, Pt.locs, Pt.cells, Pt.slots] at X8 l8 y8 z8 st8 hQ8
  subst l8 y8 z8
  obtain ⟨x8_y, x8_ky, rfl, Nq8, Kq8, u8_0, u8_1, u8_2, u8_3, u8_4, u8_5⟩ := hQ8
  have N8 := Fr.app N7 Nq8
  have f8_0 := f5_0.keep Kq8
  have f8_1 := f5_1.keep Kq8 (ninS ne2_de nin0)
  have f8_2 := f5_2.keep Kq8 (ninS ne2_de nin0)
  have f8_3 := f5_3.keep Kq8
  have f8_4 := f5_4.keep Kq8 (ninS ne2_ro nin0)
  have f8_5 := f5_5.keep Kq8
  have f8_6 := f5_6.keep Kq8 (ninS ne2_cx nin0)
  have f8_7 := f5_7.keep Kq8 (ninS ne2_cx nin0)
  have f8_8 := f5_8.keep Kq8 (ninS ne2_cv nin0)
  have f8_9 := own_Sta_keep f5_9 Kq8 (nsS u5_1.nostat ns0)
  have f8_10 := u5_1.keep Kq8
  have f8_11 := f5_14.keep Kq8 (ninS (Ne.symm ne3_b2) nin0)
  have f8_12 := f5_15.keep Kq8
  have f8_13 := f5_16.keep Kq8 (ninS (Ne.symm nl4_b2.1) nin0)
  have f8_14 := f5_17.keep Kq8 (ninS (Ne.symm nl4_b2.1) nin0)
  have f8_15 := f5_18.keep Kq8 (ninS (Ne.symm nl4_b2.2) nin0)
  have f8_16 := Safe.keep Kq8 (sfS (Safe.exa hZ.alike u5_1 (by decide) (by decide)) sf0) C5.1 sfq5_y
  have f8_20 := Vnb.keep Kq8 (ninS (Ne.symm ne5_b2) nin0)
  have C8 := C5.trans (CHr.keep Kq8 (sfS (Safe.exa hZ.alike u5_1 (by decide) (by decide)) sf0) C5.1)
  have Ks8 := Nat.le_trans Ks5 Kq8.1
  have Zs8 : n0 ≤ T8.heap.size := Nat.le_trans Zs5 Kq8.1
  have K8 := K5.trans Kq8 (allS (Or.inr sz2) all0)
  have ne8_de : de ≠ x8_y := Nat.ne_of_lt (Nat.lt_of_lt_of_le f5_0.lt u8_0)
  have ne8_ro : ro ≠ x8_y := Nat.ne_of_lt (Nat.lt_of_lt_of_le f5_3.lt u8_0)
  have ne8_cx : cx ≠ x8_y := Nat.ne_of_lt (Nat.lt_of_lt_of_le f5_5.lt u8_0)
  have ne8_cv : cv ≠ x8_y := Nat.ne_of_lt (Nat.lt_of_lt_of_le f5_8.lt u8_0)
  have ne8_b2 : b2 ≠ x8_y := Nat.ne_of_lt (Nat.lt_of_lt_of_le u5_1.lt u8_0)
  have ne8_x3_y : x3_y ≠ x8_y := Nat.ne_of_lt (Nat.lt_of_lt_of_le f5_14.lt u8_0)
  have ne8_b4 : b4 ≠ x8_y := Nat.ne_of_lt (Nat.lt_of_lt_of_le f5_15.lt u8_0)
  have ne8_d4 : d4 ≠ x8_y := Nat.ne_of_lt (Nat.lt_of_lt_of_le f5_18.lt u8_0)
  have ne8_x5_y : x5_y ≠ x8_y := Nat.ne_of_lt (Nat.lt_of_lt_of_le Vnb.lt u8_0)
  have sz8_y : h0.size ≤ x8_y := Nat.le_trans K5.1 u8_0
  have gg8_y : n0 ≤ x8_y := Nat.le_trans Zs5 u8_0
  have sfq8_y := Safe.keep (Z := Z) (EL := consts_1) (x := x8_y) Kq8 (sfS (Safe.exa hZ.alike u5_1 (by decide) (by decide)) sf0) C5.1 (Safe.new u8_0)
  refine own_stH (fun _ kk_ => st8.trans kk_) ?_
  show own_GoesH _ _ _ _ _ _ _ _ _ T8 (mkF m 32 #[rv de] [(.ref b2)])
  obtain ⟨b9, T9, h9, k9, d9, kc9, X9, e9, E9, hS9, Ka9, hZ, hown, Ex9, Fc9, Fv9, Av9, -, -, hC9, -, hsa9, st9⟩ := ldcCH X8 hx hZ hown (own_w hw 140 rfl) wS rfl hS4 Ks8 hEL (List.mem_of_getElem? (i := 2) rfl) C8.1 (vs := [(.int (34 : Int32)), (.int (125 : Int32)), (.int (125 : Int32))]) (z := (3 : Int32)) ⟨by decide, by decide⟩ (by decide) (by decide) (g := (mkF m 32 #[rv de] [(.ref b2)])) rfl (hb hby d4_32) (n := 12) (by decide) (by decide) (by decide) (by decide)
  have f9_0 := f8_0.ext E9
  have f9_1 := f8_1.ext E9
  have f9_2 := f8_2.ext E9
  have f9_3 := f8_3.ext E9
  have f9_4 := f8_4.ext E9
  have f9_5 := f8_5.ext E9
  have f9_6 := f8_6.ext E9
  have f9_7 := f8_7.ext E9
  have f9_8 := f8_8.ext E9
  have f9_9 := f8_9.ext E9
  have f9_10 := u8_1.ext E9
  have f9_11 := f8_11.ext E9
  have f9_12 := f8_12.ext E9
  have f9_13 := f8_13.ext E9
  have f9_14 := f8_14.ext E9
  have f9_15 := f8_15.ext E9
  have f9_16 := CHr.safe hC9 f8_20.lt f8_16
  have f9_17 := f8_20.ext E9
  have f9_18 := CHr.safe hC9 u8_5.lt sfq8_y
  have f9_19 := u8_2.ext E9
  have f9_20 := u8_3.ext E9
  have f9_21 := u8_4.ext E9
  have f9_22 := u8_5.ext E9
  have C9 := C8.trans hC9
  have Zs9 : n0 ≤ h9.size := Nat.le_trans Zs8 E9.1
  have K9 := K8.ext E9
  have Ks9 := Nat.le_trans Ks8 E9.1
  have nl9_de := hsa9 de (Safe.exa hZ.alike f9_0 (by decide) (by decide))
  have nl9_ro := hsa9 ro (Safe.exa hZ.alike f9_3 (by decide) (by decide))
  have nl9_b2 := hsa9 b2 (Safe.exa hZ.alike f9_10 (by decide) (by decide))
  have nl9_x5_y := hsa9 x5_y f9_16
  have nl9_x8_y := hsa9 x8_y f9_18
  refine own_stH st9 ?_
  show own_GoesH _ _ _ _ _ _ _ _ _ T9 (mkF m 34 #[rv de] [(.ref b9), (.ref b2)])
  have Vnc : Arv Z h9 d9 kc9 .byte (3 : Int32) own_suf (.int (0 : Int32)) := Av9
  obtain ⟨cq10, kq10, q10a, q10b, q10c⟩ := isOf hZ e9 f9_10
  obtain ⟨_, _, ⟨T10, L10, k10, n10⟩, -, X10, ⟨Lc10, hQ10, l10, y10, z10⟩, st10⟩ := X9.virtualBack hx (y := yy16) (z := yy16) hown (mvT hZ (own_w hw 60 rfl)) (mvT hZ (own_w hw 61 rfl)) (notFace_of_selects (args := #[]) (mvT hZ (own_w hw 63 rfl))) (mvT hZ (own_w hw 63 rfl)) (mvT hZ (own_w hw 62 rfl)) (by decide) (backOf (W := 0) (rmSAs2 l Z a0 hw [] (b2) (b9) (x8_y) (x8_ky) ((own_cp own_cd2 (own_cp own_pre own_z80 (0 : Int32) (0 : Int32) (39 : Int32) (.int (0 : Int32))) (0 : Int32) (39 : Int32) (11 : Int32) (.int (0 : Int32)))) (d9) (kc9) (own_suf) (cs) h9 n0 Zs9 f9_10 f9_19 f9_20 f9_21 gg2 f9_22 Ex9 Fc9 Fv9 Vnc f9_9 (by assumption) nl9_b2.1 nl9_b2.2 gg8_y ne8_b2 (Nat.le_of_ble_eq_true rfl)) hZ (own_w hw 64 rfl) (own_w hw 43 rfl) (by decide) (by decide)) q10a q10c (g := (mkF m 34 #[rv de] [(.ref b9), (.ref b2)])) rfl (by rw [hml]; rfl) (Steps.refl _) (argsL := [(.ref b9)]) (rest := []) (lenOf pd_18 rfl) rfl (by show 2 * 0 + _ ≤ _; exact Nat.le_of_eq rfl) (hb hby d4_34) (fun _ _ => ⟨rfl, e9, (by decide : 8 + 0 ≤ _), (by decide : 315 + 0 ≤ _)⟩)
  dsimp only [Pt.U, Pt.locs, Pt.cells, Pt.slots] at X10 l10 y10 z10 st10 hQ10
  subst l10 y10 z10
  obtain ⟨rfl, Nq10, Kq10, u10_0, u10_1, u10_2, u10_3, u10_4⟩ := hQ10
  have N10 := Fr.app N8 Nq10
  have f10_0 := f9_0.keep Kq10
  have f10_1 := f9_1.keep Kq10 (ninS ne2_de (ninS ne8_de nin0))
  have f10_2 := f9_2.keep Kq10 (ninS ne2_de (ninS ne8_de nin0))
  have f10_3 := f9_3.keep Kq10
  have f10_4 := f9_4.keep Kq10 (ninS ne2_ro (ninS ne8_ro nin0))
  have f10_5 := f9_5.keep Kq10
  have f10_6 := f9_6.keep Kq10 (ninS ne2_cx (ninS ne8_cx nin0))
  have f10_7 := f9_7.keep Kq10 (ninS ne2_cx (ninS ne8_cx nin0))
  have f10_8 := f9_8.keep Kq10 (ninS ne2_cv (ninS ne8_cv nin0))
  have f10_9 := own_Sta_keep f9_9 Kq10 (nsS f9_10.nostat (nsS f9_22.nostat ns0))
  have f10_10 := f9_10.keep Kq10
  have f10_11 := f9_11.keep Kq10 (ninS (Ne.symm ne3_b2) (ninS ne8_x3_y nin0))
  have f10_12 := f9_12.keep Kq10
  have f10_13 := f9_13.keep Kq10 (ninS (Ne.symm nl4_b2.1) (ninS ne8_b4 nin0))
  have f10_14 := f9_14.keep Kq10 (ninS (Ne.symm nl4_b2.1) (ninS ne8_b4 nin0))
  have f10_15 := f9_15.keep Kq10 (ninS (Ne.symm nl4_b2.2) (ninS ne8_d4 nin0))
  have f10_16 := Safe.keep Kq10 (sfS (Safe.exa hZ.alike f9_10 (by decide) (by decide)) (sfS f9_18 sf0)) C9.1 f9_16
  have f10_17 := f9_17.keep Kq10 (ninS (Ne.symm ne5_b2) (ninS ne8_x5_y nin0))
  have f10_18 := Safe.keep Kq10 (sfS (Safe.exa hZ.alike f9_10 (by decide) (by decide)) (sfS f9_18 sf0)) C9.1 f9_18
  have f10_23 := Ex9.keep Kq10
  have f10_24 := Fc9.keep Kq10 (ninS (Ne.symm nl9_b2.1) (ninS (Ne.symm nl9_x8_y.1) nin0))
  have f10_25 := Fv9.keep Kq10 (ninS (Ne.symm nl9_b2.1) (ninS (Ne.symm nl9_x8_y.1) nin0))
  have f10_26 := Vnc.keep Kq10 (ninS (Ne.symm nl9_b2.2) (ninS (Ne.symm nl9_x8_y.2) nin0))
  have C10 := C9.trans (CHr.keep Kq10 (sfS (Safe.exa hZ.alike f9_10 (by decide) (by decide)) (sfS f9_18 sf0)) C9.1)
  have Ks10 := Nat.le_trans Ka9 Kq10.1
  have Zs10 : n0 ≤ T10.heap.size := Nat.le_trans Zs9 Kq10.1
  have K10 := K9.trans Kq10 (allS (Or.inr sz2) (allS (Or.inr sz8_y) all0))
  refine own_stH (fun _ kk_ => st10.trans kk_) ?_
  show own_GoesH _ _ _ _ _ _ _ _ _ T10 (mkF m 37 #[rv de] [(.ref b2)])
  obtain ⟨cq11, kq11, q11a, q11b, q11c⟩ := isOf hZ rfl u10_0
  obtain ⟨_, _, ⟨T11, L11, k11, n11⟩, -, X11, ⟨Lc11, hQ11, l11, y11, z11⟩, st11⟩ := X10.virtualBack hx (y := yy26) (z := yy26) hown (mvT hZ (own_w hw 141 rfl)) (mvT hZ (own_w hw 142 rfl)) (notFace_of_selects (args := #[]) (mvT hZ (own_w hw 144 rfl))) (mvT hZ (own_w hw 144 rfl)) (mvT hZ (own_w hw 143 rfl)) (by decide) (backOf (W := 0) (rmTSt2 l Z a0 hw [] (b2) (x8_y) (x8_ky) ((own_cp own_suf (own_cp own_cd2 (own_cp own_pre own_z80 (0 : Int32) (0 : Int32) (39 : Int32) (.int (0 : Int32))) (0 : Int32) (39 : Int32) (11 : Int32) (.int (0 : Int32))) (0 : Int32) (50 : Int32) (3 : Int32) (.int (0 : Int32)))) (cs) T10.heap n0 Zs10 u10_0 u10_1 u10_2 u10_3 u10_4 f10_9 (by assumption)) hZ (own_w hw 145 rfl) (own_w hw 43 rfl) (by decide) (by decide)) q11a q11c (g := (mkF m 37 #[rv de] [(.ref b2)])) rfl (by rw [hml]; rfl) (Steps.refl _) (argsL := []) (rest := []) (lenOf pd_19 rfl) rfl (by show 2 * 0 + _ ≤ _; exact Nat.le_of_eq rfl) (hb hby d4_37) (fun _ _ => ⟨rfl, rfl, (by decide : 8 + 2 ≤ _), (by decide : 315 + 57 ≤ _)⟩)
  dsimp only [Pt.U, Pt.locs, Pt.cells, Pt.slots] at X11 l11 y11 z11 st11 hQ11
  subst l11 y11 z11
  obtain ⟨x11_s9, x11_y, x11_ky, rfl, Nq11, Kq11, u11_0, u11_1, u11_2, u11_3, u11_4⟩ := hQ11
  have N11 := Fr.app N10 Nq11
  have f11_0 := f10_0.keep Kq11
  have f11_1 := f10_1.keep Kq11 nin0
  have f11_2 := f10_2.keep Kq11 nin0
  have f11_3 := f10_3.keep Kq11
  have f11_4 := f10_4.keep Kq11 nin0
  have f11_5 := f10_5.keep Kq11
  have f11_6 := f10_6.keep Kq11 nin0
  have f11_7 := f10_7.keep Kq11 nin0
  have f11_8 := f10_8.keep Kq11 nin0
  have f11_9 := own_Sta_keep f10_9 Kq11 ns0
  have f11_10 := u10_0.keep Kq11
  have f11_11 := f10_11.keep Kq11 nin0
  have f11_12 := f10_12.keep Kq11
  have f11_13 := f10_13.keep Kq11 nin0
  have f11_14 := f10_14.keep Kq11 nin0
  have f11_15 := f10_15.keep Kq11 nin0
  have f11_16 := Safe.keep Kq11 sf0 C10.1 f10_16
  have f11_17 := f10_17.keep Kq11 nin0
  have f11_18 := Safe.keep Kq11 sf0 C10.1 f10_18
  have f11_19 := f10_23.keep Kq11
  have f11_20 := f10_24.keep Kq11 nin0
  have f11_21 := f10_25.keep Kq11 nin0
  have f11_22 := f10_26.keep Kq11 nin0
  have f11_23 := u10_1.keep Kq11 nin0
  have f11_24 := u10_2.keep Kq11 nin0
  have f11_25 := u10_3.keep Kq11 nin0
  have f11_26 := u10_4.keep Kq11 nin0
  have C11 := C10.trans (CHr.keep Kq11 sf0 C10.1)
  have Ks11 := Nat.le_trans Ks10 Kq11.1
  have Zs11 : n0 ≤ T11.heap.size := Nat.le_trans Zs10 Kq11.1
  have K11 := K10.trans Kq11 all0
  have ne11_de : de ≠ x11_s9 := Nat.ne_of_lt (Nat.lt_of_lt_of_le f10_0.lt u11_0)
  have ne11_ro : ro ≠ x11_s9 := Nat.ne_of_lt (Nat.lt_of_lt_of_le f10_3.lt u11_0)
  have ne11_cx : cx ≠ x11_s9 := Nat.ne_of_lt (Nat.lt_of_lt_of_le f10_5.lt u11_0)
  have ne11_cv : cv ≠ x11_s9 := Nat.ne_of_lt (Nat.lt_of_lt_of_le f10_8.lt u11_0)
  have ne11_b2 : b2 ≠ x11_s9 := Nat.ne_of_lt (Nat.lt_of_lt_of_le u10_0.lt u11_0)
  have ne11_x3_y : x3_y ≠ x11_s9 := Nat.ne_of_lt (Nat.lt_of_lt_of_le f10_11.lt u11_0)
  have ne11_b4 : b4 ≠ x11_s9 := Nat.ne_of_lt (Nat.lt_of_lt_of_le f10_12.lt u11_0)
  have ne11_d4 : d4 ≠ x11_s9 := Nat.ne_of_lt (Nat.lt_of_lt_of_le f10_15.lt u11_0)
  have ne11_x5_y : x5_y ≠ x11_s9 := Nat.ne_of_lt (Nat.lt_of_lt_of_le f10_17.lt u11_0)
  have ne11_b9 : b9 ≠ x11_s9 := Nat.ne_of_lt (Nat.lt_of_lt_of_le f10_23.lt u11_0)
  have ne11_d9 : d9 ≠ x11_s9 := Nat.ne_of_lt (Nat.lt_of_lt_of_le f10_26.lt u11_0)
  have ne11_x8_y : x8_y ≠ x11_s9 := Nat.ne_of_lt (Nat.lt_of_lt_of_le u10_4.lt u11_0)
  have sz11_s9 : h0.size ≤ x11_s9 := Nat.le_trans K10.1 u11_0
  have gg11_s9 : n0 ≤ x11_s9 := Nat.le_trans Zs10 u11_0
  refine own_stH (fun _ kk_ => st11.trans kk_) ?_
  show own_GoesH _ _ _ _ _ _ _ _ _ T11 (mkF m 40 #[rv de] [(.ref x11_s9)])
  have Vnd : Arv Z T11.heap x11_y x11_ky .byte (53 : Int32) own_x2 (.int (0 : Int32)) := u11_4
  refine own_endH (v := (some (.ref x11_s9))) X11 hlk hS9 Ks11 hZ hEL hh rfl C11 (fun h => by rw [Bd.returns] at h; cases h) (by decide) (by decide) ?_ (fun fs hr => retOut X11 hx Bd.returns (own_narR rfl) (Or.inr (Or.inr (Or.inr (Or.inr ⟨rfl, rfl, rfl⟩)))) (hb hby d4_40) hr)
  show QTJ2 Z de ro cx cv kv cs h0 n0 (some (.ref x11_s9)) T11.heap _
  exact ⟨x11_s9, x11_y, x11_ky, rfl, N11, K11, u11_1, u11_2, u11_3, Vnd⟩
theorem own_hwe {a0 : Array Value} {Z : State} (hw : ∀ d ∈ tables_1, d.before a0 Z = true) : ∀ d ∈ StrChars.Road.wordsEq, d.before a0 Z = true := fun d hd => hw d ((by decide +kernel : ∀ d ∈ StrChars.Road.wordsEq, d ∈ tables_1) d hd)
def own_ok (us : List Int32) (z : Int32) (vs : List Value) : Prop := StrChars.Road.CodA us 0 z vs ∧ (∀ c ∈ us, ¬ c < 0 ∧ ¬ (65535 : Int32) < c) ∧ us.length ≤ 4000
theorem own_okn {us : List Int32} (h : ∀ c ∈ us, own_in c) (hl : us.length ≤ 4000) : own_ok us (Int32.ofNat us.length) (us.map fun c => Value.int (own_by c)) := by
  refine ⟨Or.inl ⟨rfl, rfl, rfl, fun c hc => ?_⟩, fun c hc => ?_, hl⟩ <;> (have q := h c hc; unfold own_in at q; simp only [Int32.lt_iff_toInt_lt, Int32.reduceToInt]; omega)
theorem own_eqW {p : Program} {l : Launch} {e : Env} {R : Room} {s : State} {args : Array Value} {below : List Frame} {len W : Nat} {Z : State} {a0 : Array Value} {h : Heap} {n0 : Nat} (hZ : Z.Warmed39 s.vm) (hw : ∀ d ∈ tables_1, d.before a0 Z = true) {kI : Nat} (wi : (Jvm.Cond.instantiable "java/lang/String" kI).before a0 Z = true)
    {x t : Addr} {kb : ClassId} {us : List Int32} {N2 : Int32} {vs : List Value} (E : Exa Z h x "java/lang/String") (C : Fld Z h x "java/lang/String" "coder" "B" (.int 0)) (V : Fld Z h x "java/lang/String" "value" "[B" (.ref t)) {y t' : Addr} {kb' : ClassId} {ds : List Int32} {N2' : Int32} {vs' : List Value} (E' : Exa Z h y "java/lang/String") (C' : Fld Z h y "java/lang/String" "coder" "B" (.int 0)) (V' : Fld Z h y "java/lang/String" "value" "[B" (.ref t'))
    (K : Arv Z h t kb .byte N2 vs (.int 0)) (K' : Arv Z h t' kb' .byte N2' vs' (.int 0)) (o : own_ok us N2 vs) (o' : own_ok ds N2' vs') {z : Int32} (S : Sta Z h "java/lang/String" "COMPACT_STRINGS" "Z" (.int z)) (hz : ¬ z = 0) (hfr : 2 ≤ R.frames) (hlo : W + 28 ≤ R.locals) :
    Back l R p e below s args (⟨"java/lang/String", "equals", "(Ljava/lang/Object;)Z"⟩ : MethodName) len W (fun P a => a = #[.ref x, .ref y] ∧ P.U.heap = h ∧ P.cells + 0 ≤ R.cells ∧ P.slots + 0 ≤ R.slots)
      (fun P _ v B => ∃ L, (v = some (.int (own_b (us = ds))) ∧ Fr n0 L ∧ B.U.heap = h) ∧ B.locs = P.locs ++ L ∧ B.cells = P.cells + 0 ∧ B.slots = P.slots + 0) := by
  intro m meth c P g ig mk a X hg hsize hdg hW hn hp'
  obtain ⟨v, B, X', ⟨L, ⟨hq, hL, hh⟩, hl, hk, hs⟩, st⟩ := StrChars.Road.eqW hZ (own_hwe hw) wi E V C K o.1 o.2.1 o.2.2 E' V' C' K' o'.1 o'.2.1 o'.2.2 S hz hfr hlo m meth c P g ig mk a X hg hsize hdg hW hn hp'
  refine ⟨v, B, X', ⟨L, ⟨?_, ?_, hh⟩, hl, hk, hs⟩, st⟩
  · rcases hq with ⟨hv, q⟩ | ⟨hv, q⟩
    · rw [hv, own_b1 q]
    · rw [hv, own_b0 q]
  · rw [hL]; intro _ q; cases q
theorem own_okgr : own_ok own_gru (17 : Int32) own_gr := ⟨Or.inl ⟨rfl, by decide, by decide +kernel, by decide⟩, by decide, by decide⟩
theorem own_okx0 : own_ok own_x0u (55 : Int32) own_x0 := ⟨Or.inl ⟨rfl, by decide, by decide +kernel, by decide⟩, by decide, by decide⟩
theorem own_okx1 : own_ok own_x1u (60 : Int32) own_x1 := ⟨Or.inl ⟨rfl, by decide, by decide +kernel, by decide⟩, by decide, by decide⟩
theorem own_okx2 : own_ok own_x2u (53 : Int32) own_x2 := ⟨Or.inl ⟨rfl, by decide, by decide +kernel, by decide⟩, by decide, by decide⟩
theorem own_ord {args : Array Value} {s : State} {t : Term} {a : Addr} {C n d : String} {k : Int32} (et : t.eval args s none [] s = some (.ref a)) (h : (Jvm.Cond.eq (.field t C n d) (.int k)).value args s none s [] = some true) : Fld s s.heap a C n d (.int k) := by
  refine Fld.start ?_
  have e1 := fld_at (C := C) (n := n) (dd := d) et
  obtain ⟨x, y, h1, h2, h3, -⟩ := cmp_v (Or.inl h)
  rw [e1] at h1
  have h4 : y = .int k := (Option.some.inj h2).symm
  subst h4
  cases x <;> simp [Kin, Value.isRef] at h3
  rename_i z
  have q : (Jvm.Cond.eq (.field t C n d) (.int k)).value args s none s [] = some (decide (z = k)) := by simp [Cond.value, Term.eval, et, h1]
  rw [h1, gotT q h]
theorem own_fref {args : Array Value} {s : State} {t : Term} {a : Addr} {C n d K : String} (et : t.eval args s none [] s = some (.ref a)) (h : (Jvm.Cond.exactly (.field t C n d) K).value args s none s [] = some true) : ∃ k, Fld s s.heap a C n d (.ref k) := by
  obtain ⟨k, e⟩ := exa_v h
  exact ⟨k, Fld.start ((fld_at et).symm.trans e)⟩
theorem own_fnull {args : Array Value} {s : State} {t : Term} {a : Addr} {C n d : String} (et : t.eval args s none [] s = some (.ref a)) (h : (Jvm.Cond.eq (.field t C n d) .null).value args s none s [] = some true) : Fld s s.heap a C n d .null :=
  Fld.start ((fld_at et).symm.trans (null_v h))
theorem own_fe {args : Array Value} {s : State} {t : Term} {a : Addr} {C n d K : String} (et : t.eval args s none [] s = some (.ref a)) (h : (Jvm.Cond.exactly (.field t C n d) K).value args s none s [] = some true) : ∃ k, Fld s s.heap a C n d (.ref k) ∧ (Term.field t C n d).eval args s none [] s = some (.ref k) ∧ Exa s s.heap k K := by
  obtain ⟨k, ek⟩ := exa_v h
  exact ⟨k, Fld.start ((fld_at et).symm.trans ek), ek, Exa.start ek h⟩
theorem own_lz {args : Array Value} {s : State} {t : Term} {a : Addr} {z : Int32} {c : Cell} {ty : FieldType} (hl : (Jvm.Cond.eq (.length t) (.int z)).value args s none s [] = some true) (et : t.eval args s none [] s = some (.ref a)) (A : Arr s s.heap a c ty) : c.slots.size < 2 ^ 31 ∧ c.slots.size.toInt32 = z := by
  have ha := Arr.fin (Vm.Alike.refl _) A
  by_cases q : c.slots.size < 2 ^ 31
  · exact ⟨q, gotT (Cond.eq_ints (len_f et ha q) (Term.int_eval z)) hl⟩
  · obtain ⟨x, y, e1, -⟩ := cmp_v (Or.inl hl)
    simp [Term.eval, et, ha] at e1
    exact absurd e1.1 (by omega)
theorem own_el {args : Array Value} {s : State} {t : Term} {a : Addr} {c : Cell} {j k : Int32} {i : Nat} (h : (Jvm.Cond.eq (.elem t (.int j)) (.int k)).value args s none s [] = some true) (et : t.eval args s none [] s = some (.ref a)) (hc : s.heap[a]? = some c) (hi : j.toNatClampNeg = i) : c.slots[i]? = some (.int k) := by
  obtain ⟨x, y, e1, e2, -, ky⟩ := cmp_v (Or.inl h)
  cases (Term.int_eval k).symm.trans e2
  obtain ⟨z, rfl⟩ := ky
  have q := gotT (Cond.eq_ints e1 (Term.int_eval k)) h
  subst q hi
  exact (elem_in e1 et (Term.int_eval j) hc).2
theorem own_elR {args : Array Value} {s : State} {t u : Term} {a b : Addr} {c : Cell} {j : Int32} {i : Nat} (h : (Jvm.Cond.eq (.elem t (.int j)) u).value args s none s [] = some true) (et : t.eval args s none [] s = some (.ref a)) (hc : s.heap[a]? = some c) (eu : u.eval args s none [] s = some (.ref b)) (hi : j.toNatClampNeg = i) : c.slots[i]? = some (.ref b) := by
  obtain ⟨x, y, e1, e2, -, ky⟩ := cmp_v (Or.inl h)
  cases eu.symm.trans e2
  have q := gotT (eq_R e1 eu ky.2 rfl) h
  subst q hi
  exact (elem_in e1 et (Term.int_eval j) hc).2
theorem own_av {args : Array Value} {s : State} {t : Term} {a : Addr} {z : Int32} {ty : FieldType} {vs : List Value} {dv : Value} (hfit : Fit s) (et : t.eval args s none [] s = some (.ref a)) (h : (Jvm.Cond.arrayOf t ty).value args s none s [] = some true) (hl : (Jvm.Cond.eq (.length t) (.int z)).value args s none s [] = some true) (hz : ¬ z < 0) (hn : z.toNatClampNeg = vs.length) (H : ∀ c, s.heap[a]? = some c → HasL c 0 vs) : ∃ k, Arv s s.heap a k ty z vs dv := by
  obtain ⟨c, A⟩ := Arr.start et h
  obtain ⟨q1, q2⟩ := own_lz hl et A
  exact ⟨_, Arv.start hfit A q1 q2 hz hn (H c A.1)⟩
theorem pd_20 : parseMethodDescriptor "(ZLcom/example/firm_duties/firmduties/Decision$Reason;)V" = some ⟨[.boolean, (.object "com/example/firm_duties/firmduties/Decision$Reason")], none⟩ := by decide +kernel
theorem pd_21 : parseMethodDescriptor "(Ljava/lang/Object;)Z" = some ⟨[(.object "java/lang/Object")], some .boolean⟩ := by decide +kernel
theorem pn_rm0 : plainFor x = true := by first | exact plainFor_of_name (by first | (simp [plainName, overriddenIn]; done) | decide +kernel) | decide +kernel
theorem ef_rm0 (m : MethodId) (p1 : Int32) : entryFrame m #[(.int p1)] maxLocals = (mkF m 0 #[iv p1, .unset, .unset, .unset] []) := by first | (simp [entryFrame, mkF, argsToLocals, Value.category, maxLocals]; done) | rfl
def Q0 (Z : State) (p1 : Int32) (cs : Int32) (r0a : Addr) (x0a : Addr) (v0a : Addr) (k0a : ClassId) (r1a : Addr) (x1a : Addr) (v1a : Addr) (k1a : ClassId) (r2a : Addr) (x2a : Addr) (v2a : Addr) (k2a : ClassId) (h0 : Heap) (n0 : Nat) (v_ : Option Value) (h_ : Heap) (L_ : List Loc) : Prop := (v_ = some (.int (1 : Int32))) ∧ (Fr n0 L_)
set_option maxRecDepth 65536 in
set_option maxHeartbeats 40000000 in
theorem rm0 (l : Launch) (Z : State) (a0 : Array Value) (hw : ∀ d ∈ tables_1, d.before a0 Z = true) (ws : List Jvm.Cond) (hEL : EW Z a0 consts_1) (p1 : Int32) (cs : Int32) (r0a : Addr) (x0a : Addr) (v0a : Addr) (k0a : ClassId) (r1a : Addr) (x1a : Addr) (v1a : Addr) (k1a : ClassId) (r2a : Addr) (x2a : Addr) (v2a : Addr) (k2a : ClassId) (h0 : Heap) (n0 : Nat) (Z0 : n0 ≤ h0.size) (p_0 : Sta Z h0 "java/lang/String" "COMPACT_STRINGS" "Z" (.int cs)) (hcs : ¬ cs = (0 : Int32)) (p_2 : Sta Z h0 "com/example/firm_duties/firmduties/Decision$Reason" "NOT_PERMITTED" "Lcom/example/firm_duties/firmduties/Decision$Reason;" (.ref r0a)) (p_3 : Exa Z h0 r0a "com/example/firm_duties/firmduties/Decision$Reason") (p_4 : Fld Z h0 r0a "com/example/firm_duties/firmduties/Decision$Reason" "code" "Ljava/lang/String;" (.ref x0a)) (p_5 : Exa Z h0 x0a "java/lang/String") (p_6 : Fld Z h0 x0a "java/lang/String" "coder" "B" (.int (0 : Int32))) (p_7 : Fld Z h0 x0a "java/lang/String" "value" "[B" (.ref v0a)) (p_8 : Arv Z h0 v0a k0a .byte (13 : Int32) own_cd0 (.int (0 : Int32))) (p_9 : Sta Z h0 "com/example/firm_duties/firmduties/Decision$Reason" "SEPARATION_OF_DUTY" "Lcom/example/firm_duties/firmduties/Decision$Reason;" (.ref r1a)) (p_10 : Exa Z h0 r1a "com/example/firm_duties/firmduties/Decision$Reason") (p_11 : Fld Z h0 r1a "com/example/firm_duties/firmduties/Decision$Reason" "code" "Ljava/lang/String;" (.ref x1a)) (p_12 : Exa Z h0 x1a "java/lang/String") (p_13 : Fld Z h0 x1a "java/lang/String" "coder" "B" (.int (0 : Int32))) (p_14 : Fld Z h0 x1a "java/lang/String" "value" "[B" (.ref v1a)) (p_15 : Arv Z h0 v1a k1a .byte (18 : Int32) own_cd1 (.int (0 : Int32))) (p_16 : Sta Z h0 "com/example/firm_duties/firmduties/Decision$Reason" "BAD_REQUEST" "Lcom/example/firm_duties/firmduties/Decision$Reason;" (.ref r2a)) (p_17 : Exa Z h0 r2a "com/example/firm_duties/firmduties/Decision$Reason") (p_18 : Fld Z h0 r2a "com/example/firm_duties/firmduties/Decision$Reason" "code" "Ljava/lang/String;" (.ref x2a)) (p_19 : Exa Z h0 x2a "java/lang/String") (p_20 : Fld Z h0 x2a "java/lang/String" "coder" "B" (.int (0 : Int32))) (p_21 : Fld Z h0 x2a "java/lang/String" "value" "[B" (.ref v2a)) (p_22 : Arv Z h0 v2a k2a .byte (11 : Int32) own_cd2 (.int (0 : Int32))) :
    MetFree l x (head1 (Jvm.Cond.code x code maxLocals ret :: ws) room_1) (fun a_ U_ => a_ = #[(.int p1)] ∧ Z.Warmed39 U_.vm ∧ U_.heap = h0 ∧ CHv Z consts_1 U_.vm h0 ∧ ∀ x_ ∈ ([] : List Addr), Safe Z consts_1 U_.vm h0 x_) (fun _ _ _ _ _ => True) (fun _ U_ o_ U1_ => ∃ v_ L_, o_ = .returned v_ ∧ Q0 Z p1 cs r0a x0a v0a k0a r1a x1a v1a k1a r2a x2a v2a k2a h0 n0 v_ U1_.heap L_ ∧ CHr Z consts_1 U_.vm U_.heap U1_.vm U1_.heap ∧ ReturnedEndW U_ o_ U1_ L_ 40 7680) := by
  refine MetFree.of_bodySF pn_rm0 hisR ?_
  intro p e s m args below meth c s₁ Bd hml0 hP hK
  obtain ⟨rfl, hZ, hh, hCH, hSf⟩ := hP
  have hx := Bd.exec
  have hby := Bd.bytes
  have hlk : meth.locks = false := Bd.notSynchronized
  have hml : c.maxLocals = 4 := hml0
  have hown : s.vm.findClass "com/example/firm_duties/firmduties/DecisionToJsonPinLaw" = some m.cls := findClass_of_methodNamed Bd.named
  have hnm := (name_of_methodNamed Bd.named Bd.method).1
  have X0 : Stand p l e room_1 (s.setVm s.vm) m #[(.int p1)] below meth c s₁ [] 0 0 := Stand.of_body Bd
  have e0 : s₁.heap = h0 := by rw [← hh, Bd.state]; rfl
  have N0 := Fr.nil n0
  have hS0 : s.Since s.vm n0 := (State.WarmedH.refl s).since n0
  have wS : ∀ d ∈ Bundle.stringAtoms, d.before a0 Z = true := by
    intro d hd
    simp only [Bundle.stringAtoms, List.mem_cons, List.not_mem_nil, or_false] at hd
    rcases hd with rfl | rfl | rfl | rfl | rfl | rfl | rfl
    · exact (own_w hw 19 rfl)
    · exact (own_w hw 20 rfl)
    · exact (own_w hw 21 rfl)
    · exact (own_w hw 22 rfl)
    · exact (own_w hw 23 rfl)
    · exact (own_w hw 24 rfl)
    · exact (own_w hw 25 rfl)
  have C0 := CHr.refl hCH
  show own_GoesH p e below s Z consts_1 (Q0 Z p1 cs r0a x0a v0a k0a r1a x1a v1a k1a r2a x2a v2a k2a h0 n0) 40 7680 s₁ (entryFrame m #[(.int p1)] maxLocals)
  rw [ef_rm0 m p1]
  show own_GoesH p e below s Z consts_1 (Q0 Z p1 cs r0a x0a v0a k0a r1a x1a v1a k1a r2a x2a v2a k2a h0 n0) 40 7680 s₁ (mkF m 0 #[iv p1, .unset, .unset, .unset] [])
  refine own_stH (fun _ kk_ => XS.iloadN X0.here hx rfl (hb hby at_0) rfl (XS.iconst X0.here hx rfl (hb hby at_1) (XS.iand X0.here hx rfl (hb hby at_2) rfl (XS.istoreN X0.here hx rfl (hb hby at_3) rfl (l' := #[iv p1, iv (p1 &&& (3 : Int32)), .unset, .unset]) rfl (XS.iloadN X0.here hx rfl (hb hby at_4) rfl kk_))))) ?_
  show own_GoesH _ _ _ _ _ _ _ _ _ s₁ (mkF m 5 #[iv p1, iv (p1 &&& (3 : Int32)), .unset, .unset] [(.int (p1 &&& (3 : Int32)))])
  rcases Classical.em ((p1 &&& (3 : Int32)) = (0 : Int32)) with q0 | q0
  · refine own_stH (fun _ kk_ => XS.ifNo X0.here hx rfl (hb hby at_5) rfl (XT.i0_ne_f q0) kk_) ?_
    show own_GoesH _ _ _ _ _ _ _ _ _ s₁ (mkF m 8 #[iv p1, iv (p1 &&& (3 : Int32)), .unset, .unset] [])
    obtain ⟨T1, h1, X1, e1, E1, A1, D1, -, st1⟩ := newO X0 hx hZ hown (own_w hw 0 rfl) (own_w hw 1 rfl) (own_w hw 2 rfl) e0 (g := (mkF m 8 #[iv p1, iv (p1 &&& (3 : Int32)), .unset, .unset] [])) rfl (hb hby at_8) (by decide) (by decide)
    obtain ⟨b1, gx1⟩ : ∃ z, z = h0.size := ⟨_, rfl⟩
    rw [← gx1] at A1 D1 st1
    have ne1_r0a : r0a ≠ b1 := Nat.ne_of_lt (Nat.lt_of_lt_of_eq p_3.lt gx1.symm)
    have ne1_x0a : x0a ≠ b1 := Nat.ne_of_lt (Nat.lt_of_lt_of_eq p_5.lt gx1.symm)
    have ne1_v0a : v0a ≠ b1 := Nat.ne_of_lt (Nat.lt_of_lt_of_eq p_8.lt gx1.symm)
    have ne1_r1a : r1a ≠ b1 := Nat.ne_of_lt (Nat.lt_of_lt_of_eq p_10.lt gx1.symm)
    have ne1_x1a : x1a ≠ b1 := Nat.ne_of_lt (Nat.lt_of_lt_of_eq p_12.lt gx1.symm)
    have ne1_v1a : v1a ≠ b1 := Nat.ne_of_lt (Nat.lt_of_lt_of_eq p_15.lt gx1.symm)
    have ne1_r2a : r2a ≠ b1 := Nat.ne_of_lt (Nat.lt_of_lt_of_eq p_17.lt gx1.symm)
    have ne1_x2a : x2a ≠ b1 := Nat.ne_of_lt (Nat.lt_of_lt_of_eq p_19.lt gx1.symm)
    have ne1_v2a : v2a ≠ b1 := Nat.ne_of_lt (Nat.lt_of_lt_of_eq p_22.lt gx1.symm)
    have gg1 : n0 ≤ b1 := Nat.le_trans Z0 (Nat.le_of_eq gx1.symm)
    have f1_0 := p_0.ext E1
    have f1_1 := p_2.ext E1
    have f1_2 := p_3.ext E1
    have f1_3 := p_4.ext E1
    have f1_4 := p_5.ext E1
    have f1_5 := p_6.ext E1
    have f1_6 := p_7.ext E1
    have f1_7 := p_8.ext E1
    have f1_8 := p_9.ext E1
    have f1_9 := p_10.ext E1
    have f1_10 := p_11.ext E1
    have f1_11 := p_12.ext E1
    have f1_12 := p_13.ext E1
    have f1_13 := p_14.ext E1
    have f1_14 := p_15.ext E1
    have f1_15 := p_16.ext E1
    have f1_16 := p_17.ext E1
    have f1_17 := p_18.ext E1
    have f1_18 := p_19.ext E1
    have f1_19 := p_20.ext E1
    have f1_20 := p_21.ext E1
    have f1_21 := p_22.ext E1
    have C1 := C0.trans (CHr.ext E1 C0.1)
    have Zs1 : n0 ≤ h1.size := Nat.le_trans Z0 E1.1
    have Ks1 := Nat.le_trans Z0 E1.1
    have fn1_granted : Fld Z h1 b1 "com/example/firm_duties/firmduties/Decision" "granted" "Z" (.int (0 : Int32)) := D1 (Or.inr (own_w hw 15 rfl)) (ty := .boolean) (by decide)
    have fn1_reason : Fld Z h1 b1 "com/example/firm_duties/firmduties/Decision" "reason" "Lcom/example/firm_duties/firmduties/Decision$Reason;" .null := D1 (Or.inr (own_w hw 17 rfl)) (ty := (.object "com/example/firm_duties/firmduties/Decision$Reason")) (by decide)
    refine own_stH st1 ?_
    show own_GoesH _ _ _ _ _ _ _ _ _ T1 (mkF m 11 #[iv p1, iv (p1 &&& (3 : Int32)), .unset, .unset] [(.ref b1)])
    refine own_stH (fun _ kk_ => XS.dup X1.here hx rfl (hb hby at_11) rfl rfl (XS.iconst X1.here hx rfl (hb hby at_12) (XS.aconstNull X1.here hx rfl (hb hby at_13) kk_))) ?_
    show own_GoesH _ _ _ _ _ _ _ _ _ T1 (mkF m 14 #[iv p1, iv (p1 &&& (3 : Int32)), .unset, .unset] [.null, (.int (1 : Int32)), (.ref b1), (.ref b1)])
    obtain ⟨_, _, ⟨T2, L2, k2, n2⟩, -, X2, ⟨Lc2, hQ2, l2, y2, z2⟩, st2⟩ := X1.specialBack hx (y := yy5) rfl hown (mvT hZ (own_w hw 3 rfl)) (mvT hZ (own_w hw 4 rfl)) (mvT hZ (own_w hw 5 rfl)) (by decide) (backOf (W := 1) (rmDg l Z a0 hw [] (b1) h1 n0 Zs1 A1 fn1_granted fn1_reason gg1) hZ (own_w hw 5 rfl) (own_w hw 2 rfl) (by decide) (by decide)) (g := (mkF m 14 #[iv p1, iv (p1 &&& (3 : Int32)), .unset, .unset] [.null, (.int (1 : Int32)), (.ref b1), (.ref b1)])) rfl (by rw [hml]; rfl) (Steps.refl _) (a := b1) (argsL := [(.int (1 : Int32)), .null]) (rest := [(.ref b1)]) (lenOf pd_20 rfl) rfl (by show 2 * 0 + _ ≤ _; exact Nat.le_of_eq rfl) (hb hby at_14) (fun _ _ => ⟨rfl, e1, (by decide : 1 + 0 ≤ _), (by decide : 2 + 0 ≤ _)⟩)
    dsimp only [Pt.U, Pt.locs, Pt.cells, Pt.slots] at X2 l2 y2 z2 st2 hQ2
    subst l2 y2 z2
    obtain ⟨rfl, Nq2, Kq2, u2_0, u2_1, u2_2⟩ := hQ2
    have N2 := Fr.app N0 Nq2
    have f2_0 := own_Sta_keep f1_0 Kq2 (nsS A1.nostat ns0)
    have f2_1 := own_Sta_keep f1_1 Kq2 (nsS A1.nostat ns0)
    have f2_2 := f1_2.keep Kq2
    have f2_3 := f1_3.keep Kq2 (ninS ne1_r0a nin0)
    have f2_4 := f1_4.keep Kq2
    have f2_5 := f1_5.keep Kq2 (ninS ne1_x0a nin0)
    have f2_6 := f1_6.keep Kq2 (ninS ne1_x0a nin0)
    have f2_7 := f1_7.keep Kq2 (ninS ne1_v0a nin0)
    have f2_8 := own_Sta_keep f1_8 Kq2 (nsS A1.nostat ns0)
    have f2_9 := f1_9.keep Kq2
    have f2_10 := f1_10.keep Kq2 (ninS ne1_r1a nin0)
    have f2_11 := f1_11.keep Kq2
    have f2_12 := f1_12.keep Kq2 (ninS ne1_x1a nin0)
    have f2_13 := f1_13.keep Kq2 (ninS ne1_x1a nin0)
    have f2_14 := f1_14.keep Kq2 (ninS ne1_v1a nin0)
    have f2_15 := own_Sta_keep f1_15 Kq2 (nsS A1.nostat ns0)
    have f2_16 := f1_16.keep Kq2
    have f2_17 := f1_17.keep Kq2 (ninS ne1_r2a nin0)
    have f2_18 := f1_18.keep Kq2
    have f2_19 := f1_19.keep Kq2 (ninS ne1_x2a nin0)
    have f2_20 := f1_20.keep Kq2 (ninS ne1_x2a nin0)
    have f2_21 := f1_21.keep Kq2 (ninS ne1_v2a nin0)
    have f2_22 := A1.keep Kq2
    have C2 := C1.trans (CHr.keep Kq2 (sfS (Safe.exa hZ.alike A1 (by decide) (by decide)) sf0) C1.1)
    have Ks2 := Nat.le_trans Ks1 Kq2.1
    have Zs2 : n0 ≤ T2.heap.size := Nat.le_trans Zs1 Kq2.1
    refine own_stH (fun _ kk_ => st2.trans kk_) ?_
    show own_GoesH _ _ _ _ _ _ _ _ _ T2 (mkF m 17 #[iv p1, iv (p1 &&& (3 : Int32)), .unset, .unset] [(.ref b1)])
    refine own_stH (fun _ kk_ => XS.astoreN X2.here hx rfl (hb hby at_17) rfl rfl (l' := #[iv p1, iv (p1 &&& (3 : Int32)), rv b1, .unset]) rfl kk_) ?_
    show own_GoesH _ _ _ _ _ _ _ _ _ T2 (mkF m 18 #[iv p1, iv (p1 &&& (3 : Int32)), rv b1, .unset] [])
    obtain ⟨b3, T3, h3, k3, d3, kc3, X3, e3, E3, hS3, Ka3, hZ, hown, Ex3, Fc3, Fv3, Av3, -, -, hC3, -, hsa3, st3⟩ := ldcCH X2 hx hZ hown (own_w hw 18 rfl) wS rfl hS0 Ks2 hEL (List.mem_of_getElem? (i := 3) rfl) C2.1 (vs := [(.int (123 : Int32)), (.int (34 : Int32)), (.int (100 : Int32)), (.int (101 : Int32)), (.int (99 : Int32)), (.int (105 : Int32)), (.int (115 : Int32)), (.int (105 : Int32)), (.int (111 : Int32)), (.int (110 : Int32)), (.int (34 : Int32)), (.int (58 : Int32)), (.int (116 : Int32)), (.int (114 : Int32)), (.int (117 : Int32)), (.int (101 : Int32)), (.int (125 : Int32))]) (z := (17 : Int32)) ⟨by decide, by decide⟩ (by decide) (by decide) (g := (mkF m 18 #[iv p1, iv (p1 &&& (3 : Int32)), rv b1, .unset] [])) rfl (hb hby at_18) (n := 68) (by decide) (by decide) (by decide) (by decide)
    have f3_0 := f2_0.ext E3
    have f3_1 := f2_1.ext E3
    have f3_2 := f2_2.ext E3
    have f3_3 := f2_3.ext E3
    have f3_4 := f2_4.ext E3
    have f3_5 := f2_5.ext E3
    have f3_6 := f2_6.ext E3
    have f3_7 := f2_7.ext E3
    have f3_8 := f2_8.ext E3
    have f3_9 := f2_9.ext E3
    have f3_10 := f2_10.ext E3
    have f3_11 := f2_11.ext E3
    have f3_12 := f2_12.ext E3
    have f3_13 := f2_13.ext E3
    have f3_14 := f2_14.ext E3
    have f3_15 := f2_15.ext E3
    have f3_16 := f2_16.ext E3
    have f3_17 := f2_17.ext E3
    have f3_18 := f2_18.ext E3
    have f3_19 := f2_19.ext E3
    have f3_20 := f2_20.ext E3
    have f3_21 := f2_21.ext E3
    have f3_22 := u2_0.ext E3
    have f3_23 := u2_1.ext E3
    have f3_24 := u2_2.ext E3
    have C3 := C2.trans hC3
    have Zs3 : n0 ≤ h3.size := Nat.le_trans Zs2 E3.1
    have Ks3 := Nat.le_trans Ks2 E3.1
    have nl3_r0a := hsa3 r0a (Safe.exa hZ.alike f3_2 (by decide) (by decide))
    have nl3_r1a := hsa3 r1a (Safe.exa hZ.alike f3_9 (by decide) (by decide))
    have nl3_r2a := hsa3 r2a (Safe.exa hZ.alike f3_16 (by decide) (by decide))
    have nl3_b1 := hsa3 b1 (Safe.exa hZ.alike f3_22 (by decide) (by decide))
    refine own_stH st3 ?_
    show own_GoesH _ _ _ _ _ _ _ _ _ T3 (mkF m 20 #[iv p1, iv (p1 &&& (3 : Int32)), rv b1, .unset] [(.ref b3)])
    refine own_stH (fun _ kk_ => XS.astoreN X3.here hx rfl (hb hby at_20) rfl rfl (l' := #[iv p1, iv (p1 &&& (3 : Int32)), rv b1, rv b3]) rfl (XS.goto X3.here hx rfl (pc0 := 21) (pc' := 85) rfl (hb hby at_21) (by decide) (by decide) (XS.aloadN X3.here hx rfl (hb hby at_85) rfl rfl (XS.aloadN X3.here hx rfl (hb hby at_86) rfl rfl kk_)))) ?_
    show own_GoesH _ _ _ _ _ _ _ _ _ T3 (mkF m 87 #[iv p1, iv (p1 &&& (3 : Int32)), rv b1, rv b3] [(.ref b1), (.ref b3)])
    have Vnl : Arv Z h3 d3 kc3 .byte (17 : Int32) own_gr (.int (0 : Int32)) := Av3
    obtain ⟨cq4, kq4, q4a, q4b, q4c⟩ := isOf hZ e3 f3_22
    obtain ⟨_, _, ⟨T4, L4, k4, n4⟩, -, X4, hSn4, hgn4, ⟨Lc4, hQ4, l4, y4, z4, hC4⟩, st4⟩ := X3.virtualBackS hx (y := yy28) (z := yy28) hown (mvT hZ (own_w hw 26 rfl)) (mvT hZ (own_w hw 27 rfl)) (notFace_of_selects (args := #[]) (mvT hZ (own_w hw 29 rfl))) (mvT hZ (own_w hw 29 rfl)) (mvT hZ (own_w hw 28 rfl)) (by decide) (own_backH (sl := []) (W := 1) (rmTJg l Z a0 hw [] hEL (b1) h3 n0 Zs3 f3_22 f3_23) hZ (own_w hw 30 rfl) (own_w hw 2 rfl) (by decide) (by decide) hEL C3.1 own_sn) q4a q4c (g := (mkF m 87 #[iv p1, iv (p1 &&& (3 : Int32)), rv b1, rv b3] [(.ref b1), (.ref b3)])) rfl (by rw [hml]; rfl) (Steps.refl _) (argsL := []) (rest := [(.ref b3)]) (lenOf pd_19 rfl) rfl (by show 2 * 0 + _ ≤ _; exact Nat.le_of_eq rfl) (hb hby at_87) (fun _ _ => ⟨rfl, e3, (by decide : 3 + 2 ≤ _), (by decide : 74 + 72 ≤ _)⟩)
    dsimp only [Pt.U, Pt.locs, Pt.cells, Pt.slots] at X4 l4 y4 z4 st4 hQ4 hSn4 hgn4 hC4
    subst l4 y4 z4
    have X4 : Stand p l e room_1 (s.setVm T4.vm) m _ below meth c T4 _ _ _ := X4
    have hS4 := foldS hS3 (by rw [e3]; exact Ka3) hSn4 hgn4
    have hown : (s.setVm T4.vm).vm.findClass "com/example/firm_duties/firmduties/DecisionToJsonPinLaw" = some m.cls := by rw [show (s.setVm T4.vm).vm = T4.vm from rfl, hSn4.1.alike.findClass]; exact hown
    obtain ⟨x4_y, x4_dy, x4_ky, rfl, Nq4, Kq4, u4_0, u4_1, u4_2, u4_3⟩ := hQ4
    have N4 := Fr.app N2 Nq4
    have hZ : Z.Warmed39 (s.setVm T4.vm).vm := State.Warmed39.trans (t := (s.setVm T3.vm)) hZ hSn4.1
    have f4_0 := own_Sta_keep f3_0 Kq4 ns0
    have f4_1 := own_Sta_keep f3_1 Kq4 ns0
    have f4_2 := f3_2.keep Kq4
    have f4_3 := f3_3.keep Kq4 nin0
    have f4_4 := f3_4.keep Kq4
    have f4_5 := f3_5.keep Kq4 nin0
    have f4_6 := f3_6.keep Kq4 nin0
    have f4_7 := f3_7.keep Kq4 nin0
    have f4_8 := own_Sta_keep f3_8 Kq4 ns0
    have f4_9 := f3_9.keep Kq4
    have f4_10 := f3_10.keep Kq4 nin0
    have f4_11 := f3_11.keep Kq4
    have f4_12 := f3_12.keep Kq4 nin0
    have f4_13 := f3_13.keep Kq4 nin0
    have f4_14 := f3_14.keep Kq4 nin0
    have f4_15 := own_Sta_keep f3_15 Kq4 ns0
    have f4_16 := f3_16.keep Kq4
    have f4_17 := f3_17.keep Kq4 nin0
    have f4_18 := f3_18.keep Kq4
    have f4_19 := f3_19.keep Kq4 nin0
    have f4_20 := f3_20.keep Kq4 nin0
    have f4_21 := f3_21.keep Kq4 nin0
    have f4_22 := f3_22.keep Kq4
    have f4_23 := f3_23.keep Kq4 nin0
    have f4_24 := f3_24.keep Kq4 nin0
    have f4_25 := Ex3.keep Kq4
    have f4_26 := Fc3.keep Kq4 nin0
    have f4_27 := Fv3.keep Kq4 nin0
    have f4_28 := Vnl.keep Kq4 nin0
    have C4 := C3.trans hC4
    have Ks4 := Nat.le_trans Ka3 Kq4.1
    have Zs4 : n0 ≤ T4.heap.size := Nat.le_trans Zs3 Kq4.1
    refine own_stH (fun _ kk_ => st4.trans kk_) ?_
    show own_GoesH _ _ _ _ _ _ _ _ _ T4 (mkF m 90 #[iv p1, iv (p1 &&& (3 : Int32)), rv b1, rv b3] [(.ref x4_y), (.ref b3)])
    obtain ⟨cq5, kq5, q5a, q5b, q5c⟩ := isOf hZ rfl f4_25
    obtain ⟨_, _, ⟨T5, L5, k5, n5⟩, -, X5, ⟨Lc5, hQ5, l5, y5, z5⟩, st5⟩ := X4.virtualBack hx (y := yy29) (z := yy29) hown (mvT hZ (own_w hw 32 rfl)) (mvT hZ (own_w hw 33 rfl)) (notFace_of_selects (args := #[]) (mvT hZ (own_w hw 35 rfl))) (mvT hZ (own_w hw 35 rfl)) (mvT hZ (own_w hw 34 rfl)) (by decide) (own_eqW (W := 0) (n0 := n0) hZ hw (kI := 4) (own_w hw 20 rfl) (us := own_gru) (ds := own_gru) f4_25 f4_26 f4_27 u4_0 u4_1 u4_2 f4_28 u4_3 own_okgr own_okgr f4_0 (by assumption) (by decide) (by decide)) q5a q5c (g := (mkF m 90 #[iv p1, iv (p1 &&& (3 : Int32)), rv b1, rv b3] [(.ref x4_y), (.ref b3)])) rfl (by rw [hml]; rfl) (Steps.refl _) (argsL := [(.ref x4_y)]) (rest := []) (lenOf pd_21 rfl) rfl (by show 2 * 0 + _ ≤ _; exact Nat.le_of_eq rfl) (hb hby at_90) (fun _ _ => ⟨rfl, rfl, (by decide : 5 + 0 ≤ _), (by decide : 146 + 0 ≤ _)⟩)
    dsimp only [Pt.U, Pt.locs, Pt.cells, Pt.slots] at X5 l5 y5 z5 st5 hQ5
    subst l5 y5 z5
    obtain ⟨rfl, Nq5, eq5⟩ := hQ5
    have N5 := Fr.app N4 Nq5
    refine own_stH (fun _ kk_ => st5.trans kk_) ?_
    show own_GoesH _ _ _ _ _ _ _ _ _ T5 (mkF m 93 #[iv p1, iv (p1 &&& (3 : Int32)), rv b1, rv b3] [(.int (own_b (own_gru = own_gru)))])
    refine own_endH (v := (some (.int (nar .boolean (own_b (own_gru = own_gru)))))) X5 hlk hS4 (by rw [eq5]; exact (Nat.le_refl T4.heap.size)) hZ hEL hh eq5 C4 (fun h => by rw [Bd.returns] at h; cases h) (by decide) (by decide) ?_ (fun fs hr => retN X5 hx (t := .boolean) Bd.returns (by simp) (hb hby at_93) hr)
    show Q0 Z p1 cs r0a x0a v0a k0a r1a x1a v1a k1a r2a x2a v2a k2a h0 n0 (some (.int (nar .boolean (own_b (own_gru = own_gru))))) T5.heap _
    rw [eq5]
    exact ⟨by rw [own_b1 rfl]; rfl, N5⟩
  · refine own_stH (fun _ kk_ => XS.ifYes X0.here hx rfl (pc0 := 5) (pc' := 24) rfl (hb hby at_5) rfl (XT.i0_ne_t q0) (by decide) (by decide) (XS.iloadN X0.here hx rfl (hb hby at_24) rfl (XS.iconst X0.here hx rfl (hb hby at_25) kk_))) ?_
    show own_GoesH _ _ _ _ _ _ _ _ _ s₁ (mkF m 26 #[iv p1, iv (p1 &&& (3 : Int32)), .unset, .unset] [(.int (1 : Int32)), (.int (p1 &&& (3 : Int32)))])
    rcases Classical.em ((p1 &&& (3 : Int32)) = (1 : Int32)) with q1 | q1
    · refine own_stH (fun _ kk_ => XS.icmpNo X0.here hx rfl (hb hby at_26) rfl (XT.ii_ne_f q1) kk_) ?_
      show own_GoesH _ _ _ _ _ _ _ _ _ s₁ (mkF m 29 #[iv p1, iv (p1 &&& (3 : Int32)), .unset, .unset] [])
      obtain ⟨T6, h6, X6, e6, E6, A6, D6, -, st6⟩ := newO X0 hx hZ hown (own_w hw 0 rfl) (own_w hw 1 rfl) (own_w hw 2 rfl) e0 (g := (mkF m 29 #[iv p1, iv (p1 &&& (3 : Int32)), .unset, .unset] [])) rfl (hb hby at_29) (by decide) (by decide)
      obtain ⟨b6, gx6⟩ : ∃ z, z = h0.size := ⟨_, rfl⟩
      rw [← gx6] at A6 D6 st6
      have ne6_r0a : r0a ≠ b6 := Nat.ne_of_lt (Nat.lt_of_lt_of_eq p_3.lt gx6.symm)
      have ne6_x0a : x0a ≠ b6 := Nat.ne_of_lt (Nat.lt_of_lt_of_eq p_5.lt gx6.symm)
      have ne6_v0a : v0a ≠ b6 := Nat.ne_of_lt (Nat.lt_of_lt_of_eq p_8.lt gx6.symm)
      have ne6_r1a : r1a ≠ b6 := Nat.ne_of_lt (Nat.lt_of_lt_of_eq p_10.lt gx6.symm)
      have ne6_x1a : x1a ≠ b6 := Nat.ne_of_lt (Nat.lt_of_lt_of_eq p_12.lt gx6.symm)
      have ne6_v1a : v1a ≠ b6 := Nat.ne_of_lt (Nat.lt_of_lt_of_eq p_15.lt gx6.symm)
      have ne6_r2a : r2a ≠ b6 := Nat.ne_of_lt (Nat.lt_of_lt_of_eq p_17.lt gx6.symm)
      have ne6_x2a : x2a ≠ b6 := Nat.ne_of_lt (Nat.lt_of_lt_of_eq p_19.lt gx6.symm)
      have ne6_v2a : v2a ≠ b6 := Nat.ne_of_lt (Nat.lt_of_lt_of_eq p_22.lt gx6.symm)
      have gg6 : n0 ≤ b6 := Nat.le_trans Z0 (Nat.le_of_eq gx6.symm)
      have f6_0 := p_0.ext E6
      have f6_1 := p_2.ext E6
      have f6_2 := p_3.ext E6
      have f6_3 := p_4.ext E6
      have f6_4 := p_5.ext E6
      have f6_5 := p_6.ext E6
      have f6_6 := p_7.ext E6
      have f6_7 := p_8.ext E6
      have f6_8 := p_9.ext E6
      have f6_9 := p_10.ext E6
      have f6_10 := p_11.ext E6
      have f6_11 := p_12.ext E6
      have f6_12 := p_13.ext E6
      have f6_13 := p_14.ext E6
      have f6_14 := p_15.ext E6
      have f6_15 := p_16.ext E6
      have f6_16 := p_17.ext E6
      have f6_17 := p_18.ext E6
      have f6_18 := p_19.ext E6
      have f6_19 := p_20.ext E6
      have f6_20 := p_21.ext E6
      have f6_21 := p_22.ext E6
      have C6 := C0.trans (CHr.ext E6 C0.1)
      have Zs6 : n0 ≤ h6.size := Nat.le_trans Z0 E6.1
      have Ks6 := Nat.le_trans Z0 E6.1
      have fn6_granted : Fld Z h6 b6 "com/example/firm_duties/firmduties/Decision" "granted" "Z" (.int (0 : Int32)) := D6 (Or.inr (own_w hw 15 rfl)) (ty := .boolean) (by decide)
      have fn6_reason : Fld Z h6 b6 "com/example/firm_duties/firmduties/Decision" "reason" "Lcom/example/firm_duties/firmduties/Decision$Reason;" .null := D6 (Or.inr (own_w hw 17 rfl)) (ty := (.object "com/example/firm_duties/firmduties/Decision$Reason")) (by decide)
      refine own_stH st6 ?_
      show own_GoesH _ _ _ _ _ _ _ _ _ T6 (mkF m 32 #[iv p1, iv (p1 &&& (3 : Int32)), .unset, .unset] [(.ref b6)])
      refine own_stH (fun _ kk_ => XS.dup X6.here hx rfl (hb hby at_32) rfl rfl (XS.iconst X6.here hx rfl (hb hby at_33) kk_)) ?_
      show own_GoesH _ _ _ _ _ _ _ _ _ T6 (mkF m 34 #[iv p1, iv (p1 &&& (3 : Int32)), .unset, .unset] [(.int (0 : Int32)), (.ref b6), (.ref b6)])
      obtain ⟨T7, X7, e7, st7⟩ := getS2 X6 hx hZ hown (host := "") (Or.inl (own_w hw 190 rfl)) Via.refl e6 f6_1 (g := (mkF m 34 #[iv p1, iv (p1 &&& (3 : Int32)), .unset, .unset] [(.int (0 : Int32)), (.ref b6), (.ref b6)])) rfl (hb hby at_34)
      refine own_stH st7 ?_
      show own_GoesH _ _ _ _ _ _ _ _ _ T7 (mkF m 37 #[iv p1, iv (p1 &&& (3 : Int32)), .unset, .unset] [(.ref r0a), (.int (0 : Int32)), (.ref b6), (.ref b6)])
      obtain ⟨_, _, ⟨T8, L8, k8, n8⟩, -, X8, ⟨Lc8, hQ8, l8, y8, z8⟩, st8⟩ := X7.specialBack hx (y := yy5) rfl hown (mvT hZ (own_w hw 3 rfl)) (mvT hZ (own_w hw 4 rfl)) (mvT hZ (own_w hw 5 rfl)) (by decide) (backOf (W := 1) (rmDd l Z a0 hw [] (b6) (r0a) h6 n0 Zs6 A6 fn6_granted fn6_reason gg6) hZ (own_w hw 5 rfl) (own_w hw 2 rfl) (by decide) (by decide)) (g := (mkF m 37 #[iv p1, iv (p1 &&& (3 : Int32)), .unset, .unset] [(.ref r0a), (.int (0 : Int32)), (.ref b6), (.ref b6)])) rfl (by rw [hml]; rfl) (Steps.refl _) (a := b6) (argsL := [(.int (0 : Int32)), (.ref r0a)]) (rest := [(.ref b6)]) (lenOf pd_20 rfl) rfl (by show 2 * 0 + _ ≤ _; exact Nat.le_of_eq rfl) (hb hby at_37) (fun _ _ => ⟨rfl, e7, (by decide : 1 + 0 ≤ _), (by decide : 2 + 0 ≤ _)⟩)
      dsimp only [Pt.U, Pt.locs, Pt.cells, Pt.slots] at X8 l8 y8 z8 st8 hQ8
      subst l8 y8 z8
      obtain ⟨rfl, Nq8, Kq8, u8_0, u8_1, u8_2⟩ := hQ8
      have N8 := Fr.app N0 Nq8
      have f8_0 := own_Sta_keep f6_0 Kq8 (nsS A6.nostat ns0)
      have f8_1 := own_Sta_keep f6_1 Kq8 (nsS A6.nostat ns0)
      have f8_2 := f6_2.keep Kq8
      have f8_3 := f6_3.keep Kq8 (ninS ne6_r0a nin0)
      have f8_4 := f6_4.keep Kq8
      have f8_5 := f6_5.keep Kq8 (ninS ne6_x0a nin0)
      have f8_6 := f6_6.keep Kq8 (ninS ne6_x0a nin0)
      have f8_7 := f6_7.keep Kq8 (ninS ne6_v0a nin0)
      have f8_8 := own_Sta_keep f6_8 Kq8 (nsS A6.nostat ns0)
      have f8_9 := f6_9.keep Kq8
      have f8_10 := f6_10.keep Kq8 (ninS ne6_r1a nin0)
      have f8_11 := f6_11.keep Kq8
      have f8_12 := f6_12.keep Kq8 (ninS ne6_x1a nin0)
      have f8_13 := f6_13.keep Kq8 (ninS ne6_x1a nin0)
      have f8_14 := f6_14.keep Kq8 (ninS ne6_v1a nin0)
      have f8_15 := own_Sta_keep f6_15 Kq8 (nsS A6.nostat ns0)
      have f8_16 := f6_16.keep Kq8
      have f8_17 := f6_17.keep Kq8 (ninS ne6_r2a nin0)
      have f8_18 := f6_18.keep Kq8
      have f8_19 := f6_19.keep Kq8 (ninS ne6_x2a nin0)
      have f8_20 := f6_20.keep Kq8 (ninS ne6_x2a nin0)
      have f8_21 := f6_21.keep Kq8 (ninS ne6_v2a nin0)
      have f8_22 := A6.keep Kq8
      have C8 := C6.trans (CHr.keep Kq8 (sfS (Safe.exa hZ.alike A6 (by decide) (by decide)) sf0) C6.1)
      have Ks8 := Nat.le_trans Ks6 Kq8.1
      have Zs8 : n0 ≤ T8.heap.size := Nat.le_trans Zs6 Kq8.1
      refine own_stH (fun _ kk_ => st8.trans kk_) ?_
      show own_GoesH _ _ _ _ _ _ _ _ _ T8 (mkF m 40 #[iv p1, iv (p1 &&& (3 : Int32)), .unset, .unset] [(.ref b6)])
      refine own_stH (fun _ kk_ => XS.astoreN X8.here hx rfl (hb hby at_40) rfl rfl (l' := #[iv p1, iv (p1 &&& (3 : Int32)), rv b6, .unset]) rfl kk_) ?_
      show own_GoesH _ _ _ _ _ _ _ _ _ T8 (mkF m 41 #[iv p1, iv (p1 &&& (3 : Int32)), rv b6, .unset] [])
      obtain ⟨b9, T9, h9, k9, d9, kc9, X9, e9, E9, hS9, Ka9, hZ, hown, Ex9, Fc9, Fv9, Av9, -, -, hC9, -, hsa9, st9⟩ := ldcCH X8 hx hZ hown (own_w hw 192 rfl) wS rfl hS0 Ks8 hEL (List.mem_of_getElem? (i := 4) rfl) C8.1 (vs := [(.int (123 : Int32)), (.int (34 : Int32)), (.int (100 : Int32)), (.int (101 : Int32)), (.int (99 : Int32)), (.int (105 : Int32)), (.int (115 : Int32)), (.int (105 : Int32)), (.int (111 : Int32)), (.int (110 : Int32)), (.int (34 : Int32)), (.int (58 : Int32)), (.int (102 : Int32)), (.int (97 : Int32)), (.int (108 : Int32)), (.int (115 : Int32)), (.int (101 : Int32)), (.int (44 : Int32)), (.int (34 : Int32)), (.int (99 : Int32)), (.int (111 : Int32)), (.int (110 : Int32)), (.int (116 : Int32)), (.int (101 : Int32)), (.int (120 : Int32)), (.int (116 : Int32)), (.int (34 : Int32)), (.int (58 : Int32)), (.int (123 : Int32)), (.int (34 : Int32)), (.int (114 : Int32)), (.int (101 : Int32)), (.int (97 : Int32)), (.int (115 : Int32)), (.int (111 : Int32)), (.int (110 : Int32)), (.int (34 : Int32)), (.int (58 : Int32)), (.int (34 : Int32)), (.int (110 : Int32)), (.int (111 : Int32)), (.int (116 : Int32)), (.int (95 : Int32)), (.int (112 : Int32)), (.int (101 : Int32)), (.int (114 : Int32)), (.int (109 : Int32)), (.int (105 : Int32)), (.int (116 : Int32)), (.int (116 : Int32)), (.int (101 : Int32)), (.int (100 : Int32)), (.int (34 : Int32)), (.int (125 : Int32)), (.int (125 : Int32))]) (z := (55 : Int32)) ⟨by decide, by decide⟩ (by decide) (by decide) (g := (mkF m 41 #[iv p1, iv (p1 &&& (3 : Int32)), rv b6, .unset] [])) rfl (hb hby at_41) (n := 220) (by decide) (by decide) (by decide) (by decide)
      have f9_0 := f8_0.ext E9
      have f9_1 := f8_1.ext E9
      have f9_2 := f8_2.ext E9
      have f9_3 := f8_3.ext E9
      have f9_4 := f8_4.ext E9
      have f9_5 := f8_5.ext E9
      have f9_6 := f8_6.ext E9
      have f9_7 := f8_7.ext E9
      have f9_8 := f8_8.ext E9
      have f9_9 := f8_9.ext E9
      have f9_10 := f8_10.ext E9
      have f9_11 := f8_11.ext E9
      have f9_12 := f8_12.ext E9
      have f9_13 := f8_13.ext E9
      have f9_14 := f8_14.ext E9
      have f9_15 := f8_15.ext E9
      have f9_16 := f8_16.ext E9
      have f9_17 := f8_17.ext E9
      have f9_18 := f8_18.ext E9
      have f9_19 := f8_19.ext E9
      have f9_20 := f8_20.ext E9
      have f9_21 := f8_21.ext E9
      have f9_22 := u8_0.ext E9
      have f9_23 := u8_1.ext E9
      have f9_24 := u8_2.ext E9
      have C9 := C8.trans hC9
      have Zs9 : n0 ≤ h9.size := Nat.le_trans Zs8 E9.1
      have Ks9 := Nat.le_trans Ks8 E9.1
      have nl9_r0a := hsa9 r0a (Safe.exa hZ.alike f9_2 (by decide) (by decide))
      have nl9_r1a := hsa9 r1a (Safe.exa hZ.alike f9_9 (by decide) (by decide))
      have nl9_r2a := hsa9 r2a (Safe.exa hZ.alike f9_16 (by decide) (by decide))
      have nl9_b6 := hsa9 b6 (Safe.exa hZ.alike f9_22 (by decide) (by decide))
      refine own_stH st9 ?_
      show own_GoesH _ _ _ _ _ _ _ _ _ T9 (mkF m 43 #[iv p1, iv (p1 &&& (3 : Int32)), rv b6, .unset] [(.ref b9)])
      refine own_stH (fun _ kk_ => XS.astoreN X9.here hx rfl (hb hby at_43) rfl rfl (l' := #[iv p1, iv (p1 &&& (3 : Int32)), rv b6, rv b9]) rfl (XS.goto X9.here hx rfl (pc0 := 44) (pc' := 85) rfl (hb hby at_44) (by decide) (by decide) (XS.aloadN X9.here hx rfl (hb hby at_85) rfl rfl (XS.aloadN X9.here hx rfl (hb hby at_86) rfl rfl kk_)))) ?_
      show own_GoesH _ _ _ _ _ _ _ _ _ T9 (mkF m 87 #[iv p1, iv (p1 &&& (3 : Int32)), rv b6, rv b9] [(.ref b6), (.ref b9)])
      have Vnl : Arv Z h9 d9 kc9 .byte (55 : Int32) own_x0 (.int (0 : Int32)) := Av9
      obtain ⟨cq10, kq10, q10a, q10b, q10c⟩ := isOf hZ e9 f9_22
      obtain ⟨_, _, ⟨T10, L10, k10, n10⟩, -, X10, hSn10, hgn10, ⟨Lc10, hQ10, l10, y10, z10, hC10⟩, st10⟩ := X9.virtualBackS hx (y := yy28) (z := yy28) hown (mvT hZ (own_w hw 26 rfl)) (mvT hZ (own_w hw 27 rfl)) (notFace_of_selects (args := #[]) (mvT hZ (own_w hw 29 rfl))) (mvT hZ (own_w hw 29 rfl)) (mvT hZ (own_w hw 28 rfl)) (by decide) (own_backH (sl := []) (W := 1) (rmTJ0 l Z a0 hw [] hEL (b6) (r0a) (x0a) (v0a) (k0a) (cs) h9 n0 Zs9 f9_22 f9_23 f9_24 f9_2 f9_3 f9_4 f9_5 f9_6 f9_7 f9_0 (by assumption)) hZ (own_w hw 30 rfl) (own_w hw 2 rfl) (by decide) (by decide) hEL C9.1 own_sn) q10a q10c (g := (mkF m 87 #[iv p1, iv (p1 &&& (3 : Int32)), rv b6, rv b9] [(.ref b6), (.ref b9)])) rfl (by rw [hml]; rfl) (Steps.refl _) (argsL := []) (rest := [(.ref b9)]) (lenOf pd_19 rfl) rfl (by show 2 * 0 + _ ≤ _; exact Nat.le_of_eq rfl) (hb hby at_87) (fun _ _ => ⟨rfl, e9, (by decide : 3 + 10 ≤ _), (by decide : 226 + 374 ≤ _)⟩)
      dsimp only [Pt.U, Pt.locs, Pt.cells, Pt.slots] at X10 l10 y10 z10 st10 hQ10 hSn10 hgn10 hC10
      subst l10 y10 z10
      have X10 : Stand p l e room_1 (s.setVm T10.vm) m _ below meth c T10 _ _ _ := X10
      have hS10 := foldS hS9 (by rw [e9]; exact Ka9) hSn10 hgn10
      have hown : (s.setVm T10.vm).vm.findClass "com/example/firm_duties/firmduties/DecisionToJsonPinLaw" = some m.cls := by rw [show (s.setVm T10.vm).vm = T10.vm from rfl, hSn10.1.alike.findClass]; exact hown
      obtain ⟨x10_y, x10_dy, x10_ky, rfl, Nq10, Kq10, u10_0, u10_1, u10_2, u10_3⟩ := hQ10
      have N10 := Fr.app N8 Nq10
      have hZ : Z.Warmed39 (s.setVm T10.vm).vm := State.Warmed39.trans (t := (s.setVm T9.vm)) hZ hSn10.1
      have f10_0 := own_Sta_keep f9_0 Kq10 ns0
      have f10_1 := own_Sta_keep f9_1 Kq10 ns0
      have f10_2 := f9_2.keep Kq10
      have f10_3 := f9_3.keep Kq10 nin0
      have f10_4 := f9_4.keep Kq10
      have f10_5 := f9_5.keep Kq10 nin0
      have f10_6 := f9_6.keep Kq10 nin0
      have f10_7 := f9_7.keep Kq10 nin0
      have f10_8 := own_Sta_keep f9_8 Kq10 ns0
      have f10_9 := f9_9.keep Kq10
      have f10_10 := f9_10.keep Kq10 nin0
      have f10_11 := f9_11.keep Kq10
      have f10_12 := f9_12.keep Kq10 nin0
      have f10_13 := f9_13.keep Kq10 nin0
      have f10_14 := f9_14.keep Kq10 nin0
      have f10_15 := own_Sta_keep f9_15 Kq10 ns0
      have f10_16 := f9_16.keep Kq10
      have f10_17 := f9_17.keep Kq10 nin0
      have f10_18 := f9_18.keep Kq10
      have f10_19 := f9_19.keep Kq10 nin0
      have f10_20 := f9_20.keep Kq10 nin0
      have f10_21 := f9_21.keep Kq10 nin0
      have f10_22 := f9_22.keep Kq10
      have f10_23 := f9_23.keep Kq10 nin0
      have f10_24 := f9_24.keep Kq10 nin0
      have f10_25 := Ex9.keep Kq10
      have f10_26 := Fc9.keep Kq10 nin0
      have f10_27 := Fv9.keep Kq10 nin0
      have f10_28 := Vnl.keep Kq10 nin0
      have C10 := C9.trans hC10
      have Ks10 := Nat.le_trans Ka9 Kq10.1
      have Zs10 : n0 ≤ T10.heap.size := Nat.le_trans Zs9 Kq10.1
      refine own_stH (fun _ kk_ => st10.trans kk_) ?_
      show own_GoesH _ _ _ _ _ _ _ _ _ T10 (mkF m 90 #[iv p1, iv (p1 &&& (3 : Int32)), rv b6, rv b9] [(.ref x10_y), (.ref b9)])
      obtain ⟨cq11, kq11, q11a, q11b, q11c⟩ := isOf hZ rfl f10_25
      obtain ⟨_, _, ⟨T11, L11, k11, n11⟩, -, X11, ⟨Lc11, hQ11, l11, y11, z11⟩, st11⟩ := X10.virtualBack hx (y := yy29) (z := yy29) hown (mvT hZ (own_w hw 32 rfl)) (mvT hZ (own_w hw 33 rfl)) (notFace_of_selects (args := #[]) (mvT hZ (own_w hw 35 rfl))) (mvT hZ (own_w hw 35 rfl)) (mvT hZ (own_w hw 34 rfl)) (by decide) (own_eqW (W := 0) (n0 := n0) hZ hw (kI := 4) (own_w hw 20 rfl) (us := own_x0u) (ds := own_x0u) f10_25 f10_26 f10_27 u10_0 u10_1 u10_2 f10_28 u10_3 own_okx0 own_okx0 f10_0 (by assumption) (by decide) (by decide)) q11a q11c (g := (mkF m 90 #[iv p1, iv (p1 &&& (3 : Int32)), rv b6, rv b9] [(.ref x10_y), (.ref b9)])) rfl (by rw [hml]; rfl) (Steps.refl _) (argsL := [(.ref x10_y)]) (rest := []) (lenOf pd_21 rfl) rfl (by show 2 * 0 + _ ≤ _; exact Nat.le_of_eq rfl) (hb hby at_90) (fun _ _ => ⟨rfl, rfl, (by decide : 13 + 0 ≤ _), (by decide : 600 + 0 ≤ _)⟩)
      dsimp only [Pt.U, Pt.locs, Pt.cells, Pt.slots] at X11 l11 y11 z11 st11 hQ11
      subst l11 y11 z11
      obtain ⟨rfl, Nq11, eq11⟩ := hQ11
      have N11 := Fr.app N10 Nq11
      refine own_stH (fun _ kk_ => st11.trans kk_) ?_
      show own_GoesH _ _ _ _ _ _ _ _ _ T11 (mkF m 93 #[iv p1, iv (p1 &&& (3 : Int32)), rv b6, rv b9] [(.int (own_b (own_x0u = own_x0u)))])
      refine own_endH (v := (some (.int (nar .boolean (own_b (own_x0u = own_x0u)))))) X11 hlk hS10 (by rw [eq11]; exact (Nat.le_refl T10.heap.size)) hZ hEL hh eq11 C10 (fun h => by rw [Bd.returns] at h; cases h) (by decide) (by decide) ?_ (fun fs hr => retN X11 hx (t := .boolean) Bd.returns (by simp) (hb hby at_93) hr)
      show Q0 Z p1 cs r0a x0a v0a k0a r1a x1a v1a k1a r2a x2a v2a k2a h0 n0 (some (.int (nar .boolean (own_b (own_x0u = own_x0u))))) T11.heap _
      rw [eq11]
      exact ⟨by rw [own_b1 rfl]; rfl, N11⟩
    · refine own_stH (fun _ kk_ => XS.icmpYes X0.here hx rfl (pc0 := 26) (pc' := 47) rfl (hb hby at_26) rfl (XT.ii_ne_t q1) (by decide) (by decide) (XS.iloadN X0.here hx rfl (hb hby at_47) rfl (XS.iconst X0.here hx rfl (hb hby at_48) kk_))) ?_
      show own_GoesH _ _ _ _ _ _ _ _ _ s₁ (mkF m 49 #[iv p1, iv (p1 &&& (3 : Int32)), .unset, .unset] [(.int (2 : Int32)), (.int (p1 &&& (3 : Int32)))])
      rcases Classical.em ((p1 &&& (3 : Int32)) = (2 : Int32)) with q2 | q2
      · refine own_stH (fun _ kk_ => XS.icmpNo X0.here hx rfl (hb hby at_49) rfl (XT.ii_ne_f q2) kk_) ?_
        show own_GoesH _ _ _ _ _ _ _ _ _ s₁ (mkF m 52 #[iv p1, iv (p1 &&& (3 : Int32)), .unset, .unset] [])
        obtain ⟨T12, h12, X12, e12, E12, A12, D12, -, st12⟩ := newO X0 hx hZ hown (own_w hw 0 rfl) (own_w hw 1 rfl) (own_w hw 2 rfl) e0 (g := (mkF m 52 #[iv p1, iv (p1 &&& (3 : Int32)), .unset, .unset] [])) rfl (hb hby at_52) (by decide) (by decide)
        obtain ⟨b12, gx12⟩ : ∃ z, z = h0.size := ⟨_, rfl⟩
        rw [← gx12] at A12 D12 st12
        have ne12_r0a : r0a ≠ b12 := Nat.ne_of_lt (Nat.lt_of_lt_of_eq p_3.lt gx12.symm)
        have ne12_x0a : x0a ≠ b12 := Nat.ne_of_lt (Nat.lt_of_lt_of_eq p_5.lt gx12.symm)
        have ne12_v0a : v0a ≠ b12 := Nat.ne_of_lt (Nat.lt_of_lt_of_eq p_8.lt gx12.symm)
        have ne12_r1a : r1a ≠ b12 := Nat.ne_of_lt (Nat.lt_of_lt_of_eq p_10.lt gx12.symm)
        have ne12_x1a : x1a ≠ b12 := Nat.ne_of_lt (Nat.lt_of_lt_of_eq p_12.lt gx12.symm)
        have ne12_v1a : v1a ≠ b12 := Nat.ne_of_lt (Nat.lt_of_lt_of_eq p_15.lt gx12.symm)
        have ne12_r2a : r2a ≠ b12 := Nat.ne_of_lt (Nat.lt_of_lt_of_eq p_17.lt gx12.symm)
        have ne12_x2a : x2a ≠ b12 := Nat.ne_of_lt (Nat.lt_of_lt_of_eq p_19.lt gx12.symm)
        have ne12_v2a : v2a ≠ b12 := Nat.ne_of_lt (Nat.lt_of_lt_of_eq p_22.lt gx12.symm)
        have gg12 : n0 ≤ b12 := Nat.le_trans Z0 (Nat.le_of_eq gx12.symm)
        have f12_0 := p_0.ext E12
        have f12_1 := p_2.ext E12
        have f12_2 := p_3.ext E12
        have f12_3 := p_4.ext E12
        have f12_4 := p_5.ext E12
        have f12_5 := p_6.ext E12
        have f12_6 := p_7.ext E12
        have f12_7 := p_8.ext E12
        have f12_8 := p_9.ext E12
        have f12_9 := p_10.ext E12
        have f12_10 := p_11.ext E12
        have f12_11 := p_12.ext E12
        have f12_12 := p_13.ext E12
        have f12_13 := p_14.ext E12
        have f12_14 := p_15.ext E12
        have f12_15 := p_16.ext E12
        have f12_16 := p_17.ext E12
        have f12_17 := p_18.ext E12
        have f12_18 := p_19.ext E12
        have f12_19 := p_20.ext E12
        have f12_20 := p_21.ext E12
        have f12_21 := p_22.ext E12
        have C12 := C0.trans (CHr.ext E12 C0.1)
        have Zs12 : n0 ≤ h12.size := Nat.le_trans Z0 E12.1
        have Ks12 := Nat.le_trans Z0 E12.1
        have fn12_granted : Fld Z h12 b12 "com/example/firm_duties/firmduties/Decision" "granted" "Z" (.int (0 : Int32)) := D12 (Or.inr (own_w hw 15 rfl)) (ty := .boolean) (by decide)
        have fn12_reason : Fld Z h12 b12 "com/example/firm_duties/firmduties/Decision" "reason" "Lcom/example/firm_duties/firmduties/Decision$Reason;" .null := D12 (Or.inr (own_w hw 17 rfl)) (ty := (.object "com/example/firm_duties/firmduties/Decision$Reason")) (by decide)
        refine own_stH st12 ?_
        show own_GoesH _ _ _ _ _ _ _ _ _ T12 (mkF m 55 #[iv p1, iv (p1 &&& (3 : Int32)), .unset, .unset] [(.ref b12)])
        refine own_stH (fun _ kk_ => XS.dup X12.here hx rfl (hb hby at_55) rfl rfl (XS.iconst X12.here hx rfl (hb hby at_56) kk_)) ?_
        show own_GoesH _ _ _ _ _ _ _ _ _ T12 (mkF m 57 #[iv p1, iv (p1 &&& (3 : Int32)), .unset, .unset] [(.int (0 : Int32)), (.ref b12), (.ref b12)])
        obtain ⟨T13, X13, e13, st13⟩ := getS2 X12 hx hZ hown (host := "") (Or.inl (own_w hw 187 rfl)) Via.refl e12 f12_8 (g := (mkF m 57 #[iv p1, iv (p1 &&& (3 : Int32)), .unset, .unset] [(.int (0 : Int32)), (.ref b12), (.ref b12)])) rfl (hb hby at_57)
        refine own_stH st13 ?_
        show own_GoesH _ _ _ _ _ _ _ _ _ T13 (mkF m 60 #[iv p1, iv (p1 &&& (3 : Int32)), .unset, .unset] [(.ref r1a), (.int (0 : Int32)), (.ref b12), (.ref b12)])
        obtain ⟨_, _, ⟨T14, L14, k14, n14⟩, -, X14, ⟨Lc14, hQ14, l14, y14, z14⟩, st14⟩ := X13.specialBack hx (y := yy5) rfl hown (mvT hZ (own_w hw 3 rfl)) (mvT hZ (own_w hw 4 rfl)) (mvT hZ (own_w hw 5 rfl)) (by decide) (backOf (W := 1) (rmDd l Z a0 hw [] (b12) (r1a) h12 n0 Zs12 A12 fn12_granted fn12_reason gg12) hZ (own_w hw 5 rfl) (own_w hw 2 rfl) (by decide) (by decide)) (g := (mkF m 60 #[iv p1, iv (p1 &&& (3 : Int32)), .unset, .unset] [(.ref r1a), (.int (0 : Int32)), (.ref b12), (.ref b12)])) rfl (by rw [hml]; rfl) (Steps.refl _) (a := b12) (argsL := [(.int (0 : Int32)), (.ref r1a)]) (rest := [(.ref b12)]) (lenOf pd_20 rfl) rfl (by show 2 * 0 + _ ≤ _; exact Nat.le_of_eq rfl) (hb hby at_60) (fun _ _ => ⟨rfl, e13, (by decide : 1 + 0 ≤ _), (by decide : 2 + 0 ≤ _)⟩)
        dsimp only [Pt.U, Pt.locs, Pt.cells, Pt.slots] at X14 l14 y14 z14 st14 hQ14
        subst l14 y14 z14
        obtain ⟨rfl, Nq14, Kq14, u14_0, u14_1, u14_2⟩ := hQ14
        have N14 := Fr.app N0 Nq14
        have f14_0 := own_Sta_keep f12_0 Kq14 (nsS A12.nostat ns0)
        have f14_1 := own_Sta_keep f12_1 Kq14 (nsS A12.nostat ns0)
        have f14_2 := f12_2.keep Kq14
        have f14_3 := f12_3.keep Kq14 (ninS ne12_r0a nin0)
        have f14_4 := f12_4.keep Kq14
        have f14_5 := f12_5.keep Kq14 (ninS ne12_x0a nin0)
        have f14_6 := f12_6.keep Kq14 (ninS ne12_x0a nin0)
        have f14_7 := f12_7.keep Kq14 (ninS ne12_v0a nin0)
        have f14_8 := own_Sta_keep f12_8 Kq14 (nsS A12.nostat ns0)
        have f14_9 := f12_9.keep Kq14
        have f14_10 := f12_10.keep Kq14 (ninS ne12_r1a nin0)
        have f14_11 := f12_11.keep Kq14
        have f14_12 := f12_12.keep Kq14 (ninS ne12_x1a nin0)
        have f14_13 := f12_13.keep Kq14 (ninS ne12_x1a nin0)
        have f14_14 := f12_14.keep Kq14 (ninS ne12_v1a nin0)
        have f14_15 := own_Sta_keep f12_15 Kq14 (nsS A12.nostat ns0)
        have f14_16 := f12_16.keep Kq14
        have f14_17 := f12_17.keep Kq14 (ninS ne12_r2a nin0)
        have f14_18 := f12_18.keep Kq14
        have f14_19 := f12_19.keep Kq14 (ninS ne12_x2a nin0)
        have f14_20 := f12_20.keep Kq14 (ninS ne12_x2a nin0)
        have f14_21 := f12_21.keep Kq14 (ninS ne12_v2a nin0)
        have f14_22 := A12.keep Kq14
        have C14 := C12.trans (CHr.keep Kq14 (sfS (Safe.exa hZ.alike A12 (by decide) (by decide)) sf0) C12.1)
        have Ks14 := Nat.le_trans Ks12 Kq14.1
        have Zs14 : n0 ≤ T14.heap.size := Nat.le_trans Zs12 Kq14.1
        refine own_stH (fun _ kk_ => st14.trans kk_) ?_
        show own_GoesH _ _ _ _ _ _ _ _ _ T14 (mkF m 63 #[iv p1, iv (p1 &&& (3 : Int32)), .unset, .unset] [(.ref b12)])
        refine own_stH (fun _ kk_ => XS.astoreN X14.here hx rfl (hb hby at_63) rfl rfl (l' := #[iv p1, iv (p1 &&& (3 : Int32)), rv b12, .unset]) rfl kk_) ?_
        show own_GoesH _ _ _ _ _ _ _ _ _ T14 (mkF m 64 #[iv p1, iv (p1 &&& (3 : Int32)), rv b12, .unset] [])
        obtain ⟨b15, T15, h15, k15, d15, kc15, X15, e15, E15, hS15, Ka15, hZ, hown, Ex15, Fc15, Fv15, Av15, -, -, hC15, -, hsa15, st15⟩ := ldcCH X14 hx hZ hown (own_w hw 189 rfl) wS rfl hS0 Ks14 hEL (List.mem_of_getElem? (i := 5) rfl) C14.1 (vs := [(.int (123 : Int32)), (.int (34 : Int32)), (.int (100 : Int32)), (.int (101 : Int32)), (.int (99 : Int32)), (.int (105 : Int32)), (.int (115 : Int32)), (.int (105 : Int32)), (.int (111 : Int32)), (.int (110 : Int32)), (.int (34 : Int32)), (.int (58 : Int32)), (.int (102 : Int32)), (.int (97 : Int32)), (.int (108 : Int32)), (.int (115 : Int32)), (.int (101 : Int32)), (.int (44 : Int32)), (.int (34 : Int32)), (.int (99 : Int32)), (.int (111 : Int32)), (.int (110 : Int32)), (.int (116 : Int32)), (.int (101 : Int32)), (.int (120 : Int32)), (.int (116 : Int32)), (.int (34 : Int32)), (.int (58 : Int32)), (.int (123 : Int32)), (.int (34 : Int32)), (.int (114 : Int32)), (.int (101 : Int32)), (.int (97 : Int32)), (.int (115 : Int32)), (.int (111 : Int32)), (.int (110 : Int32)), (.int (34 : Int32)), (.int (58 : Int32)), (.int (34 : Int32)), (.int (115 : Int32)), (.int (101 : Int32)), (.int (112 : Int32)), (.int (97 : Int32)), (.int (114 : Int32)), (.int (97 : Int32)), (.int (116 : Int32)), (.int (105 : Int32)), (.int (111 : Int32)), (.int (110 : Int32)), (.int (95 : Int32)), (.int (111 : Int32)), (.int (102 : Int32)), (.int (95 : Int32)), (.int (100 : Int32)), (.int (117 : Int32)), (.int (116 : Int32)), (.int (121 : Int32)), (.int (34 : Int32)), (.int (125 : Int32)), (.int (125 : Int32))]) (z := (60 : Int32)) ⟨by decide, by decide⟩ (by decide) (by decide) (g := (mkF m 64 #[iv p1, iv (p1 &&& (3 : Int32)), rv b12, .unset] [])) rfl (hb hby at_64) (n := 240) (by decide) (by decide) (by decide) (by decide)
        have f15_0 := f14_0.ext E15
        have f15_1 := f14_1.ext E15
        have f15_2 := f14_2.ext E15
        have f15_3 := f14_3.ext E15
        have f15_4 := f14_4.ext E15
        have f15_5 := f14_5.ext E15
        have f15_6 := f14_6.ext E15
        have f15_7 := f14_7.ext E15
        have f15_8 := f14_8.ext E15
        have f15_9 := f14_9.ext E15
        have f15_10 := f14_10.ext E15
        have f15_11 := f14_11.ext E15
        have f15_12 := f14_12.ext E15
        have f15_13 := f14_13.ext E15
        have f15_14 := f14_14.ext E15
        have f15_15 := f14_15.ext E15
        have f15_16 := f14_16.ext E15
        have f15_17 := f14_17.ext E15
        have f15_18 := f14_18.ext E15
        have f15_19 := f14_19.ext E15
        have f15_20 := f14_20.ext E15
        have f15_21 := f14_21.ext E15
        have f15_22 := u14_0.ext E15
        have f15_23 := u14_1.ext E15
        have f15_24 := u14_2.ext E15
        have C15 := C14.trans hC15
        have Zs15 : n0 ≤ h15.size := Nat.le_trans Zs14 E15.1
        have Ks15 := Nat.le_trans Ks14 E15.1
        have nl15_r0a := hsa15 r0a (Safe.exa hZ.alike f15_2 (by decide) (by decide))
        have nl15_r1a := hsa15 r1a (Safe.exa hZ.alike f15_9 (by decide) (by decide))
        have nl15_r2a := hsa15 r2a (Safe.exa hZ.alike f15_16 (by decide) (by decide))
        have nl15_b12 := hsa15 b12 (Safe.exa hZ.alike f15_22 (by decide) (by decide))
        refine own_stH st15 ?_
        show own_GoesH _ _ _ _ _ _ _ _ _ T15 (mkF m 66 #[iv p1, iv (p1 &&& (3 : Int32)), rv b12, .unset] [(.ref b15)])
        refine own_stH (fun _ kk_ => XS.astoreN X15.here hx rfl (hb hby at_66) rfl rfl (l' := #[iv p1, iv (p1 &&& (3 : Int32)), rv b12, rv b15]) rfl (XS.goto X15.here hx rfl (pc0 := 67) (pc' := 85) rfl (hb hby at_67) (by decide) (by decide) (XS.aloadN X15.here hx rfl (hb hby at_85) rfl rfl (XS.aloadN X15.here hx rfl (hb hby at_86) rfl rfl kk_)))) ?_
        show own_GoesH _ _ _ _ _ _ _ _ _ T15 (mkF m 87 #[iv p1, iv (p1 &&& (3 : Int32)), rv b12, rv b15] [(.ref b12), (.ref b15)])
        have Vnl : Arv Z h15 d15 kc15 .byte (60 : Int32) own_x1 (.int (0 : Int32)) := Av15
        obtain ⟨cq16, kq16, q16a, q16b, q16c⟩ := isOf hZ e15 f15_22
        obtain ⟨_, _, ⟨T16, L16, k16, n16⟩, -, X16, hSn16, hgn16, ⟨Lc16, hQ16, l16, y16, z16, hC16⟩, st16⟩ := X15.virtualBackS hx (y := yy28) (z := yy28) hown (mvT hZ (own_w hw 26 rfl)) (mvT hZ (own_w hw 27 rfl)) (notFace_of_selects (args := #[]) (mvT hZ (own_w hw 29 rfl))) (mvT hZ (own_w hw 29 rfl)) (mvT hZ (own_w hw 28 rfl)) (by decide) (own_backH (sl := []) (W := 1) (rmTJ1 l Z a0 hw [] hEL (b12) (r1a) (x1a) (v1a) (k1a) (cs) h15 n0 Zs15 f15_22 f15_23 f15_24 f15_9 f15_10 f15_11 f15_12 f15_13 f15_14 f15_0 (by assumption)) hZ (own_w hw 30 rfl) (own_w hw 2 rfl) (by decide) (by decide) hEL C15.1 own_sn) q16a q16c (g := (mkF m 87 #[iv p1, iv (p1 &&& (3 : Int32)), rv b12, rv b15] [(.ref b12), (.ref b15)])) rfl (by rw [hml]; rfl) (Steps.refl _) (argsL := []) (rest := [(.ref b15)]) (lenOf pd_19 rfl) rfl (by show 2 * 0 + _ ≤ _; exact Nat.le_of_eq rfl) (hb hby at_87) (fun _ _ => ⟨rfl, e15, (by decide : 3 + 10 ≤ _), (by decide : 246 + 379 ≤ _)⟩)
        dsimp only [Pt.U, Pt.locs, Pt.cells, Pt.slots] at X16 l16 y16 z16 st16 hQ16 hSn16 hgn16 hC16
        subst l16 y16 z16
        have X16 : Stand p l e room_1 (s.setVm T16.vm) m _ below meth c T16 _ _ _ := X16
        have hS16 := foldS hS15 (by rw [e15]; exact Ka15) hSn16 hgn16
        have hown : (s.setVm T16.vm).vm.findClass "com/example/firm_duties/firmduties/DecisionToJsonPinLaw" = some m.cls := by rw [show (s.setVm T16.vm).vm = T16.vm from rfl, hSn16.1.alike.findClass]; exact hown
        obtain ⟨x16_y, x16_dy, x16_ky, rfl, Nq16, Kq16, u16_0, u16_1, u16_2, u16_3⟩ := hQ16
        have N16 := Fr.app N14 Nq16
        have hZ : Z.Warmed39 (s.setVm T16.vm).vm := State.Warmed39.trans (t := (s.setVm T15.vm)) hZ hSn16.1
        have f16_0 := own_Sta_keep f15_0 Kq16 ns0
        have f16_1 := own_Sta_keep f15_1 Kq16 ns0
        have f16_2 := f15_2.keep Kq16
        have f16_3 := f15_3.keep Kq16 nin0
        have f16_4 := f15_4.keep Kq16
        have f16_5 := f15_5.keep Kq16 nin0
        have f16_6 := f15_6.keep Kq16 nin0
        have f16_7 := f15_7.keep Kq16 nin0
        have f16_8 := own_Sta_keep f15_8 Kq16 ns0
        have f16_9 := f15_9.keep Kq16
        have f16_10 := f15_10.keep Kq16 nin0
        have f16_11 := f15_11.keep Kq16
        have f16_12 := f15_12.keep Kq16 nin0
        have f16_13 := f15_13.keep Kq16 nin0
        have f16_14 := f15_14.keep Kq16 nin0
        have f16_15 := own_Sta_keep f15_15 Kq16 ns0
        have f16_16 := f15_16.keep Kq16
        have f16_17 := f15_17.keep Kq16 nin0
        have f16_18 := f15_18.keep Kq16
        have f16_19 := f15_19.keep Kq16 nin0
        have f16_20 := f15_20.keep Kq16 nin0
        have f16_21 := f15_21.keep Kq16 nin0
        have f16_22 := f15_22.keep Kq16
        have f16_23 := f15_23.keep Kq16 nin0
        have f16_24 := f15_24.keep Kq16 nin0
        have f16_25 := Ex15.keep Kq16
        have f16_26 := Fc15.keep Kq16 nin0
        have f16_27 := Fv15.keep Kq16 nin0
        have f16_28 := Vnl.keep Kq16 nin0
        have C16 := C15.trans hC16
        have Ks16 := Nat.le_trans Ka15 Kq16.1
        have Zs16 : n0 ≤ T16.heap.size := Nat.le_trans Zs15 Kq16.1
        refine own_stH (fun _ kk_ => st16.trans kk_) ?_
        show own_GoesH _ _ _ _ _ _ _ _ _ T16 (mkF m 90 #[iv p1, iv (p1 &&& (3 : Int32)), rv b12, rv b15] [(.ref x16_y), (.ref b15)])
        obtain ⟨cq17, kq17, q17a, q17b, q17c⟩ := isOf hZ rfl f16_25
        obtain ⟨_, _, ⟨T17, L17, k17, n17⟩, -, X17, ⟨Lc17, hQ17, l17, y17, z17⟩, st17⟩ := X16.virtualBack hx (y := yy29) (z := yy29) hown (mvT hZ (own_w hw 32 rfl)) (mvT hZ (own_w hw 33 rfl)) (notFace_of_selects (args := #[]) (mvT hZ (own_w hw 35 rfl))) (mvT hZ (own_w hw 35 rfl)) (mvT hZ (own_w hw 34 rfl)) (by decide) (own_eqW (W := 0) (n0 := n0) hZ hw (kI := 4) (own_w hw 20 rfl) (us := own_x1u) (ds := own_x1u) f16_25 f16_26 f16_27 u16_0 u16_1 u16_2 f16_28 u16_3 own_okx1 own_okx1 f16_0 (by assumption) (by decide) (by decide)) q17a q17c (g := (mkF m 90 #[iv p1, iv (p1 &&& (3 : Int32)), rv b12, rv b15] [(.ref x16_y), (.ref b15)])) rfl (by rw [hml]; rfl) (Steps.refl _) (argsL := [(.ref x16_y)]) (rest := []) (lenOf pd_21 rfl) rfl (by show 2 * 0 + _ ≤ _; exact Nat.le_of_eq rfl) (hb hby at_90) (fun _ _ => ⟨rfl, rfl, (by decide : 13 + 0 ≤ _), (by decide : 625 + 0 ≤ _)⟩)
        dsimp only [Pt.U, Pt.locs, Pt.cells, Pt.slots] at X17 l17 y17 z17 st17 hQ17
        subst l17 y17 z17
        obtain ⟨rfl, Nq17, eq17⟩ := hQ17
        have N17 := Fr.app N16 Nq17
        refine own_stH (fun _ kk_ => st17.trans kk_) ?_
        show own_GoesH _ _ _ _ _ _ _ _ _ T17 (mkF m 93 #[iv p1, iv (p1 &&& (3 : Int32)), rv b12, rv b15] [(.int (own_b (own_x1u = own_x1u)))])
        refine own_endH (v := (some (.int (nar .boolean (own_b (own_x1u = own_x1u)))))) X17 hlk hS16 (by rw [eq17]; exact (Nat.le_refl T16.heap.size)) hZ hEL hh eq17 C16 (fun h => by rw [Bd.returns] at h; cases h) (by decide) (by decide) ?_ (fun fs hr => retN X17 hx (t := .boolean) Bd.returns (by simp) (hb hby at_93) hr)
        show Q0 Z p1 cs r0a x0a v0a k0a r1a x1a v1a k1a r2a x2a v2a k2a h0 n0 (some (.int (nar .boolean (own_b (own_x1u = own_x1u))))) T17.heap _
        rw [eq17]
        exact ⟨by rw [own_b1 rfl]; rfl, N17⟩
      · refine own_stH (fun _ kk_ => XS.icmpYes X0.here hx rfl (pc0 := 49) (pc' := 70) rfl (hb hby at_49) rfl (XT.ii_ne_t q2) (by decide) (by decide) kk_) ?_
        show own_GoesH _ _ _ _ _ _ _ _ _ s₁ (mkF m 70 #[iv p1, iv (p1 &&& (3 : Int32)), .unset, .unset] [])
        obtain ⟨T18, h18, X18, e18, E18, A18, D18, -, st18⟩ := newO X0 hx hZ hown (own_w hw 0 rfl) (own_w hw 1 rfl) (own_w hw 2 rfl) e0 (g := (mkF m 70 #[iv p1, iv (p1 &&& (3 : Int32)), .unset, .unset] [])) rfl (hb hby at_70) (by decide) (by decide)
        obtain ⟨b18, gx18⟩ : ∃ z, z = h0.size := ⟨_, rfl⟩
        rw [← gx18] at A18 D18 st18
        have ne18_r0a : r0a ≠ b18 := Nat.ne_of_lt (Nat.lt_of_lt_of_eq p_3.lt gx18.symm)
        have ne18_x0a : x0a ≠ b18 := Nat.ne_of_lt (Nat.lt_of_lt_of_eq p_5.lt gx18.symm)
        have ne18_v0a : v0a ≠ b18 := Nat.ne_of_lt (Nat.lt_of_lt_of_eq p_8.lt gx18.symm)
        have ne18_r1a : r1a ≠ b18 := Nat.ne_of_lt (Nat.lt_of_lt_of_eq p_10.lt gx18.symm)
        have ne18_x1a : x1a ≠ b18 := Nat.ne_of_lt (Nat.lt_of_lt_of_eq p_12.lt gx18.symm)
        have ne18_v1a : v1a ≠ b18 := Nat.ne_of_lt (Nat.lt_of_lt_of_eq p_15.lt gx18.symm)
        have ne18_r2a : r2a ≠ b18 := Nat.ne_of_lt (Nat.lt_of_lt_of_eq p_17.lt gx18.symm)
        have ne18_x2a : x2a ≠ b18 := Nat.ne_of_lt (Nat.lt_of_lt_of_eq p_19.lt gx18.symm)
        have ne18_v2a : v2a ≠ b18 := Nat.ne_of_lt (Nat.lt_of_lt_of_eq p_22.lt gx18.symm)
        have gg18 : n0 ≤ b18 := Nat.le_trans Z0 (Nat.le_of_eq gx18.symm)
        have f18_0 := p_0.ext E18
        have f18_1 := p_2.ext E18
        have f18_2 := p_3.ext E18
        have f18_3 := p_4.ext E18
        have f18_4 := p_5.ext E18
        have f18_5 := p_6.ext E18
        have f18_6 := p_7.ext E18
        have f18_7 := p_8.ext E18
        have f18_8 := p_9.ext E18
        have f18_9 := p_10.ext E18
        have f18_10 := p_11.ext E18
        have f18_11 := p_12.ext E18
        have f18_12 := p_13.ext E18
        have f18_13 := p_14.ext E18
        have f18_14 := p_15.ext E18
        have f18_15 := p_16.ext E18
        have f18_16 := p_17.ext E18
        have f18_17 := p_18.ext E18
        have f18_18 := p_19.ext E18
        have f18_19 := p_20.ext E18
        have f18_20 := p_21.ext E18
        have f18_21 := p_22.ext E18
        have C18 := C0.trans (CHr.ext E18 C0.1)
        have Zs18 : n0 ≤ h18.size := Nat.le_trans Z0 E18.1
        have Ks18 := Nat.le_trans Z0 E18.1
        have fn18_granted : Fld Z h18 b18 "com/example/firm_duties/firmduties/Decision" "granted" "Z" (.int (0 : Int32)) := D18 (Or.inr (own_w hw 15 rfl)) (ty := .boolean) (by decide)
        have fn18_reason : Fld Z h18 b18 "com/example/firm_duties/firmduties/Decision" "reason" "Lcom/example/firm_duties/firmduties/Decision$Reason;" .null := D18 (Or.inr (own_w hw 17 rfl)) (ty := (.object "com/example/firm_duties/firmduties/Decision$Reason")) (by decide)
        refine own_stH st18 ?_
        show own_GoesH _ _ _ _ _ _ _ _ _ T18 (mkF m 73 #[iv p1, iv (p1 &&& (3 : Int32)), .unset, .unset] [(.ref b18)])
        refine own_stH (fun _ kk_ => XS.dup X18.here hx rfl (hb hby at_73) rfl rfl (XS.iconst X18.here hx rfl (hb hby at_74) kk_)) ?_
        show own_GoesH _ _ _ _ _ _ _ _ _ T18 (mkF m 75 #[iv p1, iv (p1 &&& (3 : Int32)), .unset, .unset] [(.int (0 : Int32)), (.ref b18), (.ref b18)])
        obtain ⟨T19, X19, e19, st19⟩ := getS2 X18 hx hZ hown (host := "") (Or.inl (own_w hw 37 rfl)) Via.refl e18 f18_15 (g := (mkF m 75 #[iv p1, iv (p1 &&& (3 : Int32)), .unset, .unset] [(.int (0 : Int32)), (.ref b18), (.ref b18)])) rfl (hb hby at_75)
        refine own_stH st19 ?_
        show own_GoesH _ _ _ _ _ _ _ _ _ T19 (mkF m 78 #[iv p1, iv (p1 &&& (3 : Int32)), .unset, .unset] [(.ref r2a), (.int (0 : Int32)), (.ref b18), (.ref b18)])
        obtain ⟨_, _, ⟨T20, L20, k20, n20⟩, -, X20, ⟨Lc20, hQ20, l20, y20, z20⟩, st20⟩ := X19.specialBack hx (y := yy5) rfl hown (mvT hZ (own_w hw 3 rfl)) (mvT hZ (own_w hw 4 rfl)) (mvT hZ (own_w hw 5 rfl)) (by decide) (backOf (W := 1) (rmDd l Z a0 hw [] (b18) (r2a) h18 n0 Zs18 A18 fn18_granted fn18_reason gg18) hZ (own_w hw 5 rfl) (own_w hw 2 rfl) (by decide) (by decide)) (g := (mkF m 78 #[iv p1, iv (p1 &&& (3 : Int32)), .unset, .unset] [(.ref r2a), (.int (0 : Int32)), (.ref b18), (.ref b18)])) rfl (by rw [hml]; rfl) (Steps.refl _) (a := b18) (argsL := [(.int (0 : Int32)), (.ref r2a)]) (rest := [(.ref b18)]) (lenOf pd_20 rfl) rfl (by show 2 * 0 + _ ≤ _; exact Nat.le_of_eq rfl) (hb hby at_78) (fun _ _ => ⟨rfl, e19, (by decide : 1 + 0 ≤ _), (by decide : 2 + 0 ≤ _)⟩)
        dsimp only [Pt.U, Pt.locs, Pt.cells, Pt.slots] at X20 l20 y20 z20 st20 hQ20
        subst l20 y20 z20
        obtain ⟨rfl, Nq20, Kq20, u20_0, u20_1, u20_2⟩ := hQ20
        have N20 := Fr.app N0 Nq20
        have f20_0 := own_Sta_keep f18_0 Kq20 (nsS A18.nostat ns0)
        have f20_1 := own_Sta_keep f18_1 Kq20 (nsS A18.nostat ns0)
        have f20_2 := f18_2.keep Kq20
        have f20_3 := f18_3.keep Kq20 (ninS ne18_r0a nin0)
        have f20_4 := f18_4.keep Kq20
        have f20_5 := f18_5.keep Kq20 (ninS ne18_x0a nin0)
        have f20_6 := f18_6.keep Kq20 (ninS ne18_x0a nin0)
        have f20_7 := f18_7.keep Kq20 (ninS ne18_v0a nin0)
        have f20_8 := own_Sta_keep f18_8 Kq20 (nsS A18.nostat ns0)
        have f20_9 := f18_9.keep Kq20
        have f20_10 := f18_10.keep Kq20 (ninS ne18_r1a nin0)
        have f20_11 := f18_11.keep Kq20
        have f20_12 := f18_12.keep Kq20 (ninS ne18_x1a nin0)
        have f20_13 := f18_13.keep Kq20 (ninS ne18_x1a nin0)
        have f20_14 := f18_14.keep Kq20 (ninS ne18_v1a nin0)
        have f20_15 := own_Sta_keep f18_15 Kq20 (nsS A18.nostat ns0)
        have f20_16 := f18_16.keep Kq20
        have f20_17 := f18_17.keep Kq20 (ninS ne18_r2a nin0)
        have f20_18 := f18_18.keep Kq20
        have f20_19 := f18_19.keep Kq20 (ninS ne18_x2a nin0)
        have f20_20 := f18_20.keep Kq20 (ninS ne18_x2a nin0)
        have f20_21 := f18_21.keep Kq20 (ninS ne18_v2a nin0)
        have f20_22 := A18.keep Kq20
        have C20 := C18.trans (CHr.keep Kq20 (sfS (Safe.exa hZ.alike A18 (by decide) (by decide)) sf0) C18.1)
        have Ks20 := Nat.le_trans Ks18 Kq20.1
        have Zs20 : n0 ≤ T20.heap.size := Nat.le_trans Zs18 Kq20.1
        refine own_stH (fun _ kk_ => st20.trans kk_) ?_
        show own_GoesH _ _ _ _ _ _ _ _ _ T20 (mkF m 81 #[iv p1, iv (p1 &&& (3 : Int32)), .unset, .unset] [(.ref b18)])
        refine own_stH (fun _ kk_ => XS.astoreN X20.here hx rfl (hb hby at_81) rfl rfl (l' := #[iv p1, iv (p1 &&& (3 : Int32)), rv b18, .unset]) rfl kk_) ?_
        show own_GoesH _ _ _ _ _ _ _ _ _ T20 (mkF m 82 #[iv p1, iv (p1 &&& (3 : Int32)), rv b18, .unset] [])
        obtain ⟨b21, T21, h21, k21, d21, kc21, X21, e21, E21, hS21, Ka21, hZ, hown, Ex21, Fc21, Fv21, Av21, -, -, hC21, -, hsa21, st21⟩ := ldcCH X20 hx hZ hown (own_w hw 40 rfl) wS rfl hS0 Ks20 hEL (List.mem_of_getElem? (i := 6) rfl) C20.1 (vs := [(.int (123 : Int32)), (.int (34 : Int32)), (.int (100 : Int32)), (.int (101 : Int32)), (.int (99 : Int32)), (.int (105 : Int32)), (.int (115 : Int32)), (.int (105 : Int32)), (.int (111 : Int32)), (.int (110 : Int32)), (.int (34 : Int32)), (.int (58 : Int32)), (.int (102 : Int32)), (.int (97 : Int32)), (.int (108 : Int32)), (.int (115 : Int32)), (.int (101 : Int32)), (.int (44 : Int32)), (.int (34 : Int32)), (.int (99 : Int32)), (.int (111 : Int32)), (.int (110 : Int32)), (.int (116 : Int32)), (.int (101 : Int32)), (.int (120 : Int32)), (.int (116 : Int32)), (.int (34 : Int32)), (.int (58 : Int32)), (.int (123 : Int32)), (.int (34 : Int32)), (.int (114 : Int32)), (.int (101 : Int32)), (.int (97 : Int32)), (.int (115 : Int32)), (.int (111 : Int32)), (.int (110 : Int32)), (.int (34 : Int32)), (.int (58 : Int32)), (.int (34 : Int32)), (.int (98 : Int32)), (.int (97 : Int32)), (.int (100 : Int32)), (.int (95 : Int32)), (.int (114 : Int32)), (.int (101 : Int32)), (.int (113 : Int32)), (.int (117 : Int32)), (.int (101 : Int32)), (.int (115 : Int32)), (.int (116 : Int32)), (.int (34 : Int32)), (.int (125 : Int32)), (.int (125 : Int32))]) (z := (53 : Int32)) ⟨by decide, by decide⟩ (by decide) (by decide) (g := (mkF m 82 #[iv p1, iv (p1 &&& (3 : Int32)), rv b18, .unset] [])) rfl (hb hby at_82) (n := 212) (by decide) (by decide) (by decide) (by decide)
        have f21_0 := f20_0.ext E21
        have f21_1 := f20_1.ext E21
        have f21_2 := f20_2.ext E21
        have f21_3 := f20_3.ext E21
        have f21_4 := f20_4.ext E21
        have f21_5 := f20_5.ext E21
        have f21_6 := f20_6.ext E21
        have f21_7 := f20_7.ext E21
        have f21_8 := f20_8.ext E21
        have f21_9 := f20_9.ext E21
        have f21_10 := f20_10.ext E21
        have f21_11 := f20_11.ext E21
        have f21_12 := f20_12.ext E21
        have f21_13 := f20_13.ext E21
        have f21_14 := f20_14.ext E21
        have f21_15 := f20_15.ext E21
        have f21_16 := f20_16.ext E21
        have f21_17 := f20_17.ext E21
        have f21_18 := f20_18.ext E21
        have f21_19 := f20_19.ext E21
        have f21_20 := f20_20.ext E21
        have f21_21 := f20_21.ext E21
        have f21_22 := u20_0.ext E21
        have f21_23 := u20_1.ext E21
        have f21_24 := u20_2.ext E21
        have C21 := C20.trans hC21
        have Zs21 : n0 ≤ h21.size := Nat.le_trans Zs20 E21.1
        have Ks21 := Nat.le_trans Ks20 E21.1
        have nl21_r0a := hsa21 r0a (Safe.exa hZ.alike f21_2 (by decide) (by decide))
        have nl21_r1a := hsa21 r1a (Safe.exa hZ.alike f21_9 (by decide) (by decide))
        have nl21_r2a := hsa21 r2a (Safe.exa hZ.alike f21_16 (by decide) (by decide))
        have nl21_b18 := hsa21 b18 (Safe.exa hZ.alike f21_22 (by decide) (by decide))
        refine own_stH st21 ?_
        show own_GoesH _ _ _ _ _ _ _ _ _ T21 (mkF m 84 #[iv p1, iv (p1 &&& (3 : Int32)), rv b18, .unset] [(.ref b21)])
        refine own_stH (fun _ kk_ => XS.astoreN X21.here hx rfl (hb hby at_84) rfl rfl (l' := #[iv p1, iv (p1 &&& (3 : Int32)), rv b18, rv b21]) rfl (XS.aloadN X21.here hx rfl (hb hby at_85) rfl rfl (XS.aloadN X21.here hx rfl (hb hby at_86) rfl rfl kk_))) ?_
        show own_GoesH _ _ _ _ _ _ _ _ _ T21 (mkF m 87 #[iv p1, iv (p1 &&& (3 : Int32)), rv b18, rv b21] [(.ref b18), (.ref b21)])
        have Vnl : Arv Z h21 d21 kc21 .byte (53 : Int32) own_x2 (.int (0 : Int32)) := Av21
        obtain ⟨cq22, kq22, q22a, q22b, q22c⟩ := isOf hZ e21 f21_22
        obtain ⟨_, _, ⟨T22, L22, k22, n22⟩, -, X22, hSn22, hgn22, ⟨Lc22, hQ22, l22, y22, z22, hC22⟩, st22⟩ := X21.virtualBackS hx (y := yy28) (z := yy28) hown (mvT hZ (own_w hw 26 rfl)) (mvT hZ (own_w hw 27 rfl)) (notFace_of_selects (args := #[]) (mvT hZ (own_w hw 29 rfl))) (mvT hZ (own_w hw 29 rfl)) (mvT hZ (own_w hw 28 rfl)) (by decide) (own_backH (sl := []) (W := 1) (rmTJ2 l Z a0 hw [] hEL (b18) (r2a) (x2a) (v2a) (k2a) (cs) h21 n0 Zs21 f21_22 f21_23 f21_24 f21_16 f21_17 f21_18 f21_19 f21_20 f21_21 f21_0 (by assumption)) hZ (own_w hw 30 rfl) (own_w hw 2 rfl) (by decide) (by decide) hEL C21.1 own_sn) q22a q22c (g := (mkF m 87 #[iv p1, iv (p1 &&& (3 : Int32)), rv b18, rv b21] [(.ref b18), (.ref b21)])) rfl (by rw [hml]; rfl) (Steps.refl _) (argsL := []) (rest := [(.ref b21)]) (lenOf pd_19 rfl) rfl (by show 2 * 0 + _ ≤ _; exact Nat.le_of_eq rfl) (hb hby at_87) (fun _ _ => ⟨rfl, e21, (by decide : 3 + 10 ≤ _), (by decide : 218 + 372 ≤ _)⟩)
        dsimp only [Pt.U, Pt.locs, Pt.cells, Pt.slots] at X22 l22 y22 z22 st22 hQ22 hSn22 hgn22 hC22
        subst l22 y22 z22
        have X22 : Stand p l e room_1 (s.setVm T22.vm) m _ below meth c T22 _ _ _ := X22
        have hS22 := foldS hS21 (by rw [e21]; exact Ka21) hSn22 hgn22
        have hown : (s.setVm T22.vm).vm.findClass "com/example/firm_duties/firmduties/DecisionToJsonPinLaw" = some m.cls := by rw [show (s.setVm T22.vm).vm = T22.vm from rfl, hSn22.1.alike.findClass]; exact hown
        obtain ⟨x22_y, x22_dy, x22_ky, rfl, Nq22, Kq22, u22_0, u22_1, u22_2, u22_3⟩ := hQ22
        have N22 := Fr.app N20 Nq22
        have hZ : Z.Warmed39 (s.setVm T22.vm).vm := State.Warmed39.trans (t := (s.setVm T21.vm)) hZ hSn22.1
        have f22_0 := own_Sta_keep f21_0 Kq22 ns0
        have f22_1 := own_Sta_keep f21_1 Kq22 ns0
        have f22_2 := f21_2.keep Kq22
        have f22_3 := f21_3.keep Kq22 nin0
        have f22_4 := f21_4.keep Kq22
        have f22_5 := f21_5.keep Kq22 nin0
        have f22_6 := f21_6.keep Kq22 nin0
        have f22_7 := f21_7.keep Kq22 nin0
        have f22_8 := own_Sta_keep f21_8 Kq22 ns0
        have f22_9 := f21_9.keep Kq22
        have f22_10 := f21_10.keep Kq22 nin0
        have f22_11 := f21_11.keep Kq22
        have f22_12 := f21_12.keep Kq22 nin0
        have f22_13 := f21_13.keep Kq22 nin0
        have f22_14 := f21_14.keep Kq22 nin0
        have f22_15 := own_Sta_keep f21_15 Kq22 ns0
        have f22_16 := f21_16.keep Kq22
        have f22_17 := f21_17.keep Kq22 nin0
        have f22_18 := f21_18.keep Kq22
        have f22_19 := f21_19.keep Kq22 nin0
        have f22_20 := f21_20.keep Kq22 nin0
        have f22_21 := f21_21.keep Kq22 nin0
        have f22_22 := f21_22.keep Kq22
        have f22_23 := f21_23.keep Kq22 nin0
        have f22_24 := f21_24.keep Kq22 nin0
        have f22_25 := Ex21.keep Kq22
        have f22_26 := Fc21.keep Kq22 nin0
        have f22_27 := Fv21.keep Kq22 nin0
        have f22_28 := Vnl.keep Kq22 nin0
        have C22 := C21.trans hC22
        have Ks22 := Nat.le_trans Ka21 Kq22.1
        have Zs22 : n0 ≤ T22.heap.size := Nat.le_trans Zs21 Kq22.1
        refine own_stH (fun _ kk_ => st22.trans kk_) ?_
        show own_GoesH _ _ _ _ _ _ _ _ _ T22 (mkF m 90 #[iv p1, iv (p1 &&& (3 : Int32)), rv b18, rv b21] [(.ref x22_y), (.ref b21)])
        obtain ⟨cq23, kq23, q23a, q23b, q23c⟩ := isOf hZ rfl f22_25
        obtain ⟨_, _, ⟨T23, L23, k23, n23⟩, -, X23, ⟨Lc23, hQ23, l23, y23, z23⟩, st23⟩ := X22.virtualBack hx (y := yy29) (z := yy29) hown (mvT hZ (own_w hw 32 rfl)) (mvT hZ (own_w hw 33 rfl)) (notFace_of_selects (args := #[]) (mvT hZ (own_w hw 35 rfl))) (mvT hZ (own_w hw 35 rfl)) (mvT hZ (own_w hw 34 rfl)) (by decide) (own_eqW (W := 0) (n0 := n0) hZ hw (kI := 4) (own_w hw 20 rfl) (us := own_x2u) (ds := own_x2u) f22_25 f22_26 f22_27 u22_0 u22_1 u22_2 f22_28 u22_3 own_okx2 own_okx2 f22_0 (by assumption) (by decide) (by decide)) q23a q23c (g := (mkF m 90 #[iv p1, iv (p1 &&& (3 : Int32)), rv b18, rv b21] [(.ref x22_y), (.ref b21)])) rfl (by rw [hml]; rfl) (Steps.refl _) (argsL := [(.ref x22_y)]) (rest := []) (lenOf pd_21 rfl) rfl (by show 2 * 0 + _ ≤ _; exact Nat.le_of_eq rfl) (hb hby at_90) (fun _ _ => ⟨rfl, rfl, (by decide : 13 + 0 ≤ _), (by decide : 590 + 0 ≤ _)⟩)
        dsimp only [Pt.U, Pt.locs, Pt.cells, Pt.slots] at X23 l23 y23 z23 st23 hQ23
        subst l23 y23 z23
        obtain ⟨rfl, Nq23, eq23⟩ := hQ23
        have N23 := Fr.app N22 Nq23
        refine own_stH (fun _ kk_ => st23.trans kk_) ?_
        show own_GoesH _ _ _ _ _ _ _ _ _ T23 (mkF m 93 #[iv p1, iv (p1 &&& (3 : Int32)), rv b18, rv b21] [(.int (own_b (own_x2u = own_x2u)))])
        refine own_endH (v := (some (.int (nar .boolean (own_b (own_x2u = own_x2u)))))) X23 hlk hS22 (by rw [eq23]; exact (Nat.le_refl T22.heap.size)) hZ hEL hh eq23 C22 (fun h => by rw [Bd.returns] at h; cases h) (by decide) (by decide) ?_ (fun fs hr => retN X23 hx (t := .boolean) Bd.returns (by simp) (hb hby at_93) hr)
        show Q0 Z p1 cs r0a x0a v0a k0a r1a x1a v1a k1a r2a x2a v2a k2a h0 n0 (some (.int (nar .boolean (own_b (own_x2u = own_x2u))))) T23.heap _
        rw [eq23]
        exact ⟨by rw [own_b1 rfl]; rfl, N23⟩
set_option maxRecDepth 65536 in
set_option maxHeartbeats 40000000 in
theorem comes_1 {Post : Tables → Env → Array Value → State → Outcome → State → Prop} (hpost : ∀ tb e args s v u, (limb_1_1.after args s (.returned v) u = true ∧ limb_1_2.after args s (.returned v) u = true ∧ True) → ReturnedEndW s (.returned v) u (Jvm.fieldLocs frame_1_writes args s ++ Jvm.arrayLocs frame_1_arrays args s ++ Jvm.staticLocs frame_1_statics s) 40 7680 → Post tb e args s (.returned v) u) :
    ArmFor flags0 classFile x code maxLocals ret World_1 tables_1 room_1 Calls_1 rest_1 Pre_1 Post := by
  intro l hfl _ _ p e ha hc hk s m args below hf hA hF happ hP
  obtain ⟨hcalls, hrest, hpre⟩ := hP
  obtain ⟨-, -, -, hnamed, -, -, -, hat⟩ := (Spec.applies_iff hf).mp happ
  obtain ⟨hg, hn⟩ := and_e (Cond.before_iff.mp (show (Jvm.Cond.and given_1 narrow_1).before args s = true from hpre))
  obtain ⟨h1, g0⟩ := and_e hg
  obtain ⟨w0, rfl⟩ : ∃ w0 : Value, args = #[w0] := by
    have hs : args.size = 1 := by simpa [Cond.value, given_1] using h1
    obtain ⟨L⟩ := args
    match L, hs with
    | [w0], _ => exact ⟨w0, rfl⟩
  have hw := fun d (hd : d ∈ tables_1) => atoms_spec (ws := Jvm.Cond.code x code maxLocals ret :: tables_1) hat d (List.mem_cons_of_mem _ hd)
  have hfit : Fit s := fun {y c} hc i hi => by
    obtain ⟨ha, rfl⟩ := Array.getElem?_eq_some_iff.mp hc
    have q := List.all_eq_true.mp ((Array.all_eq_true_iff_forall_mem.mp hF) _ (Array.getElem_mem ha)) i (List.mem_range.mpr hi)
    simpa [Array.getElem?_eq_getElem hi] using q
  obtain ⟨i0, e0⟩ := is_v g0
  obtain rfl : w0 = (.int i0) := Option.some.inj e0
  obtain ⟨hsets, hown0⟩ := atoms_of _ (rest_1_c_eq ▸ (show rest_1_c.before _ s = true from hrest))
  obtain ⟨cs, ecs⟩ := is_v (Cond.before_iff.mp (hsets _ (List.mem_of_getElem? (i := 1) rfl)))
  have St_cs : Sta s s.heap "java/lang/String" "COMPACT_STRINGS" "Z" (.int cs) := Sta.start ecs (Or.inl (hsets _ (List.mem_of_getElem? (i := 0) rfl)))
  have hcs : ¬ cs = (0 : Int32) := gotF (Cond.eq_ints ecs (Term.int_eval (0))) (not_v (Cond.before_iff.mp (hsets _ (List.mem_of_getElem? (i := 2) rfl))))
  have hEL : EW s _ consts_1 := (EW.cons (own_w hw 31 rfl) (by decide) (EW.cons (own_w hw 59 rfl) (by decide) (EW.cons (own_w hw 140 rfl) (by decide) (EW.cons (own_w hw 18 rfl) (by decide) (EW.cons (own_w hw 192 rfl) (by decide) (EW.cons (own_w hw 189 rfl) (by decide) (EW.cons (own_w hw 40 rfl) (by decide) EW.nil)))))))
  have hCH : CHv s consts_1 s.vm s.heap := CHv.start hEL (fun q hq => hcalls.1 q hq) (hsets _ (List.mem_of_getElem? (i := 2) rfl)) (own_w hw 21 rfl) (own_w hw 20 rfl)
  obtain ⟨c0, r0⟩ := and_e hn
  obtain ⟨c1, r1⟩ := and_e r0
  obtain ⟨c2, r2⟩ := and_e r1
  obtain ⟨c3, r3⟩ := and_e r2
  obtain ⟨c4, r4⟩ := and_e r3
  obtain ⟨c5, r5⟩ := and_e r4
  obtain ⟨c6, r6⟩ := and_e r5
  obtain ⟨c7, r7⟩ := and_e r6
  obtain ⟨c8, r8⟩ := and_e r7
  obtain ⟨c9, r9⟩ := and_e r8
  obtain ⟨c10, r10⟩ := and_e r9
  obtain ⟨c11, r11⟩ := and_e r10
  obtain ⟨c12, r12⟩ := and_e r11
  obtain ⟨c13, r13⟩ := and_e r12
  obtain ⟨c14, r14⟩ := and_e r13
  obtain ⟨c15, r15⟩ := and_e r14
  obtain ⟨c16, r16⟩ := and_e r15
  obtain ⟨c17, r17⟩ := and_e r16
  obtain ⟨c18, r18⟩ := and_e r17
  obtain ⟨c19, r19⟩ := and_e r18
  obtain ⟨c20, r20⟩ := and_e r19
  obtain ⟨c21, r21⟩ := and_e r20
  obtain ⟨c22, r22⟩ := and_e r21
  obtain ⟨c23, r23⟩ := and_e r22
  obtain ⟨c24, r24⟩ := and_e r23
  obtain ⟨c25, r25⟩ := and_e r24
  obtain ⟨c26, r26⟩ := and_e r25
  obtain ⟨c27, r27⟩ := and_e r26
  obtain ⟨c28, r28⟩ := and_e r27
  obtain ⟨c29, r29⟩ := and_e r28
  obtain ⟨c30, r30⟩ := and_e r29
  obtain ⟨c31, r31⟩ := and_e r30
  obtain ⟨c32, r32⟩ := and_e r31
  obtain ⟨c33, r33⟩ := and_e r32
  obtain ⟨c34, r34⟩ := and_e r33
  obtain ⟨c35, r35⟩ := and_e r34
  obtain ⟨c36, r36⟩ := and_e r35
  obtain ⟨c37, r37⟩ := and_e r36
  obtain ⟨c38, r38⟩ := and_e r37
  obtain ⟨c39, r39⟩ := and_e r38
  obtain ⟨c40, r40⟩ := and_e r39
  obtain ⟨c41, r41⟩ := and_e r40
  obtain ⟨c42, r42⟩ := and_e r41
  obtain ⟨c43, r43⟩ := and_e r42
  obtain ⟨c44, r44⟩ := and_e r43
  obtain ⟨c45, r45⟩ := and_e r44
  obtain ⟨c46, r46⟩ := and_e r45
  obtain ⟨c47, r47⟩ := and_e r46
  obtain ⟨c48, r48⟩ := and_e r47
  obtain ⟨c49, r49⟩ := and_e r48
  obtain ⟨c50, r50⟩ := and_e r49
  obtain ⟨c51, r51⟩ := and_e r50
  obtain ⟨c52, r52⟩ := and_e r51
  obtain ⟨c53, r53⟩ := and_e r52
  obtain ⟨c54, r54⟩ := and_e r53
  obtain ⟨c55, r55⟩ := and_e r54
  obtain ⟨c56, r56⟩ := and_e r55
  obtain ⟨c57, r57⟩ := and_e r56
  obtain ⟨c58, r58⟩ := and_e r57
  have c59 := r58
  obtain ⟨s_BAD_REQUEST, ev_BAD_REQUEST⟩ := exa_v c0
  have Ex_BAD_REQUEST : Exa s s.heap s_BAD_REQUEST "com/example/firm_duties/firmduties/Decision$Reason" := Exa.start ev_BAD_REQUEST c0
  have St_BAD_REQUEST : Sta s s.heap "com/example/firm_duties/firmduties/Decision$Reason" "BAD_REQUEST" "Lcom/example/firm_duties/firmduties/Decision$Reason;" (.ref s_BAD_REQUEST) := Sta.start ev_BAD_REQUEST (Or.inr ⟨(own_w hw 38 rfl), (own_w hw 39 rfl)⟩)
  obtain ⟨s_SEPARATION_OF_DUTY, ev_SEPARATION_OF_DUTY⟩ := exa_v c6
  have Ex_SEPARATION_OF_DUTY : Exa s s.heap s_SEPARATION_OF_DUTY "com/example/firm_duties/firmduties/Decision$Reason" := Exa.start ev_SEPARATION_OF_DUTY c6
  have St_SEPARATION_OF_DUTY : Sta s s.heap "com/example/firm_duties/firmduties/Decision$Reason" "SEPARATION_OF_DUTY" "Lcom/example/firm_duties/firmduties/Decision$Reason;" (.ref s_SEPARATION_OF_DUTY) := Sta.start ev_SEPARATION_OF_DUTY (Or.inr ⟨(own_w hw 38 rfl), (own_w hw 188 rfl)⟩)
  obtain ⟨s_NOT_PERMITTED, ev_NOT_PERMITTED⟩ := exa_v c12
  have Ex_NOT_PERMITTED : Exa s s.heap s_NOT_PERMITTED "com/example/firm_duties/firmduties/Decision$Reason" := Exa.start ev_NOT_PERMITTED c12
  have St_NOT_PERMITTED : Sta s s.heap "com/example/firm_duties/firmduties/Decision$Reason" "NOT_PERMITTED" "Lcom/example/firm_duties/firmduties/Decision$Reason;" (.ref s_NOT_PERMITTED) := Sta.start ev_NOT_PERMITTED (Or.inr ⟨(own_w hw 38 rfl), (own_w hw 191 rfl)⟩)
  obtain ⟨kw_BAD_REQUEST, Kw_BAD_REQUEST⟩ := own_fref ev_BAD_REQUEST c1
  obtain ⟨kw_SEPARATION_OF_DUTY, Kw_SEPARATION_OF_DUTY⟩ := own_fref ev_SEPARATION_OF_DUTY c7
  obtain ⟨kw_NOT_PERMITTED, Kw_NOT_PERMITTED⟩ := own_fref ev_NOT_PERMITTED c13
  obtain ⟨x0a, Kf0, ek0, Ke0⟩ := own_fe ev_NOT_PERMITTED c13
  have Kc0 := own_ord ek0 c17
  obtain ⟨v0a, eb0⟩ := arr_v c14
  have Kv0 : Fld s s.heap x0a "java/lang/String" "value" "[B" (.ref v0a) := Fld.start ((fld_at ek0).symm.trans eb0)
  obtain ⟨k0a, Ka0⟩ := own_av (vs := own_cd0) (dv := (.int (0 : Int32))) hfit eb0 c14 c16 (by decide) (by decide) (fun c hc => ⟨own_el c47 eb0 hc (by decide), own_el c48 eb0 hc (by decide), own_el c49 eb0 hc (by decide), own_el c50 eb0 hc (by decide), own_el c51 eb0 hc (by decide), own_el c52 eb0 hc (by decide), own_el c53 eb0 hc (by decide), own_el c54 eb0 hc (by decide), own_el c55 eb0 hc (by decide), own_el c56 eb0 hc (by decide), own_el c57 eb0 hc (by decide), own_el c58 eb0 hc (by decide), own_el c59 eb0 hc (by decide), trivial⟩)
  obtain ⟨x1a, Kf1, ek1, Ke1⟩ := own_fe ev_SEPARATION_OF_DUTY c7
  have Kc1 := own_ord ek1 c11
  obtain ⟨v1a, eb1⟩ := arr_v c8
  have Kv1 : Fld s s.heap x1a "java/lang/String" "value" "[B" (.ref v1a) := Fld.start ((fld_at ek1).symm.trans eb1)
  obtain ⟨k1a, Ka1⟩ := own_av (vs := own_cd1) (dv := (.int (0 : Int32))) hfit eb1 c8 c10 (by decide) (by decide) (fun c hc => ⟨own_el c29 eb1 hc (by decide), own_el c30 eb1 hc (by decide), own_el c31 eb1 hc (by decide), own_el c32 eb1 hc (by decide), own_el c33 eb1 hc (by decide), own_el c34 eb1 hc (by decide), own_el c35 eb1 hc (by decide), own_el c36 eb1 hc (by decide), own_el c37 eb1 hc (by decide), own_el c38 eb1 hc (by decide), own_el c39 eb1 hc (by decide), own_el c40 eb1 hc (by decide), own_el c41 eb1 hc (by decide), own_el c42 eb1 hc (by decide), own_el c43 eb1 hc (by decide), own_el c44 eb1 hc (by decide), own_el c45 eb1 hc (by decide), own_el c46 eb1 hc (by decide), trivial⟩)
  obtain ⟨x2a, Kf2, ek2, Ke2⟩ := own_fe ev_BAD_REQUEST c1
  have Kc2 := own_ord ek2 c5
  obtain ⟨v2a, eb2⟩ := arr_v c2
  have Kv2 : Fld s s.heap x2a "java/lang/String" "value" "[B" (.ref v2a) := Fld.start ((fld_at ek2).symm.trans eb2)
  obtain ⟨k2a, Ka2⟩ := own_av (vs := own_cd2) (dv := (.int (0 : Int32))) hfit eb2 c2 c4 (by decide) (by decide) (fun c hc => ⟨own_el c18 eb2 hc (by decide), own_el c19 eb2 hc (by decide), own_el c20 eb2 hc (by decide), own_el c21 eb2 hc (by decide), own_el c22 eb2 hc (by decide), own_el c23 eb2 hc (by decide), own_el c24 eb2 hc (by decide), own_el c25 eb2 hc (by decide), own_el c26 eb2 hc (by decide), own_el c27 eb2 hc (by decide), own_el c28 eb2 hc (by decide), trivial⟩)
  obtain ⟨n, o, h1, h2, h3, _, L, rfl, ⟨rfl, N⟩, -, hq⟩ := rm0 l s _ hw tables_1 hEL i0 cs s_NOT_PERMITTED x0a v0a k0a s_SEPARATION_OF_DUTY x1a v1a k1a s_BAD_REQUEST x2a v2a k2a s.heap s.heap.size (Nat.le_refl _) St_cs hcs St_NOT_PERMITTED Ex_NOT_PERMITTED Kf0 Ke0 Kc0 Kv0 Ka0 St_SEPARATION_OF_DUTY Ex_SEPARATION_OF_DUTY Kf1 Ke1 Kc1 Kv1 Ka1 St_BAD_REQUEST Ex_BAD_REQUEST Kf2 Ke2 Kc2 Kv2 Ka2 p e ha hc hk s m _ below hf ((Spec.applies_iff_loose hf).mp happ).1 ⟨rfl, State.Warmed39.refl s, rfl, hCH, fun _ q => nomatch q⟩ trivial
  refine ⟨n, _, h1, h2, h3, hpost _ _ _ _ _ _ ⟨Cond.after_iff.mpr rfl, Cond.after_iff.mpr (eq_i res_at (Term.int_eval (1)) rfl), trivial⟩ ⟨hq.1, hq.2.1, hq.2.2.1, (hq.2.2.2.sift fun y hy => Or.inr (N y hy)).mono (by decide) (by decide)⟩⟩
theorem main_1_1 : Claimed_1_1 := comes_1 fun _ _ _ _ _ _ h hF => ⟨h.1, hF⟩
theorem main_1_2 : Claimed_1_2 := comes_1 fun _ _ _ _ _ _ h hF => ⟨h.2.1, hF⟩
end Jvm.Pilot.@@N@@
namespace Jvm.Pilot.@@N@@
open Jvm Jvm.ClassFile Sem Op Lib Jvm.Free Jvm.Stand Jvm.Pilot.@@N@@.Jvm.D
/-! MADE BY PROGRAM (witnessworld.py) out of the Statement's table words and the real class files: 26 classes; the members and pool entries that the words name. The judged class is class 1, her method 1. -/
namespace start1
open Jvm.ClassFile
def u (s : String) : CpInfo := .utf8 (stringToUtf16 s)
/-- a pool by its gaps: so many unusable entries, then the entry; so many at the end -/
def gap : Nat → List CpInfo → List CpInfo
  | 0, r => r
  | n + 1, r => .unusable :: gap n r
def poolList (es : List (Nat × CpInfo)) (last : Nat) : List CpInfo := es.foldr (fun e r => gap e.1 (e.2 :: r)) (gap last [])
def pool (es : List (Nat × CpInfo)) (last : Nat) : Array CpInfo := ⟨poolList es last⟩
def fileOf (pool : Array CpInfo) (this : Nat) (attrs : Array Attribute := #[]) (ms : Array MethodInfo := #[]) (fl : Nat := 33) (sup : Nat := 0) (ifs : Array Nat := #[]) (fds : Array FieldInfo := #[]) : ClassFile where
  minorVersion := 0
  majorVersion := 65
  constantPool := pool
  accessFlags := fl
  thisClass := this
  superClass := sup
  interfaces := ifs
  fields := fds
  methods := ms
  attributes := attrs
def plain (name : String) (sup : Option ClassId) : Class where
  name := name
  kind := .ordinary
  loader := none
  accessFlags := 33
  super := sup
  interfaces := #[]
  cf := none
  fields := #[]
  methods := #[]
  instanceTypes := #[]
  staticTypes := #[]
  resolved := #[]
  callSites := []
  init := .initialized
  statics := none
  mirror := none

def pool0 : Array CpInfo := pool [(5, u "<init>"), (0, u "()V"), (1, .class_ 10), (1, u "java/lang/Object")] 113

def k0c0 : Code := { maxStack := 0, maxLocals := 1, code := object_method_1_code, exceptionTable := #[], attributes := #[] }
def k0m0 : Method := { name := "<init>", desc := "()V", sig := { parameters := [], returnType := none }, accessFlags := 1, code := some k0c0 }
/-- java/lang/Object -/
def k0 : Class := { plain "java/lang/Object" none with
  accessFlags := 33
  interfaces := #[]
  cf := some (fileOf pool0 8 #[] #[{ accessFlags := 1, nameIndex := 5, descriptorIndex := 6, attributes := #[] }] 33 0 #[] #[])
  fields := #[]
  methods := #[k0m0]
  instanceTypes := #[]
  staticTypes := #[]
  resolved := Array.replicate 124 none
  statics := none }

def pool1 : Array CpInfo := pool [(2, .class_ 4), (1, u "java/lang/Object"), (0, u "<init>"), (0, u "()V"), (0, .class_ 8), (0, u "com/example/firm_duties/firmduties/Decision"), (0, .methodref 7 10), (0, .nameAndType 5 11), (0, u "(ZLcom/example/firm_duties/firmduties/Decision$Reason;)V"), (0, .string 13), (0, u "{\"decision\":true}"), (0, .fieldref 15 16), (0, .class_ 17), (0, .nameAndType 18 19), (0, u "com/example/firm_duties/firmduties/Decision$Reason"), (0, u "NOT_PERMITTED"), (0, u "Lcom/example/firm_duties/firmduties/Decision$Reason;"), (0, .string 21), (0, u "{\"decision\":false,\"context\":{\"reason\":\"not_permitted\"}}"), (0, .fieldref 15 23), (0, .nameAndType 24 19), (0, u "SEPARATION_OF_DUTY"), (0, .string 26), (0, u "{\"decision\":false,\"context\":{\"reason\":\"separation_of_duty\"}}"), (0, .fieldref 15 28), (0, .nameAndType 29 19), (0, u "BAD_REQUEST"), (0, .string 31), (0, u "{\"decision\":false,\"context\":{\"reason\":\"bad_request\"}}"), (0, .methodref 7 33), (0, .nameAndType 34 35), (0, u "toJson"), (0, u "()Ljava/lang/String;"), (0, .methodref 37 38), (0, .class_ 39), (0, .nameAndType 40 41), (0, u "java/lang/String"), (0, u "equals"), (0, u "(Ljava/lang/Object;)Z"), (0, .class_ 43), (0, u "com/example/firm_duties/firmduties/DecisionToJsonPinLaw"), (2, u "law"), (0, u "(I)Z")] 5

def k1m0 : Method := { name := "<init>", desc := "()V", sig := { parameters := [], returnType := none }, accessFlags := 1, code := none }
def k1c1 : Code := { maxStack := 4, maxLocals := 4, code := code, exceptionTable := #[], attributes := #[] }
def k1m1 : Method := { name := "law", desc := "(I)Z", sig := { parameters := [.int], returnType := some .boolean }, accessFlags := 9, code := some k1c1 }
/-- com/example/firm_duties/firmduties/DecisionToJsonPinLaw -/
def k1 : Class := { plain "com/example/firm_duties/firmduties/DecisionToJsonPinLaw" (some 0) with
  accessFlags := 49
  interfaces := #[]
  cf := some (fileOf pool1 42 #[] #[{ accessFlags := 1, nameIndex := 5, descriptorIndex := 6, attributes := #[] }, { accessFlags := 9, nameIndex := 46, descriptorIndex := 47, attributes := #[] }] 49 2 #[] #[])
  fields := #[]
  methods := #[k1m0, k1m1]
  instanceTypes := #[]
  staticTypes := #[]
  resolved := Array.replicate 53 none
  statics := none }

def pool2 : Array CpInfo := pool [(1, .methodref 2 3), (0, .class_ 4), (0, .nameAndType 5 6), (0, u "java/lang/Object"), (0, u "<init>"), (0, u "()V"), (0, .class_ 8), (0, u "java/lang/Record")] 13

def k2c0 : Code := { maxStack := 1, maxLocals := 1, code := jdk_30_method_1_code, exceptionTable := #[], attributes := #[] }
def k2m0 : Method := { name := "<init>", desc := "()V", sig := { parameters := [], returnType := none }, accessFlags := 4, code := some k2c0 }
/-- java/lang/Record -/
def k2 : Class := { plain "java/lang/Record" (some 0) with
  accessFlags := 1057
  interfaces := #[]
  cf := some (fileOf pool2 7 #[] #[{ accessFlags := 4, nameIndex := 5, descriptorIndex := 6, attributes := #[] }] 1057 2 #[] #[])
  fields := #[]
  methods := #[k2m0]
  instanceTypes := #[]
  staticTypes := #[]
  resolved := Array.replicate 22 none
  statics := none }

def pool3 : Array CpInfo := pool [(1, .methodref 2 3), (0, .class_ 4), (0, .nameAndType 5 6), (0, u "java/lang/Record"), (0, u "<init>"), (0, u "()V"), (7, .fieldref 15 16), (0, .class_ 17), (0, .nameAndType 18 19), (0, u "com/example/firm_duties/firmduties/Decision"), (0, u "granted"), (0, u "Z"), (0, .fieldref 15 21), (0, .nameAndType 22 23), (0, u "reason"), (0, u "Lcom/example/firm_duties/firmduties/Decision$Reason;"), (2, u "(ZLcom/example/firm_duties/firmduties/Decision$Reason;)V"), (0, .string 28), (0, u "{\"decision\":true}"), (0, .class_ 30), (0, u "java/lang/StringBuilder"), (0, .methodref 29 3), (0, .string 33), (0, u "{\"decision\":false,\"context\":{\"reason\":\""), (0, .methodref 29 35), (0, .nameAndType 36 37), (0, u "append"), (0, u "(Ljava/lang/String;)Ljava/lang/StringBuilder;"), (0, .methodref 39 40), (0, .class_ 41), (0, .nameAndType 42 43), (0, u "com/example/firm_duties/firmduties/Decision$Reason"), (0, u "code"), (0, u "()Ljava/lang/String;"), (0, .string 45), (0, u "\"}}"), (0, .methodref 29 47), (0, .nameAndType 48 43), (0, u "toString"), (13, u "GRANT"), (0, u "Lcom/example/firm_duties/firmduties/Decision;"), (6, u "toJson")] 28

def k3c0 : Code := { maxStack := 3, maxLocals := 3, code := prog_4_method_1_code, exceptionTable := #[], attributes := #[] }
def k3m0 : Method := { name := "<init>", desc := "(ZLcom/example/firm_duties/firmduties/Decision$Reason;)V", sig := { parameters := [.boolean, (.object "com/example/firm_duties/firmduties/Decision$Reason")], returnType := none }, accessFlags := 1, code := some k3c0 }
def k3c1 : Code := { maxStack := 2, maxLocals := 1, code := prog_4_method_3_code, exceptionTable := #[], attributes := #[] }
def k3m1 : Method := { name := "toJson", desc := "()Ljava/lang/String;", sig := { parameters := [], returnType := some (.object "java/lang/String") }, accessFlags := 1, code := some k3c1 }
/-- com/example/firm_duties/firmduties/Decision -/
def k3 : Class := { plain "com/example/firm_duties/firmduties/Decision" (some 2) with
  accessFlags := 49
  interfaces := #[]
  cf := some (fileOf pool3 15 #[.nestMembers #[39]] #[{ accessFlags := 1, nameIndex := 5, descriptorIndex := 26, attributes := #[] }, { accessFlags := 1, nameIndex := 70, descriptorIndex := 43, attributes := #[] }] 49 2 #[] #[{ accessFlags := 18, nameIndex := 18, descriptorIndex := 19, attributes := #[] }, { accessFlags := 18, nameIndex := 22, descriptorIndex := 23, attributes := #[] }, { accessFlags := 25, nameIndex := 62, descriptorIndex := 63, attributes := #[] }])
  fields := #[{ name := "granted", type := .boolean, accessFlags := 18, slot := 0, constantValue := 0 }, { name := "reason", type := (.object "com/example/firm_duties/firmduties/Decision$Reason"), accessFlags := 18, slot := 1, constantValue := 0 }, { name := "GRANT", type := (.object "com/example/firm_duties/firmduties/Decision"), accessFlags := 25, slot := 0, constantValue := 0 }]
  methods := #[k3m0, k3m1]
  instanceTypes := #[.boolean, (.object "com/example/firm_duties/firmduties/Decision$Reason")]
  staticTypes := #[(.object "com/example/firm_duties/firmduties/Decision")]
  resolved := Array.replicate 99 none
  statics := none }

def pool4 : Array CpInfo := pool [(1, .class_ 2), (0, u "java/io/Serializable"), (0, .class_ 4), (0, u "java/lang/Object")] 2

/-- java/io/Serializable -/
def k4 : Class := { plain "java/io/Serializable" (some 0) with
  accessFlags := 1537
  interfaces := #[]
  cf := some (fileOf pool4 1 #[] #[] 1537 3 #[] #[])
  fields := #[]
  methods := #[]
  instanceTypes := #[]
  staticTypes := #[]
  resolved := Array.replicate 7 none
  statics := none }

def pool5 : Array CpInfo := pool [(1, .class_ 2), (0, u "java/lang/Comparable"), (0, .class_ 4), (0, u "java/lang/Object")] 7

/-- java/lang/Comparable -/
def k5 : Class := { plain "java/lang/Comparable" (some 0) with
  accessFlags := 1537
  interfaces := #[]
  cf := some (fileOf pool5 1 #[] #[] 1537 3 #[] #[])
  fields := #[]
  methods := #[]
  instanceTypes := #[]
  staticTypes := #[]
  resolved := Array.replicate 12 none
  statics := none }

def pool6 : Array CpInfo := pool [(2, .class_ 4), (1, u "java/lang/CharSequence"), (42, .class_ 48), (0, u "java/lang/CharSequence$1CodePointIterator"), (10, .class_ 60), (0, u "java/lang/CharSequence$1CharIterator"), (5, .class_ 67), (0, u "java/lang/Object")] 63

/-- java/lang/CharSequence -/
def k6 : Class := { plain "java/lang/CharSequence" (some 0) with
  accessFlags := 1537
  interfaces := #[]
  cf := some (fileOf pool6 2 #[.nestMembers #[47, 59]] #[] 1537 66 #[] #[])
  fields := #[]
  methods := #[]
  instanceTypes := #[]
  staticTypes := #[]
  resolved := Array.replicate 131 none
  statics := none }

def pool7 : Array CpInfo := pool [(1, .class_ 2), (0, u "java/lang/constant/Constable"), (0, .class_ 4), (0, u "java/lang/Object")] 6

/-- java/lang/constant/Constable -/
def k7 : Class := { plain "java/lang/constant/Constable" (some 0) with
  accessFlags := 1537
  interfaces := #[]
  cf := some (fileOf pool7 1 #[] #[] 1537 3 #[] #[])
  fields := #[]
  methods := #[]
  instanceTypes := #[]
  staticTypes := #[]
  resolved := Array.replicate 11 none
  statics := none }

def pool8 : Array CpInfo := pool [(1, .class_ 2), (0, u "java/lang/constant/ConstantDesc"), (0, .class_ 4), (0, u "java/lang/Object")] 32

/-- java/lang/constant/ConstantDesc -/
def k8 : Class := { plain "java/lang/constant/ConstantDesc" (some 0) with
  accessFlags := 1537
  interfaces := #[]
  cf := some (fileOf pool8 1 #[] #[] 1537 3 #[] #[])
  fields := #[]
  methods := #[]
  instanceTypes := #[]
  staticTypes := #[]
  resolved := Array.replicate 37 none
  statics := none }

def pool9 : Array CpInfo := pool [(1, .methodref 2 3), (0, .class_ 4), (0, .nameAndType 5 6), (0, u "java/lang/Object"), (0, u "<init>"), (0, u "()V"), (2, .fieldref 10 11), (0, .class_ 12), (0, .nameAndType 13 14), (0, u "java/lang/String"), (0, u "value"), (0, u "[B"), (0, .fieldref 10 16), (0, .nameAndType 17 18), (0, u "coder"), (0, u "B"), (2, u "hash"), (0, u "I"), (2, u "hashIsZero"), (0, u "Z"), (11, .fieldref 10 39), (0, .nameAndType 40 26), (0, u "COMPACT_STRINGS"), (13, .methodref 55 56), (0, .class_ 57), (0, .nameAndType 58 59), (0, u "java/util/Arrays"), (0, u "copyOfRange"), (0, u "([BII)[B"), (47, .class_ 109), (1, u "java/lang/StringLatin1"), (32, u "()Z"), (50, .class_ 195), (1, u "java/lang/System"), (16, .methodref 193 213), (0, .nameAndType 214 215), (0, u "arraycopy"), (0, u "(Ljava/lang/Object;ILjava/lang/Object;II)V"), (118, u "()I"), (0, .methodref 10 336), (0, .nameAndType 17 337), (0, u "()B"), (2, u "()[B"), (148, .methodref 10 490), (0, .nameAndType 5 491), (0, u "(Ljava/lang/AbstractStringBuilder;Ljava/lang/Void;)V"), (1, .nameAndType 494 142), (0, u "isLatin1"), (11, .nameAndType 507 334), (0, u "length"), (24, u "getBytes"), (8, .methodref 107 542), (0, .nameAndType 543 544), (0, u "equals"), (0, u "([B[B)Z"), (4, .methodref 550 506), (0, .class_ 551), (0, u "java/lang/AbstractStringBuilder"), (0, .methodref 550 553), (0, .nameAndType 554 340), (0, u "getValue"), (18, u "(Ljava/lang/Object;)Z"), (1, .class_ 576), (0, u "java/lang/CharSequence"), (22, u "CASE_INSENSITIVE_ORDER"), (0, u "Ljava/util/Comparator;"), (220, u "([BIB)V"), (225, .methodref 550 493), (53, u "serialPersistentFields"), (0, u "[Ljava/io/ObjectStreamField;"), (0, .class_ 1104), (0, u "java/lang/String$CaseInsensitiveComparator"), (1, .class_ 1107), (0, u "java/io/Serializable"), (0, .class_ 1109), (0, u "java/lang/Comparable"), (0, .class_ 1111), (0, u "java/lang/constant/Constable"), (0, .class_ 1113), (0, u "java/lang/constant/ConstantDesc"), (2, u "serialVersionUID"), (0, u "J"), (3, u "REPL"), (0, u "C"), (2, u "LATIN1"), (1, u "UTF16"), (105, u "(Ljava/lang/StringBuilder;)V")] 217

def k9m0 : Method := { name := "<init>", desc := "()V", sig := { parameters := [], returnType := none }, accessFlags := 1, code := none }
def k9c1 : Code := { maxStack := 3, maxLocals := 2, code := jdk_42_method_53_code, exceptionTable := #[], attributes := #[] }
def k9m1 : Method := { name := "<init>", desc := "(Ljava/lang/StringBuilder;)V", sig := { parameters := [(.object "java/lang/StringBuilder")], returnType := none }, accessFlags := 1, code := some k9c1 }
def k9c2 : Code := { maxStack := 2, maxLocals := 1, code := jdk_42_method_54_code, exceptionTable := #[], attributes := #[] }
def k9m2 : Method := { name := "length", desc := "()I", sig := { parameters := [], returnType := some .int }, accessFlags := 1, code := some k9c2 }
def k9c3 : Code := { maxStack := 2, maxLocals := 3, code := jdk_42_method_66_code, exceptionTable := #[], attributes := #[] }
def k9m3 : Method := { name := "equals", desc := "(Ljava/lang/Object;)Z", sig := { parameters := [(.object "java/lang/Object")], returnType := some .boolean }, accessFlags := 1, code := some k9c3 }
def k9c4 : Code := { maxStack := 5, maxLocals := 4, code := jdk_42_method_147_code, exceptionTable := #[], attributes := #[] }
def k9m4 : Method := { name := "getBytes", desc := "([BIB)V", sig := { parameters := [(.array .byte), .int, .byte], returnType := none }, accessFlags := 0, code := some k9c4 }
def k9c5 : Code := { maxStack := 5, maxLocals := 5, code := jdk_42_method_150_code, exceptionTable := #[], attributes := #[] }
def k9m5 : Method := { name := "<init>", desc := "(Ljava/lang/AbstractStringBuilder;Ljava/lang/Void;)V", sig := { parameters := [(.object "java/lang/AbstractStringBuilder"), (.object "java/lang/Void")], returnType := none }, accessFlags := 0, code := some k9c5 }
def k9c6 : Code := { maxStack := 1, maxLocals := 1, code := jdk_42_method_152_code, exceptionTable := #[], attributes := #[] }
def k9m6 : Method := { name := "coder", desc := "()B", sig := { parameters := [], returnType := some .byte }, accessFlags := 0, code := some k9c6 }
/-- java/lang/String -/
def k9 : Class := { plain "java/lang/String" (some 0) with
  accessFlags := 49
  interfaces := #[4, 5, 6, 7, 8]
  cf := some (fileOf pool9 10 #[.nestMembers #[1103]] #[{ accessFlags := 1, nameIndex := 5, descriptorIndex := 6, attributes := #[] }, { accessFlags := 1, nameIndex := 5, descriptorIndex := 1233, attributes := #[] }, { accessFlags := 1, nameIndex := 507, descriptorIndex := 334, attributes := #[] }, { accessFlags := 1, nameIndex := 543, descriptorIndex := 573, attributes := #[] }, { accessFlags := 0, nameIndex := 532, descriptorIndex := 821, attributes := #[] }, { accessFlags := 0, nameIndex := 5, descriptorIndex := 491, attributes := #[] }, { accessFlags := 0, nameIndex := 17, descriptorIndex := 337, attributes := #[] }] 49 2 #[1106, 1108, 575, 1110, 1112] #[{ accessFlags := 18, nameIndex := 13, descriptorIndex := 14, attributes := #[] }, { accessFlags := 18, nameIndex := 17, descriptorIndex := 18, attributes := #[] }, { accessFlags := 2, nameIndex := 21, descriptorIndex := 22, attributes := #[] }, { accessFlags := 2, nameIndex := 25, descriptorIndex := 26, attributes := #[] }, { accessFlags := 26, nameIndex := 1116, descriptorIndex := 1117, attributes := #[] }, { accessFlags := 24, nameIndex := 40, descriptorIndex := 26, attributes := #[] }, { accessFlags := 26, nameIndex := 1101, descriptorIndex := 1102, attributes := #[] }, { accessFlags := 26, nameIndex := 1121, descriptorIndex := 1122, attributes := #[] }, { accessFlags := 25, nameIndex := 599, descriptorIndex := 600, attributes := #[] }, { accessFlags := 24, nameIndex := 1125, descriptorIndex := 18, attributes := #[] }, { accessFlags := 24, nameIndex := 1127, descriptorIndex := 18, attributes := #[] }])
  fields := #[{ name := "value", type := (.array .byte), accessFlags := 18, slot := 0, constantValue := 0 }, { name := "coder", type := .byte, accessFlags := 18, slot := 1, constantValue := 0 }, { name := "hash", type := .int, accessFlags := 2, slot := 2, constantValue := 0 }, { name := "hashIsZero", type := .boolean, accessFlags := 2, slot := 3, constantValue := 0 }, { name := "serialVersionUID", type := .long, accessFlags := 26, slot := 0, constantValue := 0 }, { name := "COMPACT_STRINGS", type := .boolean, accessFlags := 24, slot := 1, constantValue := 0 }, { name := "serialPersistentFields", type := (.array (.object "java/io/ObjectStreamField")), accessFlags := 26, slot := 2, constantValue := 0 }, { name := "REPL", type := .char, accessFlags := 26, slot := 3, constantValue := 0 }, { name := "CASE_INSENSITIVE_ORDER", type := (.object "java/util/Comparator"), accessFlags := 25, slot := 4, constantValue := 0 }, { name := "LATIN1", type := .byte, accessFlags := 24, slot := 5, constantValue := 0 }, { name := "UTF16", type := .byte, accessFlags := 24, slot := 6, constantValue := 0 }]
  methods := #[k9m0, k9m1, k9m2, k9m3, k9m4, k9m5, k9m6]
  instanceTypes := #[(.array .byte), .byte, .int, .boolean]
  staticTypes := #[.long, .boolean, (.array (.object "java/io/ObjectStreamField")), .char, (.object "java/util/Comparator"), .byte, .byte]
  resolved := Array.replicate 1451 none
  statics := some 0 }

def pool10 : Array CpInfo := pool [(2, .class_ 4), (1, u "java/lang/Enum"), (0, u "name"), (0, u "Ljava/lang/String;"), (2, u "ordinal"), (0, u "I"), (1, .class_ 14), (1, u "java/lang/Object"), (4, u "hash"), (86, .class_ 108), (1, u "java/lang/Enum$EnumDesc"), (2, .class_ 112), (0, u "java/lang/constant/Constable"), (0, .class_ 114), (0, u "java/lang/Comparable"), (0, .class_ 116), (0, u "java/io/Serializable")] 87

/-- java/lang/Enum -/
def k10 : Class := { plain "java/lang/Enum" (some 0) with
  accessFlags := 1057
  interfaces := #[7, 5, 4]
  cf := some (fileOf pool10 2 #[.nestMembers #[106]] #[] 1057 12 #[111, 113, 115] #[{ accessFlags := 18, nameIndex := 5, descriptorIndex := 6, attributes := #[] }, { accessFlags := 18, nameIndex := 9, descriptorIndex := 10, attributes := #[] }, { accessFlags := 2, nameIndex := 19, descriptorIndex := 10, attributes := #[] }])
  fields := #[{ name := "name", type := (.object "java/lang/String"), accessFlags := 18, slot := 0, constantValue := 0 }, { name := "ordinal", type := .int, accessFlags := 18, slot := 1, constantValue := 0 }, { name := "hash", type := .int, accessFlags := 2, slot := 2, constantValue := 0 }]
  methods := #[]
  instanceTypes := #[(.object "java/lang/String"), .int, .int]
  staticTypes := #[]
  resolved := Array.replicate 204 none
  statics := none }

def pool11 : Array CpInfo := pool [(1, .class_ 2), (0, u "com/example/firm_duties/firmduties/Decision$Reason"), (2, u "NOT_PERMITTED"), (0, u "Lcom/example/firm_duties/firmduties/Decision$Reason;"), (2, u "SEPARATION_OF_DUTY"), (2, u "BAD_REQUEST"), (2, u "$VALUES"), (0, u "[Lcom/example/firm_duties/firmduties/Decision$Reason;"), (6, .class_ 25), (1, u "java/lang/Enum"), (6, .fieldref 1 33), (0, .nameAndType 34 35), (0, u "code"), (0, u "Ljava/lang/String;"), (23, u "()Ljava/lang/String;"), (6, .class_ 67), (0, u "com/example/firm_duties/firmduties/Decision")] 2

def k11c0 : Code := { maxStack := 1, maxLocals := 1, code := prog_5_method_4_code, exceptionTable := #[], attributes := #[] }
def k11m0 : Method := { name := "code", desc := "()Ljava/lang/String;", sig := { parameters := [], returnType := some (.object "java/lang/String") }, accessFlags := 1, code := some k11c0 }
/-- com/example/firm_duties/firmduties/Decision$Reason -/
def k11 : Class := { plain "com/example/firm_duties/firmduties/Decision$Reason" (some 10) with
  accessFlags := 16433
  interfaces := #[]
  cf := some (fileOf pool11 1 #[.nestHost 66] #[{ accessFlags := 1, nameIndex := 34, descriptorIndex := 59, attributes := #[] }] 16433 23 #[] #[{ accessFlags := 16409, nameIndex := 5, descriptorIndex := 6, attributes := #[] }, { accessFlags := 16409, nameIndex := 9, descriptorIndex := 6, attributes := #[] }, { accessFlags := 16409, nameIndex := 12, descriptorIndex := 6, attributes := #[] }, { accessFlags := 18, nameIndex := 34, descriptorIndex := 35, attributes := #[] }, { accessFlags := 4122, nameIndex := 15, descriptorIndex := 16, attributes := #[] }])
  fields := #[{ name := "NOT_PERMITTED", type := (.object "com/example/firm_duties/firmduties/Decision$Reason"), accessFlags := 16409, slot := 0, constantValue := 0 }, { name := "SEPARATION_OF_DUTY", type := (.object "com/example/firm_duties/firmduties/Decision$Reason"), accessFlags := 16409, slot := 1, constantValue := 0 }, { name := "BAD_REQUEST", type := (.object "com/example/firm_duties/firmduties/Decision$Reason"), accessFlags := 16409, slot := 2, constantValue := 0 }, { name := "code", type := (.object "java/lang/String"), accessFlags := 18, slot := 3, constantValue := 0 }, { name := "$VALUES", type := (.array (.object "com/example/firm_duties/firmduties/Decision$Reason")), accessFlags := 4122, slot := 3, constantValue := 0 }]
  methods := #[k11m0]
  instanceTypes := #[(.object "java/lang/String"), .int, .int, (.object "java/lang/String")]
  staticTypes := #[(.object "com/example/firm_duties/firmduties/Decision$Reason"), (.object "com/example/firm_duties/firmduties/Decision$Reason"), (.object "com/example/firm_duties/firmduties/Decision$Reason"), (.array (.object "com/example/firm_duties/firmduties/Decision$Reason"))]
  resolved := Array.replicate 70 none
  statics := some 1 }

def pool12 : Array CpInfo := pool [(1, .class_ 2), (0, u "java/lang/Appendable"), (0, .class_ 4), (0, u "java/lang/Object")] 9

/-- java/lang/Appendable -/
def k12 : Class := { plain "java/lang/Appendable" (some 0) with
  accessFlags := 1537
  interfaces := #[]
  cf := some (fileOf pool12 1 #[] #[] 1537 3 #[] #[])
  fields := #[]
  methods := #[]
  instanceTypes := #[]
  staticTypes := #[]
  resolved := Array.replicate 14 none
  statics := none }

def pool13 : Array CpInfo := pool [(1, .class_ 2), (0, u "java/lang/String"), (0, .methodref 4 5), (0, .class_ 6), (0, .nameAndType 7 8), (0, u "java/lang/Object"), (0, u "<init>"), (0, u "()V"), (1, .class_ 12), (1, u "java/lang/AbstractStringBuilder"), (0, u "EMPTYVALUE"), (0, u "[B"), (0, .fieldref 10 16), (0, .nameAndType 17 14), (0, u "value"), (0, .fieldref 1 19), (0, .nameAndType 20 21), (0, u "COMPACT_STRINGS"), (0, u "Z"), (0, .fieldref 10 23), (0, .nameAndType 24 25), (0, u "coder"), (0, u "B"), (6, .methodref 1 33), (0, .nameAndType 34 35), (0, u "length"), (0, u "()I"), (3, .integer 2147483647), (0, .methodref 1 41), (0, .nameAndType 24 42), (0, u "()B"), (2, u "append"), (0, u "(Ljava/lang/String;)Ljava/lang/AbstractStringBuilder;"), (1, .class_ 49), (0, u "java/lang/CharSequence"), (19, u "(Ljava/lang/String;)V"), (5, u "maybeLatin1"), (3, .fieldref 10 80), (0, .nameAndType 81 82), (0, u "count"), (0, u "I"), (2, u "isLatin1"), (0, u "()Z"), (13, .methodref 10 101), (0, .nameAndType 102 103), (0, u "ensureCapacityInternal"), (0, u "(I)V"), (0, .methodref 10 105), (0, .nameAndType 106 107), (0, u "newCapacity"), (0, u "(I)I"), (0, .methodref 109 110), (0, .class_ 111), (0, .nameAndType 112 113), (0, u "java/util/Arrays"), (0, u "copyOf"), (0, u "([BI)[B"), (0, .methodref 115 116), (0, .class_ 117), (0, .nameAndType 118 119), (0, u "jdk/internal/util/ArraysSupport"), (0, u "newLength"), (0, u "(III)I"), (88, .methodref 10 209), (0, .nameAndType 210 211), (0, u "putStringAt"), (0, u "(ILjava/lang/String;)V"), (5, u "inflateIfNeededFor"), (2, .nameAndType 221 222), (0, u "getBytes"), (0, u "([BIB)V"), (174, .methodref 10 398), (0, .nameAndType 217 69), (0, .methodref 1 220), (3, u "()[B"), (40, .class_ 445), (0, u "java/lang/Appendable"), (106, u "getValue")] 56

def k13m0 : Method := { name := "<init>", desc := "()V", sig := { parameters := [], returnType := none }, accessFlags := 0, code := none }
def k13c1 : Code := { maxStack := 2, maxLocals := 2, code := jdk_68_method_2_code, exceptionTable := #[], attributes := #[] }
def k13m1 : Method := { name := "<init>", desc := "(I)V", sig := { parameters := [.int], returnType := none }, accessFlags := 0, code := some k13c1 }
def k13c2 : Code := { maxStack := 1, maxLocals := 1, code := jdk_68_method_6_code, exceptionTable := #[], attributes := #[] }
def k13m2 : Method := { name := "length", desc := "()I", sig := { parameters := [], returnType := some .int }, accessFlags := 1, code := some k13c2 }
def k13c3 : Code := { maxStack := 4, maxLocals := 3, code := jdk_68_method_9_code, exceptionTable := #[], attributes := #[] }
def k13m3 : Method := { name := "ensureCapacityInternal", desc := "(I)V", sig := { parameters := [.int], returnType := none }, accessFlags := 2, code := some k13c3 }
def k13c4 : Code := { maxStack := 5, maxLocals := 6, code := jdk_68_method_10_code, exceptionTable := #[], attributes := #[] }
def k13m4 : Method := { name := "newCapacity", desc := "(I)I", sig := { parameters := [.int], returnType := some .int }, accessFlags := 2, code := some k13c4 }
def k13c5 : Code := { maxStack := 3, maxLocals := 3, code := jdk_68_method_22_code, exceptionTable := #[], attributes := #[] }
def k13m5 : Method := { name := "append", desc := "(Ljava/lang/String;)Ljava/lang/AbstractStringBuilder;", sig := { parameters := [(.object "java/lang/String")], returnType := some (.object "java/lang/AbstractStringBuilder") }, accessFlags := 1, code := some k13c5 }
def k13c6 : Code := { maxStack := 1, maxLocals := 1, code := jdk_68_method_64_code, exceptionTable := #[], attributes := #[] }
def k13m6 : Method := { name := "getValue", desc := "()[B", sig := { parameters := [], returnType := some (.array .byte) }, accessFlags := 16, code := some k13c6 }
def k13c7 : Code := { maxStack := 1, maxLocals := 1, code := jdk_68_method_68_code, exceptionTable := #[], attributes := #[] }
def k13m7 : Method := { name := "isLatin1", desc := "()Z", sig := { parameters := [], returnType := some .boolean }, accessFlags := 16, code := some k13c7 }
def k13c8 : Code := { maxStack := 2, maxLocals := 2, code := jdk_68_method_71_code, exceptionTable := #[], attributes := #[] }
def k13m8 : Method := { name := "inflateIfNeededFor", desc := "(Ljava/lang/String;)V", sig := { parameters := [(.object "java/lang/String")], returnType := none }, accessFlags := 2, code := some k13c8 }
def k13c9 : Code := { maxStack := 4, maxLocals := 3, code := jdk_68_method_73_code, exceptionTable := #[], attributes := #[] }
def k13m9 : Method := { name := "putStringAt", desc := "(ILjava/lang/String;)V", sig := { parameters := [.int, (.object "java/lang/String")], returnType := none }, accessFlags := 2, code := some k13c9 }
/-- java/lang/AbstractStringBuilder -/
def k13 : Class := { plain "java/lang/AbstractStringBuilder" (some 0) with
  accessFlags := 1056
  interfaces := #[12, 6]
  cf := some (fileOf pool13 10 #[] #[{ accessFlags := 0, nameIndex := 7, descriptorIndex := 8, attributes := #[] }, { accessFlags := 0, nameIndex := 7, descriptorIndex := 103, attributes := #[] }, { accessFlags := 1, nameIndex := 34, descriptorIndex := 35, attributes := #[] }, { accessFlags := 2, nameIndex := 102, descriptorIndex := 103, attributes := #[] }, { accessFlags := 2, nameIndex := 106, descriptorIndex := 107, attributes := #[] }, { accessFlags := 1, nameIndex := 45, descriptorIndex := 46, attributes := #[] }, { accessFlags := 16, nameIndex := 552, descriptorIndex := 403, attributes := #[] }, { accessFlags := 16, nameIndex := 85, descriptorIndex := 86, attributes := #[] }, { accessFlags := 2, nameIndex := 217, descriptorIndex := 69, attributes := #[] }, { accessFlags := 2, nameIndex := 210, descriptorIndex := 211, attributes := #[] }] 1056 4 #[444, 48] #[{ accessFlags := 0, nameIndex := 17, descriptorIndex := 14, attributes := #[] }, { accessFlags := 0, nameIndex := 24, descriptorIndex := 25, attributes := #[] }, { accessFlags := 0, nameIndex := 75, descriptorIndex := 21, attributes := #[] }, { accessFlags := 0, nameIndex := 81, descriptorIndex := 82, attributes := #[] }, { accessFlags := 26, nameIndex := 13, descriptorIndex := 14, attributes := #[] }])
  fields := #[{ name := "value", type := (.array .byte), accessFlags := 0, slot := 0, constantValue := 0 }, { name := "coder", type := .byte, accessFlags := 0, slot := 1, constantValue := 0 }, { name := "maybeLatin1", type := .boolean, accessFlags := 0, slot := 2, constantValue := 0 }, { name := "count", type := .int, accessFlags := 0, slot := 3, constantValue := 0 }, { name := "EMPTYVALUE", type := (.array .byte), accessFlags := 26, slot := 0, constantValue := 0 }]
  methods := #[k13m0, k13m1, k13m2, k13m3, k13m4, k13m5, k13m6, k13m7, k13m8, k13m9]
  instanceTypes := #[(.array .byte), .byte, .boolean, .int]
  staticTypes := #[(.array .byte)]
  resolved := Array.replicate 609 none
  statics := none }

def pool14 : Array CpInfo := pool [(1, .methodref 2 3), (0, .class_ 4), (0, .nameAndType 5 6), (0, u "java/lang/AbstractStringBuilder"), (0, u "<init>"), (0, u "(I)V"), (11, .class_ 20), (1, u "java/lang/String"), (3, .class_ 26), (1, u "java/lang/StringBuilder"), (0, u "append"), (0, u "(Ljava/lang/String;)Ljava/lang/StringBuilder;"), (0, .methodref 2 30), (0, .nameAndType 27 31), (0, u "(Ljava/lang/String;)Ljava/lang/AbstractStringBuilder;"), (105, .methodref 18 138), (0, .nameAndType 5 139), (0, u "(Ljava/lang/StringBuilder;)V"), (5, u "()V"), (10, u "()I"), (186, .methodref 2 344), (0, .nameAndType 345 156), (0, u "length"), (3, .class_ 350), (0, u "java/lang/Appendable"), (0, .class_ 352), (0, u "java/io/Serializable"), (0, .class_ 354), (0, u "java/lang/Comparable"), (0, .class_ 356), (0, u "java/lang/CharSequence"), (0, u "serialVersionUID"), (0, u "J"), (40, u "toString"), (0, u "()Ljava/lang/String;")] 21

def k14c0 : Code := { maxStack := 2, maxLocals := 1, code := jdk_67_method_1_code, exceptionTable := #[], attributes := #[] }
def k14m0 : Method := { name := "<init>", desc := "()V", sig := { parameters := [], returnType := none }, accessFlags := 1, code := some k14c0 }
def k14c1 : Code := { maxStack := 2, maxLocals := 2, code := jdk_67_method_7_code, exceptionTable := #[], attributes := #[] }
def k14m1 : Method := { name := "append", desc := "(Ljava/lang/String;)Ljava/lang/StringBuilder;", sig := { parameters := [(.object "java/lang/String")], returnType := some (.object "java/lang/StringBuilder") }, accessFlags := 1, code := some k14c1 }
def k14c2 : Code := { maxStack := 3, maxLocals := 1, code := jdk_67_method_42_code, exceptionTable := #[], attributes := #[] }
def k14m2 : Method := { name := "toString", desc := "()Ljava/lang/String;", sig := { parameters := [], returnType := some (.object "java/lang/String") }, accessFlags := 1, code := some k14c2 }
def k14c3 : Code := { maxStack := 1, maxLocals := 1, code := jdk_67_method_93_code, exceptionTable := #[], attributes := #[] }
def k14m3 : Method := { name := "length", desc := "()I", sig := { parameters := [], returnType := some .int }, accessFlags := 4161, code := some k14c3 }
/-- java/lang/StringBuilder -/
def k14 : Class := { plain "java/lang/StringBuilder" (some 13) with
  accessFlags := 49
  interfaces := #[12, 4, 5, 6]
  cf := some (fileOf pool14 24 #[] #[{ accessFlags := 1, nameIndex := 5, descriptorIndex := 145, attributes := #[] }, { accessFlags := 1, nameIndex := 27, descriptorIndex := 28, attributes := #[] }, { accessFlags := 1, nameIndex := 399, descriptorIndex := 400, attributes := #[] }, { accessFlags := 4161, nameIndex := 345, descriptorIndex := 156, attributes := #[] }] 49 2 #[349, 351, 353, 355] #[{ accessFlags := 24, nameIndex := 357, descriptorIndex := 358, attributes := #[] }])
  fields := #[{ name := "serialVersionUID", type := .long, accessFlags := 24, slot := 0, constantValue := 0 }]
  methods := #[k14m0, k14m1, k14m2, k14m3]
  instanceTypes := #[(.array .byte), .byte, .boolean, .int]
  staticTypes := #[.long]
  resolved := Array.replicate 422 none
  statics := none }

def pool15 : Array CpInfo := pool [(9, u "<init>"), (6, .class_ 18), (1, u "java/lang/Object"), (0, u "()V"), (1, .class_ 23), (1, u "jdk/internal/util/ArraysSupport"), (0, u "LOG2_ARRAY_LONG_INDEX_SCALE"), (0, u "I"), (2, u "U"), (0, u "Ljdk/internal/misc/Unsafe;"), (8, u "BIG_ENDIAN"), (0, u "Z"), (8, u "LOG2_BYTE_BIT_SIZE"), (4, u "LOG2_ARRAY_INT_INDEX_SCALE"), (54, u "JLA"), (0, u "Ljdk/internal/access/JavaLangAccess;"), (11, u "LOG2_ARRAY_BOOLEAN_INDEX_SCALE"), (9, u "LOG2_ARRAY_BYTE_INDEX_SCALE"), (5, u "LOG2_ARRAY_CHAR_INDEX_SCALE"), (5, u "LOG2_ARRAY_SHORT_INDEX_SCALE"), (18, u "LOG2_ARRAY_FLOAT_INDEX_SCALE"), (24, u "LOG2_ARRAY_DOUBLE_INDEX_SCALE"), (6, .methodref 195 196), (0, .class_ 197), (0, .nameAndType 198 199), (0, u "java/lang/Math"), (0, u "max"), (0, u "(II)I"), (0, .integer 2147483639), (76, u "T_BOOLEAN"), (2, u "T_CHAR"), (1, u "T_FLOAT"), (1, u "T_DOUBLE"), (1, u "T_BYTE"), (1, u "T_SHORT"), (1, u "T_INT"), (1, u "T_LONG"), (1, u "SOFT_MAX_ARRAY_LENGTH"), (56, u "newLength"), (0, u "(III)I")] 25

def k15m0 : Method := { name := "<init>", desc := "()V", sig := { parameters := [], returnType := none }, accessFlags := 2, code := none }
def k15c1 : Code := { maxStack := 3, maxLocals := 4, code := jdk_48_method_27_code, exceptionTable := #[], attributes := #[] }
def k15m1 : Method := { name := "newLength", desc := "(III)I", sig := { parameters := [.int, .int, .int], returnType := some .int }, accessFlags := 9, code := some k15c1 }
/-- jdk/internal/util/ArraysSupport -/
def k15 : Class := { plain "jdk/internal/util/ArraysSupport" (some 0) with
  accessFlags := 33
  interfaces := #[]
  cf := some (fileOf pool15 21 #[] #[{ accessFlags := 2, nameIndex := 9, descriptorIndex := 19, attributes := #[] }, { accessFlags := 9, nameIndex := 351, descriptorIndex := 352, attributes := #[] }] 33 16 #[] #[{ accessFlags := 24, nameIndex := 28, descriptorIndex := 29, attributes := #[] }, { accessFlags := 26, nameIndex := 38, descriptorIndex := 39, attributes := #[] }, { accessFlags := 25, nameIndex := 121, descriptorIndex := 25, attributes := #[] }, { accessFlags := 25, nameIndex := 131, descriptorIndex := 25, attributes := #[] }, { accessFlags := 25, nameIndex := 137, descriptorIndex := 25, attributes := #[] }, { accessFlags := 25, nameIndex := 143, descriptorIndex := 25, attributes := #[] }, { accessFlags := 25, nameIndex := 53, descriptorIndex := 25, attributes := #[] }, { accessFlags := 25, nameIndex := 24, descriptorIndex := 25, attributes := #[] }, { accessFlags := 25, nameIndex := 162, descriptorIndex := 25, attributes := #[] }, { accessFlags := 25, nameIndex := 187, descriptorIndex := 25, attributes := #[] }, { accessFlags := 26, nameIndex := 48, descriptorIndex := 25, attributes := #[] }, { accessFlags := 25, nameIndex := 277, descriptorIndex := 25, attributes := #[] }, { accessFlags := 25, nameIndex := 280, descriptorIndex := 25, attributes := #[] }, { accessFlags := 25, nameIndex := 282, descriptorIndex := 25, attributes := #[] }, { accessFlags := 25, nameIndex := 284, descriptorIndex := 25, attributes := #[] }, { accessFlags := 25, nameIndex := 286, descriptorIndex := 25, attributes := #[] }, { accessFlags := 25, nameIndex := 288, descriptorIndex := 25, attributes := #[] }, { accessFlags := 25, nameIndex := 290, descriptorIndex := 25, attributes := #[] }, { accessFlags := 25, nameIndex := 292, descriptorIndex := 25, attributes := #[] }, { accessFlags := 26, nameIndex := 108, descriptorIndex := 109, attributes := #[] }, { accessFlags := 25, nameIndex := 294, descriptorIndex := 25, attributes := #[] }])
  fields := #[{ name := "U", type := (.object "jdk/internal/misc/Unsafe"), accessFlags := 24, slot := 0, constantValue := 0 }, { name := "BIG_ENDIAN", type := .boolean, accessFlags := 26, slot := 1, constantValue := 0 }, { name := "LOG2_ARRAY_BOOLEAN_INDEX_SCALE", type := .int, accessFlags := 25, slot := 2, constantValue := 0 }, { name := "LOG2_ARRAY_BYTE_INDEX_SCALE", type := .int, accessFlags := 25, slot := 3, constantValue := 0 }, { name := "LOG2_ARRAY_CHAR_INDEX_SCALE", type := .int, accessFlags := 25, slot := 4, constantValue := 0 }, { name := "LOG2_ARRAY_SHORT_INDEX_SCALE", type := .int, accessFlags := 25, slot := 5, constantValue := 0 }, { name := "LOG2_ARRAY_INT_INDEX_SCALE", type := .int, accessFlags := 25, slot := 6, constantValue := 0 }, { name := "LOG2_ARRAY_LONG_INDEX_SCALE", type := .int, accessFlags := 25, slot := 7, constantValue := 0 }, { name := "LOG2_ARRAY_FLOAT_INDEX_SCALE", type := .int, accessFlags := 25, slot := 8, constantValue := 0 }, { name := "LOG2_ARRAY_DOUBLE_INDEX_SCALE", type := .int, accessFlags := 25, slot := 9, constantValue := 0 }, { name := "LOG2_BYTE_BIT_SIZE", type := .int, accessFlags := 26, slot := 10, constantValue := 0 }, { name := "T_BOOLEAN", type := .int, accessFlags := 25, slot := 11, constantValue := 0 }, { name := "T_CHAR", type := .int, accessFlags := 25, slot := 12, constantValue := 0 }, { name := "T_FLOAT", type := .int, accessFlags := 25, slot := 13, constantValue := 0 }, { name := "T_DOUBLE", type := .int, accessFlags := 25, slot := 14, constantValue := 0 }, { name := "T_BYTE", type := .int, accessFlags := 25, slot := 15, constantValue := 0 }, { name := "T_SHORT", type := .int, accessFlags := 25, slot := 16, constantValue := 0 }, { name := "T_INT", type := .int, accessFlags := 25, slot := 17, constantValue := 0 }, { name := "T_LONG", type := .int, accessFlags := 25, slot := 18, constantValue := 0 }, { name := "JLA", type := (.object "jdk/internal/access/JavaLangAccess"), accessFlags := 26, slot := 19, constantValue := 0 }, { name := "SOFT_MAX_ARRAY_LENGTH", type := .int, accessFlags := 25, slot := 20, constantValue := 0 }]
  methods := #[k15m0, k15m1]
  instanceTypes := #[]
  staticTypes := #[(.object "jdk/internal/misc/Unsafe"), .boolean, .int, .int, .int, .int, .int, .int, .int, .int, .int, .int, .int, .int, .int, .int, .int, .int, .int, (.object "jdk/internal/access/JavaLangAccess"), .int]
  resolved := Array.replicate 378 none
  statics := none }

def pool16 : Array CpInfo := pool [(1, .class_ 2), (0, u "java/lang/Math"), (1, .class_ 6), (1, u "java/lang/Object"), (0, u "<init>"), (0, u "()V"), (89, .class_ 100), (1, u "java/lang/Math$RandomNumberGeneratorHolder"), (71, u "negativeZeroFloatBits"), (0, u "J"), (2, u "negativeZeroDoubleBits"), (21, u "max"), (2, u "min"), (43, u "$assertionsDisabled"), (0, u "Z"), (88, u "(II)I"), (2, u "twoToTheDoubleScaleDown"), (0, u "D"), (4, u "twoToTheDoubleScaleUp"), (9, u "E"), (3, u "PI"), (2, u "TAU"), (2, u "DEGREES_TO_RADIANS"), (0, u "RADIANS_TO_DEGREES")] 94

def k16m0 : Method := { name := "<init>", desc := "()V", sig := { parameters := [], returnType := none }, accessFlags := 2, code := none }
def k16c1 : Code := { maxStack := 2, maxLocals := 2, code := jdk_29_method_65_code, exceptionTable := #[], attributes := #[] }
def k16m1 : Method := { name := "max", desc := "(II)I", sig := { parameters := [.int, .int], returnType := some .int }, accessFlags := 9, code := some k16c1 }
def k16c2 : Code := { maxStack := 2, maxLocals := 2, code := jdk_29_method_69_code, exceptionTable := #[], attributes := #[] }
def k16m2 : Method := { name := "min", desc := "(II)I", sig := { parameters := [.int, .int], returnType := some .int }, accessFlags := 9, code := some k16c2 }
/-- java/lang/Math -/
def k16 : Class := { plain "java/lang/Math" (some 0) with
  accessFlags := 49
  interfaces := #[]
  cf := some (fileOf pool16 1 #[.nestMembers #[98]] #[{ accessFlags := 2, nameIndex := 7, descriptorIndex := 8, attributes := #[] }, { accessFlags := 9, nameIndex := 198, descriptorIndex := 335, attributes := #[] }, { accessFlags := 9, nameIndex := 201, descriptorIndex := 335, attributes := #[] }] 49 4 #[] #[{ accessFlags := 25, nameIndex := 354, descriptorIndex := 339, attributes := #[] }, { accessFlags := 25, nameIndex := 358, descriptorIndex := 339, attributes := #[] }, { accessFlags := 25, nameIndex := 361, descriptorIndex := 339, attributes := #[] }, { accessFlags := 26, nameIndex := 364, descriptorIndex := 339, attributes := #[] }, { accessFlags := 26, nameIndex := 365, descriptorIndex := 339, attributes := #[] }, { accessFlags := 26, nameIndex := 172, descriptorIndex := 173, attributes := #[] }, { accessFlags := 26, nameIndex := 176, descriptorIndex := 173, attributes := #[] }, { accessFlags := 8, nameIndex := 344, descriptorIndex := 339, attributes := #[] }, { accessFlags := 8, nameIndex := 338, descriptorIndex := 339, attributes := #[] }, { accessFlags := 4120, nameIndex := 245, descriptorIndex := 246, attributes := #[] }])
  fields := #[{ name := "E", type := .double, accessFlags := 25, slot := 0, constantValue := 0 }, { name := "PI", type := .double, accessFlags := 25, slot := 1, constantValue := 0 }, { name := "TAU", type := .double, accessFlags := 25, slot := 2, constantValue := 0 }, { name := "DEGREES_TO_RADIANS", type := .double, accessFlags := 26, slot := 3, constantValue := 0 }, { name := "RADIANS_TO_DEGREES", type := .double, accessFlags := 26, slot := 4, constantValue := 0 }, { name := "negativeZeroFloatBits", type := .long, accessFlags := 26, slot := 5, constantValue := 0 }, { name := "negativeZeroDoubleBits", type := .long, accessFlags := 26, slot := 6, constantValue := 0 }, { name := "twoToTheDoubleScaleUp", type := .double, accessFlags := 8, slot := 7, constantValue := 0 }, { name := "twoToTheDoubleScaleDown", type := .double, accessFlags := 8, slot := 8, constantValue := 0 }, { name := "$assertionsDisabled", type := .boolean, accessFlags := 4120, slot := 9, constantValue := 0 }]
  methods := #[k16m0, k16m1, k16m2]
  instanceTypes := #[]
  staticTypes := #[.double, .double, .double, .double, .double, .long, .long, .double, .double, .boolean]
  resolved := Array.replicate 460 none
  statics := none }

def pool17 : Array CpInfo := pool [(2, .class_ 4), (1, u "java/lang/Object"), (0, u "<init>"), (0, u "()V"), (7, .class_ 16), (1, u "java/util/Arrays"), (57, .class_ 76), (1, u "java/util/Arrays$NaturalOrder"), (36, .class_ 115), (1, u "java/util/Arrays$LegacyMergeSort"), (1, u "Z"), (21, u "copyOfRange"), (10, .methodref 151 152), (0, .class_ 153), (0, .nameAndType 154 155), (0, u "java/lang/System"), (0, u "arraycopy"), (0, u "(Ljava/lang/Object;ILjava/lang/Object;II)V"), (146, u "copyOf"), (1, .methodref 305 306), (0, .class_ 307), (0, .nameAndType 308 309), (0, u "java/lang/Math"), (0, u "min"), (0, u "(II)I"), (29, .methodref 14 340), (0, .nameAndType 341 342), (0, u "copyOfRangeByte"), (0, u "([BII)[B"), (0, .methodref 14 344), (0, .nameAndType 345 346), (0, u "checkLength"), (0, u "(II)V"), (28, .class_ 376), (0, u "java/util/Arrays$ArrayList"), (68, u "$assertionsDisabled"), (269, u "MIN_ARRAY_SORT_GRAN"), (0, u "I"), (2, u "INSERTIONSORT_THRESHOLD"), (149, u "([BI)[B"), (105, .class_ 976), (0, u "java/util/Arrays$ArrayItr")] 52

def k17m0 : Method := { name := "<init>", desc := "()V", sig := { parameters := [], returnType := none }, accessFlags := 2, code := none }
def k17c1 : Code := { maxStack := 6, maxLocals := 3, code := jdk_65_method_121_code, exceptionTable := #[], attributes := #[] }
def k17m1 : Method := { name := "copyOf", desc := "([BI)[B", sig := { parameters := [(.array .byte), .int], returnType := some (.array .byte) }, accessFlags := 9, code := some k17c1 }
def k17c2 : Code := { maxStack := 4, maxLocals := 2, code := jdk_65_method_131_code, exceptionTable := #[], attributes := #[] }
def k17m2 : Method := { name := "checkLength", desc := "(II)V", sig := { parameters := [.int, .int], returnType := none }, accessFlags := 10, code := some k17c2 }
def k17c3 : Code := { maxStack := 3, maxLocals := 3, code := jdk_65_method_132_code, exceptionTable := #[], attributes := #[] }
def k17m3 : Method := { name := "copyOfRange", desc := "([BII)[B", sig := { parameters := [(.array .byte), .int, .int], returnType := some (.array .byte) }, accessFlags := 9, code := some k17c3 }
def k17c4 : Code := { maxStack := 6, maxLocals := 5, code := jdk_65_method_133_code, exceptionTable := #[], attributes := #[] }
def k17m4 : Method := { name := "copyOfRangeByte", desc := "([BII)[B", sig := { parameters := [(.array .byte), .int, .int], returnType := some (.array .byte) }, accessFlags := 10, code := some k17c4 }
/-- java/util/Arrays -/
def k17 : Class := { plain "java/util/Arrays" (some 0) with
  accessFlags := 49
  interfaces := #[]
  cf := some (fileOf pool17 14 #[.nestMembers #[975, 375, 113, 74]] #[{ accessFlags := 2, nameIndex := 5, descriptorIndex := 6, attributes := #[] }, { accessFlags := 9, nameIndex := 302, descriptorIndex := 869, attributes := #[] }, { accessFlags := 10, nameIndex := 345, descriptorIndex := 346, attributes := #[] }, { accessFlags := 9, nameIndex := 139, descriptorIndex := 342, attributes := #[] }, { accessFlags := 10, nameIndex := 341, descriptorIndex := 342, attributes := #[] }] 49 2 #[] #[{ accessFlags := 26, nameIndex := 715, descriptorIndex := 716, attributes := #[] }, { accessFlags := 26, nameIndex := 719, descriptorIndex := 716, attributes := #[] }, { accessFlags := 4120, nameIndex := 445, descriptorIndex := 117, attributes := #[] }])
  fields := #[{ name := "MIN_ARRAY_SORT_GRAN", type := .int, accessFlags := 26, slot := 0, constantValue := 0 }, { name := "INSERTIONSORT_THRESHOLD", type := .int, accessFlags := 26, slot := 1, constantValue := 0 }, { name := "$assertionsDisabled", type := .boolean, accessFlags := 4120, slot := 2, constantValue := 0 }]
  methods := #[k17m0, k17m1, k17m2, k17m3, k17m4]
  instanceTypes := #[]
  staticTypes := #[.int, .int, .boolean]
  resolved := Array.replicate 1029 none
  statics := none }

def pool18 : Array CpInfo := pool [(2, .class_ 4), (1, u "java/lang/Object"), (0, u "<init>"), (0, u "()V"), (1, .class_ 10), (1, u "java/lang/System"), (0, u "allowSecurityManager"), (0, u "I"), (16, u "cons"), (0, u "Ljava/io/Console;"), (77, .class_ 110), (1, u "java/lang/System$CallersHolder"), (43, u "initialErrStream"), (0, u "Ljava/io/PrintStream;"), (19, u "security"), (0, u "Ljava/lang/SecurityManager;"), (31, .class_ 209), (0, u "java/lang/System$1"), (7, u "props"), (0, u "Ljava/util/Properties;"), (2, u "lineSeparator"), (0, u "Ljava/lang/String;"), (96, .class_ 321), (1, u "java/lang/System$LoggerFinder"), (5, .class_ 328), (0, u "java/lang/System$Logger"), (67, u "err"), (2, u "out"), (91, u "notSupportedJnuEncoding"), (15, u "in"), (17, u "initialIn"), (0, u "Ljava/io/InputStream;"), (35, u "bootLayer"), (0, u "Ljava/lang/ModuleLayer;"), (99, .class_ 664), (0, u "java/lang/System$2"), (9, u "NEVER"), (2, u "MAYBE"), (49, u "arraycopy"), (0, u "(Ljava/lang/Object;ILjava/lang/Object;II)V"), (72, .class_ 802), (0, u "java/lang/System$Logger$Level")] 31

def k18m0 : Method := { name := "<init>", desc := "()V", sig := { parameters := [], returnType := none }, accessFlags := 2, code := none }
def k18m1 : Method := { name := "arraycopy", desc := "(Ljava/lang/Object;ILjava/lang/Object;II)V", sig := { parameters := [(.object "java/lang/Object"), .int, (.object "java/lang/Object"), .int, .int], returnType := none }, accessFlags := 265, code := none }
/-- java/lang/System -/
def k18 : Class := { plain "java/lang/System" (some 0) with
  accessFlags := 49
  interfaces := #[]
  cf := some (fileOf pool18 8 #[.nestMembers #[319, 327, 801, 108, 663, 208]] #[{ accessFlags := 2, nameIndex := 5, descriptorIndex := 6, attributes := #[] }, { accessFlags := 265, nameIndex := 727, descriptorIndex := 728, attributes := #[] }] 49 2 #[] #[{ accessFlags := 25, nameIndex := 507, descriptorIndex := 526, attributes := #[] }, { accessFlags := 25, nameIndex := 399, descriptorIndex := 155, attributes := #[] }, { accessFlags := 25, nameIndex := 396, descriptorIndex := 155, attributes := #[] }, { accessFlags := 10, nameIndex := 525, descriptorIndex := 526, attributes := #[] }, { accessFlags := 26, nameIndex := 674, descriptorIndex := 12, attributes := #[] }, { accessFlags := 26, nameIndex := 677, descriptorIndex := 12, attributes := #[] }, { accessFlags := 10, nameIndex := 11, descriptorIndex := 12, attributes := #[] }, { accessFlags := 74, nameIndex := 175, descriptorIndex := 176, attributes := #[] }, { accessFlags := 10, nameIndex := 491, descriptorIndex := 222, attributes := #[] }, { accessFlags := 74, nameIndex := 29, descriptorIndex := 30, attributes := #[] }, { accessFlags := 74, nameIndex := 154, descriptorIndex := 155, attributes := #[] }, { accessFlags := 10, nameIndex := 217, descriptorIndex := 218, attributes := #[] }, { accessFlags := 10, nameIndex := 221, descriptorIndex := 222, attributes := #[] }, { accessFlags := 8, nameIndex := 562, descriptorIndex := 563, attributes := #[] }])
  fields := #[{ name := "in", type := (.object "java/io/InputStream"), accessFlags := 25, slot := 0, constantValue := 0 }, { name := "out", type := (.object "java/io/PrintStream"), accessFlags := 25, slot := 1, constantValue := 0 }, { name := "err", type := (.object "java/io/PrintStream"), accessFlags := 25, slot := 2, constantValue := 0 }, { name := "initialIn", type := (.object "java/io/InputStream"), accessFlags := 10, slot := 3, constantValue := 0 }, { name := "NEVER", type := .int, accessFlags := 26, slot := 4, constantValue := 0 }, { name := "MAYBE", type := .int, accessFlags := 26, slot := 5, constantValue := 0 }, { name := "allowSecurityManager", type := .int, accessFlags := 10, slot := 6, constantValue := 0 }, { name := "security", type := (.object "java/lang/SecurityManager"), accessFlags := 74, slot := 7, constantValue := 0 }, { name := "notSupportedJnuEncoding", type := (.object "java/lang/String"), accessFlags := 10, slot := 8, constantValue := 0 }, { name := "cons", type := (.object "java/io/Console"), accessFlags := 74, slot := 9, constantValue := 0 }, { name := "initialErrStream", type := (.object "java/io/PrintStream"), accessFlags := 74, slot := 10, constantValue := 0 }, { name := "props", type := (.object "java/util/Properties"), accessFlags := 10, slot := 11, constantValue := 0 }, { name := "lineSeparator", type := (.object "java/lang/String"), accessFlags := 10, slot := 12, constantValue := 0 }, { name := "bootLayer", type := (.object "java/lang/ModuleLayer"), accessFlags := 8, slot := 13, constantValue := 0 }]
  methods := #[k18m0, k18m1]
  instanceTypes := #[]
  staticTypes := #[(.object "java/io/InputStream"), (.object "java/io/PrintStream"), (.object "java/io/PrintStream"), (.object "java/io/InputStream"), .int, .int, .int, (.object "java/lang/SecurityManager"), (.object "java/lang/String"), (.object "java/io/Console"), (.object "java/io/PrintStream"), (.object "java/util/Properties"), (.object "java/lang/String"), (.object "java/lang/ModuleLayer")]
  resolved := Array.replicate 834 none
  statics := none }

def pool19 : Array CpInfo := pool [(4, .class_ 6), (1, u "java/lang/Object"), (0, u "<init>"), (0, u "()V"), (5, .class_ 16), (1, u "java/lang/StringLatin1"), (104, u "$assertionsDisabled"), (0, u "Z"), (98, .class_ 223), (1, u "java/lang/StringLatin1$LinesSpliterator"), (57, u "equals"), (0, u "([B[B)Z"), (107, .class_ 391), (0, u "java/lang/StringLatin1$CharsSpliterator")] 3

def k19m0 : Method := { name := "<init>", desc := "()V", sig := { parameters := [], returnType := none }, accessFlags := 0, code := none }
def k19c1 : Code := { maxStack := 3, maxLocals := 3, code := jdk_43_method_13_code, exceptionTable := #[], attributes := #[] }
def k19m1 : Method := { name := "equals", desc := "([B[B)Z", sig := { parameters := [(.array .byte), (.array .byte)], returnType := some .boolean }, accessFlags := 9, code := some k19c1 }
/-- java/lang/StringLatin1 -/
def k19 : Class := { plain "java/lang/StringLatin1" (some 0) with
  accessFlags := 48
  interfaces := #[]
  cf := some (fileOf pool19 14 #[.nestMembers #[390, 221]] #[{ accessFlags := 0, nameIndex := 7, descriptorIndex := 8, attributes := #[] }, { accessFlags := 9, nameIndex := 281, descriptorIndex := 282, attributes := #[] }] 48 4 #[] #[{ accessFlags := 4120, nameIndex := 121, descriptorIndex := 122, attributes := #[] }])
  fields := #[{ name := "$assertionsDisabled", type := .boolean, accessFlags := 4120, slot := 0, constantValue := 0 }]
  methods := #[k19m0, k19m1]
  instanceTypes := #[]
  staticTypes := #[.boolean]
  resolved := Array.replicate 395 none
  statics := none }

def pool20 : Array CpInfo := pool [(2, .class_ 4), (1, u "java/lang/Object"), (0, u "<init>"), (0, u "()V"), (17, .class_ 26), (1, u "jdk/internal/util/Preconditions"), (28, .class_ 56), (0, u "jdk/internal/util/Preconditions$4"), (57, .class_ 115), (0, u "jdk/internal/util/Preconditions$1"), (7, u "SIOOBE_FORMATTER"), (0, u "Ljava/util/function/BiFunction;"), (0, .class_ 126), (0, u "jdk/internal/util/Preconditions$2"), (3, u "AIOOBE_FORMATTER"), (0, .class_ 132), (0, u "jdk/internal/util/Preconditions$3"), (3, u "IOOBE_FORMATTER")] 57

def k20m0 : Method := { name := "<init>", desc := "()V", sig := { parameters := [], returnType := none }, accessFlags := 1, code := none }
/-- jdk/internal/util/Preconditions -/
def k20 : Class := { plain "jdk/internal/util/Preconditions" (some 0) with
  accessFlags := 33
  interfaces := #[]
  cf := some (fileOf pool20 24 #[.nestMembers #[55, 131, 125, 114]] #[{ accessFlags := 1, nameIndex := 5, descriptorIndex := 6, attributes := #[] }] 33 2 #[] #[{ accessFlags := 25, nameIndex := 123, descriptorIndex := 124, attributes := #[] }, { accessFlags := 25, nameIndex := 130, descriptorIndex := 124, attributes := #[] }, { accessFlags := 25, nameIndex := 136, descriptorIndex := 124, attributes := #[] }])
  fields := #[{ name := "SIOOBE_FORMATTER", type := (.object "java/util/function/BiFunction"), accessFlags := 25, slot := 0, constantValue := 0 }, { name := "AIOOBE_FORMATTER", type := (.object "java/util/function/BiFunction"), accessFlags := 25, slot := 1, constantValue := 0 }, { name := "IOOBE_FORMATTER", type := (.object "java/util/function/BiFunction"), accessFlags := 25, slot := 2, constantValue := 0 }]
  methods := #[k20m0]
  instanceTypes := #[]
  staticTypes := #[(.object "java/util/function/BiFunction"), (.object "java/util/function/BiFunction"), (.object "java/util/function/BiFunction")]
  resolved := Array.replicate 194 none
  statics := some 2 }

def pool21 : Array CpInfo := pool [(1, u "java/lang/Cloneable"), (0, .class_ 1), (0, u "java/lang/Object"), (0, .class_ 3)] 3

/-- java/lang/Cloneable -/
def k21 : Class := { plain "java/lang/Cloneable" (some 0) with
  accessFlags := 1537
  interfaces := #[]
  cf := some (fileOf pool21 2 #[] #[] 1537 4 #[] #[])
  fields := #[]
  methods := #[]
  instanceTypes := #[]
  staticTypes := #[]
  resolved := Array.replicate 8 none
  statics := none }

/-- the primitive byte -/
def k22 : Class := { plain "byte" none with kind := .primitive 'B', accessFlags := 0x411 }
/-- [B -/
def k23 : Class := { plain "[B" (some 0) with kind := .array 22 .byte, interfaces := #[21, 4], accessFlags := 1041 }

/-- the primitive int -/
def k24 : Class := { plain "int" none with kind := .primitive 'I', accessFlags := 0x411 }
/-- [I -/
def k25 : Class := { plain "[I" (some 0) with kind := .array 24 .int, interfaces := #[21, 4], accessFlags := 1041 }

def heap : Heap := #[{ cls := 9, slots := #[.long 0, .int 1, .null, .int 0, .null, .int 0, .int 0], vm := .statics 9 },
  { cls := 11, slots := #[.ref 3, .ref 4, .ref 5, .null], vm := .statics 11 },
  { cls := 20, slots := #[.null, .null, .null], vm := .statics 20 },
  { cls := 11, slots := #[.null, .int 0, .int 0, .ref 6], vm := .none },
  { cls := 11, slots := #[.null, .int 1, .int 0, .ref 7], vm := .none },
  { cls := 11, slots := #[.null, .int 2, .int 0, .ref 8], vm := .none },
  { cls := 9, slots := #[.ref 9, .int 0, .int 0, .int 0], vm := .none },
  { cls := 9, slots := #[.ref 10, .int 0, .int 0, .int 0], vm := .none },
  { cls := 9, slots := #[.ref 11, .int 0, .int 0, .int 0], vm := .none },
  { cls := 23, slots := #[.int 110, .int 111, .int 116, .int 95, .int 112, .int 101, .int 114, .int 109, .int 105, .int 116, .int 116, .int 101, .int 100], vm := .none },
  { cls := 23, slots := #[.int 115, .int 101, .int 112, .int 97, .int 114, .int 97, .int 116, .int 105, .int 111, .int 110, .int 95, .int 111, .int 102, .int 95, .int 100, .int 117, .int 116, .int 121], vm := .none },
  { cls := 23, slots := #[.int 98, .int 97, .int 100, .int 95, .int 114, .int 101, .int 113, .int 117, .int 101, .int 115, .int 116], vm := .none }]
def classes : Array Class := #[k0, k1, k2, k3, k4, k5, k6, k7, k8, k9, k10, k11, k12, k13, k14, k15, k16, k17, k18, k19, k20, k21, k22, k23, k24, k25]
def interned : List (Array UInt16 × Addr) := []
def slotsUsed : Nat := 80
def theMethod : MethodId := ⟨1, 1⟩
def args0 : Array Value := #[.int 1]
def aboutOver (below : List Frame) : State where
  vm := { classes := classes, interned := interned.toArray }
  heap := heap
  slotsUsed := slotsUsed
  threads := #[{ frames := .invoking theMethod args0 :: below }]
def below0 : List Frame := [.native { method := ⟨0, 0⟩, args := #[] }]
def about1 : State := aboutOver below0
def p0 : Program := .bare "" "" ""
def e0 : Env := launch0.env 0 0 0
theorem w_frames : about1.frames = Frame.invoking theMethod args0 :: below0 := rfl
set_option maxRecDepth 65536 in
theorem w_args : argsFit about1.vm theMethod args0 = true := by decide +kernel
set_option maxRecDepth 65536 in
theorem w_heap : heapFits about1 = true := by decide +kernel
set_option maxRecDepth 65536 in
theorem w_runnable : about1.curStatus? = some .runnable := by decide +kernel
set_option maxRecDepth 65536 in
theorem w_alone : about1.alone = true := by decide +kernel
set_option maxRecDepth 65536 in
theorem w_named : about1.methodNamed? x = some theMethod := by decide +kernel
set_option maxRecDepth 65536 in
theorem w_hears : about1.hears theMethod below0 = true := by decide +kernel
set_option maxRecDepth 65536 in
theorem w_ripe : about1.ripe theMethod args0 below0 = true := by decide +kernel
theorem w_running : about1.status = .running := rfl
set_option maxRecDepth 65536 in
theorem w_room : about1.hasRoom e0.platform room_1 = true :=
  launch0.hasRoom_least _ room_1 (by decide +kernel) (by decide +kernel) (by decide +kernel) (by decide +kernel) (by decide +kernel) (by decide +kernel)
theorem allAtoms_all (ts : List Jvm.Cond) (a : Array Jvm.Value) (st : Jvm.State) : (allAtoms ts).before a st = ts.all (fun c => c.before a st) := by
  induction ts with
  | nil => rfl
  | cons c t ih =>
    show (Jvm.Cond.and c (allAtoms t)).before a st = _
    rw [Jvm.Cond.before_and, ih, List.all_cons]
def words1 : List Jvm.Cond := Jvm.Cond.code x code maxLocals ret :: tables_1
/-- a 'code' word, met by the world's own term for the bytes: nothing is compared byte by byte -/
theorem code_word {y : MethodName} {bytes : ByteArray} {mx : Nat} {rt : Option FieldType} {a : Array Value} {s : State} {m : MethodId} {meth : Method} {c : Code} (h1 : s.methodNamed? y = some m) (h2 : s.vm.method? m = some meth) (h3 : meth.code = some c) (h4 : c.code = bytes)
    (h5 : (c.maxLocals == mx && c.exceptionTable.isEmpty && decide (c.maxStack ≤ mostOperands) && decide (meth.sig.returnType = rt) && !meth.locks && decide (parseMethodDescriptor y.desc = some meth.sig)) = true) : (Jvm.Cond.code y bytes mx rt).before a s = true := by
  simp only [Bool.and_eq_true, beq_iff_eq, Bool.not_eq_true', decide_eq_true_eq] at h5
  obtain ⟨⟨⟨⟨⟨g1, g2⟩, g3⟩, g4⟩, g5⟩, g6⟩ := h5
  simp [Cond.before, Cond.holds, Cond.value, h1, h2, h3, h4, g1, g2, g3, g4, g5, g6]
def isCode : Jvm.Cond → Bool
  | .code _ _ _ _ => true
  | _ => false
theorem all_split {L : List Jvm.Cond} {P : Jvm.Cond → Bool} (h1 : L.all (fun c => isCode c || P c) = true) (h2 : ∀ c ∈ L.filter isCode, P c = true) : L.all P = true := by
  refine List.all_eq_true.mpr fun c hc => ?_
  have h := List.all_eq_true.mp h1 c hc
  rcases Bool.eq_false_or_eq_true (isCode c) with hi | hi
  · exact h2 c (List.mem_filter.mpr ⟨hc, hi⟩)
  · simpa [hi] using h
set_option maxRecDepth 65536 in
theorem w_c0 : (Jvm.Cond.code x code maxLocals ret).before args0 about1 = true := code_word (m := ⟨1, 1⟩) (meth := k1m1) (c := k1c1) (by decide +kernel) rfl rfl rfl (by decide +kernel)
set_option maxRecDepth 65536 in
theorem w_c1 : (Jvm.Cond.code ({ cls := "com/example/firm_duties/firmduties/Decision", name := "<init>", desc := "(ZLcom/example/firm_duties/firmduties/Decision$Reason;)V" } : Jvm.MethodName) prog_4_method_1_code (3 : Nat) (Option.none : Option Jvm.ClassFile.FieldType)).before args0 about1 = true := code_word (m := ⟨3, 0⟩) (meth := k3m0) (c := k3c0) (by decide +kernel) rfl rfl rfl (by decide +kernel)
set_option maxRecDepth 65536 in
theorem w_c2 : (Jvm.Cond.code ({ cls := "java/lang/Record", name := "<init>", desc := "()V" } : Jvm.MethodName) jdk_30_method_1_code (1 : Nat) (Option.none : Option Jvm.ClassFile.FieldType)).before args0 about1 = true := code_word (m := ⟨2, 0⟩) (meth := k2m0) (c := k2c0) (by decide +kernel) rfl rfl rfl (by decide +kernel)
set_option maxRecDepth 65536 in
theorem w_c3 : (Jvm.Cond.code ({ cls := "java/lang/Object", name := "<init>", desc := "()V" } : Jvm.MethodName) object_method_1_code (1 : Nat) (Option.none : Option Jvm.ClassFile.FieldType)).before args0 about1 = true := code_word (m := ⟨0, 0⟩) (meth := k0m0) (c := k0c0) (by decide +kernel) rfl rfl rfl (by decide +kernel)
set_option maxRecDepth 65536 in
theorem w_c4 : (Jvm.Cond.code ({ cls := "com/example/firm_duties/firmduties/Decision", name := "toJson", desc := "()Ljava/lang/String;" } : Jvm.MethodName) prog_4_method_3_code (1 : Nat) (Option.some (Jvm.ClassFile.FieldType.object "java/lang/String"))).before args0 about1 = true := code_word (m := ⟨3, 1⟩) (meth := k3m1) (c := k3c1) (by decide +kernel) rfl rfl rfl (by decide +kernel)
set_option maxRecDepth 65536 in
theorem w_c5 : (Jvm.Cond.code ({ cls := "java/lang/String", name := "equals", desc := "(Ljava/lang/Object;)Z" } : Jvm.MethodName) jdk_42_method_66_code (3 : Nat) (Option.some Jvm.ClassFile.FieldType.boolean)).before args0 about1 = true := code_word (m := ⟨9, 3⟩) (meth := k9m3) (c := k9c3) (by decide +kernel) rfl rfl rfl (by decide +kernel)
set_option maxRecDepth 65536 in
theorem w_c6 : (Jvm.Cond.code ({ cls := "java/lang/StringBuilder", name := "<init>", desc := "()V" } : Jvm.MethodName) jdk_67_method_1_code (1 : Nat) (Option.none : Option Jvm.ClassFile.FieldType)).before args0 about1 = true := code_word (m := ⟨14, 0⟩) (meth := k14m0) (c := k14c0) (by decide +kernel) rfl rfl rfl (by decide +kernel)
set_option maxRecDepth 65536 in
theorem w_c7 : (Jvm.Cond.code ({ cls := "java/lang/AbstractStringBuilder", name := "<init>", desc := "(I)V" } : Jvm.MethodName) jdk_68_method_2_code (2 : Nat) (Option.none : Option Jvm.ClassFile.FieldType)).before args0 about1 = true := code_word (m := ⟨13, 1⟩) (meth := k13m1) (c := k13c1) (by decide +kernel) rfl rfl rfl (by decide +kernel)
set_option maxRecDepth 65536 in
theorem w_c8 : (Jvm.Cond.code ({ cls := "java/lang/StringBuilder", name := "append", desc := "(Ljava/lang/String;)Ljava/lang/StringBuilder;" } : Jvm.MethodName) jdk_67_method_7_code (2 : Nat) (Option.some (Jvm.ClassFile.FieldType.object "java/lang/StringBuilder"))).before args0 about1 = true := code_word (m := ⟨14, 1⟩) (meth := k14m1) (c := k14c1) (by decide +kernel) rfl rfl rfl (by decide +kernel)
set_option maxRecDepth 65536 in
theorem w_c9 : (Jvm.Cond.code ({ cls := "java/lang/AbstractStringBuilder", name := "append", desc := "(Ljava/lang/String;)Ljava/lang/AbstractStringBuilder;" } : Jvm.MethodName) jdk_68_method_22_code (3 : Nat) (Option.some (Jvm.ClassFile.FieldType.object "java/lang/AbstractStringBuilder"))).before args0 about1 = true := code_word (m := ⟨13, 5⟩) (meth := k13m5) (c := k13c5) (by decide +kernel) rfl rfl rfl (by decide +kernel)
set_option maxRecDepth 65536 in
theorem w_c10 : (Jvm.Cond.code ({ cls := "java/lang/String", name := "length", desc := "()I" } : Jvm.MethodName) jdk_42_method_54_code (1 : Nat) (Option.some Jvm.ClassFile.FieldType.int)).before args0 about1 = true := code_word (m := ⟨9, 2⟩) (meth := k9m2) (c := k9c2) (by decide +kernel) rfl rfl rfl (by decide +kernel)
set_option maxRecDepth 65536 in
theorem w_c11 : (Jvm.Cond.code ({ cls := "java/lang/String", name := "coder", desc := "()B" } : Jvm.MethodName) jdk_42_method_152_code (1 : Nat) (Option.some Jvm.ClassFile.FieldType.byte)).before args0 about1 = true := code_word (m := ⟨9, 6⟩) (meth := k9m6) (c := k9c6) (by decide +kernel) rfl rfl rfl (by decide +kernel)
set_option maxRecDepth 65536 in
theorem w_c12 : (Jvm.Cond.code ({ cls := "java/lang/AbstractStringBuilder", name := "ensureCapacityInternal", desc := "(I)V" } : Jvm.MethodName) jdk_68_method_9_code (3 : Nat) (Option.none : Option Jvm.ClassFile.FieldType)).before args0 about1 = true := code_word (m := ⟨13, 3⟩) (meth := k13m3) (c := k13c3) (by decide +kernel) rfl rfl rfl (by decide +kernel)
set_option maxRecDepth 65536 in
theorem w_c13 : (Jvm.Cond.code ({ cls := "java/lang/AbstractStringBuilder", name := "newCapacity", desc := "(I)I" } : Jvm.MethodName) jdk_68_method_10_code (6 : Nat) (Option.some Jvm.ClassFile.FieldType.int)).before args0 about1 = true := code_word (m := ⟨13, 4⟩) (meth := k13m4) (c := k13c4) (by decide +kernel) rfl rfl rfl (by decide +kernel)
set_option maxRecDepth 65536 in
theorem w_c14 : (Jvm.Cond.code ({ cls := "jdk/internal/util/ArraysSupport", name := "newLength", desc := "(III)I" } : Jvm.MethodName) jdk_48_method_27_code (4 : Nat) (Option.some Jvm.ClassFile.FieldType.int)).before args0 about1 = true := code_word (m := ⟨15, 1⟩) (meth := k15m1) (c := k15c1) (by decide +kernel) rfl rfl rfl (by decide +kernel)
set_option maxRecDepth 65536 in
theorem w_c15 : (Jvm.Cond.code ({ cls := "java/lang/Math", name := "max", desc := "(II)I" } : Jvm.MethodName) jdk_29_method_65_code (2 : Nat) (Option.some Jvm.ClassFile.FieldType.int)).before args0 about1 = true := code_word (m := ⟨16, 1⟩) (meth := k16m1) (c := k16c1) (by decide +kernel) rfl rfl rfl (by decide +kernel)
set_option maxRecDepth 65536 in
theorem w_c16 : (Jvm.Cond.code ({ cls := "java/util/Arrays", name := "copyOf", desc := "([BI)[B" } : Jvm.MethodName) jdk_65_method_121_code (3 : Nat) (Option.some (Jvm.ClassFile.FieldType.array Jvm.ClassFile.FieldType.byte))).before args0 about1 = true := code_word (m := ⟨17, 1⟩) (meth := k17m1) (c := k17c1) (by decide +kernel) rfl rfl rfl (by decide +kernel)
set_option maxRecDepth 65536 in
theorem w_c17 : (Jvm.Cond.code ({ cls := "java/lang/Math", name := "min", desc := "(II)I" } : Jvm.MethodName) jdk_29_method_69_code (2 : Nat) (Option.some Jvm.ClassFile.FieldType.int)).before args0 about1 = true := code_word (m := ⟨16, 2⟩) (meth := k16m2) (c := k16c2) (by decide +kernel) rfl rfl rfl (by decide +kernel)
set_option maxRecDepth 65536 in
theorem w_c18 : (Jvm.Cond.code ({ cls := "java/lang/AbstractStringBuilder", name := "putStringAt", desc := "(ILjava/lang/String;)V" } : Jvm.MethodName) jdk_68_method_73_code (3 : Nat) (Option.none : Option Jvm.ClassFile.FieldType)).before args0 about1 = true := code_word (m := ⟨13, 9⟩) (meth := k13m9) (c := k13c9) (by decide +kernel) rfl rfl rfl (by decide +kernel)
set_option maxRecDepth 65536 in
theorem w_c19 : (Jvm.Cond.code ({ cls := "java/lang/AbstractStringBuilder", name := "inflateIfNeededFor", desc := "(Ljava/lang/String;)V" } : Jvm.MethodName) jdk_68_method_71_code (2 : Nat) (Option.none : Option Jvm.ClassFile.FieldType)).before args0 about1 = true := code_word (m := ⟨13, 8⟩) (meth := k13m8) (c := k13c8) (by decide +kernel) rfl rfl rfl (by decide +kernel)
set_option maxRecDepth 65536 in
theorem w_c20 : (Jvm.Cond.code ({ cls := "java/lang/String", name := "getBytes", desc := "([BIB)V" } : Jvm.MethodName) jdk_42_method_147_code (4 : Nat) (Option.none : Option Jvm.ClassFile.FieldType)).before args0 about1 = true := code_word (m := ⟨9, 4⟩) (meth := k9m4) (c := k9c4) (by decide +kernel) rfl rfl rfl (by decide +kernel)
set_option maxRecDepth 65536 in
theorem w_c21 : (Jvm.Cond.code ({ cls := "com/example/firm_duties/firmduties/Decision$Reason", name := "code", desc := "()Ljava/lang/String;" } : Jvm.MethodName) prog_5_method_4_code (1 : Nat) (Option.some (Jvm.ClassFile.FieldType.object "java/lang/String"))).before args0 about1 = true := code_word (m := ⟨11, 0⟩) (meth := k11m0) (c := k11c0) (by decide +kernel) rfl rfl rfl (by decide +kernel)
set_option maxRecDepth 65536 in
theorem w_c22 : (Jvm.Cond.code ({ cls := "java/lang/StringBuilder", name := "toString", desc := "()Ljava/lang/String;" } : Jvm.MethodName) jdk_67_method_42_code (1 : Nat) (Option.some (Jvm.ClassFile.FieldType.object "java/lang/String"))).before args0 about1 = true := code_word (m := ⟨14, 2⟩) (meth := k14m2) (c := k14c2) (by decide +kernel) rfl rfl rfl (by decide +kernel)
set_option maxRecDepth 65536 in
theorem w_c23 : (Jvm.Cond.code ({ cls := "java/lang/String", name := "<init>", desc := "(Ljava/lang/StringBuilder;)V" } : Jvm.MethodName) jdk_42_method_53_code (2 : Nat) (Option.none : Option Jvm.ClassFile.FieldType)).before args0 about1 = true := code_word (m := ⟨9, 1⟩) (meth := k9m1) (c := k9c1) (by decide +kernel) rfl rfl rfl (by decide +kernel)
set_option maxRecDepth 65536 in
theorem w_c24 : (Jvm.Cond.code ({ cls := "java/lang/String", name := "<init>", desc := "(Ljava/lang/AbstractStringBuilder;Ljava/lang/Void;)V" } : Jvm.MethodName) jdk_42_method_150_code (5 : Nat) (Option.none : Option Jvm.ClassFile.FieldType)).before args0 about1 = true := code_word (m := ⟨9, 5⟩) (meth := k9m5) (c := k9c5) (by decide +kernel) rfl rfl rfl (by decide +kernel)
set_option maxRecDepth 65536 in
theorem w_c25 : (Jvm.Cond.code ({ cls := "java/lang/AbstractStringBuilder", name := "getValue", desc := "()[B" } : Jvm.MethodName) jdk_68_method_64_code (1 : Nat) (Option.some (Jvm.ClassFile.FieldType.array Jvm.ClassFile.FieldType.byte))).before args0 about1 = true := code_word (m := ⟨13, 6⟩) (meth := k13m6) (c := k13c6) (by decide +kernel) rfl rfl rfl (by decide +kernel)
set_option maxRecDepth 65536 in
theorem w_c26 : (Jvm.Cond.code ({ cls := "java/lang/StringBuilder", name := "length", desc := "()I" } : Jvm.MethodName) jdk_67_method_93_code (1 : Nat) (Option.some Jvm.ClassFile.FieldType.int)).before args0 about1 = true := code_word (m := ⟨14, 3⟩) (meth := k14m3) (c := k14c3) (by decide +kernel) rfl rfl rfl (by decide +kernel)
set_option maxRecDepth 65536 in
theorem w_c27 : (Jvm.Cond.code ({ cls := "java/lang/AbstractStringBuilder", name := "length", desc := "()I" } : Jvm.MethodName) jdk_68_method_6_code (1 : Nat) (Option.some Jvm.ClassFile.FieldType.int)).before args0 about1 = true := code_word (m := ⟨13, 2⟩) (meth := k13m2) (c := k13c2) (by decide +kernel) rfl rfl rfl (by decide +kernel)
set_option maxRecDepth 65536 in
theorem w_c28 : (Jvm.Cond.code ({ cls := "java/lang/AbstractStringBuilder", name := "isLatin1", desc := "()Z" } : Jvm.MethodName) jdk_68_method_68_code (1 : Nat) (Option.some Jvm.ClassFile.FieldType.boolean)).before args0 about1 = true := code_word (m := ⟨13, 7⟩) (meth := k13m7) (c := k13c7) (by decide +kernel) rfl rfl rfl (by decide +kernel)
set_option maxRecDepth 65536 in
theorem w_c29 : (Jvm.Cond.code ({ cls := "java/util/Arrays", name := "copyOfRange", desc := "([BII)[B" } : Jvm.MethodName) jdk_65_method_132_code (3 : Nat) (Option.some (Jvm.ClassFile.FieldType.array Jvm.ClassFile.FieldType.byte))).before args0 about1 = true := code_word (m := ⟨17, 3⟩) (meth := k17m3) (c := k17c3) (by decide +kernel) rfl rfl rfl (by decide +kernel)
set_option maxRecDepth 65536 in
theorem w_c30 : (Jvm.Cond.code ({ cls := "java/util/Arrays", name := "copyOfRangeByte", desc := "([BII)[B" } : Jvm.MethodName) jdk_65_method_133_code (5 : Nat) (Option.some (Jvm.ClassFile.FieldType.array Jvm.ClassFile.FieldType.byte))).before args0 about1 = true := code_word (m := ⟨17, 4⟩) (meth := k17m4) (c := k17c4) (by decide +kernel) rfl rfl rfl (by decide +kernel)
set_option maxRecDepth 65536 in
theorem w_c31 : (Jvm.Cond.code ({ cls := "java/util/Arrays", name := "checkLength", desc := "(II)V" } : Jvm.MethodName) jdk_65_method_131_code (2 : Nat) (Option.none : Option Jvm.ClassFile.FieldType)).before args0 about1 = true := code_word (m := ⟨17, 2⟩) (meth := k17m2) (c := k17c2) (by decide +kernel) rfl rfl rfl (by decide +kernel)
set_option maxRecDepth 65536 in
theorem w_c32 : (Jvm.Cond.code ({ cls := "java/lang/StringLatin1", name := "equals", desc := "([B[B)Z" } : Jvm.MethodName) jdk_43_method_13_code (3 : Nat) (Option.some Jvm.ClassFile.FieldType.boolean)).before args0 about1 = true := code_word (m := ⟨19, 1⟩) (meth := k19m1) (c := k19c1) (by decide +kernel) rfl rfl rfl (by decide +kernel)
def codes1 : List Jvm.Cond := [Jvm.Cond.code x code maxLocals ret, Jvm.Cond.code ({ cls := "com/example/firm_duties/firmduties/Decision", name := "<init>", desc := "(ZLcom/example/firm_duties/firmduties/Decision$Reason;)V" } : Jvm.MethodName) prog_4_method_1_code (3 : Nat) (Option.none : Option Jvm.ClassFile.FieldType), Jvm.Cond.code ({ cls := "java/lang/Record", name := "<init>", desc := "()V" } : Jvm.MethodName) jdk_30_method_1_code (1 : Nat) (Option.none : Option Jvm.ClassFile.FieldType), Jvm.Cond.code ({ cls := "java/lang/Object", name := "<init>", desc := "()V" } : Jvm.MethodName) object_method_1_code (1 : Nat) (Option.none : Option Jvm.ClassFile.FieldType), Jvm.Cond.code ({ cls := "com/example/firm_duties/firmduties/Decision", name := "toJson", desc := "()Ljava/lang/String;" } : Jvm.MethodName) prog_4_method_3_code (1 : Nat) (Option.some (Jvm.ClassFile.FieldType.object "java/lang/String")), Jvm.Cond.code ({ cls := "java/lang/String", name := "equals", desc := "(Ljava/lang/Object;)Z" } : Jvm.MethodName) jdk_42_method_66_code (3 : Nat) (Option.some Jvm.ClassFile.FieldType.boolean), Jvm.Cond.code ({ cls := "java/lang/StringBuilder", name := "<init>", desc := "()V" } : Jvm.MethodName) jdk_67_method_1_code (1 : Nat) (Option.none : Option Jvm.ClassFile.FieldType), Jvm.Cond.code ({ cls := "java/lang/AbstractStringBuilder", name := "<init>", desc := "(I)V" } : Jvm.MethodName) jdk_68_method_2_code (2 : Nat) (Option.none : Option Jvm.ClassFile.FieldType), Jvm.Cond.code ({ cls := "java/lang/StringBuilder", name := "append", desc := "(Ljava/lang/String;)Ljava/lang/StringBuilder;" } : Jvm.MethodName) jdk_67_method_7_code (2 : Nat) (Option.some (Jvm.ClassFile.FieldType.object "java/lang/StringBuilder")), Jvm.Cond.code ({ cls := "java/lang/AbstractStringBuilder", name := "append", desc := "(Ljava/lang/String;)Ljava/lang/AbstractStringBuilder;" } : Jvm.MethodName) jdk_68_method_22_code (3 : Nat) (Option.some (Jvm.ClassFile.FieldType.object "java/lang/AbstractStringBuilder")), Jvm.Cond.code ({ cls := "java/lang/String", name := "length", desc := "()I" } : Jvm.MethodName) jdk_42_method_54_code (1 : Nat) (Option.some Jvm.ClassFile.FieldType.int), Jvm.Cond.code ({ cls := "java/lang/String", name := "coder", desc := "()B" } : Jvm.MethodName) jdk_42_method_152_code (1 : Nat) (Option.some Jvm.ClassFile.FieldType.byte), Jvm.Cond.code ({ cls := "java/lang/AbstractStringBuilder", name := "ensureCapacityInternal", desc := "(I)V" } : Jvm.MethodName) jdk_68_method_9_code (3 : Nat) (Option.none : Option Jvm.ClassFile.FieldType), Jvm.Cond.code ({ cls := "java/lang/AbstractStringBuilder", name := "newCapacity", desc := "(I)I" } : Jvm.MethodName) jdk_68_method_10_code (6 : Nat) (Option.some Jvm.ClassFile.FieldType.int), Jvm.Cond.code ({ cls := "jdk/internal/util/ArraysSupport", name := "newLength", desc := "(III)I" } : Jvm.MethodName) jdk_48_method_27_code (4 : Nat) (Option.some Jvm.ClassFile.FieldType.int), Jvm.Cond.code ({ cls := "java/lang/Math", name := "max", desc := "(II)I" } : Jvm.MethodName) jdk_29_method_65_code (2 : Nat) (Option.some Jvm.ClassFile.FieldType.int), Jvm.Cond.code ({ cls := "java/util/Arrays", name := "copyOf", desc := "([BI)[B" } : Jvm.MethodName) jdk_65_method_121_code (3 : Nat) (Option.some (Jvm.ClassFile.FieldType.array Jvm.ClassFile.FieldType.byte)), Jvm.Cond.code ({ cls := "java/lang/Math", name := "min", desc := "(II)I" } : Jvm.MethodName) jdk_29_method_69_code (2 : Nat) (Option.some Jvm.ClassFile.FieldType.int), Jvm.Cond.code ({ cls := "java/lang/AbstractStringBuilder", name := "putStringAt", desc := "(ILjava/lang/String;)V" } : Jvm.MethodName) jdk_68_method_73_code (3 : Nat) (Option.none : Option Jvm.ClassFile.FieldType), Jvm.Cond.code ({ cls := "java/lang/AbstractStringBuilder", name := "inflateIfNeededFor", desc := "(Ljava/lang/String;)V" } : Jvm.MethodName) jdk_68_method_71_code (2 : Nat) (Option.none : Option Jvm.ClassFile.FieldType), Jvm.Cond.code ({ cls := "java/lang/String", name := "getBytes", desc := "([BIB)V" } : Jvm.MethodName) jdk_42_method_147_code (4 : Nat) (Option.none : Option Jvm.ClassFile.FieldType), Jvm.Cond.code ({ cls := "com/example/firm_duties/firmduties/Decision$Reason", name := "code", desc := "()Ljava/lang/String;" } : Jvm.MethodName) prog_5_method_4_code (1 : Nat) (Option.some (Jvm.ClassFile.FieldType.object "java/lang/String")), Jvm.Cond.code ({ cls := "java/lang/StringBuilder", name := "toString", desc := "()Ljava/lang/String;" } : Jvm.MethodName) jdk_67_method_42_code (1 : Nat) (Option.some (Jvm.ClassFile.FieldType.object "java/lang/String")), Jvm.Cond.code ({ cls := "java/lang/String", name := "<init>", desc := "(Ljava/lang/StringBuilder;)V" } : Jvm.MethodName) jdk_42_method_53_code (2 : Nat) (Option.none : Option Jvm.ClassFile.FieldType), Jvm.Cond.code ({ cls := "java/lang/String", name := "<init>", desc := "(Ljava/lang/AbstractStringBuilder;Ljava/lang/Void;)V" } : Jvm.MethodName) jdk_42_method_150_code (5 : Nat) (Option.none : Option Jvm.ClassFile.FieldType), Jvm.Cond.code ({ cls := "java/lang/AbstractStringBuilder", name := "getValue", desc := "()[B" } : Jvm.MethodName) jdk_68_method_64_code (1 : Nat) (Option.some (Jvm.ClassFile.FieldType.array Jvm.ClassFile.FieldType.byte)), Jvm.Cond.code ({ cls := "java/lang/StringBuilder", name := "length", desc := "()I" } : Jvm.MethodName) jdk_67_method_93_code (1 : Nat) (Option.some Jvm.ClassFile.FieldType.int), Jvm.Cond.code ({ cls := "java/lang/AbstractStringBuilder", name := "length", desc := "()I" } : Jvm.MethodName) jdk_68_method_6_code (1 : Nat) (Option.some Jvm.ClassFile.FieldType.int), Jvm.Cond.code ({ cls := "java/lang/AbstractStringBuilder", name := "isLatin1", desc := "()Z" } : Jvm.MethodName) jdk_68_method_68_code (1 : Nat) (Option.some Jvm.ClassFile.FieldType.boolean), Jvm.Cond.code ({ cls := "java/util/Arrays", name := "copyOfRange", desc := "([BII)[B" } : Jvm.MethodName) jdk_65_method_132_code (3 : Nat) (Option.some (Jvm.ClassFile.FieldType.array Jvm.ClassFile.FieldType.byte)), Jvm.Cond.code ({ cls := "java/util/Arrays", name := "copyOfRangeByte", desc := "([BII)[B" } : Jvm.MethodName) jdk_65_method_133_code (5 : Nat) (Option.some (Jvm.ClassFile.FieldType.array Jvm.ClassFile.FieldType.byte)), Jvm.Cond.code ({ cls := "java/util/Arrays", name := "checkLength", desc := "(II)V" } : Jvm.MethodName) jdk_65_method_131_code (2 : Nat) (Option.none : Option Jvm.ClassFile.FieldType), Jvm.Cond.code ({ cls := "java/lang/StringLatin1", name := "equals", desc := "([B[B)Z" } : Jvm.MethodName) jdk_43_method_13_code (3 : Nat) (Option.some Jvm.ClassFile.FieldType.boolean)]
set_option maxRecDepth 65536 in
theorem codes_eq : words1.filter isCode = codes1 := rfl
theorem w_codes : ∀ c ∈ words1.filter isCode, c.before args0 about1 = true := by
  rw [codes_eq]
  intro c hc
  simp only [codes1, List.mem_cons, List.not_mem_nil, or_false] at hc
  rcases hc with rfl | rfl | rfl | rfl | rfl | rfl | rfl | rfl | rfl | rfl | rfl | rfl | rfl | rfl | rfl | rfl | rfl | rfl | rfl | rfl | rfl | rfl | rfl | rfl | rfl | rfl | rfl | rfl | rfl | rfl | rfl | rfl | rfl
  · exact w_c0
  · exact w_c1
  · exact w_c2
  · exact w_c3
  · exact w_c4
  · exact w_c5
  · exact w_c6
  · exact w_c7
  · exact w_c8
  · exact w_c9
  · exact w_c10
  · exact w_c11
  · exact w_c12
  · exact w_c13
  · exact w_c14
  · exact w_c15
  · exact w_c16
  · exact w_c17
  · exact w_c18
  · exact w_c19
  · exact w_c20
  · exact w_c21
  · exact w_c22
  · exact w_c23
  · exact w_c24
  · exact w_c25
  · exact w_c26
  · exact w_c27
  · exact w_c28
  · exact w_c29
  · exact w_c30
  · exact w_c31
  · exact w_c32
set_option maxRecDepth 65536 in
theorem w_t1 : (words1.take 24).all (fun c => isCode c || c.before args0 about1) = true := by decide +kernel
set_option maxRecDepth 65536 in
theorem w_t2 : ((words1.drop 24).take 24).all (fun c => isCode c || c.before args0 about1) = true := by decide +kernel
set_option maxRecDepth 65536 in
theorem w_t3 : (((words1.drop 24).drop 24).take 24).all (fun c => isCode c || c.before args0 about1) = true := by decide +kernel
set_option maxRecDepth 65536 in
theorem w_t4 : ((((words1.drop 24).drop 24).drop 24).take 24).all (fun c => isCode c || c.before args0 about1) = true := by decide +kernel
set_option maxRecDepth 65536 in
theorem w_t5 : (((((words1.drop 24).drop 24).drop 24).drop 24).take 24).all (fun c => isCode c || c.before args0 about1) = true := by decide +kernel
set_option maxRecDepth 65536 in
theorem w_t6 : ((((((words1.drop 24).drop 24).drop 24).drop 24).drop 24).take 24).all (fun c => isCode c || c.before args0 about1) = true := by decide +kernel
set_option maxRecDepth 65536 in
theorem w_t7 : (((((((words1.drop 24).drop 24).drop 24).drop 24).drop 24).drop 24).take 24).all (fun c => isCode c || c.before args0 about1) = true := by decide +kernel
set_option maxRecDepth 65536 in
theorem w_t8 : ((((((((words1.drop 24).drop 24).drop 24).drop 24).drop 24).drop 24).drop 24).take 24).all (fun c => isCode c || c.before args0 about1) = true := by decide +kernel
set_option maxRecDepth 65536 in
theorem w_t9 : ((((((((words1.drop 24).drop 24).drop 24).drop 24).drop 24).drop 24).drop 24).drop 24).all (fun c => isCode c || c.before args0 about1) = true := by decide +kernel
theorem w_tables : (allAtoms (Jvm.Cond.code x code maxLocals ret :: tables_1)).before args0 about1 = true := by
  rw [allAtoms_all]
  show words1.all (fun c => c.before args0 about1) = true
  refine all_split ?_ w_codes
  rw [← List.take_append_drop 24 words1, List.all_append, w_t1, ← List.take_append_drop 24 (words1.drop 24), List.all_append, w_t2, ← List.take_append_drop 24 ((words1.drop 24).drop 24), List.all_append, w_t3, ← List.take_append_drop 24 (((words1.drop 24).drop 24).drop 24), List.all_append, w_t4, ← List.take_append_drop 24 ((((words1.drop 24).drop 24).drop 24).drop 24), List.all_append, w_t5, ← List.take_append_drop 24 (((((words1.drop 24).drop 24).drop 24).drop 24).drop 24), List.all_append, w_t6, ← List.take_append_drop 24 ((((((words1.drop 24).drop 24).drop 24).drop 24).drop 24).drop 24), List.all_append, w_t7, ← List.take_append_drop 24 (((((((words1.drop 24).drop 24).drop 24).drop 24).drop 24).drop 24).drop 24), List.all_append, w_t8, w_t9]
  rfl
set_option maxRecDepth 65536 in
theorem w_rest : rest_1_c.before args0 about1 = true := by decide +kernel
set_option maxRecDepth 65536 in
theorem w_case : (Jvm.Cond.and given_1 narrow_1).before args0 about1 = true := by decide +kernel
set_option maxRecDepth 65536 in
theorem w_consts : constsHeld consts_1 about1 := Jvm.Lit.constsHeldB_iff.mp (by decide +kernel)
theorem w_applies : (headSpec (Jvm.Cond.code x code maxLocals ret :: tables_1) room_1).applies x e0.platform about1 = true :=
  (Spec.applies_iff w_frames).mpr ⟨w_running, w_runnable, w_alone, w_named, w_hears, w_ripe, w_room, w_tables⟩
theorem atStart : AtStart classFile x code maxLocals ret World_1 tables_1 room_1 Calls_1 rest_1 Pre_1 launch0 p0 e0 about1 theMethod args0 below0 :=
  ⟨lists_1, trivial, launch0.admits_env _ _ _, launch0.least_env, fairChoices_fair.cas, fairChoices_fair.clock, w_frames, w_args, w_heap, w_applies, ⟨w_consts, trivial⟩, w_rest, w_case⟩
end start1
theorem witness_1 : WitnessClaimed_1 := ⟨start1.p0, start1.e0, start1.about1, start1.theMethod, start1.args0, start1.below0, start1.atStart⟩
end Jvm.Pilot.@@N@@
