import JvmDerived
import JvmDerived.Pilot.@@N@@Statement
import JvmDerived.Pilot.@@N@@Code
set_option linter.unusedVariables false
set_option linter.unusedSimpArgs false
namespace Jvm.RoadKit
open Sem ClassFile Op Lib Jvm.Stand Jvm.Free Jvm.LawKit
section New
variable {p : Program} {l : Launch} {e : Env} {R : Room} {s : State} {m : MethodId} {args : Array Value} {below : List Frame} {meth : Method} {c : Code} {T T' : State} {locs : List Loc} {cells slots : Nat} {Q : Option Value → Heap → List Loc → Prop} {cc ss : Nat} {g g' : JFrame} {pc : Nat} {Ls : Array Slot}
/-- from here the body comes to an end that meets Q -/
def own_Goes (p : Program) (e : Env) (below : List Frame) (s : State) (Q : Option Value → Heap → List Loc → Prop) (cc ss : Nat) (T : State) (g : JFrame) : Prop :=
  ∃ s₂ o, Steps p.tables e below (T.setTop g) s₂ ∧ s₂.status = .running ∧ Ended s₂ below o ∧ ∃ v L, o = .returned v ∧ Q v s₂.heap L ∧ FrameEnd s o s₂ L cc ss
theorem own_st (h : ∀ t, Steps p.tables e below (T'.setTop g') t → Steps p.tables e below (T.setTop g) t) (k : own_Goes p e below s Q cc ss T' g') : own_Goes p e below s Q cc ss T g := by
  obtain ⟨s₂, o, h1, r⟩ := k; exact ⟨s₂, o, h _ h1, r⟩
theorem own_end {v : Option Value} (X : Stand p l e R s m args below meth c T locs cells slots) (hlk : meth.locks = false) (hv : meth.sig.returnType = none → v = none) (hc : cells ≤ cc) (hs : slots ≤ ss) (hQ : Q v T.heap locs)
    (st : ∀ fs, (∀ (f : JFrame) (acts : List Action), f.method = m → f.locked = none → f.entered = [] → (doReturn e (T.setTop f) acts v).1 = T.setFrames fs) → Steps p.tables e below (T.setTop g) (T.setFrames fs)) : own_Goes p e below s Q cc ss T g := by
  obtain ⟨fs, hr, hrun, hended, hW, hsame⟩ := X.leave (v := v) hv hlk
  exact ⟨_, _, st fs hr, hrun, hended, _, _, rfl, hQ, ⟨_, rfl⟩, hW, hsame.mono hc hs⟩
theorem own_retN (X : Stand p l e R s m args below meth c T locs cells slots) (hx : p.tables.exec = Jvm.exec) (hlk : meth.locks = false) {t : FieldType} {z : Int32} {rest : List Value} (hret : meth.sig.returnType = some t) (ht : t = .boolean ∨ t = .byte ∨ t = .char ∨ t = .short) (hd : decode c.code pc = .ok (.ireturn, 1)) (hc : cells ≤ cc) (hs : slots ≤ ss) (hQ : Q (some (.int (nar t z))) T.heap locs) : own_Goes p e below s Q cc ss T (mkF m pc Ls (.int z :: rest)) :=
  own_end X hlk (fun h => by rw [hret] at h; cases h) hc hs hQ fun fs hr => retN X hx hret ht hd hr
theorem own_retI (X : Stand p l e R s m args below meth c T locs cells slots) (hx : p.tables.exec = Jvm.exec) (hlk : meth.locks = false) {z : Int32} {rest : List Value} (hret : meth.sig.returnType = some .int) (hd : decode c.code pc = .ok (.ireturn, 1)) (hc : cells ≤ cc) (hs : slots ≤ ss) (hQ : Q (some (.int z)) T.heap locs) : own_Goes p e below s Q cc ss T (mkF m pc Ls (.int z :: rest)) :=
  own_end X hlk (fun h => by rw [hret] at h; cases h) hc hs hQ fun fs hr => retOut X hx hret rfl (Or.inl ⟨rfl, Or.inl rfl, _, rfl⟩) hd hr
theorem own_retL (X : Stand p l e R s m args below meth c T locs cells slots) (hx : p.tables.exec = Jvm.exec) (hlk : meth.locks = false) {z : Int64} {rest : List Value} (hret : meth.sig.returnType = some .long) (hd : decode c.code pc = .ok (.lreturn, 1)) (hc : cells ≤ cc) (hs : slots ≤ ss) (hQ : Q (some (.long z)) T.heap locs) : own_Goes p e below s Q cc ss T (mkF m pc Ls (.long z :: rest)) :=
  own_end X hlk (fun h => by rw [hret] at h; cases h) hc hs hQ fun fs hr => retOut X hx hret rfl (Or.inr (Or.inl ⟨rfl, rfl, _, rfl⟩)) hd hr
theorem own_narR {t : FieldType} {w : Value} (hw : w.isRef = true) : narrow t w = w := by rcases ref_cases hw with rfl | ⟨a, rfl⟩ <;> cases t <;> rfl
theorem own_fitR {n : String} {w : Value} (hw : w.isRef = true) : fits (.object n) w = true := by rcases ref_cases hw with rfl | ⟨a, rfl⟩ <;> rfl
theorem own_retA (X : Stand p l e R s m args below meth c T locs cells slots) (hx : p.tables.exec = Jvm.exec) (hlk : meth.locks = false) {w : Value} {t : FieldType} {rest : List Value} (hw : w.isRef = true) (hret : meth.sig.returnType = some t) (ht : t.isReference = true) (hd : decode c.code pc = .ok (.areturn, 1)) (hc : cells ≤ cc) (hs : slots ≤ ss) (hQ : Q (some w) T.heap locs) : own_Goes p e below s Q cc ss T (mkF m pc Ls (w :: rest)) :=
  own_end X hlk (fun h => by rw [hret] at h; cases h) hc hs hQ fun fs hr => retOut X hx hret (own_narR hw) (Or.inr (Or.inr (Or.inr (Or.inr ⟨rfl, ht, hw⟩)))) hd hr
theorem own_ret0 (X : Stand p l e R s m args below meth c T locs cells slots) (hx : p.tables.exec = Jvm.exec) (hlk : meth.locks = false) (hret : meth.sig.returnType = none) (hd : decode c.code pc = .ok (.return_, 1)) (hc : cells ≤ cc) (hs : slots ≤ ss) (hQ : Q none T.heap locs) : own_Goes p e below s Q cc ss T (mkF m pc Ls []) :=
  own_end X hlk (fun _ => rfl) hc hs hQ fun fs hr => X.returnOut hx hret hd hr
def own_GoesW (p : Program) (e : Env) (below : List Frame) (s : State) (Q : Option Value → Heap → List Loc → Prop) (cc ss : Nat) (T : State) (g : JFrame) : Prop :=
  ∃ s₂ o, Steps p.tables e below (T.setTop g) s₂ ∧ s₂.status = .running ∧ Ended s₂ below o ∧ ∃ v L, o = .returned v ∧ Q v s₂.heap L ∧ ReturnedEndW s o s₂ L cc ss
theorem own_stW (h : ∀ t, Steps p.tables e below (T'.setTop g') t → Steps p.tables e below (T.setTop g) t) (k : own_GoesW p e below s Q cc ss T' g') : own_GoesW p e below s Q cc ss T g := by
  obtain ⟨s₂, o, h1, r⟩ := k; exact ⟨s₂, o, h _ h1, r⟩
theorem own_endW {v : Option Value} {vm₁ : Vm} {k0 : Nat} (X : Stand p l e R (s.setVm vm₁) m args below meth c T locs cells slots) (hlk : meth.locks = false) (hS : s.Since vm₁ k0) (hk : k0 ≤ T.heap.size) (hv : meth.sig.returnType = none → v = none) (hc : cells ≤ cc) (hs : slots ≤ ss) (hQ : Q v T.heap locs)
    (st : ∀ fs, (∀ (f : JFrame) (acts : List Action), f.method = m → f.locked = none → f.entered = [] → (doReturn e (T.setTop f) acts v).1 = T.setFrames fs) → Steps p.tables e below (T.setTop g) (T.setFrames fs)) : own_GoesW p e below s Q cc ss T g := by
  obtain ⟨fs, hr, hrun, hended, h1, h2, h3, h4⟩ := X.leaveW hS hk (v := v) hv hlk
  exact ⟨_, _, st fs hr, hrun, hended, _, _, rfl, hQ, h1, h2, h3, h4.mono hc hs⟩
theorem own_retNW {vm₁ : Vm} {k0 : Nat} (X : Stand p l e R (s.setVm vm₁) m args below meth c T locs cells slots) (hx : p.tables.exec = Jvm.exec) (hlk : meth.locks = false) (hS : s.Since vm₁ k0) (hk : k0 ≤ T.heap.size) {t : FieldType} {z : Int32} {rest : List Value} (hret : meth.sig.returnType = some t) (ht : t = .boolean ∨ t = .byte ∨ t = .char ∨ t = .short) (hd : decode c.code pc = .ok (.ireturn, 1)) (hc : cells ≤ cc) (hs : slots ≤ ss) (hQ : Q (some (.int (nar t z))) T.heap locs) : own_GoesW p e below s Q cc ss T (mkF m pc Ls (.int z :: rest)) :=
  own_endW X hlk hS hk (fun h => by rw [hret] at h; cases h) hc hs hQ fun fs hr => retN X hx hret ht hd hr
def own_GoesH (p : Program) (e : Env) (below : List Frame) (s Z : State) (EL : List (String × Nat)) (Q : Option Value → Heap → List Loc → Prop) (cc ss : Nat) (T : State) (g : JFrame) : Prop :=
  ∃ s₂ o, Steps p.tables e below (T.setTop g) s₂ ∧ s₂.status = .running ∧ Ended s₂ below o ∧ ∃ v L, o = .returned v ∧ Q v s₂.heap L ∧ CHr Z EL s.vm s.heap s₂.vm s₂.heap ∧ ReturnedEndW s o s₂ L cc ss
theorem own_stH {Z : State} {EL : List (String × Nat)} (h : ∀ t, Steps p.tables e below (T'.setTop g') t → Steps p.tables e below (T.setTop g) t) (k : own_GoesH p e below s Z EL Q cc ss T' g') : own_GoesH p e below s Z EL Q cc ss T g := by
  obtain ⟨s₂, o, h1, r⟩ := k; exact ⟨s₂, o, h _ h1, r⟩
theorem own_endH {Z : State} {EL : List (String × Nat)} {a0 : Array Value} {h h0 : Heap} {v : Option Value} {vm₁ : Vm} {k0 : Nat} (X : Stand p l e R (s.setVm vm₁) m args below meth c T locs cells slots) (hlk : meth.locks = false) (hS : s.Since vm₁ k0) (hk : k0 ≤ T.heap.size) (hZ : Z.Warmed39 vm₁) (hEL : EW Z a0 EL) (hh : s.heap = h0) (eT : T.heap = h) (hC : CHr Z EL s.vm h0 vm₁ h) (hv : meth.sig.returnType = none → v = none) (hc : cells ≤ cc) (hs : slots ≤ ss) (hQ : Q v T.heap locs)
    (st : ∀ fs, (∀ (f : JFrame) (acts : List Action), f.method = m → f.locked = none → f.entered = [] → (doReturn e (T.setTop f) acts v).1 = T.setFrames fs) → Steps p.tables e below (T.setTop g) (T.setFrames fs)) : own_GoesH p e below s Z EL Q cc ss T g := by
  obtain ⟨fs, hr, hrun, hended, h1, h2, h3, h4⟩ := X.leaveW hS hk (v := v) hv hlk
  subst eT hh
  have C := CHv.at X hZ hEL hC.1
  exact ⟨_, _, st fs hr, hrun, hended, _, _, rfl, hQ, hC.trans C, h1, h2, h3, h4.mono hc hs⟩
theorem own_sn {Z : State} {EL : List (String × Nat)} {vm : Vm} {h : Heap} : ∀ x ∈ ([] : List Addr), x < h.size ∧ Safe Z EL vm h x := fun _ q => nomatch q
theorem own_ss {Z : State} {EL : List (String × Nat)} {vm : Vm} {h : Heap} {y : Addr} {L : List Addr} (q : y < h.size) (n : Safe Z EL vm h y) (r : ∀ x ∈ L, x < h.size ∧ Safe Z EL vm h x) : ∀ x ∈ y :: L, x < h.size ∧ Safe Z EL vm h x := fun x z => (List.mem_cons.mp z).elim (fun u => u ▸ ⟨q, n⟩) (r x)
/-- a callee that may load the constants, that keeps what they say, and that is told which of its objects are none of them -/
theorem own_backH {Z : State} {EL : List (String × Nat)} {a0 : Array Value} {h : Heap} {vm0 : Vm} {y : MethodName} {bytes : ByteArray} {maxL : Nat} {ret : Option FieldType} {rm : Room} {len W : Nat} {as' : Array Value} {sl : List Addr} {Qc : Option Value → Heap → List Loc → Prop}
    (hM : MetFree l y (head1 [Cond.code y bytes maxL ret] rm) (fun a U => a = as' ∧ Z.Warmed39 U.vm ∧ U.heap = h ∧ CHv Z EL U.vm h ∧ ∀ x ∈ sl, Safe Z EL U.vm h x) (fun _ _ _ _ _ => True) (fun _ U o U' => ∃ v L, o = .returned v ∧ Qc v U'.heap L ∧ CHr Z EL U.vm U.heap U'.vm U'.heap ∧ ReturnedEndW U o U' L rm.cells rm.slots))
    (hZ : Z.Warmed39 vm0) (wc : (Cond.code y bytes maxL ret).before a0 Z = true) (wz : (Cond.initialized y.cls).before a0 Z = true) (hf : rm.frames + 1 ≤ R.frames) (hl : W + (maxL + 11) + rm.locals ≤ R.locals) (hEL : EW Z a0 EL) (H : CHv Z EL vm0 h) (hs : ∀ x ∈ sl, x < h.size ∧ Safe Z EL vm0 h x) :
    BackS l R p e below (s.setVm vm0) args y len W (fun A a => a = as' ∧ A.U.heap = h ∧ A.cells + rm.cells ≤ R.cells ∧ A.slots + rm.slots ≤ R.slots)
      (fun A _ v B => ∃ L, Qc v B.U.heap L ∧ B.locs = A.locs ++ L ∧ B.cells = A.cells + rm.cells ∧ B.slots = A.slots + rm.slots ∧ CHr Z EL vm0 h B.U.vm B.U.heap) := by
  refine BackS.of_freeW (bytes := bytes) (maxL := maxL) (ret := ret) (E := fun _ first o t L k n => k = rm.cells ∧ n = rm.slots ∧ (∃ v, o = .returned v ∧ Qc v t.heap L) ∧ CHr Z EL first.vm first.heap t.vm t.heap) hM hf hl ?_ ?_ (fun _ _ _ _ _ _ _ _ _ => trivial) ?_ ?_
  · intro m meth c A a Y hp
    have hU : Z.Warmed39 A.U.vm := wtrans (s := s.setVm vm0) hZ Y.warmed
    exact ⟨by show (Cond.and _ .tt).before a A.U = true; rw [Cond.before_and, mv hU wc]; rfl, mv hU wc, mv hU wz, hp.2.2.1, hp.2.2.2⟩
  · intro m meth c A a g mk Y hp
    have C := CHv.at Y hZ hEL H
    exact ⟨hp.1, wtrans (s := s.setVm vm0) hZ Y.warmed, hp.2.1, C.1, fun x hx => C.safe (hs x hx).1 (hs x hx).2⟩
  · rintro _ _ _ _ ⟨v, L, h1, h2, h3, h4⟩
    exact ⟨L, _, _, h4, rfl, rfl, ⟨v, h1, h2⟩, h3⟩
  · rintro m meth c A a g mk v t L k n Y hp _ _ ⟨e1, e2, ⟨v', e3, e4⟩, e5⟩
    cases e3; subst e1 e2
    refine ⟨L, e4, rfl, rfl, rfl, (CHv.at Y hZ hEL H).trans ?_⟩
    rw [← hp.2.1]; exact e5
theorem own_nsr {Z : State} {a0 : Array Value} {O K : String} {n : Nat} (w : (Cond.noSuperclass O).before a0 Z = true) (wk : (Cond.instantiable K n).before a0 Z = true) (hn : O ≠ K) : NS Z O K := by
  obtain ⟨c, k, h1, h2, h3, -, -⟩ := Cond.noSuperclass_spec w
  obtain ⟨t, kt, g1, -⟩ := Cond.instantiable_spec wk
  have ne := ids_ne h1 g1 hn
  refine ⟨c, t, h1, g1, fun fuel => ?_⟩
  cases fuel with
  | zero => rfl
  | succ f => simp [Vm.isSubclassAux, ne, h2, h3]
theorem own_nsn {Z : State} {a0 : Array Value} {C S K : String} {n : Nat} (w : (Cond.superclass C S).before a0 Z = true) (wk : (Cond.instantiable K n).before a0 Z = true) (q : NS Z C K) (hn : C ≠ K) : ∃ c t, Z.vm.findClass C = some c ∧ Z.vm.findClass K = some t ∧ Z.vm.assignable c t = false := by
  obtain ⟨c, t, h0, g0, n3⟩ := q
  obtain ⟨p, k, kp, h1, h2, h3, h4, h5, -, h7⟩ := Cond.superclass_spec h0 w
  obtain ⟨t', kt, g1, g2, g5, g6, -⟩ := Cond.instantiable_spec wk
  cases g0.symm.trans g1
  have g7 : kt.isInterface = false := by simp only [Bool.or_eq_false_iff] at g6; exact g6.1
  have ne := ids_ne h0 g0 hn
  refine ⟨c, t, h0, g0, ?_⟩
  show Z.vm.assignableAux (255 + 1) c t = false
  simp [Vm.assignableAux, ne, h2, g2, h5, g5, g7, Vm.isSubclass, n3]
theorem own_Sta_keep {Z : State} {h h' : Heap} {ws : List Addr} {C n d : String} {w : Value} (F : Sta Z h C n d w) (K : Keep h h' ws) (q : ∀ x ∈ ws, ∀ cell : Cell, h[x]? = some cell → cell.vm.isStatics = false) : Sta Z h' C n d w := by
  obtain ⟨cf, i, k, f, st, cell, h1, h2, h3, h4, h5, h6, h7⟩ := F
  exact ⟨cf, i, k, f, st, cell, h1, h2, h3, h4, K.2.1 st cell h5 (fun z => by rw [q st z cell h5] at h6; cases h6), h6, h7⟩
end New
end Jvm.RoadKit
/- laws to paste: Road.eqW (cut by pick.py; bodies as the Statement names them) -/
namespace Jvm.Pilot.@@N@@
namespace StrChars
open Jvm Sem ClassFile Op Lib Jvm.Stand Jvm.Free.XT Jvm.Free.ALB Jvm.Free.JM Jvm.Free
open Jvm.Lib.Cold (StaticIs)
/-- the byte that i2b leaves of a char -/
def lo8 (x : Int32) : Int32 := x.toInt8.toInt32
theorem fits_lo8 (y : Int32) : fits .byte (.int (lo8 y)) = true := by
  have h1 := y.toInt8.le_toInt
  have h2 := y.toInt8.toInt_lt
  simp only [lo8, fits, Bool.and_eq_true, decide_eq_true_eq, Int32.le_iff_toInt_le, Int8.toInt_toInt32, show (-128 : Int32).toInt = -128 from by decide, show (127 : Int32).toInt = 127 from by decide]
  omega
def U16 : String := "java/lang/StringUTF16"
namespace Cmp5
def yN : MethodName := ⟨"java/lang/StringUTF16", "compress", "([CI[BII)I"⟩
abbrev yB : ByteArray := jdk_52_method_21_code
end Cmp5
namespace Cmp3
def yN : MethodName := ⟨"java/lang/StringUTF16", "compress", "([CII)[B"⟩
abbrev yB : ByteArray := jdk_52_method_16_code
end Cmp3
namespace CodL
def yN : MethodName := ⟨"java/lang/StringUTF16", "coderFromArrayLen", "([BI)B"⟩
abbrev yB : ByteArray := jdk_52_method_15_code
end CodL
namespace New4
def yN : MethodName := ⟨"java/lang/String", "<init>", "([CIILjava/lang/Void;)V"⟩
abbrev yB : ByteArray := jdk_42_method_149_code
end New4
namespace New1
def yN : MethodName := ⟨"java/lang/String", "<init>", "([C)V"⟩
abbrev yB : ByteArray := jdk_42_method_3_code
end New1
/-- the byte, read back as charAt reads it, is the char -/
theorem lo8_mask {x : Int32} (h0 : ¬ x < 0) (h1 : ¬ 255 < x) : lo8 x &&& 255 = x := by
  have t : ∀ k : Fin 256, lo8 (Int32.ofNat k.val) &&& 255 = Int32.ofNat k.val := by decide +kernel
  rw [Int32.lt_iff_toInt_lt] at h0 h1
  have e0 : (0 : Int32).toInt = 0 := rfl
  have e1 : (255 : Int32).toInt = 255 := rfl
  obtain ⟨k, hk⟩ : ∃ k : Nat, x.toInt = k := ⟨x.toInt.toNat, by omega⟩
  have hx : x = Int32.ofNat k := Int32.toInt_inj.mp (by rw [hk, Int32.toInt_ofNat_small (by omega)])
  rw [hx]
  exact t ⟨k, by omega⟩
end StrChars
namespace StrChars.Road
open Jvm Sem ClassFile Op Lib Jvm.Stand Jvm.Free Jvm.Free.XT
open Jvm.Lib.Cold (StaticIs)
abbrev ST : String := "java/lang/String"
/-- every table word that New1's law asks, flat -/
abbrev words : List Jvm.Cond := [.code New1.yN New1.yB 2 none, .initialized ST, .methodLink ST 27 New4.yN, .instanceMethod New4.yN,
  .code New4.yN New4.yB 6 none, .fieldLink ST 38 ST "COMPACT_STRINGS" "Z", .laysFinal ST ST "value" "[B", .fieldLink ST 9 ST "value" "[B", .laysFinal ST ST "coder" "B", .fieldLink ST 15 ST "coder" "B",
  .methodLink ST 1 Lib.objectInit, .instanceMethod Lib.objectInit, .code Lib.objectInit ⟨#[0xb1]⟩ 1 none, .methodLink ST 177 Cmp3.yN, .static Cmp3.yN, .methodLink ST 47 CodL.yN, .static CodL.yN,
  .code Cmp3.yN Cmp3.yB 6 (some (.array .byte)), .initialized U16, .arrayClass .byte, .methodLink U16 115 Cmp5.yN, .static Cmp5.yN, .code Cmp5.yN Cmp5.yB 7 (some .int), .code CodL.yN CodL.yB 2 (some .byte)]
end StrChars.Road
namespace StrChars
open Jvm Sem ClassFile Op Lib Jvm.Stand Jvm.Free.XT Jvm.Free.ALB Jvm.Free.JM Jvm.Free
open Jvm.Lib.Cold (StaticIs)
def hi8 (x : Int32) : Int32 := lo8 (x >>> ((8 : Int32) &&& 31))
/-- what StringUTF16.getChar makes of two bytes -/
def pairCh (u v : Int32) : Int32 := (((u &&& 255) <<< ((0 : Int32) &&& 31)) ||| ((v &&& 255) <<< ((8 : Int32) &&& 31))).toUInt32.toUInt16.toUInt32.toInt32
theorem lo8_and (x : Int32) : (lo8 x &&& 255).toBitVec.toNat = x.toBitVec.toNat % 256 := by
  have h : (lo8 x).toBitVec = (x.toBitVec.signExtend 8).signExtend 32 := by rw [lo8, Int8.toBitVec_toInt32, Int32.toBitVec_toInt8]
  rw [Int32.toBitVec_and, BitVec.toNat_and, h]
  have e : ((x.toBitVec.signExtend 8).signExtend 32).toNat % 256 = x.toBitVec.toNat % 256 := by
    rw [BitVec.toNat_signExtend]
    have hlt := x.toBitVec.isLt
    simp only [BitVec.toNat_setWidth, BitVec.toNat_signExtend]
    split <;> split <;> omega
  rw [← e]
  exact Nat.and_two_pow_sub_one_eq_mod _ 8
theorem pair_says {c : Int32} (h0 : ¬ c < 0) (h1 : ¬ 65535 < c) : pairCh (lo8 c) (hi8 c) = c := by
  rw [Int32.lt_iff_toInt_lt] at h0 h1
  have e0 : (0 : Int32).toInt = 0 := rfl
  have e1 : (65535 : Int32).toInt = 65535 := rfl
  have hc : c.toInt = c.toBitVec.toNat := by
    have := c.toBitVec.isLt
    have e : c.toInt = c.toBitVec.toInt := rfl
    rw [e] at h0 h1
    rw [e]
    rw [BitVec.toInt_eq_toNat_cond] at h0 h1 ⊢
    split at h0 <;> split <;> omega
  have hn : c.toBitVec.toNat < 65536 := by omega
  have a1 := lo8_and c
  have a2 : (hi8 c &&& 255).toBitVec.toNat = c.toBitVec.toNat / 256 := by
    rw [hi8, lo8_and]
    have e : ((8 : Int32) &&& 31) = 8 := by decide
    rw [e, Int32.toBitVec_shiftRight]
    have e2 : ((8 : Int32).toBitVec.smod 32) = 8#32 := by decide
    rw [e2, BitVec.sshiftRight_eq', BitVec.toNat_sshiftRight_of_msb_false (by rw [BitVec.msb_eq_false_iff_two_mul_lt]; omega)]
    show c.toBitVec.toNat >>> 8 % 256 = _
    rw [Nat.shiftRight_eq_div_pow]
    omega
  unfold pairCh
  apply Int32.toBitVec_inj.mp
  apply BitVec.eq_of_toNat_eq
  have f0 : ((0 : Int32) &&& 31) = 0 := by decide
  have f8 : ((8 : Int32) &&& 31) = 8 := by decide
  rw [f0, f8]
  have g : (((lo8 c &&& 255) <<< (0 : Int32)) ||| ((hi8 c &&& 255) <<< (8 : Int32))).toBitVec.toNat = c.toBitVec.toNat := by
    rw [Int32.toBitVec_or, Int32.toBitVec_shiftLeft, Int32.toBitVec_shiftLeft]
    have s0 : ((0 : Int32).toBitVec.smod 32) = 0#32 := by decide
    have s8 : ((8 : Int32).toBitVec.smod 32) = 8#32 := by decide
    rw [s0, s8, BitVec.toNat_or]
    simp only [BitVec.shiftLeft_eq', BitVec.toNat_shiftLeft, a1, a2]
    show (c.toBitVec.toNat % 256) <<< 0 % 2 ^ 32 ||| (c.toBitVec.toNat / 256) <<< 8 % 2 ^ 32 = _
    rw [Nat.shiftLeft_zero, Nat.mod_eq_of_lt (show c.toBitVec.toNat % 256 < 2 ^ 32 by omega), Nat.mod_eq_of_lt (show (c.toBitVec.toNat / 256) <<< 8 < 2 ^ 32 by rw [Nat.shiftLeft_eq]; omega), Nat.or_comm, ← Nat.shiftLeft_add_eq_or_of_lt (by omega), Nat.shiftLeft_eq]
    omega
  show BitVec.toNat (((((lo8 c &&& 255) <<< (0 : Int32)) ||| ((hi8 c &&& 255) <<< (8 : Int32))).toBitVec.setWidth 16).setWidth 32) = _
  rw [BitVec.toNat_setWidth, BitVec.toNat_setWidth, g]
  omega
end StrChars
namespace StrChars
open Jvm Sem ClassFile Op Lib Jvm.Stand Jvm.Free.XT Jvm.Free.ALB Jvm.Free.JM Jvm.Free
open Jvm.Lib.Cold (StaticIs)
/-- the array's cell V codes the n chars f 0 .. f (n - 1) by the coder cd, as the JDK does: coder 1 just where some char is above 255 -/
def Cod (cd : Int32) (n : Nat) (f : Nat → Int32) (V : Cell) : Prop := (cd = 0 ∧ V.slots.size = n ∧ ∀ j, j < n → V.slots[j]? = some (.int (lo8 (f j))) ∧ ¬ 255 < f j) ∨ (cd = 1 ∧ V.slots.size = 2 * n ∧ (∀ j, j < n → V.slots[2 * j]? = some (.int (lo8 (f j))) ∧ V.slots[2 * j + 1]? = some (.int (hi8 (f j)))) ∧ ∃ j, j < n ∧ 255 < f j)
/-- **x is a String of the n chars f 0 .. f (n - 1)**, Latin-1 or UTF-16; its array at t has the cell V -/
def Txt (x t : Addr) (V : Cell) (cd : Int32) (n : Nat) (f : Nat → Int32) (U : State) : Prop := Exact "java/lang/String" x U ∧ Has x "java/lang/String" "value" "[B" (.ref t) U ∧ Has x "java/lang/String" "coder" "B" (.int cd) U ∧ XT.Arr .byte t V U ∧ Cod cd n f V ∧ ∀ j, j < n → ¬ f j < 0 ∧ ¬ 65535 < f j
theorem Txt.mv {x t : Addr} {V : Cell} {cd : Int32} {n : Nat} {f : Nat → Int32} {U U' : State} (h : Txt x t V cd n f U) (hal : U.vm.Alike U'.vm) (hh : U'.heap = U.heap) : Txt x t V cd n f U' := ⟨h.1.mv hal hh, h.2.1.mv hal hh, h.2.2.1.mv hal hh, h.2.2.2.1.mv hal hh, h.2.2.2.2⟩
end StrChars
namespace StrChars.Road
open Jvm Sem ClassFile Op Lib Jvm.Stand Jvm.Free Jvm.Free.XT
open Jvm.Lib.Cold (StaticIs)
theorem consq {a : Array Value} {s : State} {c : Jvm.Cond} {L : List Jvm.Cond} (h0 : c.before a s = true) (h : ∀ w ∈ L, w.before a s = true) : ∀ w ∈ c :: L, w.before a s = true := fun w hw => (List.mem_cons.mp hw).elim (fun e => e ▸ h0) (h w)
/-- the bytes of the chars cs, low before high -/
def wideBytes : List Int32 → List Value
  | [] => []
  | c :: cs => .int (lo8 c) :: .int (hi8 c) :: wideBytes cs
theorem wide_lo (d : Value) : ∀ (cs : List Int32) (j : Nat), j < cs.length → (wideBytes cs).getD (2 * j) d = .int (lo8 (cs.getD j 0))
  | [], j, h => absurd h (Nat.not_lt_zero j)
  | c :: cs, 0, _ => rfl
  | c :: cs, j + 1, h => by
    have q := wide_lo d cs j (by simpa using h)
    rw [show 2 * (j + 1) = 2 * j + 1 + 1 from by omega]
    simpa [wideBytes] using q
theorem wide_hi (d : Value) : ∀ (cs : List Int32) (j : Nat), j < cs.length → (wideBytes cs).getD (2 * j + 1) d = .int (hi8 (cs.getD j 0))
  | [], j, h => absurd h (Nat.not_lt_zero j)
  | c :: cs, 0, _ => rfl
  | c :: cs, j + 1, h => by
    have q := wide_hi d cs j (by simpa using h)
    rw [show 2 * (j + 1) + 1 = 2 * j + 1 + 1 + 1 from by omega]
    simpa [wideBytes] using q
theorem low_at (d : Value) (cs : List Int32) (j : Nat) (h : j < cs.length) : (cs.map fun c => Value.int (lo8 c)).getD j d = .int (lo8 (cs.getD j 0)) := by
  simp [List.getD_eq_getElem?_getD, h]
/-- an array of N2 bytes vs codes the chars cs by the coder cd -/
def CodA (cs : List Int32) (cd N2 : Int32) (vs : List Value) : Prop := (cd = 0 ∧ N2 = Int32.ofNat cs.length ∧ vs = (cs.map fun c => Value.int (lo8 c)) ∧ ∀ c ∈ cs, ¬ 255 < c) ∨ (cd = 1 ∧ N2 = Int32.ofNat (2 * cs.length) ∧ vs = wideBytes cs ∧ ∃ c ∈ cs, 255 < c)
theorem CodA.cod {cs : List Int32} {cd N2 : Int32} {vs : List Value} {V : Cell} (h : CodA cs cd N2 vs) (hn : 2 * cs.length < 2 ^ 31) (hs : V.slots.size = N2.toNatClampNeg) (hv : RoadKit.Has V vs (.int 0)) : Cod cd cs.length (fun j => cs.getD j 0) V := by
  rcases h with ⟨rfl, rfl, rfl, h⟩ | ⟨rfl, rfl, rfl, c, hc, hw⟩
  · rw [n32 (by omega)] at hs
    exact Or.inl ⟨rfl, hs, fun j hj => ⟨by rw [hv j (by omega), low_at _ _ _ hj], by
      have e : cs.getD j 0 = cs[j] := by simp [List.getD_eq_getElem?_getD, hj]
      show ¬ 255 < cs.getD j 0
      rw [e]; exact h _ (List.getElem_mem _)⟩⟩
  · rw [n32 (by omega)] at hs
    obtain ⟨j, hj, rfl⟩ := List.getElem_of_mem hc
    exact Or.inr ⟨rfl, hs, fun j hj => ⟨by rw [hv _ (by omega), wide_lo _ _ _ hj], by rw [hv _ (by omega), wide_hi _ _ _ hj]⟩, j, hj, by
      have e : cs.getD j 0 = cs[j] := by simp [List.getD_eq_getElem?_getD, hj]
      show 255 < cs.getD j 0
      rw [e]; exact hw⟩
/-- an object of exactly java/lang/String, its two fields found: as the laws ask it -/
theorem strObj {Z U : State} {a0 : Array Value} {kI : Nat} (wi : (Jvm.Cond.instantiable ST kI).before a0 Z = true) (al : Z.vm.Alike U.vm) {x : Addr} {v0 c0 : Value} (E : RoadKit.Exa Z U.heap x ST) (V : RoadKit.Fld Z U.heap x ST "value" "[B" v0) (C : RoadKit.Fld Z U.heap x ST "coder" "B" c0) :
    ∃ (D : Cell) (fV fC : Field), Blank ST x D U ∧ Found ST "value" "[B" fV U ∧ Found ST "coder" "B" fC U ∧ D.slots[fV.slot]? = some v0 ∧ D.slots[fC.slot]? = some c0 ∧ RoadKit.slotOf Z ST "value" "[B" = fV.slot ∧ RoadKit.slotOf Z ST "coder" "B" = fC.slot := by
  obtain ⟨D, cfV, kV, iV, fV, hD, gV, stV, knV, obV, asV, slV⟩ := V
  obtain ⟨D', cfC, kC, iC, fC, hD', gC, stC, -, -, asC, slC⟩ := C
  cases hD.symm.trans hD'
  obtain ⟨D2, kD, e1, e2, e3, e4, e5⟩ := E
  cases hD.symm.trans e1
  obtain ⟨c2, k2, i1, i2, i3, -⟩ := Cond.instantiable_spec wi
  cases e2.symm.trans i1
  cases e3.symm.trans i2
  obtain ⟨kU, u1, u2⟩ := al.2.2 _ _ e3
  exact ⟨D, fV, fC, ⟨hD, ⟨knV, fun q hq => by rw [hq] at obV; cases obV⟩, by rw [al.findClass]; exact e2, kU, u1, by rw [u2]; exact i3, by rw [u2]; exact e5 i3⟩, ⟨SBG.found_only al ⟨cfV, kV, iV, gV⟩, stV⟩, ⟨SBG.found_only al ⟨cfC, kC, iC, gC⟩, stC⟩, slV, slC, by simp [RoadKit.slotOf, gV], by simp [RoadKit.slotOf, gC]⟩
theorem sta_is {Z U : State} (al : Z.vm.Alike U.vm) {C n d : String} {v : Value} (S : RoadKit.Sta Z U.heap C n d v) : StaticIs U C n d v := by
  obtain ⟨cfS, iS, kS, fS, st, cS, t1, t2, t3, t4, t5, t6, t7⟩ := S
  exact StaticIs.there (s := { Z with heap := U.heap }) ⟨cfS, iS, kS, fS, st, cS, t1, t2, t3, t4, t5, (fun q => by rw [q] at t6; cases t6), t7⟩ al rfl
end StrChars.Road
namespace StrChars
open Jvm Sem ClassFile Op Lib Jvm.Stand Jvm.Free.XT Jvm.Free.ALB Jvm.Free.JM Jvm.Free
open Jvm.Lib.Cold (StaticIs)
/-- what place i of a byte[]'s cell holds -/
def yv (A : Cell) (i : Nat) : Int32 := match A.slots[i]? with | some (.int x) => x | _ => 0
theorem yv_get {a : Addr} {A : Cell} {U : State} (h : XT.Arr .byte a A U) (ht : Typed .byte A) {i : Nat} (hi : i < A.slots.size) : A.slots[i]? = some (.int (yv A i)) := by
  have e := Array.getElem?_eq_getElem hi
  have f := ht i _ e
  unfold yv; rw [e]
  generalize A.slots[i] = v at f
  cases v <;> simp [fits] at f ⊢
/-- the two arrays are equal, place for place -/
def EqC (A B : Cell) : Prop := A.slots.size = B.slots.size ∧ ∀ i, i < A.slots.size → yv A i = yv B i
/-- a boolean that says whether p -/
def Says01 (q : Prop) (r : Option Value) (s u : State) : Prop := ∃ v : Int32, r = some (.int v) ∧ u.heap = s.heap ∧ ((v = 1 ∧ q) ∨ (v = 0 ∧ ¬ q))
theorem Says01.mv {q : Prop} : ∀ r (U U' V V' : State), U'.heap = U.heap → V.vm.Alike V'.vm → V'.heap = V.heap → Says01 q r U V → Says01 q r U' V' :=
  fun r U U' V V' h1 _ h2 ⟨v, a, b, c⟩ => ⟨v, a, by rw [h1, h2]; exact b, c⟩
namespace LEq
def yN : MethodName := ⟨"java/lang/StringLatin1", "equals", "([B[B)Z"⟩
abbrev yB : ByteArray := jdk_43_method_13_code
theorem d0 : decode yB 0 = .ok (.aload_n 0, 1) := by decide +kernel
theorem d1 : decode yB 1 = .ok (.arraylength, 1) := by decide +kernel
theorem d2 : decode yB 2 = .ok (.aload_n 1, 1) := by decide +kernel
theorem d3 : decode yB 3 = .ok (.arraylength, 1) := by decide +kernel
theorem d4 : decode yB 4 = .ok (.if_icmp (.ne) 30, 3) := by decide +kernel
theorem d7 : decode yB 7 = .ok (.iconst 0, 1) := by decide +kernel
theorem d8 : decode yB 8 = .ok (.istore_n 2, 1) := by decide +kernel
theorem d9 : decode yB 9 = .ok (.iload_n 2, 1) := by decide +kernel
theorem d10 : decode yB 10 = .ok (.aload_n 0, 1) := by decide +kernel
theorem d11 : decode yB 11 = .ok (.arraylength, 1) := by decide +kernel
theorem d12 : decode yB 12 = .ok (.if_icmp (.ge) 20, 3) := by decide +kernel
theorem d15 : decode yB 15 = .ok (.aload_n 0, 1) := by decide +kernel
theorem d16 : decode yB 16 = .ok (.iload_n 2, 1) := by decide +kernel
theorem d17 : decode yB 17 = .ok (.baload, 1) := by decide +kernel
theorem d18 : decode yB 18 = .ok (.aload_n 1, 1) := by decide +kernel
theorem d19 : decode yB 19 = .ok (.iload_n 2, 1) := by decide +kernel
theorem d20 : decode yB 20 = .ok (.baload, 1) := by decide +kernel
theorem d21 : decode yB 21 = .ok (.if_icmp (.eq) 5, 3) := by decide +kernel
theorem d24 : decode yB 24 = .ok (.iconst 0, 1) := by decide +kernel
theorem d25 : decode yB 25 = .ok (.ireturn, 1) := by decide +kernel
theorem d26 : decode yB 26 = .ok (.iinc 2 1, 3) := by decide +kernel
theorem d29 : decode yB 29 = .ok (.goto (-20), 3) := by decide +kernel
theorem d32 : decode yB 32 = .ok (.iconst 1, 1) := by decide +kernel
theorem d33 : decode yB 33 = .ok (.ireturn, 1) := by decide +kernel
theorem d34 : decode yB 34 = .ok (.iconst 0, 1) := by decide +kernel
theorem d35 : decode yB 35 = .ok (.ireturn, 1) := by decide +kernel
def site : List Cond := []
def tab : Cond := tabOf yN yB 3 (some .boolean) site
def P (a : Addr) (A : Cell) (b : Addr) (B : Cell) (args : Array Value) (s : State) : Prop := args = #[.ref a, .ref b] ∧ XT.Arr .byte a A s ∧ Typed .byte A ∧ XT.Arr .byte b B s ∧ Typed .byte B
/-- whether two byte[] are equal, place for place -/
theorem law (l : Launch) (a : Addr) (A : Cell) (b : Addr) (B : Cell) : Law l yN 2 2 0 0 yB 3 (some .boolean) site (P a A b B) (Says01 (EqC A B)) [] 0 0 := by
  refine Law.of_walk (plainFor_of_name (by decide +kernel)) (by decide +kernel) (by decide +kernel) (by decide) (fun _ _ h => by rw [h.1]; rfl) (fun _ U U' hal hh h => ⟨h.1, h.2.1.mv hal hh, h.2.2.1, h.2.2.2.1.mv hal hh, h.2.2.2.2⟩) (fun r U U' V V' h1 hal h2 h => Says01.mv r U U' V V' h1 hal h2 h) ?_
  intro p e s m args below meth c s₁ X0 hexec hbytes hml hret hlk hnm hown hh0 W hP
  obtain ⟨rfl, hA, tA, hB, tB⟩ := hP
  have a31 := hA.2.2.2
  have b31 := hB.2.2.2
  have hA0 := hA.mv X0.warmed.alike hh0
  have hB0 := hB.mv X0.warmed.alike hh0
  have c1 : Steps p.tables e below (s₁.setTop (entryFrame m #[.ref a, .ref b] 3)) (s₁.setTop (mkF m 0 #[.val (.ref a), .val (.ref b), .unset] [])) := entry rfl
  have c2 : Steps p.tables e below (s₁.setTop (entryFrame m #[.ref a, .ref b] 3)) (s₁.setTop (mkF m 4 #[.val (.ref a), .val (.ref b), .unset] [.int (Int32.ofNat B.slots.size), .int (Int32.ofNat A.slots.size)])) := c1.trans (by
    refine XS.aloadN X0.here hexec rfl (hb hbytes d0) rfl rfl ?_
    refine X0.alen hexec hA0 rfl rfl (hb hbytes d1) ?_
    refine XS.aloadN X0.here hexec rfl (hb hbytes d2) rfl rfl ?_
    refine X0.alen hexec hB0 rfl rfl (hb hbytes d3) ?_
    exact Steps.refl _)
  by_cases hs : A.slots.size = B.slots.size
  · have c3 : Steps p.tables e below (s₁.setTop (entryFrame m #[.ref a, .ref b] 3)) (s₁.setTop (mkF m 9 #[.val (.ref a), .val (.ref b), .val (.int 0)] [])) := c2.trans (by
      refine XS.icmpNo X0.here hexec rfl (hb hbytes d4) rfl (ii_ne_f (by rw [hs])) ?_
      refine iconstV X0.here hexec rfl 0 (hb hbytes d7) (by decide) ?_
      refine XS.istoreN X0.here hexec rfl (hb hbytes d8) rfl rfl ?_
      exact Steps.refl _)
    have loop : ∀ (r i : Nat), i + r = A.slots.size → (∀ j, j < i → yv A j = yv B j) → Steps p.tables e below (s₁.setTop (entryFrame m #[.ref a, .ref b] 3)) (s₁.setTop (mkF m 9 #[.val (.ref a), .val (.ref b), .val (.int (Int32.ofNat i))] [])) → ∃ (pc : Nat) (Ls : Array Slot) (v : Int32), (pc = 25 ∨ pc = 33) ∧ ((v = 1 ∧ EqC A B) ∨ (v = 0 ∧ ¬ EqC A B)) ∧ Steps p.tables e below (s₁.setTop (entryFrame m #[.ref a, .ref b] 3)) (s₁.setTop (mkF m pc Ls [.int v])) := by
      intro r
      induction r with
      | zero =>
        intro i hi he cl
        exact ⟨33, _, 1, Or.inr rfl, Or.inl ⟨rfl, hs, fun j hj => he j (by omega)⟩, cl.trans (by
          refine XS.iloadN X0.here hexec rfl (hb hbytes d9) rfl ?_
          refine XS.aloadN X0.here hexec rfl (hb hbytes d10) rfl rfl ?_
          refine X0.alen hexec hA0 rfl rfl (hb hbytes d11) ?_
          refine XS.icmpYes X0.here hexec rfl (pc0 := 12) rfl (hb hbytes d12) rfl (ii_ge_t (nlt32 (by omega) (by omega))) (by decide) rfl ?_
          refine iconstV X0.here hexec rfl 1 (hb hbytes d32) (by decide) ?_
          exact Steps.refl _)⟩
      | succ r ih =>
        intro i hi he cl
        have c4 : Steps p.tables e below (s₁.setTop (entryFrame m #[.ref a, .ref b] 3)) (s₁.setTop (mkF m 21 #[.val (.ref a), .val (.ref b), .val (.int (Int32.ofNat i))] [.int (yv B i), .int (yv A i)])) := cl.trans (by
          refine XS.iloadN X0.here hexec rfl (hb hbytes d9) rfl ?_
          refine XS.aloadN X0.here hexec rfl (hb hbytes d10) rfl rfl ?_
          refine X0.alen hexec hA0 rfl rfl (hb hbytes d11) ?_
          refine XS.icmpNo X0.here hexec rfl (hb hbytes d12) rfl (ii_ge_f (lt32 (by omega) (by omega))) ?_
          refine XS.aloadN X0.here hexec rfl (hb hbytes d15) rfl rfl ?_
          refine XS.iloadN X0.here hexec rfl (hb hbytes d16) rfl ?_
          refine X0.aget hexec hA0 rfl (yv_get hA tA (i := i) (by omega)) rfl rfl (hb hbytes d17) ?_
          refine XS.aloadN X0.here hexec rfl (hb hbytes d18) rfl rfl ?_
          refine XS.iloadN X0.here hexec rfl (hb hbytes d19) rfl ?_
          refine X0.aget hexec hB0 rfl (yv_get hB tB (i := i) (by omega)) rfl rfl (hb hbytes d20) ?_
          exact Steps.refl _)
        by_cases hv : yv A i = yv B i
        · have c5 : Steps p.tables e below (s₁.setTop (entryFrame m #[.ref a, .ref b] 3)) (s₁.setTop (mkF m 9 #[.val (.ref a), .val (.ref b), .val (.int (Int32.ofNat i + 1))] [])) := c4.trans (by
            refine XS.icmpYes X0.here hexec rfl (pc0 := 21) rfl (hb hbytes d21) rfl (ii_eq_t hv) (by decide) rfl ?_
            refine iincV X0.here hexec rfl 1 (hb hbytes d26) (by decide) rfl rfl ?_
            refine XS.goto X0.here hexec rfl (pc0 := 29) rfl (hb hbytes d29) (by decide) rfl ?_
            exact Steps.refl _)
          rw [succ32] at c5
          exact ih (i + 1) (by omega) (fun j hj => by
            by_cases e : j = i
            · rw [e]; exact hv
            · exact he j (by omega)) c5
        · exact ⟨25, _, 0, Or.inl rfl, Or.inr ⟨rfl, fun q => hv (q.2 i (by omega))⟩, c4.trans (by
            refine XS.icmpNo X0.here hexec rfl (hb hbytes d21) rfl (ii_eq_f hv) ?_
            refine iconstV X0.here hexec rfl 0 (hb hbytes d24) (by decide) ?_
            exact Steps.refl _)⟩
    obtain ⟨pc, Ls, v, hpc, hv, cz⟩ := loop A.slots.size 0 (by omega) (fun j hj => absurd hj (Nat.not_lt_zero j)) c3
    have nv : narrow .boolean (.int v) = .int v := by rcases hv with ⟨rfl, -⟩ | ⟨rfl, -⟩ <;> rfl
    rcases hpc with rfl | rfl
    · exact ⟨s₁, some (.int v), _, _, _, X0, rfl, rfl, rfl, (fun h => by cases h), ⟨v, rfl, hh0, hv⟩, fun fs hl => cz.trans (X0.ireturnOut hexec hret nv (Or.inr (Or.inl rfl)) (hb hbytes d25) hl)⟩
    · exact ⟨s₁, some (.int v), _, _, _, X0, rfl, rfl, rfl, (fun h => by cases h), ⟨v, rfl, hh0, hv⟩, fun fs hl => cz.trans (X0.ireturnOut hexec hret nv (Or.inr (Or.inl rfl)) (hb hbytes d33) hl)⟩
  · have c3 : Steps p.tables e below (s₁.setTop (entryFrame m #[.ref a, .ref b] 3)) (s₁.setTop (mkF m 35 #[.val (.ref a), .val (.ref b), .unset] [.int 0])) := c2.trans (by
      refine XS.icmpYes X0.here hexec rfl (pc0 := 4) rfl (hb hbytes d4) rfl (ii_ne_t (ne32 a31 b31 hs)) (by decide) rfl ?_
      refine iconstV X0.here hexec rfl 0 (hb hbytes d34) (by decide) ?_
      exact Steps.refl _)
    exact ⟨s₁, some (.int 0), _, _, _, X0, rfl, rfl, rfl, (fun h => by cases h), ⟨0, rfl, hh0, Or.inr ⟨rfl, fun q => hs q.1⟩⟩, fun fs hl => c3.trans (X0.ireturnOut hexec hret rfl (Or.inr (Or.inl rfl)) (hb hbytes d35) hl)⟩
end LEq
theorem Cod.ty {cd : Int32} {n : Nat} {f : Nat → Int32} {V : Cell} (h : Cod cd n f V) : Typed .byte V := fun i v hv => by
  have hi : i < V.slots.size := (Array.getElem?_eq_some_iff.mp hv).1
  rcases h with ⟨-, k1, k2⟩ | ⟨-, k1, k2, -⟩
  · rw [(k2 i (by omega)).1] at hv; cases hv; exact fits_lo8 _
  · rcases Nat.mod_two_eq_zero_or_one i with e | e
    · obtain ⟨j, rfl⟩ : ∃ j, i = 2 * j := ⟨i / 2, by omega⟩
      rw [(k2 j (by omega)).1] at hv; cases hv; exact fits_lo8 _
    · obtain ⟨j, rfl⟩ : ∃ j, i = 2 * j + 1 := ⟨i / 2, by omega⟩
      rw [(k2 j (by omega)).2] at hv; cases hv; exact fits_lo8 _
/-- the same text -/
def SameT (n : Nat) (f : Nat → Int32) (k : Nat) (g : Nat → Int32) : Prop := n = k ∧ ∀ j, j < n → f j = g j
theorem lo8_inj {x y : Int32} (h0 : ¬ x < 0) (h1 : ¬ 255 < x) (k0 : ¬ y < 0) (k1 : ¬ 255 < y) (h : lo8 x = lo8 y) : x = y := by
  rw [← lo8_mask h0 h1, ← lo8_mask k0 k1, h]
/-- arrays coded by one coder are equal just where the texts are -/
theorem Cod.eqv {cd : Int32} {n k : Nat} {f g : Nat → Int32} {V V' : Cell} (h : Cod cd n f V) (h' : Cod cd k g V') (hf : ∀ j, j < n → ¬ f j < 0 ∧ ¬ 65535 < f j) (hg : ∀ j, j < k → ¬ g j < 0 ∧ ¬ 65535 < g j) : EqC V V' ↔ SameT n f k g := by
  have yvv : ∀ {W : Cell} {i : Nat} {x : Int32}, W.slots[i]? = some (.int x) → yv W i = x := fun q => by unfold yv; rw [q]
  rcases h with ⟨rfl, k1, k2⟩ | ⟨rfl, k1, k2, -⟩
  · rcases h' with ⟨-, m1, m2⟩ | ⟨e, -⟩
    · constructor
      · rintro ⟨e1, e2⟩
        refine ⟨by omega, fun j hj => ?_⟩
        have q := e2 j (by omega)
        rw [yvv (k2 j hj).1, yvv (m2 j (by omega)).1] at q
        exact lo8_inj (hf j hj).1 (k2 j hj).2 (hg j (by omega)).1 (m2 j (by omega)).2 q
      · rintro ⟨rfl, e2⟩
        refine ⟨by omega, fun j hj => ?_⟩
        rw [yvv (k2 j (by omega)).1, yvv (m2 j (by omega)).1, e2 j (by omega)]
    · exact absurd e (by decide)
  · rcases h' with ⟨e, -⟩ | ⟨-, m1, m2, -⟩
    · exact absurd e (by decide)
    · constructor
      · rintro ⟨e1, e2⟩
        refine ⟨by omega, fun j hj => ?_⟩
        have q1 := e2 (2 * j) (by omega)
        have q2 := e2 (2 * j + 1) (by omega)
        rw [yvv (k2 j hj).1, yvv (m2 j (by omega)).1] at q1
        rw [yvv (k2 j hj).2, yvv (m2 j (by omega)).2] at q2
        rw [← pair_says (hf j hj).1 (hf j hj).2, ← pair_says (hg j (by omega)).1 (hg j (by omega)).2, q1, q2]
      · rintro ⟨rfl, e2⟩
        refine ⟨by omega, fun i hi => ?_⟩
        rcases Nat.mod_two_eq_zero_or_one i with e | e
        · obtain ⟨j, rfl⟩ : ∃ j, i = 2 * j := ⟨i / 2, by omega⟩
          rw [yvv (k2 j (by omega)).1, yvv (m2 j (by omega)).1, e2 j (by omega)]
        · obtain ⟨j, rfl⟩ : ∃ j, i = 2 * j + 1 := ⟨i / 2, by omega⟩
          rw [yvv (k2 j (by omega)).2, yvv (m2 j (by omega)).2, e2 j (by omega)]
/-- two codings differ: so do the texts -/
theorem Cod.dif {cd cd' : Int32} {n k : Nat} {f g : Nat → Int32} {V V' : Cell} (h : Cod cd n f V) (h' : Cod cd' k g V') (hne : ¬ cd = cd') : ¬ SameT n f k g := by
  rintro ⟨rfl, e⟩
  rcases h with ⟨rfl, -, k2⟩ | ⟨rfl, -, -, j, hj, hw⟩
  · rcases h' with ⟨rfl, -⟩ | ⟨-, -, -, j, hj, hw⟩
    · exact hne rfl
    · exact (k2 j hj).2 (by rw [e j hj]; exact hw)
  · rcases h' with ⟨-, -, m2⟩ | ⟨rfl, -⟩
    · exact (m2 j hj).2 (by rw [← e j hj]; exact hw)
    · exact hne rfl
/-- an object of exactly C is an instance of C -/
theorem cinst {p : Program} {l : Launch} {e : Env} {R : Room} {s : State} {m : MethodId} {args : Array Value} {below : List Frame} {meth : Method} {c : Code} {T : State} {locs : List Loc} {cells slots : Nat} (X : Stand p l e R s m args below meth c T locs cells slots) (hexec : p.tables.exec = Jvm.exec) {own C : String} {index : Nat} (hown : s.vm.findClass own = some m.cls) (hlink : (Cond.classLink own index C).before args s = true) {a : Addr} (hE : Exact C a T)
    {g : JFrame} (hg : g.method = m) {rest : List Value} (hstack : g.stack = .ref a :: rest) (hdg : decode c.code g.pc = .ok (.instanceof index, 3)) :
    ∃ T', Stand p l e R s m args below meth c T' locs cells slots ∧ T'.heap = T.heap ∧ ∀ target, Steps p.tables e below (T'.setTop { g with pc := g.pc + 3, stack := .int 1 :: rest }) target → Steps p.tables e below (T.setTop g) target := by
  obtain ⟨cB, h1, D, h2, h3, h4⟩ := hE
  have h1' : s.vm.findClass C = some cB := by rw [← X.warmed.alike.findClass]; exact h1
  obtain ⟨vm', X', st⟩ := X.instanceofYes hexec hown hlink h2 h4 h1' (by rw [h3]; exact Jvm.Free.SB.assignable_self _ _) hg hstack hdg
  exact ⟨_, X', rfl, st⟩
theorem cself {p : Program} {l : Launch} {e : Env} {R : Room} {s : State} {m : MethodId} {args : Array Value} {below : List Frame} {meth : Method} {c : Code} {T : State} {locs : List Loc} {cells slots : Nat} (X : Stand p l e R s m args below meth c T locs cells slots) (hexec : p.tables.exec = Jvm.exec) {own C : String} {index : Nat} (hown : s.vm.findClass own = some m.cls) (hlink : (Cond.classLink own index C).before args s = true) {a : Addr} (hE : Exact C a T)
    {g : JFrame} (hg : g.method = m) {rest : List Value} (hstack : g.stack = .ref a :: rest) (hdg : decode c.code g.pc = .ok (.checkcast index, 3)) :
    ∃ T', Stand p l e R s m args below meth c T' locs cells slots ∧ T'.heap = T.heap ∧ ∀ target, Steps p.tables e below (T'.setTop { g with pc := g.pc + 3, stack := .ref a :: rest }) target → Steps p.tables e below (T.setTop g) target := by
  obtain ⟨cB, h1, D, h2, h3, h4⟩ := hE
  have h1' : s.vm.findClass C = some cB := by rw [← X.warmed.alike.findClass]; exact h1
  obtain ⟨vm', X', st⟩ := X.checkcastYes hexec hown hlink h2 h4 h1' (by rw [h3]; exact Jvm.Free.SB.assignable_self _ _) hg hstack hdg
  exact ⟨_, X', rfl, fun t h => st t (by rw [← hstack] at h; exact h)⟩
namespace SEq
def yN : MethodName := ⟨"java/lang/String", "equals", "(Ljava/lang/Object;)Z"⟩
abbrev yB : ByteArray := jdk_42_method_66_code
theorem d0 : decode yB 0 = .ok (.aload_n 0, 1) := by decide +kernel
theorem d1 : decode yB 1 = .ok (.aload_n 1, 1) := by decide +kernel
theorem d2 : decode yB 2 = .ok (.if_acmp (.ne) 5, 3) := by decide +kernel
theorem d5 : decode yB 5 = .ok (.iconst 1, 1) := by decide +kernel
theorem d6 : decode yB 6 = .ok (.ireturn, 1) := by decide +kernel
theorem d7 : decode yB 7 = .ok (.aload_n 1, 1) := by decide +kernel
theorem d8 : decode yB 8 = .ok (.instanceof 10, 3) := by decide +kernel
theorem d11 : decode yB 11 = .ok (.ifCond (.eq) 43, 3) := by decide +kernel
theorem d14 : decode yB 14 = .ok (.aload_n 1, 1) := by decide +kernel
theorem d15 : decode yB 15 = .ok (.checkcast 10, 3) := by decide +kernel
theorem d18 : decode yB 18 = .ok (.astore_n 2, 1) := by decide +kernel
theorem d19 : decode yB 19 = .ok (.getstatic 38, 3) := by decide +kernel
theorem d22 : decode yB 22 = .ok (.ifCond (.eq) 14, 3) := by decide +kernel
theorem d25 : decode yB 25 = .ok (.aload_n 0, 1) := by decide +kernel
theorem d26 : decode yB 26 = .ok (.getfield 15, 3) := by decide +kernel
theorem d29 : decode yB 29 = .ok (.aload_n 2, 1) := by decide +kernel
theorem d30 : decode yB 30 = .ok (.getfield 15, 3) := by decide +kernel
theorem d33 : decode yB 33 = .ok (.if_icmp (.ne) 21, 3) := by decide +kernel
theorem d36 : decode yB 36 = .ok (.aload_n 0, 1) := by decide +kernel
theorem d37 : decode yB 37 = .ok (.getfield 9, 3) := by decide +kernel
theorem d40 : decode yB 40 = .ok (.aload_n 2, 1) := by decide +kernel
theorem d41 : decode yB 41 = .ok (.getfield 9, 3) := by decide +kernel
theorem d44 : decode yB 44 = .ok (.invokestatic 541, 3) := by decide +kernel
theorem d47 : decode yB 47 = .ok (.ifCond (.eq) 7, 3) := by decide +kernel
theorem d50 : decode yB 50 = .ok (.iconst 1, 1) := by decide +kernel
theorem d51 : decode yB 51 = .ok (.goto 4, 3) := by decide +kernel
theorem d54 : decode yB 54 = .ok (.iconst 0, 1) := by decide +kernel
theorem d55 : decode yB 55 = .ok (.ireturn, 1) := by decide +kernel
def site : List Cond := [.classLink "java/lang/String" 10 "java/lang/String", .fieldLink "java/lang/String" 38 "java/lang/String" "COMPACT_STRINGS" "Z", .fieldLink "java/lang/String" 15 "java/lang/String" "coder" "B", .fieldLink "java/lang/String" 9 "java/lang/String" "value" "[B", LEq.tab] ++ staticW "java/lang/String" 541 LEq.yN
def tab : Cond := tabOf yN yB 3 (some .boolean) site
def P (x t : Addr) (V : Cell) (cd : Int32) (n : Nat) (f : Nat → Int32) (y t' : Addr) (V' : Cell) (cd' : Int32) (k : Nat) (g : Nat → Int32) (z : Int32) (args : Array Value) (s : State) : Prop := args = #[.ref x, .ref y] ∧ Txt x t V cd n f s ∧ Txt y t' V' cd' k g s ∧ StaticIs s "java/lang/String" "COMPACT_STRINGS" "Z" (.int z) ∧ ¬ z = 0
/-- equals(Object) of two Strings: whether the texts are the same -/
theorem law (l : Launch) (x t : Addr) (V : Cell) (cd : Int32) (n : Nat) (f : Nat → Int32) (y t' : Addr) (V' : Cell) (cd' : Int32) (k : Nat) (g : Nat → Int32) (z : Int32) : Law l yN 2 1 1 14 yB 3 (some .boolean) site (P x t V cd n f y t' V' cd' k g z) (Says01 (SameT n f k g)) [] 0 0 := by
  refine Law.of_walk (plainFor_of_name (by decide +kernel)) (by decide +kernel) (by decide +kernel) (by decide) (fun _ _ h => by rw [h.1]; rfl) (fun _ U U' hal hh h => ⟨h.1, h.2.1.mv hal hh, h.2.2.1.mv hal hh, h.2.2.2.1.there hal hh, h.2.2.2.2⟩) (fun r U U' V V' h1 hal h2 h => Says01.mv r U U' V V' h1 hal h2 h) ?_
  intro p e s m args below meth c s₁ X0 hexec hbytes hml hret hlk hnm hown hh0 W hP
  obtain ⟨rfl, hx, hy, s1, hz⟩ := hP
  have c1 : Steps p.tables e below (s₁.setTop (entryFrame m #[.ref x, .ref y] 3)) (s₁.setTop (mkF m 2 #[.val (.ref x), .val (.ref y), .unset] [.ref y, .ref x])) := Steps.trans (entry rfl) (by
    show Steps p.tables e below (s₁.setTop (mkF m 0 #[.val (.ref x), .val (.ref y), .unset] [])) _
    refine XS.aloadN X0.here hexec rfl (hb hbytes d0) rfl rfl ?_
    refine XS.aloadN X0.here hexec rfl (hb hbytes d1) rfl rfl ?_
    exact Steps.refl _)
  by_cases hxy : x = y
  · have c2 : Steps p.tables e below (s₁.setTop (entryFrame m #[.ref x, .ref y] 3)) (s₁.setTop (mkF m 6 #[.val (.ref x), .val (.ref y), .unset] [.int 1])) := c1.trans (by
      refine acmpNo X0.here hexec rfl (hb hbytes d2) rfl rfl rfl (by simp [acmp, hxy]) ?_
      refine iconstV X0.here hexec rfl 1 (hb hbytes d5) (by decide) ?_
      exact Steps.refl _)
    subst hxy
    have ec : cd = cd' := by
      obtain ⟨D, fd, a1, a2, a3⟩ := hx.2.2.1
      obtain ⟨D', fd', b1, b2, b3⟩ := hy.2.2.1
      cases a1.symm.trans b1
      obtain ⟨q1, q2, q3, q4⟩ := a2.1
      obtain ⟨r1, r2, r3, r4⟩ := b2.1
      cases q4.symm.trans r4
      cases a3.symm.trans b3; rfl
    have et : t = t' := by
      obtain ⟨D, fd, a1, a2, a3⟩ := hx.2.1
      obtain ⟨D', fd', b1, b2, b3⟩ := hy.2.1
      cases a1.symm.trans b1
      obtain ⟨q1, q2, q3, q4⟩ := a2.1
      obtain ⟨r1, r2, r3, r4⟩ := b2.1
      cases q4.symm.trans r4
      cases a3.symm.trans b3; rfl
    subst ec et
    have ev : V = V' := by cases hx.2.2.2.1.1.symm.trans hy.2.2.2.1.1; rfl
    subst ev
    have hs : SameT n f k g := (Cod.eqv hx.2.2.2.2.1 hy.2.2.2.2.1 hx.2.2.2.2.2 hy.2.2.2.2.2).mp ⟨rfl, fun _ _ => rfl⟩
    exact ⟨s₁, some (.int 1), _, _, _, X0, rfl, rfl, rfl, (fun h => by cases h), ⟨1, rfl, hh0, Or.inl ⟨rfl, hs⟩⟩, fun fs hl => c2.trans (X0.ireturnOut hexec hret rfl (Or.inr (Or.inl rfl)) (hb hbytes d6) hl)⟩
  · have c2 : Steps p.tables e below (s₁.setTop (entryFrame m #[.ref x, .ref y] 3)) (s₁.setTop (mkF m 8 #[.val (.ref x), .val (.ref y), .unset] [.ref y])) := c1.trans (by
      refine acmpYes X0.here hexec rfl (pc0 := 2) rfl (hb hbytes d2) rfl rfl rfl (by simp [acmp, hxy]) (by decide) rfl ?_
      refine XS.aloadN X0.here hexec rfl (hb hbytes d7) rfl rfl ?_
      exact Steps.refl _)
    obtain ⟨T3, X3, q3, st3⟩ := cinst X0 hexec hown (wk W (.classLink "java/lang/String" 10 "java/lang/String")) (hy.mv X0.warmed.alike hh0).1 (g := (mkF m 8 #[.val (.ref x), .val (.ref y), .unset] [.ref y])) rfl (rest := []) rfl (hb hbytes d8)
    have hh3 := q3.trans hh0
    have c4 : Steps p.tables e below (s₁.setTop (entryFrame m #[.ref x, .ref y] 3)) (T3.setTop (mkF m 15 #[.val (.ref x), .val (.ref y), .unset] [.ref y])) := (c2.trans (st3 _ (Steps.refl _))).trans (by
      refine XS.ifNo X3.here hexec rfl (hb hbytes d11) rfl (i0_eq_f (by decide)) ?_
      refine XS.aloadN X3.here hexec rfl (hb hbytes d14) rfl rfl ?_
      exact Steps.refl _)
    obtain ⟨T5, X5, q5, st5⟩ := cself X3 hexec hown (wk W (.classLink "java/lang/String" 10 "java/lang/String")) (hy.mv X3.warmed.alike hh3).1 (g := (mkF m 15 #[.val (.ref x), .val (.ref y), .unset] [.ref y])) rfl (rest := []) rfl (hb hbytes d15)
    have hh5 := q5.trans hh3
    have c6 : Steps p.tables e below (s₁.setTop (entryFrame m #[.ref x, .ref y] 3)) (T5.setTop (mkF m 19 #[.val (.ref x), .val (.ref y), .val (.ref y)] [])) := (c4.trans (st5 _ (Steps.refl _))).trans (by
      refine XS.astoreN X5.here hexec rfl (hb hbytes d18) rfl rfl rfl ?_
      exact Steps.refl _)
    obtain ⟨T7, X7, q7, st7⟩ := X5.sget hexec hown (wk W (.fieldLink "java/lang/String" 38 "java/lang/String" "COMPACT_STRINGS" "Z")) s1 (fun _ _ h => by rw [hh5]; exact h) (g := (mkF m 19 #[.val (.ref x), .val (.ref y), .val (.ref y)] [])) rfl (hb hbytes d19)
    have hh7 := q7.trans hh5
    have c8 : Steps p.tables e below (s₁.setTop (entryFrame m #[.ref x, .ref y] 3)) (T7.setTop (mkF m 26 #[.val (.ref x), .val (.ref y), .val (.ref y)] [.ref x])) := (c6.trans (st7 _ (Steps.refl _))).trans (by
      refine XS.ifNo X7.here hexec rfl (hb hbytes d22) rfl (i0_eq_f hz) ?_
      refine XS.aloadN X7.here hexec rfl (hb hbytes d25) rfl rfl ?_
      exact Steps.refl _)
    obtain ⟨T9, X9, q9, st9⟩ := X7.hget hexec hown (wk W (.fieldLink "java/lang/String" 15 "java/lang/String" "coder" "B")) (hx.mv X7.warmed.alike hh7).2.2.1 (g := (mkF m 26 #[.val (.ref x), .val (.ref y), .val (.ref y)] [.ref x])) rfl (rest := []) rfl (hb hbytes d26)
    have hh9 := q9.trans hh7
    have c10 : Steps p.tables e below (s₁.setTop (entryFrame m #[.ref x, .ref y] 3)) (T9.setTop (mkF m 30 #[.val (.ref x), .val (.ref y), .val (.ref y)] [.ref y, .int cd])) := (c8.trans (st9 _ (Steps.refl _))).trans (by
      refine XS.aloadN X9.here hexec rfl (hb hbytes d29) rfl rfl ?_
      exact Steps.refl _)
    obtain ⟨T11, X11, q11, st11⟩ := X9.hget hexec hown (wk W (.fieldLink "java/lang/String" 15 "java/lang/String" "coder" "B")) (hy.mv X9.warmed.alike hh9).2.2.1 (g := (mkF m 30 #[.val (.ref x), .val (.ref y), .val (.ref y)] [.ref y, .int cd])) rfl (rest := [.int cd]) rfl (hb hbytes d30)
    have hh11 := q11.trans hh9
    have c12 : Steps p.tables e below (s₁.setTop (entryFrame m #[.ref x, .ref y] 3)) (T11.setTop (mkF m 33 #[.val (.ref x), .val (.ref y), .val (.ref y)] [.int cd', .int cd])) := c10.trans (st11 _ (Steps.refl _))
    by_cases hcd : cd = cd'
    · subst hcd
      have c13 : Steps p.tables e below (s₁.setTop (entryFrame m #[.ref x, .ref y] 3)) (T11.setTop (mkF m 37 #[.val (.ref x), .val (.ref y), .val (.ref y)] [.ref x])) := c12.trans (by
        refine XS.icmpNo X11.here hexec rfl (hb hbytes d33) rfl (ii_ne_f rfl) ?_
        refine XS.aloadN X11.here hexec rfl (hb hbytes d36) rfl rfl ?_
        exact Steps.refl _)
      obtain ⟨T14, X14, q14, st14⟩ := X11.hget hexec hown (wk W (.fieldLink "java/lang/String" 9 "java/lang/String" "value" "[B")) (hx.mv X11.warmed.alike hh11).2.1 (g := (mkF m 37 #[.val (.ref x), .val (.ref y), .val (.ref y)] [.ref x])) rfl (rest := []) rfl (hb hbytes d37)
      have hh14 := q14.trans hh11
      have c15 : Steps p.tables e below (s₁.setTop (entryFrame m #[.ref x, .ref y] 3)) (T14.setTop (mkF m 41 #[.val (.ref x), .val (.ref y), .val (.ref y)] [.ref y, .ref t])) := (c13.trans (st14 _ (Steps.refl _))).trans (by
        refine XS.aloadN X14.here hexec rfl (hb hbytes d40) rfl rfl ?_
        exact Steps.refl _)
      obtain ⟨T16, X16, q16, st16⟩ := X14.hget hexec hown (wk W (.fieldLink "java/lang/String" 9 "java/lang/String" "value" "[B")) (hy.mv X14.warmed.alike hh14).2.1 (g := (mkF m 41 #[.val (.ref x), .val (.ref y), .val (.ref y)] [.ref y, .ref t])) rfl (rest := [.ref t]) rfl (hb hbytes d41)
      have hh16 := q16.trans hh14
      have c17 : Steps p.tables e below (s₁.setTop (entryFrame m #[.ref x, .ref y] 3)) (T16.setTop (mkF m 44 #[.val (.ref x), .val (.ref y), .val (.ref y)] [.ref t', .ref t])) := c15.trans (st16 _ (Steps.refl _))
      obtain ⟨v18, T18, X18, E18, g18⟩ := X16.callS hexec (LEq.law l t V t' V') hown (wks W (staticW "java/lang/String" 541 LEq.yN)) (wk W LEq.tab) (W := 0) (Nat.le_of_ble_eq_true rfl) (Nat.le_of_ble_eq_true rfl) (Nat.le_refl _) (Nat.le_refl _) (g := (mkF m 44 #[.val (.ref x), .val (.ref y), .val (.ref y)] [.ref t', .ref t])) rfl (by rw [hml]; rfl) c17 (argsL := [.ref t, .ref t']) (rest := []) rfl rfl (by show 2 * 0 + 0 ≤ _; decide) (hb hbytes d44) (⟨rfl, hx.2.2.2.1.mv X16.warmed.alike hh16, hx.2.2.2.2.1.ty, hy.2.2.2.1.mv X16.warmed.alike hh16, hy.2.2.2.2.1.ty⟩)
      obtain ⟨v, rfl, q18, hv⟩ := E18
      have iff := Cod.eqv hx.2.2.2.2.1 hy.2.2.2.2.1 hx.2.2.2.2.2 hy.2.2.2.2.2
      rcases hv with ⟨rfl, he⟩ | ⟨rfl, he⟩
      · have c19 : Steps p.tables e below (s₁.setTop (entryFrame m #[.ref x, .ref y] 3)) (T18.setTop (mkF m 55 #[.val (.ref x), .val (.ref y), .val (.ref y)] [.int 1])) := Steps.trans g18 (by
          refine XS.ifNo X18.here hexec rfl (hb hbytes d47) rfl (i0_eq_f (by decide)) ?_
          refine iconstV X18.here hexec rfl 1 (hb hbytes d50) (by decide) ?_
          refine XS.goto X18.here hexec rfl (pc0 := 51) rfl (hb hbytes d51) (by decide) rfl ?_
          exact Steps.refl _)
        exact ⟨T18, some (.int 1), _, _, _, X18, rfl, rfl, rfl, (fun h => by cases h), ⟨1, rfl, q18.trans hh16, Or.inl ⟨rfl, iff.mp he⟩⟩, fun fs hl => c19.trans (X18.ireturnOut hexec hret rfl (Or.inr (Or.inl rfl)) (hb hbytes d55) hl)⟩
      · have c19 : Steps p.tables e below (s₁.setTop (entryFrame m #[.ref x, .ref y] 3)) (T18.setTop (mkF m 55 #[.val (.ref x), .val (.ref y), .val (.ref y)] [.int 0])) := Steps.trans g18 (by
          refine XS.ifYes X18.here hexec rfl (pc0 := 47) rfl (hb hbytes d47) rfl (i0_eq_t rfl) (by decide) rfl ?_
          refine iconstV X18.here hexec rfl 0 (hb hbytes d54) (by decide) ?_
          exact Steps.refl _)
        exact ⟨T18, some (.int 0), _, _, _, X18, rfl, rfl, rfl, (fun h => by cases h), ⟨0, rfl, q18.trans hh16, Or.inr ⟨rfl, fun q => he (iff.mpr q)⟩⟩, fun fs hl => c19.trans (X18.ireturnOut hexec hret rfl (Or.inr (Or.inl rfl)) (hb hbytes d55) hl)⟩
    · have c13 : Steps p.tables e below (s₁.setTop (entryFrame m #[.ref x, .ref y] 3)) (T11.setTop (mkF m 55 #[.val (.ref x), .val (.ref y), .val (.ref y)] [.int 0])) := c12.trans (by
        refine XS.icmpYes X11.here hexec rfl (pc0 := 33) rfl (hb hbytes d33) rfl (ii_ne_t hcd) (by decide) rfl ?_
        refine iconstV X11.here hexec rfl 0 (hb hbytes d54) (by decide) ?_
        exact Steps.refl _)
      exact ⟨T11, some (.int 0), _, _, _, X11, rfl, rfl, rfl, (fun h => by cases h), ⟨0, rfl, hh11, Or.inr ⟨rfl, Cod.dif hx.2.2.2.2.1 hy.2.2.2.2.1 hcd⟩⟩, fun fs hl => c13.trans (X11.ireturnOut hexec hret rfl (Or.inr (Or.inl rfl)) (hb hbytes d55) hl)⟩
theorem pays {l : Launch} {R : Room} {p : Program} {e : Env} {below : List Frame} {s : State} {sargs : Array Value} {len W : Nat} (x t : Addr) (V : Cell) (cd : Int32) (n : Nat) (f : Nat → Int32) (y t' : Addr) (V' : Cell) (cd' : Int32) (k : Nat) (g : Nat → Int32) (z : Int32) (htab : tab.before sargs s = true) (hfr : 2 ≤ R.frames) (hlo : W + 28 ≤ R.locals) :
    Back l R p e below s sargs yN len W (fun A₁ a₁ => A₁.cells + 0 ≤ R.cells ∧ A₁.slots + 0 ≤ R.slots ∧ P x t V cd n f y t' V' cd' k g z a₁ A₁.U) (fun A₁ _ v₁ B₁ => Says01 (SameT n f k g) v₁ A₁.U B₁.U ∧ B₁.locs = A₁.locs ++ [] ∧ B₁.cells = A₁.cells + 0 ∧ B₁.slots = A₁.slots + 0) :=
  (law l x t V cd n f y t' V' cd' k g z).pays htab hfr (by omega)
end SEq
end StrChars
namespace StrChars.Road
open Jvm Sem ClassFile Op Lib Jvm.Stand Jvm.Free Jvm.Free.XT
open Jvm.Lib.Cold (StaticIs)
/-- the words of String.equals(Object) -/
abbrev wordsEq : List Jvm.Cond := [.code SEq.yN SEq.yB 3 (some .boolean), .initialized ST, .classLink ST 10 ST, .fieldLink ST 38 ST "COMPACT_STRINGS" "Z", .fieldLink ST 15 ST "coder" "B", .fieldLink ST 9 ST "value" "[B", .methodLink ST 541 LEq.yN, .static LEq.yN, .code LEq.yN LEq.yB 3 (some .boolean), .initialized "java/lang/StringLatin1"]
theorem tabEq_of {a : Array Value} {s : State} (h : ∀ w ∈ wordsEq, w.before a s = true) : SEq.tab.before a s = true := by
  have hl : LEq.tab.before a s = true := unparts (wk h (.code LEq.yN LEq.yB 3 (some .boolean))) (wks h (.initialized LEq.yN.cls :: LEq.site))
  have q := consq hl h
  exact unparts (wk q (.code SEq.yN SEq.yB 3 (some .boolean))) (wks q (.initialized SEq.yN.cls :: SEq.site))
theorem movedEq {Z s : State} {a0 args : Array Value} (hZ : Z.Warmed39 s.vm) (hw : ∀ d ∈ wordsEq, d.before a0 Z = true) : ∀ d ∈ wordsEq, d.before args s = true := fun d hd => by
  have t : ∀ d ∈ wordsEq, (d.onTables && d.keepsFace) = true := by decide +kernel
  exact RoadKit.mv hZ (hw d hd) (t d hd)
/-- the road's facts of a String, as the laws ask it -/
theorem txt_of {Z U : State} {a0 : Array Value} {kI : Nat} (wi : (Jvm.Cond.instantiable ST kI).before a0 Z = true) (al : Z.vm.Alike U.vm) {x t : Addr} {kb : ClassId} {cs : List Int32} {cd N2 : Int32} {vs : List Value} (E : RoadKit.Exa Z U.heap x ST) (V : RoadKit.Fld Z U.heap x ST "value" "[B" (.ref t)) (C : RoadKit.Fld Z U.heap x ST "coder" "B" (.int cd)) (K : RoadKit.Arv Z U.heap t kb .byte N2 vs (.int 0)) (hc : CodA cs cd N2 vs) (hb : ∀ c ∈ cs, ¬ c < 0 ∧ ¬ (65535 : Int32) < c) (l2 : cs.length ≤ 4000) :
    ∃ A, Txt x t A cd cs.length (fun j => cs.getD j 0) U := by
  obtain ⟨A, K1, K2, K3, K4, K5, K6⟩ := K
  have hcod := hc.cod (by omega) K3 K5
  obtain ⟨D, fV, fC, hB, F1, F2, g1, g2, -, -⟩ := strObj wi al E V C
  exact ⟨A, ⟨_, hB.2.2.1, D, hB.1, rfl, by cases q : D.vm <;> first | rfl | exact absurd q (hB.2.1.2 _)⟩, Has.of hB F1 g1, Has.of hB F2 g2, ⟨K1.1, State.isArrayOf_alike al K1.2.1, K1.2.2, by rcases hcod with ⟨-, q, -⟩ | ⟨-, q, -⟩ <;> omega⟩, hcod, fun j hj => by
    have e : cs.getD j 0 = cs[j] := by simp [List.getD_eq_getElem?_getD, hj]
    show ¬ cs.getD j 0 < 0 ∧ ¬ 65535 < cs.getD j 0
    rw [e]; exact hb _ (List.getElem_mem _)⟩
theorem same_list (cs ds : List Int32) : SameT cs.length (fun j => cs.getD j 0) ds.length (fun j => ds.getD j 0) ↔ cs = ds := by
  constructor
  · rintro ⟨e, q⟩
    refine List.ext_getElem e fun j h1 h2 => ?_
    have := q j h1
    simpa [List.getD_eq_getElem?_getD, h1, h2] using this
  · rintro rfl
    exact ⟨rfl, fun _ _ => rfl⟩
/-- **equals(Object) OF TWO SUCH STRINGS**: 1 just where the chars are the same -/
theorem eqW {p : Program} {l : Launch} {e : Env} {R : Room} {s : State} {args : Array Value} {below : List Frame} {len W : Nat} {Z : State} {a0 : Array Value} {h : Heap} (hZ : Z.Warmed39 s.vm) (hw : ∀ d ∈ wordsEq, d.before a0 Z = true) {kI : Nat} (wi : (Jvm.Cond.instantiable ST kI).before a0 Z = true)
    {x t : Addr} {kb : ClassId} {cs : List Int32} {cd N2 : Int32} {vs : List Value} (E : RoadKit.Exa Z h x ST) (V : RoadKit.Fld Z h x ST "value" "[B" (.ref t)) (C : RoadKit.Fld Z h x ST "coder" "B" (.int cd)) (K : RoadKit.Arv Z h t kb .byte N2 vs (.int 0)) (hc : CodA cs cd N2 vs) (hb : ∀ c ∈ cs, ¬ c < 0 ∧ ¬ (65535 : Int32) < c) (l2 : cs.length ≤ 4000)
    {y t' : Addr} {kb' : ClassId} {ds : List Int32} {cd' N2' : Int32} {vs' : List Value} (E' : RoadKit.Exa Z h y ST) (V' : RoadKit.Fld Z h y ST "value" "[B" (.ref t')) (C' : RoadKit.Fld Z h y ST "coder" "B" (.int cd')) (K' : RoadKit.Arv Z h t' kb' .byte N2' vs' (.int 0)) (hc' : CodA ds cd' N2' vs') (hb' : ∀ c ∈ ds, ¬ c < 0 ∧ ¬ (65535 : Int32) < c) (l2' : ds.length ≤ 4000)
    {z : Int32} (S : RoadKit.Sta Z h ST "COMPACT_STRINGS" "Z" (.int z)) (hz : ¬ z = 0) (hfr : 2 ≤ R.frames) (hlo : W + 28 ≤ R.locals) :
    Back l R p e below s args (⟨"java/lang/String", "equals", "(Ljava/lang/Object;)Z"⟩ : MethodName) len W (fun P a => a = #[.ref x, .ref y] ∧ P.U.heap = h ∧ P.cells + 0 ≤ R.cells ∧ P.slots + 0 ≤ R.slots)
      (fun P _ v B => ∃ L, (((v = some (.int 1) ∧ cs = ds) ∨ (v = some (.int 0) ∧ ¬ cs = ds)) ∧ L = [] ∧ B.U.heap = h) ∧ B.locs = P.locs ++ L ∧ B.cells = P.cells + 0 ∧ B.slots = P.slots + 0) := by
  intro m meth c P g ig mk a X hg hsize hdg hW hn hp'
  obtain ⟨rfl, rfl, r1, r2⟩ := hp'
  have al : Z.vm.Alike P.U.vm := hZ.alike.trans X.warmed.alike
  obtain ⟨A, hx⟩ := txt_of wi al E V C K hc hb l2
  obtain ⟨A', hy⟩ := txt_of wi al E' V' C' K' hc' hb' l2'
  obtain ⟨v, B, X', ⟨⟨w, hv, hh, hq⟩, hl, hk, hs⟩, st⟩ := SEq.pays x t A cd cs.length (fun j => cs.getD j 0) y t' A' cd' ds.length (fun j => ds.getD j 0) z (tabEq_of (movedEq hZ hw)) hfr hlo m meth c P g ig mk _ X hg hsize hdg hW hn ⟨r1, r2, rfl, hx, hy, sta_is al S, hz⟩
  refine ⟨v, B, X', ⟨[], ⟨?_, rfl, hh⟩, hl, hk, hs⟩, st⟩
  rcases hq with ⟨rfl, q⟩ | ⟨rfl, q⟩
  · exact Or.inl ⟨hv, (same_list cs ds).mp q⟩
  · exact Or.inr ⟨hv, fun e => q ((same_list cs ds).mpr e)⟩
end StrChars.Road
end Jvm.Pilot.@@N@@
namespace Jvm.Pilot.@@N@@
open Jvm Jvm.ClassFile Sem Op Lib Jvm.Free Jvm.Stand Jvm.LawKit Jvm.RoadKit Bundle Jvm.Pilot.@@N@@.Jvm.D
theorem own_w {a0 : Array Value} {Z : State} (hw : ∀ d ∈ tables_1, d.before a0 Z = true) (i : Nat) {d : Jvm.Cond} (h : tables_1[i]? = some d) : d.before a0 Z = true := hw _ (List.mem_of_getElem? h)
abbrev yy0 : MethodName := ⟨"java/lang/String", "coder", "()B"⟩
abbrev yy1 : MethodName := ⟨"java/lang/String", "isLatin1", "()Z"⟩
abbrev yy2 : MethodName := ⟨"java/lang/String", "length", "()I"⟩
abbrev yy3 : MethodName := ⟨"java/lang/Math", "max", "(II)I"⟩
abbrev yy4 : MethodName := ⟨"java/lang/Math", "min", "(II)I"⟩
abbrev yy5 : MethodName := ⟨"java/lang/StringLatin1", "getChar", "([BI)C"⟩
abbrev yy6 : MethodName := ⟨"java/lang/CharacterDataLatin1", "getProperties", "(I)I"⟩
abbrev yy7 : MethodName := ⟨"java/lang/CharacterDataLatin1", "isWhitespace", "(I)Z"⟩
abbrev yy8 : MethodName := ⟨"java/lang/StringLatin1", "indexOfNonWhitespace", "([B)I"⟩
abbrev yy9 : MethodName := ⟨"java/lang/StringLatin1", "lastIndexOfNonWhitespace", "([B)I"⟩
abbrev yy10 : MethodName := ⟨"java/lang/StringLatin1", "strip", "([B)Ljava/lang/String;"⟩
abbrev yy11 : MethodName := ⟨"java/lang/String", "strip", "()Ljava/lang/String;"⟩
abbrev yy12 : MethodName := ⟨"java/lang/String", "equals", "(Ljava/lang/Object;)Z"⟩
abbrev yy13 : MethodName := ⟨"java/lang/StringLatin1", "canEncode", "(I)Z"⟩
abbrev yy14 : MethodName := ⟨"java/util/Objects", "requireNonNull", "(Ljava/lang/Object;Ljava/lang/String;)Ljava/lang/Object;"⟩
abbrev yy15 : MethodName := ⟨"java/lang/StringLatin1", "indexOfChar", "([BIII)I"⟩
abbrev yy16 : MethodName := ⟨"java/lang/StringLatin1", "indexOf", "([BIII)I"⟩
abbrev yy17 : MethodName := ⟨"java/lang/String", "indexOf", "(II)I"⟩
abbrev yy18 : MethodName := ⟨"java/lang/String", "indexOf", "(I)I"⟩
abbrev yy19 : MethodName := ⟨"java/lang/String", "isEmpty", "()Z"⟩
abbrev yy20 : MethodName := ⟨"com/example/firm_duties/firmduties/BusinessContext", "requireToken", "(Ljava/lang/String;Ljava/lang/String;)V"⟩
abbrev yy21 : MethodName := ⟨"com/example/firm_duties/firmduties/BusinessContextMatchesPinLaw", "sym", "(I)C"⟩
abbrev yy22 : MethodName := ⟨"java/lang/StringLatin1", "canEncode", "(C)Z"⟩
abbrev yy23 : MethodName := ⟨"java/lang/StringLatin1", "toBytes", "(C)[B"⟩
abbrev yy24 : MethodName := ⟨"java/lang/String", "<init>", "([BB)V"⟩
abbrev yy25 : MethodName := ⟨"java/lang/String", "valueOf", "(C)Ljava/lang/String;"⟩
abbrev yy26 : MethodName := ⟨"java/lang/StringUTF16", "compress", "([CI[BII)I"⟩
abbrev yy27 : MethodName := ⟨"java/lang/StringUTF16", "compress", "([CII)[B"⟩
abbrev yy28 : MethodName := ⟨"java/lang/StringUTF16", "coderFromArrayLen", "([BI)B"⟩
abbrev yy29 : MethodName := ⟨"java/lang/String", "<init>", "([CIILjava/lang/Void;)V"⟩
abbrev yy30 : MethodName := ⟨"java/lang/String", "<init>", "([C)V"⟩
abbrev yy31 : MethodName := ⟨"com/example/firm_duties/firmduties/BusinessContextMatchesPinLaw", "tok", "(I)Ljava/lang/String;"⟩
abbrev yy32 : MethodName := ⟨"java/lang/Record", "<init>", "()V"⟩
abbrev yy33 : MethodName := ⟨"com/example/firm_duties/firmduties/BusinessContext$Pair", "<init>", "(Ljava/lang/String;Ljava/lang/String;)V"⟩
abbrev yy34 : MethodName := ⟨"java/util/AbstractCollection", "<init>", "()V"⟩
abbrev yy35 : MethodName := ⟨"java/util/ImmutableCollections$AbstractImmutableCollection", "<init>", "()V"⟩
abbrev yy36 : MethodName := ⟨"java/util/ImmutableCollections$AbstractImmutableList", "<init>", "()V"⟩
abbrev yy37 : MethodName := ⟨"java/util/AbstractList", "<init>", "()V"⟩
abbrev yy38 : MethodName := ⟨"java/util/ArrayList", "<init>", "()V"⟩
abbrev yy39 : MethodName := ⟨"java/util/ArrayList", "grow", "(I)[Ljava/lang/Object;"⟩
abbrev yy40 : MethodName := ⟨"java/util/ArrayList", "grow", "()[Ljava/lang/Object;"⟩
abbrev yy41 : MethodName := ⟨"java/util/ArrayList", "add", "(Ljava/lang/Object;[Ljava/lang/Object;I)V"⟩
abbrev yy42 : MethodName := ⟨"java/util/ArrayList", "add", "(Ljava/lang/Object;)Z"⟩
abbrev yy43 : MethodName := ⟨"java/util/Objects", "requireNonNull", "(Ljava/lang/Object;)Ljava/lang/Object;"⟩
abbrev yy44 : MethodName := ⟨"java/util/ImmutableCollections$List12", "isEmpty", "()Z"⟩
abbrev yy45 : MethodName := ⟨"java/util/Arrays", "copyOf", "([Ljava/lang/Object;ILjava/lang/Class;)[Ljava/lang/Object;"⟩
abbrev yy46 : MethodName := ⟨"java/util/Arrays", "copyOf", "([Ljava/lang/Object;I)[Ljava/lang/Object;"⟩
abbrev yy47 : MethodName := ⟨"java/util/ArrayList", "toArray", "()[Ljava/lang/Object;"⟩
abbrev yy48 : MethodName := ⟨"java/util/ArrayList", "isEmpty", "()Z"⟩
abbrev yy49 : MethodName := ⟨"java/util/ImmutableCollections$List12", "<init>", "(Ljava/lang/Object;)V"⟩
abbrev yy50 : MethodName := ⟨"java/util/ImmutableCollections$List12", "<init>", "(Ljava/lang/Object;Ljava/lang/Object;)V"⟩
abbrev yy51 : MethodName := ⟨"java/util/ImmutableCollections$ListN", "<init>", "([Ljava/lang/Object;Z)V"⟩
abbrev yy52 : MethodName := ⟨"java/util/ImmutableCollections", "listFromArray", "([Ljava/lang/Object;)Ljava/util/List;"⟩
abbrev yy53 : MethodName := ⟨"java/util/List", "of", "([Ljava/lang/Object;)Ljava/util/List;"⟩
abbrev yy54 : MethodName := ⟨"java/util/ImmutableCollections$ListN", "isEmpty", "()Z"⟩
abbrev yy55 : MethodName := ⟨"java/util/Collection", "isEmpty", "()Z"⟩
abbrev yy56 : MethodName := ⟨"java/util/Collection", "toArray", "()[Ljava/lang/Object;"⟩
abbrev yy57 : MethodName := ⟨"java/util/ImmutableCollections", "listCopy", "(Ljava/util/Collection;)Ljava/util/List;"⟩
abbrev yy58 : MethodName := ⟨"java/util/List", "copyOf", "(Ljava/util/Collection;)Ljava/util/List;"⟩
abbrev yy59 : MethodName := ⟨"java/util/List", "isEmpty", "()Z"⟩
abbrev yy60 : MethodName := ⟨"com/example/firm_duties/firmduties/BusinessContext", "<init>", "(Ljava/util/List;)V"⟩
abbrev yy61 : MethodName := ⟨"com/example/firm_duties/firmduties/BusinessContextMatchesPinLaw", "same", "(II)Z"⟩
abbrev yy62 : MethodName := ⟨"com/example/firm_duties/firmduties/BusinessContextMatchesPinLaw", "wild", "(I)Z"⟩
abbrev yy63 : MethodName := ⟨"com/example/firm_duties/firmduties/BusinessContextMatchesPinLaw", "pairOk", "(IIII)Z"⟩
abbrev yy64 : MethodName := ⟨"java/util/ImmutableCollections$List12", "size", "()I"⟩
abbrev yy65 : MethodName := ⟨"java/util/ImmutableCollections$List12", "get", "(I)Ljava/lang/Object;"⟩
abbrev yy66 : MethodName := ⟨"java/util/ImmutableCollections$ListN", "size", "()I"⟩
abbrev yy67 : MethodName := ⟨"java/util/ImmutableCollections$ListN", "get", "(I)Ljava/lang/Object;"⟩
abbrev yy68 : MethodName := ⟨"java/util/List", "size", "()I"⟩
abbrev yy69 : MethodName := ⟨"java/util/List", "get", "(I)Ljava/lang/Object;"⟩
abbrev yy70 : MethodName := ⟨"com/example/firm_duties/firmduties/BusinessContext", "matches", "(Lcom/example/firm_duties/firmduties/BusinessContext;)Z"⟩
abbrev yy71 : MethodName := ⟨"java/util/List", "add", "(Ljava/lang/Object;)Z"⟩
set_option maxRecDepth 65536
set_option maxHeartbeats 40000000
abbrev gN {p : Program} {e : Env} {below : List Frame} {s : State} {Q : Option Value → Heap → List Loc → Prop} {cc ss : Nat} (T : State) (g : JFrame) : Prop := own_Goes p e below s Q cc ss T g
theorem own_sTN {p : Program} {e : Env} {below : List Frame} {s : State} {Q : Option Value → Heap → List Loc → Prop} {cc ss : Nat} {T T' : State} {g g' : JFrame} (h : Steps p.tables e below (T.setTop g) (T'.setTop g')) (k : own_Goes p e below s Q cc ss T' g') : own_Goes p e below s Q cc ss T g := own_st (fun _ q => h.trans q) k
abbrev gW {p : Program} {e : Env} {below : List Frame} {s : State} {Q : Option Value → Heap → List Loc → Prop} {cc ss : Nat} (T : State) (g : JFrame) : Prop := own_GoesW p e below s Q cc ss T g
theorem own_sTW {p : Program} {e : Env} {below : List Frame} {s : State} {Q : Option Value → Heap → List Loc → Prop} {cc ss : Nat} {T T' : State} {g g' : JFrame} (h : Steps p.tables e below (T.setTop g) (T'.setTop g')) (k : own_GoesW p e below s Q cc ss T' g') : own_GoesW p e below s Q cc ss T g := own_stW (fun _ q => h.trans q) k
abbrev gH {p : Program} {e : Env} {below : List Frame} {s : State} {Q : Option Value → Heap → List Loc → Prop} {cc ss : Nat} {Z : State} {EL : List (String × Nat)} (T : State) (g : JFrame) : Prop := own_GoesH p e below s Z EL Q cc ss T g
theorem own_sTH {p : Program} {e : Env} {below : List Frame} {s : State} {Q : Option Value → Heap → List Loc → Prop} {cc ss : Nat} {Z : State} {EL : List (String × Nat)} {T T' : State} {g g' : JFrame} (h : Steps p.tables e below (T.setTop g) (T'.setTop g')) (k : own_GoesH p e below s Z EL Q cc ss T' g') : own_GoesH p e below s Z EL Q cc ss T g := own_stH (fun _ q => h.trans q) k
abbrev oU : Slot := .unset
theorem own_mw {Z s : State} {a0 args : Array Value} (hZ : Z.Warmed39 s.vm) (hw : ∀ d ∈ tables_1, d.before a0 Z = true) (i : Nat) {d : Jvm.Cond} (h : tables_1[i]? = some d) (hd : (d.onTables && d.keepsFace) = true := by first | rfl | simp [Cond.onTables, Cond.keepsFace, Cond.keeps, Cond.steady]) : d.before args s = true := mvT hZ (own_w hw i h) hd
abbrev own_T (a0 : Array Value) (Z : State) : Prop := ∀ d ∈ tables_1, d.before a0 Z = true
theorem own_bl {a b : Nat} (h : Nat.ble a b = true) : a ≤ b := Nat.le_of_ble_eq_true h
abbrev own_Met (l : Launch) (y : MethodName) (b : ByteArray) (ml : Nat) (rt : Option FieldType) (ws : List Jvm.Cond) (R : Room) (Z : State) (h0 : Heap) (av : Array Value) (Q : Option Value → Heap → List Loc → Prop) : Prop :=
  MetFree l y (head1 (Jvm.Cond.code y b ml rt :: ws) R) (fun a_ U_ => a_ = av ∧ Z.Warmed39 U_.vm ∧ U_.heap = h0) (fun _ _ _ _ _ => True) (fun _ U_ o_ U1_ => ∃ v_ L_, o_ = .returned v_ ∧ Q v_ U1_.heap L_ ∧ FrameEnd U_ o_ U1_ L_ R.cells R.slots)
theorem own_openN {l : Launch} {y : MethodName} {b : ByteArray} {ml : Nat} {rt : Option FieldType} {ws : List Jvm.Cond} {R : Room} {Z : State} {h0 : Heap} {av : Array Value} {Q : Option Value → Heap → List Loc → Prop} (pn : plainFor y = true) {own : String} (ho : y.cls = own)
    (H : ∀ (p : Program) (e : Env) (s : State) (m : MethodId) (below : List Frame) (meth : Method) (c : Code) (s₁ : State), p.tables.exec = Jvm.exec → c.code = b → meth.locks = false → c.maxLocals = ml → meth.sig.returnType = rt → Z.Warmed39 s.vm → s.vm.findClass own = some m.cls → meth.name = y.name → Stand p l e R s m av below meth c s₁ [] 0 0 → s₁.heap = h0 → own_Goes p e below s Q R.cells R.slots s₁ (entryFrame m av ml)) : own_Met l y b ml rt ws R Z h0 av Q := by
  refine MetFree.of_bodySF pn hisR ?_
  intro p e s m args below meth c s₁ Bd hml0 hP hK
  obtain ⟨hq, hZ, hh⟩ := hP
  subst hq
  exact H p e s m below meth c s₁ Bd.exec Bd.bytes Bd.notSynchronized hml0 Bd.returns hZ (by rw [← ho]; exact findClass_of_methodNamed Bd.named) (name_of_methodNamed Bd.named Bd.method).1 (Stand.of_body Bd) (by rw [← hh, Bd.state]; rfl)
theorem own_cut {p : Program} {l : Launch} {e : Env} {R : Room} {s : State} {m : MethodId} {args : Array Value} {below : List Frame} {meth : Method} {c : Code} {locs : List Loc} {cells slots rc rs : Nat} {T0 S0 : State} {G : Option Value → JFrame} {Qc : Option Value → Heap → List Loc → Prop}
    (H : ∃ (v : Option Value) (vm₁ : Vm) (B : Pt), s.WarmedH vm₁ ∧ Stand p l e R s m args below meth c B.U B.locs B.cells B.slots ∧ (∃ L, Qc v B.U.heap L ∧ B.locs = Pt.locs (T0.setVm vm₁, locs, cells, slots) ++ L ∧ B.cells = Pt.cells (T0.setVm vm₁, locs, cells, slots) + rc ∧ B.slots = Pt.slots (T0.setVm vm₁, locs, cells, slots) + rs) ∧ Steps p.tables e below S0 (B.U.setTop (G v))) :
    ∃ T' L v, Stand p l e R s m args below meth c T' (locs ++ L) (cells + rc) (slots + rs) ∧ Qc v T'.heap L ∧ Steps p.tables e below S0 (T'.setTop (G v)) := by
  obtain ⟨v, w1, ⟨T', L', k', n'⟩, -, X, ⟨L, hQ, h1, h2, h3⟩, st⟩ := H
  dsimp only [Pt.U, Pt.locs, Pt.cells, Pt.slots] at X h1 h2 h3 st hQ
  subst h1 h2 h3
  exact ⟨T', L, v, X, hQ, st⟩
theorem own_cutA {p : Program} {l : Launch} {e : Env} {R : Room} {s : State} {m : MethodId} {args : Array Value} {below : List Frame} {meth : Method} {c : Code} {locs : List Loc} {cells slots rc rs : Nat} {T0 S0 : State} {G : Option Value → JFrame} {Qc : Option Value → Heap → List Loc → Prop}
    (H : ∃ (v : Option Value) (vm₁ : Vm) (B : Pt), s.WarmedH vm₁ ∧ Stand p l e R s m args below meth c B.U B.locs B.cells B.slots ∧ (∃ L, Qc v B.U.heap L ∧ B.locs = Pt.locs (T0.setVm vm₁, locs, cells, slots) ++ L ∧ B.cells = Pt.cells (T0.setVm vm₁, locs, cells, slots) + rc ∧ B.slots = Pt.slots (T0.setVm vm₁, locs, cells, slots) + rs) ∧ ∀ target, Steps p.tables e below (B.U.setTop (G v)) target → Steps p.tables e below S0 target) :
    ∃ T' L v, Stand p l e R s m args below meth c T' (locs ++ L) (cells + rc) (slots + rs) ∧ Qc v T'.heap L ∧ ∀ target, Steps p.tables e below (T'.setTop (G v)) target → Steps p.tables e below S0 target := by
  obtain ⟨v, w1, ⟨T', L', k', n'⟩, -, X, ⟨L, hQ, h1, h2, h3⟩, st⟩ := H
  dsimp only [Pt.U, Pt.locs, Pt.cells, Pt.slots] at X h1 h2 h3 st hQ
  subst h1 h2 h3
  exact ⟨T', L, v, X, hQ, st⟩
theorem own_nl {y x k : Nat} (h : y < k) (g : x = k) : y ≠ x := Nat.ne_of_lt (Nat.lt_of_lt_of_eq h g.symm)
theorem own_nk {y x k : Nat} (h : y < k) (g : k ≤ x) : y ≠ x := Nat.ne_of_lt (Nat.lt_of_lt_of_le h g)
def own_b (P : Prop) [Decidable P] : Int32 := if P then 1 else 0
theorem own_bt {P : Prop} [Decidable P] (h : P) : (some (Value.int (nar .boolean 1)) : Option Value) = some (.int (own_b P)) := by rw [own_b, if_pos h]; rfl
theorem own_bf {P : Prop} [Decidable P] (h : ¬ P) : (some (Value.int (nar .boolean 0)) : Option Value) = some (.int (own_b P)) := by rw [own_b, if_neg h]; rfl
theorem own_b1 {P : Prop} [Decidable P] (h : P) : own_b P = 1 := if_pos h
theorem own_b0 {P : Prop} [Decidable P] (h : ¬ P) : own_b P = 0 := if_neg h
theorem own_bc {P P' : Prop} [Decidable P] [Decidable P'] (h : P ↔ P') : own_b P = own_b P' := by simp only [own_b, h]
def own_by (c : Int32) : Int32 := c.toInt8.toInt32
def own_in (c : Int32) : Prop := 0 ≤ c.toInt ∧ c.toInt ≤ 255
theorem own_narc {c : Int32} (h : own_in c) : nar .char c = c := by
  have h2 := c_i2c c; unfold own_in at h
  refine Int32.toInt_inj.mp ?_
  show (c.toUInt32.toUInt16.toUInt32.toInt32).toInt = _
  omega
theorem own_narb (c : Int32) : nar .byte (own_by c) = own_by c := by
  have h := c_i2b c; have h2 := c_i2b (c.toInt8.toInt32)
  refine Int32.toInt_inj.mp ?_
  show ((c.toInt8.toInt32).toInt8.toInt32).toInt = (c.toInt8.toInt32).toInt
  omega
theorem own_byc {c : Int32} (h : own_in c) : nar .byte ((nar .char c).toInt8.toInt32) = own_by c := by rw [own_narc h]; exact own_narb c
theorem own_byi {a b : Int32} (ha : own_in a) (hb : own_in b) : own_by a = own_by b ↔ a = b := by
  have h1 := c_i2b a; have h2 := c_i2b b; unfold own_in at ha hb
  refine ⟨fun q => Int32.toInt_inj.mp ?_, fun q => by rw [q]⟩
  have q2 := congrArg Int32.toInt q; unfold own_by at q2; omega
theorem own_255 {c : Int32} (h : own_in c) : ¬ (255 : Int32) < nar .char c := by
  rw [own_narc h]; unfold own_in at h; simp only [Int32.lt_iff_toInt_lt, Int32.reduceToInt]; omega
theorem own_fldeq {Z : State} {h : Heap} {a : Addr} {C n d : String} {v w : Value} (F : Fld Z h a C n d v) (G : Fld Z h a C n d w) : v = w := Classical.byContradiction fun q => Fld.ne F G q rfl
theorem own_arveq {Z : State} {h : Heap} {a : Addr} {k1 k2 : ClassId} {t1 t2 : FieldType} {z1 z2 : Int32} {v1 v2 : List Value} {d1 d2 : Value} (A : Arv Z h a k1 t1 z1 v1 d1) (B : Arv Z h a k2 t2 z2 v2 d2) : z1.toNatClampNeg = z2.toNatClampNeg ∧ ∀ i, i < z1.toNatClampNeg → v1.getD i d1 = v2.getD i d2 :=
  ⟨Classical.byContradiction fun q => arv_ne A B (Or.inl q) rfl, fun i hi => Classical.byContradiction fun q => arv_ne A B (Or.inr ⟨i, hi, q⟩) rfl⟩
theorem own_arvnn {Z : State} {h : Heap} {a : Addr} {k : ClassId} {t : FieldType} {z : Int32} {v : List Value} {d : Value} (A : Arv Z h a k t z v d) : ¬ z < 0 := by obtain ⟨_, _, _, _, q, _⟩ := A; exact q
theorem own_zeq {z1 z2 : Int32} (h1 : ¬ z1 < 0) (h2 : ¬ z2 < 0) (e : z1.toNatClampNeg = z2.toNatClampNeg) : z1 = z2 := by rw [← (back32 h1).1, ← (back32 h2).1, e]
theorem own_getR {p : Program} {l : Launch} {e : Env} {R : Room} {s : State} {m : MethodId} {args : Array Value} {below : List Frame} {meth : Method} {c : Code} {T : State} {locs : List Loc} {cells slots : Nat} {Z : State} {h : Heap} (X : Stand p l e R s m args below meth c T locs cells slots) (hx : p.tables.exec = Jvm.exec) (hZ : Z.Warmed39 s.vm) {a0 : Array Value} {own O n d : String} {index : Nat} (hown : s.vm.findClass own = some m.cls) (w : (Jvm.Cond.fieldRef own index O n d).before a0 Z = true) (eT : T.heap = h) {a : Addr} {v : Value} (F : Fld Z h a O n d v) {g : JFrame} (hg : g.method = m) {rest : List Value} (hs : g.stack = .ref a :: rest) (hd : decode c.code g.pc = .ok (.getfield index, 3)) (target : State)
    (k : Steps p.tables e below (T.setTop { g with pc := g.pc + 3, stack := v :: rest }) target) : Steps p.tables e below (T.setTop g) target := by
  have hW : Z.Warmed39 T.vm := wtrans hZ X.warmed
  have hf : (Z.setVm T.vm).vm.findClass own = some m.cls := by
    show T.vm.findClass own = some m.cls
    rw [X.warmed.alike.findClass]; exact hown
  obtain ⟨cF, kF, iF, f, q1, q2⟩ := Cond.fieldRef_spec hf (Cond.fieldRef_warmed39 hW w)
  obtain ⟨cell, cf, k0, i0, f0, h1, h2, h3, h4, -, -, h7⟩ := F
  obtain ⟨k', hi, -⟩ := State.fieldFound?_setVm (s := Z) hW.alike h2
  cases q1.symm.trans hi
  exact (X.getfieldR hx hg q2 h3 hs (by rw [eT]; exact h1) h4 h7 hd (Steps.refl _)).trans k
theorem own_newR {p : Program} {l : Launch} {e : Env} {R : Room} {s : State} {m : MethodId} {args : Array Value} {below : List Frame} {meth : Method} {c : Code} {T : State} {locs : List Loc} {cells slots : Nat} {Z : State} {h : Heap} (X : Stand p l e R s m args below meth c T locs cells slots) (hx : p.tables.exec = Jvm.exec) (hZ : Z.Warmed39 s.vm) {a0 : Array Value} {own C ad : String} {index : Nat} (hown : s.vm.findClass own = some m.cls) (w1 : (Jvm.Cond.classLink own index C).before a0 Z = true) (w2 : (Jvm.Cond.arrayOver (.object C)).before a0 Z = true) (had : "[" ++ (FieldType.object C).toString = ad)
    (eT : T.heap = h) {g : JFrame} (hg : g.method = m) (hd : decode c.code g.pc = .ok (.anewarray index, 3)) {n : Int32} {rest : List Value} (hs : g.stack = .int n :: rest) (hn : ¬ n < 0) {cap : Nat} (hcap : n.toNatClampNeg ≤ cap) (hb : cap * 8 ≤ 536870912) (hc : cells + 1 ≤ R.cells) (hl : slots + cap ≤ R.slots) :
    ∃ T' h' cA, Stand p l e R s m args below meth c T' locs (cells + 1) (slots + cap) ∧ T'.heap = h' ∧ Ext h h' ∧ Arr Z h' h.size (newA cA (.object C) n) (.object C) ∧ Ovr Z cA C ∧ Exa Z h' h.size ad ∧
      ∀ target, Steps p.tables e below (T'.setTop { g with pc := g.pc + 3, stack := .ref h.size :: rest }) target → Steps p.tables e below (T.setTop g) target := by
  have ho : (Jvm.Cond.arrayOver (.object C)).before args s = true := Cond.arrayOver_alike hZ.alike w2
  obtain ⟨vm1, cA, kA, comp, -, h1, h2, h3, h4, X', st⟩ := X.anewarrayRefK hx hown (mv hZ w1) ho hg hd hs hn (by omega) hc (by omega)
  subst eT
  rw [hZ.alike.findClass] at h1
  rw [hZ.alike.findClass] at h4
  obtain ⟨kZ, z1, -⟩ := Vm.findClass_spec h1
  obtain ⟨k', z2, z3⟩ := hZ.alike.2.2 _ _ z1
  cases h2.symm.trans z2
  have kk : kZ.kind = .array comp (.object C) := by rw [← h3, z3]
  have key : ∀ h' : Heap, h'[T.heap.size]? = some (newA cA (.object C) n) → Arr Z h' T.heap.size (newA cA (.object C) n) (.object C) ∧ Exa Z h' T.heap.size ad := fun h' q => by
    have A : Arr Z h' T.heap.size (newA cA (.object C) n) (.object C) := ⟨q, ⟨by simp [newA], kZ, z1, comp, kk⟩, by simp [newA]⟩
    exact ⟨A, exa_arr A (by rw [← had]; exact h1) rfl⟩
  exact ⟨_, _, cA, X'.more (Nat.le_refl _) (by omega), rfl, ext_of fun a q => (Array.getElem?_push_lt q).trans (Array.getElem?_eq_getElem q).symm, (key _ (by show (T.heap.push _)[T.heap.size]? = _; simp [newA, defaultValue])).1, ⟨kZ, comp, z1, kk, h4⟩, (key _ (by show (T.heap.push _)[T.heap.size]? = _; simp [newA, defaultValue])).2, st⟩
theorem own_mir {args : Array Value} {s : State} {C : String} {mo : Addr} {cq : ClassId} {kq : Class} (h : (Jvm.Term.mirror C).eval args s none [] s = some (.ref mo)) (qa : s.vm.findClass C = some cq) (qb : s.vm.classes[cq]? = some kq) : kq.mirror = some mo := by
  obtain ⟨c, k, a, h1, h2, h3, h4⟩ := Term.mirror_spec h
  cases qa.symm.trans h1
  cases qb.symm.trans h2
  cases h4
  exact h3
theorem own_gcw : nativeFrameWords "java/lang/Object" "getClass" 1 = 3 := by decide
def own_Ai : List Int32 := [(1207963663 : Int32), (1207963663 : Int32), (1207963663 : Int32), (1207963663 : Int32), (1207963663 : Int32), (1207963663 : Int32), (1207963663 : Int32), (1207963663 : Int32), (1207963663 : Int32), (1476411407 : Int32), (1342193679 : Int32), (1476411407 : Int32), (1610629135 : Int32), (1342193679 : Int32), (1207963663 : Int32), (1207963663 : Int32), (1207963663 : Int32), (1207963663 : Int32), (1207963663 : Int32), (1207963663 : Int32), (1207963663 : Int32), (1207963663 : Int32), (1207963663 : Int32), (1207963663 : Int32), (1207963663 : Int32), (1207963663 : Int32), (1207963663 : Int32), (1207963663 : Int32), (1342193679 : Int32), (1342193679 : Int32), (1342193679 : Int32), (1476411407 : Int32), (1610629132 : Int32), (1744830488 : Int32), (1744830488 : Int32), (671088664 : Int32), (671113242 : Int32), (671088664 : Int32), (1744830488 : Int32), (1744830488 : Int32), (-402653163 : Int32), (-402653162 : Int32), (1744830488 : Int32), (536870937 : Int32), (939524120 : Int32), (536870932 : Int32), (939524120 : Int32), (939524120 : Int32), (402667017 : Int32), (402667017 : Int32), (402667017 : Int32), (402667017 : Int32), (402667017 : Int32), (402667017 : Int32), (402667017 : Int32), (402667017 : Int32), (402667017 : Int32), (402667017 : Int32), (939524120 : Int32), (1744830488 : Int32), (-402653159 : Int32), (1744830489 : Int32), (-402653159 : Int32), (1744830488 : Int32), (1744830488 : Int32), (8552417 : Int32), (8552417 : Int32), (8552417 : Int32), (8552417 : Int32), (8552417 : Int32), (8552417 : Int32), (8552417 : Int32), (8552417 : Int32), (8552417 : Int32), (8552417 : Int32), (8552417 : Int32), (8552417 : Int32), (8552417 : Int32), (8552417 : Int32), (8552417 : Int32), (8552417 : Int32), (8552417 : Int32), (8552417 : Int32), (8552417 : Int32), (8552417 : Int32), (8552417 : Int32), (8552417 : Int32), (8552417 : Int32), (8552417 : Int32), (8552417 : Int32), (8552417 : Int32), (-402653163 : Int32), (1744830488 : Int32), (-402653162 : Int32), (1744830491 : Int32), (1744850967 : Int32), (1744830491 : Int32), (8486882 : Int32), (8486882 : Int32), (8486882 : Int32), (8486882 : Int32), (8486882 : Int32), (8486882 : Int32), (8486882 : Int32), (8486882 : Int32), (8486882 : Int32), (8486882 : Int32), (8486882 : Int32), (8486882 : Int32), (8486882 : Int32), (8486882 : Int32), (8486882 : Int32), (8486882 : Int32), (8486882 : Int32), (8486882 : Int32), (8486882 : Int32), (8486882 : Int32), (8486882 : Int32), (8486882 : Int32), (8486882 : Int32), (8486882 : Int32), (8486882 : Int32), (8486882 : Int32), (-402653163 : Int32), (1744830489 : Int32), (-402653162 : Int32), (1744830489 : Int32), (1207963663 : Int32), (1207963663 : Int32), (1207963663 : Int32), (1207963663 : Int32), (1207963663 : Int32), (1207963663 : Int32), (1342181391 : Int32), (1207963663 : Int32), (1207963663 : Int32), (1207963663 : Int32), (1207963663 : Int32), (1207963663 : Int32), (1207963663 : Int32), (1207963663 : Int32), (1207963663 : Int32), (1207963663 : Int32), (1207963663 : Int32), (1207963663 : Int32), (1207963663 : Int32), (1207963663 : Int32), (1207963663 : Int32), (1207963663 : Int32), (1207963663 : Int32), (1207963663 : Int32), (1207963663 : Int32), (1207963663 : Int32), (1207963663 : Int32), (1207963663 : Int32), (1207963663 : Int32), (1207963663 : Int32), (1207963663 : Int32), (1207963663 : Int32), (1207963663 : Int32), (939524108 : Int32), (1744830488 : Int32), (671113242 : Int32), (671113242 : Int32), (671113242 : Int32), (671113242 : Int32), (1744830492 : Int32), (1744830488 : Int32), (1744830491 : Int32), (1744830492 : Int32), (28677 : Int32), (-402653155 : Int32), (1744830489 : Int32), (1207963664 : Int32), (1744830492 : Int32), (1744830491 : Int32), (671088668 : Int32), (671088665 : Int32), (402654731 : Int32), (402654731 : Int32), (1744830491 : Int32), (134049794 : Int32), (1744830488 : Int32), (1744830488 : Int32), (1744830491 : Int32), (402654475 : Int32), (28677 : Int32), (-402653154 : Int32), (1744832523 : Int32), (1744832523 : Int32), (1744832523 : Int32), (1744830488 : Int32), (8548353 : Int32), (8548353 : Int32), (8548353 : Int32), (8548353 : Int32), (8548353 : Int32), (8548353 : Int32), (8548353 : Int32), (8548353 : Int32), (8548353 : Int32), (8548353 : Int32), (8548353 : Int32), (8548353 : Int32), (8548353 : Int32), (8548353 : Int32), (8548353 : Int32), (8548353 : Int32), (8548353 : Int32), (8548353 : Int32), (8548353 : Int32), (8548353 : Int32), (8548353 : Int32), (8548353 : Int32), (8548353 : Int32), (1744830489 : Int32), (8548353 : Int32), (8548353 : Int32), (8548353 : Int32), (8548353 : Int32), (8548353 : Int32), (8548353 : Int32), (8548353 : Int32), (134049794 : Int32), (8482818 : Int32), (8482818 : Int32), (8482818 : Int32), (8482818 : Int32), (8482818 : Int32), (8482818 : Int32), (8482818 : Int32), (8482818 : Int32), (8482818 : Int32), (8482818 : Int32), (8482818 : Int32), (8482818 : Int32), (8482818 : Int32), (8482818 : Int32), (8482818 : Int32), (8482818 : Int32), (8482818 : Int32), (8482818 : Int32), (8482818 : Int32), (8482818 : Int32), (8482818 : Int32), (8482818 : Int32), (8482818 : Int32), (1744830489 : Int32), (8482818 : Int32), (8482818 : Int32), (8482818 : Int32), (8482818 : Int32), (8482818 : Int32), (8482818 : Int32), (8482818 : Int32), (102592514 : Int32)]
def own_A : List Value := own_Ai.map Value.int
def own_ec (c : Int32) : Prop := 32 < c.toInt ∧ c.toInt ≤ 255 ∧ c.toInt ≠ 44 ∧ c.toInt ≠ 61
def own_mc (c : Int32) : Prop := 0 ≤ c.toInt ∧ c.toInt ≤ 255 ∧ c.toInt ≠ 44 ∧ c.toInt ≠ 61
theorem own_ec.m {c : Int32} (h : own_ec c) : own_mc c := by unfold own_ec at h; unfold own_mc; omega
theorem own_mc.i {c : Int32} (h : own_mc c) : own_in c := by unfold own_mc at h; unfold own_in; omega
theorem own_nc (v : Int32) (h : 0 ≤ v.toInt ∧ v.toInt ≤ 65535) : (nar .char (v.toUInt32.toUInt16.toUInt32.toInt32)).toInt = v.toInt := by
  have h1 := c_i2c v; have h2 := c_i2c (v.toUInt32.toUInt16.toUInt32.toInt32)
  show ((v.toUInt32.toUInt16.toUInt32.toInt32).toUInt32.toUInt16.toUInt32.toInt32).toInt = v.toInt
  omega
def own_tok (z : Int32) (vs : List Value) : Prop := (∃ c0, z = 1 ∧ vs = [.int (own_by c0)] ∧ own_ec c0) ∨ (∃ c0 c1, z = 2 ∧ vs = [.int (own_by c0), .int (own_by c1)] ∧ own_ec c0 ∧ own_ec c1)
def own_sym (x : Int32) : Int32 := if x = 0 then 97 else if x = 1 then 98 else if x = 2 then 42 else 33
abbrev own_tt (x : Int32) : Int32 := ((x.toUInt32 >>> ((4 : Int32) &&& 31).toUInt32).toInt32) &&& (1 : Int32)
abbrev own_t2 (x : Int32) : Int32 := ((x.toUInt32 >>> ((2 : Int32) &&& 31).toUInt32).toInt32) &&& (3 : Int32)
def own_tu (x : Int32) : List Int32 := if own_tt x = 0 then [own_sym (x &&& 3)] else [own_sym (x &&& 3), own_sym (own_t2 x)]
abbrev own_q (u v w x : List Int32) : Prop := u = w ∧ (v = [42] ∨ v = [33] ∨ v = x)
theorem own_syme (x : Int32) : own_ec (own_sym x) := by
  unfold own_sym
  by_cases h0 : x = 0
  · rw [if_pos h0]; unfold own_ec; decide
  · rw [if_neg h0]
    by_cases h1 : x = 1
    · rw [if_pos h1]; unfold own_ec; decide
    · rw [if_neg h1]
      by_cases h2 : x = 2
      · rw [if_pos h2]; unfold own_ec; decide
      · rw [if_neg h2]; unfold own_ec; decide
theorem own_4 (x : Int32) : x &&& 3 = 0 ∨ x &&& 3 = 1 ∨ x &&& 3 = 2 ∨ x &&& 3 = 3 := by
  have h := c_mask x 3 2 (by decide) (by decide)
  simp only [← Int32.toInt_inj, Int32.reduceToInt]; omega
theorem own_symi (x y : Int32) : own_sym (x &&& 3) = own_sym (y &&& 3) ↔ x &&& 3 = y &&& 3 := by
  rcases own_4 x with h | h | h | h <;> rcases own_4 y with q | q | q | q <;> rw [h, q] <;> decide
theorem own_tueq (a b : Int32) : own_tu a = own_tu b ↔ (own_tt a = own_tt b ∧ a &&& 3 = b &&& 3 ∧ (own_tt a = 0 ∨ own_t2 a = own_t2 b)) := by
  unfold own_tu
  by_cases h : own_tt a = 0 <;> by_cases q : own_tt b = 0
  · rw [if_pos h, if_pos q, h, q]; simp [own_symi]
  · rw [if_pos h, if_neg q]; refine ⟨fun z => (by simp at z), fun z => absurd (z.1.symm.trans h) q⟩
  · rw [if_neg h, if_pos q]; refine ⟨fun z => (by simp at z), fun z => absurd (z.1.trans q) h⟩
  · have e : own_tt a = own_tt b := by rcases and_one ((a.toUInt32 >>> ((4 : Int32) &&& 31).toUInt32).toInt32) with z | z <;> rcases and_one ((b.toUInt32 >>> ((4 : Int32) &&& 31).toUInt32).toInt32) with y | y <;> first | exact absurd z h | exact absurd y q | exact z.trans y.symm
    rw [if_neg h, if_neg q]
    simp only [List.cons.injEq, and_true, own_symi, e, true_and]
    exact ⟨fun z => ⟨z.1, Or.inr z.2⟩, fun z => ⟨z.1, z.2.elim (fun y => absurd y q) id⟩⟩
theorem own_wild (a : Int32) : (own_tu a = [42] ∨ own_tu a = [33]) ↔ (own_tt a = 0 ∧ ¬ (a &&& 3) < 2) := by
  unfold own_tu
  by_cases h : own_tt a = 0
  · rw [if_pos h]; simp only [h, true_and, List.cons.injEq, and_true]
    rcases own_4 a with q | q | q | q <;> rw [q] <;> decide
  · rw [if_neg h]; simp [h]
theorem own_irr (z : Int32) : ¬ z < z := by rw [Int32.lt_iff_toInt_lt]; omega
theorem own_pz2 {z : Int32} (h : (0 : Int32) < z) : ¬ (0 : Int32) = z := fun q => by rw [← q] at h; exact own_irr _ h
theorem own_sh0 (z : Int32) : z >>> ((0 : Int32) &&& 31) = z := by
  have e := c_ishr z 0 0 (by decide)
  refine Int32.toInt_inj.mp ?_; rw [e]; omega
theorem own_gc {c : Int32} (h : own_in c) : nar .char ((own_by c &&& 255).toUInt32.toUInt16.toUInt32.toInt32) = c := by
  have h1 := c_mask (own_by c) 255 8 (by decide) (by decide); have h2 := c_i2b c; have h3 := own_nc (own_by c &&& 255)
  unfold own_in at h; unfold own_by at h1 h3 ⊢
  refine Int32.toInt_inj.mp ?_
  rw [h3 (by omega)]; omega
theorem own_ic {c : Int32} (h : own_in c) : c.toUInt32.toUInt16.toUInt32.toInt32 = c := by
  have h1 := c_i2c c; unfold own_in at h; refine Int32.toInt_inj.mp ?_; omega
theorem own_Aat (i : Nat) : own_A.getD i (.int (0 : Int32)) = .int (own_Ai.getD i 0) := by
  simp only [own_A, List.getD_eq_getElem?_getD, List.getElem?_map]; cases own_Ai[i]? <;> rfl
theorem own_tc {c : Int32} (h : own_in c) : c.toNatClampNeg < 256 ∧ ¬ c < 0 ∧ c < 256 ∧ (c.toNatClampNeg : Int) = c.toInt := by
  unfold own_in at h; simp only [Int32.toNatClampNeg, Int32.lt_iff_toInt_lt, Int32.reduceToInt]; omega
theorem own_nw {c : Int32} (h : own_ec c) : ¬ (own_Ai.getD c.toNatClampNeg 0 &&& (28672 : Int32)) = (16384 : Int32) := by
  have q := own_tc h.m.i; unfold own_ec at h
  exact (by decide +kernel : ∀ i : Fin 256, 32 < i.val → ¬ (own_Ai.getD i.val 0 &&& (28672 : Int32)) = (16384 : Int32)) ⟨c.toNatClampNeg, q.1⟩ (by show 32 < c.toNatClampNeg; omega)
theorem own_ne {c k : Int32} (h : own_ec c) (q : k.toInt ≤ 32) : ¬ c = k := by unfold own_ec at h; rw [← Int32.toInt_inj]; omega
theorem own_nbi {c k : Int32} (h : own_in c) (hk : own_in k) (q : ¬ c = k) : ¬ own_by c = k.toInt8.toInt32 := fun e => q ((own_byi h hk).mp e)
abbrev rRrm25 : Room := { frames := 0, cells := 0, slots := 0, locals := 0 }
abbrev c25 (n : Nat) (i : ClassFile.Instr) (k : Nat) : Prop := decode jdk_42_method_152_code n = .ok (i, k)
theorem d25_0 : c25 0 (.getstatic 38) 3 := by decide +kernel
theorem d25_3 : c25 3 (.ifCond .eq 10) 3 := by decide +kernel
theorem d25_6 : c25 6 (.aload_n 0) 1 := by decide +kernel
theorem d25_7 : c25 7 (.getfield 15) 3 := by decide +kernel
theorem d25_10 : c25 10 (.goto 4) 3 := by decide +kernel
theorem d25_14 : c25 14 (.ireturn) 1 := by decide +kernel
theorem pn_25 : plainFor yy0 = true := by decide +kernel
theorem ef_rm25 (m : MethodId) (a : Addr) : entryFrame m #[(.ref a)] 1 = (mkF m 0 #[rv a] []) := by first | (simp [entryFrame, mkF, argsToLocals, Value.category]; done) | rfl
def Q25 (Z : State) (h0 : Heap) (n0 : Nat) (v_ : Option Value) (h_ : Heap) (L_ : List Loc) : Prop := (v_ = some (.int (0 : Int32))) ∧ (Fr n0 L_) ∧ (h_ = h0)
theorem rm25 (l : Launch) (Z : State) (a0 : Array Value) (hw : own_T a0 Z) (a : Addr) (cs : Int32) (h0 : Heap) (n0 : Nat) (Z0 : n0 ≤ h0.size) (p_0 : Fld Z h0 a "java/lang/String" "coder" "B" (.int (0 : Int32))) (p_1 : Sta Z h0 "java/lang/String" "COMPACT_STRINGS" "Z" (.int cs)) (hcs : ¬ cs = (0 : Int32)) :
    own_Met l yy0 jdk_42_method_152_code 1 (some .byte) [] rRrm25 Z h0 #[(.ref a)] (Q25 Z h0 n0) := by
  refine own_openN pn_25 (own := "java/lang/String") rfl ?_
  intro p e s m below meth c s₁ hx hby hlk hml hret hZ hown hnm X0 e0
  have N0 := Fr.nil n0
  rw [ef_rm25 m a]
  show own_Goes p e below s (Q25 Z h0 n0) rRrm25.cells rRrm25.slots s₁ (mkF m 0 #[rv a] [])
  obtain ⟨T1, X1, e1, st1⟩ := getS2 X0 hx hZ hown (host := "") (Or.inl (own_w hw 14 rfl)) Via.refl e0 p_1 (g := (mkF m 0 #[rv a] [])) rfl (hb hby d25_0)
  refine own_st st1 ?_
  refine own_st (fun _ kk_ => XS.ifNo X1.here hx rfl (hb hby d25_3) rfl (XT.i0_eq_f hcs) (XS.aloadN X1.here hx rfl (hb hby d25_6) rfl rfl kk_)) ?_
  show gN T1 (mkF m 7 #[rv a] [(.ref a)])
  obtain ⟨T2, X2, e2, st2⟩ := getF X1 hx hZ hown (host := "") (Or.inl (own_w hw 34 rfl)) Via.refl e1 p_0 (g := (mkF m 7 #[rv a] [(.ref a)])) rfl rfl (hb hby d25_7)
  refine own_st st2 ?_
  refine own_st (fun _ kk_ => XS.goto X2.here hx rfl (pc0 := 10) (pc' := 14) rfl (hb hby d25_10) (by decide) (by decide) kk_) ?_
  show gN T2 (mkF m 14 #[rv a] [(.int (0 : Int32))])
  refine own_retN X2 hx hlk (t := .byte) hret (by simp) (hb hby d25_14) (by decide) (by decide) ?_
  show Q25 Z h0 n0 (some (.int (nar .byte (0 : Int32)))) T2.heap _
  rw [e2]
  exact ⟨rfl, N0, rfl⟩
abbrev rRrm14 : Room := { frames := 0, cells := 0, slots := 0, locals := 0 }
abbrev c14 (n : Nat) (i : ClassFile.Instr) (k : Nat) : Prop := decode jdk_42_method_154_code n = .ok (i, k)
theorem d14_0 : c14 0 (.getstatic 38) 3 := by decide +kernel
theorem d14_3 : c14 3 (.ifCond .eq 14) 3 := by decide +kernel
theorem d14_6 : c14 6 (.aload_n 0) 1 := by decide +kernel
theorem d14_7 : c14 7 (.getfield 15) 3 := by decide +kernel
theorem d14_10 : c14 10 (.ifCond .ne 7) 3 := by decide +kernel
theorem d14_13 : c14 13 (.iconst 1) 1 := by decide +kernel
theorem d14_14 : c14 14 (.goto 4) 3 := by decide +kernel
theorem d14_18 : c14 18 (.ireturn) 1 := by decide +kernel
theorem pn_14 : plainFor yy1 = true := by decide +kernel
theorem ef_rm14 (m : MethodId) (a : Addr) : entryFrame m #[(.ref a)] 1 = (mkF m 0 #[rv a] []) := by first | (simp [entryFrame, mkF, argsToLocals, Value.category]; done) | rfl
def Q14 (Z : State) (h0 : Heap) (n0 : Nat) (v_ : Option Value) (h_ : Heap) (L_ : List Loc) : Prop := (v_ = some (.int (1 : Int32))) ∧ (Fr n0 L_) ∧ (h_ = h0)
theorem rm14 (l : Launch) (Z : State) (a0 : Array Value) (hw : own_T a0 Z) (a : Addr) (cs : Int32) (h0 : Heap) (n0 : Nat) (Z0 : n0 ≤ h0.size) (p_0 : Fld Z h0 a "java/lang/String" "coder" "B" (.int (0 : Int32))) (p_1 : Sta Z h0 "java/lang/String" "COMPACT_STRINGS" "Z" (.int cs)) (hcs : ¬ cs = (0 : Int32)) :
    own_Met l yy1 jdk_42_method_154_code 1 (some .boolean) [] rRrm14 Z h0 #[(.ref a)] (Q14 Z h0 n0) := by
  refine own_openN pn_14 (own := "java/lang/String") rfl ?_
  intro p e s m below meth c s₁ hx hby hlk hml hret hZ hown hnm X0 e0
  have N0 := Fr.nil n0
  rw [ef_rm14 m a]
  show own_Goes p e below s (Q14 Z h0 n0) rRrm14.cells rRrm14.slots s₁ (mkF m 0 #[rv a] [])
  obtain ⟨T1, X1, e1, st1⟩ := getS2 X0 hx hZ hown (host := "") (Or.inl (own_w hw 14 rfl)) Via.refl e0 p_1 (g := (mkF m 0 #[rv a] [])) rfl (hb hby d14_0)
  refine own_st st1 ?_
  refine own_st (fun _ kk_ => XS.ifNo X1.here hx rfl (hb hby d14_3) rfl (XT.i0_eq_f hcs) (XS.aloadN X1.here hx rfl (hb hby d14_6) rfl rfl kk_)) ?_
  show gN T1 (mkF m 7 #[rv a] [(.ref a)])
  obtain ⟨T2, X2, e2, st2⟩ := getF X1 hx hZ hown (host := "") (Or.inl (own_w hw 34 rfl)) Via.refl e1 p_0 (g := (mkF m 7 #[rv a] [(.ref a)])) rfl rfl (hb hby d14_7)
  refine own_st st2 ?_
  refine own_st (fun _ kk_ => XS.ifNo X2.here hx rfl (hb hby d14_10) rfl (XT.i0_ne_f (by decide)) (XS.iconst X2.here hx rfl (hb hby d14_13) (XS.goto X2.here hx rfl (pc0 := 14) (pc' := 18) rfl (hb hby d14_14) (by decide) (by decide) kk_))) ?_
  show gN T2 (mkF m 18 #[rv a] [(.int (1 : Int32))])
  refine own_retN X2 hx hlk (t := .boolean) hret (by simp) (hb hby d14_18) (by decide) (by decide) ?_
  show Q14 Z h0 n0 (some (.int (nar .boolean (1 : Int32)))) T2.heap _
  rw [e2]
  exact ⟨rfl, N0, rfl⟩
abbrev rRrm24 : Room := { frames := 1, cells := 0, slots := 0, locals := 13 }
abbrev c24 (n : Nat) (i : ClassFile.Instr) (k : Nat) : Prop := decode jdk_42_method_54_code n = .ok (i, k)
theorem d24_0 : c24 0 (.aload_n 0) 1 := by decide +kernel
theorem d24_1 : c24 1 (.getfield 9) 3 := by decide +kernel
theorem d24_4 : c24 4 (.arraylength) 1 := by decide +kernel
theorem d24_5 : c24 5 (.aload_n 0) 1 := by decide +kernel
theorem d24_6 : c24 6 (.invokevirtual 335) 3 := by decide +kernel
theorem d24_9 : c24 9 (.ishr) 1 := by decide +kernel
theorem d24_10 : c24 10 (.ireturn) 1 := by decide +kernel
theorem pd_0 : parseMethodDescriptor "()B" = some ⟨[], some .byte⟩ := by decide +kernel
theorem pn_24 : plainFor yy2 = true := by decide +kernel
theorem ef_rm24 (m : MethodId) (a : Addr) : entryFrame m #[(.ref a)] 1 = (mkF m 0 #[rv a] []) := by first | (simp [entryFrame, mkF, argsToLocals, Value.category]; done) | rfl
def Q24 (Z : State) (z1 : Int32) (h0 : Heap) (n0 : Nat) (v_ : Option Value) (h_ : Heap) (L_ : List Loc) : Prop := (v_ = some (.int z1)) ∧ (Fr n0 L_) ∧ (h_ = h0)
theorem rm24 (l : Launch) (Z : State) (a0 : Array Value) (hw : own_T a0 Z) (a : Addr) (d : Addr) (kd : ClassId) (z1 : Int32) (vs1 : List Value) (cs : Int32) (h0 : Heap) (n0 : Nat) (Z0 : n0 ≤ h0.size) (p_0 : Exa Z h0 a "java/lang/String") (p_1 : Fld Z h0 a "java/lang/String" "coder" "B" (.int (0 : Int32))) (p_2 : Fld Z h0 a "java/lang/String" "value" "[B" (.ref d)) (p_3 : Arv Z h0 d kd .byte z1 vs1 (.int (0 : Int32))) (p_4 : Sta Z h0 "java/lang/String" "COMPACT_STRINGS" "Z" (.int cs)) (hcs : ¬ cs = (0 : Int32)) :
    own_Met l yy2 jdk_42_method_54_code 1 (some .int) [] rRrm24 Z h0 #[(.ref a)] (Q24 Z z1 h0 n0) := by
  refine own_openN pn_24 (own := "java/lang/String") rfl ?_
  intro p e s m below meth c s₁ hx hby hlk hml hret hZ hown hnm X0 e0
  have N0 := Fr.nil n0
  rw [ef_rm24 m a]
  show own_Goes p e below s (Q24 Z z1 h0 n0) rRrm24.cells rRrm24.slots s₁ (mkF m 0 #[rv a] [])
  refine own_st (fun _ kk_ => XS.aloadN X0.here hx rfl (hb hby d24_0) rfl rfl kk_) ?_
  show gN s₁ (mkF m 1 #[rv a] [(.ref a)])
  obtain ⟨T1, X1, e1, st1⟩ := getF X0 hx hZ hown (host := "") (Or.inl (own_w hw 32 rfl)) Via.refl e0 p_2 (g := (mkF m 1 #[rv a] [(.ref a)])) rfl rfl (hb hby d24_1)
  refine own_st st1 ?_
  obtain ⟨cl2, Ar2, -, Sz2, Nn2, -, -⟩ := id p_3
  refine own_st (fun _ kk_ => X1.arraylength hx (by rw [e1]; exact Ar2.1) (State.isArrayOf_alike hZ.alike Ar2.2.1) (g := (mkF m 4 #[rv a] [(.ref d)])) rfl rfl (hb hby d24_4) _ kk_) ?_
  rw [len_of Sz2 Nn2]
  show gN T1 (mkF m 5 #[rv a] [(.int z1)])
  refine own_st (fun _ kk_ => XS.aloadN X1.here hx rfl (hb hby d24_5) rfl rfl kk_) ?_
  show gN T1 (mkF m 6 #[rv a] [(.ref a), (.int z1)])
  obtain ⟨cq3, kq3, q3a, q3b, q3c⟩ := isOf hZ e1 p_0
  obtain ⟨T3, L3, v3, X3, hQ3, st3⟩ := own_cut (X1.virtualBack hx (y := yy0) (z := yy0) hown (own_mw hZ hw 116 rfl) (own_mw hZ hw 117 rfl) (notFace_of_selects (args := #[]) (own_mw hZ hw 119 rfl)) (own_mw hZ hw 119 rfl) (own_mw hZ hw 118 rfl) (by decide) (backOf (W := 1) (rm25 l Z a0 hw (a) (cs) h0 n0 Z0 p_1 p_4 (by assumption)) hZ (own_w hw 120 rfl) (own_w hw 12 rfl) (by decide) (by decide)) q3a q3c (g := (mkF m 6 #[rv a] [(.ref a), (.int z1)])) rfl (by rw [hml]; rfl) (Steps.refl _) (argsL := []) (rest := [(.int z1)]) (lenOf pd_0 rfl) rfl (own_bl rfl) (hb hby d24_6) (fun _ _ => ⟨rfl, e1, own_bl rfl, own_bl rfl⟩))
  obtain ⟨rfl, Nq3, eq3⟩ := hQ3
  have N3 := Fr.app N0 Nq3
  refine own_sTN st3 ?_
  refine own_st (fun _ kk_ => XS.ishr X3.here hx rfl (hb hby d24_9) rfl kk_) ?_
  show gN T3 (mkF m 10 #[rv a] [(.int (z1 >>> ((0 : Int32) &&& 31)))])
  refine own_retI X3 hx hlk hret (hb hby d24_10) (by decide) (by decide) ?_
  show Q24 Z z1 h0 n0 (some (.int (z1 >>> ((0 : Int32) &&& 31)))) T3.heap _
  rw [eq3]
  exact ⟨by exact congrArg (fun z => some (Value.int z)) (own_sh0 z1), N3, rfl⟩
abbrev rRrmxA : Room := { frames := 0, cells := 0, slots := 0, locals := 0 }
abbrev c28 (n : Nat) (i : ClassFile.Instr) (k : Nat) : Prop := decode jdk_29_method_65_code n = .ok (i, k)
theorem d28_0 : c28 0 (.iload_n 0) 1 := by decide +kernel
theorem d28_1 : c28 1 (.iload_n 1) 1 := by decide +kernel
theorem d28_2 : c28 2 (.if_icmp .lt 7) 3 := by decide +kernel
theorem d28_5 : c28 5 (.iload_n 0) 1 := by decide +kernel
theorem d28_6 : c28 6 (.goto 4) 3 := by decide +kernel
theorem d28_10 : c28 10 (.ireturn) 1 := by decide +kernel
theorem pn_28 : plainFor yy3 = true := by decide +kernel
theorem ef_rmxA (m : MethodId) (x1 : Int32) (y1 : Int32) : entryFrame m #[(.int x1), (.int y1)] 2 = (mkF m 0 #[iv x1, iv y1] []) := by first | (simp [entryFrame, mkF, argsToLocals, Value.category]; done) | rfl
def QxA (Z : State) (x1 : Int32) (h0 : Heap) (n0 : Nat) (v_ : Option Value) (h_ : Heap) (L_ : List Loc) : Prop := (v_ = some (.int x1)) ∧ (Fr n0 L_) ∧ (h_ = h0)
theorem rmxA (l : Launch) (Z : State) (a0 : Array Value) (hw : own_T a0 Z) (x1 : Int32) (y1 : Int32) (h0 : Heap) (n0 : Nat) (Z0 : n0 ≤ h0.size) (h : ¬ x1 < y1) :
    own_Met l yy3 jdk_29_method_65_code 2 (some .int) [] rRrmxA Z h0 #[(.int x1), (.int y1)] (QxA Z x1 h0 n0) := by
  refine own_openN pn_28 (own := "java/lang/Math") rfl ?_
  intro p e s m below meth c s₁ hx hby hlk hml hret hZ hown hnm X0 e0
  have N0 := Fr.nil n0
  rw [ef_rmxA m x1 y1]
  show own_Goes p e below s (QxA Z x1 h0 n0) rRrmxA.cells rRrmxA.slots s₁ (mkF m 0 #[iv x1, iv y1] [])
  refine own_st (fun _ kk_ => XS.iloadN X0.here hx rfl (hb hby d28_0) rfl (XS.iloadN X0.here hx rfl (hb hby d28_1) rfl (XS.icmpNo X0.here hx rfl (hb hby d28_2) rfl (XT.ii_lt_f h) (XS.iloadN X0.here hx rfl (hb hby d28_5) rfl (XS.goto X0.here hx rfl (pc0 := 6) (pc' := 10) rfl (hb hby d28_6) (by decide) (by decide) kk_))))) ?_
  show gN s₁ (mkF m 10 #[iv x1, iv y1] [(.int x1)])
  refine own_retI X0 hx hlk hret (hb hby d28_10) (by decide) (by decide) ?_
  show QxA Z x1 h0 n0 (some (.int x1)) s₁.heap _
  rw [e0]
  exact ⟨rfl, N0, rfl⟩
abbrev rRrmnA : Room := { frames := 0, cells := 0, slots := 0, locals := 0 }
abbrev c29 (n : Nat) (i : ClassFile.Instr) (k : Nat) : Prop := decode jdk_29_method_69_code n = .ok (i, k)
theorem d29_0 : c29 0 (.iload_n 0) 1 := by decide +kernel
theorem d29_1 : c29 1 (.iload_n 1) 1 := by decide +kernel
theorem d29_2 : c29 2 (.if_icmp .gt 7) 3 := by decide +kernel
theorem d29_5 : c29 5 (.iload_n 0) 1 := by decide +kernel
theorem d29_6 : c29 6 (.goto 4) 3 := by decide +kernel
theorem d29_10 : c29 10 (.ireturn) 1 := by decide +kernel
theorem pn_29 : plainFor yy4 = true := by decide +kernel
theorem ef_rmnA (m : MethodId) (x1 : Int32) (y1 : Int32) : entryFrame m #[(.int x1), (.int y1)] 2 = (mkF m 0 #[iv x1, iv y1] []) := by first | (simp [entryFrame, mkF, argsToLocals, Value.category]; done) | rfl
def QnA (Z : State) (x1 : Int32) (h0 : Heap) (n0 : Nat) (v_ : Option Value) (h_ : Heap) (L_ : List Loc) : Prop := (v_ = some (.int x1)) ∧ (Fr n0 L_) ∧ (h_ = h0)
theorem rmnA (l : Launch) (Z : State) (a0 : Array Value) (hw : own_T a0 Z) (x1 : Int32) (y1 : Int32) (h0 : Heap) (n0 : Nat) (Z0 : n0 ≤ h0.size) (h : ¬ y1 < x1) :
    own_Met l yy4 jdk_29_method_69_code 2 (some .int) [] rRrmnA Z h0 #[(.int x1), (.int y1)] (QnA Z x1 h0 n0) := by
  refine own_openN pn_29 (own := "java/lang/Math") rfl ?_
  intro p e s m below meth c s₁ hx hby hlk hml hret hZ hown hnm X0 e0
  have N0 := Fr.nil n0
  rw [ef_rmnA m x1 y1]
  show own_Goes p e below s (QnA Z x1 h0 n0) rRrmnA.cells rRrmnA.slots s₁ (mkF m 0 #[iv x1, iv y1] [])
  refine own_st (fun _ kk_ => XS.iloadN X0.here hx rfl (hb hby d29_0) rfl (XS.iloadN X0.here hx rfl (hb hby d29_1) rfl (XS.icmpNo X0.here hx rfl (hb hby d29_2) rfl (XT.ii_gt_f h) (XS.iloadN X0.here hx rfl (hb hby d29_5) rfl (XS.goto X0.here hx rfl (pc0 := 6) (pc' := 10) rfl (hb hby d29_6) (by decide) (by decide) kk_))))) ?_
  show gN s₁ (mkF m 10 #[iv x1, iv y1] [(.int x1)])
  refine own_retI X0 hx hlk hret (hb hby d29_10) (by decide) (by decide) ?_
  show QnA Z x1 h0 n0 (some (.int x1)) s₁.heap _
  rw [e0]
  exact ⟨rfl, N0, rfl⟩
abbrev rRrmnB : Room := { frames := 0, cells := 0, slots := 0, locals := 0 }
theorem d29_9 : c29 9 (.iload_n 1) 1 := by decide +kernel
theorem ef_rmnB (m : MethodId) (x1 : Int32) (y1 : Int32) : entryFrame m #[(.int x1), (.int y1)] 2 = (mkF m 0 #[iv x1, iv y1] []) := by first | (simp [entryFrame, mkF, argsToLocals, Value.category]; done) | rfl
def QnB (Z : State) (y1 : Int32) (h0 : Heap) (n0 : Nat) (v_ : Option Value) (h_ : Heap) (L_ : List Loc) : Prop := (v_ = some (.int y1)) ∧ (Fr n0 L_) ∧ (h_ = h0)
theorem rmnB (l : Launch) (Z : State) (a0 : Array Value) (hw : own_T a0 Z) (x1 : Int32) (y1 : Int32) (h0 : Heap) (n0 : Nat) (Z0 : n0 ≤ h0.size) (h : y1 < x1) :
    own_Met l yy4 jdk_29_method_69_code 2 (some .int) [] rRrmnB Z h0 #[(.int x1), (.int y1)] (QnB Z y1 h0 n0) := by
  refine own_openN pn_29 (own := "java/lang/Math") rfl ?_
  intro p e s m below meth c s₁ hx hby hlk hml hret hZ hown hnm X0 e0
  have N0 := Fr.nil n0
  rw [ef_rmnB m x1 y1]
  show own_Goes p e below s (QnB Z y1 h0 n0) rRrmnB.cells rRrmnB.slots s₁ (mkF m 0 #[iv x1, iv y1] [])
  refine own_st (fun _ kk_ => XS.iloadN X0.here hx rfl (hb hby d29_0) rfl (XS.iloadN X0.here hx rfl (hb hby d29_1) rfl (XS.icmpYes X0.here hx rfl (pc0 := 2) (pc' := 9) rfl (hb hby d29_2) rfl (XT.ii_gt_t h) (by decide) (by decide) (XS.iloadN X0.here hx rfl (hb hby d29_9) rfl kk_)))) ?_
  show gN s₁ (mkF m 10 #[iv x1, iv y1] [(.int y1)])
  refine own_retI X0 hx hlk hret (hb hby d29_10) (by decide) (by decide) ?_
  show QnB Z y1 h0 n0 (some (.int y1)) s₁.heap _
  rw [e0]
  exact ⟨rfl, N0, rfl⟩
abbrev rRrm17 : Room := { frames := 0, cells := 0, slots := 0, locals := 0 }
abbrev c17 (n : Nat) (i : ClassFile.Instr) (k : Nat) : Prop := decode jdk_43_method_44_code n = .ok (i, k)
theorem d17_0 : c17 0 (.aload_n 0) 1 := by decide +kernel
theorem d17_1 : c17 1 (.iload_n 1) 1 := by decide +kernel
theorem d17_2 : c17 2 (.baload) 1 := by decide +kernel
theorem d17_3 : c17 3 (.sipush 255) 3 := by decide +kernel
theorem d17_6 : c17 6 (.iand) 1 := by decide +kernel
theorem d17_7 : c17 7 (.i2c) 1 := by decide +kernel
theorem d17_8 : c17 8 (.ireturn) 1 := by decide +kernel
theorem pn_17 : plainFor yy5 = true := by decide +kernel
theorem ef_rm17 (m : MethodId) (d : Addr) (i9 : Int32) : entryFrame m #[(.ref d), (.int i9)] 2 = (mkF m 0 #[rv d, iv i9] []) := by first | (simp [entryFrame, mkF, argsToLocals, Value.category]; done) | rfl
def Q17 (Z : State) (c9 : Int32) (h0 : Heap) (n0 : Nat) (v_ : Option Value) (h_ : Heap) (L_ : List Loc) : Prop := (v_ = some (.int c9)) ∧ (Fr n0 L_) ∧ (h_ = h0)
theorem rm17 (l : Launch) (Z : State) (a0 : Array Value) (hw : own_T a0 Z) (d : Addr) (i9 : Int32) (kd : ClassId) (z1 : Int32) (vs1 : List Value) (c9 : Int32) (h0 : Heap) (n0 : Nat) (Z0 : n0 ≤ h0.size) (p_0 : Arv Z h0 d kd .byte z1 vs1 (.int (0 : Int32))) (h1 : ¬ i9 < (0 : Int32)) (h2 : i9 < z1) (hv : vs1.getD (i9).toNatClampNeg (.int (0 : Int32)) = .int (own_by c9)) (hi : own_in c9) :
    own_Met l yy5 jdk_43_method_44_code 2 (some .char) [] rRrm17 Z h0 #[(.ref d), (.int i9)] (Q17 Z c9 h0 n0) := by
  refine own_openN pn_17 (own := "java/lang/StringLatin1") rfl ?_
  intro p e s m below meth c s₁ hx hby hlk hml hret hZ hown hnm X0 e0
  have N0 := Fr.nil n0
  rw [ef_rm17 m d i9]
  show own_Goes p e below s (Q17 Z c9 h0 n0) rRrm17.cells rRrm17.slots s₁ (mkF m 0 #[rv d, iv i9] [])
  refine own_st (fun _ kk_ => XS.aloadN X0.here hx rfl (hb hby d17_0) rfl rfl (XS.iloadN X0.here hx rfl (hb hby d17_1) rfl kk_)) ?_
  show gN s₁ (mkF m 2 #[rv d, iv i9] [(.int i9), (.ref d)])
  obtain ⟨cl1, Ar1, q1, Sz1, Nn1, Hh1, Gg1⟩ := id p_0
  refine own_st (fun _ kk_ => X0.baloadBytes hx (j := i9) (v := (.int (own_by c9))) (by rw [e0]; exact Ar1.1) (State.isArrayOf_alike hZ.alike Ar1.2.1) Ar1.2.2 (inb_of Sz1 ⟨h1, h2⟩) (Hh1.at (inb_of Sz1 ⟨h1, h2⟩) hv) (g := (mkF m 2 #[rv d, iv i9] [(.int i9), (.ref d)])) rfl rfl (hb hby d17_2) _ kk_) ?_
  show gN s₁ (mkF m 3 #[rv d, iv i9] [(.int (own_by c9))])
  refine own_st (fun _ kk_ => XS.sipush X0.here hx rfl (hb hby d17_3) (XS.iand X0.here hx rfl (hb hby d17_6) rfl (XS.i2c X0.here hx rfl (hb hby d17_7) rfl kk_))) ?_
  show gN s₁ (mkF m 8 #[rv d, iv i9] [(.int (((own_by c9) &&& (255 : Int32)).toUInt32.toUInt16.toUInt32.toInt32))])
  refine own_retN X0 hx hlk (t := .char) hret (by simp) (hb hby d17_8) (by decide) (by decide) ?_
  show Q17 Z c9 h0 n0 (some (.int (nar .char (((own_by c9) &&& (255 : Int32)).toUInt32.toUInt16.toUInt32.toInt32)))) s₁.heap _
  rw [e0]
  exact ⟨by exact congrArg (fun z => some (Value.int z)) (own_gc hi), N0, rfl⟩
abbrev rRrm19 : Room := { frames := 0, cells := 0, slots := 0, locals := 0 }
abbrev c19 (n : Nat) (i : ClassFile.Instr) (k : Nat) : Prop := decode jdk_116_method_1_code n = .ok (i, k)
theorem d19_0 : c19 0 (.iload_n 1) 1 := by decide +kernel
theorem d19_1 : c19 1 (.i2c) 1 := by decide +kernel
theorem d19_2 : c19 2 (.istore_n 2) 1 := by decide +kernel
theorem d19_3 : c19 3 (.getstatic 1) 3 := by decide +kernel
theorem d19_6 : c19 6 (.iload_n 2) 1 := by decide +kernel
theorem d19_7 : c19 7 (.iaload) 1 := by decide +kernel
theorem d19_8 : c19 8 (.istore_n 3) 1 := by decide +kernel
theorem d19_9 : c19 9 (.iload_n 3) 1 := by decide +kernel
theorem d19_10 : c19 10 (.ireturn) 1 := by decide +kernel
theorem pn_19 : plainFor yy6 = true := by decide +kernel
theorem ef_rm19 (m : MethodId) (ci : Addr) (c9 : Int32) : entryFrame m #[(.ref ci), (.int c9)] 4 = (mkF m 0 #[rv ci, iv c9, oU, oU] []) := by first | (simp [entryFrame, mkF, argsToLocals, Value.category]; done) | rfl
def Q19 (Z : State) (c9 : Int32) (h0 : Heap) (n0 : Nat) (v_ : Option Value) (h_ : Heap) (L_ : List Loc) : Prop := (v_ = some (.int (own_Ai.getD c9.toNatClampNeg 0))) ∧ (Fr n0 L_) ∧ (h_ = h0)
theorem rm19 (l : Launch) (Z : State) (a0 : Array Value) (hw : own_T a0 Z) (ci : Addr) (c9 : Int32) (ca : Addr) (ka : ClassId) (h0 : Heap) (n0 : Nat) (Z0 : n0 ≤ h0.size) (p_0 : Exa Z h0 ci "java/lang/CharacterDataLatin1") (p_1 : Sta Z h0 "java/lang/CharacterDataLatin1" "A" "[I" (.ref ca)) (p_2 : Arv Z h0 ca ka .int (256 : Int32) own_A (.int (0 : Int32))) (hi : own_in c9) :
    own_Met l yy6 jdk_116_method_1_code 4 (some .int) [] rRrm19 Z h0 #[(.ref ci), (.int c9)] (Q19 Z c9 h0 n0) := by
  refine own_openN pn_19 (own := "java/lang/CharacterDataLatin1") rfl ?_
  intro p e s m below meth c s₁ hx hby hlk hml hret hZ hown hnm X0 e0
  have N0 := Fr.nil n0
  rw [ef_rm19 m ci c9]
  show own_Goes p e below s (Q19 Z c9 h0 n0) rRrm19.cells rRrm19.slots s₁ (mkF m 0 #[rv ci, iv c9, oU, oU] [])
  refine own_st (fun _ kk_ => XS.iloadN X0.here hx rfl (hb hby d19_0) rfl (XS.i2c X0.here hx rfl (hb hby d19_1) rfl kk_)) ?_
  show gN s₁ (mkF m 2 #[rv ci, iv c9, oU, oU] [(.int (c9.toUInt32.toUInt16.toUInt32.toInt32))])
  rw [own_ic hi]
  show gN s₁ (mkF m 2 #[rv ci, iv c9, oU, oU] [(.int c9)])
  refine own_st (fun _ kk_ => XS.istoreN X0.here hx rfl (hb hby d19_2) rfl (l' := #[rv ci, iv c9, iv c9, oU]) rfl kk_) ?_
  show gN s₁ (mkF m 3 #[rv ci, iv c9, iv c9, oU] [])
  obtain ⟨T1, X1, e1, st1⟩ := getS2 X0 hx hZ hown (host := "") (Or.inl (own_w hw 92 rfl)) Via.refl e0 p_1 (g := (mkF m 3 #[rv ci, iv c9, iv c9, oU] [])) rfl (hb hby d19_3)
  refine own_st st1 ?_
  refine own_st (fun _ kk_ => XS.iloadN X1.here hx rfl (hb hby d19_6) rfl kk_) ?_
  show gN T1 (mkF m 7 #[rv ci, iv c9, iv c9, oU] [(.int c9), (.ref ca)])
  obtain ⟨cl2, Ar2, q2, Sz2, Nn2, Hh2, Gg2⟩ := id p_2
  refine own_st (fun _ kk_ => X1.iaload hx (j := c9) (v := (.int (own_Ai.getD c9.toNatClampNeg 0))) (by rw [e1]; exact Ar2.1) (State.isArrayOf_alike hZ.alike Ar2.2.1) Ar2.2.2 (inb_of Sz2 ⟨(own_tc hi).2.1, (own_tc hi).2.2.1⟩) (Hh2.at (inb_of Sz2 ⟨(own_tc hi).2.1, (own_tc hi).2.2.1⟩) (own_Aat _)) (g := (mkF m 7 #[rv ci, iv c9, iv c9, oU] [(.int c9), (.ref ca)])) rfl rfl (hb hby d19_7) _ kk_) ?_
  show gN T1 (mkF m 8 #[rv ci, iv c9, iv c9, oU] [(.int (own_Ai.getD c9.toNatClampNeg 0))])
  refine own_st (fun _ kk_ => XS.istoreN X1.here hx rfl (hb hby d19_8) rfl (l' := #[rv ci, iv c9, iv c9, iv (own_Ai.getD c9.toNatClampNeg 0)]) rfl (XS.iloadN X1.here hx rfl (hb hby d19_9) rfl kk_)) ?_
  show gN T1 (mkF m 10 #[rv ci, iv c9, iv c9, iv (own_Ai.getD c9.toNatClampNeg 0)] [(.int (own_Ai.getD c9.toNatClampNeg 0))])
  refine own_retI X1 hx hlk hret (hb hby d19_10) (by decide) (by decide) ?_
  show Q19 Z c9 h0 n0 (some (.int (own_Ai.getD c9.toNatClampNeg 0))) T1.heap _
  rw [e1]
  exact ⟨rfl, N0, rfl⟩
abbrev rRrm18 : Room := { frames := 1, cells := 0, slots := 0, locals := 15 }
abbrev c18 (n : Nat) (i : ClassFile.Instr) (k : Nat) : Prop := decode jdk_116_method_26_code n = .ok (i, k)
theorem d18_0 : c18 0 (.aload_n 0) 1 := by decide +kernel
theorem d18_1 : c18 1 (.iload_n 1) 1 := by decide +kernel
theorem d18_2 : c18 2 (.invokevirtual 15) 3 := by decide +kernel
theorem d18_5 : c18 5 (.istore_n 2) 1 := by decide +kernel
theorem d18_6 : c18 6 (.iload_n 2) 1 := by decide +kernel
theorem d18_7 : c18 7 (.sipush 28672) 3 := by decide +kernel
theorem d18_10 : c18 10 (.iand) 1 := by decide +kernel
theorem d18_11 : c18 11 (.sipush 16384) 3 := by decide +kernel
theorem d18_14 : c18 14 (.if_icmp .ne 7) 3 := by decide +kernel
theorem d18_21 : c18 21 (.iconst 0) 1 := by decide +kernel
theorem d18_22 : c18 22 (.ireturn) 1 := by decide +kernel
theorem pd_1 : parseMethodDescriptor "(I)I" = some ⟨[.int], some .int⟩ := by decide +kernel
theorem pn_18 : plainFor yy7 = true := by decide +kernel
theorem ef_rm18 (m : MethodId) (ci : Addr) (c9 : Int32) : entryFrame m #[(.ref ci), (.int c9)] 3 = (mkF m 0 #[rv ci, iv c9, oU] []) := by first | (simp [entryFrame, mkF, argsToLocals, Value.category]; done) | rfl
def Q18 (Z : State) (h0 : Heap) (n0 : Nat) (v_ : Option Value) (h_ : Heap) (L_ : List Loc) : Prop := (v_ = some (.int (0 : Int32))) ∧ (Fr n0 L_) ∧ (h_ = h0)
theorem rm18 (l : Launch) (Z : State) (a0 : Array Value) (hw : own_T a0 Z) (ci : Addr) (c9 : Int32) (ca : Addr) (ka : ClassId) (h0 : Heap) (n0 : Nat) (Z0 : n0 ≤ h0.size) (p_0 : Exa Z h0 ci "java/lang/CharacterDataLatin1") (p_1 : Sta Z h0 "java/lang/CharacterDataLatin1" "A" "[I" (.ref ca)) (p_2 : Arv Z h0 ca ka .int (256 : Int32) own_A (.int (0 : Int32))) (he : own_ec c9) :
    own_Met l yy7 jdk_116_method_26_code 3 (some .boolean) [] rRrm18 Z h0 #[(.ref ci), (.int c9)] (Q18 Z h0 n0) := by
  refine own_openN pn_18 (own := "java/lang/CharacterDataLatin1") rfl ?_
  intro p e s m below meth c s₁ hx hby hlk hml hret hZ hown hnm X0 e0
  have N0 := Fr.nil n0
  rw [ef_rm18 m ci c9]
  show own_Goes p e below s (Q18 Z h0 n0) rRrm18.cells rRrm18.slots s₁ (mkF m 0 #[rv ci, iv c9, oU] [])
  refine own_st (fun _ kk_ => XS.aloadN X0.here hx rfl (hb hby d18_0) rfl rfl (XS.iloadN X0.here hx rfl (hb hby d18_1) rfl kk_)) ?_
  show gN s₁ (mkF m 2 #[rv ci, iv c9, oU] [(.int c9), (.ref ci)])
  obtain ⟨cq1, kq1, q1a, q1b, q1c⟩ := isOf hZ e0 p_0
  obtain ⟨T1, L1, v1, X1, hQ1, st1⟩ := own_cut (X0.virtualBack hx (y := yy6) (z := yy6) hown (own_mw hZ hw 87 rfl) (own_mw hZ hw 88 rfl) (notFace_of_selects (args := #[]) (own_mw hZ hw 90 rfl)) (own_mw hZ hw 90 rfl) (own_mw hZ hw 89 rfl) (by decide) (backOf (W := 0) (rm19 l Z a0 hw (ci) (c9) (ca) (ka) h0 n0 Z0 p_0 p_1 p_2 he.m.i) hZ (own_w hw 91 rfl) (own_w hw 81 rfl) (by decide) (by decide)) q1a q1c (g := (mkF m 2 #[rv ci, iv c9, oU] [(.int c9), (.ref ci)])) rfl (by rw [hml]; rfl) (Steps.refl _) (argsL := [(.int c9)]) (rest := []) (lenOf pd_1 rfl) rfl (own_bl rfl) (hb hby d18_2) (fun _ _ => ⟨rfl, e0, own_bl rfl, own_bl rfl⟩))
  obtain ⟨rfl, Nq1, eq1⟩ := hQ1
  have N1 := Fr.app N0 Nq1
  refine own_sTN st1 ?_
  refine own_st (fun _ kk_ => XS.istoreN X1.here hx rfl (hb hby d18_5) rfl (l' := #[rv ci, iv c9, iv (own_Ai.getD c9.toNatClampNeg 0)]) rfl (XS.iloadN X1.here hx rfl (hb hby d18_6) rfl (XS.sipush X1.here hx rfl (hb hby d18_7) (XS.iand X1.here hx rfl (hb hby d18_10) rfl (XS.sipush X1.here hx rfl (hb hby d18_11) (XS.icmpYes X1.here hx rfl (pc0 := 14) (pc' := 21) rfl (hb hby d18_14) rfl (XT.ii_ne_t (own_nw he)) (by decide) (by decide) (XS.iconst X1.here hx rfl (hb hby d18_21) kk_))))))) ?_
  show gN T1 (mkF m 22 #[rv ci, iv c9, iv (own_Ai.getD c9.toNatClampNeg 0)] [(.int (0 : Int32))])
  refine own_retN X1 hx hlk (t := .boolean) hret (by simp) (hb hby d18_22) (by decide) (by decide) ?_
  show Q18 Z h0 n0 (some (.int (nar .boolean (0 : Int32)))) T1.heap _
  rw [eq1]
  exact ⟨rfl, N1, rfl⟩
theorem own_z1 {z : Int32} (h : (0 : Int32) < z) : ¬ z - 1 < (0 : Int32) ∧ z - 1 < z := by
  have q := c_isub z 1; have r := z.toInt_lt; simp only [Int32.lt_iff_toInt_lt, Int32.reduceToInt] at h q ⊢; have := (z - 1).le_toInt; have := (z - 1).toInt_lt; omega
abbrev rRrm16 : Room := { frames := 2, cells := 0, slots := 0, locals := 29 }
abbrev c16 (n : Nat) (i : ClassFile.Instr) (k : Nat) : Prop := decode jdk_43_method_37_code n = .ok (i, k)
theorem d16_0 : c16 0 (.aload_n 0) 1 := by decide +kernel
theorem d16_1 : c16 1 (.arraylength) 1 := by decide +kernel
theorem d16_2 : c16 2 (.istore_n 1) 1 := by decide +kernel
theorem d16_3 : c16 3 (.iconst 0) 1 := by decide +kernel
theorem d16_4 : c16 4 (.istore_n 2) 1 := by decide +kernel
theorem d16_5 : c16 5 (.iload_n 2) 1 := by decide +kernel
theorem d16_6 : c16 6 (.iload_n 1) 1 := by decide +kernel
theorem d16_7 : c16 7 (.if_icmp .ge 40) 3 := by decide +kernel
theorem d16_10 : c16 10 (.aload_n 0) 1 := by decide +kernel
theorem d16_11 : c16 11 (.iload_n 2) 1 := by decide +kernel
theorem d16_12 : c16 12 (.invokestatic 50) 3 := by decide +kernel
theorem d16_15 : c16 15 (.istore_n 3) 1 := by decide +kernel
theorem d16_16 : c16 16 (.iload_n 3) 1 := by decide +kernel
theorem d16_17 : c16 17 (.bipush 32) 2 := by decide +kernel
theorem d16_19 : c16 19 (.if_icmp .eq 22) 3 := by decide +kernel
theorem d16_22 : c16 22 (.iload_n 3) 1 := by decide +kernel
theorem d16_23 : c16 23 (.bipush 9) 2 := by decide +kernel
theorem d16_25 : c16 25 (.if_icmp .eq 16) 3 := by decide +kernel
theorem d16_28 : c16 28 (.getstatic 66) 3 := by decide +kernel
theorem d16_31 : c16 31 (.iload_n 3) 1 := by decide +kernel
theorem d16_32 : c16 32 (.invokevirtual 211) 3 := by decide +kernel
theorem d16_35 : c16 35 (.ifCond .ne 6) 3 := by decide +kernel
theorem d16_38 : c16 38 (.goto 9) 3 := by decide +kernel
theorem d16_47 : c16 47 (.iload_n 2) 1 := by decide +kernel
theorem d16_48 : c16 48 (.ireturn) 1 := by decide +kernel
theorem pd_2 : parseMethodDescriptor "([BI)C" = some ⟨[(.array .byte), .int], some .char⟩ := by decide +kernel
theorem pd_3 : parseMethodDescriptor "(I)Z" = some ⟨[.int], some .boolean⟩ := by decide +kernel
theorem pn_16 : plainFor yy8 = true := by decide +kernel
theorem ef_rm16 (m : MethodId) (d : Addr) : entryFrame m #[(.ref d)] 4 = (mkF m 0 #[rv d, oU, oU, oU] []) := by first | (simp [entryFrame, mkF, argsToLocals, Value.category]; done) | rfl
def Q16 (Z : State) (h0 : Heap) (n0 : Nat) (v_ : Option Value) (h_ : Heap) (L_ : List Loc) : Prop := (v_ = some (.int (0 : Int32))) ∧ (Fr n0 L_) ∧ (h_ = h0)
theorem rm16 (l : Launch) (Z : State) (a0 : Array Value) (hw : own_T a0 Z) (d : Addr) (kd : ClassId) (z1 : Int32) (vs1 : List Value) (ci : Addr) (ca : Addr) (ka : ClassId) (c9 : Int32) (h0 : Heap) (n0 : Nat) (Z0 : n0 ≤ h0.size) (p_0 : Arv Z h0 d kd .byte z1 vs1 (.int (0 : Int32))) (p_1 : Sta Z h0 "java/lang/CharacterDataLatin1" "instance" "Ljava/lang/CharacterDataLatin1;" (.ref ci)) (p_2 : Exa Z h0 ci "java/lang/CharacterDataLatin1") (p_3 : Sta Z h0 "java/lang/CharacterDataLatin1" "A" "[I" (.ref ca)) (p_4 : Arv Z h0 ca ka .int (256 : Int32) own_A (.int (0 : Int32))) (hp0 : (0 : Int32) < z1) (hv : vs1.getD ((0 : Int32)).toNatClampNeg (.int (0 : Int32)) = .int (own_by c9)) (he : own_ec c9) :
    own_Met l yy8 jdk_43_method_37_code 4 (some .int) [] rRrm16 Z h0 #[(.ref d)] (Q16 Z h0 n0) := by
  refine own_openN pn_16 (own := "java/lang/StringLatin1") rfl ?_
  intro p e s m below meth c s₁ hx hby hlk hml hret hZ hown hnm X0 e0
  have N0 := Fr.nil n0
  rw [ef_rm16 m d]
  show own_Goes p e below s (Q16 Z h0 n0) rRrm16.cells rRrm16.slots s₁ (mkF m 0 #[rv d, oU, oU, oU] [])
  refine own_st (fun _ kk_ => XS.aloadN X0.here hx rfl (hb hby d16_0) rfl rfl kk_) ?_
  show gN s₁ (mkF m 1 #[rv d, oU, oU, oU] [(.ref d)])
  obtain ⟨cl1, Ar1, -, Sz1, Nn1, -, -⟩ := id p_0
  refine own_st (fun _ kk_ => X0.arraylength hx (by rw [e0]; exact Ar1.1) (State.isArrayOf_alike hZ.alike Ar1.2.1) (g := (mkF m 1 #[rv d, oU, oU, oU] [(.ref d)])) rfl rfl (hb hby d16_1) _ kk_) ?_
  rw [len_of Sz1 Nn1]
  show gN s₁ (mkF m 2 #[rv d, oU, oU, oU] [(.int z1)])
  refine own_st (fun _ kk_ => XS.istoreN X0.here hx rfl (hb hby d16_2) rfl (l' := #[rv d, iv z1, oU, oU]) rfl (XS.iconst X0.here hx rfl (hb hby d16_3) (XS.istoreN X0.here hx rfl (hb hby d16_4) rfl (l' := #[rv d, iv z1, iv (0 : Int32), oU]) rfl (XS.iloadN X0.here hx rfl (hb hby d16_5) rfl (XS.iloadN X0.here hx rfl (hb hby d16_6) rfl (XS.icmpNo X0.here hx rfl (hb hby d16_7) rfl (XT.ii_ge_f hp0) (XS.aloadN X0.here hx rfl (hb hby d16_10) rfl rfl (XS.iloadN X0.here hx rfl (hb hby d16_11) rfl kk_)))))))) ?_
  show gN s₁ (mkF m 12 #[rv d, iv z1, iv (0 : Int32), oU] [(.int (0 : Int32)), (.ref d)])
  obtain ⟨T2, L2, v2, X2, hQ2, st2⟩ := own_cutA (Jvm.LawKit.callS X0 hx (y := yy5) hown (own_mw hZ hw 77 rfl) (own_mw hZ hw 78 rfl) (own_mw hZ hw 17 rfl) (own_mw hZ hw 79 rfl) (by decide) (backOf (W := 0) (rm17 l Z a0 hw (d) ((0 : Int32)) (kd) (z1) (vs1) (c9) h0 n0 Z0 p_0 (by decide) hp0 hv he.m.i) hZ (own_w hw 79 rfl) (own_w hw 17 rfl) (by decide) (by decide)) (g := (mkF m 12 #[rv d, iv z1, iv (0 : Int32), oU] [(.int (0 : Int32)), (.ref d)])) rfl (by rw [hml]; rfl) (argsL := [(.ref d), (.int (0 : Int32))]) (rest := []) (lenOf pd_2 rfl) rfl (own_bl rfl) (hb hby d16_12) (fun _ _ => ⟨rfl, e0, own_bl rfl, own_bl rfl⟩))
  obtain ⟨rfl, Nq2, eq2⟩ := hQ2
  have N2 := Fr.app N0 Nq2
  refine own_st st2 ?_
  refine own_st (fun _ kk_ => XS.istoreN X2.here hx rfl (hb hby d16_15) rfl (l' := #[rv d, iv z1, iv (0 : Int32), iv c9]) rfl (XS.iloadN X2.here hx rfl (hb hby d16_16) rfl (XS.bipush X2.here hx rfl (hb hby d16_17) (XS.icmpNo X2.here hx rfl (hb hby d16_19) rfl (XT.ii_eq_f (own_ne he (by decide))) (XS.iloadN X2.here hx rfl (hb hby d16_22) rfl (XS.bipush X2.here hx rfl (hb hby d16_23) (XS.icmpNo X2.here hx rfl (hb hby d16_25) rfl (XT.ii_eq_f (own_ne he (by decide))) kk_))))))) ?_
  show gN T2 (mkF m 28 #[rv d, iv z1, iv (0 : Int32), iv c9] [])
  obtain ⟨T3, X3, e3, st3⟩ := getS2 X2 hx hZ hown (host := "") (Or.inl (own_w hw 80 rfl)) Via.refl eq2 p_1 (g := (mkF m 28 #[rv d, iv z1, iv (0 : Int32), iv c9] [])) rfl (hb hby d16_28)
  refine own_st st3 ?_
  refine own_st (fun _ kk_ => XS.iloadN X3.here hx rfl (hb hby d16_31) rfl kk_) ?_
  show gN T3 (mkF m 32 #[rv d, iv z1, iv (0 : Int32), iv c9] [(.int c9), (.ref ci)])
  obtain ⟨cq4, kq4, q4a, q4b, q4c⟩ := isOf hZ e3 p_2
  obtain ⟨T4, L4, v4, X4, hQ4, st4⟩ := own_cut (X3.virtualBack hx (y := yy7) (z := yy7) hown (own_mw hZ hw 82 rfl) (own_mw hZ hw 83 rfl) (notFace_of_selects (args := #[]) (own_mw hZ hw 85 rfl)) (own_mw hZ hw 85 rfl) (own_mw hZ hw 84 rfl) (by decide) (backOf (W := 0) (rm18 l Z a0 hw (ci) (c9) (ca) (ka) h0 n0 Z0 p_2 p_3 p_4 he) hZ (own_w hw 86 rfl) (own_w hw 81 rfl) (by decide) (by decide)) q4a q4c (g := (mkF m 32 #[rv d, iv z1, iv (0 : Int32), iv c9] [(.int c9), (.ref ci)])) rfl (by rw [hml]; rfl) (Steps.refl _) (argsL := [(.int c9)]) (rest := []) (lenOf pd_3 rfl) rfl (own_bl rfl) (hb hby d16_32) (fun _ _ => ⟨rfl, e3, own_bl rfl, own_bl rfl⟩))
  obtain ⟨rfl, Nq4, eq4⟩ := hQ4
  have N4 := Fr.app N2 Nq4
  refine own_sTN st4 ?_
  refine own_st (fun _ kk_ => XS.ifNo X4.here hx rfl (hb hby d16_35) rfl (XT.i0_ne_f (by decide)) (XS.goto X4.here hx rfl (pc0 := 38) (pc' := 47) rfl (hb hby d16_38) (by decide) (by decide) (XS.iloadN X4.here hx rfl (hb hby d16_47) rfl kk_))) ?_
  show gN T4 (mkF m 48 #[rv d, iv z1, iv (0 : Int32), iv c9] [(.int (0 : Int32))])
  refine own_retI X4 hx hlk hret (hb hby d16_48) (by decide) (by decide) ?_
  show Q16 Z h0 n0 (some (.int (0 : Int32))) T4.heap _
  rw [eq4]
  exact ⟨rfl, N4, rfl⟩
abbrev rRrm20 : Room := { frames := 2, cells := 0, slots := 0, locals := 29 }
abbrev c20 (n : Nat) (i : ClassFile.Instr) (k : Nat) : Prop := decode jdk_43_method_38_code n = .ok (i, k)
theorem d20_0 : c20 0 (.aload_n 0) 1 := by decide +kernel
theorem d20_1 : c20 1 (.arraylength) 1 := by decide +kernel
theorem d20_2 : c20 2 (.istore_n 1) 1 := by decide +kernel
theorem d20_3 : c20 3 (.iload_n 1) 1 := by decide +kernel
theorem d20_4 : c20 4 (.istore_n 2) 1 := by decide +kernel
theorem d20_5 : c20 5 (.iconst 0) 1 := by decide +kernel
theorem d20_6 : c20 6 (.iload_n 2) 1 := by decide +kernel
theorem d20_7 : c20 7 (.if_icmp .ge 42) 3 := by decide +kernel
theorem d20_10 : c20 10 (.aload_n 0) 1 := by decide +kernel
theorem d20_11 : c20 11 (.iload_n 2) 1 := by decide +kernel
theorem d20_12 : c20 12 (.iconst 1) 1 := by decide +kernel
theorem d20_13 : c20 13 (.isub) 1 := by decide +kernel
theorem d20_14 : c20 14 (.invokestatic 50) 3 := by decide +kernel
theorem d20_17 : c20 17 (.istore_n 3) 1 := by decide +kernel
theorem d20_18 : c20 18 (.iload_n 3) 1 := by decide +kernel
theorem d20_19 : c20 19 (.bipush 32) 2 := by decide +kernel
theorem d20_21 : c20 21 (.if_icmp .eq 22) 3 := by decide +kernel
theorem d20_24 : c20 24 (.iload_n 3) 1 := by decide +kernel
theorem d20_25 : c20 25 (.bipush 9) 2 := by decide +kernel
theorem d20_27 : c20 27 (.if_icmp .eq 16) 3 := by decide +kernel
theorem d20_30 : c20 30 (.getstatic 66) 3 := by decide +kernel
theorem d20_33 : c20 33 (.iload_n 3) 1 := by decide +kernel
theorem d20_34 : c20 34 (.invokevirtual 211) 3 := by decide +kernel
theorem d20_37 : c20 37 (.ifCond .ne 6) 3 := by decide +kernel
theorem d20_40 : c20 40 (.goto 9) 3 := by decide +kernel
theorem d20_49 : c20 49 (.iload_n 2) 1 := by decide +kernel
theorem d20_50 : c20 50 (.ireturn) 1 := by decide +kernel
theorem pn_20 : plainFor yy9 = true := by decide +kernel
theorem ef_rm20 (m : MethodId) (d : Addr) : entryFrame m #[(.ref d)] 4 = (mkF m 0 #[rv d, oU, oU, oU] []) := by first | (simp [entryFrame, mkF, argsToLocals, Value.category]; done) | rfl
def Q20 (Z : State) (z1 : Int32) (h0 : Heap) (n0 : Nat) (v_ : Option Value) (h_ : Heap) (L_ : List Loc) : Prop := (v_ = some (.int z1)) ∧ (Fr n0 L_) ∧ (h_ = h0)
theorem rm20 (l : Launch) (Z : State) (a0 : Array Value) (hw : own_T a0 Z) (d : Addr) (kd : ClassId) (z1 : Int32) (vs1 : List Value) (ci : Addr) (ca : Addr) (ka : ClassId) (c9 : Int32) (h0 : Heap) (n0 : Nat) (Z0 : n0 ≤ h0.size) (p_0 : Arv Z h0 d kd .byte z1 vs1 (.int (0 : Int32))) (p_1 : Sta Z h0 "java/lang/CharacterDataLatin1" "instance" "Ljava/lang/CharacterDataLatin1;" (.ref ci)) (p_2 : Exa Z h0 ci "java/lang/CharacterDataLatin1") (p_3 : Sta Z h0 "java/lang/CharacterDataLatin1" "A" "[I" (.ref ca)) (p_4 : Arv Z h0 ca ka .int (256 : Int32) own_A (.int (0 : Int32))) (hp0 : (0 : Int32) < z1) (hv : vs1.getD ((z1 - (1 : Int32))).toNatClampNeg (.int (0 : Int32)) = .int (own_by c9)) (he : own_ec c9) :
    own_Met l yy9 jdk_43_method_38_code 4 (some .int) [] rRrm20 Z h0 #[(.ref d)] (Q20 Z z1 h0 n0) := by
  refine own_openN pn_20 (own := "java/lang/StringLatin1") rfl ?_
  intro p e s m below meth c s₁ hx hby hlk hml hret hZ hown hnm X0 e0
  have N0 := Fr.nil n0
  rw [ef_rm20 m d]
  show own_Goes p e below s (Q20 Z z1 h0 n0) rRrm20.cells rRrm20.slots s₁ (mkF m 0 #[rv d, oU, oU, oU] [])
  refine own_st (fun _ kk_ => XS.aloadN X0.here hx rfl (hb hby d20_0) rfl rfl kk_) ?_
  show gN s₁ (mkF m 1 #[rv d, oU, oU, oU] [(.ref d)])
  obtain ⟨cl1, Ar1, -, Sz1, Nn1, -, -⟩ := id p_0
  refine own_st (fun _ kk_ => X0.arraylength hx (by rw [e0]; exact Ar1.1) (State.isArrayOf_alike hZ.alike Ar1.2.1) (g := (mkF m 1 #[rv d, oU, oU, oU] [(.ref d)])) rfl rfl (hb hby d20_1) _ kk_) ?_
  rw [len_of Sz1 Nn1]
  show gN s₁ (mkF m 2 #[rv d, oU, oU, oU] [(.int z1)])
  refine own_st (fun _ kk_ => XS.istoreN X0.here hx rfl (hb hby d20_2) rfl (l' := #[rv d, iv z1, oU, oU]) rfl (XS.iloadN X0.here hx rfl (hb hby d20_3) rfl (XS.istoreN X0.here hx rfl (hb hby d20_4) rfl (l' := #[rv d, iv z1, iv z1, oU]) rfl (XS.iconst X0.here hx rfl (hb hby d20_5) (XS.iloadN X0.here hx rfl (hb hby d20_6) rfl (XS.icmpNo X0.here hx rfl (hb hby d20_7) rfl (XT.ii_ge_f hp0) (XS.aloadN X0.here hx rfl (hb hby d20_10) rfl rfl (XS.iloadN X0.here hx rfl (hb hby d20_11) rfl (XS.iconst X0.here hx rfl (hb hby d20_12) (XS.isub X0.here hx rfl (hb hby d20_13) rfl kk_)))))))))) ?_
  show gN s₁ (mkF m 14 #[rv d, iv z1, iv z1, oU] [(.int (z1 - (1 : Int32))), (.ref d)])
  obtain ⟨T2, L2, v2, X2, hQ2, st2⟩ := own_cutA (Jvm.LawKit.callS X0 hx (y := yy5) hown (own_mw hZ hw 77 rfl) (own_mw hZ hw 78 rfl) (own_mw hZ hw 17 rfl) (own_mw hZ hw 79 rfl) (by decide) (backOf (W := 0) (rm17 l Z a0 hw (d) ((z1 - (1 : Int32))) (kd) (z1) (vs1) (c9) h0 n0 Z0 p_0 (own_z1 hp0).1 (own_z1 hp0).2 hv he.m.i) hZ (own_w hw 79 rfl) (own_w hw 17 rfl) (by decide) (by decide)) (g := (mkF m 14 #[rv d, iv z1, iv z1, oU] [(.int (z1 - (1 : Int32))), (.ref d)])) rfl (by rw [hml]; rfl) (argsL := [(.ref d), (.int (z1 - (1 : Int32)))]) (rest := []) (lenOf pd_2 rfl) rfl (own_bl rfl) (hb hby d20_14) (fun _ _ => ⟨rfl, e0, own_bl rfl, own_bl rfl⟩))
  obtain ⟨rfl, Nq2, eq2⟩ := hQ2
  have N2 := Fr.app N0 Nq2
  refine own_st st2 ?_
  refine own_st (fun _ kk_ => XS.istoreN X2.here hx rfl (hb hby d20_17) rfl (l' := #[rv d, iv z1, iv z1, iv c9]) rfl (XS.iloadN X2.here hx rfl (hb hby d20_18) rfl (XS.bipush X2.here hx rfl (hb hby d20_19) (XS.icmpNo X2.here hx rfl (hb hby d20_21) rfl (XT.ii_eq_f (own_ne he (by decide))) (XS.iloadN X2.here hx rfl (hb hby d20_24) rfl (XS.bipush X2.here hx rfl (hb hby d20_25) (XS.icmpNo X2.here hx rfl (hb hby d20_27) rfl (XT.ii_eq_f (own_ne he (by decide))) kk_))))))) ?_
  show gN T2 (mkF m 30 #[rv d, iv z1, iv z1, iv c9] [])
  obtain ⟨T3, X3, e3, st3⟩ := getS2 X2 hx hZ hown (host := "") (Or.inl (own_w hw 80 rfl)) Via.refl eq2 p_1 (g := (mkF m 30 #[rv d, iv z1, iv z1, iv c9] [])) rfl (hb hby d20_30)
  refine own_st st3 ?_
  refine own_st (fun _ kk_ => XS.iloadN X3.here hx rfl (hb hby d20_33) rfl kk_) ?_
  show gN T3 (mkF m 34 #[rv d, iv z1, iv z1, iv c9] [(.int c9), (.ref ci)])
  obtain ⟨cq4, kq4, q4a, q4b, q4c⟩ := isOf hZ e3 p_2
  obtain ⟨T4, L4, v4, X4, hQ4, st4⟩ := own_cut (X3.virtualBack hx (y := yy7) (z := yy7) hown (own_mw hZ hw 82 rfl) (own_mw hZ hw 83 rfl) (notFace_of_selects (args := #[]) (own_mw hZ hw 85 rfl)) (own_mw hZ hw 85 rfl) (own_mw hZ hw 84 rfl) (by decide) (backOf (W := 0) (rm18 l Z a0 hw (ci) (c9) (ca) (ka) h0 n0 Z0 p_2 p_3 p_4 he) hZ (own_w hw 86 rfl) (own_w hw 81 rfl) (by decide) (by decide)) q4a q4c (g := (mkF m 34 #[rv d, iv z1, iv z1, iv c9] [(.int c9), (.ref ci)])) rfl (by rw [hml]; rfl) (Steps.refl _) (argsL := [(.int c9)]) (rest := []) (lenOf pd_3 rfl) rfl (own_bl rfl) (hb hby d20_34) (fun _ _ => ⟨rfl, e3, own_bl rfl, own_bl rfl⟩))
  obtain ⟨rfl, Nq4, eq4⟩ := hQ4
  have N4 := Fr.app N2 Nq4
  refine own_sTN st4 ?_
  refine own_st (fun _ kk_ => XS.ifNo X4.here hx rfl (hb hby d20_37) rfl (XT.i0_ne_f (by decide)) (XS.goto X4.here hx rfl (pc0 := 40) (pc' := 49) rfl (hb hby d20_40) (by decide) (by decide) (XS.iloadN X4.here hx rfl (hb hby d20_49) rfl kk_))) ?_
  show gN T4 (mkF m 50 #[rv d, iv z1, iv z1, iv c9] [(.int z1)])
  refine own_retI X4 hx hlk hret (hb hby d20_50) (by decide) (by decide) ?_
  show Q20 Z z1 h0 n0 (some (.int z1)) T4.heap _
  rw [eq4]
  exact ⟨rfl, N4, rfl⟩
abbrev rRrm15 : Room := { frames := 3, cells := 0, slots := 0, locals := 44 }
abbrev c15 (n : Nat) (i : ClassFile.Instr) (k : Nat) : Prop := decode jdk_43_method_39_code n = .ok (i, k)
theorem d15_0 : c15 0 (.aload_n 0) 1 := by decide +kernel
theorem d15_1 : c15 1 (.invokestatic 214) 3 := by decide +kernel
theorem d15_4 : c15 4 (.istore_n 1) 1 := by decide +kernel
theorem d15_5 : c15 5 (.iload_n 1) 1 := by decide +kernel
theorem d15_6 : c15 6 (.aload_n 0) 1 := by decide +kernel
theorem d15_7 : c15 7 (.arraylength) 1 := by decide +kernel
theorem d15_8 : c15 8 (.if_icmp .ne 6) 3 := by decide +kernel
theorem d15_14 : c15 14 (.aload_n 0) 1 := by decide +kernel
theorem d15_15 : c15 15 (.invokestatic 217) 3 := by decide +kernel
theorem d15_18 : c15 18 (.istore_n 2) 1 := by decide +kernel
theorem d15_19 : c15 19 (.iload_n 1) 1 := by decide +kernel
theorem d15_20 : c15 20 (.ifCond .gt 9) 3 := by decide +kernel
theorem d15_23 : c15 23 (.iload_n 2) 1 := by decide +kernel
theorem d15_24 : c15 24 (.aload_n 0) 1 := by decide +kernel
theorem d15_25 : c15 25 (.arraylength) 1 := by decide +kernel
theorem d15_26 : c15 26 (.if_icmp .ge 7) 3 := by decide +kernel
theorem d15_33 : c15 33 (.iconst 0) 1 := by decide +kernel
theorem d15_34 : c15 34 (.istore_n 3) 1 := by decide +kernel
theorem d15_35 : c15 35 (.iload_n 3) 1 := by decide +kernel
theorem d15_36 : c15 36 (.ifCond .eq 14) 3 := by decide +kernel
theorem d15_50 : c15 50 (.aconst_null) 1 := by decide +kernel
theorem d15_51 : c15 51 (.areturn) 1 := by decide +kernel
theorem pd_4 : parseMethodDescriptor "([B)I" = some ⟨[(.array .byte)], some .int⟩ := by decide +kernel
theorem pn_15 : plainFor yy10 = true := by decide +kernel
theorem ef_rm15 (m : MethodId) (d : Addr) : entryFrame m #[(.ref d)] 4 = (mkF m 0 #[rv d, oU, oU, oU] []) := by first | (simp [entryFrame, mkF, argsToLocals, Value.category]; done) | rfl
def Q15 (Z : State) (h0 : Heap) (n0 : Nat) (v_ : Option Value) (h_ : Heap) (L_ : List Loc) : Prop := (v_ = some .null) ∧ (Fr n0 L_) ∧ (h_ = h0)
theorem rm15 (l : Launch) (Z : State) (a0 : Array Value) (hw : own_T a0 Z) (d : Addr) (kd : ClassId) (z1 : Int32) (vs1 : List Value) (ci : Addr) (ca : Addr) (ka : ClassId) (c9 : Int32) (c8 : Int32) (h0 : Heap) (n0 : Nat) (Z0 : n0 ≤ h0.size) (p_0 : Arv Z h0 d kd .byte z1 vs1 (.int (0 : Int32))) (p_1 : Sta Z h0 "java/lang/CharacterDataLatin1" "instance" "Ljava/lang/CharacterDataLatin1;" (.ref ci)) (p_2 : Exa Z h0 ci "java/lang/CharacterDataLatin1") (p_3 : Sta Z h0 "java/lang/CharacterDataLatin1" "A" "[I" (.ref ca)) (p_4 : Arv Z h0 ca ka .int (256 : Int32) own_A (.int (0 : Int32))) (hp0 : (0 : Int32) < z1) (hv0 : vs1.getD (0 : Int32).toNatClampNeg (.int (0 : Int32)) = .int (own_by c9)) (he0 : own_ec c9) (hv1 : vs1.getD (z1 - (1 : Int32)).toNatClampNeg (.int (0 : Int32)) = .int (own_by c8)) (he1 : own_ec c8) :
    own_Met l yy10 jdk_43_method_39_code 4 (some (.object "java/lang/String")) [] rRrm15 Z h0 #[(.ref d)] (Q15 Z h0 n0) := by
  refine own_openN pn_15 (own := "java/lang/StringLatin1") rfl ?_
  intro p e s m below meth c s₁ hx hby hlk hml hret hZ hown hnm X0 e0
  have N0 := Fr.nil n0
  rw [ef_rm15 m d]
  show own_Goes p e below s (Q15 Z h0 n0) rRrm15.cells rRrm15.slots s₁ (mkF m 0 #[rv d, oU, oU, oU] [])
  refine own_st (fun _ kk_ => XS.aloadN X0.here hx rfl (hb hby d15_0) rfl rfl kk_) ?_
  show gN s₁ (mkF m 1 #[rv d, oU, oU, oU] [(.ref d)])
  obtain ⟨T1, L1, v1, X1, hQ1, st1⟩ := own_cutA (Jvm.LawKit.callS X0 hx (y := yy8) hown (own_mw hZ hw 74 rfl) (own_mw hZ hw 75 rfl) (own_mw hZ hw 17 rfl) (own_mw hZ hw 76 rfl) (by decide) (backOf (W := 0) (rm16 l Z a0 hw (d) (kd) (z1) (vs1) (ci) (ca) (ka) (c9) h0 n0 Z0 p_0 p_1 p_2 p_3 p_4 hp0 hv0 he0) hZ (own_w hw 76 rfl) (own_w hw 17 rfl) (by decide) (by decide)) (g := (mkF m 1 #[rv d, oU, oU, oU] [(.ref d)])) rfl (by rw [hml]; rfl) (argsL := [(.ref d)]) (rest := []) (lenOf pd_4 rfl) rfl (own_bl rfl) (hb hby d15_1) (fun _ _ => ⟨rfl, e0, own_bl rfl, own_bl rfl⟩))
  obtain ⟨rfl, Nq1, eq1⟩ := hQ1
  have N1 := Fr.app N0 Nq1
  refine own_st st1 ?_
  refine own_st (fun _ kk_ => XS.istoreN X1.here hx rfl (hb hby d15_4) rfl (l' := #[rv d, iv (0 : Int32), oU, oU]) rfl (XS.iloadN X1.here hx rfl (hb hby d15_5) rfl (XS.aloadN X1.here hx rfl (hb hby d15_6) rfl rfl kk_))) ?_
  show gN T1 (mkF m 7 #[rv d, iv (0 : Int32), oU, oU] [(.ref d), (.int (0 : Int32))])
  obtain ⟨cl2, Ar2, -, Sz2, Nn2, -, -⟩ := id p_0
  refine own_st (fun _ kk_ => X1.arraylength hx (by rw [eq1]; exact Ar2.1) (State.isArrayOf_alike hZ.alike Ar2.2.1) (g := (mkF m 7 #[rv d, iv (0 : Int32), oU, oU] [(.ref d), (.int (0 : Int32))])) rfl rfl (hb hby d15_7) _ kk_) ?_
  rw [len_of Sz2 Nn2]
  show gN T1 (mkF m 8 #[rv d, iv (0 : Int32), oU, oU] [(.int z1), (.int (0 : Int32))])
  refine own_st (fun _ kk_ => XS.icmpYes X1.here hx rfl (pc0 := 8) (pc' := 14) rfl (hb hby d15_8) rfl (XT.ii_ne_t (own_pz2 hp0)) (by decide) (by decide) (XS.aloadN X1.here hx rfl (hb hby d15_14) rfl rfl kk_)) ?_
  show gN T1 (mkF m 15 #[rv d, iv (0 : Int32), oU, oU] [(.ref d)])
  obtain ⟨T3, L3, v3, X3, hQ3, st3⟩ := own_cutA (Jvm.LawKit.callS X1 hx (y := yy9) hown (own_mw hZ hw 93 rfl) (own_mw hZ hw 94 rfl) (own_mw hZ hw 17 rfl) (own_mw hZ hw 95 rfl) (by decide) (backOf (W := 0) (rm20 l Z a0 hw (d) (kd) (z1) (vs1) (ci) (ca) (ka) (c8) h0 n0 Z0 p_0 p_1 p_2 p_3 p_4 hp0 hv1 he1) hZ (own_w hw 95 rfl) (own_w hw 17 rfl) (by decide) (by decide)) (g := (mkF m 15 #[rv d, iv (0 : Int32), oU, oU] [(.ref d)])) rfl (by rw [hml]; rfl) (argsL := [(.ref d)]) (rest := []) (lenOf pd_4 rfl) rfl (own_bl rfl) (hb hby d15_15) (fun _ _ => ⟨rfl, eq1, own_bl rfl, own_bl rfl⟩))
  obtain ⟨rfl, Nq3, eq3⟩ := hQ3
  have N3 := Fr.app N1 Nq3
  refine own_st st3 ?_
  refine own_st (fun _ kk_ => XS.istoreN X3.here hx rfl (hb hby d15_18) rfl (l' := #[rv d, iv (0 : Int32), iv z1, oU]) rfl (XS.iloadN X3.here hx rfl (hb hby d15_19) rfl (XS.ifNo X3.here hx rfl (hb hby d15_20) rfl (XT.i0_gt_f (by decide)) (XS.iloadN X3.here hx rfl (hb hby d15_23) rfl (XS.aloadN X3.here hx rfl (hb hby d15_24) rfl rfl kk_))))) ?_
  show gN T3 (mkF m 25 #[rv d, iv (0 : Int32), iv z1, oU] [(.ref d), (.int z1)])
  obtain ⟨cl4, Ar4, -, Sz4, Nn4, -, -⟩ := id p_0
  refine own_st (fun _ kk_ => X3.arraylength hx (by rw [eq3]; exact Ar4.1) (State.isArrayOf_alike hZ.alike Ar4.2.1) (g := (mkF m 25 #[rv d, iv (0 : Int32), iv z1, oU] [(.ref d), (.int z1)])) rfl rfl (hb hby d15_25) _ kk_) ?_
  rw [len_of Sz4 Nn4]
  show gN T3 (mkF m 26 #[rv d, iv (0 : Int32), iv z1, oU] [(.int z1), (.int z1)])
  refine own_st (fun _ kk_ => XS.icmpYes X3.here hx rfl (pc0 := 26) (pc' := 33) rfl (hb hby d15_26) rfl (XT.ii_ge_t (own_irr z1)) (by decide) (by decide) (XS.iconst X3.here hx rfl (hb hby d15_33) (XS.istoreN X3.here hx rfl (hb hby d15_34) rfl (l' := #[rv d, iv (0 : Int32), iv z1, iv (0 : Int32)]) rfl (XS.iloadN X3.here hx rfl (hb hby d15_35) rfl (XS.ifYes X3.here hx rfl (pc0 := 36) (pc' := 50) rfl (hb hby d15_36) rfl (XT.i0_eq_t (by decide)) (by decide) (by decide) (XS.aconstNull X3.here hx rfl (hb hby d15_50) kk_)))))) ?_
  show gN T3 (mkF m 51 #[rv d, iv (0 : Int32), iv z1, iv (0 : Int32)] [.null])
  refine own_retA X3 hx hlk rfl hret rfl (hb hby d15_51) (by decide) (by decide) ?_
  show Q15 Z h0 n0 (some .null) T3.heap _
  rw [eq3]
  exact ⟨rfl, N3, rfl⟩
abbrev rRrm13 : Room := { frames := 4, cells := 0, slots := 0, locals := 59 }
abbrev c13 (n : Nat) (i : ClassFile.Instr) (k : Nat) : Prop := decode jdk_42_method_114_code n = .ok (i, k)
theorem d13_0 : c13 0 (.aload_n 0) 1 := by decide +kernel
theorem d13_1 : c13 1 (.invokevirtual 492) 3 := by decide +kernel
theorem d13_4 : c13 4 (.ifCond .eq 13) 3 := by decide +kernel
theorem d13_7 : c13 7 (.aload_n 0) 1 := by decide +kernel
theorem d13_8 : c13 8 (.getfield 9) 3 := by decide +kernel
theorem d13_11 : c13 11 (.invokestatic 864) 3 := by decide +kernel
theorem d13_14 : c13 14 (.goto 10) 3 := by decide +kernel
theorem d13_24 : c13 24 (.astore_n 1) 1 := by decide +kernel
theorem d13_25 : c13 25 (.aload_n 1) 1 := by decide +kernel
theorem d13_26 : c13 26 (.ifnonnull 7) 3 := by decide +kernel
theorem d13_29 : c13 29 (.aload_n 0) 1 := by decide +kernel
theorem d13_30 : c13 30 (.goto 4) 3 := by decide +kernel
theorem d13_34 : c13 34 (.areturn) 1 := by decide +kernel
theorem pd_5 : parseMethodDescriptor "()Z" = some ⟨[], some .boolean⟩ := by decide +kernel
theorem pd_6 : parseMethodDescriptor "([B)Ljava/lang/String;" = some ⟨[(.array .byte)], some (.object "java/lang/String")⟩ := by decide +kernel
theorem pn_13 : plainFor yy11 = true := by decide +kernel
theorem ef_rm13 (m : MethodId) (a : Addr) : entryFrame m #[(.ref a)] 2 = (mkF m 0 #[rv a, oU] []) := by first | (simp [entryFrame, mkF, argsToLocals, Value.category]; done) | rfl
def Q13 (Z : State) (a : Addr) (h0 : Heap) (n0 : Nat) (v_ : Option Value) (h_ : Heap) (L_ : List Loc) : Prop := (v_ = some (.ref a)) ∧ (Fr n0 L_) ∧ (h_ = h0)
theorem rm13 (l : Launch) (Z : State) (a0 : Array Value) (hw : own_T a0 Z) (a : Addr) (d : Addr) (kd : ClassId) (z1 : Int32) (vs1 : List Value) (ci : Addr) (ca : Addr) (ka : ClassId) (c9 : Int32) (c8 : Int32) (cs : Int32) (h0 : Heap) (n0 : Nat) (Z0 : n0 ≤ h0.size) (p_0 : Exa Z h0 a "java/lang/String") (p_1 : Fld Z h0 a "java/lang/String" "coder" "B" (.int (0 : Int32))) (p_2 : Fld Z h0 a "java/lang/String" "value" "[B" (.ref d)) (p_3 : Arv Z h0 d kd .byte z1 vs1 (.int (0 : Int32))) (p_4 : Sta Z h0 "java/lang/CharacterDataLatin1" "instance" "Ljava/lang/CharacterDataLatin1;" (.ref ci)) (p_5 : Exa Z h0 ci "java/lang/CharacterDataLatin1") (p_6 : Sta Z h0 "java/lang/CharacterDataLatin1" "A" "[I" (.ref ca)) (p_7 : Arv Z h0 ca ka .int (256 : Int32) own_A (.int (0 : Int32))) (hp0 : (0 : Int32) < z1) (hv0 : vs1.getD (0 : Int32).toNatClampNeg (.int (0 : Int32)) = .int (own_by c9)) (he0 : own_ec c9) (hv1 : vs1.getD (z1 - (1 : Int32)).toNatClampNeg (.int (0 : Int32)) = .int (own_by c8)) (he1 : own_ec c8) (p_13 : Sta Z h0 "java/lang/String" "COMPACT_STRINGS" "Z" (.int cs)) (hcs : ¬ cs = (0 : Int32)) :
    own_Met l yy11 jdk_42_method_114_code 2 (some (.object "java/lang/String")) [] rRrm13 Z h0 #[(.ref a)] (Q13 Z a h0 n0) := by
  refine own_openN pn_13 (own := "java/lang/String") rfl ?_
  intro p e s m below meth c s₁ hx hby hlk hml hret hZ hown hnm X0 e0
  have N0 := Fr.nil n0
  rw [ef_rm13 m a]
  show own_Goes p e below s (Q13 Z a h0 n0) rRrm13.cells rRrm13.slots s₁ (mkF m 0 #[rv a, oU] [])
  refine own_st (fun _ kk_ => XS.aloadN X0.here hx rfl (hb hby d13_0) rfl rfl kk_) ?_
  show gN s₁ (mkF m 1 #[rv a, oU] [(.ref a)])
  obtain ⟨cq1, kq1, q1a, q1b, q1c⟩ := isOf hZ e0 p_0
  obtain ⟨T1, L1, v1, X1, hQ1, st1⟩ := own_cut (X0.virtualBack hx (y := yy1) (z := yy1) hown (own_mw hZ hw 66 rfl) (own_mw hZ hw 67 rfl) (notFace_of_selects (args := #[]) (own_mw hZ hw 69 rfl)) (own_mw hZ hw 69 rfl) (own_mw hZ hw 68 rfl) (by decide) (backOf (W := 0) (rm14 l Z a0 hw (a) (cs) h0 n0 Z0 p_1 p_13 (by assumption)) hZ (own_w hw 70 rfl) (own_w hw 12 rfl) (by decide) (by decide)) q1a q1c (g := (mkF m 1 #[rv a, oU] [(.ref a)])) rfl (by rw [hml]; rfl) (Steps.refl _) (argsL := []) (rest := []) (lenOf pd_5 rfl) rfl (own_bl rfl) (hb hby d13_1) (fun _ _ => ⟨rfl, e0, own_bl rfl, own_bl rfl⟩))
  obtain ⟨rfl, Nq1, eq1⟩ := hQ1
  have N1 := Fr.app N0 Nq1
  refine own_sTN st1 ?_
  refine own_st (fun _ kk_ => XS.ifNo X1.here hx rfl (hb hby d13_4) rfl (XT.i0_eq_f (by decide)) (XS.aloadN X1.here hx rfl (hb hby d13_7) rfl rfl kk_)) ?_
  show gN T1 (mkF m 8 #[rv a, oU] [(.ref a)])
  obtain ⟨T2, X2, e2, st2⟩ := getF X1 hx hZ hown (host := "") (Or.inl (own_w hw 32 rfl)) Via.refl eq1 p_2 (g := (mkF m 8 #[rv a, oU] [(.ref a)])) rfl rfl (hb hby d13_8)
  refine own_st st2 ?_
  obtain ⟨T3, L3, v3, X3, hQ3, st3⟩ := own_cutA (Jvm.LawKit.callS X2 hx (y := yy10) hown (own_mw hZ hw 71 rfl) (own_mw hZ hw 72 rfl) (own_mw hZ hw 17 rfl) (own_mw hZ hw 73 rfl) (by decide) (backOf (W := 0) (rm15 l Z a0 hw (d) (kd) (z1) (vs1) (ci) (ca) (ka) (c9) (c8) h0 n0 Z0 p_3 p_4 p_5 p_6 p_7 hp0 hv0 he0 hv1 he1) hZ (own_w hw 73 rfl) (own_w hw 17 rfl) (by decide) (by decide)) (g := (mkF m 11 #[rv a, oU] [(.ref d)])) rfl (by rw [hml]; rfl) (argsL := [(.ref d)]) (rest := []) (lenOf pd_6 rfl) rfl (own_bl rfl) (hb hby d13_11) (fun _ _ => ⟨rfl, e2, own_bl rfl, own_bl rfl⟩))
  obtain ⟨rfl, Nq3, eq3⟩ := hQ3
  have N3 := Fr.app N1 Nq3
  refine own_st st3 ?_
  refine own_st (fun _ kk_ => XS.goto X3.here hx rfl (pc0 := 14) (pc' := 24) rfl (hb hby d13_14) (by decide) (by decide) (XS.astoreN X3.here hx rfl (hb hby d13_24) rfl rfl (l' := #[rv a, .val .null]) rfl (XS.aloadN X3.here hx rfl (hb hby d13_25) rfl rfl (XS.ifnonnullNo X3.here hx rfl (hb hby d13_26) rfl (XS.aloadN X3.here hx rfl (hb hby d13_29) rfl rfl (XS.goto X3.here hx rfl (pc0 := 30) (pc' := 34) rfl (hb hby d13_30) (by decide) (by decide) kk_)))))) ?_
  show gN T3 (mkF m 34 #[rv a, .val .null] [(.ref a)])
  refine own_retA X3 hx hlk rfl hret rfl (hb hby d13_34) (by decide) (by decide) ?_
  show Q13 Z a h0 n0 (some (.ref a)) T3.heap _
  rw [eq3]
  exact ⟨rfl, N3, rfl⟩
abbrev rRrm21 : Room := { frames := 0, cells := 0, slots := 0, locals := 0 }
abbrev c21 (n : Nat) (i : ClassFile.Instr) (k : Nat) : Prop := decode jdk_42_method_66_code n = .ok (i, k)
theorem d21_0 : c21 0 (.aload_n 0) 1 := by decide +kernel
theorem d21_1 : c21 1 (.aload_n 1) 1 := by decide +kernel
theorem d21_2 : c21 2 (.if_acmp .ne 5) 3 := by decide +kernel
theorem d21_5 : c21 5 (.iconst 1) 1 := by decide +kernel
theorem d21_6 : c21 6 (.ireturn) 1 := by decide +kernel
theorem pn_21 : plainFor yy12 = true := by decide +kernel
theorem ef_rm21 (m : MethodId) (a : Addr) : entryFrame m #[(.ref a), (.ref a)] 3 = (mkF m 0 #[rv a, rv a, oU] []) := by first | (simp [entryFrame, mkF, argsToLocals, Value.category]; done) | rfl
def Q21 (Z : State) (h0 : Heap) (n0 : Nat) (v_ : Option Value) (h_ : Heap) (L_ : List Loc) : Prop := (v_ = some (.int (1 : Int32))) ∧ (Fr n0 L_) ∧ (h_ = h0)
theorem rm21 (l : Launch) (Z : State) (a0 : Array Value) (hw : own_T a0 Z) (a : Addr) (h0 : Heap) (n0 : Nat) (Z0 : n0 ≤ h0.size) :
    own_Met l yy12 jdk_42_method_66_code 3 (some .boolean) [] rRrm21 Z h0 #[(.ref a), (.ref a)] (Q21 Z h0 n0) := by
  refine own_openN pn_21 (own := "java/lang/String") rfl ?_
  intro p e s m below meth c s₁ hx hby hlk hml hret hZ hown hnm X0 e0
  have N0 := Fr.nil n0
  rw [ef_rm21 m a]
  show own_Goes p e below s (Q21 Z h0 n0) rRrm21.cells rRrm21.slots s₁ (mkF m 0 #[rv a, rv a, oU] [])
  refine own_st (fun _ kk_ => XS.aloadN X0.here hx rfl (hb hby d21_0) rfl rfl (XS.aloadN X0.here hx rfl (hb hby d21_1) rfl rfl (XT.acmpNo X0.here hx rfl (hb hby d21_2) rfl rfl rfl (XT.aa_ne_f rfl) (XS.iconst X0.here hx rfl (hb hby d21_5) kk_)))) ?_
  show gN s₁ (mkF m 6 #[rv a, rv a, oU] [(.int (1 : Int32))])
  refine own_retN X0 hx hlk (t := .boolean) hret (by simp) (hb hby d21_6) (by decide) (by decide) ?_
  show Q21 Z h0 n0 (some (.int (nar .boolean (1 : Int32)))) s₁.heap _
  rw [e0]
  exact ⟨rfl, N0, rfl⟩
theorem own_255b {c : Int32} (h : own_in c) : ¬ (255 : Int32) < c := by unfold own_in at h; simp only [Int32.lt_iff_toInt_lt, Int32.reduceToInt]; omega
abbrev rRrm27 : Room := { frames := 0, cells := 0, slots := 0, locals := 0 }
abbrev c27 (n : Nat) (i : ClassFile.Instr) (k : Nat) : Prop := decode jdk_43_method_4_code n = .ok (i, k)
theorem d27_0 : c27 0 (.iload_n 0) 1 := by decide +kernel
theorem d27_1 : c27 1 (.ifCond .lt 14) 3 := by decide +kernel
theorem d27_4 : c27 4 (.iload_n 0) 1 := by decide +kernel
theorem d27_5 : c27 5 (.sipush 255) 3 := by decide +kernel
theorem d27_8 : c27 8 (.if_icmp .gt 7) 3 := by decide +kernel
theorem d27_11 : c27 11 (.iconst 1) 1 := by decide +kernel
theorem d27_12 : c27 12 (.goto 4) 3 := by decide +kernel
theorem d27_16 : c27 16 (.ireturn) 1 := by decide +kernel
theorem pn_27 : plainFor yy13 = true := by decide +kernel
theorem ef_rm27 (m : MethodId) (k9 : Int32) : entryFrame m #[(.int k9)] 1 = (mkF m 0 #[iv k9] []) := by first | (simp [entryFrame, mkF, argsToLocals, Value.category]; done) | rfl
def Q27 (Z : State) (h0 : Heap) (n0 : Nat) (v_ : Option Value) (h_ : Heap) (L_ : List Loc) : Prop := (v_ = some (.int (1 : Int32))) ∧ (Fr n0 L_) ∧ (h_ = h0)
theorem rm27 (l : Launch) (Z : State) (a0 : Array Value) (hw : own_T a0 Z) (k9 : Int32) (h0 : Heap) (n0 : Nat) (Z0 : n0 ≤ h0.size) (hk : own_in k9) :
    own_Met l yy13 jdk_43_method_4_code 1 (some .boolean) [] rRrm27 Z h0 #[(.int k9)] (Q27 Z h0 n0) := by
  refine own_openN pn_27 (own := "java/lang/StringLatin1") rfl ?_
  intro p e s m below meth c s₁ hx hby hlk hml hret hZ hown hnm X0 e0
  have N0 := Fr.nil n0
  rw [ef_rm27 m k9]
  show own_Goes p e below s (Q27 Z h0 n0) rRrm27.cells rRrm27.slots s₁ (mkF m 0 #[iv k9] [])
  refine own_st (fun _ kk_ => XS.iloadN X0.here hx rfl (hb hby d27_0) rfl (XS.ifNo X0.here hx rfl (hb hby d27_1) rfl (XT.i0_lt_f (own_tc hk).2.1) (XS.iloadN X0.here hx rfl (hb hby d27_4) rfl (XS.sipush X0.here hx rfl (hb hby d27_5) (XS.icmpNo X0.here hx rfl (hb hby d27_8) rfl (XT.ii_gt_f (own_255b hk)) (XS.iconst X0.here hx rfl (hb hby d27_11) (XS.goto X0.here hx rfl (pc0 := 12) (pc' := 16) rfl (hb hby d27_12) (by decide) (by decide) kk_))))))) ?_
  show gN s₁ (mkF m 16 #[iv k9] [(.int (1 : Int32))])
  refine own_retN X0 hx hlk (t := .boolean) hret (by simp) (hb hby d27_16) (by decide) (by decide) ?_
  show Q27 Z h0 n0 (some (.int (nar .boolean (1 : Int32)))) s₁.heap _
  rw [e0]
  exact ⟨rfl, N0, rfl⟩
abbrev rRrm11 : Room := { frames := 0, cells := 0, slots := 0, locals := 0 }
abbrev c11 (n : Nat) (i : ClassFile.Instr) (k : Nat) : Prop := decode jdk_31_method_11_code n = .ok (i, k)
theorem d11_0 : c11 0 (.aload_n 0) 1 := by decide +kernel
theorem d11_1 : c11 1 (.ifnonnull 12) 3 := by decide +kernel
theorem d11_13 : c11 13 (.aload_n 0) 1 := by decide +kernel
theorem d11_14 : c11 14 (.areturn) 1 := by decide +kernel
theorem pn_11 : plainFor yy14 = true := by decide +kernel
theorem ef_rm11 (m : MethodId) (a : Addr) (nm : Addr) : entryFrame m #[(.ref a), (.ref nm)] 2 = (mkF m 0 #[rv a, rv nm] []) := by first | (simp [entryFrame, mkF, argsToLocals, Value.category]; done) | rfl
def Q11 (Z : State) (a : Addr) (h0 : Heap) (n0 : Nat) (v_ : Option Value) (h_ : Heap) (L_ : List Loc) : Prop := (v_ = some (.ref a)) ∧ (Fr n0 L_) ∧ (h_ = h0)
theorem rm11 (l : Launch) (Z : State) (a0 : Array Value) (hw : own_T a0 Z) (a : Addr) (nm : Addr) (h0 : Heap) (n0 : Nat) (Z0 : n0 ≤ h0.size) :
    own_Met l yy14 jdk_31_method_11_code 2 (some (.object "java/lang/Object")) [] rRrm11 Z h0 #[(.ref a), (.ref nm)] (Q11 Z a h0 n0) := by
  refine own_openN pn_11 (own := "java/util/Objects") rfl ?_
  intro p e s m below meth c s₁ hx hby hlk hml hret hZ hown hnm X0 e0
  have N0 := Fr.nil n0
  rw [ef_rm11 m a nm]
  show own_Goes p e below s (Q11 Z a h0 n0) rRrm11.cells rRrm11.slots s₁ (mkF m 0 #[rv a, rv nm] [])
  refine own_st (fun _ kk_ => XS.aloadN X0.here hx rfl (hb hby d11_0) rfl rfl (XS.ifnonnullYes X0.here hx rfl (pc0 := 1) (pc' := 13) rfl (hb hby d11_1) rfl (by decide) (by decide) (XS.aloadN X0.here hx rfl (hb hby d11_13) rfl rfl kk_))) ?_
  show gN s₁ (mkF m 14 #[rv a, rv nm] [(.ref a)])
  refine own_retA X0 hx hlk rfl hret rfl (hb hby d11_14) (by decide) (by decide) ?_
  show Q11 Z a h0 n0 (some (.ref a)) s₁.heap _
  rw [e0]
  exact ⟨rfl, N0, rfl⟩
theorem own_n44 {c : Int32} (h : own_mc c) : ¬ c = (44 : Int32) := by unfold own_mc at h; rw [← Int32.toInt_inj]; simp only [Int32.reduceToInt]; omega
theorem own_n61 {c : Int32} (h : own_mc c) : ¬ c = (61 : Int32) := by unfold own_mc at h; rw [← Int32.toInt_inj]; simp only [Int32.reduceToInt]; omega
theorem own_tok.e {z : Int32} {vs : List Value} (h : own_tok z vs) : ∃ c9 c8, (0 : Int32) < z ∧ vs.getD (0 : Int32).toNatClampNeg (.int (0 : Int32)) = .int (own_by c9) ∧ own_ec c9 ∧ vs.getD (z - (1 : Int32)).toNatClampNeg (.int (0 : Int32)) = .int (own_by c8) ∧ own_ec c8 := by
  rcases h with ⟨c0, rfl, rfl, hp0⟩ | ⟨c0, c1, rfl, rfl, hp0, h1⟩
  · exact ⟨c0, c0, by decide, rfl, hp0, rfl, hp0⟩
  · exact ⟨c0, c1, by decide, rfl, hp0, rfl, h1⟩
theorem own_pz {z : Int32} (h : (0 : Int32) < z) : ¬ z = 0 := fun q => by rw [q] at h; exact own_irr _ h
abbrev rRrm30 : Room := { frames := 0, cells := 0, slots := 0, locals := 0 }
abbrev c30 (n : Nat) (i : ClassFile.Instr) (k : Nat) : Prop := decode jdk_43_method_23_code n = .ok (i, k)
theorem d30_0 : c30 0 (.iload_n 1) 1 := by decide +kernel
theorem d30_1 : c30 1 (.i2b) 1 := by decide +kernel
theorem d30_2 : c30 2 (.istore 4) 2 := by decide +kernel
theorem d30_4 : c30 4 (.iload_n 2) 1 := by decide +kernel
theorem d30_5 : c30 5 (.istore 5) 2 := by decide +kernel
theorem d30_7 : c30 7 (.iload 5) 2 := by decide +kernel
theorem d30_9 : c30 9 (.iload_n 3) 1 := by decide +kernel
theorem d30_10 : c30 10 (.if_icmp .ge 21) 3 := by decide +kernel
theorem d30_13 : c30 13 (.aload_n 0) 1 := by decide +kernel
theorem d30_14 : c30 14 (.iload 5) 2 := by decide +kernel
theorem d30_16 : c30 16 (.baload) 1 := by decide +kernel
theorem d30_17 : c30 17 (.iload 4) 2 := by decide +kernel
theorem d30_19 : c30 19 (.if_icmp .ne 6) 3 := by decide +kernel
theorem d30_25 : c30 25 (.iinc 5 1) 3 := by decide +kernel
theorem d30_28 : c30 28 (.goto (-21)) 3 := by decide +kernel
theorem d30_31 : c30 31 (.iconst (-1)) 1 := by decide +kernel
theorem d30_32 : c30 32 (.ireturn) 1 := by decide +kernel
theorem pn_30 : plainFor yy15 = true := by decide +kernel
theorem ef_rm30 (m : MethodId) (d : Addr) (k9 : Int32) (z1 : Int32) : entryFrame m #[(.ref d), (.int k9), (.int (0 : Int32)), (.int z1)] 6 = (mkF m 0 #[rv d, iv k9, iv (0 : Int32), iv z1, oU, oU] []) := by first | (simp [entryFrame, mkF, argsToLocals, Value.category]; done) | rfl
def Q30 (Z : State) (h0 : Heap) (n0 : Nat) (v_ : Option Value) (h_ : Heap) (L_ : List Loc) : Prop := (v_ = some (.int (-1 : Int32))) ∧ (Fr n0 L_) ∧ (h_ = h0)
theorem rm30 (l : Launch) (Z : State) (a0 : Array Value) (hw : own_T a0 Z) (d : Addr) (k9 : Int32) (z1 : Int32) (kd : ClassId) (vs1 : List Value) (h0 : Heap) (n0 : Nat) (Z0 : n0 ≤ h0.size) (p_0 : Arv Z h0 d kd .byte z1 vs1 (.int (0 : Int32))) (hk : own_in k9) (hq : ∀ c, own_mc c → ¬ c = k9) (htk : own_tok z1 vs1) :
    own_Met l yy15 jdk_43_method_23_code 6 (some .int) [] rRrm30 Z h0 #[(.ref d), (.int k9), (.int (0 : Int32)), (.int z1)] (Q30 Z h0 n0) := by
  refine own_openN pn_30 (own := "java/lang/StringLatin1") rfl ?_
  intro p e s m below meth c s₁ hx hby hlk hml hret hZ hown hnm X0 e0
  have N0 := Fr.nil n0
  rw [ef_rm30 m d k9 z1]
  show own_Goes p e below s (Q30 Z h0 n0) rRrm30.cells rRrm30.slots s₁ (mkF m 0 #[rv d, iv k9, iv (0 : Int32), iv z1, oU, oU] [])
  rcases htk with ⟨c0, rfl, rfl, hm0⟩ | ⟨c0, c1, rfl, rfl, hm0, hm1⟩
  · show gN s₁ (mkF m 0 #[rv d, iv k9, iv (0 : Int32), iv (1 : Int32), oU, oU] [])
    refine own_st (fun _ kk_ => XS.iloadN X0.here hx rfl (hb hby d30_0) rfl (XS.i2b X0.here hx rfl (hb hby d30_1) rfl (XS.istore X0.here hx rfl (hb hby d30_2) rfl (l' := #[rv d, iv k9, iv (0 : Int32), iv (1 : Int32), iv (k9.toInt8.toInt32), oU]) rfl (XS.iloadN X0.here hx rfl (hb hby d30_4) rfl (XS.istore X0.here hx rfl (hb hby d30_5) rfl (l' := #[rv d, iv k9, iv (0 : Int32), iv (1 : Int32), iv (k9.toInt8.toInt32), iv (0 : Int32)]) rfl (XS.iload X0.here hx rfl (hb hby d30_7) rfl (XS.iloadN X0.here hx rfl (hb hby d30_9) rfl (XS.icmpNo X0.here hx rfl (hb hby d30_10) rfl (XT.ii_ge_f (by decide)) (XS.aloadN X0.here hx rfl (hb hby d30_13) rfl rfl (XS.iload X0.here hx rfl (hb hby d30_14) rfl kk_)))))))))) ?_
    show gN s₁ (mkF m 16 #[rv d, iv k9, iv (0 : Int32), iv (1 : Int32), iv (k9.toInt8.toInt32), iv (0 : Int32)] [(.int (0 : Int32)), (.ref d)])
    obtain ⟨cl1, Ar1, q1, Sz1, Nn1, Hh1, Gg1⟩ := id p_0
    refine own_st (fun _ kk_ => X0.baloadBytes hx (j := (0 : Int32)) (v := (.int (own_by c0))) (by rw [e0]; exact Ar1.1) (State.isArrayOf_alike hZ.alike Ar1.2.1) Ar1.2.2 (inb_of Sz1 ⟨by decide, by decide⟩) (Hh1.at (inb_of Sz1 ⟨by decide, by decide⟩) rfl) (g := (mkF m 16 #[rv d, iv k9, iv (0 : Int32), iv (1 : Int32), iv (k9.toInt8.toInt32), iv (0 : Int32)] [(.int (0 : Int32)), (.ref d)])) rfl rfl (hb hby d30_16) _ kk_) ?_
    show gN s₁ (mkF m 17 #[rv d, iv k9, iv (0 : Int32), iv (1 : Int32), iv (k9.toInt8.toInt32), iv (0 : Int32)] [(.int (own_by c0))])
    refine own_st (fun _ kk_ => XS.iload X0.here hx rfl (hb hby d30_17) rfl (XS.icmpYes X0.here hx rfl (pc0 := 19) (pc' := 25) rfl (hb hby d30_19) rfl (XT.ii_ne_t (own_nbi hm0.m.i hk (hq _ hm0.m))) (by decide) (by decide) (XS.iinc X0.here hx rfl (hb hby d30_25) rfl (l' := #[rv d, iv k9, iv (0 : Int32), iv (1 : Int32), iv (k9.toInt8.toInt32), iv (1 : Int32)]) rfl (XS.goto X0.here hx rfl (pc0 := 28) (pc' := 7) rfl (hb hby d30_28) (by decide) (by decide) (XS.iload X0.here hx rfl (hb hby d30_7) rfl (XS.iloadN X0.here hx rfl (hb hby d30_9) rfl (XS.icmpYes X0.here hx rfl (pc0 := 10) (pc' := 31) rfl (hb hby d30_10) rfl (XT.ii_ge_t (by decide)) (by decide) (by decide) (XS.iconst X0.here hx rfl (hb hby d30_31) kk_)))))))) ?_
    show gN s₁ (mkF m 32 #[rv d, iv k9, iv (0 : Int32), iv (1 : Int32), iv (k9.toInt8.toInt32), iv (1 : Int32)] [(.int (-1 : Int32))])
    refine own_retI X0 hx hlk hret (hb hby d30_32) (by decide) (by decide) ?_
    show Q30 Z h0 n0 (some (.int (-1 : Int32))) s₁.heap _
    rw [e0]
    exact ⟨rfl, N0, rfl⟩
  · show gN s₁ (mkF m 0 #[rv d, iv k9, iv (0 : Int32), iv (2 : Int32), oU, oU] [])
    refine own_st (fun _ kk_ => XS.iloadN X0.here hx rfl (hb hby d30_0) rfl (XS.i2b X0.here hx rfl (hb hby d30_1) rfl (XS.istore X0.here hx rfl (hb hby d30_2) rfl (l' := #[rv d, iv k9, iv (0 : Int32), iv (2 : Int32), iv (k9.toInt8.toInt32), oU]) rfl (XS.iloadN X0.here hx rfl (hb hby d30_4) rfl (XS.istore X0.here hx rfl (hb hby d30_5) rfl (l' := #[rv d, iv k9, iv (0 : Int32), iv (2 : Int32), iv (k9.toInt8.toInt32), iv (0 : Int32)]) rfl (XS.iload X0.here hx rfl (hb hby d30_7) rfl (XS.iloadN X0.here hx rfl (hb hby d30_9) rfl (XS.icmpNo X0.here hx rfl (hb hby d30_10) rfl (XT.ii_ge_f (by decide)) (XS.aloadN X0.here hx rfl (hb hby d30_13) rfl rfl (XS.iload X0.here hx rfl (hb hby d30_14) rfl kk_)))))))))) ?_
    show gN s₁ (mkF m 16 #[rv d, iv k9, iv (0 : Int32), iv (2 : Int32), iv (k9.toInt8.toInt32), iv (0 : Int32)] [(.int (0 : Int32)), (.ref d)])
    obtain ⟨cl2, Ar2, q2, Sz2, Nn2, Hh2, Gg2⟩ := id p_0
    refine own_st (fun _ kk_ => X0.baloadBytes hx (j := (0 : Int32)) (v := (.int (own_by c0))) (by rw [e0]; exact Ar2.1) (State.isArrayOf_alike hZ.alike Ar2.2.1) Ar2.2.2 (inb_of Sz2 ⟨by decide, by decide⟩) (Hh2.at (inb_of Sz2 ⟨by decide, by decide⟩) rfl) (g := (mkF m 16 #[rv d, iv k9, iv (0 : Int32), iv (2 : Int32), iv (k9.toInt8.toInt32), iv (0 : Int32)] [(.int (0 : Int32)), (.ref d)])) rfl rfl (hb hby d30_16) _ kk_) ?_
    show gN s₁ (mkF m 17 #[rv d, iv k9, iv (0 : Int32), iv (2 : Int32), iv (k9.toInt8.toInt32), iv (0 : Int32)] [(.int (own_by c0))])
    refine own_st (fun _ kk_ => XS.iload X0.here hx rfl (hb hby d30_17) rfl (XS.icmpYes X0.here hx rfl (pc0 := 19) (pc' := 25) rfl (hb hby d30_19) rfl (XT.ii_ne_t (own_nbi hm0.m.i hk (hq _ hm0.m))) (by decide) (by decide) (XS.iinc X0.here hx rfl (hb hby d30_25) rfl (l' := #[rv d, iv k9, iv (0 : Int32), iv (2 : Int32), iv (k9.toInt8.toInt32), iv (1 : Int32)]) rfl (XS.goto X0.here hx rfl (pc0 := 28) (pc' := 7) rfl (hb hby d30_28) (by decide) (by decide) (XS.iload X0.here hx rfl (hb hby d30_7) rfl (XS.iloadN X0.here hx rfl (hb hby d30_9) rfl (XS.icmpNo X0.here hx rfl (hb hby d30_10) rfl (XT.ii_ge_f (by decide)) (XS.aloadN X0.here hx rfl (hb hby d30_13) rfl rfl (XS.iload X0.here hx rfl (hb hby d30_14) rfl kk_))))))))) ?_
    show gN s₁ (mkF m 16 #[rv d, iv k9, iv (0 : Int32), iv (2 : Int32), iv (k9.toInt8.toInt32), iv (1 : Int32)] [(.int (1 : Int32)), (.ref d)])
    obtain ⟨cl3, Ar3, q3, Sz3, Nn3, Hh3, Gg3⟩ := id p_0
    refine own_st (fun _ kk_ => X0.baloadBytes hx (j := (1 : Int32)) (v := (.int (own_by c1))) (by rw [e0]; exact Ar3.1) (State.isArrayOf_alike hZ.alike Ar3.2.1) Ar3.2.2 (inb_of Sz3 ⟨by decide, by decide⟩) (Hh3.at (inb_of Sz3 ⟨by decide, by decide⟩) rfl) (g := (mkF m 16 #[rv d, iv k9, iv (0 : Int32), iv (2 : Int32), iv (k9.toInt8.toInt32), iv (1 : Int32)] [(.int (1 : Int32)), (.ref d)])) rfl rfl (hb hby d30_16) _ kk_) ?_
    show gN s₁ (mkF m 17 #[rv d, iv k9, iv (0 : Int32), iv (2 : Int32), iv (k9.toInt8.toInt32), iv (1 : Int32)] [(.int (own_by c1))])
    refine own_st (fun _ kk_ => XS.iload X0.here hx rfl (hb hby d30_17) rfl (XS.icmpYes X0.here hx rfl (pc0 := 19) (pc' := 25) rfl (hb hby d30_19) rfl (XT.ii_ne_t (own_nbi hm1.m.i hk (hq _ hm1.m))) (by decide) (by decide) (XS.iinc X0.here hx rfl (hb hby d30_25) rfl (l' := #[rv d, iv k9, iv (0 : Int32), iv (2 : Int32), iv (k9.toInt8.toInt32), iv (2 : Int32)]) rfl (XS.goto X0.here hx rfl (pc0 := 28) (pc' := 7) rfl (hb hby d30_28) (by decide) (by decide) (XS.iload X0.here hx rfl (hb hby d30_7) rfl (XS.iloadN X0.here hx rfl (hb hby d30_9) rfl (XS.icmpYes X0.here hx rfl (pc0 := 10) (pc' := 31) rfl (hb hby d30_10) rfl (XT.ii_ge_t (by decide)) (by decide) (by decide) (XS.iconst X0.here hx rfl (hb hby d30_31) kk_)))))))) ?_
    show gN s₁ (mkF m 32 #[rv d, iv k9, iv (0 : Int32), iv (2 : Int32), iv (k9.toInt8.toInt32), iv (2 : Int32)] [(.int (-1 : Int32))])
    refine own_retI X0 hx hlk hret (hb hby d30_32) (by decide) (by decide) ?_
    show Q30 Z h0 n0 (some (.int (-1 : Int32))) s₁.heap _
    rw [e0]
    exact ⟨rfl, N0, rfl⟩
abbrev rRrm26 : Room := { frames := 1, cells := 0, slots := 0, locals := 17 }
abbrev c26 (n : Nat) (i : ClassFile.Instr) (k : Nat) : Prop := decode jdk_43_method_22_code n = .ok (i, k)
theorem d26_0 : c26 0 (.iload_n 1) 1 := by decide +kernel
theorem d26_1 : c26 1 (.invokestatic 88) 3 := by decide +kernel
theorem d26_4 : c26 4 (.ifCond .ne 5) 3 := by decide +kernel
theorem d26_9 : c26 9 (.iload_n 2) 1 := by decide +kernel
theorem d26_10 : c26 10 (.iconst 0) 1 := by decide +kernel
theorem d26_11 : c26 11 (.invokestatic 92) 3 := by decide +kernel
theorem d26_14 : c26 14 (.istore_n 2) 1 := by decide +kernel
theorem d26_15 : c26 15 (.iload_n 3) 1 := by decide +kernel
theorem d26_16 : c26 16 (.aload_n 0) 1 := by decide +kernel
theorem d26_17 : c26 17 (.arraylength) 1 := by decide +kernel
theorem d26_18 : c26 18 (.invokestatic 38) 3 := by decide +kernel
theorem d26_21 : c26 21 (.istore_n 3) 1 := by decide +kernel
theorem d26_22 : c26 22 (.iload_n 2) 1 := by decide +kernel
theorem d26_23 : c26 23 (.iload_n 3) 1 := by decide +kernel
theorem d26_24 : c26 24 (.if_icmp .lt 5) 3 := by decide +kernel
theorem d26_29 : c26 29 (.aload_n 0) 1 := by decide +kernel
theorem d26_30 : c26 30 (.iload_n 1) 1 := by decide +kernel
theorem d26_31 : c26 31 (.iload_n 2) 1 := by decide +kernel
theorem d26_32 : c26 32 (.iload_n 3) 1 := by decide +kernel
theorem d26_33 : c26 33 (.invokestatic 95) 3 := by decide +kernel
theorem d26_36 : c26 36 (.ireturn) 1 := by decide +kernel
theorem pd_7 : parseMethodDescriptor "(II)I" = some ⟨[.int, .int], some .int⟩ := by decide +kernel
theorem pd_8 : parseMethodDescriptor "([BIII)I" = some ⟨[(.array .byte), .int, .int, .int], some .int⟩ := by decide +kernel
theorem pn_26 : plainFor yy16 = true := by decide +kernel
theorem ef_rm26 (m : MethodId) (d : Addr) (k9 : Int32) (z1 : Int32) : entryFrame m #[(.ref d), (.int k9), (.int (0 : Int32)), (.int z1)] 4 = (mkF m 0 #[rv d, iv k9, iv (0 : Int32), iv z1] []) := by first | (simp [entryFrame, mkF, argsToLocals, Value.category]; done) | rfl
def Q26 (Z : State) (h0 : Heap) (n0 : Nat) (v_ : Option Value) (h_ : Heap) (L_ : List Loc) : Prop := (v_ = some (.int (-1 : Int32))) ∧ (Fr n0 L_) ∧ (h_ = h0)
theorem rm26 (l : Launch) (Z : State) (a0 : Array Value) (hw : own_T a0 Z) (d : Addr) (k9 : Int32) (z1 : Int32) (kd : ClassId) (vs1 : List Value) (h0 : Heap) (n0 : Nat) (Z0 : n0 ≤ h0.size) (p_0 : Arv Z h0 d kd .byte z1 vs1 (.int (0 : Int32))) (hk : own_in k9) (hq : ∀ c, own_mc c → ¬ c = k9) (htk : own_tok z1 vs1) :
    own_Met l yy16 jdk_43_method_22_code 4 (some .int) [] rRrm26 Z h0 #[(.ref d), (.int k9), (.int (0 : Int32)), (.int z1)] (Q26 Z h0 n0) := by
  refine own_openN pn_26 (own := "java/lang/StringLatin1") rfl ?_
  intro p e s m below meth c s₁ hx hby hlk hml hret hZ hown hnm X0 e0
  have N0 := Fr.nil n0
  rw [ef_rm26 m d k9 z1]
  show own_Goes p e below s (Q26 Z h0 n0) rRrm26.cells rRrm26.slots s₁ (mkF m 0 #[rv d, iv k9, iv (0 : Int32), iv z1] [])
  obtain ⟨c9, c8, g0, -⟩ := htk.e
  refine own_st (fun _ kk_ => XS.iloadN X0.here hx rfl (hb hby d26_0) rfl kk_) ?_
  show gN s₁ (mkF m 1 #[rv d, iv k9, iv (0 : Int32), iv z1] [(.int k9)])
  obtain ⟨T1, L1, v1, X1, hQ1, st1⟩ := own_cutA (Jvm.LawKit.callS X0 hx (y := yy13) hown (own_mw hZ hw 124 rfl) (own_mw hZ hw 125 rfl) (own_mw hZ hw 17 rfl) (own_mw hZ hw 126 rfl) (by decide) (backOf (W := 0) (rm27 l Z a0 hw (k9) h0 n0 Z0 hk) hZ (own_w hw 126 rfl) (own_w hw 17 rfl) (by decide) (by decide)) (g := (mkF m 1 #[rv d, iv k9, iv (0 : Int32), iv z1] [(.int k9)])) rfl (by rw [hml]; rfl) (argsL := [(.int k9)]) (rest := []) (lenOf pd_3 rfl) rfl (own_bl rfl) (hb hby d26_1) (fun _ _ => ⟨rfl, e0, own_bl rfl, own_bl rfl⟩))
  obtain ⟨rfl, Nq1, eq1⟩ := hQ1
  have N1 := Fr.app N0 Nq1
  refine own_st st1 ?_
  refine own_st (fun _ kk_ => XS.ifYes X1.here hx rfl (pc0 := 4) (pc' := 9) rfl (hb hby d26_4) rfl (XT.i0_ne_t (by decide)) (by decide) (by decide) (XS.iloadN X1.here hx rfl (hb hby d26_9) rfl (XS.iconst X1.here hx rfl (hb hby d26_10) kk_))) ?_
  show gN T1 (mkF m 11 #[rv d, iv k9, iv (0 : Int32), iv z1] [(.int (0 : Int32)), (.int (0 : Int32))])
  obtain ⟨T2, L2, v2, X2, hQ2, st2⟩ := own_cutA (Jvm.LawKit.callS X1 hx (y := yy3) hown (own_mw hZ hw 127 rfl) (own_mw hZ hw 128 rfl) (own_mw hZ hw 129 rfl) (own_mw hZ hw 130 rfl) (by decide) (backOf (W := 0) (rmxA l Z a0 hw ((0 : Int32)) ((0 : Int32)) h0 n0 Z0 (by decide)) hZ (own_w hw 130 rfl) (own_w hw 129 rfl) (by decide) (by decide)) (g := (mkF m 11 #[rv d, iv k9, iv (0 : Int32), iv z1] [(.int (0 : Int32)), (.int (0 : Int32))])) rfl (by rw [hml]; rfl) (argsL := [(.int (0 : Int32)), (.int (0 : Int32))]) (rest := []) (lenOf pd_7 rfl) rfl (own_bl rfl) (hb hby d26_11) (fun _ _ => ⟨rfl, eq1, own_bl rfl, own_bl rfl⟩))
  obtain ⟨rfl, Nq2, eq2⟩ := hQ2
  have N2 := Fr.app N1 Nq2
  refine own_st st2 ?_
  refine own_st (fun _ kk_ => XS.istoreN X2.here hx rfl (hb hby d26_14) rfl (l' := #[rv d, iv k9, iv (0 : Int32), iv z1]) rfl (XS.iloadN X2.here hx rfl (hb hby d26_15) rfl (XS.aloadN X2.here hx rfl (hb hby d26_16) rfl rfl kk_))) ?_
  show gN T2 (mkF m 17 #[rv d, iv k9, iv (0 : Int32), iv z1] [(.ref d), (.int z1)])
  obtain ⟨cl3, Ar3, -, Sz3, Nn3, -, -⟩ := id p_0
  refine own_st (fun _ kk_ => X2.arraylength hx (by rw [eq2]; exact Ar3.1) (State.isArrayOf_alike hZ.alike Ar3.2.1) (g := (mkF m 17 #[rv d, iv k9, iv (0 : Int32), iv z1] [(.ref d), (.int z1)])) rfl rfl (hb hby d26_17) _ kk_) ?_
  rw [len_of Sz3 Nn3]
  show gN T2 (mkF m 18 #[rv d, iv k9, iv (0 : Int32), iv z1] [(.int z1), (.int z1)])
  obtain ⟨T4, L4, v4, X4, hQ4, st4⟩ := own_cutA (Jvm.LawKit.callS X2 hx (y := yy4) hown (own_mw hZ hw 131 rfl) (own_mw hZ hw 132 rfl) (own_mw hZ hw 129 rfl) (own_mw hZ hw 133 rfl) (by decide) (backOf (W := 0) (rmnA l Z a0 hw (z1) (z1) h0 n0 Z0 (own_irr _)) hZ (own_w hw 133 rfl) (own_w hw 129 rfl) (by decide) (by decide)) (g := (mkF m 18 #[rv d, iv k9, iv (0 : Int32), iv z1] [(.int z1), (.int z1)])) rfl (by rw [hml]; rfl) (argsL := [(.int z1), (.int z1)]) (rest := []) (lenOf pd_7 rfl) rfl (own_bl rfl) (hb hby d26_18) (fun _ _ => ⟨rfl, eq2, own_bl rfl, own_bl rfl⟩))
  obtain ⟨rfl, Nq4, eq4⟩ := hQ4
  have N4 := Fr.app N2 Nq4
  refine own_st st4 ?_
  refine own_st (fun _ kk_ => XS.istoreN X4.here hx rfl (hb hby d26_21) rfl (l' := #[rv d, iv k9, iv (0 : Int32), iv z1]) rfl (XS.iloadN X4.here hx rfl (hb hby d26_22) rfl (XS.iloadN X4.here hx rfl (hb hby d26_23) rfl (XS.icmpYes X4.here hx rfl (pc0 := 24) (pc' := 29) rfl (hb hby d26_24) rfl (XT.ii_lt_t g0) (by decide) (by decide) (XS.aloadN X4.here hx rfl (hb hby d26_29) rfl rfl (XS.iloadN X4.here hx rfl (hb hby d26_30) rfl (XS.iloadN X4.here hx rfl (hb hby d26_31) rfl (XS.iloadN X4.here hx rfl (hb hby d26_32) rfl kk_)))))))) ?_
  show gN T4 (mkF m 33 #[rv d, iv k9, iv (0 : Int32), iv z1] [(.int z1), (.int (0 : Int32)), (.int k9), (.ref d)])
  obtain ⟨T5, L5, v5, X5, hQ5, st5⟩ := own_cutA (Jvm.LawKit.callS X4 hx (y := yy15) hown (own_mw hZ hw 134 rfl) (own_mw hZ hw 135 rfl) (own_mw hZ hw 17 rfl) (own_mw hZ hw 136 rfl) (by decide) (backOf (W := 0) (rm30 l Z a0 hw (d) (k9) (z1) (kd) (vs1) h0 n0 Z0 p_0 hk hq htk) hZ (own_w hw 136 rfl) (own_w hw 17 rfl) (by decide) (by decide)) (g := (mkF m 33 #[rv d, iv k9, iv (0 : Int32), iv z1] [(.int z1), (.int (0 : Int32)), (.int k9), (.ref d)])) rfl (by rw [hml]; rfl) (argsL := [(.ref d), (.int k9), (.int (0 : Int32)), (.int z1)]) (rest := []) (lenOf pd_8 rfl) rfl (own_bl rfl) (hb hby d26_33) (fun _ _ => ⟨rfl, eq4, own_bl rfl, own_bl rfl⟩))
  obtain ⟨rfl, Nq5, eq5⟩ := hQ5
  have N5 := Fr.app N4 Nq5
  refine own_st st5 ?_
  refine own_retI X5 hx hlk hret (hb hby d26_36) (by decide) (by decide) ?_
  show Q26 Z h0 n0 (some (.int (-1 : Int32))) T5.heap _
  rw [eq5]
  exact ⟨rfl, N5, rfl⟩
abbrev rRrm23 : Room := { frames := 2, cells := 0, slots := 0, locals := 32 }
abbrev c23 (n : Nat) (i : ClassFile.Instr) (k : Nat) : Prop := decode jdk_42_method_80_code n = .ok (i, k)
theorem d23_0 : c23 0 (.aload_n 0) 1 := by decide +kernel
theorem d23_1 : c23 1 (.invokevirtual 492) 3 := by decide +kernel
theorem d23_4 : c23 4 (.ifCond .eq 19) 3 := by decide +kernel
theorem d23_7 : c23 7 (.aload_n 0) 1 := by decide +kernel
theorem d23_8 : c23 8 (.getfield 9) 3 := by decide +kernel
theorem d23_11 : c23 11 (.iload_n 1) 1 := by decide +kernel
theorem d23_12 : c23 12 (.iload_n 2) 1 := by decide +kernel
theorem d23_13 : c23 13 (.aload_n 0) 1 := by decide +kernel
theorem d23_14 : c23 14 (.invokevirtual 505) 3 := by decide +kernel
theorem d23_17 : c23 17 (.invokestatic 637) 3 := by decide +kernel
theorem d23_20 : c23 20 (.goto 16) 3 := by decide +kernel
theorem d23_36 : c23 36 (.ireturn) 1 := by decide +kernel
theorem pd_9 : parseMethodDescriptor "()I" = some ⟨[], some .int⟩ := by decide +kernel
theorem pn_23 : plainFor yy17 = true := by decide +kernel
theorem ef_rm23 (m : MethodId) (a : Addr) (k9 : Int32) : entryFrame m #[(.ref a), (.int k9), (.int (0 : Int32))] 3 = (mkF m 0 #[rv a, iv k9, iv (0 : Int32)] []) := by first | (simp [entryFrame, mkF, argsToLocals, Value.category]; done) | rfl
def Q23 (Z : State) (h0 : Heap) (n0 : Nat) (v_ : Option Value) (h_ : Heap) (L_ : List Loc) : Prop := (v_ = some (.int (-1 : Int32))) ∧ (Fr n0 L_) ∧ (h_ = h0)
theorem rm23 (l : Launch) (Z : State) (a0 : Array Value) (hw : own_T a0 Z) (a : Addr) (k9 : Int32) (d : Addr) (kd : ClassId) (z1 : Int32) (vs1 : List Value) (cs : Int32) (h0 : Heap) (n0 : Nat) (Z0 : n0 ≤ h0.size) (p_0 : Exa Z h0 a "java/lang/String") (p_1 : Fld Z h0 a "java/lang/String" "coder" "B" (.int (0 : Int32))) (p_2 : Fld Z h0 a "java/lang/String" "value" "[B" (.ref d)) (p_3 : Arv Z h0 d kd .byte z1 vs1 (.int (0 : Int32))) (hk : own_in k9) (hq : ∀ c, own_mc c → ¬ c = k9) (htk : own_tok z1 vs1) (p_7 : Sta Z h0 "java/lang/String" "COMPACT_STRINGS" "Z" (.int cs)) (hcs : ¬ cs = (0 : Int32)) :
    own_Met l yy17 jdk_42_method_80_code 3 (some .int) [] rRrm23 Z h0 #[(.ref a), (.int k9), (.int (0 : Int32))] (Q23 Z h0 n0) := by
  refine own_openN pn_23 (own := "java/lang/String") rfl ?_
  intro p e s m below meth c s₁ hx hby hlk hml hret hZ hown hnm X0 e0
  have N0 := Fr.nil n0
  rw [ef_rm23 m a k9]
  show own_Goes p e below s (Q23 Z h0 n0) rRrm23.cells rRrm23.slots s₁ (mkF m 0 #[rv a, iv k9, iv (0 : Int32)] [])
  refine own_st (fun _ kk_ => XS.aloadN X0.here hx rfl (hb hby d23_0) rfl rfl kk_) ?_
  show gN s₁ (mkF m 1 #[rv a, iv k9, iv (0 : Int32)] [(.ref a)])
  obtain ⟨cq1, kq1, q1a, q1b, q1c⟩ := isOf hZ e0 p_0
  obtain ⟨T1, L1, v1, X1, hQ1, st1⟩ := own_cut (X0.virtualBack hx (y := yy1) (z := yy1) hown (own_mw hZ hw 66 rfl) (own_mw hZ hw 67 rfl) (notFace_of_selects (args := #[]) (own_mw hZ hw 69 rfl)) (own_mw hZ hw 69 rfl) (own_mw hZ hw 68 rfl) (by decide) (backOf (W := 0) (rm14 l Z a0 hw (a) (cs) h0 n0 Z0 p_1 p_7 (by assumption)) hZ (own_w hw 70 rfl) (own_w hw 12 rfl) (by decide) (by decide)) q1a q1c (g := (mkF m 1 #[rv a, iv k9, iv (0 : Int32)] [(.ref a)])) rfl (by rw [hml]; rfl) (Steps.refl _) (argsL := []) (rest := []) (lenOf pd_5 rfl) rfl (own_bl rfl) (hb hby d23_1) (fun _ _ => ⟨rfl, e0, own_bl rfl, own_bl rfl⟩))
  obtain ⟨rfl, Nq1, eq1⟩ := hQ1
  have N1 := Fr.app N0 Nq1
  refine own_sTN st1 ?_
  refine own_st (fun _ kk_ => XS.ifNo X1.here hx rfl (hb hby d23_4) rfl (XT.i0_eq_f (by decide)) (XS.aloadN X1.here hx rfl (hb hby d23_7) rfl rfl kk_)) ?_
  show gN T1 (mkF m 8 #[rv a, iv k9, iv (0 : Int32)] [(.ref a)])
  obtain ⟨T2, X2, e2, st2⟩ := getF X1 hx hZ hown (host := "") (Or.inl (own_w hw 32 rfl)) Via.refl eq1 p_2 (g := (mkF m 8 #[rv a, iv k9, iv (0 : Int32)] [(.ref a)])) rfl rfl (hb hby d23_8)
  refine own_st st2 ?_
  refine own_st (fun _ kk_ => XS.iloadN X2.here hx rfl (hb hby d23_11) rfl (XS.iloadN X2.here hx rfl (hb hby d23_12) rfl (XS.aloadN X2.here hx rfl (hb hby d23_13) rfl rfl kk_))) ?_
  show gN T2 (mkF m 14 #[rv a, iv k9, iv (0 : Int32)] [(.ref a), (.int (0 : Int32)), (.int k9), (.ref d)])
  obtain ⟨cq3, kq3, q3a, q3b, q3c⟩ := isOf hZ e2 p_0
  obtain ⟨T3, L3, v3, X3, hQ3, st3⟩ := own_cut (X2.virtualBack hx (y := yy2) (z := yy2) hown (own_mw hZ hw 111 rfl) (own_mw hZ hw 112 rfl) (notFace_of_selects (args := #[]) (own_mw hZ hw 114 rfl)) (own_mw hZ hw 114 rfl) (own_mw hZ hw 113 rfl) (by decide) (backOf (W := 3) (rm24 l Z a0 hw (a) (d) (kd) (z1) (vs1) (cs) h0 n0 Z0 p_0 p_1 p_2 p_3 p_7 (by assumption)) hZ (own_w hw 115 rfl) (own_w hw 12 rfl) (by decide) (by decide)) q3a q3c (g := (mkF m 14 #[rv a, iv k9, iv (0 : Int32)] [(.ref a), (.int (0 : Int32)), (.int k9), (.ref d)])) rfl (by rw [hml]; rfl) (Steps.refl _) (argsL := []) (rest := [(.int (0 : Int32)), (.int k9), (.ref d)]) (lenOf pd_9 rfl) rfl (own_bl rfl) (hb hby d23_14) (fun _ _ => ⟨rfl, e2, own_bl rfl, own_bl rfl⟩))
  obtain ⟨rfl, Nq3, eq3⟩ := hQ3
  have N3 := Fr.app N1 Nq3
  refine own_sTN st3 ?_
  obtain ⟨T4, L4, v4, X4, hQ4, st4⟩ := own_cutA (Jvm.LawKit.callS X3 hx (y := yy16) hown (own_mw hZ hw 121 rfl) (own_mw hZ hw 122 rfl) (own_mw hZ hw 17 rfl) (own_mw hZ hw 123 rfl) (by decide) (backOf (W := 0) (rm26 l Z a0 hw (d) (k9) (z1) (kd) (vs1) h0 n0 Z0 p_3 hk hq htk) hZ (own_w hw 123 rfl) (own_w hw 17 rfl) (by decide) (by decide)) (g := (mkF m 17 #[rv a, iv k9, iv (0 : Int32)] [(.int z1), (.int (0 : Int32)), (.int k9), (.ref d)])) rfl (by rw [hml]; rfl) (argsL := [(.ref d), (.int k9), (.int (0 : Int32)), (.int z1)]) (rest := []) (lenOf pd_8 rfl) rfl (own_bl rfl) (hb hby d23_17) (fun _ _ => ⟨rfl, eq3, own_bl rfl, own_bl rfl⟩))
  obtain ⟨rfl, Nq4, eq4⟩ := hQ4
  have N4 := Fr.app N3 Nq4
  refine own_st st4 ?_
  refine own_st (fun _ kk_ => XS.goto X4.here hx rfl (pc0 := 20) (pc' := 36) rfl (hb hby d23_20) (by decide) (by decide) kk_) ?_
  show gN T4 (mkF m 36 #[rv a, iv k9, iv (0 : Int32)] [(.int (-1 : Int32))])
  refine own_retI X4 hx hlk hret (hb hby d23_36) (by decide) (by decide) ?_
  show Q23 Z h0 n0 (some (.int (-1 : Int32))) T4.heap _
  rw [eq4]
  exact ⟨rfl, N4, rfl⟩
abbrev rRrm22 : Room := { frames := 3, cells := 0, slots := 0, locals := 46 }
abbrev c22 (n : Nat) (i : ClassFile.Instr) (k : Nat) : Prop := decode jdk_42_method_79_code n = .ok (i, k)
theorem d22_0 : c22 0 (.aload_n 0) 1 := by decide +kernel
theorem d22_1 : c22 1 (.iload_n 1) 1 := by decide +kernel
theorem d22_2 : c22 2 (.iconst 0) 1 := by decide +kernel
theorem d22_3 : c22 3 (.invokevirtual 633) 3 := by decide +kernel
theorem d22_6 : c22 6 (.ireturn) 1 := by decide +kernel
theorem pn_22 : plainFor yy18 = true := by decide +kernel
theorem ef_rm22 (m : MethodId) (a : Addr) (k9 : Int32) : entryFrame m #[(.ref a), (.int k9)] 2 = (mkF m 0 #[rv a, iv k9] []) := by first | (simp [entryFrame, mkF, argsToLocals, Value.category]; done) | rfl
def Q22 (Z : State) (h0 : Heap) (n0 : Nat) (v_ : Option Value) (h_ : Heap) (L_ : List Loc) : Prop := (v_ = some (.int (-1 : Int32))) ∧ (Fr n0 L_) ∧ (h_ = h0)
theorem rm22 (l : Launch) (Z : State) (a0 : Array Value) (hw : own_T a0 Z) (a : Addr) (k9 : Int32) (d : Addr) (kd : ClassId) (z1 : Int32) (vs1 : List Value) (cs : Int32) (h0 : Heap) (n0 : Nat) (Z0 : n0 ≤ h0.size) (p_0 : Exa Z h0 a "java/lang/String") (p_1 : Fld Z h0 a "java/lang/String" "coder" "B" (.int (0 : Int32))) (p_2 : Fld Z h0 a "java/lang/String" "value" "[B" (.ref d)) (p_3 : Arv Z h0 d kd .byte z1 vs1 (.int (0 : Int32))) (hk : own_in k9) (hq : ∀ c, own_mc c → ¬ c = k9) (htk : own_tok z1 vs1) (p_7 : Sta Z h0 "java/lang/String" "COMPACT_STRINGS" "Z" (.int cs)) (hcs : ¬ cs = (0 : Int32)) :
    own_Met l yy18 jdk_42_method_79_code 2 (some .int) [] rRrm22 Z h0 #[(.ref a), (.int k9)] (Q22 Z h0 n0) := by
  refine own_openN pn_22 (own := "java/lang/String") rfl ?_
  intro p e s m below meth c s₁ hx hby hlk hml hret hZ hown hnm X0 e0
  have N0 := Fr.nil n0
  rw [ef_rm22 m a k9]
  show own_Goes p e below s (Q22 Z h0 n0) rRrm22.cells rRrm22.slots s₁ (mkF m 0 #[rv a, iv k9] [])
  refine own_st (fun _ kk_ => XS.aloadN X0.here hx rfl (hb hby d22_0) rfl rfl (XS.iloadN X0.here hx rfl (hb hby d22_1) rfl (XS.iconst X0.here hx rfl (hb hby d22_2) kk_))) ?_
  show gN s₁ (mkF m 3 #[rv a, iv k9] [(.int (0 : Int32)), (.int k9), (.ref a)])
  obtain ⟨cq1, kq1, q1a, q1b, q1c⟩ := isOf hZ e0 p_0
  obtain ⟨T1, L1, v1, X1, hQ1, st1⟩ := own_cut (X0.virtualBack hx (y := yy17) (z := yy17) hown (own_mw hZ hw 106 rfl) (own_mw hZ hw 107 rfl) (notFace_of_selects (args := #[]) (own_mw hZ hw 109 rfl)) (own_mw hZ hw 109 rfl) (own_mw hZ hw 108 rfl) (by decide) (backOf (W := 0) (rm23 l Z a0 hw (a) (k9) (d) (kd) (z1) (vs1) (cs) h0 n0 Z0 p_0 p_1 p_2 p_3 hk hq htk p_7 (by assumption)) hZ (own_w hw 110 rfl) (own_w hw 12 rfl) (by decide) (by decide)) q1a q1c (g := (mkF m 3 #[rv a, iv k9] [(.int (0 : Int32)), (.int k9), (.ref a)])) rfl (by rw [hml]; rfl) (Steps.refl _) (argsL := [(.int k9), (.int (0 : Int32))]) (rest := []) (lenOf pd_7 rfl) rfl (own_bl rfl) (hb hby d22_3) (fun _ _ => ⟨rfl, e0, own_bl rfl, own_bl rfl⟩))
  obtain ⟨rfl, Nq1, eq1⟩ := hQ1
  have N1 := Fr.app N0 Nq1
  refine own_sTN st1 ?_
  refine own_retI X1 hx hlk hret (hb hby d22_6) (by decide) (by decide) ?_
  show Q22 Z h0 n0 (some (.int (-1 : Int32))) T1.heap _
  rw [eq1]
  exact ⟨rfl, N1, rfl⟩
abbrev rRrm12 : Room := { frames := 0, cells := 0, slots := 0, locals := 0 }
abbrev c12 (n : Nat) (i : ClassFile.Instr) (k : Nat) : Prop := decode jdk_42_method_55_code n = .ok (i, k)
theorem d12_0 : c12 0 (.aload_n 0) 1 := by decide +kernel
theorem d12_1 : c12 1 (.getfield 9) 3 := by decide +kernel
theorem d12_4 : c12 4 (.arraylength) 1 := by decide +kernel
theorem d12_5 : c12 5 (.ifCond .ne 7) 3 := by decide +kernel
theorem d12_12 : c12 12 (.iconst 0) 1 := by decide +kernel
theorem d12_13 : c12 13 (.ireturn) 1 := by decide +kernel
theorem pn_12 : plainFor yy19 = true := by decide +kernel
theorem ef_rm12 (m : MethodId) (a : Addr) : entryFrame m #[(.ref a)] 1 = (mkF m 0 #[rv a] []) := by first | (simp [entryFrame, mkF, argsToLocals, Value.category]; done) | rfl
def Q12 (Z : State) (h0 : Heap) (n0 : Nat) (v_ : Option Value) (h_ : Heap) (L_ : List Loc) : Prop := (v_ = some (.int (0 : Int32))) ∧ (Fr n0 L_) ∧ (h_ = h0)
theorem rm12 (l : Launch) (Z : State) (a0 : Array Value) (hw : own_T a0 Z) (a : Addr) (d : Addr) (kd : ClassId) (z1 : Int32) (vs1 : List Value) (h0 : Heap) (n0 : Nat) (Z0 : n0 ≤ h0.size) (p_0 : Exa Z h0 a "java/lang/String") (p_1 : Fld Z h0 a "java/lang/String" "coder" "B" (.int (0 : Int32))) (p_2 : Fld Z h0 a "java/lang/String" "value" "[B" (.ref d)) (p_3 : Arv Z h0 d kd .byte z1 vs1 (.int (0 : Int32))) (hz : ¬ z1 = 0) :
    own_Met l yy19 jdk_42_method_55_code 1 (some .boolean) [] rRrm12 Z h0 #[(.ref a)] (Q12 Z h0 n0) := by
  refine own_openN pn_12 (own := "java/lang/String") rfl ?_
  intro p e s m below meth c s₁ hx hby hlk hml hret hZ hown hnm X0 e0
  have N0 := Fr.nil n0
  rw [ef_rm12 m a]
  show own_Goes p e below s (Q12 Z h0 n0) rRrm12.cells rRrm12.slots s₁ (mkF m 0 #[rv a] [])
  refine own_st (fun _ kk_ => XS.aloadN X0.here hx rfl (hb hby d12_0) rfl rfl kk_) ?_
  show gN s₁ (mkF m 1 #[rv a] [(.ref a)])
  obtain ⟨T1, X1, e1, st1⟩ := getF X0 hx hZ hown (host := "") (Or.inl (own_w hw 32 rfl)) Via.refl e0 p_2 (g := (mkF m 1 #[rv a] [(.ref a)])) rfl rfl (hb hby d12_1)
  refine own_st st1 ?_
  obtain ⟨cl2, Ar2, -, Sz2, Nn2, -, -⟩ := id p_3
  refine own_st (fun _ kk_ => X1.arraylength hx (by rw [e1]; exact Ar2.1) (State.isArrayOf_alike hZ.alike Ar2.2.1) (g := (mkF m 4 #[rv a] [(.ref d)])) rfl rfl (hb hby d12_4) _ kk_) ?_
  rw [len_of Sz2 Nn2]
  show gN T1 (mkF m 5 #[rv a] [(.int z1)])
  refine own_st (fun _ kk_ => XS.ifYes X1.here hx rfl (pc0 := 5) (pc' := 12) rfl (hb hby d12_5) rfl (XT.i0_ne_t hz) (by decide) (by decide) (XS.iconst X1.here hx rfl (hb hby d12_12) kk_)) ?_
  show gN T1 (mkF m 13 #[rv a] [(.int (0 : Int32))])
  refine own_retN X1 hx hlk (t := .boolean) hret (by simp) (hb hby d12_13) (by decide) (by decide) ?_
  show Q12 Z h0 n0 (some (.int (nar .boolean (0 : Int32)))) T1.heap _
  rw [e1]
  exact ⟨rfl, N0, rfl⟩
abbrev rRrm10 : Room := { frames := 5, cells := 0, slots := 0, locals := 72 }
abbrev c10 (n : Nat) (i : ClassFile.Instr) (k : Nat) : Prop := decode prog_2_method_7_code n = .ok (i, k)
theorem d10_0 : c10 0 (.aload_n 1) 1 := by decide +kernel
theorem d10_1 : c10 1 (.aload_n 0) 1 := by decide +kernel
theorem d10_2 : c10 2 (.invokestatic 73) 3 := by decide +kernel
theorem d10_5 : c10 5 (.pop) 1 := by decide +kernel
theorem d10_6 : c10 6 (.aload_n 1) 1 := by decide +kernel
theorem d10_7 : c10 7 (.invokevirtual 164) 3 := by decide +kernel
theorem d10_10 : c10 10 (.ifCond .eq 17) 3 := by decide +kernel
theorem d10_27 : c10 27 (.aload_n 1) 1 := by decide +kernel
theorem d10_28 : c10 28 (.invokevirtual 92) 3 := by decide +kernel
theorem d10_31 : c10 31 (.aload_n 1) 1 := by decide +kernel
theorem d10_32 : c10 32 (.invokevirtual 55) 3 := by decide +kernel
theorem d10_35 : c10 35 (.ifCond .eq 21) 3 := by decide +kernel
theorem d10_38 : c10 38 (.aload_n 1) 1 := by decide +kernel
theorem d10_39 : c10 39 (.bipush 44) 2 := by decide +kernel
theorem d10_41 : c10 41 (.invokevirtual 88) 3 := by decide +kernel
theorem d10_44 : c10 44 (.ifCond .ge 12) 3 := by decide +kernel
theorem d10_47 : c10 47 (.aload_n 1) 1 := by decide +kernel
theorem d10_48 : c10 48 (.bipush 61) 2 := by decide +kernel
theorem d10_50 : c10 50 (.invokevirtual 88) 3 := by decide +kernel
theorem d10_53 : c10 53 (.ifCond .lt 18) 3 := by decide +kernel
theorem d10_71 : c10 71 (.return_) 1 := by decide +kernel
theorem pd_10 : parseMethodDescriptor "(Ljava/lang/Object;Ljava/lang/String;)Ljava/lang/Object;" = some ⟨[(.object "java/lang/Object"), (.object "java/lang/String")], some (.object "java/lang/Object")⟩ := by decide +kernel
theorem pd_11 : parseMethodDescriptor "()Ljava/lang/String;" = some ⟨[], some (.object "java/lang/String")⟩ := by decide +kernel
theorem pd_12 : parseMethodDescriptor "(Ljava/lang/Object;)Z" = some ⟨[(.object "java/lang/Object")], some .boolean⟩ := by decide +kernel
theorem pn_10 : plainFor yy20 = true := by decide +kernel
theorem ef_rm10 (m : MethodId) (nm : Addr) (a : Addr) : entryFrame m #[(.ref nm), (.ref a)] 2 = (mkF m 0 #[rv nm, rv a] []) := by first | (simp [entryFrame, mkF, argsToLocals, Value.category]; done) | rfl
def Q10 (Z : State) (h0 : Heap) (n0 : Nat) (v_ : Option Value) (h_ : Heap) (L_ : List Loc) : Prop := (v_ = none) ∧ (Fr n0 L_) ∧ (h_ = h0)
theorem rm10 (l : Launch) (Z : State) (a0 : Array Value) (hw : own_T a0 Z) (nm : Addr) (a : Addr) (d : Addr) (kd : ClassId) (z1 : Int32) (vs1 : List Value) (ci : Addr) (ca : Addr) (ka : ClassId) (cs : Int32) (h0 : Heap) (n0 : Nat) (Z0 : n0 ≤ h0.size) (p_0 : Exa Z h0 a "java/lang/String") (p_1 : Fld Z h0 a "java/lang/String" "coder" "B" (.int (0 : Int32))) (p_2 : Fld Z h0 a "java/lang/String" "value" "[B" (.ref d)) (p_3 : Arv Z h0 d kd .byte z1 vs1 (.int (0 : Int32))) (p_4 : Sta Z h0 "java/lang/CharacterDataLatin1" "instance" "Ljava/lang/CharacterDataLatin1;" (.ref ci)) (p_5 : Exa Z h0 ci "java/lang/CharacterDataLatin1") (p_6 : Sta Z h0 "java/lang/CharacterDataLatin1" "A" "[I" (.ref ca)) (p_7 : Arv Z h0 ca ka .int (256 : Int32) own_A (.int (0 : Int32))) (htk : own_tok z1 vs1) (p_9 : Sta Z h0 "java/lang/String" "COMPACT_STRINGS" "Z" (.int cs)) (hcs : ¬ cs = (0 : Int32)) :
    own_Met l yy20 prog_2_method_7_code 2 none [] rRrm10 Z h0 #[(.ref nm), (.ref a)] (Q10 Z h0 n0) := by
  refine own_openN pn_10 (own := "com/example/firm_duties/firmduties/BusinessContext") rfl ?_
  intro p e s m below meth c s₁ hx hby hlk hml hret hZ hown hnm X0 e0
  have N0 := Fr.nil n0
  rw [ef_rm10 m nm a]
  show own_Goes p e below s (Q10 Z h0 n0) rRrm10.cells rRrm10.slots s₁ (mkF m 0 #[rv nm, rv a] [])
  obtain ⟨c9, c8, g0, g1, g2, g3, g4⟩ := htk.e
  refine own_st (fun _ kk_ => XS.aloadN X0.here hx rfl (hb hby d10_0) rfl rfl (XS.aloadN X0.here hx rfl (hb hby d10_1) rfl rfl kk_)) ?_
  show gN s₁ (mkF m 2 #[rv nm, rv a] [(.ref nm), (.ref a)])
  obtain ⟨T1, L1, v1, X1, hQ1, st1⟩ := own_cutA (Jvm.LawKit.callS X0 hx (y := yy14) hown (own_mw hZ hw 52 rfl) (own_mw hZ hw 53 rfl) (own_mw hZ hw 54 rfl) (own_mw hZ hw 55 rfl) (by decide) (backOf (W := 0) (rm11 l Z a0 hw (a) (nm) h0 n0 Z0) hZ (own_w hw 55 rfl) (own_w hw 54 rfl) (by decide) (by decide)) (g := (mkF m 2 #[rv nm, rv a] [(.ref nm), (.ref a)])) rfl (by rw [hml]; rfl) (argsL := [(.ref a), (.ref nm)]) (rest := []) (lenOf pd_10 rfl) rfl (own_bl rfl) (hb hby d10_2) (fun _ _ => ⟨rfl, e0, own_bl rfl, own_bl rfl⟩))
  obtain ⟨rfl, Nq1, eq1⟩ := hQ1
  have N1 := Fr.app N0 Nq1
  refine own_st st1 ?_
  refine own_st (fun _ kk_ => XS.pop X1.here hx rfl (hb hby d10_5) rfl rfl (XS.aloadN X1.here hx rfl (hb hby d10_6) rfl rfl kk_)) ?_
  show gN T1 (mkF m 7 #[rv nm, rv a] [(.ref a)])
  obtain ⟨cq2, kq2, q2a, q2b, q2c⟩ := isOf hZ eq1 p_0
  obtain ⟨T2, L2, v2, X2, hQ2, st2⟩ := own_cut (X1.virtualBack hx (y := yy19) (z := yy19) hown (own_mw hZ hw 56 rfl) (own_mw hZ hw 57 rfl) (notFace_of_selects (args := #[]) (own_mw hZ hw 59 rfl)) (own_mw hZ hw 59 rfl) (own_mw hZ hw 58 rfl) (by decide) (backOf (W := 0) (rm12 l Z a0 hw (a) (d) (kd) (z1) (vs1) h0 n0 Z0 p_0 p_1 p_2 p_3 (own_pz g0)) hZ (own_w hw 60 rfl) (own_w hw 12 rfl) (by decide) (by decide)) q2a q2c (g := (mkF m 7 #[rv nm, rv a] [(.ref a)])) rfl (by rw [hml]; rfl) (Steps.refl _) (argsL := []) (rest := []) (lenOf pd_5 rfl) rfl (own_bl rfl) (hb hby d10_7) (fun _ _ => ⟨rfl, eq1, own_bl rfl, own_bl rfl⟩))
  obtain ⟨rfl, Nq2, eq2⟩ := hQ2
  have N2 := Fr.app N1 Nq2
  refine own_sTN st2 ?_
  refine own_st (fun _ kk_ => XS.ifYes X2.here hx rfl (pc0 := 10) (pc' := 27) rfl (hb hby d10_10) rfl (XT.i0_eq_t (by decide)) (by decide) (by decide) (XS.aloadN X2.here hx rfl (hb hby d10_27) rfl rfl kk_)) ?_
  show gN T2 (mkF m 28 #[rv nm, rv a] [(.ref a)])
  obtain ⟨cq3, kq3, q3a, q3b, q3c⟩ := isOf hZ eq2 p_0
  obtain ⟨T3, L3, v3, X3, hQ3, st3⟩ := own_cut (X2.virtualBack hx (y := yy11) (z := yy11) hown (own_mw hZ hw 61 rfl) (own_mw hZ hw 62 rfl) (notFace_of_selects (args := #[]) (own_mw hZ hw 64 rfl)) (own_mw hZ hw 64 rfl) (own_mw hZ hw 63 rfl) (by decide) (backOf (W := 0) (rm13 l Z a0 hw (a) (d) (kd) (z1) (vs1) (ci) (ca) (ka) (c9) (c8) (cs) h0 n0 Z0 p_0 p_1 p_2 p_3 p_4 p_5 p_6 p_7 g0 g1 g2 g3 g4 p_9 (by assumption)) hZ (own_w hw 65 rfl) (own_w hw 12 rfl) (by decide) (by decide)) q3a q3c (g := (mkF m 28 #[rv nm, rv a] [(.ref a)])) rfl (by rw [hml]; rfl) (Steps.refl _) (argsL := []) (rest := []) (lenOf pd_11 rfl) rfl (own_bl rfl) (hb hby d10_28) (fun _ _ => ⟨rfl, eq2, own_bl rfl, own_bl rfl⟩))
  obtain ⟨rfl, Nq3, eq3⟩ := hQ3
  have N3 := Fr.app N2 Nq3
  refine own_sTN st3 ?_
  refine own_st (fun _ kk_ => XS.aloadN X3.here hx rfl (hb hby d10_31) rfl rfl kk_) ?_
  show gN T3 (mkF m 32 #[rv nm, rv a] [(.ref a), (.ref a)])
  obtain ⟨cq4, kq4, q4a, q4b, q4c⟩ := isOf hZ eq3 p_0
  obtain ⟨T4, L4, v4, X4, hQ4, st4⟩ := own_cut (X3.virtualBack hx (y := yy12) (z := yy12) hown (own_mw hZ hw 96 rfl) (own_mw hZ hw 97 rfl) (notFace_of_selects (args := #[]) (own_mw hZ hw 99 rfl)) (own_mw hZ hw 99 rfl) (own_mw hZ hw 98 rfl) (by decide) (backOf (W := 0) (rm21 l Z a0 hw (a) h0 n0 Z0) hZ (own_w hw 100 rfl) (own_w hw 12 rfl) (by decide) (by decide)) q4a q4c (g := (mkF m 32 #[rv nm, rv a] [(.ref a), (.ref a)])) rfl (by rw [hml]; rfl) (Steps.refl _) (argsL := [(.ref a)]) (rest := []) (lenOf pd_12 rfl) rfl (own_bl rfl) (hb hby d10_32) (fun _ _ => ⟨rfl, eq3, own_bl rfl, own_bl rfl⟩))
  obtain ⟨rfl, Nq4, eq4⟩ := hQ4
  have N4 := Fr.app N3 Nq4
  refine own_sTN st4 ?_
  refine own_st (fun _ kk_ => XS.ifNo X4.here hx rfl (hb hby d10_35) rfl (XT.i0_eq_f (by decide)) (XS.aloadN X4.here hx rfl (hb hby d10_38) rfl rfl (XS.bipush X4.here hx rfl (hb hby d10_39) kk_))) ?_
  show gN T4 (mkF m 41 #[rv nm, rv a] [(.int (44 : Int32)), (.ref a)])
  obtain ⟨cq5, kq5, q5a, q5b, q5c⟩ := isOf hZ eq4 p_0
  obtain ⟨T5, L5, v5, X5, hQ5, st5⟩ := own_cut (X4.virtualBack hx (y := yy18) (z := yy18) hown (own_mw hZ hw 101 rfl) (own_mw hZ hw 102 rfl) (notFace_of_selects (args := #[]) (own_mw hZ hw 104 rfl)) (own_mw hZ hw 104 rfl) (own_mw hZ hw 103 rfl) (by decide) (backOf (W := 0) (rm22 l Z a0 hw (a) ((44 : Int32)) (d) (kd) (z1) (vs1) (cs) h0 n0 Z0 p_0 p_1 p_2 p_3 ⟨by decide, by decide⟩ (fun _ h => own_n44 h) htk p_9 (by assumption)) hZ (own_w hw 105 rfl) (own_w hw 12 rfl) (by decide) (by decide)) q5a q5c (g := (mkF m 41 #[rv nm, rv a] [(.int (44 : Int32)), (.ref a)])) rfl (by rw [hml]; rfl) (Steps.refl _) (argsL := [(.int (44 : Int32))]) (rest := []) (lenOf pd_1 rfl) rfl (own_bl rfl) (hb hby d10_41) (fun _ _ => ⟨rfl, eq4, own_bl rfl, own_bl rfl⟩))
  obtain ⟨rfl, Nq5, eq5⟩ := hQ5
  have N5 := Fr.app N4 Nq5
  refine own_sTN st5 ?_
  refine own_st (fun _ kk_ => XS.ifNo X5.here hx rfl (hb hby d10_44) rfl (XT.i0_ge_f (by decide)) (XS.aloadN X5.here hx rfl (hb hby d10_47) rfl rfl (XS.bipush X5.here hx rfl (hb hby d10_48) kk_))) ?_
  show gN T5 (mkF m 50 #[rv nm, rv a] [(.int (61 : Int32)), (.ref a)])
  obtain ⟨cq6, kq6, q6a, q6b, q6c⟩ := isOf hZ eq5 p_0
  obtain ⟨T6, L6, v6, X6, hQ6, st6⟩ := own_cut (X5.virtualBack hx (y := yy18) (z := yy18) hown (own_mw hZ hw 101 rfl) (own_mw hZ hw 102 rfl) (notFace_of_selects (args := #[]) (own_mw hZ hw 104 rfl)) (own_mw hZ hw 104 rfl) (own_mw hZ hw 103 rfl) (by decide) (backOf (W := 0) (rm22 l Z a0 hw (a) ((61 : Int32)) (d) (kd) (z1) (vs1) (cs) h0 n0 Z0 p_0 p_1 p_2 p_3 ⟨by decide, by decide⟩ (fun _ h => own_n61 h) htk p_9 (by assumption)) hZ (own_w hw 105 rfl) (own_w hw 12 rfl) (by decide) (by decide)) q6a q6c (g := (mkF m 50 #[rv nm, rv a] [(.int (61 : Int32)), (.ref a)])) rfl (by rw [hml]; rfl) (Steps.refl _) (argsL := [(.int (61 : Int32))]) (rest := []) (lenOf pd_1 rfl) rfl (own_bl rfl) (hb hby d10_50) (fun _ _ => ⟨rfl, eq5, own_bl rfl, own_bl rfl⟩))
  obtain ⟨rfl, Nq6, eq6⟩ := hQ6
  have N6 := Fr.app N5 Nq6
  refine own_sTN st6 ?_
  refine own_st (fun _ kk_ => XS.ifYes X6.here hx rfl (pc0 := 53) (pc' := 71) rfl (hb hby d10_53) rfl (XT.i0_lt_t (by decide)) (by decide) (by decide) kk_) ?_
  show gN T6 (mkF m 71 #[rv nm, rv a] [])
  refine own_ret0 X6 hx hlk hret (hb hby d10_71) (by decide) (by decide) ?_
  show Q10 Z h0 n0 none T6.heap _
  rw [eq6]
  exact ⟨rfl, N6, rfl⟩
abbrev rRrm2 : Room := { frames := 0, cells := 0, slots := 0, locals := 0 }
abbrev c2 (n : Nat) (i : ClassFile.Instr) (k : Nat) : Prop := decode method_2_code n = .ok (i, k)
theorem d2_0 : c2 0 (.iload_n 0) 1 := by decide +kernel
theorem d2_1 : c2 1 (.ifCond .ne 6) 3 := by decide +kernel
theorem d2_4 : c2 4 (.bipush 97) 2 := by decide +kernel
theorem d2_6 : c2 6 (.ireturn) 1 := by decide +kernel
theorem d2_7 : c2 7 (.iload_n 0) 1 := by decide +kernel
theorem d2_8 : c2 8 (.iconst 1) 1 := by decide +kernel
theorem d2_9 : c2 9 (.if_icmp .ne 6) 3 := by decide +kernel
theorem d2_12 : c2 12 (.bipush 98) 2 := by decide +kernel
theorem d2_14 : c2 14 (.ireturn) 1 := by decide +kernel
theorem d2_15 : c2 15 (.iload_n 0) 1 := by decide +kernel
theorem d2_16 : c2 16 (.iconst 2) 1 := by decide +kernel
theorem d2_17 : c2 17 (.if_icmp .ne 6) 3 := by decide +kernel
theorem d2_20 : c2 20 (.bipush 42) 2 := by decide +kernel
theorem d2_22 : c2 22 (.ireturn) 1 := by decide +kernel
theorem d2_23 : c2 23 (.bipush 33) 2 := by decide +kernel
theorem d2_25 : c2 25 (.ireturn) 1 := by decide +kernel
theorem pn_2 : plainFor yy21 = true := by decide +kernel
theorem ef_rm2 (m : MethodId) (x9 : Int32) : entryFrame m #[(.int x9)] 1 = (mkF m 0 #[iv x9] []) := by first | (simp [entryFrame, mkF, argsToLocals, Value.category]; done) | rfl
def Q2 (Z : State) (x9 : Int32) (h0 : Heap) (n0 : Nat) (v_ : Option Value) (h_ : Heap) (L_ : List Loc) : Prop := (v_ = some (.int (own_sym x9))) ∧ (Fr n0 L_) ∧ (h_ = h0)
theorem rm2 (l : Launch) (Z : State) (a0 : Array Value) (hw : own_T a0 Z) (x9 : Int32) (h0 : Heap) (n0 : Nat) (Z0 : n0 ≤ h0.size) :
    own_Met l yy21 method_2_code 1 (some .char) [] rRrm2 Z h0 #[(.int x9)] (Q2 Z x9 h0 n0) := by
  refine own_openN pn_2 (own := "com/example/firm_duties/firmduties/BusinessContextMatchesPinLaw") rfl ?_
  intro p e s m below meth c s₁ hx hby hlk hml hret hZ hown hnm X0 e0
  have N0 := Fr.nil n0
  rw [ef_rm2 m x9]
  show own_Goes p e below s (Q2 Z x9 h0 n0) rRrm2.cells rRrm2.slots s₁ (mkF m 0 #[iv x9] [])
  refine own_st (fun _ kk_ => XS.iloadN X0.here hx rfl (hb hby d2_0) rfl kk_) ?_
  show gN s₁ (mkF m 1 #[iv x9] [(.int x9)])
  rcases Classical.em (x9 = (0 : Int32)) with q0 | q0
  · refine own_st (fun _ kk_ => XS.ifNo X0.here hx rfl (hb hby d2_1) rfl (XT.i0_ne_f q0) (XS.bipush X0.here hx rfl (hb hby d2_4) kk_)) ?_
    show gN s₁ (mkF m 6 #[iv x9] [(.int (97 : Int32))])
    refine own_retN X0 hx hlk (t := .char) hret (by simp) (hb hby d2_6) (by decide) (by decide) ?_
    show Q2 Z x9 h0 n0 (some (.int (nar .char (97 : Int32)))) s₁.heap _
    rw [e0]
    exact ⟨by rw [own_sym, if_pos q0]; rfl, N0, rfl⟩
  · refine own_st (fun _ kk_ => XS.ifYes X0.here hx rfl (pc0 := 1) (pc' := 7) rfl (hb hby d2_1) rfl (XT.i0_ne_t q0) (by decide) (by decide) (XS.iloadN X0.here hx rfl (hb hby d2_7) rfl (XS.iconst X0.here hx rfl (hb hby d2_8) kk_))) ?_
    show gN s₁ (mkF m 9 #[iv x9] [(.int (1 : Int32)), (.int x9)])
    rcases Classical.em (x9 = (1 : Int32)) with q1 | q1
    · refine own_st (fun _ kk_ => XS.icmpNo X0.here hx rfl (hb hby d2_9) rfl (XT.ii_ne_f q1) (XS.bipush X0.here hx rfl (hb hby d2_12) kk_)) ?_
      show gN s₁ (mkF m 14 #[iv x9] [(.int (98 : Int32))])
      refine own_retN X0 hx hlk (t := .char) hret (by simp) (hb hby d2_14) (by decide) (by decide) ?_
      show Q2 Z x9 h0 n0 (some (.int (nar .char (98 : Int32)))) s₁.heap _
      rw [e0]
      exact ⟨by rw [own_sym, if_neg q0, if_pos q1]; rfl, N0, rfl⟩
    · refine own_st (fun _ kk_ => XS.icmpYes X0.here hx rfl (pc0 := 9) (pc' := 15) rfl (hb hby d2_9) rfl (XT.ii_ne_t q1) (by decide) (by decide) (XS.iloadN X0.here hx rfl (hb hby d2_15) rfl (XS.iconst X0.here hx rfl (hb hby d2_16) kk_))) ?_
      show gN s₁ (mkF m 17 #[iv x9] [(.int (2 : Int32)), (.int x9)])
      rcases Classical.em (x9 = (2 : Int32)) with q2 | q2
      · refine own_st (fun _ kk_ => XS.icmpNo X0.here hx rfl (hb hby d2_17) rfl (XT.ii_ne_f q2) (XS.bipush X0.here hx rfl (hb hby d2_20) kk_)) ?_
        show gN s₁ (mkF m 22 #[iv x9] [(.int (42 : Int32))])
        refine own_retN X0 hx hlk (t := .char) hret (by simp) (hb hby d2_22) (by decide) (by decide) ?_
        show Q2 Z x9 h0 n0 (some (.int (nar .char (42 : Int32)))) s₁.heap _
        rw [e0]
        exact ⟨by rw [own_sym, if_neg q0, if_neg q1, if_pos q2]; rfl, N0, rfl⟩
      · refine own_st (fun _ kk_ => XS.icmpYes X0.here hx rfl (pc0 := 17) (pc' := 23) rfl (hb hby d2_17) rfl (XT.ii_ne_t q2) (by decide) (by decide) (XS.bipush X0.here hx rfl (hb hby d2_23) kk_)) ?_
        show gN s₁ (mkF m 25 #[iv x9] [(.int (33 : Int32))])
        refine own_retN X0 hx hlk (t := .char) hret (by simp) (hb hby d2_25) (by decide) (by decide) ?_
        show Q2 Z x9 h0 n0 (some (.int (nar .char (33 : Int32)))) s₁.heap _
        rw [e0]
        exact ⟨by rw [own_sym, if_neg q0, if_neg q1, if_neg q2]; rfl, N0, rfl⟩
abbrev rRrm4 : Room := { frames := 0, cells := 0, slots := 0, locals := 0 }
abbrev c4 (n : Nat) (i : ClassFile.Instr) (k : Nat) : Prop := decode jdk_43_method_3_code n = .ok (i, k)
theorem d4_0 : c4 0 (.iload_n 0) 1 := by decide +kernel
theorem d4_1 : c4 1 (.sipush 255) 3 := by decide +kernel
theorem d4_4 : c4 4 (.if_icmp .gt 7) 3 := by decide +kernel
theorem d4_7 : c4 7 (.iconst 1) 1 := by decide +kernel
theorem d4_8 : c4 8 (.goto 4) 3 := by decide +kernel
theorem d4_12 : c4 12 (.ireturn) 1 := by decide +kernel
theorem pn_4 : plainFor yy22 = true := by decide +kernel
theorem ef_rm4 (m : MethodId) (c9 : Int32) : entryFrame m #[(.int c9)] 1 = (mkF m 0 #[iv c9] []) := by first | (simp [entryFrame, mkF, argsToLocals, Value.category]; done) | rfl
def Q4 (Z : State) (h0 : Heap) (n0 : Nat) (v_ : Option Value) (h_ : Heap) (L_ : List Loc) : Prop := (v_ = some (.int (1 : Int32))) ∧ (Fr n0 L_) ∧ (h_ = h0)
theorem rm4 (l : Launch) (Z : State) (a0 : Array Value) (hw : own_T a0 Z) (c9 : Int32) (h0 : Heap) (n0 : Nat) (Z0 : n0 ≤ h0.size) (hi : own_in c9) :
    own_Met l yy22 jdk_43_method_3_code 1 (some .boolean) [] rRrm4 Z h0 #[(.int c9)] (Q4 Z h0 n0) := by
  refine own_openN pn_4 (own := "java/lang/StringLatin1") rfl ?_
  intro p e s m below meth c s₁ hx hby hlk hml hret hZ hown hnm X0 e0
  have N0 := Fr.nil n0
  rw [ef_rm4 m c9]
  show own_Goes p e below s (Q4 Z h0 n0) rRrm4.cells rRrm4.slots s₁ (mkF m 0 #[iv c9] [])
  refine own_st (fun _ kk_ => XS.iloadN X0.here hx rfl (hb hby d4_0) rfl (XS.sipush X0.here hx rfl (hb hby d4_1) (XS.icmpNo X0.here hx rfl (hb hby d4_4) rfl (XT.ii_gt_f (own_255b hi)) (XS.iconst X0.here hx rfl (hb hby d4_7) (XS.goto X0.here hx rfl (pc0 := 8) (pc' := 12) rfl (hb hby d4_8) (by decide) (by decide) kk_))))) ?_
  show gN s₁ (mkF m 12 #[iv c9] [(.int (1 : Int32))])
  refine own_retN X0 hx hlk (t := .boolean) hret (by simp) (hb hby d4_12) (by decide) (by decide) ?_
  show Q4 Z h0 n0 (some (.int (nar .boolean (1 : Int32)))) s₁.heap _
  rw [e0]
  exact ⟨rfl, N0, rfl⟩
abbrev rRrm5 : Room := { frames := 0, cells := 1, slots := 1, locals := 0 }
abbrev c5 (n : Nat) (i : ClassFile.Instr) (k : Nat) : Prop := decode jdk_43_method_46_code n = .ok (i, k)
theorem d5_0 : c5 0 (.iconst 1) 1 := by decide +kernel
theorem d5_1 : c5 1 (.newarray .byte) 2 := by decide +kernel
theorem d5_3 : c5 3 (.dup) 1 := by decide +kernel
theorem d5_4 : c5 4 (.iconst 0) 1 := by decide +kernel
theorem d5_5 : c5 5 (.iload_n 0) 1 := by decide +kernel
theorem d5_6 : c5 6 (.i2b) 1 := by decide +kernel
theorem d5_7 : c5 7 (.bastore) 1 := by decide +kernel
theorem d5_8 : c5 8 (.areturn) 1 := by decide +kernel
theorem pn_5 : plainFor yy23 = true := by decide +kernel
theorem ef_rm5 (m : MethodId) (c9 : Int32) : entryFrame m #[(.int c9)] 1 = (mkF m 0 #[iv c9] []) := by first | (simp [entryFrame, mkF, argsToLocals, Value.category]; done) | rfl
def Q5 (Z : State) (c9 : Int32) (h0 : Heap) (n0 : Nat) (v_ : Option Value) (h_ : Heap) (L_ : List Loc) : Prop := ∃ d : Addr, ∃ kd : ClassId, (v_ = some (.ref d)) ∧ (Fr n0 L_) ∧ (Keep h0 h_ []) ∧ (h0.size ≤ d) ∧ (Arv Z h_ d kd .byte (1 : Int32) [(.int (own_by c9))] (.int (0 : Int32)))
theorem rm5 (l : Launch) (Z : State) (a0 : Array Value) (hw : own_T a0 Z) (c9 : Int32) (h0 : Heap) (n0 : Nat) (Z0 : n0 ≤ h0.size) :
    own_Met l yy23 jdk_43_method_46_code 1 (some (.array .byte)) [] rRrm5 Z h0 #[(.int c9)] (Q5 Z c9 h0 n0) := by
  refine own_openN pn_5 (own := "java/lang/StringLatin1") rfl ?_
  intro p e s m below meth c s₁ hx hby hlk hml hret hZ hown hnm X0 e0
  have N0 := Fr.nil n0
  rw [ef_rm5 m c9]
  show own_Goes p e below s (Q5 Z c9 h0 n0) rRrm5.cells rRrm5.slots s₁ (mkF m 0 #[iv c9] [])
  refine own_st (fun _ kk_ => XS.iconst X0.here hx rfl (hb hby d5_0) kk_) ?_
  show gN s₁ (mkF m 1 #[iv c9] [(.int (1 : Int32))])
  obtain ⟨T1, h1, k1, X1, e1, E1, A1, st1⟩ := newP X0 hx hZ (own_w hw 24 rfl) e0 (g := (mkF m 1 #[iv c9] [(.int (1 : Int32))])) rfl (hb hby d5_1) rfl (by decide) (cap := 1) (by decide) (by decide) (by decide) (by decide)
  obtain ⟨b1, gx1⟩ : ∃ z, z = h0.size := ⟨_, rfl⟩
  rw [← gx1] at A1 st1
  have Zs1 : n0 ≤ h1.size := Nat.le_trans Z0 E1.1
  have K1 := (Keep.refl h0 []).ext E1
  have V1 : Arv Z h1 b1 k1 .byte (1 : Int32) [(.int (0 : Int32))] (.int (0 : Int32)) := (Arv.new A1 (by decide)).pad (pad_rep [] (.int (0 : Int32)) 1)
  refine own_st st1 ?_
  refine own_st (fun _ kk_ => XS.dup X1.here hx rfl (hb hby d5_3) rfl rfl (XS.iconst X1.here hx rfl (hb hby d5_4) (XS.iloadN X1.here hx rfl (hb hby d5_5) rfl (XS.i2b X1.here hx rfl (hb hby d5_6) rfl kk_)))) ?_
  show gN T1 (mkF m 7 #[iv c9] [(.int (c9.toInt8.toInt32)), (.int (0 : Int32)), (.ref b1), (.ref b1)])
  obtain ⟨cl2, Ar2, q2, Sz2, Nn2, Hh2, Gg2⟩ := id V1
  obtain ⟨T2, h2, X2, e2, W2, st2⟩ := stB X1 hx hZ e1 Ar2 (j := (0 : Int32)) (inb_of Sz2 ⟨by decide, by decide⟩) (g := (mkF m 7 #[iv c9] [(.int (c9.toInt8.toInt32)), (.int (0 : Int32)), (.ref b1), (.ref b1)])) rfl rfl (hb hby d5_7)
  have V2 : Arv Z h2 b1 k1 .byte (1 : Int32) [(.int (nar .byte (c9.toInt8.toInt32)))] (.int (0 : Int32)) := Arv.set Ar2 q2 Sz2 Nn2 Hh2 Gg2 (fits_nar_byte _) W2 0 rfl (Nat.le_of_ble_eq_true rfl)
  have Zs2 : n0 ≤ h2.size := Nat.le_trans Zs1 (Nat.le_of_eq W2.size.symm)
  have sz1 := Nat.le_trans (Keep.refl h0 []).1 (Nat.le_of_eq gx1.symm)
  have K2 := K1.wr W2 (Or.inr sz1)
  have gg1 := Nat.le_trans Z0 (Nat.le_of_eq gx1.symm)
  have N2 := Fr.snoc X2 N0 gg1
  refine own_st st2 ?_
  refine own_retA X2 hx hlk rfl hret rfl (hb hby d5_8) (by decide) (by decide) ?_
  show Q5 Z c9 h0 n0 (some (.ref b1)) T2.heap _
  rw [e2]
  exact ⟨b1, k1, rfl, N2, K2, sz1, (by have z := V2; rw [show nar .byte (c9.toInt8.toInt32) = own_by c9 from own_narb c9] at z; exact z)⟩
abbrev rRrm6 : Room := { frames := 1, cells := 0, slots := 0, locals := 12 }
abbrev c6 (n : Nat) (i : ClassFile.Instr) (k : Nat) : Prop := decode jdk_42_method_151_code n = .ok (i, k)
theorem d6_0 : c6 0 (.aload_n 0) 1 := by decide +kernel
theorem d6_1 : c6 1 (.invokespecial 1) 3 := by decide +kernel
theorem d6_4 : c6 4 (.aload_n 0) 1 := by decide +kernel
theorem d6_5 : c6 5 (.aload_n 1) 1 := by decide +kernel
theorem d6_6 : c6 6 (.putfield 9) 3 := by decide +kernel
theorem d6_9 : c6 9 (.aload_n 0) 1 := by decide +kernel
theorem d6_10 : c6 10 (.iload_n 2) 1 := by decide +kernel
theorem d6_11 : c6 11 (.putfield 15) 3 := by decide +kernel
theorem d6_14 : c6 14 (.return_) 1 := by decide +kernel
theorem pn_6 : plainFor yy24 = true := by decide +kernel
theorem ef_rm6 (m : MethodId) (s9 : Addr) (d : Addr) : entryFrame m #[(.ref s9), (.ref d), (.int (0 : Int32))] 3 = (mkF m 0 #[rv s9, rv d, iv (0 : Int32)] []) := by first | (simp [entryFrame, mkF, argsToLocals, Value.category]; done) | rfl
def Q6 (Z : State) (s9 : Addr) (d : Addr) (h0 : Heap) (n0 : Nat) (v_ : Option Value) (h_ : Heap) (L_ : List Loc) : Prop := (v_ = none) ∧ (Fr n0 L_) ∧ (Keep h0 h_ [s9]) ∧ (Exa Z h_ s9 "java/lang/String") ∧ (Fld Z h_ s9 "java/lang/String" "coder" "B" (.int (0 : Int32))) ∧ (Fld Z h_ s9 "java/lang/String" "value" "[B" (.ref d))
theorem rm6 (l : Launch) (Z : State) (a0 : Array Value) (hw : own_T a0 Z) (s9 : Addr) (d : Addr) (h0 : Heap) (n0 : Nat) (Z0 : n0 ≤ h0.size) (p_0 : Exa Z h0 s9 "java/lang/String") (p_1 : Fld Z h0 s9 "java/lang/String" "value" "[B" .null) (p_2 : Fld Z h0 s9 "java/lang/String" "coder" "B" (.int (0 : Int32))) (p_3 : n0 ≤ s9) :
    own_Met l yy24 jdk_42_method_151_code 3 none [] rRrm6 Z h0 #[(.ref s9), (.ref d), (.int (0 : Int32))] (Q6 Z s9 d h0 n0) := by
  refine own_openN pn_6 (own := "java/lang/String") rfl ?_
  intro p e s m below meth c s₁ hx hby hlk hml hret hZ hown hnm X0 e0
  have N0 := Fr.nil n0
  rw [ef_rm6 m s9 d]
  show own_Goes p e below s (Q6 Z s9 d h0 n0) rRrm6.cells rRrm6.slots s₁ (mkF m 0 #[rv s9, rv d, iv (0 : Int32)] [])
  refine own_st (fun _ kk_ => XS.aloadN X0.here hx rfl (hb hby d6_0) rfl rfl kk_) ?_
  show gN s₁ (mkF m 1 #[rv s9, rv d, iv (0 : Int32)] [(.ref s9)])
  obtain ⟨T1, X1, e1, st1⟩ := initO X0 hx hZ hown (own_w hw 29 rfl) (own_w hw 30 rfl) (own_w hw 31 rfl) e0 (g := (mkF m 1 #[rv s9, rv d, iv (0 : Int32)] [(.ref s9)])) rfl (by rw [hml]; rfl) rfl (hb hby d6_1) (by decide) (W := 0) (by show 2 * 0 + _ ≤ _; exact Nat.le_of_eq rfl) (by decide)
  refine own_st st1 ?_
  refine own_st (fun _ kk_ => XS.aloadN X1.here hx rfl (hb hby d6_4) rfl rfl (XS.aloadN X1.here hx rfl (hb hby d6_5) rfl rfl kk_)) ?_
  show gN T1 (mkF m 6 #[rv s9, rv d, iv (0 : Int32)] [(.ref d), (.ref s9)])
  obtain ⟨T2, h2, X2, e2, W2, st2⟩ := putF X1 hx hZ hown (host := "") (Or.inl (own_w hw 32 rfl)) Via.refl e1 p_1 p_0 (Or.inr ⟨(own_w hw 33 rfl), rfl, hnm⟩) (own_w hw 20 rfl) (ty := (.array .byte)) (by decide) rfl rfl (g := (mkF m 6 #[rv s9, rv d, iv (0 : Int32)] [(.ref d), (.ref s9)])) rfl rfl (hb hby d6_6)
  have fw2 : Fld Z h2 s9 "java/lang/String" "value" "[B" (.ref d) := p_1.same W2
  have f2_0 := p_0.wr W2
  have f2_2 := p_2.other W2 (Or.inr (slot_ne (Or.inr (own_w hw 35 rfl)) (Or.inr (own_w hw 33 rfl)) (by decide) (t := .byte) (t' := (.array .byte)) (by decide) (by decide)))
  have Zs2 : n0 ≤ h2.size := Nat.le_trans Z0 (Nat.le_of_eq W2.size.symm)
  have K2 := (Keep.refl h0 [s9]).wr W2 (Or.inl (List.mem_of_getElem? (i := 0) rfl))
  have N2 := Fr.snoc X2 N0 p_3
  refine own_st st2 ?_
  refine own_st (fun _ kk_ => XS.aloadN X2.here hx rfl (hb hby d6_9) rfl rfl (XS.iloadN X2.here hx rfl (hb hby d6_10) rfl kk_)) ?_
  show gN T2 (mkF m 11 #[rv s9, rv d, iv (0 : Int32)] [(.int (0 : Int32)), (.ref s9)])
  obtain ⟨T3, h3, X3, e3, W3, st3⟩ := putFN X2 hx hZ hown (own_w hw 34 rfl) Via.refl e2 f2_2 f2_0 (Or.inr ⟨(own_w hw 35 rfl), rfl, hnm⟩) (own_w hw 20 rfl) (ty := .byte) (v' := (.int (nar .byte (0 : Int32)))) (by decide) rfl (fits_nar_byte _) (g := (mkF m 11 #[rv s9, rv d, iv (0 : Int32)] [(.int (0 : Int32)), (.ref s9)])) rfl rfl (hb hby d6_11)
  have fw3 : Fld Z h3 s9 "java/lang/String" "coder" "B" (.int (nar .byte (0 : Int32))) := f2_2.same W3
  have f3_0 := f2_0.wr W3
  have f3_2 := fw2.other W3 (Or.inr (slot_ne (Or.inr (own_w hw 33 rfl)) (Or.inr (own_w hw 35 rfl)) (by decide) (t := (.array .byte)) (t' := .byte) (by decide) (by decide)))
  have Zs3 : n0 ≤ h3.size := Nat.le_trans Zs2 (Nat.le_of_eq W3.size.symm)
  have K3 := K2.wr W3 (Or.inl (List.mem_of_getElem? (i := 0) rfl))
  have N3 := Fr.snoc X3 N2 p_3
  refine own_st st3 ?_
  refine own_ret0 X3 hx hlk hret (hb hby d6_14) (by decide) (by decide) ?_
  show Q6 Z s9 d h0 n0 none T3.heap _
  rw [e3]
  exact ⟨rfl, N3, K3, f3_0, fw3, f3_2⟩
abbrev rRrm3 : Room := { frames := 2, cells := 2, slots := 5, locals := 27 }
abbrev c3 (n : Nat) (i : ClassFile.Instr) (k : Nat) : Prop := decode jdk_42_method_139_code n = .ok (i, k)
theorem d3_0 : c3 0 (.getstatic 38) 3 := by decide +kernel
theorem d3_3 : c3 3 (.ifCond .eq 23) 3 := by decide +kernel
theorem d3_6 : c3 6 (.iload_n 0) 1 := by decide +kernel
theorem d3_7 : c3 7 (.invokestatic 1015) 3 := by decide +kernel
theorem d3_10 : c3 10 (.ifCond .eq 16) 3 := by decide +kernel
theorem d3_13 : c3 13 (.new 10) 3 := by decide +kernel
theorem d3_16 : c3 16 (.dup) 1 := by decide +kernel
theorem d3_17 : c3 17 (.iload_n 0) 1 := by decide +kernel
theorem d3_18 : c3 18 (.invokestatic 1018) 3 := by decide +kernel
theorem d3_21 : c3 21 (.iconst 0) 1 := by decide +kernel
theorem d3_22 : c3 22 (.invokespecial 209) 3 := by decide +kernel
theorem d3_25 : c3 25 (.areturn) 1 := by decide +kernel
theorem pd_13 : parseMethodDescriptor "(C)Z" = some ⟨[.char], some .boolean⟩ := by decide +kernel
theorem pd_14 : parseMethodDescriptor "(C)[B" = some ⟨[.char], some (.array .byte)⟩ := by decide +kernel
theorem pd_15 : parseMethodDescriptor "([BB)V" = some ⟨[(.array .byte), .byte], none⟩ := by decide +kernel
theorem pn_3 : plainFor yy25 = true := by decide +kernel
theorem ef_rm3 (m : MethodId) (c9 : Int32) : entryFrame m #[(.int c9)] 1 = (mkF m 0 #[iv c9] []) := by first | (simp [entryFrame, mkF, argsToLocals, Value.category]; done) | rfl
def Q3 (Z : State) (c9 : Int32) (h0 : Heap) (n0 : Nat) (v_ : Option Value) (h_ : Heap) (L_ : List Loc) : Prop := ∃ y : Addr, ∃ d : Addr, ∃ kd : ClassId, (v_ = some (.ref y)) ∧ (Fr n0 L_) ∧ (Keep h0 h_ []) ∧ (h0.size ≤ y) ∧ (h0.size ≤ d) ∧ (Exa Z h_ y "java/lang/String") ∧ (Fld Z h_ y "java/lang/String" "coder" "B" (.int (0 : Int32))) ∧ (Fld Z h_ y "java/lang/String" "value" "[B" (.ref d)) ∧ (Arv Z h_ d kd .byte (1 : Int32) [(.int (own_by c9))] (.int (0 : Int32)))
theorem rm3 (l : Launch) (Z : State) (a0 : Array Value) (hw : own_T a0 Z) (c9 : Int32) (cs : Int32) (h0 : Heap) (n0 : Nat) (Z0 : n0 ≤ h0.size) (p_0 : Sta Z h0 "java/lang/String" "COMPACT_STRINGS" "Z" (.int cs)) (hcs : ¬ cs = (0 : Int32)) (hi : own_in c9) :
    own_Met l yy25 jdk_42_method_139_code 1 (some (.object "java/lang/String")) [] rRrm3 Z h0 #[(.int c9)] (Q3 Z c9 h0 n0) := by
  refine own_openN pn_3 (own := "java/lang/String") rfl ?_
  intro p e s m below meth c s₁ hx hby hlk hml hret hZ hown hnm X0 e0
  have N0 := Fr.nil n0
  rw [ef_rm3 m c9]
  show own_Goes p e below s (Q3 Z c9 h0 n0) rRrm3.cells rRrm3.slots s₁ (mkF m 0 #[iv c9] [])
  obtain ⟨T1, X1, e1, st1⟩ := getS2 X0 hx hZ hown (host := "") (Or.inl (own_w hw 14 rfl)) Via.refl e0 p_0 (g := (mkF m 0 #[iv c9] [])) rfl (hb hby d3_0)
  refine own_st st1 ?_
  refine own_st (fun _ kk_ => XS.ifNo X1.here hx rfl (hb hby d3_3) rfl (XT.i0_eq_f hcs) (XS.iloadN X1.here hx rfl (hb hby d3_6) rfl kk_)) ?_
  show gN T1 (mkF m 7 #[iv c9] [(.int c9)])
  obtain ⟨T2, L2, v2, X2, hQ2, st2⟩ := own_cutA (Jvm.LawKit.callS X1 hx (y := yy22) hown (own_mw hZ hw 15 rfl) (own_mw hZ hw 16 rfl) (own_mw hZ hw 17 rfl) (own_mw hZ hw 18 rfl) (by decide) (backOf (W := 0) (rm4 l Z a0 hw (c9) h0 n0 Z0 hi) hZ (own_w hw 18 rfl) (own_w hw 17 rfl) (by decide) (by decide)) (g := (mkF m 7 #[iv c9] [(.int c9)])) rfl (by rw [hml]; rfl) (argsL := [(.int c9)]) (rest := []) (lenOf pd_13 rfl) rfl (own_bl rfl) (hb hby d3_7) (fun _ _ => ⟨rfl, e1, own_bl rfl, own_bl rfl⟩))
  obtain ⟨rfl, Nq2, eq2⟩ := hQ2
  have N2 := Fr.app N0 Nq2
  refine own_st st2 ?_
  refine own_st (fun _ kk_ => XS.ifNo X2.here hx rfl (hb hby d3_10) rfl (XT.i0_eq_f (by decide)) kk_) ?_
  show gN T2 (mkF m 13 #[iv c9] [])
  obtain ⟨T3, h3, X3, e3, E3, A3, D3, -, st3⟩ := newO X2 hx hZ hown (own_w hw 19 rfl) (own_w hw 20 rfl) (own_w hw 12 rfl) eq2 (g := (mkF m 13 #[iv c9] [])) rfl (hb hby d3_13) (by decide) (by decide)
  obtain ⟨b3, gx3⟩ : ∃ z, z = h0.size := ⟨_, rfl⟩
  rw [← gx3] at A3 D3 st3
  have f3_0 := p_0.ext E3
  have Zs3 : n0 ≤ h3.size := Nat.le_trans Z0 E3.1
  have K3 := (Keep.refl h0 []).ext E3
  have fn3_value : Fld Z h3 b3 "java/lang/String" "value" "[B" .null := D3 (Or.inr (own_w hw 33 rfl)) (ty := (.array .byte)) (by decide)
  have fn3_coder : Fld Z h3 b3 "java/lang/String" "coder" "B" (.int (0 : Int32)) := D3 (Or.inr (own_w hw 35 rfl)) (ty := .byte) (by decide)
  refine own_st st3 ?_
  refine own_st (fun _ kk_ => XS.dup X3.here hx rfl (hb hby d3_16) rfl rfl (XS.iloadN X3.here hx rfl (hb hby d3_17) rfl kk_)) ?_
  show gN T3 (mkF m 18 #[iv c9] [(.int c9), (.ref b3), (.ref b3)])
  obtain ⟨T4, L4, v4, X4, hQ4, st4⟩ := own_cutA (Jvm.LawKit.callS X3 hx (y := yy23) hown (own_mw hZ hw 21 rfl) (own_mw hZ hw 22 rfl) (own_mw hZ hw 17 rfl) (own_mw hZ hw 23 rfl) (by decide) (backOf (W := 2) (rm5 l Z a0 hw (c9) h3 n0 Zs3) hZ (own_w hw 23 rfl) (own_w hw 17 rfl) (by decide) (by decide)) (g := (mkF m 18 #[iv c9] [(.int c9), (.ref b3), (.ref b3)])) rfl (by rw [hml]; rfl) (argsL := [(.int c9)]) (rest := [(.ref b3), (.ref b3)]) (lenOf pd_14 rfl) rfl (own_bl rfl) (hb hby d3_18) (fun _ _ => ⟨rfl, e3, own_bl rfl, own_bl rfl⟩))
  obtain ⟨x4_d, x4_kd, rfl, Nq4, Kq4, u4_0, u4_1⟩ := hQ4
  have N4 := Fr.app N2 Nq4
  have f4_0 := own_Sta_keep f3_0 Kq4 ns0
  have f4_1 := A3.keep Kq4
  have f4_2 := fn3_value.keep Kq4 nin0
  have f4_3 := fn3_coder.keep Kq4 nin0
  have Zs4 : n0 ≤ T4.heap.size := Nat.le_trans Zs3 Kq4.1
  have K4 := K3.trans Kq4 all0
  refine own_st st4 ?_
  refine own_st (fun _ kk_ => XS.iconst X4.here hx rfl (hb hby d3_21) kk_) ?_
  show gN T4 (mkF m 22 #[iv c9] [(.int (0 : Int32)), (.ref x4_d), (.ref b3), (.ref b3)])
  have gg3 := Nat.le_trans Z0 (Nat.le_of_eq gx3.symm)
  obtain ⟨T5, L5, v5, X5, hQ5, st5⟩ := own_cut (X4.specialBack hx (y := yy24) rfl hown (own_mw hZ hw 25 rfl) (own_mw hZ hw 26 rfl) (own_mw hZ hw 28 rfl) (by decide) (backOf (W := 1) (rm6 l Z a0 hw (b3) (x4_d) T4.heap n0 Zs4 f4_1 f4_2 f4_3 gg3) hZ (own_w hw 28 rfl) (own_w hw 12 rfl) (by decide) (by decide)) (g := (mkF m 22 #[iv c9] [(.int (0 : Int32)), (.ref x4_d), (.ref b3), (.ref b3)])) rfl (by rw [hml]; rfl) (Steps.refl _) (a := b3) (argsL := [(.ref x4_d), (.int (0 : Int32))]) (rest := [(.ref b3)]) (lenOf pd_15 rfl) rfl (own_bl rfl) (hb hby d3_22) (fun _ _ => ⟨rfl, rfl, own_bl rfl, own_bl rfl⟩))
  obtain ⟨rfl, Nq5, Kq5, u5_0, u5_1, u5_2⟩ := hQ5
  have N5 := Fr.app N4 Nq5
  have f5_0 := own_Sta_keep f4_0 Kq5 (nsS f4_1.nostat ns0)
  have f5_1 := f4_1.keep Kq5
  have n4_b3d := own_nk A3.lt u4_0
  have f5_4 := u4_1.keep Kq5 (ninS (Ne.symm n4_b3d) nin0)
  have Zs5 : n0 ≤ T5.heap.size := Nat.le_trans Zs4 Kq5.1
  have sz3 := Nat.le_trans (Keep.refl h0 []).1 (Nat.le_of_eq gx3.symm)
  have K5 := K4.trans Kq5 (allS (Or.inr sz3) all0)
  refine own_sTN st5 ?_
  have sz4_d := Nat.le_trans K3.1 u4_0
  refine own_retA X5 hx hlk rfl hret rfl (hb hby d3_25) (by decide) (by decide) ?_
  show Q3 Z c9 h0 n0 (some (.ref b3)) T5.heap _
  exact ⟨b3, x4_d, x4_kd, rfl, N5, K5, sz3, sz4_d, u5_0, u5_1, u5_2, f5_4⟩
abbrev rRrmCp2 : Room := { frames := 0, cells := 0, slots := 0, locals := 0 }
abbrev c61 (n : Nat) (i : ClassFile.Instr) (k : Nat) : Prop := decode jdk_52_method_21_code n = .ok (i, k)
theorem d61_0 : c61 0 (.iconst 0) 1 := by decide +kernel
theorem d61_1 : c61 1 (.istore 5) 2 := by decide +kernel
theorem d61_3 : c61 3 (.iload 5) 2 := by decide +kernel
theorem d61_5 : c61 5 (.iload 4) 2 := by decide +kernel
theorem d61_7 : c61 7 (.if_icmp .ge 37) 3 := by decide +kernel
theorem d61_10 : c61 10 (.aload_n 0) 1 := by decide +kernel
theorem d61_11 : c61 11 (.iload_n 1) 1 := by decide +kernel
theorem d61_12 : c61 12 (.caload) 1 := by decide +kernel
theorem d61_13 : c61 13 (.istore 6) 2 := by decide +kernel
theorem d61_15 : c61 15 (.iload 6) 2 := by decide +kernel
theorem d61_17 : c61 17 (.sipush 255) 3 := by decide +kernel
theorem d61_20 : c61 20 (.if_icmp .le 6) 3 := by decide +kernel
theorem d61_26 : c61 26 (.aload_n 2) 1 := by decide +kernel
theorem d61_27 : c61 27 (.iload_n 3) 1 := by decide +kernel
theorem d61_28 : c61 28 (.iload 6) 2 := by decide +kernel
theorem d61_30 : c61 30 (.i2b) 1 := by decide +kernel
theorem d61_31 : c61 31 (.bastore) 1 := by decide +kernel
theorem d61_32 : c61 32 (.iinc 1 1) 3 := by decide +kernel
theorem d61_35 : c61 35 (.iinc 3 1) 3 := by decide +kernel
theorem d61_38 : c61 38 (.iinc 5 1) 3 := by decide +kernel
theorem d61_41 : c61 41 (.goto (-38)) 3 := by decide +kernel
theorem d61_44 : c61 44 (.iload 4) 2 := by decide +kernel
theorem d61_46 : c61 46 (.ireturn) 1 := by decide +kernel
theorem pn_61 : plainFor yy26 = true := by decide +kernel
theorem ef_rmCp2 (m : MethodId) (ca : Addr) (d : Addr) : entryFrame m #[(.ref ca), (.int (0 : Int32)), (.ref d), (.int (0 : Int32)), (.int (2 : Int32))] 7 = (mkF m 0 #[rv ca, iv (0 : Int32), rv d, iv (0 : Int32), iv (2 : Int32), oU, oU] []) := by first | (simp [entryFrame, mkF, argsToLocals, Value.category]; done) | rfl
def QCp2 (Z : State) (d : Addr) (c0 : Int32) (c1 : Int32) (kd : ClassId) (h0 : Heap) (n0 : Nat) (v_ : Option Value) (h_ : Heap) (L_ : List Loc) : Prop := (v_ = some (.int (2 : Int32))) ∧ (Fr n0 L_) ∧ (Keep h0 h_ [d]) ∧ (Arv Z h_ d kd .byte (2 : Int32) [(.int (own_by c0)), (.int (own_by c1))] (.int (0 : Int32)))
theorem rmCp2 (l : Launch) (Z : State) (a0 : Array Value) (hw : own_T a0 Z) (ca : Addr) (d : Addr) (c0 : Int32) (c1 : Int32) (kc : ClassId) (kd : ClassId) (h0 : Heap) (n0 : Nat) (Z0 : n0 ≤ h0.size) (p_0 : Arv Z h0 ca kc .char (2 : Int32) [(.int (nar .char c0)), (.int (nar .char c1))] (.int (0 : Int32))) (p_1 : Arv Z h0 d kd .byte (2 : Int32) [(.int (0 : Int32)), (.int (0 : Int32))] (.int (0 : Int32))) (p_2 : n0 ≤ d) (p_3 : ca ≠ d) (hi0 : own_in c0) (hi1 : own_in c1) :
    own_Met l yy26 jdk_52_method_21_code 7 (some .int) [] rRrmCp2 Z h0 #[(.ref ca), (.int (0 : Int32)), (.ref d), (.int (0 : Int32)), (.int (2 : Int32))] (QCp2 Z d c0 c1 kd h0 n0) := by
  refine own_openN pn_61 (own := "java/lang/StringUTF16") rfl ?_
  intro p e s m below meth c s₁ hx hby hlk hml hret hZ hown hnm X0 e0
  have N0 := Fr.nil n0
  rw [ef_rmCp2 m ca d]
  show own_Goes p e below s (QCp2 Z d c0 c1 kd h0 n0) rRrmCp2.cells rRrmCp2.slots s₁ (mkF m 0 #[rv ca, iv (0 : Int32), rv d, iv (0 : Int32), iv (2 : Int32), oU, oU] [])
  refine own_st (fun _ kk_ => XS.iconst X0.here hx rfl (hb hby d61_0) (XS.istore X0.here hx rfl (hb hby d61_1) rfl (l' := #[rv ca, iv (0 : Int32), rv d, iv (0 : Int32), iv (2 : Int32), iv (0 : Int32), oU]) rfl (XS.iload X0.here hx rfl (hb hby d61_3) rfl (XS.iload X0.here hx rfl (hb hby d61_5) rfl (XS.icmpNo X0.here hx rfl (hb hby d61_7) rfl (XT.ii_ge_f (by decide)) (XS.aloadN X0.here hx rfl (hb hby d61_10) rfl rfl (XS.iloadN X0.here hx rfl (hb hby d61_11) rfl kk_))))))) ?_
  show gN s₁ (mkF m 12 #[rv ca, iv (0 : Int32), rv d, iv (0 : Int32), iv (2 : Int32), iv (0 : Int32), oU] [(.int (0 : Int32)), (.ref ca)])
  obtain ⟨cl1, Ar1, q1, Sz1, Nn1, Hh1, Gg1⟩ := id p_0
  refine own_st (fun _ kk_ => X0.caload hx (j := (0 : Int32)) (v := (.int (nar .char c0))) (by rw [e0]; exact Ar1.1) (State.isArrayOf_alike hZ.alike Ar1.2.1) Ar1.2.2 (inb_of Sz1 ⟨by decide, by decide⟩) (Hh1.at (inb_of Sz1 ⟨by decide, by decide⟩) rfl) (g := (mkF m 12 #[rv ca, iv (0 : Int32), rv d, iv (0 : Int32), iv (2 : Int32), iv (0 : Int32), oU] [(.int (0 : Int32)), (.ref ca)])) rfl rfl (hb hby d61_12) _ kk_) ?_
  show gN s₁ (mkF m 13 #[rv ca, iv (0 : Int32), rv d, iv (0 : Int32), iv (2 : Int32), iv (0 : Int32), oU] [(.int (nar .char c0))])
  refine own_st (fun _ kk_ => XS.istore X0.here hx rfl (hb hby d61_13) rfl (l' := #[rv ca, iv (0 : Int32), rv d, iv (0 : Int32), iv (2 : Int32), iv (0 : Int32), iv (nar .char c0)]) rfl (XS.iload X0.here hx rfl (hb hby d61_15) rfl (XS.sipush X0.here hx rfl (hb hby d61_17) (XS.icmpYes X0.here hx rfl (pc0 := 20) (pc' := 26) rfl (hb hby d61_20) rfl (XT.ii_le_t (own_255 hi0)) (by decide) (by decide) (XS.aloadN X0.here hx rfl (hb hby d61_26) rfl rfl (XS.iloadN X0.here hx rfl (hb hby d61_27) rfl (XS.iload X0.here hx rfl (hb hby d61_28) rfl (XS.i2b X0.here hx rfl (hb hby d61_30) rfl kk_)))))))) ?_
  show gN s₁ (mkF m 31 #[rv ca, iv (0 : Int32), rv d, iv (0 : Int32), iv (2 : Int32), iv (0 : Int32), iv (nar .char c0)] [(.int ((nar .char c0).toInt8.toInt32)), (.int (0 : Int32)), (.ref d)])
  obtain ⟨cl2, Ar2, q2, Sz2, Nn2, Hh2, Gg2⟩ := id p_1
  obtain ⟨T2, h2, X2, e2, W2, st2⟩ := stB X0 hx hZ e0 Ar2 (j := (0 : Int32)) (inb_of Sz2 ⟨by decide, by decide⟩) (g := (mkF m 31 #[rv ca, iv (0 : Int32), rv d, iv (0 : Int32), iv (2 : Int32), iv (0 : Int32), iv (nar .char c0)] [(.int ((nar .char c0).toInt8.toInt32)), (.int (0 : Int32)), (.ref d)])) rfl rfl (hb hby d61_31)
  have V2 : Arv Z h2 d kd .byte (2 : Int32) [(.int (nar .byte ((nar .char c0).toInt8.toInt32))), (.int (0 : Int32))] (.int (0 : Int32)) := Arv.set Ar2 q2 Sz2 Nn2 Hh2 Gg2 (fits_nar_byte _) W2 0 rfl (Nat.le_of_ble_eq_true rfl)
  have f2_0 := p_0.other W2 p_3
  have Zs2 : n0 ≤ h2.size := Nat.le_trans Z0 (Nat.le_of_eq W2.size.symm)
  have K2 := (Keep.refl h0 [d]).wr W2 (Or.inl (List.mem_of_getElem? (i := 0) rfl))
  have N2 := Fr.snoc X2 N0 p_2
  refine own_st st2 ?_
  refine own_st (fun _ kk_ => XS.iinc X2.here hx rfl (hb hby d61_32) rfl (l' := #[rv ca, iv (1 : Int32), rv d, iv (0 : Int32), iv (2 : Int32), iv (0 : Int32), iv (nar .char c0)]) rfl (XS.iinc X2.here hx rfl (hb hby d61_35) rfl (l' := #[rv ca, iv (1 : Int32), rv d, iv (1 : Int32), iv (2 : Int32), iv (0 : Int32), iv (nar .char c0)]) rfl (XS.iinc X2.here hx rfl (hb hby d61_38) rfl (l' := #[rv ca, iv (1 : Int32), rv d, iv (1 : Int32), iv (2 : Int32), iv (1 : Int32), iv (nar .char c0)]) rfl (XS.goto X2.here hx rfl (pc0 := 41) (pc' := 3) rfl (hb hby d61_41) (by decide) (by decide) (XS.iload X2.here hx rfl (hb hby d61_3) rfl (XS.iload X2.here hx rfl (hb hby d61_5) rfl (XS.icmpNo X2.here hx rfl (hb hby d61_7) rfl (XT.ii_ge_f (by decide)) (XS.aloadN X2.here hx rfl (hb hby d61_10) rfl rfl (XS.iloadN X2.here hx rfl (hb hby d61_11) rfl kk_))))))))) ?_
  show gN T2 (mkF m 12 #[rv ca, iv (1 : Int32), rv d, iv (1 : Int32), iv (2 : Int32), iv (1 : Int32), iv (nar .char c0)] [(.int (1 : Int32)), (.ref ca)])
  obtain ⟨cl3, Ar3, q3, Sz3, Nn3, Hh3, Gg3⟩ := id f2_0
  refine own_st (fun _ kk_ => X2.caload hx (j := (1 : Int32)) (v := (.int (nar .char c1))) (by rw [e2]; exact Ar3.1) (State.isArrayOf_alike hZ.alike Ar3.2.1) Ar3.2.2 (inb_of Sz3 ⟨by decide, by decide⟩) (Hh3.at (inb_of Sz3 ⟨by decide, by decide⟩) rfl) (g := (mkF m 12 #[rv ca, iv (1 : Int32), rv d, iv (1 : Int32), iv (2 : Int32), iv (1 : Int32), iv (nar .char c0)] [(.int (1 : Int32)), (.ref ca)])) rfl rfl (hb hby d61_12) _ kk_) ?_
  show gN T2 (mkF m 13 #[rv ca, iv (1 : Int32), rv d, iv (1 : Int32), iv (2 : Int32), iv (1 : Int32), iv (nar .char c0)] [(.int (nar .char c1))])
  refine own_st (fun _ kk_ => XS.istore X2.here hx rfl (hb hby d61_13) rfl (l' := #[rv ca, iv (1 : Int32), rv d, iv (1 : Int32), iv (2 : Int32), iv (1 : Int32), iv (nar .char c1)]) rfl (XS.iload X2.here hx rfl (hb hby d61_15) rfl (XS.sipush X2.here hx rfl (hb hby d61_17) (XS.icmpYes X2.here hx rfl (pc0 := 20) (pc' := 26) rfl (hb hby d61_20) rfl (XT.ii_le_t (own_255 hi1)) (by decide) (by decide) (XS.aloadN X2.here hx rfl (hb hby d61_26) rfl rfl (XS.iloadN X2.here hx rfl (hb hby d61_27) rfl (XS.iload X2.here hx rfl (hb hby d61_28) rfl (XS.i2b X2.here hx rfl (hb hby d61_30) rfl kk_)))))))) ?_
  show gN T2 (mkF m 31 #[rv ca, iv (1 : Int32), rv d, iv (1 : Int32), iv (2 : Int32), iv (1 : Int32), iv (nar .char c1)] [(.int ((nar .char c1).toInt8.toInt32)), (.int (1 : Int32)), (.ref d)])
  obtain ⟨cl4, Ar4, q4, Sz4, Nn4, Hh4, Gg4⟩ := id V2
  obtain ⟨T4, h4, X4, e4, W4, st4⟩ := stB X2 hx hZ e2 Ar4 (j := (1 : Int32)) (inb_of Sz4 ⟨by decide, by decide⟩) (g := (mkF m 31 #[rv ca, iv (1 : Int32), rv d, iv (1 : Int32), iv (2 : Int32), iv (1 : Int32), iv (nar .char c1)] [(.int ((nar .char c1).toInt8.toInt32)), (.int (1 : Int32)), (.ref d)])) rfl rfl (hb hby d61_31)
  have V4 : Arv Z h4 d kd .byte (2 : Int32) [(.int (nar .byte ((nar .char c0).toInt8.toInt32))), (.int (nar .byte ((nar .char c1).toInt8.toInt32)))] (.int (0 : Int32)) := Arv.set Ar4 q4 Sz4 Nn4 Hh4 Gg4 (fits_nar_byte _) W4 1 rfl (Nat.le_of_ble_eq_true rfl)
  have f4_0 := f2_0.other W4 p_3
  have Zs4 : n0 ≤ h4.size := Nat.le_trans Zs2 (Nat.le_of_eq W4.size.symm)
  have K4 := K2.wr W4 (Or.inl (List.mem_of_getElem? (i := 0) rfl))
  have N4 := Fr.snoc X4 N2 p_2
  refine own_st st4 ?_
  refine own_st (fun _ kk_ => XS.iinc X4.here hx rfl (hb hby d61_32) rfl (l' := #[rv ca, iv (2 : Int32), rv d, iv (1 : Int32), iv (2 : Int32), iv (1 : Int32), iv (nar .char c1)]) rfl (XS.iinc X4.here hx rfl (hb hby d61_35) rfl (l' := #[rv ca, iv (2 : Int32), rv d, iv (2 : Int32), iv (2 : Int32), iv (1 : Int32), iv (nar .char c1)]) rfl (XS.iinc X4.here hx rfl (hb hby d61_38) rfl (l' := #[rv ca, iv (2 : Int32), rv d, iv (2 : Int32), iv (2 : Int32), iv (2 : Int32), iv (nar .char c1)]) rfl (XS.goto X4.here hx rfl (pc0 := 41) (pc' := 3) rfl (hb hby d61_41) (by decide) (by decide) (XS.iload X4.here hx rfl (hb hby d61_3) rfl (XS.iload X4.here hx rfl (hb hby d61_5) rfl (XS.icmpYes X4.here hx rfl (pc0 := 7) (pc' := 44) rfl (hb hby d61_7) rfl (XT.ii_ge_t (by decide)) (by decide) (by decide) (XS.iload X4.here hx rfl (hb hby d61_44) rfl kk_)))))))) ?_
  show gN T4 (mkF m 46 #[rv ca, iv (2 : Int32), rv d, iv (2 : Int32), iv (2 : Int32), iv (2 : Int32), iv (nar .char c1)] [(.int (2 : Int32))])
  refine own_retI X4 hx hlk hret (hb hby d61_46) (by decide) (by decide) ?_
  show QCp2 Z d c0 c1 kd h0 n0 (some (.int (2 : Int32))) T4.heap _
  rw [e4]
  exact ⟨rfl, N4, K4, (by have z := V4; rw [own_byc hi0, own_byc hi1] at z; exact z)⟩
abbrev rRrmCq2 : Room := { frames := 1, cells := 1, slots := 2, locals := 18 }
abbrev c60 (n : Nat) (i : ClassFile.Instr) (k : Nat) : Prop := decode jdk_52_method_16_code n = .ok (i, k)
theorem d60_0 : c60 0 (.iload_n 2) 1 := by decide +kernel
theorem d60_1 : c60 1 (.newarray .byte) 2 := by decide +kernel
theorem d60_3 : c60 3 (.astore_n 3) 1 := by decide +kernel
theorem d60_4 : c60 4 (.aload_n 0) 1 := by decide +kernel
theorem d60_5 : c60 5 (.iload_n 1) 1 := by decide +kernel
theorem d60_6 : c60 6 (.aload_n 3) 1 := by decide +kernel
theorem d60_7 : c60 7 (.iconst 0) 1 := by decide +kernel
theorem d60_8 : c60 8 (.iload_n 2) 1 := by decide +kernel
theorem d60_9 : c60 9 (.invokestatic 115) 3 := by decide +kernel
theorem d60_12 : c60 12 (.istore 4) 2 := by decide +kernel
theorem d60_14 : c60 14 (.iload 4) 2 := by decide +kernel
theorem d60_16 : c60 16 (.iload_n 2) 1 := by decide +kernel
theorem d60_17 : c60 17 (.if_icmp .eq 40) 3 := by decide +kernel
theorem d60_57 : c60 57 (.aload_n 3) 1 := by decide +kernel
theorem d60_58 : c60 58 (.areturn) 1 := by decide +kernel
theorem pd_16 : parseMethodDescriptor "([CI[BII)I" = some ⟨[(.array .char), .int, (.array .byte), .int, .int], some .int⟩ := by decide +kernel
theorem pn_60 : plainFor yy27 = true := by decide +kernel
theorem ef_rmCq2 (m : MethodId) (ca : Addr) : entryFrame m #[(.ref ca), (.int (0 : Int32)), (.int (2 : Int32))] 6 = (mkF m 0 #[rv ca, iv (0 : Int32), iv (2 : Int32), oU, oU, oU] []) := by first | (simp [entryFrame, mkF, argsToLocals, Value.category]; done) | rfl
def QCq2 (Z : State) (c0 : Int32) (c1 : Int32) (h0 : Heap) (n0 : Nat) (v_ : Option Value) (h_ : Heap) (L_ : List Loc) : Prop := ∃ d : Addr, ∃ kd : ClassId, (v_ = some (.ref d)) ∧ (Fr n0 L_) ∧ (Keep h0 h_ []) ∧ (h0.size ≤ d) ∧ (Arv Z h_ d kd .byte (2 : Int32) [(.int (own_by c0)), (.int (own_by c1))] (.int (0 : Int32)))
theorem rmCq2 (l : Launch) (Z : State) (a0 : Array Value) (hw : own_T a0 Z) (ca : Addr) (c0 : Int32) (c1 : Int32) (kc : ClassId) (h0 : Heap) (n0 : Nat) (Z0 : n0 ≤ h0.size) (p_0 : Arv Z h0 ca kc .char (2 : Int32) [(.int (nar .char c0)), (.int (nar .char c1))] (.int (0 : Int32))) (hi0 : own_in c0) (hi1 : own_in c1) :
    own_Met l yy27 jdk_52_method_16_code 6 (some (.array .byte)) [] rRrmCq2 Z h0 #[(.ref ca), (.int (0 : Int32)), (.int (2 : Int32))] (QCq2 Z c0 c1 h0 n0) := by
  refine own_openN pn_60 (own := "java/lang/StringUTF16") rfl ?_
  intro p e s m below meth c s₁ hx hby hlk hml hret hZ hown hnm X0 e0
  have N0 := Fr.nil n0
  rw [ef_rmCq2 m ca]
  show own_Goes p e below s (QCq2 Z c0 c1 h0 n0) rRrmCq2.cells rRrmCq2.slots s₁ (mkF m 0 #[rv ca, iv (0 : Int32), iv (2 : Int32), oU, oU, oU] [])
  refine own_st (fun _ kk_ => XS.iloadN X0.here hx rfl (hb hby d60_0) rfl kk_) ?_
  show gN s₁ (mkF m 1 #[rv ca, iv (0 : Int32), iv (2 : Int32), oU, oU, oU] [(.int (2 : Int32))])
  obtain ⟨T1, h1, k1, X1, e1, E1, A1, st1⟩ := newP X0 hx hZ (own_w hw 24 rfl) e0 (g := (mkF m 1 #[rv ca, iv (0 : Int32), iv (2 : Int32), oU, oU, oU] [(.int (2 : Int32))])) rfl (hb hby d60_1) rfl (by decide) (cap := 2) (by decide) (by decide) (by decide) (by decide)
  obtain ⟨b1, gx1⟩ : ∃ z, z = h0.size := ⟨_, rfl⟩
  rw [← gx1] at A1 st1
  have f1_0 := p_0.ext E1
  have Zs1 : n0 ≤ h1.size := Nat.le_trans Z0 E1.1
  have K1 := (Keep.refl h0 []).ext E1
  have V1 : Arv Z h1 b1 k1 .byte (2 : Int32) [(.int (0 : Int32)), (.int (0 : Int32))] (.int (0 : Int32)) := (Arv.new A1 (by decide)).pad (pad_rep [] (.int (0 : Int32)) 2)
  refine own_st st1 ?_
  refine own_st (fun _ kk_ => XS.astoreN X1.here hx rfl (hb hby d60_3) rfl rfl (l' := #[rv ca, iv (0 : Int32), iv (2 : Int32), rv b1, oU, oU]) rfl (XS.aloadN X1.here hx rfl (hb hby d60_4) rfl rfl (XS.iloadN X1.here hx rfl (hb hby d60_5) rfl (XS.aloadN X1.here hx rfl (hb hby d60_6) rfl rfl (XS.iconst X1.here hx rfl (hb hby d60_7) (XS.iloadN X1.here hx rfl (hb hby d60_8) rfl kk_)))))) ?_
  show gN T1 (mkF m 9 #[rv ca, iv (0 : Int32), iv (2 : Int32), rv b1, oU, oU] [(.int (2 : Int32)), (.int (0 : Int32)), (.ref b1), (.int (0 : Int32)), (.ref ca)])
  have gg1 := Nat.le_trans Z0 (Nat.le_of_eq gx1.symm)
  have n1_ca := own_nl p_0.lt gx1
  obtain ⟨T2, L2, v2, X2, hQ2, st2⟩ := own_cutA (Jvm.LawKit.callS X1 hx (y := yy26) hown (own_mw hZ hw 346 rfl) (own_mw hZ hw 347 rfl) (own_mw hZ hw 344 rfl) (own_mw hZ hw 348 rfl) (by decide) (backOf (W := 0) (rmCp2 l Z a0 hw (ca) (b1) (c0) (c1) (kc) (k1) h1 n0 Zs1 f1_0 V1 gg1 n1_ca (by assumption) (by assumption)) hZ (own_w hw 348 rfl) (own_w hw 344 rfl) (by decide) (by decide)) (g := (mkF m 9 #[rv ca, iv (0 : Int32), iv (2 : Int32), rv b1, oU, oU] [(.int (2 : Int32)), (.int (0 : Int32)), (.ref b1), (.int (0 : Int32)), (.ref ca)])) rfl (by rw [hml]; rfl) (argsL := [(.ref ca), (.int (0 : Int32)), (.ref b1), (.int (0 : Int32)), (.int (2 : Int32))]) (rest := []) (lenOf pd_16 rfl) rfl (own_bl rfl) (hb hby d60_9) (fun _ _ => ⟨rfl, e1, own_bl rfl, own_bl rfl⟩))
  obtain ⟨rfl, Nq2, Kq2, u2_0⟩ := hQ2
  have N2 := Fr.app N0 Nq2
  have f2_0 := f1_0.keep Kq2 (ninS n1_ca nin0)
  have Zs2 : n0 ≤ T2.heap.size := Nat.le_trans Zs1 Kq2.1
  have sz1 := Nat.le_trans (Keep.refl h0 []).1 (Nat.le_of_eq gx1.symm)
  have K2 := K1.trans Kq2 (allS (Or.inr sz1) all0)
  refine own_st st2 ?_
  refine own_st (fun _ kk_ => XS.istore X2.here hx rfl (hb hby d60_12) rfl (l' := #[rv ca, iv (0 : Int32), iv (2 : Int32), rv b1, iv (2 : Int32), oU]) rfl (XS.iload X2.here hx rfl (hb hby d60_14) rfl (XS.iloadN X2.here hx rfl (hb hby d60_16) rfl (XS.icmpYes X2.here hx rfl (pc0 := 17) (pc' := 57) rfl (hb hby d60_17) rfl (XT.ii_eq_t (by decide)) (by decide) (by decide) (XS.aloadN X2.here hx rfl (hb hby d60_57) rfl rfl kk_))))) ?_
  show gN T2 (mkF m 58 #[rv ca, iv (0 : Int32), iv (2 : Int32), rv b1, iv (2 : Int32), oU] [(.ref b1)])
  refine own_retA X2 hx hlk rfl hret rfl (hb hby d60_58) (by decide) (by decide) ?_
  show QCq2 Z c0 c1 h0 n0 (some (.ref b1)) T2.heap _
  exact ⟨b1, k1, rfl, N2, K2, sz1, u2_0⟩
abbrev rRrmCl2 : Room := { frames := 0, cells := 0, slots := 0, locals := 0 }
abbrev c62 (n : Nat) (i : ClassFile.Instr) (k : Nat) : Prop := decode jdk_52_method_15_code n = .ok (i, k)
theorem d62_0 : c62 0 (.iload_n 1) 1 := by decide +kernel
theorem d62_1 : c62 1 (.aload_n 0) 1 := by decide +kernel
theorem d62_2 : c62 2 (.arraylength) 1 := by decide +kernel
theorem d62_3 : c62 3 (.isub) 1 := by decide +kernel
theorem d62_4 : c62 4 (.bipush 31) 2 := by decide +kernel
theorem d62_6 : c62 6 (.iushr) 1 := by decide +kernel
theorem d62_7 : c62 7 (.i2b) 1 := by decide +kernel
theorem d62_8 : c62 8 (.ireturn) 1 := by decide +kernel
theorem pn_62 : plainFor yy28 = true := by decide +kernel
theorem ef_rmCl2 (m : MethodId) (d : Addr) : entryFrame m #[(.ref d), (.int (2 : Int32))] 2 = (mkF m 0 #[rv d, iv (2 : Int32)] []) := by first | (simp [entryFrame, mkF, argsToLocals, Value.category]; done) | rfl
def QCl2 (Z : State) (h0 : Heap) (n0 : Nat) (v_ : Option Value) (h_ : Heap) (L_ : List Loc) : Prop := (v_ = some (.int (0 : Int32))) ∧ (Fr n0 L_) ∧ (h_ = h0)
theorem rmCl2 (l : Launch) (Z : State) (a0 : Array Value) (hw : own_T a0 Z) (d : Addr) (c0 : Int32) (c1 : Int32) (kd : ClassId) (h0 : Heap) (n0 : Nat) (Z0 : n0 ≤ h0.size) (p_0 : Arv Z h0 d kd .byte (2 : Int32) [(.int (own_by c0)), (.int (own_by c1))] (.int (0 : Int32))) :
    own_Met l yy28 jdk_52_method_15_code 2 (some .byte) [] rRrmCl2 Z h0 #[(.ref d), (.int (2 : Int32))] (QCl2 Z h0 n0) := by
  refine own_openN pn_62 (own := "java/lang/StringUTF16") rfl ?_
  intro p e s m below meth c s₁ hx hby hlk hml hret hZ hown hnm X0 e0
  have N0 := Fr.nil n0
  rw [ef_rmCl2 m d]
  show own_Goes p e below s (QCl2 Z h0 n0) rRrmCl2.cells rRrmCl2.slots s₁ (mkF m 0 #[rv d, iv (2 : Int32)] [])
  refine own_st (fun _ kk_ => XS.iloadN X0.here hx rfl (hb hby d62_0) rfl (XS.aloadN X0.here hx rfl (hb hby d62_1) rfl rfl kk_)) ?_
  show gN s₁ (mkF m 2 #[rv d, iv (2 : Int32)] [(.ref d), (.int (2 : Int32))])
  obtain ⟨cl1, Ar1, -, Sz1, Nn1, -, -⟩ := id p_0
  refine own_st (fun _ kk_ => X0.arraylength hx (by rw [e0]; exact Ar1.1) (State.isArrayOf_alike hZ.alike Ar1.2.1) (g := (mkF m 2 #[rv d, iv (2 : Int32)] [(.ref d), (.int (2 : Int32))])) rfl rfl (hb hby d62_2) _ kk_) ?_
  rw [len_of Sz1 Nn1]
  show gN s₁ (mkF m 3 #[rv d, iv (2 : Int32)] [(.int (2 : Int32)), (.int (2 : Int32))])
  refine own_st (fun _ kk_ => XS.isub X0.here hx rfl (hb hby d62_3) rfl (XS.bipush X0.here hx rfl (hb hby d62_4) (XS.iushr X0.here hx rfl (hb hby d62_6) rfl (XS.i2b X0.here hx rfl (hb hby d62_7) rfl kk_)))) ?_
  show gN s₁ (mkF m 8 #[rv d, iv (2 : Int32)] [(.int ((((0 : Int32).toUInt32 >>> ((31 : Int32) &&& 31).toUInt32).toInt32).toInt8.toInt32))])
  refine own_retN X0 hx hlk (t := .byte) hret (by simp) (hb hby d62_8) (by decide) (by decide) ?_
  show QCl2 Z h0 n0 (some (.int (nar .byte ((((0 : Int32).toUInt32 >>> ((31 : Int32) &&& 31).toUInt32).toInt32).toInt8.toInt32)))) s₁.heap _
  rw [e0]
  exact ⟨by decide, N0, rfl⟩
abbrev rRrmCv2 : Room := { frames := 2, cells := 1, slots := 2, locals := 35 }
abbrev c59 (n : Nat) (i : ClassFile.Instr) (k : Nat) : Prop := decode jdk_42_method_149_code n = .ok (i, k)
theorem d59_0 : c59 0 (.aload_n 0) 1 := by decide +kernel
theorem d59_1 : c59 1 (.invokespecial 1) 3 := by decide +kernel
theorem d59_4 : c59 4 (.iload_n 3) 1 := by decide +kernel
theorem d59_5 : c59 5 (.ifCond .ne 22) 3 := by decide +kernel
theorem d59_27 : c59 27 (.getstatic 38) 3 := by decide +kernel
theorem d59_30 : c59 30 (.ifCond .eq 28) 3 := by decide +kernel
theorem d59_33 : c59 33 (.aload_n 1) 1 := by decide +kernel
theorem d59_34 : c59 34 (.iload_n 2) 1 := by decide +kernel
theorem d59_35 : c59 35 (.iload_n 3) 1 := by decide +kernel
theorem d59_36 : c59 36 (.invokestatic 177) 3 := by decide +kernel
theorem d59_39 : c59 39 (.astore 5) 2 := by decide +kernel
theorem d59_41 : c59 41 (.aload_n 0) 1 := by decide +kernel
theorem d59_42 : c59 42 (.aload 5) 2 := by decide +kernel
theorem d59_44 : c59 44 (.iload_n 3) 1 := by decide +kernel
theorem d59_45 : c59 45 (.invokestatic 47) 3 := by decide +kernel
theorem d59_48 : c59 48 (.putfield 15) 3 := by decide +kernel
theorem d59_51 : c59 51 (.aload_n 0) 1 := by decide +kernel
theorem d59_52 : c59 52 (.aload 5) 2 := by decide +kernel
theorem d59_54 : c59 54 (.putfield 9) 3 := by decide +kernel
theorem d59_57 : c59 57 (.return_) 1 := by decide +kernel
theorem pd_17 : parseMethodDescriptor "([CII)[B" = some ⟨[(.array .char), .int, .int], some (.array .byte)⟩ := by decide +kernel
theorem pd_18 : parseMethodDescriptor "([BI)B" = some ⟨[(.array .byte), .int], some .byte⟩ := by decide +kernel
theorem pn_59 : plainFor yy29 = true := by decide +kernel
theorem ef_rmCv2 (m : MethodId) (s9 : Addr) (ca : Addr) : entryFrame m #[(.ref s9), (.ref ca), (.int (0 : Int32)), (.int (2 : Int32)), .null] 6 = (mkF m 0 #[rv s9, rv ca, iv (0 : Int32), iv (2 : Int32), .val .null, oU] []) := by first | (simp [entryFrame, mkF, argsToLocals, Value.category]; done) | rfl
def QCv2 (Z : State) (s9 : Addr) (c0 : Int32) (c1 : Int32) (h0 : Heap) (n0 : Nat) (v_ : Option Value) (h_ : Heap) (L_ : List Loc) : Prop := ∃ d : Addr, ∃ kd : ClassId, (v_ = none) ∧ (Fr n0 L_) ∧ (Keep h0 h_ [s9]) ∧ (h0.size ≤ d) ∧ (Fld Z h_ s9 "java/lang/String" "coder" "B" (.int (0 : Int32))) ∧ (Fld Z h_ s9 "java/lang/String" "value" "[B" (.ref d)) ∧ (Arv Z h_ d kd .byte (2 : Int32) [(.int (own_by c0)), (.int (own_by c1))] (.int (0 : Int32)))
theorem rmCv2 (l : Launch) (Z : State) (a0 : Array Value) (hw : own_T a0 Z) (s9 : Addr) (ca : Addr) (c0 : Int32) (c1 : Int32) (kc : ClassId) (cs : Int32) (h0 : Heap) (n0 : Nat) (Z0 : n0 ≤ h0.size) (p_0 : Exa Z h0 s9 "java/lang/String") (p_1 : Fld Z h0 s9 "java/lang/String" "value" "[B" .null) (p_2 : Fld Z h0 s9 "java/lang/String" "coder" "B" (.int (0 : Int32))) (p_3 : n0 ≤ s9) (p_4 : Arv Z h0 ca kc .char (2 : Int32) [(.int (nar .char c0)), (.int (nar .char c1))] (.int (0 : Int32))) (p_5 : Sta Z h0 "java/lang/String" "COMPACT_STRINGS" "Z" (.int cs)) (hcs : ¬ cs = (0 : Int32)) (hi0 : own_in c0) (hi1 : own_in c1) :
    own_Met l yy29 jdk_42_method_149_code 6 none [] rRrmCv2 Z h0 #[(.ref s9), (.ref ca), (.int (0 : Int32)), (.int (2 : Int32)), .null] (QCv2 Z s9 c0 c1 h0 n0) := by
  refine own_openN pn_59 (own := "java/lang/String") rfl ?_
  intro p e s m below meth c s₁ hx hby hlk hml hret hZ hown hnm X0 e0
  have N0 := Fr.nil n0
  rw [ef_rmCv2 m s9 ca]
  show own_Goes p e below s (QCv2 Z s9 c0 c1 h0 n0) rRrmCv2.cells rRrmCv2.slots s₁ (mkF m 0 #[rv s9, rv ca, iv (0 : Int32), iv (2 : Int32), .val .null, oU] [])
  refine own_st (fun _ kk_ => XS.aloadN X0.here hx rfl (hb hby d59_0) rfl rfl kk_) ?_
  show gN s₁ (mkF m 1 #[rv s9, rv ca, iv (0 : Int32), iv (2 : Int32), .val .null, oU] [(.ref s9)])
  obtain ⟨T1, X1, e1, st1⟩ := initO X0 hx hZ hown (own_w hw 29 rfl) (own_w hw 30 rfl) (own_w hw 31 rfl) e0 (g := (mkF m 1 #[rv s9, rv ca, iv (0 : Int32), iv (2 : Int32), .val .null, oU] [(.ref s9)])) rfl (by rw [hml]; rfl) rfl (hb hby d59_1) (by decide) (W := 0) (by show 2 * 0 + _ ≤ _; exact Nat.le_of_eq rfl) (by decide)
  refine own_st st1 ?_
  refine own_st (fun _ kk_ => XS.iloadN X1.here hx rfl (hb hby d59_4) rfl (XS.ifYes X1.here hx rfl (pc0 := 5) (pc' := 27) rfl (hb hby d59_5) rfl (XT.i0_ne_t (by decide)) (by decide) (by decide) kk_)) ?_
  show gN T1 (mkF m 27 #[rv s9, rv ca, iv (0 : Int32), iv (2 : Int32), .val .null, oU] [])
  obtain ⟨T2, X2, e2, st2⟩ := getS2 X1 hx hZ hown (host := "") (Or.inl (own_w hw 14 rfl)) Via.refl e1 p_5 (g := (mkF m 27 #[rv s9, rv ca, iv (0 : Int32), iv (2 : Int32), .val .null, oU] [])) rfl (hb hby d59_27)
  refine own_st st2 ?_
  refine own_st (fun _ kk_ => XS.ifNo X2.here hx rfl (hb hby d59_30) rfl (XT.i0_eq_f hcs) (XS.aloadN X2.here hx rfl (hb hby d59_33) rfl rfl (XS.iloadN X2.here hx rfl (hb hby d59_34) rfl (XS.iloadN X2.here hx rfl (hb hby d59_35) rfl kk_)))) ?_
  show gN T2 (mkF m 36 #[rv s9, rv ca, iv (0 : Int32), iv (2 : Int32), .val .null, oU] [(.int (2 : Int32)), (.int (0 : Int32)), (.ref ca)])
  obtain ⟨T3, L3, v3, X3, hQ3, st3⟩ := own_cutA (Jvm.LawKit.callS X2 hx (y := yy27) hown (own_mw hZ hw 342 rfl) (own_mw hZ hw 343 rfl) (own_mw hZ hw 344 rfl) (own_mw hZ hw 345 rfl) (by decide) (backOf (W := 0) (rmCq2 l Z a0 hw (ca) (c0) (c1) (kc) h0 n0 Z0 p_4 (by assumption) (by assumption)) hZ (own_w hw 345 rfl) (own_w hw 344 rfl) (by decide) (by decide)) (g := (mkF m 36 #[rv s9, rv ca, iv (0 : Int32), iv (2 : Int32), .val .null, oU] [(.int (2 : Int32)), (.int (0 : Int32)), (.ref ca)])) rfl (by rw [hml]; rfl) (argsL := [(.ref ca), (.int (0 : Int32)), (.int (2 : Int32))]) (rest := []) (lenOf pd_17 rfl) rfl (own_bl rfl) (hb hby d59_36) (fun _ _ => ⟨rfl, e2, own_bl rfl, own_bl rfl⟩))
  obtain ⟨x3_d, x3_kd, rfl, Nq3, Kq3, u3_0, u3_1⟩ := hQ3
  have N3 := Fr.app N0 Nq3
  have f3_0 := p_0.keep Kq3
  have f3_1 := p_1.keep Kq3 nin0
  have f3_2 := p_2.keep Kq3 nin0
  have f3_3 := p_4.keep Kq3 nin0
  have f3_4 := own_Sta_keep p_5 Kq3 ns0
  have Zs3 : n0 ≤ T3.heap.size := Nat.le_trans Z0 Kq3.1
  have K3 := (Keep.refl h0 [s9]).trans Kq3 all0
  refine own_st st3 ?_
  refine own_st (fun _ kk_ => XS.astore X3.here hx rfl (hb hby d59_39) rfl rfl (l' := #[rv s9, rv ca, iv (0 : Int32), iv (2 : Int32), .val .null, rv x3_d]) rfl (XS.aloadN X3.here hx rfl (hb hby d59_41) rfl rfl (XS.aload X3.here hx rfl (hb hby d59_42) rfl rfl (XS.iloadN X3.here hx rfl (hb hby d59_44) rfl kk_)))) ?_
  show gN T3 (mkF m 45 #[rv s9, rv ca, iv (0 : Int32), iv (2 : Int32), .val .null, rv x3_d] [(.int (2 : Int32)), (.ref x3_d), (.ref s9)])
  obtain ⟨T4, L4, v4, X4, hQ4, st4⟩ := own_cutA (Jvm.LawKit.callS X3 hx (y := yy28) hown (own_mw hZ hw 349 rfl) (own_mw hZ hw 350 rfl) (own_mw hZ hw 344 rfl) (own_mw hZ hw 351 rfl) (by decide) (backOf (W := 1) (rmCl2 l Z a0 hw (x3_d) (c0) (c1) (x3_kd) T3.heap n0 Zs3 u3_1) hZ (own_w hw 351 rfl) (own_w hw 344 rfl) (by decide) (by decide)) (g := (mkF m 45 #[rv s9, rv ca, iv (0 : Int32), iv (2 : Int32), .val .null, rv x3_d] [(.int (2 : Int32)), (.ref x3_d), (.ref s9)])) rfl (by rw [hml]; rfl) (argsL := [(.ref x3_d), (.int (2 : Int32))]) (rest := [(.ref s9)]) (lenOf pd_18 rfl) rfl (own_bl rfl) (hb hby d59_45) (fun _ _ => ⟨rfl, rfl, own_bl rfl, own_bl rfl⟩))
  obtain ⟨rfl, Nq4, eq4⟩ := hQ4
  have N4 := Fr.app N3 Nq4
  refine own_st st4 ?_
  obtain ⟨T5, h5, X5, e5, W5, st5⟩ := putFN X4 hx hZ hown (own_w hw 34 rfl) Via.refl eq4 f3_2 f3_0 (Or.inr ⟨(own_w hw 35 rfl), rfl, hnm⟩) (own_w hw 20 rfl) (ty := .byte) (v' := (.int (nar .byte (0 : Int32)))) (by decide) rfl (fits_nar_byte _) (g := (mkF m 48 #[rv s9, rv ca, iv (0 : Int32), iv (2 : Int32), .val .null, rv x3_d] [(.int (0 : Int32)), (.ref s9)])) rfl rfl (hb hby d59_48)
  have fw5 : Fld Z h5 s9 "java/lang/String" "coder" "B" (.int (nar .byte (0 : Int32))) := f3_2.same W5
  have f5_0 := f3_0.wr W5
  have f5_1 := f3_1.other W5 (Or.inr (slot_ne (Or.inr (own_w hw 33 rfl)) (Or.inr (own_w hw 35 rfl)) (by decide) (t := (.array .byte)) (t' := .byte) (by decide) (by decide)))
  have f5_4 := f3_4.wr W5
  have n3_s9d := own_nk p_0.lt u3_0
  have f5_5 := u3_1.other W5 (Ne.symm n3_s9d)
  have Zs5 : n0 ≤ h5.size := Nat.le_trans Zs3 (Nat.le_of_eq W5.size.symm)
  have K5 := K3.wr W5 (Or.inl (List.mem_of_getElem? (i := 0) rfl))
  have N5 := Fr.snoc X5 N4 p_3
  refine own_st st5 ?_
  refine own_st (fun _ kk_ => XS.aloadN X5.here hx rfl (hb hby d59_51) rfl rfl (XS.aload X5.here hx rfl (hb hby d59_52) rfl rfl kk_)) ?_
  show gN T5 (mkF m 54 #[rv s9, rv ca, iv (0 : Int32), iv (2 : Int32), .val .null, rv x3_d] [(.ref x3_d), (.ref s9)])
  obtain ⟨T6, h6, X6, e6, W6, st6⟩ := putF X5 hx hZ hown (host := "") (Or.inl (own_w hw 32 rfl)) Via.refl e5 f5_1 f5_0 (Or.inr ⟨(own_w hw 33 rfl), rfl, hnm⟩) (own_w hw 20 rfl) (ty := (.array .byte)) (by decide) rfl rfl (g := (mkF m 54 #[rv s9, rv ca, iv (0 : Int32), iv (2 : Int32), .val .null, rv x3_d] [(.ref x3_d), (.ref s9)])) rfl rfl (hb hby d59_54)
  have fw6 : Fld Z h6 s9 "java/lang/String" "value" "[B" (.ref x3_d) := f5_1.same W6
  have f6_0 := f5_0.wr W6
  have f6_2 := f5_4.wr W6
  have f6_3 := f5_5.other W6 (Ne.symm n3_s9d)
  have f6_4 := fw5.other W6 (Or.inr (slot_ne (Or.inr (own_w hw 35 rfl)) (Or.inr (own_w hw 33 rfl)) (by decide) (t := .byte) (t' := (.array .byte)) (by decide) (by decide)))
  have Zs6 : n0 ≤ h6.size := Nat.le_trans Zs5 (Nat.le_of_eq W6.size.symm)
  have K6 := K5.wr W6 (Or.inl (List.mem_of_getElem? (i := 0) rfl))
  have N6 := Fr.snoc X6 N5 p_3
  refine own_st st6 ?_
  have sz3_d := Nat.le_trans (Keep.refl h0 [s9]).1 u3_0
  refine own_ret0 X6 hx hlk hret (hb hby d59_57) (by decide) (by decide) ?_
  show QCv2 Z s9 c0 c1 h0 n0 none T6.heap _
  rw [e6]
  exact ⟨x3_d, x3_kd, rfl, N6, K6, sz3_d, f6_4, fw6, f6_3⟩
abbrev rRrmCs2 : Room := { frames := 3, cells := 1, slots := 2, locals := 52 }
abbrev c58 (n : Nat) (i : ClassFile.Instr) (k : Nat) : Prop := decode jdk_42_method_3_code n = .ok (i, k)
theorem d58_0 : c58 0 (.aload_n 0) 1 := by decide +kernel
theorem d58_1 : c58 1 (.aload_n 1) 1 := by decide +kernel
theorem d58_2 : c58 2 (.iconst 0) 1 := by decide +kernel
theorem d58_3 : c58 3 (.aload_n 1) 1 := by decide +kernel
theorem d58_4 : c58 4 (.arraylength) 1 := by decide +kernel
theorem d58_5 : c58 5 (.aconst_null) 1 := by decide +kernel
theorem d58_6 : c58 6 (.invokespecial 27) 3 := by decide +kernel
theorem d58_9 : c58 9 (.return_) 1 := by decide +kernel
theorem pd_19 : parseMethodDescriptor "([CIILjava/lang/Void;)V" = some ⟨[(.array .char), .int, .int, (.object "java/lang/Void")], none⟩ := by decide +kernel
theorem pn_58 : plainFor yy30 = true := by decide +kernel
theorem ef_rmCs2 (m : MethodId) (s9 : Addr) (ca : Addr) : entryFrame m #[(.ref s9), (.ref ca)] 2 = (mkF m 0 #[rv s9, rv ca] []) := by first | (simp [entryFrame, mkF, argsToLocals, Value.category]; done) | rfl
def QCs2 (Z : State) (s9 : Addr) (c0 : Int32) (c1 : Int32) (h0 : Heap) (n0 : Nat) (v_ : Option Value) (h_ : Heap) (L_ : List Loc) : Prop := ∃ d : Addr, ∃ kd : ClassId, (v_ = none) ∧ (Fr n0 L_) ∧ (Keep h0 h_ [s9]) ∧ (h0.size ≤ d) ∧ (Fld Z h_ s9 "java/lang/String" "coder" "B" (.int (0 : Int32))) ∧ (Fld Z h_ s9 "java/lang/String" "value" "[B" (.ref d)) ∧ (Arv Z h_ d kd .byte (2 : Int32) [(.int (own_by c0)), (.int (own_by c1))] (.int (0 : Int32)))
theorem rmCs2 (l : Launch) (Z : State) (a0 : Array Value) (hw : own_T a0 Z) (s9 : Addr) (ca : Addr) (c0 : Int32) (c1 : Int32) (kc : ClassId) (cs : Int32) (h0 : Heap) (n0 : Nat) (Z0 : n0 ≤ h0.size) (p_0 : Exa Z h0 s9 "java/lang/String") (p_1 : Fld Z h0 s9 "java/lang/String" "value" "[B" .null) (p_2 : Fld Z h0 s9 "java/lang/String" "coder" "B" (.int (0 : Int32))) (p_3 : n0 ≤ s9) (p_4 : Arv Z h0 ca kc .char (2 : Int32) [(.int (nar .char c0)), (.int (nar .char c1))] (.int (0 : Int32))) (p_5 : Sta Z h0 "java/lang/String" "COMPACT_STRINGS" "Z" (.int cs)) (hcs : ¬ cs = (0 : Int32)) (hi0 : own_in c0) (hi1 : own_in c1) :
    own_Met l yy30 jdk_42_method_3_code 2 none [] rRrmCs2 Z h0 #[(.ref s9), (.ref ca)] (QCs2 Z s9 c0 c1 h0 n0) := by
  refine own_openN pn_58 (own := "java/lang/String") rfl ?_
  intro p e s m below meth c s₁ hx hby hlk hml hret hZ hown hnm X0 e0
  have N0 := Fr.nil n0
  rw [ef_rmCs2 m s9 ca]
  show own_Goes p e below s (QCs2 Z s9 c0 c1 h0 n0) rRrmCs2.cells rRrmCs2.slots s₁ (mkF m 0 #[rv s9, rv ca] [])
  refine own_st (fun _ kk_ => XS.aloadN X0.here hx rfl (hb hby d58_0) rfl rfl (XS.aloadN X0.here hx rfl (hb hby d58_1) rfl rfl (XS.iconst X0.here hx rfl (hb hby d58_2) (XS.aloadN X0.here hx rfl (hb hby d58_3) rfl rfl kk_)))) ?_
  show gN s₁ (mkF m 4 #[rv s9, rv ca] [(.ref ca), (.int (0 : Int32)), (.ref ca), (.ref s9)])
  obtain ⟨cl1, Ar1, -, Sz1, Nn1, -, -⟩ := id p_4
  refine own_st (fun _ kk_ => X0.arraylength hx (by rw [e0]; exact Ar1.1) (State.isArrayOf_alike hZ.alike Ar1.2.1) (g := (mkF m 4 #[rv s9, rv ca] [(.ref ca), (.int (0 : Int32)), (.ref ca), (.ref s9)])) rfl rfl (hb hby d58_4) _ kk_) ?_
  rw [len_of Sz1 Nn1]
  show gN s₁ (mkF m 5 #[rv s9, rv ca] [(.int (2 : Int32)), (.int (0 : Int32)), (.ref ca), (.ref s9)])
  refine own_st (fun _ kk_ => XS.aconstNull X0.here hx rfl (hb hby d58_5) kk_) ?_
  show gN s₁ (mkF m 6 #[rv s9, rv ca] [.null, (.int (2 : Int32)), (.int (0 : Int32)), (.ref ca), (.ref s9)])
  obtain ⟨T2, L2, v2, X2, hQ2, st2⟩ := own_cut (X0.specialBack hx (y := yy29) rfl hown (own_mw hZ hw 339 rfl) (own_mw hZ hw 340 rfl) (own_mw hZ hw 341 rfl) (by decide) (backOf (W := 0) (rmCv2 l Z a0 hw (s9) (ca) (c0) (c1) (kc) (cs) h0 n0 Z0 p_0 p_1 p_2 p_3 p_4 p_5 (by assumption) (by assumption) (by assumption)) hZ (own_w hw 341 rfl) (own_w hw 12 rfl) (by decide) (by decide)) (g := (mkF m 6 #[rv s9, rv ca] [.null, (.int (2 : Int32)), (.int (0 : Int32)), (.ref ca), (.ref s9)])) rfl (by rw [hml]; rfl) (Steps.refl _) (a := s9) (argsL := [(.ref ca), (.int (0 : Int32)), (.int (2 : Int32)), .null]) (rest := []) (lenOf pd_19 rfl) rfl (own_bl rfl) (hb hby d58_6) (fun _ _ => ⟨rfl, e0, own_bl rfl, own_bl rfl⟩))
  obtain ⟨x2_d, x2_kd, rfl, Nq2, Kq2, u2_0, u2_1, u2_2, u2_3⟩ := hQ2
  have N2 := Fr.app N0 Nq2
  have f2_0 := p_0.keep Kq2
  have f2_4 := own_Sta_keep p_5 Kq2 (nsS p_0.nostat ns0)
  have Zs2 : n0 ≤ T2.heap.size := Nat.le_trans Z0 Kq2.1
  have K2 := (Keep.refl h0 [s9]).trans Kq2 (allS (Or.inl (List.mem_of_getElem? (i := 0) rfl)) all0)
  refine own_sTN st2 ?_
  have sz2_d := Nat.le_trans (Keep.refl h0 [s9]).1 u2_0
  refine own_ret0 X2 hx hlk hret (hb hby d58_9) (by decide) (by decide) ?_
  show QCs2 Z s9 c0 c1 h0 n0 none T2.heap _
  exact ⟨x2_d, x2_kd, rfl, N2, K2, sz2_d, u2_1, u2_2, u2_3⟩
theorem own_hwe {a0 : Array Value} {Z : State} (hw : ∀ d ∈ tables_1, d.before a0 Z = true) : ∀ d ∈ StrChars.Road.wordsEq, d.before a0 Z = true := fun d hd => hw d ((by decide +kernel : ∀ d ∈ StrChars.Road.wordsEq, d ∈ tables_1) d hd)
def own_ok (us : List Int32) (z : Int32) (vs : List Value) : Prop := StrChars.Road.CodA us 0 z vs ∧ (∀ c ∈ us, ¬ c < 0 ∧ ¬ (65535 : Int32) < c) ∧ us.length ≤ 4000
theorem own_okn {us : List Int32} (h : ∀ c ∈ us, own_in c) (hl : us.length ≤ 4000) : own_ok us (Int32.ofNat us.length) (us.map fun c => Value.int (own_by c)) := by
  refine ⟨Or.inl ⟨rfl, rfl, rfl, fun c hc => ?_⟩, fun c hc => ?_, hl⟩ <;> (have q := h c hc; unfold own_in at q; simp only [Int32.lt_iff_toInt_lt, Int32.reduceToInt]; omega)
theorem own_eqW {p : Program} {l : Launch} {e : Env} {R : Room} {s : State} {args : Array Value} {below : List Frame} {len W : Nat} {Z : State} {a0 : Array Value} {h : Heap} {n0 : Nat} (hZ : Z.Warmed39 s.vm) (hw : ∀ d ∈ tables_1, d.before a0 Z = true) {kI : Nat} (wi : (Jvm.Cond.instantiable "java/lang/String" kI).before a0 Z = true)
    {x t : Addr} {kb : ClassId} {us : List Int32} {N2 : Int32} {vs : List Value} (E : Exa Z h x "java/lang/String") (C : Fld Z h x "java/lang/String" "coder" "B" (.int 0)) (V : Fld Z h x "java/lang/String" "value" "[B" (.ref t)) {y t' : Addr} {kb' : ClassId} {ds : List Int32} {N2' : Int32} {vs' : List Value} (E' : Exa Z h y "java/lang/String") (C' : Fld Z h y "java/lang/String" "coder" "B" (.int 0)) (V' : Fld Z h y "java/lang/String" "value" "[B" (.ref t'))
    (K : Arv Z h t kb .byte N2 vs (.int 0)) (K' : Arv Z h t' kb' .byte N2' vs' (.int 0)) (o : own_ok us N2 vs) (o' : own_ok ds N2' vs') {z : Int32} (S : Sta Z h "java/lang/String" "COMPACT_STRINGS" "Z" (.int z)) (hz : ¬ z = 0) (hfr : 2 ≤ R.frames) (hlo : W + 28 ≤ R.locals) :
    Back l R p e below s args (⟨"java/lang/String", "equals", "(Ljava/lang/Object;)Z"⟩ : MethodName) len W (fun P a => a = #[.ref x, .ref y] ∧ P.U.heap = h ∧ P.cells + 0 ≤ R.cells ∧ P.slots + 0 ≤ R.slots)
      (fun P _ v B => ∃ L, (v = some (.int (own_b (us = ds))) ∧ Fr n0 L ∧ B.U.heap = h) ∧ B.locs = P.locs ++ L ∧ B.cells = P.cells + 0 ∧ B.slots = P.slots + 0) := by
  intro m meth c P g ig mk a X hg hsize hdg hW hn hp'
  obtain ⟨v, B, X', ⟨L, ⟨hq, hL, hh⟩, hl, hk, hs⟩, st⟩ := StrChars.Road.eqW hZ (own_hwe hw) wi E V C K o.1 o.2.1 o.2.2 E' V' C' K' o'.1 o'.2.1 o'.2.2 S hz hfr hlo m meth c P g ig mk a X hg hsize hdg hW hn hp'
  refine ⟨v, B, X', ⟨L, ⟨?_, ?_, hh⟩, hl, hk, hs⟩, st⟩
  · rcases hq with ⟨hv, q⟩ | ⟨hv, q⟩
    · rw [hv, own_b1 q]
    · rw [hv, own_b0 q]
  · rw [hL]; intro _ q; cases q
abbrev rRrm1 : Room := { frames := 4, cells := 3, slots := 8, locals := 66 }
abbrev c1 (n : Nat) (i : ClassFile.Instr) (k : Nat) : Prop := decode method_3_code n = .ok (i, k)
theorem d1_0 : c1 0 (.iload_n 0) 1 := by decide +kernel
theorem d1_1 : c1 1 (.iconst 3) 1 := by decide +kernel
theorem d1_2 : c1 2 (.iand) 1 := by decide +kernel
theorem d1_3 : c1 3 (.invokestatic 7) 3 := by decide +kernel
theorem d1_6 : c1 6 (.istore_n 1) 1 := by decide +kernel
theorem d1_7 : c1 7 (.iload_n 0) 1 := by decide +kernel
theorem d1_8 : c1 8 (.iconst 2) 1 := by decide +kernel
theorem d1_9 : c1 9 (.iushr) 1 := by decide +kernel
theorem d1_10 : c1 10 (.iconst 3) 1 := by decide +kernel
theorem d1_11 : c1 11 (.iand) 1 := by decide +kernel
theorem d1_12 : c1 12 (.invokestatic 7) 3 := by decide +kernel
theorem d1_15 : c1 15 (.istore_n 2) 1 := by decide +kernel
theorem d1_16 : c1 16 (.iload_n 0) 1 := by decide +kernel
theorem d1_17 : c1 17 (.iconst 4) 1 := by decide +kernel
theorem d1_18 : c1 18 (.iushr) 1 := by decide +kernel
theorem d1_19 : c1 19 (.iconst 1) 1 := by decide +kernel
theorem d1_20 : c1 20 (.iand) 1 := by decide +kernel
theorem d1_21 : c1 21 (.ifCond .ne 8) 3 := by decide +kernel
theorem d1_24 : c1 24 (.iload_n 1) 1 := by decide +kernel
theorem d1_25 : c1 25 (.invokestatic 13) 3 := by decide +kernel
theorem d1_28 : c1 28 (.areturn) 1 := by decide +kernel
theorem d1_29 : c1 29 (.iconst 2) 1 := by decide +kernel
theorem d1_30 : c1 30 (.newarray .char) 2 := by decide +kernel
theorem d1_32 : c1 32 (.astore_n 3) 1 := by decide +kernel
theorem d1_33 : c1 33 (.aload_n 3) 1 := by decide +kernel
theorem d1_34 : c1 34 (.iconst 0) 1 := by decide +kernel
theorem d1_35 : c1 35 (.iload_n 1) 1 := by decide +kernel
theorem d1_36 : c1 36 (.castore) 1 := by decide +kernel
theorem d1_37 : c1 37 (.aload_n 3) 1 := by decide +kernel
theorem d1_38 : c1 38 (.iconst 1) 1 := by decide +kernel
theorem d1_39 : c1 39 (.iload_n 2) 1 := by decide +kernel
theorem d1_40 : c1 40 (.castore) 1 := by decide +kernel
theorem d1_41 : c1 41 (.new 14) 3 := by decide +kernel
theorem d1_44 : c1 44 (.dup) 1 := by decide +kernel
theorem d1_45 : c1 45 (.aload_n 3) 1 := by decide +kernel
theorem d1_46 : c1 46 (.invokespecial 19) 3 := by decide +kernel
theorem d1_49 : c1 49 (.areturn) 1 := by decide +kernel
theorem pd_20 : parseMethodDescriptor "(I)C" = some ⟨[.int], some .char⟩ := by decide +kernel
theorem pd_21 : parseMethodDescriptor "(C)Ljava/lang/String;" = some ⟨[.char], some (.object "java/lang/String")⟩ := by decide +kernel
theorem pd_22 : parseMethodDescriptor "([C)V" = some ⟨[(.array .char)], none⟩ := by decide +kernel
theorem pn_1 : plainFor yy31 = true := by decide +kernel
theorem ef_rm1 (m : MethodId) (x9 : Int32) : entryFrame m #[(.int x9)] 4 = (mkF m 0 #[iv x9, oU, oU, oU] []) := by first | (simp [entryFrame, mkF, argsToLocals, Value.category]; done) | rfl
def Q1 (Z : State) (x9 : Int32) (h0 : Heap) (n0 : Nat) (v_ : Option Value) (h_ : Heap) (L_ : List Loc) : Prop := ∃ y : Addr, ∃ d : Addr, ∃ kd : ClassId, ∃ z9 : Int32, ∃ vs9 : List Value, (v_ = some (.ref y)) ∧ (Fr n0 L_) ∧ (Keep h0 h_ []) ∧ (h0.size ≤ y) ∧ (h0.size ≤ d) ∧ (Exa Z h_ y "java/lang/String") ∧ (Fld Z h_ y "java/lang/String" "coder" "B" (.int (0 : Int32))) ∧ (Fld Z h_ y "java/lang/String" "value" "[B" (.ref d)) ∧ (Arv Z h_ d kd .byte z9 vs9 (.int (0 : Int32))) ∧ (own_tok z9 vs9) ∧ (own_ok (own_tu x9) z9 vs9)
theorem rm1 (l : Launch) (Z : State) (a0 : Array Value) (hw : own_T a0 Z) (x9 : Int32) (cs : Int32) (h0 : Heap) (n0 : Nat) (Z0 : n0 ≤ h0.size) (p_0 : Sta Z h0 "java/lang/String" "COMPACT_STRINGS" "Z" (.int cs)) (hcs : ¬ cs = (0 : Int32)) :
    own_Met l yy31 method_3_code 4 (some (.object "java/lang/String")) [] rRrm1 Z h0 #[(.int x9)] (Q1 Z x9 h0 n0) := by
  refine own_openN pn_1 (own := "com/example/firm_duties/firmduties/BusinessContextMatchesPinLaw") rfl ?_
  intro p e s m below meth c s₁ hx hby hlk hml hret hZ hown hnm X0 e0
  have N0 := Fr.nil n0
  rw [ef_rm1 m x9]
  show own_Goes p e below s (Q1 Z x9 h0 n0) rRrm1.cells rRrm1.slots s₁ (mkF m 0 #[iv x9, oU, oU, oU] [])
  refine own_st (fun _ kk_ => XS.iloadN X0.here hx rfl (hb hby d1_0) rfl (XS.iconst X0.here hx rfl (hb hby d1_1) (XS.iand X0.here hx rfl (hb hby d1_2) rfl kk_))) ?_
  show gN s₁ (mkF m 3 #[iv x9, oU, oU, oU] [(.int (x9 &&& (3 : Int32)))])
  obtain ⟨T1, L1, v1, X1, hQ1, st1⟩ := own_cutA (Jvm.LawKit.callS X0 hx (y := yy21) hown (own_mw hZ hw 7 rfl) (own_mw hZ hw 8 rfl) (own_mw hZ hw 5 rfl) (own_mw hZ hw 9 rfl) (by decide) (backOf (W := 0) (rm2 l Z a0 hw ((x9 &&& (3 : Int32))) h0 n0 Z0) hZ (own_w hw 9 rfl) (own_w hw 5 rfl) (by decide) (by decide)) (g := (mkF m 3 #[iv x9, oU, oU, oU] [(.int (x9 &&& (3 : Int32)))])) rfl (by rw [hml]; rfl) (argsL := [(.int (x9 &&& (3 : Int32)))]) (rest := []) (lenOf pd_20 rfl) rfl (own_bl rfl) (hb hby d1_3) (fun _ _ => ⟨rfl, e0, own_bl rfl, own_bl rfl⟩))
  obtain ⟨rfl, Nq1, eq1⟩ := hQ1
  have N1 := Fr.app N0 Nq1
  refine own_st st1 ?_
  refine own_st (fun _ kk_ => XS.istoreN X1.here hx rfl (hb hby d1_6) rfl (l' := #[iv x9, iv (own_sym (x9 &&& (3 : Int32))), oU, oU]) rfl (XS.iloadN X1.here hx rfl (hb hby d1_7) rfl (XS.iconst X1.here hx rfl (hb hby d1_8) (XS.iushr X1.here hx rfl (hb hby d1_9) rfl (XS.iconst X1.here hx rfl (hb hby d1_10) (XS.iand X1.here hx rfl (hb hby d1_11) rfl kk_)))))) ?_
  show gN T1 (mkF m 12 #[iv x9, iv (own_sym (x9 &&& (3 : Int32))), oU, oU] [(.int (((x9.toUInt32 >>> ((2 : Int32) &&& 31).toUInt32).toInt32) &&& (3 : Int32)))])
  obtain ⟨T2, L2, v2, X2, hQ2, st2⟩ := own_cutA (Jvm.LawKit.callS X1 hx (y := yy21) hown (own_mw hZ hw 7 rfl) (own_mw hZ hw 8 rfl) (own_mw hZ hw 5 rfl) (own_mw hZ hw 9 rfl) (by decide) (backOf (W := 0) (rm2 l Z a0 hw ((((x9.toUInt32 >>> ((2 : Int32) &&& 31).toUInt32).toInt32) &&& (3 : Int32))) h0 n0 Z0) hZ (own_w hw 9 rfl) (own_w hw 5 rfl) (by decide) (by decide)) (g := (mkF m 12 #[iv x9, iv (own_sym (x9 &&& (3 : Int32))), oU, oU] [(.int (((x9.toUInt32 >>> ((2 : Int32) &&& 31).toUInt32).toInt32) &&& (3 : Int32)))])) rfl (by rw [hml]; rfl) (argsL := [(.int (((x9.toUInt32 >>> ((2 : Int32) &&& 31).toUInt32).toInt32) &&& (3 : Int32)))]) (rest := []) (lenOf pd_20 rfl) rfl (own_bl rfl) (hb hby d1_12) (fun _ _ => ⟨rfl, eq1, own_bl rfl, own_bl rfl⟩))
  obtain ⟨rfl, Nq2, eq2⟩ := hQ2
  have N2 := Fr.app N1 Nq2
  refine own_st st2 ?_
  refine own_st (fun _ kk_ => XS.istoreN X2.here hx rfl (hb hby d1_15) rfl (l' := #[iv x9, iv (own_sym (x9 &&& (3 : Int32))), iv (own_sym (((x9.toUInt32 >>> ((2 : Int32) &&& 31).toUInt32).toInt32) &&& (3 : Int32))), oU]) rfl (XS.iloadN X2.here hx rfl (hb hby d1_16) rfl (XS.iconst X2.here hx rfl (hb hby d1_17) (XS.iushr X2.here hx rfl (hb hby d1_18) rfl (XS.iconst X2.here hx rfl (hb hby d1_19) (XS.iand X2.here hx rfl (hb hby d1_20) rfl kk_)))))) ?_
  show gN T2 (mkF m 21 #[iv x9, iv (own_sym (x9 &&& (3 : Int32))), iv (own_sym (((x9.toUInt32 >>> ((2 : Int32) &&& 31).toUInt32).toInt32) &&& (3 : Int32))), oU] [(.int (((x9.toUInt32 >>> ((4 : Int32) &&& 31).toUInt32).toInt32) &&& (1 : Int32)))])
  rcases Classical.em ((((x9.toUInt32 >>> ((4 : Int32) &&& 31).toUInt32).toInt32) &&& (1 : Int32)) = (0 : Int32)) with q | q
  · refine own_st (fun _ kk_ => XS.ifNo X2.here hx rfl (hb hby d1_21) rfl (XT.i0_ne_f q) (XS.iloadN X2.here hx rfl (hb hby d1_24) rfl kk_)) ?_
    show gN T2 (mkF m 25 #[iv x9, iv (own_sym (x9 &&& (3 : Int32))), iv (own_sym (((x9.toUInt32 >>> ((2 : Int32) &&& 31).toUInt32).toInt32) &&& (3 : Int32))), oU] [(.int (own_sym (x9 &&& (3 : Int32))))])
    obtain ⟨T3, L3, v3, X3, hQ3, st3⟩ := own_cutA (Jvm.LawKit.callS X2 hx (y := yy25) hown (own_mw hZ hw 10 rfl) (own_mw hZ hw 11 rfl) (own_mw hZ hw 12 rfl) (own_mw hZ hw 13 rfl) (by decide) (backOf (W := 0) (rm3 l Z a0 hw ((own_sym (x9 &&& (3 : Int32)))) (cs) h0 n0 Z0 p_0 (by assumption) (own_syme _).m.i) hZ (own_w hw 13 rfl) (own_w hw 12 rfl) (by decide) (by decide)) (g := (mkF m 25 #[iv x9, iv (own_sym (x9 &&& (3 : Int32))), iv (own_sym (((x9.toUInt32 >>> ((2 : Int32) &&& 31).toUInt32).toInt32) &&& (3 : Int32))), oU] [(.int (own_sym (x9 &&& (3 : Int32))))])) rfl (by rw [hml]; rfl) (argsL := [(.int (own_sym (x9 &&& (3 : Int32))))]) (rest := []) (lenOf pd_21 rfl) rfl (own_bl rfl) (hb hby d1_25) (fun _ _ => ⟨rfl, eq2, own_bl rfl, own_bl rfl⟩))
    obtain ⟨x3_y, x3_d, x3_kd, rfl, Nq3, Kq3, u3_0, u3_1, u3_2, u3_3, u3_4, u3_5⟩ := hQ3
    have N3 := Fr.app N2 Nq3
    have f3_0 := own_Sta_keep p_0 Kq3 ns0
    have Zs3 : n0 ≤ T3.heap.size := Nat.le_trans Z0 Kq3.1
    have K3 := (Keep.refl h0 []).trans Kq3 all0
    refine own_st st3 ?_
    have hok : own_ok (own_tu x9) (1 : Int32) [(.int (own_by (own_sym (x9 &&& (3 : Int32)))))] := by
      rw [own_tu, if_pos q]; exact own_okn (List.forall_mem_cons.mpr ⟨(own_syme _).m.i, (fun _ q => nomatch q)⟩) (Nat.le_of_ble_eq_true rfl)
    have sz3_y := Nat.le_trans (Keep.refl h0 []).1 u3_0
    have sz3_d := Nat.le_trans (Keep.refl h0 []).1 u3_1
    refine own_retA X3 hx hlk rfl hret rfl (hb hby d1_28) (by decide) (by decide) ?_
    show Q1 Z x9 h0 n0 (some (.ref x3_y)) T3.heap _
    exact ⟨x3_y, x3_d, x3_kd, (1 : Int32), [(.int (own_by (own_sym (x9 &&& (3 : Int32)))))], rfl, N3, K3, sz3_y, sz3_d, u3_2, u3_3, u3_4, u3_5, (Or.inl ⟨_, rfl, rfl, own_syme _⟩), hok⟩
  · refine own_st (fun _ kk_ => XS.ifYes X2.here hx rfl (pc0 := 21) (pc' := 29) rfl (hb hby d1_21) rfl (XT.i0_ne_t q) (by decide) (by decide) (XS.iconst X2.here hx rfl (hb hby d1_29) kk_)) ?_
    show gN T2 (mkF m 30 #[iv x9, iv (own_sym (x9 &&& (3 : Int32))), iv (own_sym (((x9.toUInt32 >>> ((2 : Int32) &&& 31).toUInt32).toInt32) &&& (3 : Int32))), oU] [(.int (2 : Int32))])
    obtain ⟨T4, h4, k4, X4, e4, E4, A4, st4⟩ := newP X2 hx hZ (own_w hw 334 rfl) eq2 (g := (mkF m 30 #[iv x9, iv (own_sym (x9 &&& (3 : Int32))), iv (own_sym (((x9.toUInt32 >>> ((2 : Int32) &&& 31).toUInt32).toInt32) &&& (3 : Int32))), oU] [(.int (2 : Int32))])) rfl (hb hby d1_30) rfl (by decide) (cap := 2) (by decide) (by decide) (by decide) (by decide)
    obtain ⟨b4, gx4⟩ : ∃ z, z = h0.size := ⟨_, rfl⟩
    rw [← gx4] at A4 st4
    have f4_0 := p_0.ext E4
    have Zs4 : n0 ≤ h4.size := Nat.le_trans Z0 E4.1
    have K4 := (Keep.refl h0 []).ext E4
    have V4 : Arv Z h4 b4 k4 .char (2 : Int32) [(.int (0 : Int32)), (.int (0 : Int32))] (.int (0 : Int32)) := (Arv.new A4 (by decide)).pad (pad_rep [] (.int (0 : Int32)) 2)
    refine own_st st4 ?_
    refine own_st (fun _ kk_ => XS.astoreN X4.here hx rfl (hb hby d1_32) rfl rfl (l' := #[iv x9, iv (own_sym (x9 &&& (3 : Int32))), iv (own_sym (((x9.toUInt32 >>> ((2 : Int32) &&& 31).toUInt32).toInt32) &&& (3 : Int32))), rv b4]) rfl (XS.aloadN X4.here hx rfl (hb hby d1_33) rfl rfl (XS.iconst X4.here hx rfl (hb hby d1_34) (XS.iloadN X4.here hx rfl (hb hby d1_35) rfl kk_)))) ?_
    show gN T4 (mkF m 36 #[iv x9, iv (own_sym (x9 &&& (3 : Int32))), iv (own_sym (((x9.toUInt32 >>> ((2 : Int32) &&& 31).toUInt32).toInt32) &&& (3 : Int32))), rv b4] [(.int (own_sym (x9 &&& (3 : Int32)))), (.int (0 : Int32)), (.ref b4)])
    obtain ⟨cl5, Ar5, q5, Sz5, Nn5, Hh5, Gg5⟩ := id V4
    obtain ⟨T5, h5, X5, e5, W5, st5⟩ := stC X4 hx hZ e4 Ar5 (j := (0 : Int32)) (inb_of Sz5 ⟨by decide, by decide⟩) (g := (mkF m 36 #[iv x9, iv (own_sym (x9 &&& (3 : Int32))), iv (own_sym (((x9.toUInt32 >>> ((2 : Int32) &&& 31).toUInt32).toInt32) &&& (3 : Int32))), rv b4] [(.int (own_sym (x9 &&& (3 : Int32)))), (.int (0 : Int32)), (.ref b4)])) rfl rfl (hb hby d1_36)
    have V5 : Arv Z h5 b4 k4 .char (2 : Int32) [(.int (nar .char (own_sym (x9 &&& (3 : Int32))))), (.int (0 : Int32))] (.int (0 : Int32)) := Arv.set Ar5 q5 Sz5 Nn5 Hh5 Gg5 (fits_nar_char _) W5 0 rfl (Nat.le_of_ble_eq_true rfl)
    have f5_0 := f4_0.wr W5
    have Zs5 : n0 ≤ h5.size := Nat.le_trans Zs4 (Nat.le_of_eq W5.size.symm)
    have sz4 := Nat.le_trans (Keep.refl h0 []).1 (Nat.le_of_eq gx4.symm)
    have K5 := K4.wr W5 (Or.inr sz4)
    have gg4 := Nat.le_trans Z0 (Nat.le_of_eq gx4.symm)
    have N5 := Fr.snoc X5 N2 gg4
    refine own_st st5 ?_
    refine own_st (fun _ kk_ => XS.aloadN X5.here hx rfl (hb hby d1_37) rfl rfl (XS.iconst X5.here hx rfl (hb hby d1_38) (XS.iloadN X5.here hx rfl (hb hby d1_39) rfl kk_))) ?_
    show gN T5 (mkF m 40 #[iv x9, iv (own_sym (x9 &&& (3 : Int32))), iv (own_sym (((x9.toUInt32 >>> ((2 : Int32) &&& 31).toUInt32).toInt32) &&& (3 : Int32))), rv b4] [(.int (own_sym (((x9.toUInt32 >>> ((2 : Int32) &&& 31).toUInt32).toInt32) &&& (3 : Int32)))), (.int (1 : Int32)), (.ref b4)])
    obtain ⟨cl6, Ar6, q6, Sz6, Nn6, Hh6, Gg6⟩ := id V5
    obtain ⟨T6, h6, X6, e6, W6, st6⟩ := stC X5 hx hZ e5 Ar6 (j := (1 : Int32)) (inb_of Sz6 ⟨by decide, by decide⟩) (g := (mkF m 40 #[iv x9, iv (own_sym (x9 &&& (3 : Int32))), iv (own_sym (((x9.toUInt32 >>> ((2 : Int32) &&& 31).toUInt32).toInt32) &&& (3 : Int32))), rv b4] [(.int (own_sym (((x9.toUInt32 >>> ((2 : Int32) &&& 31).toUInt32).toInt32) &&& (3 : Int32)))), (.int (1 : Int32)), (.ref b4)])) rfl rfl (hb hby d1_40)
    have V6 : Arv Z h6 b4 k4 .char (2 : Int32) [(.int (nar .char (own_sym (x9 &&& (3 : Int32))))), (.int (nar .char (own_sym (((x9.toUInt32 >>> ((2 : Int32) &&& 31).toUInt32).toInt32) &&& (3 : Int32)))))] (.int (0 : Int32)) := Arv.set Ar6 q6 Sz6 Nn6 Hh6 Gg6 (fits_nar_char _) W6 1 rfl (Nat.le_of_ble_eq_true rfl)
    have f6_0 := f5_0.wr W6
    have Zs6 : n0 ≤ h6.size := Nat.le_trans Zs5 (Nat.le_of_eq W6.size.symm)
    have K6 := K5.wr W6 (Or.inr sz4)
    have N6 := Fr.snoc X6 N5 gg4
    refine own_st st6 ?_
    obtain ⟨T7, h7, X7, e7, E7, A7, D7, -, st7⟩ := newO X6 hx hZ hown (own_w hw 335 rfl) (own_w hw 20 rfl) (own_w hw 12 rfl) e6 (g := (mkF m 41 #[iv x9, iv (own_sym (x9 &&& (3 : Int32))), iv (own_sym (((x9.toUInt32 >>> ((2 : Int32) &&& 31).toUInt32).toInt32) &&& (3 : Int32))), rv b4] [])) rfl (hb hby d1_41) (by decide) (by decide)
    obtain ⟨b7, gx7⟩ : ∃ z, z = h6.size := ⟨_, rfl⟩
    rw [← gx7] at A7 D7 st7
    have f7_0 := f6_0.ext E7
    have f7_1 := V6.ext E7
    have Zs7 : n0 ≤ h7.size := Nat.le_trans Zs6 E7.1
    have K7 := K6.ext E7
    have fn7_value : Fld Z h7 b7 "java/lang/String" "value" "[B" .null := D7 (Or.inr (own_w hw 33 rfl)) (ty := (.array .byte)) (by decide)
    have fn7_coder : Fld Z h7 b7 "java/lang/String" "coder" "B" (.int (0 : Int32)) := D7 (Or.inr (own_w hw 35 rfl)) (ty := .byte) (by decide)
    refine own_st st7 ?_
    refine own_st (fun _ kk_ => XS.dup X7.here hx rfl (hb hby d1_44) rfl rfl (XS.aloadN X7.here hx rfl (hb hby d1_45) rfl rfl kk_)) ?_
    show gN T7 (mkF m 46 #[iv x9, iv (own_sym (x9 &&& (3 : Int32))), iv (own_sym (((x9.toUInt32 >>> ((2 : Int32) &&& 31).toUInt32).toInt32) &&& (3 : Int32))), rv b4] [(.ref b4), (.ref b7), (.ref b7)])
    have gg7 := Nat.le_trans Zs6 (Nat.le_of_eq gx7.symm)
    obtain ⟨T8, L8, v8, X8, hQ8, st8⟩ := own_cut (X7.specialBack hx (y := yy30) rfl hown (own_mw hZ hw 336 rfl) (own_mw hZ hw 337 rfl) (own_mw hZ hw 338 rfl) (by decide) (backOf (W := 1) (rmCs2 l Z a0 hw (b7) (b4) ((own_sym (x9 &&& (3 : Int32)))) ((own_sym (((x9.toUInt32 >>> ((2 : Int32) &&& 31).toUInt32).toInt32) &&& (3 : Int32)))) (k4) (cs) h7 n0 Zs7 A7 fn7_value fn7_coder gg7 f7_1 f7_0 (by assumption) (own_syme _).m.i (own_syme _).m.i) hZ (own_w hw 338 rfl) (own_w hw 12 rfl) (by decide) (by decide)) (g := (mkF m 46 #[iv x9, iv (own_sym (x9 &&& (3 : Int32))), iv (own_sym (((x9.toUInt32 >>> ((2 : Int32) &&& 31).toUInt32).toInt32) &&& (3 : Int32))), rv b4] [(.ref b4), (.ref b7), (.ref b7)])) rfl (by rw [hml]; rfl) (Steps.refl _) (a := b7) (argsL := [(.ref b4)]) (rest := [(.ref b7)]) (lenOf pd_22 rfl) rfl (own_bl rfl) (hb hby d1_46) (fun _ _ => ⟨rfl, e7, own_bl rfl, own_bl rfl⟩))
    obtain ⟨x8_d, x8_kd, rfl, Nq8, Kq8, u8_0, u8_1, u8_2, u8_3⟩ := hQ8
    have N8 := Fr.app N6 Nq8
    have f8_0 := own_Sta_keep f7_0 Kq8 (nsS A7.nostat ns0)
    have n7_b4 := own_nl V6.lt gx7
    have f8_1 := f7_1.keep Kq8 (ninS n7_b4 nin0)
    have f8_2 := A7.keep Kq8
    have Zs8 : n0 ≤ T8.heap.size := Nat.le_trans Zs7 Kq8.1
    have sz7 := Nat.le_trans K6.1 (Nat.le_of_eq gx7.symm)
    have K8 := K7.trans Kq8 (allS (Or.inr sz7) all0)
    refine own_sTN st8 ?_
    have hok : own_ok (own_tu x9) (2 : Int32) [(.int (own_by (own_sym (x9 &&& (3 : Int32))))), (.int (own_by (own_sym (((x9.toUInt32 >>> ((2 : Int32) &&& 31).toUInt32).toInt32) &&& (3 : Int32)))))] := by
      rw [own_tu, if_neg q]; exact own_okn (List.forall_mem_cons.mpr ⟨(own_syme _).m.i, (List.forall_mem_cons.mpr ⟨(own_syme _).m.i, (fun _ q => nomatch q)⟩)⟩) (Nat.le_of_ble_eq_true rfl)
    have sz8_d := Nat.le_trans K7.1 u8_0
    refine own_retA X8 hx hlk rfl hret rfl (hb hby d1_49) (by decide) (by decide) ?_
    show Q1 Z x9 h0 n0 (some (.ref b7)) T8.heap _
    exact ⟨b7, x8_d, x8_kd, (2 : Int32), [(.int (own_by (own_sym (x9 &&& (3 : Int32))))), (.int (own_by (own_sym (((x9.toUInt32 >>> ((2 : Int32) &&& 31).toUInt32).toInt32) &&& (3 : Int32)))))], rfl, N8, K8, sz7, sz8_d, f8_2, u8_1, u8_2, u8_3, (Or.inr ⟨_, _, rfl, rfl, own_syme _, own_syme _⟩), hok⟩
abbrev rRrm9 : Room := { frames := 1, cells := 0, slots := 0, locals := 12 }
abbrev c9 (n : Nat) (i : ClassFile.Instr) (k : Nat) : Prop := decode jdk_30_method_1_code n = .ok (i, k)
theorem d9_0 : c9 0 (.aload_n 0) 1 := by decide +kernel
theorem d9_1 : c9 1 (.invokespecial 1) 3 := by decide +kernel
theorem d9_4 : c9 4 (.return_) 1 := by decide +kernel
theorem pn_9 : plainFor yy32 = true := by decide +kernel
theorem ef_rm9 (m : MethodId) (pr : Addr) : entryFrame m #[(.ref pr)] 1 = (mkF m 0 #[rv pr] []) := by first | (simp [entryFrame, mkF, argsToLocals, Value.category]; done) | rfl
def Q9 (Z : State) (h0 : Heap) (n0 : Nat) (v_ : Option Value) (h_ : Heap) (L_ : List Loc) : Prop := (v_ = none) ∧ (Fr n0 L_) ∧ (h_ = h0)
theorem rm9 (l : Launch) (Z : State) (a0 : Array Value) (hw : own_T a0 Z) (pr : Addr) (h0 : Heap) (n0 : Nat) (Z0 : n0 ≤ h0.size) :
    own_Met l yy32 jdk_30_method_1_code 1 none [] rRrm9 Z h0 #[(.ref pr)] (Q9 Z h0 n0) := by
  refine own_openN pn_9 (own := "java/lang/Record") rfl ?_
  intro p e s m below meth c s₁ hx hby hlk hml hret hZ hown hnm X0 e0
  have N0 := Fr.nil n0
  rw [ef_rm9 m pr]
  show own_Goes p e below s (Q9 Z h0 n0) rRrm9.cells rRrm9.slots s₁ (mkF m 0 #[rv pr] [])
  refine own_st (fun _ kk_ => XS.aloadN X0.here hx rfl (hb hby d9_0) rfl rfl kk_) ?_
  show gN s₁ (mkF m 1 #[rv pr] [(.ref pr)])
  obtain ⟨T1, X1, e1, st1⟩ := initO X0 hx hZ hown (own_w hw 44 rfl) (own_w hw 30 rfl) (own_w hw 31 rfl) e0 (g := (mkF m 1 #[rv pr] [(.ref pr)])) rfl (by rw [hml]; rfl) rfl (hb hby d9_1) (by decide) (W := 0) (by show 2 * 0 + _ ≤ _; exact Nat.le_of_eq rfl) (by decide)
  refine own_st st1 ?_
  refine own_ret0 X1 hx hlk hret (hb hby d9_4) (by decide) (by decide) ?_
  show Q9 Z h0 n0 none T1.heap _
  rw [e1]
  exact ⟨rfl, N0, rfl⟩
abbrev rRrm8 : Room := { frames := 6, cells := 4, slots := 44, locals := 85 }
abbrev c8 (n : Nat) (i : ClassFile.Instr) (k : Nat) : Prop := decode prog_3_method_1_code n = .ok (i, k)
theorem d8_0 : c8 0 (.aload_n 0) 1 := by decide +kernel
theorem d8_1 : c8 1 (.invokespecial 1) 3 := by decide +kernel
theorem d8_4 : c8 4 (.ldc 7) 2 := by decide +kernel
theorem d8_6 : c8 6 (.aload_n 1) 1 := by decide +kernel
theorem d8_7 : c8 7 (.invokestatic 9) 3 := by decide +kernel
theorem d8_10 : c8 10 (.ldc 15) 2 := by decide +kernel
theorem d8_12 : c8 12 (.aload_n 2) 1 := by decide +kernel
theorem d8_13 : c8 13 (.invokestatic 9) 3 := by decide +kernel
theorem d8_16 : c8 16 (.aload_n 0) 1 := by decide +kernel
theorem d8_17 : c8 17 (.aload_n 1) 1 := by decide +kernel
theorem d8_18 : c8 18 (.putfield 17) 3 := by decide +kernel
theorem d8_21 : c8 21 (.aload_n 0) 1 := by decide +kernel
theorem d8_22 : c8 22 (.aload_n 2) 1 := by decide +kernel
theorem d8_23 : c8 23 (.putfield 22) 3 := by decide +kernel
theorem d8_26 : c8 26 (.return_) 1 := by decide +kernel
theorem pd_23 : parseMethodDescriptor "()V" = some ⟨[], none⟩ := by decide +kernel
theorem pd_24 : parseMethodDescriptor "(Ljava/lang/String;Ljava/lang/String;)V" = some ⟨[(.object "java/lang/String"), (.object "java/lang/String")], none⟩ := by decide +kernel
theorem pn_8 : plainFor yy33 = true := by decide +kernel
theorem ef_rm8 (m : MethodId) (pr : Addr) (aa1 : Addr) (aa2 : Addr) : entryFrame m #[(.ref pr), (.ref aa1), (.ref aa2)] 3 = (mkF m 0 #[rv pr, rv aa1, rv aa2] []) := by first | (simp [entryFrame, mkF, argsToLocals, Value.category]; done) | rfl
def Q8 (Z : State) (pr : Addr) (aa1 : Addr) (aa2 : Addr) (h0 : Heap) (n0 : Nat) (v_ : Option Value) (h_ : Heap) (L_ : List Loc) : Prop := (v_ = none) ∧ (Fr n0 L_) ∧ (Keep h0 h_ [pr]) ∧ (Exa Z h_ pr "com/example/firm_duties/firmduties/BusinessContext$Pair") ∧ (Fld Z h_ pr "com/example/firm_duties/firmduties/BusinessContext$Pair" "type" "Ljava/lang/String;" (.ref aa1)) ∧ (Fld Z h_ pr "com/example/firm_duties/firmduties/BusinessContext$Pair" "value" "Ljava/lang/String;" (.ref aa2))
theorem rm8 (l : Launch) (Z : State) (a0 : Array Value) (hw : ∀ d ∈ tables_1, d.before a0 Z = true) (ws : List Jvm.Cond) (hEL : EW Z a0 consts_1) (pr : Addr) (aa1 : Addr) (aa2 : Addr) (ba : Addr) (kb1 : ClassId) (na : Int32) (va : List Value) (bz : Addr) (kb2 : ClassId) (nz : Int32) (vb : List Value) (ci : Addr) (ca : Addr) (ka : ClassId) (cs : Int32) (h0 : Heap) (n0 : Nat) (Z0 : n0 ≤ h0.size) (p_0 : Exa Z h0 pr "com/example/firm_duties/firmduties/BusinessContext$Pair") (p_1 : Fld Z h0 pr "com/example/firm_duties/firmduties/BusinessContext$Pair" "type" "Ljava/lang/String;" .null) (p_2 : Fld Z h0 pr "com/example/firm_duties/firmduties/BusinessContext$Pair" "value" "Ljava/lang/String;" .null) (p_3 : n0 ≤ pr) (p_4 : Exa Z h0 aa1 "java/lang/String") (p_5 : Fld Z h0 aa1 "java/lang/String" "coder" "B" (.int (0 : Int32))) (p_6 : Fld Z h0 aa1 "java/lang/String" "value" "[B" (.ref ba)) (p_7 : Arv Z h0 ba kb1 .byte na va (.int (0 : Int32))) (p_8 : Exa Z h0 aa2 "java/lang/String") (p_9 : Fld Z h0 aa2 "java/lang/String" "coder" "B" (.int (0 : Int32))) (p_10 : Fld Z h0 aa2 "java/lang/String" "value" "[B" (.ref bz)) (p_11 : Arv Z h0 bz kb2 .byte nz vb (.int (0 : Int32))) (p_12 : Sta Z h0 "java/lang/CharacterDataLatin1" "instance" "Ljava/lang/CharacterDataLatin1;" (.ref ci)) (p_13 : Exa Z h0 ci "java/lang/CharacterDataLatin1") (p_14 : Sta Z h0 "java/lang/CharacterDataLatin1" "A" "[I" (.ref ca)) (p_15 : Arv Z h0 ca ka .int (256 : Int32) own_A (.int (0 : Int32))) (p_16 : Sta Z h0 "java/lang/String" "COMPACT_STRINGS" "Z" (.int cs)) (hcs : ¬ cs = (0 : Int32)) (ht1 : own_tok na va) (ht2 : own_tok nz vb) :
    MetFree l yy33 (head1 (Jvm.Cond.code yy33 prog_3_method_1_code 3 none :: ws) rRrm8) (fun a_ U_ => a_ = #[(.ref pr), (.ref aa1), (.ref aa2)] ∧ Z.Warmed39 U_.vm ∧ U_.heap = h0 ∧ CHv Z consts_1 U_.vm h0 ∧ ∀ x_ ∈ ([] : List Addr), Safe Z consts_1 U_.vm h0 x_) (fun _ _ _ _ _ => True) (fun _ U_ o_ U1_ => ∃ v_ L_, o_ = .returned v_ ∧ Q8 Z pr aa1 aa2 h0 n0 v_ U1_.heap L_ ∧ CHr Z consts_1 U_.vm U_.heap U1_.vm U1_.heap ∧ ReturnedEndW U_ o_ U1_ L_ rRrm8.cells rRrm8.slots) := by
  refine MetFree.of_bodySF pn_8 hisR ?_
  intro p e s m args below meth c s₁ Bd hml0 hP hK
  obtain ⟨rfl, hZ, hh, hCH, hSf⟩ := hP
  have hx := Bd.exec
  have hby := Bd.bytes
  have hlk : meth.locks = false := Bd.notSynchronized
  have hml : c.maxLocals = 3 := hml0
  have hown : s.vm.findClass "com/example/firm_duties/firmduties/BusinessContext$Pair" = some m.cls := findClass_of_methodNamed Bd.named
  have hnm := (name_of_methodNamed Bd.named Bd.method).1
  have X0 : Stand p l e rRrm8 (s.setVm s.vm) m #[(.ref pr), (.ref aa1), (.ref aa2)] below meth c s₁ [] 0 0 := Stand.of_body Bd
  have e0 : s₁.heap = h0 := by rw [← hh, Bd.state]; rfl
  have N0 := Fr.nil n0
  have hS0 : s.Since s.vm n0 := (State.WarmedH.refl s).since n0
  have wS : ∀ d ∈ Bundle.stringAtoms, d.before a0 Z = true := by
    intro d hd
    simp only [Bundle.stringAtoms, List.mem_cons, List.not_mem_nil, or_false] at hd
    rcases hd with rfl | rfl | rfl | rfl | rfl | rfl | rfl
    · exact (own_w hw 12 rfl)
    · exact (own_w hw 20 rfl)
    · exact (own_w hw 24 rfl)
    · exact (own_w hw 33 rfl)
    · exact (own_w hw 35 rfl)
    · exact (own_w hw 46 rfl)
    · exact (own_w hw 47 rfl)
  have C0 := CHr.refl hCH
  show own_GoesH p e below s Z consts_1 (Q8 Z pr aa1 aa2 h0 n0) rRrm8.cells rRrm8.slots s₁ (entryFrame m #[(.ref pr), (.ref aa1), (.ref aa2)] 3)
  rw [ef_rm8 m pr aa1 aa2]
  show own_GoesH p e below s Z consts_1 (Q8 Z pr aa1 aa2 h0 n0) rRrm8.cells rRrm8.slots s₁ (mkF m 0 #[rv pr, rv aa1, rv aa2] [])
  refine own_stH (fun _ kk_ => XS.aloadN X0.here hx rfl (hb hby d8_0) rfl rfl kk_) ?_
  show gH s₁ (mkF m 1 #[rv pr, rv aa1, rv aa2] [(.ref pr)])
  obtain ⟨T1, L1, v1, X1, hQ1, st1⟩ := own_cut (X0.specialBack hx (y := yy32) rfl hown (own_mw hZ hw 39 rfl) (own_mw hZ hw 40 rfl) (own_mw hZ hw 43 rfl) (by decide) (backOf (W := 0) (rm9 l Z a0 hw (pr) h0 n0 Z0) hZ (own_w hw 43 rfl) (own_w hw 42 rfl) (by decide) (by decide)) (g := (mkF m 1 #[rv pr, rv aa1, rv aa2] [(.ref pr)])) rfl (by rw [hml]; rfl) (Steps.refl _) (a := pr) (argsL := []) (rest := []) (lenOf pd_23 rfl) rfl (own_bl rfl) (hb hby d8_1) (fun _ _ => ⟨rfl, e0, own_bl rfl, own_bl rfl⟩))
  obtain ⟨rfl, Nq1, eq1⟩ := hQ1
  have N1 := Fr.app N0 Nq1
  refine own_sTH st1 ?_
  obtain ⟨b2, T2, h2, k2, d2, kc2, X2, e2, E2, hS2, Ka2, hZ, hown, Ex2, Fc2, Fv2, Av2, -, -, hC2, -, hsa2, st2⟩ := ldcCH X1 hx hZ hown (own_w hw 45 rfl) wS eq1 hS0 Z0 hEL (List.mem_of_getElem? (i := 2) rfl) C0.1 (vs := [(.int (116 : Int32)), (.int (121 : Int32)), (.int (112 : Int32)), (.int (101 : Int32))]) (z := (4 : Int32)) ⟨by decide, by decide⟩ (by decide) (by decide) (g := (mkF m 4 #[rv pr, rv aa1, rv aa2] [])) rfl (hb hby d8_4) (n := 16) (by decide) (by decide) (by decide) (by decide)
  have f2_0 := p_0.ext E2
  have f2_1 := p_1.ext E2
  have f2_2 := p_2.ext E2
  have f2_3 := p_4.ext E2
  have f2_4 := p_5.ext E2
  have f2_5 := p_6.ext E2
  have f2_6 := p_7.ext E2
  have f2_7 := p_8.ext E2
  have f2_8 := p_9.ext E2
  have f2_9 := p_10.ext E2
  have f2_10 := p_11.ext E2
  have f2_11 := p_12.ext E2
  have f2_12 := p_13.ext E2
  have f2_13 := p_14.ext E2
  have f2_14 := p_15.ext E2
  have f2_15 := p_16.ext E2
  have C2 := C0.trans hC2
  have Zs2 : n0 ≤ h2.size := Nat.le_trans Z0 E2.1
  have K2 := (Keep.refl h0 [pr]).ext E2
  have Ks2 := Nat.le_trans Z0 E2.1
  refine own_stH st2 ?_
  refine own_stH (fun _ kk_ => XS.aloadN X2.here hx rfl (hb hby d8_6) rfl rfl kk_) ?_
  show gH T2 (mkF m 7 #[rv pr, rv aa1, rv aa2] [(.ref aa1), (.ref b2)])
  obtain ⟨T3, L3, v3, X3, hQ3, st3⟩ := own_cut (callSN X2 hx (y := yy20) hown (Cond.methodLinkNest_wide hZ (own_w hw 48 rfl) :) (own_mw hZ hw 49 rfl) (own_mw hZ hw 50 rfl) (own_mw hZ hw 51 rfl) (by decide) (backOf (W := 0) (rm10 l Z a0 hw (b2) (aa1) (ba) (kb1) (na) (va) (ci) (ca) (ka) (cs) h2 n0 Zs2 f2_3 f2_4 f2_5 f2_6 f2_11 f2_12 f2_13 f2_14 ht1 f2_15 (by assumption)) hZ (own_w hw 51 rfl) (own_w hw 50 rfl) (by decide) (by decide)) (g := (mkF m 7 #[rv pr, rv aa1, rv aa2] [(.ref aa1), (.ref b2)])) rfl (by rw [hml]; rfl) (argsL := [(.ref b2), (.ref aa1)]) (rest := []) (lenOf pd_24 rfl) rfl (own_bl rfl) (hb hby d8_7) (fun _ _ => ⟨rfl, e2, own_bl rfl, own_bl rfl⟩))
  obtain ⟨rfl, Nq3, eq3⟩ := hQ3
  have N3 := Fr.app N1 Nq3
  refine own_sTH st3 ?_
  obtain ⟨b4, T4, h4, k4, d4, kc4, X4, e4, E4, hS4, Ka4, hZ, hown, Ex4, Fc4, Fv4, Av4, -, -, hC4, -, hsa4, st4⟩ := ldcCH X3 hx hZ hown (own_w hw 137 rfl) wS eq3 hS2 Ka2 hEL (List.mem_of_getElem? (i := 3) rfl) C2.1 (vs := [(.int (118 : Int32)), (.int (97 : Int32)), (.int (108 : Int32)), (.int (117 : Int32)), (.int (101 : Int32))]) (z := (5 : Int32)) ⟨by decide, by decide⟩ (by decide) (by decide) (g := (mkF m 10 #[rv pr, rv aa1, rv aa2] [])) rfl (hb hby d8_10) (n := 20) (by decide) (by decide) (by decide) (by decide)
  have f4_0 := f2_0.ext E4
  have f4_1 := f2_1.ext E4
  have f4_2 := f2_2.ext E4
  have f4_3 := f2_3.ext E4
  have f4_4 := f2_4.ext E4
  have f4_5 := f2_5.ext E4
  have f4_6 := f2_6.ext E4
  have f4_7 := f2_7.ext E4
  have f4_8 := f2_8.ext E4
  have f4_9 := f2_9.ext E4
  have f4_10 := f2_10.ext E4
  have f4_11 := f2_11.ext E4
  have f4_12 := f2_12.ext E4
  have f4_13 := f2_13.ext E4
  have f4_14 := f2_14.ext E4
  have f4_15 := f2_15.ext E4
  have f4_16 := Ex2.ext E4
  have f4_17 := Fc2.ext E4
  have f4_18 := Fv2.ext E4
  have f4_19 := Av2.ext E4
  have C4 := C2.trans hC4
  have Zs4 : n0 ≤ h4.size := Nat.le_trans Zs2 E4.1
  have K4 := K2.ext E4
  have Ks4 := Nat.le_trans Ka2 E4.1
  refine own_stH st4 ?_
  refine own_stH (fun _ kk_ => XS.aloadN X4.here hx rfl (hb hby d8_12) rfl rfl kk_) ?_
  show gH T4 (mkF m 13 #[rv pr, rv aa1, rv aa2] [(.ref aa2), (.ref b4)])
  obtain ⟨T5, L5, v5, X5, hQ5, st5⟩ := own_cut (callSN X4 hx (y := yy20) hown (Cond.methodLinkNest_wide hZ (own_w hw 48 rfl) :) (own_mw hZ hw 49 rfl) (own_mw hZ hw 50 rfl) (own_mw hZ hw 51 rfl) (by decide) (backOf (W := 0) (rm10 l Z a0 hw (b4) (aa2) (bz) (kb2) (nz) (vb) (ci) (ca) (ka) (cs) h4 n0 Zs4 f4_7 f4_8 f4_9 f4_10 f4_11 f4_12 f4_13 f4_14 ht2 f4_15 (by assumption)) hZ (own_w hw 51 rfl) (own_w hw 50 rfl) (by decide) (by decide)) (g := (mkF m 13 #[rv pr, rv aa1, rv aa2] [(.ref aa2), (.ref b4)])) rfl (by rw [hml]; rfl) (argsL := [(.ref b4), (.ref aa2)]) (rest := []) (lenOf pd_24 rfl) rfl (own_bl rfl) (hb hby d8_13) (fun _ _ => ⟨rfl, e4, own_bl rfl, own_bl rfl⟩))
  obtain ⟨rfl, Nq5, eq5⟩ := hQ5
  have N5 := Fr.app N3 Nq5
  refine own_sTH st5 ?_
  refine own_stH (fun _ kk_ => XS.aloadN X5.here hx rfl (hb hby d8_16) rfl rfl (XS.aloadN X5.here hx rfl (hb hby d8_17) rfl rfl kk_)) ?_
  show gH T5 (mkF m 18 #[rv pr, rv aa1, rv aa2] [(.ref aa1), (.ref pr)])
  obtain ⟨T6, h6, X6, e6, W6, st6⟩ := putF X5 hx hZ hown (host := "") (Or.inl (own_w hw 138 rfl)) Via.refl eq5 f4_1 f4_0 (Or.inr ⟨(own_w hw 139 rfl), rfl, hnm⟩) (own_w hw 1 rfl) (ty := (.object "java/lang/String")) (by decide) rfl rfl (g := (mkF m 18 #[rv pr, rv aa1, rv aa2] [(.ref aa1), (.ref pr)])) rfl rfl (hb hby d8_18)
  have fw6 : Fld Z h6 pr "com/example/firm_duties/firmduties/BusinessContext$Pair" "type" "Ljava/lang/String;" (.ref aa1) := f4_1.same W6
  have f6_0 := f4_0.wr W6
  have f6_2 := f4_2.other W6 (Or.inr (slot_ne (Or.inr (own_w hw 141 rfl)) (Or.inr (own_w hw 139 rfl)) (by decide) (t := (.object "java/lang/String")) (t' := (.object "java/lang/String")) (by decide) (by decide)))
  have f6_3 := f4_3.wr W6
  have f6_7 := f4_7.wr W6
  have f6_11 := f4_11.wr W6
  have f6_12 := f4_12.wr W6
  have f6_13 := f4_13.wr W6
  have f6_15 := f4_15.wr W6
  have f6_16 := f4_16.wr W6
  have f6_20 := Ex4.wr W6
  have C6 := C4.trans (CHr.wr W6 (Safe.exa hZ.alike f4_0 (by decide) (by decide)) C4.1)
  have Zs6 : n0 ≤ h6.size := Nat.le_trans Zs4 (Nat.le_of_eq W6.size.symm)
  have K6 := K4.wr W6 (Or.inl (List.mem_of_getElem? (i := 0) rfl))
  have Ks6 := Nat.le_trans Ka4 (Nat.le_of_eq W6.size.symm)
  have N6 := Fr.snoc X6 N5 p_3
  refine own_stH st6 ?_
  refine own_stH (fun _ kk_ => XS.aloadN X6.here hx rfl (hb hby d8_21) rfl rfl (XS.aloadN X6.here hx rfl (hb hby d8_22) rfl rfl kk_)) ?_
  show gH T6 (mkF m 23 #[rv pr, rv aa1, rv aa2] [(.ref aa2), (.ref pr)])
  obtain ⟨T7, h7, X7, e7, W7, st7⟩ := putF X6 hx hZ hown (host := "") (Or.inl (own_w hw 140 rfl)) Via.refl e6 f6_2 f6_0 (Or.inr ⟨(own_w hw 141 rfl), rfl, hnm⟩) (own_w hw 1 rfl) (ty := (.object "java/lang/String")) (by decide) rfl rfl (g := (mkF m 23 #[rv pr, rv aa1, rv aa2] [(.ref aa2), (.ref pr)])) rfl rfl (hb hby d8_23)
  have fw7 : Fld Z h7 pr "com/example/firm_duties/firmduties/BusinessContext$Pair" "value" "Ljava/lang/String;" (.ref aa2) := f6_2.same W7
  have f7_0 := f6_0.wr W7
  have f7_2 := f6_3.wr W7
  have f7_3 := f6_7.wr W7
  have f7_4 := f6_11.wr W7
  have f7_5 := f6_12.wr W7
  have f7_6 := f6_13.wr W7
  have f7_7 := f6_15.wr W7
  have f7_8 := f6_16.wr W7
  have f7_9 := f6_20.wr W7
  have f7_10 := fw6.other W7 (Or.inr (slot_ne (Or.inr (own_w hw 139 rfl)) (Or.inr (own_w hw 141 rfl)) (by decide) (t := (.object "java/lang/String")) (t' := (.object "java/lang/String")) (by decide) (by decide)))
  have C7 := C6.trans (CHr.wr W7 (Safe.exa hZ.alike f6_0 (by decide) (by decide)) C6.1)
  have Zs7 : n0 ≤ h7.size := Nat.le_trans Zs6 (Nat.le_of_eq W7.size.symm)
  have K7 := K6.wr W7 (Or.inl (List.mem_of_getElem? (i := 0) rfl))
  have Ks7 := Nat.le_trans Ks6 (Nat.le_of_eq W7.size.symm)
  have N7 := Fr.snoc X7 N6 p_3
  refine own_stH st7 ?_
  refine own_endH (v := none) X7 hlk hS4 (by rw [e7]; exact Ks7) hZ hEL hh e7 C7 (fun _ => rfl) (by decide) (by decide) ?_ (fun fs hr => X7.returnOut hx Bd.returns (hb hby d8_26) hr)
  show Q8 Z pr aa1 aa2 h0 n0 none T7.heap _
  rw [e7]
  exact ⟨rfl, N7, K7, f7_0, f7_10, fw7⟩
abbrev rRrm33 : Room := { frames := 1, cells := 0, slots := 0, locals := 12 }
abbrev c33 (n : Nat) (i : ClassFile.Instr) (k : Nat) : Prop := decode jdk_22_method_1_code n = .ok (i, k)
theorem d33_0 : c33 0 (.aload_n 0) 1 := by decide +kernel
theorem d33_1 : c33 1 (.invokespecial 1) 3 := by decide +kernel
theorem d33_4 : c33 4 (.return_) 1 := by decide +kernel
theorem pn_33 : plainFor yy34 = true := by decide +kernel
theorem ef_rm33 (m : MethodId) (al : Addr) : entryFrame m #[(.ref al)] 1 = (mkF m 0 #[rv al] []) := by first | (simp [entryFrame, mkF, argsToLocals, Value.category]; done) | rfl
def Q33 (Z : State) (h0 : Heap) (n0 : Nat) (v_ : Option Value) (h_ : Heap) (L_ : List Loc) : Prop := (v_ = none) ∧ (Fr n0 L_) ∧ (h_ = h0)
theorem rm33 (l : Launch) (Z : State) (a0 : Array Value) (hw : own_T a0 Z) (al : Addr) (h0 : Heap) (n0 : Nat) (Z0 : n0 ≤ h0.size) :
    own_Met l yy34 jdk_22_method_1_code 1 none [] rRrm33 Z h0 #[(.ref al)] (Q33 Z h0 n0) := by
  refine own_openN pn_33 (own := "java/util/AbstractCollection") rfl ?_
  intro p e s m below meth c s₁ hx hby hlk hml hret hZ hown hnm X0 e0
  have N0 := Fr.nil n0
  rw [ef_rm33 m al]
  show own_Goes p e below s (Q33 Z h0 n0) rRrm33.cells rRrm33.slots s₁ (mkF m 0 #[rv al] [])
  refine own_st (fun _ kk_ => XS.aloadN X0.here hx rfl (hb hby d33_0) rfl rfl kk_) ?_
  show gN s₁ (mkF m 1 #[rv al] [(.ref al)])
  obtain ⟨T1, X1, e1, st1⟩ := initO X0 hx hZ hown (own_w hw 160 rfl) (own_w hw 30 rfl) (own_w hw 31 rfl) e0 (g := (mkF m 1 #[rv al] [(.ref al)])) rfl (by rw [hml]; rfl) rfl (hb hby d33_1) (by decide) (W := 0) (by show 2 * 0 + _ ≤ _; exact Nat.le_of_eq rfl) (by decide)
  refine own_st st1 ?_
  refine own_ret0 X1 hx hlk hret (hb hby d33_4) (by decide) (by decide) ?_
  show Q33 Z h0 n0 none T1.heap _
  rw [e1]
  exact ⟨rfl, N0, rfl⟩
abbrev rRrm48 : Room := { frames := 2, cells := 0, slots := 0, locals := 24 }
abbrev c48 (n : Nat) (i : ClassFile.Instr) (k : Nat) : Prop := decode jdk_47_method_1_code n = .ok (i, k)
theorem d48_0 : c48 0 (.aload_n 0) 1 := by decide +kernel
theorem d48_1 : c48 1 (.invokespecial 1) 3 := by decide +kernel
theorem d48_4 : c48 4 (.return_) 1 := by decide +kernel
theorem pn_48 : plainFor yy35 = true := by decide +kernel
theorem ef_rm48 (m : MethodId) (al : Addr) : entryFrame m #[(.ref al)] 1 = (mkF m 0 #[rv al] []) := by first | (simp [entryFrame, mkF, argsToLocals, Value.category]; done) | rfl
def Q48 (Z : State) (h0 : Heap) (n0 : Nat) (v_ : Option Value) (h_ : Heap) (L_ : List Loc) : Prop := (v_ = none) ∧ (Fr n0 L_) ∧ (h_ = h0)
theorem rm48 (l : Launch) (Z : State) (a0 : Array Value) (hw : own_T a0 Z) (al : Addr) (h0 : Heap) (n0 : Nat) (Z0 : n0 ≤ h0.size) :
    own_Met l yy35 jdk_47_method_1_code 1 none [] rRrm48 Z h0 #[(.ref al)] (Q48 Z h0 n0) := by
  refine own_openN pn_48 (own := "java/util/ImmutableCollections$AbstractImmutableCollection") rfl ?_
  intro p e s m below meth c s₁ hx hby hlk hml hret hZ hown hnm X0 e0
  have N0 := Fr.nil n0
  rw [ef_rm48 m al]
  show own_Goes p e below s (Q48 Z h0 n0) rRrm48.cells rRrm48.slots s₁ (mkF m 0 #[rv al] [])
  refine own_st (fun _ kk_ => XS.aloadN X0.here hx rfl (hb hby d48_0) rfl rfl kk_) ?_
  show gN s₁ (mkF m 1 #[rv al] [(.ref al)])
  obtain ⟨T1, L1, v1, X1, hQ1, st1⟩ := own_cut (X0.specialBack hx (y := yy34) rfl hown (own_mw hZ hw 277 rfl) (own_mw hZ hw 155 rfl) (own_mw hZ hw 159 rfl) (by decide) (backOf (W := 0) (rm33 l Z a0 hw (al) h0 n0 Z0) hZ (own_w hw 159 rfl) (own_w hw 158 rfl) (by decide) (by decide)) (g := (mkF m 1 #[rv al] [(.ref al)])) rfl (by rw [hml]; rfl) (Steps.refl _) (a := al) (argsL := []) (rest := []) (lenOf pd_23 rfl) rfl (own_bl rfl) (hb hby d48_1) (fun _ _ => ⟨rfl, e0, own_bl rfl, own_bl rfl⟩))
  obtain ⟨rfl, Nq1, eq1⟩ := hQ1
  have N1 := Fr.app N0 Nq1
  refine own_sTN st1 ?_
  refine own_ret0 X1 hx hlk hret (hb hby d48_4) (by decide) (by decide) ?_
  show Q48 Z h0 n0 none T1.heap _
  rw [eq1]
  exact ⟨rfl, N1, rfl⟩
abbrev rRrm47 : Room := { frames := 3, cells := 0, slots := 0, locals := 36 }
abbrev c47 (n : Nat) (i : ClassFile.Instr) (k : Nat) : Prop := decode jdk_46_method_1_code n = .ok (i, k)
theorem d47_0 : c47 0 (.aload_n 0) 1 := by decide +kernel
theorem d47_1 : c47 1 (.invokespecial 1) 3 := by decide +kernel
theorem d47_4 : c47 4 (.return_) 1 := by decide +kernel
theorem pn_47 : plainFor yy36 = true := by decide +kernel
theorem ef_rm47 (m : MethodId) (al : Addr) : entryFrame m #[(.ref al)] 1 = (mkF m 0 #[rv al] []) := by first | (simp [entryFrame, mkF, argsToLocals, Value.category]; done) | rfl
def Q47 (Z : State) (h0 : Heap) (n0 : Nat) (v_ : Option Value) (h_ : Heap) (L_ : List Loc) : Prop := (v_ = none) ∧ (Fr n0 L_) ∧ (h_ = h0)
theorem rm47 (l : Launch) (Z : State) (a0 : Array Value) (hw : own_T a0 Z) (al : Addr) (h0 : Heap) (n0 : Nat) (Z0 : n0 ≤ h0.size) :
    own_Met l yy36 jdk_46_method_1_code 1 none [] rRrm47 Z h0 #[(.ref al)] (Q47 Z h0 n0) := by
  refine own_openN pn_47 (own := "java/util/ImmutableCollections$AbstractImmutableList") rfl ?_
  intro p e s m below meth c s₁ hx hby hlk hml hret hZ hown hnm X0 e0
  have N0 := Fr.nil n0
  rw [ef_rm47 m al]
  show own_Goes p e below s (Q47 Z h0 n0) rRrm47.cells rRrm47.slots s₁ (mkF m 0 #[rv al] [])
  refine own_st (fun _ kk_ => XS.aloadN X0.here hx rfl (hb hby d47_0) rfl rfl kk_) ?_
  show gN s₁ (mkF m 1 #[rv al] [(.ref al)])
  obtain ⟨T1, L1, v1, X1, hQ1, st1⟩ := own_cut (X0.specialBack hx (y := yy35) rfl hown (own_mw hZ hw 271 rfl) (own_mw hZ hw 272 rfl) (own_mw hZ hw 276 rfl) (by decide) (backOf (W := 0) (rm48 l Z a0 hw (al) h0 n0 Z0) hZ (own_w hw 276 rfl) (own_w hw 275 rfl) (by decide) (by decide)) (g := (mkF m 1 #[rv al] [(.ref al)])) rfl (by rw [hml]; rfl) (Steps.refl _) (a := al) (argsL := []) (rest := []) (lenOf pd_23 rfl) rfl (own_bl rfl) (hb hby d47_1) (fun _ _ => ⟨rfl, e0, own_bl rfl, own_bl rfl⟩))
  obtain ⟨rfl, Nq1, eq1⟩ := hQ1
  have N1 := Fr.app N0 Nq1
  refine own_sTN st1 ?_
  refine own_ret0 X1 hx hlk hret (hb hby d47_4) (by decide) (by decide) ?_
  show Q47 Z h0 n0 none T1.heap _
  rw [eq1]
  exact ⟨rfl, N1, rfl⟩
abbrev rRrm32 : Room := { frames := 2, cells := 0, slots := 0, locals := 24 }
abbrev c32 (n : Nat) (i : ClassFile.Instr) (k : Nat) : Prop := decode jdk_39_method_1_code n = .ok (i, k)
theorem d32_0 : c32 0 (.aload_n 0) 1 := by decide +kernel
theorem d32_1 : c32 1 (.invokespecial 1) 3 := by decide +kernel
theorem d32_4 : c32 4 (.aload_n 0) 1 := by decide +kernel
theorem d32_5 : c32 5 (.iconst 0) 1 := by decide +kernel
theorem d32_6 : c32 6 (.putfield 7) 3 := by decide +kernel
theorem d32_9 : c32 9 (.return_) 1 := by decide +kernel
theorem pn_32 : plainFor yy37 = true := by decide +kernel
theorem ef_rm32 (m : MethodId) (al : Addr) : entryFrame m #[(.ref al)] 1 = (mkF m 0 #[rv al] []) := by first | (simp [entryFrame, mkF, argsToLocals, Value.category]; done) | rfl
def Q32 (Z : State) (al : Addr) (h0 : Heap) (n0 : Nat) (v_ : Option Value) (h_ : Heap) (L_ : List Loc) : Prop := (v_ = none) ∧ (Fr n0 L_) ∧ (Keep h0 h_ [al]) ∧ (Exa Z h_ al "java/util/ArrayList") ∧ (Fld Z h_ al "java/util/ArrayList" "elementData" "[Ljava/lang/Object;" .null) ∧ (Fld Z h_ al "java/util/ArrayList" "size" "I" (.int (0 : Int32))) ∧ (Fld Z h_ al "java/util/AbstractList" "modCount" "I" (.int (0 : Int32)))
theorem rm32 (l : Launch) (Z : State) (a0 : Array Value) (hw : own_T a0 Z) (al : Addr) (h0 : Heap) (n0 : Nat) (Z0 : n0 ≤ h0.size) (p_0 : Exa Z h0 al "java/util/ArrayList") (p_1 : Fld Z h0 al "java/util/ArrayList" "elementData" "[Ljava/lang/Object;" .null) (p_2 : Fld Z h0 al "java/util/ArrayList" "size" "I" (.int (0 : Int32))) (p_3 : Fld Z h0 al "java/util/AbstractList" "modCount" "I" (.int (0 : Int32))) (p_4 : n0 ≤ al) :
    own_Met l yy37 jdk_39_method_1_code 1 none [] rRrm32 Z h0 #[(.ref al)] (Q32 Z al h0 n0) := by
  refine own_openN pn_32 (own := "java/util/AbstractList") rfl ?_
  intro p e s m below meth c s₁ hx hby hlk hml hret hZ hown hnm X0 e0
  have N0 := Fr.nil n0
  rw [ef_rm32 m al]
  show own_Goes p e below s (Q32 Z al h0 n0) rRrm32.cells rRrm32.slots s₁ (mkF m 0 #[rv al] [])
  refine own_st (fun _ kk_ => XS.aloadN X0.here hx rfl (hb hby d32_0) rfl rfl kk_) ?_
  show gN s₁ (mkF m 1 #[rv al] [(.ref al)])
  obtain ⟨T1, L1, v1, X1, hQ1, st1⟩ := own_cut (X0.specialBack hx (y := yy34) rfl hown (own_mw hZ hw 154 rfl) (own_mw hZ hw 155 rfl) (own_mw hZ hw 159 rfl) (by decide) (backOf (W := 0) (rm33 l Z a0 hw (al) h0 n0 Z0) hZ (own_w hw 159 rfl) (own_w hw 158 rfl) (by decide) (by decide)) (g := (mkF m 1 #[rv al] [(.ref al)])) rfl (by rw [hml]; rfl) (Steps.refl _) (a := al) (argsL := []) (rest := []) (lenOf pd_23 rfl) rfl (own_bl rfl) (hb hby d32_1) (fun _ _ => ⟨rfl, e0, own_bl rfl, own_bl rfl⟩))
  obtain ⟨rfl, Nq1, eq1⟩ := hQ1
  have N1 := Fr.app N0 Nq1
  refine own_sTN st1 ?_
  refine own_st (fun _ kk_ => XS.aloadN X1.here hx rfl (hb hby d32_4) rfl rfl (XS.iconst X1.here hx rfl (hb hby d32_5) kk_)) ?_
  show gN T1 (mkF m 6 #[rv al] [(.int (0 : Int32)), (.ref al)])
  obtain ⟨T2, h2, X2, e2, W2, st2⟩ := putF X1 hx hZ hown (host := "") (Or.inl (own_w hw 161 rfl)) Via.refl eq1 p_3 p_0 (Or.inl (own_w hw 162 rfl)) (own_w hw 143 rfl) (ty := .int) (by decide) rfl rfl (g := (mkF m 6 #[rv al] [(.int (0 : Int32)), (.ref al)])) rfl rfl (hb hby d32_6)
  have fw2 : Fld Z h2 al "java/util/AbstractList" "modCount" "I" (.int (0 : Int32)) := p_3.same W2
  have f2_0 := p_0.wr W2
  have f2_1 := p_1.other W2 (Or.inr (slot_ne (Or.inl (own_w hw 165 rfl)) (Or.inl (own_w hw 162 rfl)) (by decide) (t := (.array (.object "java/lang/Object"))) (t' := .int) (by decide) (by decide)))
  have f2_2 := p_2.other W2 (Or.inr (slot_ne (Or.inl (own_w hw 178 rfl)) (Or.inl (own_w hw 162 rfl)) (by decide) (t := .int) (t' := .int) (by decide) (by decide)))
  have Zs2 : n0 ≤ h2.size := Nat.le_trans Z0 (Nat.le_of_eq W2.size.symm)
  have K2 := (Keep.refl h0 [al]).wr W2 (Or.inl (List.mem_of_getElem? (i := 0) rfl))
  have N2 := Fr.snoc X2 N1 p_4
  refine own_st st2 ?_
  refine own_ret0 X2 hx hlk hret (hb hby d32_9) (by decide) (by decide) ?_
  show Q32 Z al h0 n0 none T2.heap _
  rw [e2]
  exact ⟨rfl, N2, K2, f2_0, f2_1, f2_2, fw2⟩
abbrev rRrm31 : Room := { frames := 3, cells := 0, slots := 0, locals := 36 }
abbrev c31 (n : Nat) (i : ClassFile.Instr) (k : Nat) : Prop := decode jdk_38_method_2_code n = .ok (i, k)
theorem d31_0 : c31 0 (.aload_n 0) 1 := by decide +kernel
theorem d31_1 : c31 1 (.invokespecial 1) 3 := by decide +kernel
theorem d31_4 : c31 4 (.aload_n 0) 1 := by decide +kernel
theorem d31_5 : c31 5 (.getstatic 39) 3 := by decide +kernel
theorem d31_8 : c31 8 (.putfield 9) 3 := by decide +kernel
theorem d31_11 : c31 11 (.return_) 1 := by decide +kernel
theorem pn_31 : plainFor yy38 = true := by decide +kernel
theorem ef_rm31 (m : MethodId) (al : Addr) : entryFrame m #[(.ref al)] 1 = (mkF m 0 #[rv al] []) := by first | (simp [entryFrame, mkF, argsToLocals, Value.category]; done) | rfl
def Q31 (Z : State) (al : Addr) (dc : Addr) (h0 : Heap) (n0 : Nat) (v_ : Option Value) (h_ : Heap) (L_ : List Loc) : Prop := (v_ = none) ∧ (Fr n0 L_) ∧ (Keep h0 h_ [al]) ∧ (Exa Z h_ al "java/util/ArrayList") ∧ (Fld Z h_ al "java/util/ArrayList" "elementData" "[Ljava/lang/Object;" (.ref dc)) ∧ (Fld Z h_ al "java/util/ArrayList" "size" "I" (.int (0 : Int32))) ∧ (Fld Z h_ al "java/util/AbstractList" "modCount" "I" (.int (0 : Int32)))
theorem rm31 (l : Launch) (Z : State) (a0 : Array Value) (hw : own_T a0 Z) (al : Addr) (dc : Addr) (h0 : Heap) (n0 : Nat) (Z0 : n0 ≤ h0.size) (p_0 : Exa Z h0 al "java/util/ArrayList") (p_1 : Fld Z h0 al "java/util/ArrayList" "elementData" "[Ljava/lang/Object;" .null) (p_2 : Fld Z h0 al "java/util/ArrayList" "size" "I" (.int (0 : Int32))) (p_3 : Fld Z h0 al "java/util/AbstractList" "modCount" "I" (.int (0 : Int32))) (p_4 : n0 ≤ al) (p_5 : Sta Z h0 "java/util/ArrayList" "DEFAULTCAPACITY_EMPTY_ELEMENTDATA" "[Ljava/lang/Object;" (.ref dc)) :
    own_Met l yy38 jdk_38_method_2_code 1 none [] rRrm31 Z h0 #[(.ref al)] (Q31 Z al dc h0 n0) := by
  refine own_openN pn_31 (own := "java/util/ArrayList") rfl ?_
  intro p e s m below meth c s₁ hx hby hlk hml hret hZ hown hnm X0 e0
  have N0 := Fr.nil n0
  rw [ef_rm31 m al]
  show own_Goes p e below s (Q31 Z al dc h0 n0) rRrm31.cells rRrm31.slots s₁ (mkF m 0 #[rv al] [])
  refine own_st (fun _ kk_ => XS.aloadN X0.here hx rfl (hb hby d31_0) rfl rfl kk_) ?_
  show gN s₁ (mkF m 1 #[rv al] [(.ref al)])
  obtain ⟨T1, L1, v1, X1, hQ1, st1⟩ := own_cut (X0.specialBack hx (y := yy37) rfl hown (own_mw hZ hw 148 rfl) (own_mw hZ hw 149 rfl) (own_mw hZ hw 153 rfl) (by decide) (backOf (W := 0) (rm32 l Z a0 hw (al) h0 n0 Z0 p_0 p_1 p_2 p_3 p_4) hZ (own_w hw 153 rfl) (own_w hw 152 rfl) (by decide) (by decide)) (g := (mkF m 1 #[rv al] [(.ref al)])) rfl (by rw [hml]; rfl) (Steps.refl _) (a := al) (argsL := []) (rest := []) (lenOf pd_23 rfl) rfl (own_bl rfl) (hb hby d31_1) (fun _ _ => ⟨rfl, e0, own_bl rfl, own_bl rfl⟩))
  obtain ⟨rfl, Nq1, Kq1, u1_0, u1_1, u1_2, u1_3⟩ := hQ1
  have N1 := Fr.app N0 Nq1
  have f1_0 := p_0.keep Kq1
  have f1_4 := own_Sta_keep p_5 Kq1 (nsS p_0.nostat ns0)
  have Zs1 : n0 ≤ T1.heap.size := Nat.le_trans Z0 Kq1.1
  have K1 := (Keep.refl h0 [al]).trans Kq1 (allS (Or.inl (List.mem_of_getElem? (i := 0) rfl)) all0)
  refine own_sTN st1 ?_
  refine own_st (fun _ kk_ => XS.aloadN X1.here hx rfl (hb hby d31_4) rfl rfl kk_) ?_
  show gN T1 (mkF m 5 #[rv al] [(.ref al)])
  obtain ⟨T2, X2, e2, st2⟩ := getS2 X1 hx hZ hown (host := "") (Or.inl (own_w hw 163 rfl)) Via.refl rfl f1_4 (g := (mkF m 5 #[rv al] [(.ref al)])) rfl (hb hby d31_5)
  refine own_st st2 ?_
  obtain ⟨T3, h3, X3, e3, W3, st3⟩ := putF X2 hx hZ hown (host := "") (Or.inl (own_w hw 164 rfl)) Via.refl e2 u1_1 u1_0 (Or.inl (own_w hw 165 rfl)) (own_w hw 143 rfl) (ty := (.array (.object "java/lang/Object"))) (by decide) rfl rfl (g := (mkF m 8 #[rv al] [(.ref dc), (.ref al)])) rfl rfl (hb hby d31_8)
  have fw3 : Fld Z h3 al "java/util/ArrayList" "elementData" "[Ljava/lang/Object;" (.ref dc) := u1_1.same W3
  have f3_0 := u1_0.wr W3
  have f3_1 := f1_4.wr W3
  have f3_3 := u1_2.other W3 (Or.inr (slot_ne (Or.inl (own_w hw 178 rfl)) (Or.inl (own_w hw 165 rfl)) (by decide) (t := .int) (t' := (.array (.object "java/lang/Object"))) (by decide) (by decide)))
  have f3_4 := u1_3.other W3 (Or.inr (slot_ne (Or.inl (own_w hw 162 rfl)) (Or.inl (own_w hw 165 rfl)) (by decide) (t := .int) (t' := (.array (.object "java/lang/Object"))) (by decide) (by decide)))
  have Zs3 : n0 ≤ h3.size := Nat.le_trans Zs1 (Nat.le_of_eq W3.size.symm)
  have K3 := K1.wr W3 (Or.inl (List.mem_of_getElem? (i := 0) rfl))
  have N3 := Fr.snoc X3 N1 p_4
  refine own_st st3 ?_
  refine own_ret0 X3 hx hlk hret (hb hby d31_11) (by decide) (by decide) ?_
  show Q31 Z al dc h0 n0 none T3.heap _
  rw [e3]
  exact ⟨rfl, N3, K3, f3_0, fw3, f3_3, f3_4⟩
abbrev rRrm37 : Room := { frames := 1, cells := 1, slots := 10, locals := 14 }
abbrev c37 (n : Nat) (i : ClassFile.Instr) (k : Nat) : Prop := decode jdk_38_method_6_code n = .ok (i, k)
theorem d37_0 : c37 0 (.aload_n 0) 1 := by decide +kernel
theorem d37_1 : c37 1 (.getfield 9) 3 := by decide +kernel
theorem d37_4 : c37 4 (.arraylength) 1 := by decide +kernel
theorem d37_5 : c37 5 (.istore_n 2) 1 := by decide +kernel
theorem d37_6 : c37 6 (.iload_n 2) 1 := by decide +kernel
theorem d37_7 : c37 7 (.ifCond .gt 13) 3 := by decide +kernel
theorem d37_10 : c37 10 (.aload_n 0) 1 := by decide +kernel
theorem d37_11 : c37 11 (.getfield 9) 3 := by decide +kernel
theorem d37_14 : c37 14 (.getstatic 39) 3 := by decide +kernel
theorem d37_17 : c37 17 (.if_acmp .eq 28) 3 := by decide +kernel
theorem d37_45 : c37 45 (.aload_n 0) 1 := by decide +kernel
theorem d37_46 : c37 46 (.bipush 10) 2 := by decide +kernel
theorem d37_48 : c37 48 (.iload_n 1) 1 := by decide +kernel
theorem d37_49 : c37 49 (.invokestatic 79) 3 := by decide +kernel
theorem d37_52 : c37 52 (.anewarray 7) 3 := by decide +kernel
theorem d37_55 : c37 55 (.dup_x1) 1 := by decide +kernel
theorem d37_56 : c37 56 (.putfield 9) 3 := by decide +kernel
theorem d37_59 : c37 59 (.areturn) 1 := by decide +kernel
theorem pn_37 : plainFor yy39 = true := by decide +kernel
theorem ef_rm37 (m : MethodId) (al : Addr) : entryFrame m #[(.ref al), (.int (1 : Int32))] 4 = (mkF m 0 #[rv al, iv (1 : Int32), oU, oU] []) := by first | (simp [entryFrame, mkF, argsToLocals, Value.category]; done) | rfl
def Q37 (Z : State) (al : Addr) (mc : Int32) (h0 : Heap) (n0 : Nat) (v_ : Option Value) (h_ : Heap) (L_ : List Loc) : Prop := ∃ y : Addr, ∃ ky : ClassId, (v_ = some (.ref y)) ∧ (Fr n0 L_) ∧ (Keep h0 h_ [al]) ∧ (h0.size ≤ y) ∧ (Exa Z h_ al "java/util/ArrayList") ∧ (Fld Z h_ al "java/util/ArrayList" "elementData" "[Ljava/lang/Object;" (.ref y)) ∧ (Fld Z h_ al "java/util/ArrayList" "size" "I" (.int (0 : Int32))) ∧ (Fld Z h_ al "java/util/AbstractList" "modCount" "I" (.int mc)) ∧ (Arv Z h_ y ky (.object "java/lang/Object") (10 : Int32) [.null, .null, .null, .null, .null, .null, .null, .null, .null, .null] .null) ∧ (Exa Z h_ y "[Ljava/lang/Object;") ∧ (Ovr Z ky "java/lang/Object")
theorem rm37 (l : Launch) (Z : State) (a0 : Array Value) (hw : own_T a0 Z) (al : Addr) (dc : Addr) (kdc : ClassId) (mc : Int32) (h0 : Heap) (n0 : Nat) (Z0 : n0 ≤ h0.size) (p_0 : Exa Z h0 al "java/util/ArrayList") (p_1 : Fld Z h0 al "java/util/ArrayList" "elementData" "[Ljava/lang/Object;" (.ref dc)) (p_2 : Fld Z h0 al "java/util/ArrayList" "size" "I" (.int (0 : Int32))) (p_3 : Fld Z h0 al "java/util/AbstractList" "modCount" "I" (.int mc)) (p_4 : n0 ≤ al) (p_5 : Sta Z h0 "java/util/ArrayList" "DEFAULTCAPACITY_EMPTY_ELEMENTDATA" "[Ljava/lang/Object;" (.ref dc)) (p_6 : Arv Z h0 dc kdc (.object "java/lang/Object") (0 : Int32) [] .null) (p_7 : dc ≠ al) :
    own_Met l yy39 jdk_38_method_6_code 4 (some (.array (.object "java/lang/Object"))) [] rRrm37 Z h0 #[(.ref al), (.int (1 : Int32))] (Q37 Z al mc h0 n0) := by
  refine own_openN pn_37 (own := "java/util/ArrayList") rfl ?_
  intro p e s m below meth c s₁ hx hby hlk hml hret hZ hown hnm X0 e0
  have N0 := Fr.nil n0
  rw [ef_rm37 m al]
  show own_Goes p e below s (Q37 Z al mc h0 n0) rRrm37.cells rRrm37.slots s₁ (mkF m 0 #[rv al, iv (1 : Int32), oU, oU] [])
  refine own_st (fun _ kk_ => XS.aloadN X0.here hx rfl (hb hby d37_0) rfl rfl kk_) ?_
  show gN s₁ (mkF m 1 #[rv al, iv (1 : Int32), oU, oU] [(.ref al)])
  obtain ⟨T1, X1, e1, st1⟩ := getF X0 hx hZ hown (host := "") (Or.inl (own_w hw 164 rfl)) Via.refl e0 p_1 (g := (mkF m 1 #[rv al, iv (1 : Int32), oU, oU] [(.ref al)])) rfl rfl (hb hby d37_1)
  refine own_st st1 ?_
  obtain ⟨cl2, Ar2, -, Sz2, Nn2, -, -⟩ := id p_6
  refine own_st (fun _ kk_ => X1.arraylength hx (by rw [e1]; exact Ar2.1) (State.isArrayOf_alike hZ.alike Ar2.2.1) (g := (mkF m 4 #[rv al, iv (1 : Int32), oU, oU] [(.ref dc)])) rfl rfl (hb hby d37_4) _ kk_) ?_
  rw [len_of Sz2 Nn2]
  show gN T1 (mkF m 5 #[rv al, iv (1 : Int32), oU, oU] [(.int (0 : Int32))])
  refine own_st (fun _ kk_ => XS.istoreN X1.here hx rfl (hb hby d37_5) rfl (l' := #[rv al, iv (1 : Int32), iv (0 : Int32), oU]) rfl (XS.iloadN X1.here hx rfl (hb hby d37_6) rfl (XS.ifNo X1.here hx rfl (hb hby d37_7) rfl (XT.i0_gt_f (by decide)) (XS.aloadN X1.here hx rfl (hb hby d37_10) rfl rfl kk_)))) ?_
  show gN T1 (mkF m 11 #[rv al, iv (1 : Int32), iv (0 : Int32), oU] [(.ref al)])
  obtain ⟨T3, X3, e3, st3⟩ := getF X1 hx hZ hown (host := "") (Or.inl (own_w hw 164 rfl)) Via.refl e1 p_1 (g := (mkF m 11 #[rv al, iv (1 : Int32), iv (0 : Int32), oU] [(.ref al)])) rfl rfl (hb hby d37_11)
  refine own_st st3 ?_
  obtain ⟨T4, X4, e4, st4⟩ := getS2 X3 hx hZ hown (host := "") (Or.inl (own_w hw 163 rfl)) Via.refl e3 p_5 (g := (mkF m 14 #[rv al, iv (1 : Int32), iv (0 : Int32), oU] [(.ref dc)])) rfl (hb hby d37_14)
  refine own_st st4 ?_
  refine own_st (fun _ kk_ => XT.acmpYes X4.here hx rfl (pc0 := 17) (pc' := 45) rfl (hb hby d37_17) rfl rfl rfl (XT.aa_eq_t rfl) (by decide) (by decide) (XS.aloadN X4.here hx rfl (hb hby d37_45) rfl rfl (XS.bipush X4.here hx rfl (hb hby d37_46) (XS.iloadN X4.here hx rfl (hb hby d37_48) rfl kk_)))) ?_
  show gN T4 (mkF m 49 #[rv al, iv (1 : Int32), iv (0 : Int32), oU] [(.int (1 : Int32)), (.int (10 : Int32)), (.ref al)])
  obtain ⟨T5, L5, v5, X5, hQ5, st5⟩ := own_cutA (Jvm.LawKit.callS X4 hx (y := yy3) hown (own_mw hZ hw 194 rfl) (own_mw hZ hw 128 rfl) (own_mw hZ hw 129 rfl) (own_mw hZ hw 130 rfl) (by decide) (backOf (W := 1) (rmxA l Z a0 hw ((10 : Int32)) ((1 : Int32)) h0 n0 Z0 (by decide)) hZ (own_w hw 130 rfl) (own_w hw 129 rfl) (by decide) (by decide)) (g := (mkF m 49 #[rv al, iv (1 : Int32), iv (0 : Int32), oU] [(.int (1 : Int32)), (.int (10 : Int32)), (.ref al)])) rfl (by rw [hml]; rfl) (argsL := [(.int (10 : Int32)), (.int (1 : Int32))]) (rest := [(.ref al)]) (lenOf pd_7 rfl) rfl (own_bl rfl) (hb hby d37_49) (fun _ _ => ⟨rfl, e4, own_bl rfl, own_bl rfl⟩))
  obtain ⟨rfl, Nq5, eq5⟩ := hQ5
  have N5 := Fr.app N0 Nq5
  refine own_st st5 ?_
  obtain ⟨T6, h6, k6, X6, e6, E6, A6, O6, Ea6, st6⟩ := own_newR X5 hx hZ hown (own_w hw 195 rfl) (own_w hw 196 rfl) (ad := "[Ljava/lang/Object;") rfl eq5 (g := (mkF m 52 #[rv al, iv (1 : Int32), iv (0 : Int32), oU] [(.int (10 : Int32)), (.ref al)])) rfl (hb hby d37_52) rfl (by decide) (cap := 10) (by decide) (by decide) (by decide) (by decide)
  obtain ⟨b6, gx6⟩ : ∃ z, z = h0.size := ⟨_, rfl⟩
  rw [← gx6] at A6 Ea6 st6
  have f6_0 := p_0.ext E6
  have f6_1 := p_1.ext E6
  have f6_2 := p_2.ext E6
  have f6_3 := p_3.ext E6
  have f6_4 := p_5.ext E6
  have f6_5 := p_6.ext E6
  have Zs6 : n0 ≤ h6.size := Nat.le_trans Z0 E6.1
  have K6 := (Keep.refl h0 [al]).ext E6
  have V6 : Arv Z h6 b6 k6 (.object "java/lang/Object") (10 : Int32) [.null, .null, .null, .null, .null, .null, .null, .null, .null, .null] .null := (Arv.new A6 (by decide)).pad (pad_rep [] .null 10)
  refine own_st st6 ?_
  refine own_st (fun _ kk_ => XS.dupX1 X6.here hx rfl (hb hby d37_55) rfl rfl rfl kk_) ?_
  show gN T6 (mkF m 56 #[rv al, iv (1 : Int32), iv (0 : Int32), oU] [(.ref b6), (.ref al), (.ref b6)])
  obtain ⟨T7, h7, X7, e7, W7, st7⟩ := putF X6 hx hZ hown (host := "") (Or.inl (own_w hw 164 rfl)) Via.refl e6 f6_1 f6_0 (Or.inl (own_w hw 165 rfl)) (own_w hw 143 rfl) (ty := (.array (.object "java/lang/Object"))) (by decide) rfl rfl (g := (mkF m 56 #[rv al, iv (1 : Int32), iv (0 : Int32), oU] [(.ref b6), (.ref al), (.ref b6)])) rfl rfl (hb hby d37_56)
  have fw7 : Fld Z h7 al "java/util/ArrayList" "elementData" "[Ljava/lang/Object;" (.ref b6) := f6_1.same W7
  have f7_0 := f6_0.wr W7
  have f7_2 := f6_2.other W7 (Or.inr (slot_ne (Or.inl (own_w hw 178 rfl)) (Or.inl (own_w hw 165 rfl)) (by decide) (t := .int) (t' := (.array (.object "java/lang/Object"))) (by decide) (by decide)))
  have f7_3 := f6_3.other W7 (Or.inr (slot_ne (Or.inl (own_w hw 162 rfl)) (Or.inl (own_w hw 165 rfl)) (by decide) (t := .int) (t' := (.array (.object "java/lang/Object"))) (by decide) (by decide)))
  have f7_4 := f6_4.wr W7
  have f7_5 := f6_5.other W7 p_7
  have f7_6 := Ea6.wr W7
  have n6_al := own_nl p_0.lt gx6
  have f7_7 := V6.other W7 (Ne.symm n6_al)
  have Zs7 : n0 ≤ h7.size := Nat.le_trans Zs6 (Nat.le_of_eq W7.size.symm)
  have K7 := K6.wr W7 (Or.inl (List.mem_of_getElem? (i := 0) rfl))
  have N7 := Fr.snoc X7 N5 p_4
  refine own_st st7 ?_
  have sz6 := Nat.le_trans (Keep.refl h0 [al]).1 (Nat.le_of_eq gx6.symm)
  refine own_retA X7 hx hlk rfl hret rfl (hb hby d37_59) (by decide) (by decide) ?_
  show Q37 Z al mc h0 n0 (some (.ref b6)) T7.heap _
  rw [e7]
  exact ⟨b6, k6, rfl, N7, K7, sz6, f7_0, fw7, f7_2, f7_3, f7_7, f7_6, O6⟩
abbrev rRrm36 : Room := { frames := 2, cells := 1, slots := 10, locals := 29 }
abbrev c36 (n : Nat) (i : ClassFile.Instr) (k : Nat) : Prop := decode jdk_38_method_7_code n = .ok (i, k)
theorem d36_0 : c36 0 (.aload_n 0) 1 := by decide +kernel
theorem d36_1 : c36 1 (.aload_n 0) 1 := by decide +kernel
theorem d36_2 : c36 2 (.getfield 48) 3 := by decide +kernel
theorem d36_5 : c36 5 (.iconst 1) 1 := by decide +kernel
theorem d36_6 : c36 6 (.iadd) 1 := by decide +kernel
theorem d36_7 : c36 7 (.invokevirtual 69) 3 := by decide +kernel
theorem d36_10 : c36 10 (.areturn) 1 := by decide +kernel
theorem pd_25 : parseMethodDescriptor "(I)[Ljava/lang/Object;" = some ⟨[.int], some (.array (.object "java/lang/Object"))⟩ := by decide +kernel
theorem pn_36 : plainFor yy40 = true := by decide +kernel
theorem ef_rm36 (m : MethodId) (al : Addr) : entryFrame m #[(.ref al)] 1 = (mkF m 0 #[rv al] []) := by first | (simp [entryFrame, mkF, argsToLocals, Value.category]; done) | rfl
def Q36 (Z : State) (al : Addr) (mc : Int32) (h0 : Heap) (n0 : Nat) (v_ : Option Value) (h_ : Heap) (L_ : List Loc) : Prop := ∃ y : Addr, ∃ ky : ClassId, (v_ = some (.ref y)) ∧ (Fr n0 L_) ∧ (Keep h0 h_ [al]) ∧ (h0.size ≤ y) ∧ (Exa Z h_ al "java/util/ArrayList") ∧ (Fld Z h_ al "java/util/ArrayList" "elementData" "[Ljava/lang/Object;" (.ref y)) ∧ (Fld Z h_ al "java/util/ArrayList" "size" "I" (.int (0 : Int32))) ∧ (Fld Z h_ al "java/util/AbstractList" "modCount" "I" (.int mc)) ∧ (Arv Z h_ y ky (.object "java/lang/Object") (10 : Int32) [.null, .null, .null, .null, .null, .null, .null, .null, .null, .null] .null) ∧ (Exa Z h_ y "[Ljava/lang/Object;") ∧ (Ovr Z ky "java/lang/Object")
theorem rm36 (l : Launch) (Z : State) (a0 : Array Value) (hw : own_T a0 Z) (al : Addr) (dc : Addr) (kdc : ClassId) (mc : Int32) (h0 : Heap) (n0 : Nat) (Z0 : n0 ≤ h0.size) (p_0 : Exa Z h0 al "java/util/ArrayList") (p_1 : Fld Z h0 al "java/util/ArrayList" "elementData" "[Ljava/lang/Object;" (.ref dc)) (p_2 : Fld Z h0 al "java/util/ArrayList" "size" "I" (.int (0 : Int32))) (p_3 : Fld Z h0 al "java/util/AbstractList" "modCount" "I" (.int mc)) (p_4 : n0 ≤ al) (p_5 : Sta Z h0 "java/util/ArrayList" "DEFAULTCAPACITY_EMPTY_ELEMENTDATA" "[Ljava/lang/Object;" (.ref dc)) (p_6 : Arv Z h0 dc kdc (.object "java/lang/Object") (0 : Int32) [] .null) (p_7 : dc ≠ al) :
    own_Met l yy40 jdk_38_method_7_code 1 (some (.array (.object "java/lang/Object"))) [] rRrm36 Z h0 #[(.ref al)] (Q36 Z al mc h0 n0) := by
  refine own_openN pn_36 (own := "java/util/ArrayList") rfl ?_
  intro p e s m below meth c s₁ hx hby hlk hml hret hZ hown hnm X0 e0
  have N0 := Fr.nil n0
  rw [ef_rm36 m al]
  show own_Goes p e below s (Q36 Z al mc h0 n0) rRrm36.cells rRrm36.slots s₁ (mkF m 0 #[rv al] [])
  refine own_st (fun _ kk_ => XS.aloadN X0.here hx rfl (hb hby d36_0) rfl rfl (XS.aloadN X0.here hx rfl (hb hby d36_1) rfl rfl kk_)) ?_
  show gN s₁ (mkF m 2 #[rv al] [(.ref al), (.ref al)])
  obtain ⟨T1, X1, e1, st1⟩ := getF X0 hx hZ hown (host := "") (Or.inl (own_w hw 177 rfl)) Via.refl e0 p_2 (g := (mkF m 2 #[rv al] [(.ref al), (.ref al)])) rfl rfl (hb hby d36_2)
  refine own_st st1 ?_
  refine own_st (fun _ kk_ => XS.iconst X1.here hx rfl (hb hby d36_5) (XS.iadd X1.here hx rfl (hb hby d36_6) rfl kk_)) ?_
  show gN T1 (mkF m 7 #[rv al] [(.int (1 : Int32)), (.ref al)])
  obtain ⟨cq2, q2, q2'⟩ := p_0.cell
  obtain ⟨T2, L2, v2, X2, hQ2, st2⟩ := own_cut (X1.privateBack hx (y := yy39) hown (own_mw hZ hw 189 rfl) (own_mw hZ hw 190 rfl) (own_mw hZ hw 192 rfl) (Cond.privateMethod_at (mvP hZ (own_w hw 191 rfl) (args := #[]))) (own_mw hZ hw 193 rfl) (by decide) (backOf (W := 0) (rm37 l Z a0 hw (al) (dc) (kdc) (mc) h0 n0 Z0 p_0 p_1 p_2 p_3 p_4 p_5 p_6 p_7) hZ (own_w hw 193 rfl) (own_w hw 144 rfl) (by decide) (by decide)) (g := (mkF m 7 #[rv al] [(.int (1 : Int32)), (.ref al)])) rfl (by rw [hml]; rfl) (Steps.refl _) (a := al) (by rw [e1]; exact q2) q2' (argsL := [(.int (1 : Int32))]) (rest := []) (lenOf pd_25 rfl) rfl (own_bl rfl) (hb hby d36_7) (fun _ _ => ⟨rfl, e1, own_bl rfl, own_bl rfl⟩))
  obtain ⟨x2_y, x2_ky, rfl, Nq2, Kq2, u2_0, u2_1, u2_2, u2_3, u2_4, u2_5, u2_6, u2_7⟩ := hQ2
  have N2 := Fr.app N0 Nq2
  have f2_0 := p_0.keep Kq2
  have f2_4 := own_Sta_keep p_5 Kq2 (nsS p_0.nostat ns0)
  have f2_5 := p_6.keep Kq2 (ninS p_7 nin0)
  have Zs2 : n0 ≤ T2.heap.size := Nat.le_trans Z0 Kq2.1
  have K2 := (Keep.refl h0 [al]).trans Kq2 (allS (Or.inl (List.mem_of_getElem? (i := 0) rfl)) all0)
  refine own_sTN st2 ?_
  have sz2_y := Nat.le_trans (Keep.refl h0 [al]).1 u2_0
  refine own_retA X2 hx hlk rfl hret rfl (hb hby d36_10) (by decide) (by decide) ?_
  show Q36 Z al mc h0 n0 (some (.ref x2_y)) T2.heap _
  exact ⟨x2_y, x2_ky, rfl, N2, K2, sz2_y, u2_1, u2_2, u2_3, u2_4, u2_5, u2_6, u2_7⟩
abbrev rRrmAP0 : Room := { frames := 3, cells := 1, slots := 10, locals := 41 }
abbrev c35 (n : Nat) (i : ClassFile.Instr) (k : Nat) : Prop := decode jdk_38_method_24_code n = .ok (i, k)
theorem d35_0 : c35 0 (.iload_n 3) 1 := by decide +kernel
theorem d35_1 : c35 1 (.aload_n 2) 1 := by decide +kernel
theorem d35_2 : c35 2 (.arraylength) 1 := by decide +kernel
theorem d35_3 : c35 3 (.if_icmp .ne 8) 3 := by decide +kernel
theorem d35_6 : c35 6 (.aload_n 0) 1 := by decide +kernel
theorem d35_7 : c35 7 (.invokevirtual 129) 3 := by decide +kernel
theorem d35_10 : c35 10 (.astore_n 2) 1 := by decide +kernel
theorem d35_11 : c35 11 (.aload_n 2) 1 := by decide +kernel
theorem d35_12 : c35 12 (.iload_n 3) 1 := by decide +kernel
theorem d35_13 : c35 13 (.aload_n 1) 1 := by decide +kernel
theorem d35_14 : c35 14 (.aastore) 1 := by decide +kernel
theorem d35_15 : c35 15 (.aload_n 0) 1 := by decide +kernel
theorem d35_16 : c35 16 (.iload_n 3) 1 := by decide +kernel
theorem d35_17 : c35 17 (.iconst 1) 1 := by decide +kernel
theorem d35_18 : c35 18 (.iadd) 1 := by decide +kernel
theorem d35_19 : c35 19 (.putfield 48) 3 := by decide +kernel
theorem d35_22 : c35 22 (.return_) 1 := by decide +kernel
theorem pd_26 : parseMethodDescriptor "()[Ljava/lang/Object;" = some ⟨[], some (.array (.object "java/lang/Object"))⟩ := by decide +kernel
theorem pn_35 : plainFor yy41 = true := by decide +kernel
theorem ef_rmAP0 (m : MethodId) (al : Addr) (e9 : Addr) (dc : Addr) : entryFrame m #[(.ref al), (.ref e9), (.ref dc), (.int (0 : Int32))] 4 = (mkF m 0 #[rv al, rv e9, rv dc, iv (0 : Int32)] []) := by first | (simp [entryFrame, mkF, argsToLocals, Value.category]; done) | rfl
def QAP0 (Z : State) (al : Addr) (e9 : Addr) (mc : Int32) (h0 : Heap) (n0 : Nat) (v_ : Option Value) (h_ : Heap) (L_ : List Loc) : Prop := ∃ y : Addr, ∃ ky : ClassId, (v_ = none) ∧ (Fr n0 L_) ∧ (Keep h0 h_ [al]) ∧ (h0.size ≤ y) ∧ (Exa Z h_ al "java/util/ArrayList") ∧ (Fld Z h_ al "java/util/ArrayList" "elementData" "[Ljava/lang/Object;" (.ref y)) ∧ (Fld Z h_ al "java/util/ArrayList" "size" "I" (.int (1 : Int32))) ∧ (Fld Z h_ al "java/util/AbstractList" "modCount" "I" (.int mc)) ∧ (Arv Z h_ y ky (.object "java/lang/Object") (10 : Int32) [(.ref e9), .null, .null, .null, .null, .null, .null, .null, .null, .null] .null) ∧ (Exa Z h_ y "[Ljava/lang/Object;") ∧ (Ovr Z ky "java/lang/Object")
theorem rmAP0 (l : Launch) (Z : State) (a0 : Array Value) (hw : own_T a0 Z) (al : Addr) (e9 : Addr) (dc : Addr) (kdc : ClassId) (mc : Int32) (h0 : Heap) (n0 : Nat) (Z0 : n0 ≤ h0.size) (p_0 : Exa Z h0 e9 "com/example/firm_duties/firmduties/BusinessContext$Pair") (p_1 : Exa Z h0 al "java/util/ArrayList") (p_2 : Fld Z h0 al "java/util/ArrayList" "elementData" "[Ljava/lang/Object;" (.ref dc)) (p_3 : Fld Z h0 al "java/util/ArrayList" "size" "I" (.int (0 : Int32))) (p_4 : Fld Z h0 al "java/util/AbstractList" "modCount" "I" (.int mc)) (p_5 : n0 ≤ al) (p_6 : Sta Z h0 "java/util/ArrayList" "DEFAULTCAPACITY_EMPTY_ELEMENTDATA" "[Ljava/lang/Object;" (.ref dc)) (p_7 : Arv Z h0 dc kdc (.object "java/lang/Object") (0 : Int32) [] .null) (p_8 : dc ≠ al) :
    own_Met l yy41 jdk_38_method_24_code 4 none [] rRrmAP0 Z h0 #[(.ref al), (.ref e9), (.ref dc), (.int (0 : Int32))] (QAP0 Z al e9 mc h0 n0) := by
  refine own_openN pn_35 (own := "java/util/ArrayList") rfl ?_
  intro p e s m below meth c s₁ hx hby hlk hml hret hZ hown hnm X0 e0
  have N0 := Fr.nil n0
  rw [ef_rmAP0 m al e9 dc]
  show own_Goes p e below s (QAP0 Z al e9 mc h0 n0) rRrmAP0.cells rRrmAP0.slots s₁ (mkF m 0 #[rv al, rv e9, rv dc, iv (0 : Int32)] [])
  refine own_st (fun _ kk_ => XS.iloadN X0.here hx rfl (hb hby d35_0) rfl (XS.aloadN X0.here hx rfl (hb hby d35_1) rfl rfl kk_)) ?_
  show gN s₁ (mkF m 2 #[rv al, rv e9, rv dc, iv (0 : Int32)] [(.ref dc), (.int (0 : Int32))])
  obtain ⟨cl1, Ar1, -, Sz1, Nn1, -, -⟩ := id p_7
  refine own_st (fun _ kk_ => X0.arraylength hx (by rw [e0]; exact Ar1.1) (State.isArrayOf_alike hZ.alike Ar1.2.1) (g := (mkF m 2 #[rv al, rv e9, rv dc, iv (0 : Int32)] [(.ref dc), (.int (0 : Int32))])) rfl rfl (hb hby d35_2) _ kk_) ?_
  rw [len_of Sz1 Nn1]
  show gN s₁ (mkF m 3 #[rv al, rv e9, rv dc, iv (0 : Int32)] [(.int (0 : Int32)), (.int (0 : Int32))])
  refine own_st (fun _ kk_ => XS.icmpNo X0.here hx rfl (hb hby d35_3) rfl (XT.ii_ne_f (by decide)) (XS.aloadN X0.here hx rfl (hb hby d35_6) rfl rfl kk_)) ?_
  show gN s₁ (mkF m 7 #[rv al, rv e9, rv dc, iv (0 : Int32)] [(.ref al)])
  obtain ⟨cq2, q2, q2'⟩ := p_1.cell
  obtain ⟨T2, L2, v2, X2, hQ2, st2⟩ := own_cut (X0.privateBack hx (y := yy40) hown (own_mw hZ hw 184 rfl) (own_mw hZ hw 185 rfl) (own_mw hZ hw 187 rfl) (Cond.privateMethod_at (mvP hZ (own_w hw 186 rfl) (args := #[]))) (own_mw hZ hw 188 rfl) (by decide) (backOf (W := 0) (rm36 l Z a0 hw (al) (dc) (kdc) (mc) h0 n0 Z0 p_1 p_2 p_3 p_4 p_5 p_6 p_7 p_8) hZ (own_w hw 188 rfl) (own_w hw 144 rfl) (by decide) (by decide)) (g := (mkF m 7 #[rv al, rv e9, rv dc, iv (0 : Int32)] [(.ref al)])) rfl (by rw [hml]; rfl) (Steps.refl _) (a := al) (by rw [e0]; exact q2) q2' (argsL := []) (rest := []) (lenOf pd_26 rfl) rfl (own_bl rfl) (hb hby d35_7) (fun _ _ => ⟨rfl, e0, own_bl rfl, own_bl rfl⟩))
  obtain ⟨x2_y, x2_ky, rfl, Nq2, Kq2, u2_0, u2_1, u2_2, u2_3, u2_4, u2_5, u2_6, u2_7⟩ := hQ2
  have N2 := Fr.app N0 Nq2
  have f2_0 := p_0.keep Kq2
  have f2_1 := p_1.keep Kq2
  have f2_5 := own_Sta_keep p_6 Kq2 (nsS p_1.nostat ns0)
  have f2_6 := p_7.keep Kq2 (ninS p_8 nin0)
  have Zs2 : n0 ≤ T2.heap.size := Nat.le_trans Z0 Kq2.1
  have K2 := (Keep.refl h0 [al]).trans Kq2 (allS (Or.inl (List.mem_of_getElem? (i := 0) rfl)) all0)
  refine own_sTN st2 ?_
  have sz2_y := Nat.le_trans (Keep.refl h0 [al]).1 u2_0
  refine own_st (fun _ kk_ => XS.astoreN X2.here hx rfl (hb hby d35_10) rfl rfl (l' := #[rv al, rv e9, rv x2_y, iv (0 : Int32)]) rfl (XS.aloadN X2.here hx rfl (hb hby d35_11) rfl rfl (XS.iloadN X2.here hx rfl (hb hby d35_12) rfl (XS.aloadN X2.here hx rfl (hb hby d35_13) rfl rfl kk_)))) ?_
  show gN T2 (mkF m 14 #[rv al, rv e9, rv x2_y, iv (0 : Int32)] [(.ref e9), (.int (0 : Int32)), (.ref x2_y)])
  obtain ⟨cl3, Ar3, q3, Sz3, Nn3, Hh3, Gg3⟩ := id u2_5
  obtain ⟨T3, h3, X3, e3, W3, st3⟩ := stR X2 hx hZ rfl Ar3 (j := (0 : Int32)) (inb_of Sz3 ⟨by decide, by decide⟩) rfl (Sto.ofV Ar3 q3 u2_7 (Ins.of_exa f2_0 (own_w hw 197 rfl))) (g := (mkF m 14 #[rv al, rv e9, rv x2_y, iv (0 : Int32)] [(.ref e9), (.int (0 : Int32)), (.ref x2_y)])) rfl rfl (hb hby d35_14)
  have V3 : Arv Z h3 x2_y x2_ky (.object "java/lang/Object") (10 : Int32) [(.ref e9), .null, .null, .null, .null, .null, .null, .null, .null, .null] .null := Arv.set Ar3 q3 Sz3 Nn3 Hh3 Gg3 rfl W3 0 rfl (Nat.le_of_ble_eq_true rfl)
  have f3_0 := f2_0.wr W3
  have f3_1 := u2_1.wr W3
  have f3_2 := f2_5.wr W3
  have n2_dcy := own_nk p_7.lt u2_0
  have f3_3 := f2_6.other W3 n2_dcy
  have n2_aly := own_nk p_1.lt u2_0
  have f3_4 := u2_2.other W3 (Or.inl n2_aly)
  have f3_5 := u2_3.other W3 (Or.inl n2_aly)
  have f3_6 := u2_4.other W3 (Or.inl n2_aly)
  have f3_8 := u2_6.wr W3
  have Zs3 : n0 ≤ h3.size := Nat.le_trans Zs2 (Nat.le_of_eq W3.size.symm)
  have K3 := K2.wr W3 (Or.inr sz2_y)
  have gg2_y := Nat.le_trans Z0 u2_0
  have N3 := Fr.snoc X3 N2 gg2_y
  refine own_st st3 ?_
  refine own_st (fun _ kk_ => XS.aloadN X3.here hx rfl (hb hby d35_15) rfl rfl (XS.iloadN X3.here hx rfl (hb hby d35_16) rfl (XS.iconst X3.here hx rfl (hb hby d35_17) (XS.iadd X3.here hx rfl (hb hby d35_18) rfl kk_)))) ?_
  show gN T3 (mkF m 19 #[rv al, rv e9, rv x2_y, iv (0 : Int32)] [(.int (1 : Int32)), (.ref al)])
  obtain ⟨T4, h4, X4, e4, W4, st4⟩ := putF X3 hx hZ hown (host := "") (Or.inl (own_w hw 177 rfl)) Via.refl e3 f3_5 f3_1 (Or.inl (own_w hw 178 rfl)) (own_w hw 143 rfl) (ty := .int) (by decide) rfl rfl (g := (mkF m 19 #[rv al, rv e9, rv x2_y, iv (0 : Int32)] [(.int (1 : Int32)), (.ref al)])) rfl rfl (hb hby d35_19)
  have fw4 : Fld Z h4 al "java/util/ArrayList" "size" "I" (.int (1 : Int32)) := f3_5.same W4
  have f4_0 := f3_0.wr W4
  have f4_1 := f3_1.wr W4
  have f4_2 := f3_2.wr W4
  have f4_3 := f3_3.other W4 p_8
  have f4_4 := f3_4.other W4 (Or.inr (slot_ne (Or.inl (own_w hw 165 rfl)) (Or.inl (own_w hw 178 rfl)) (by decide) (t := (.array (.object "java/lang/Object"))) (t' := .int) (by decide) (by decide)))
  have f4_6 := f3_6.other W4 (Or.inr (slot_ne (Or.inl (own_w hw 162 rfl)) (Or.inl (own_w hw 178 rfl)) (by decide) (t := .int) (t' := .int) (by decide) (by decide)))
  have f4_7 := f3_8.wr W4
  have f4_8 := V3.other W4 (Ne.symm n2_aly)
  have Zs4 : n0 ≤ h4.size := Nat.le_trans Zs3 (Nat.le_of_eq W4.size.symm)
  have K4 := K3.wr W4 (Or.inl (List.mem_of_getElem? (i := 0) rfl))
  have N4 := Fr.snoc X4 N3 p_5
  refine own_st st4 ?_
  refine own_ret0 X4 hx hlk hret (hb hby d35_22) (by decide) (by decide) ?_
  show QAP0 Z al e9 mc h0 n0 none T4.heap _
  rw [e4]
  exact ⟨x2_y, x2_ky, rfl, N4, K4, sz2_y, f4_1, f4_4, fw4, f4_6, f4_8, f4_7, u2_7⟩
abbrev rRrmAD0 : Room := { frames := 4, cells := 1, slots := 10, locals := 56 }
abbrev c34 (n : Nat) (i : ClassFile.Instr) (k : Nat) : Prop := decode jdk_38_method_25_code n = .ok (i, k)
theorem d34_0 : c34 0 (.aload_n 0) 1 := by decide +kernel
theorem d34_1 : c34 1 (.dup) 1 := by decide +kernel
theorem d34_2 : c34 2 (.getfield 63) 3 := by decide +kernel
theorem d34_5 : c34 5 (.iconst 1) 1 := by decide +kernel
theorem d34_6 : c34 6 (.iadd) 1 := by decide +kernel
theorem d34_7 : c34 7 (.putfield 63) 3 := by decide +kernel
theorem d34_10 : c34 10 (.aload_n 0) 1 := by decide +kernel
theorem d34_11 : c34 11 (.aload_n 1) 1 := by decide +kernel
theorem d34_12 : c34 12 (.aload_n 0) 1 := by decide +kernel
theorem d34_13 : c34 13 (.getfield 9) 3 := by decide +kernel
theorem d34_16 : c34 16 (.aload_n 0) 1 := by decide +kernel
theorem d34_17 : c34 17 (.getfield 48) 3 := by decide +kernel
theorem d34_20 : c34 20 (.invokevirtual 131) 3 := by decide +kernel
theorem d34_23 : c34 23 (.iconst 1) 1 := by decide +kernel
theorem d34_24 : c34 24 (.ireturn) 1 := by decide +kernel
theorem pd_27 : parseMethodDescriptor "(Ljava/lang/Object;[Ljava/lang/Object;I)V" = some ⟨[(.object "java/lang/Object"), (.array (.object "java/lang/Object")), .int], none⟩ := by decide +kernel
theorem pn_34 : plainFor yy42 = true := by decide +kernel
theorem ef_rmAD0 (m : MethodId) (al : Addr) (e9 : Addr) : entryFrame m #[(.ref al), (.ref e9)] 2 = (mkF m 0 #[rv al, rv e9] []) := by first | (simp [entryFrame, mkF, argsToLocals, Value.category]; done) | rfl
def QAD0 (Z : State) (al : Addr) (e9 : Addr) (mc : Int32) (h0 : Heap) (n0 : Nat) (v_ : Option Value) (h_ : Heap) (L_ : List Loc) : Prop := ∃ y : Addr, ∃ ky : ClassId, (v_ = some (.int (1 : Int32))) ∧ (Fr n0 L_) ∧ (Keep h0 h_ [al]) ∧ (h0.size ≤ y) ∧ (Exa Z h_ al "java/util/ArrayList") ∧ (Fld Z h_ al "java/util/ArrayList" "elementData" "[Ljava/lang/Object;" (.ref y)) ∧ (Fld Z h_ al "java/util/ArrayList" "size" "I" (.int (1 : Int32))) ∧ (Fld Z h_ al "java/util/AbstractList" "modCount" "I" (.int (mc + (1 : Int32)))) ∧ (Arv Z h_ y ky (.object "java/lang/Object") (10 : Int32) [(.ref e9), .null, .null, .null, .null, .null, .null, .null, .null, .null] .null) ∧ (Exa Z h_ y "[Ljava/lang/Object;") ∧ (Ovr Z ky "java/lang/Object")
theorem rmAD0 (l : Launch) (Z : State) (a0 : Array Value) (hw : own_T a0 Z) (al : Addr) (e9 : Addr) (dc : Addr) (kdc : ClassId) (mc : Int32) (h0 : Heap) (n0 : Nat) (Z0 : n0 ≤ h0.size) (p_0 : Exa Z h0 e9 "com/example/firm_duties/firmduties/BusinessContext$Pair") (p_1 : Exa Z h0 al "java/util/ArrayList") (p_2 : Fld Z h0 al "java/util/ArrayList" "elementData" "[Ljava/lang/Object;" (.ref dc)) (p_3 : Fld Z h0 al "java/util/ArrayList" "size" "I" (.int (0 : Int32))) (p_4 : Fld Z h0 al "java/util/AbstractList" "modCount" "I" (.int mc)) (p_5 : n0 ≤ al) (p_6 : Sta Z h0 "java/util/ArrayList" "DEFAULTCAPACITY_EMPTY_ELEMENTDATA" "[Ljava/lang/Object;" (.ref dc)) (p_7 : Arv Z h0 dc kdc (.object "java/lang/Object") (0 : Int32) [] .null) (p_8 : dc ≠ al) :
    own_Met l yy42 jdk_38_method_25_code 2 (some .boolean) [] rRrmAD0 Z h0 #[(.ref al), (.ref e9)] (QAD0 Z al e9 mc h0 n0) := by
  refine own_openN pn_34 (own := "java/util/ArrayList") rfl ?_
  intro p e s m below meth c s₁ hx hby hlk hml hret hZ hown hnm X0 e0
  have N0 := Fr.nil n0
  rw [ef_rmAD0 m al e9]
  show own_Goes p e below s (QAD0 Z al e9 mc h0 n0) rRrmAD0.cells rRrmAD0.slots s₁ (mkF m 0 #[rv al, rv e9] [])
  refine own_st (fun _ kk_ => XS.aloadN X0.here hx rfl (hb hby d34_0) rfl rfl (XS.dup X0.here hx rfl (hb hby d34_1) rfl rfl kk_)) ?_
  show gN s₁ (mkF m 2 #[rv al, rv e9] [(.ref al), (.ref al)])
  obtain ⟨T1, X1, e1, st1⟩ := getF X0 hx hZ hown (host := "") (Or.inl (own_w hw 175 rfl)) (Via.of (own_w hw 176 rfl)) e0 p_4 (g := (mkF m 2 #[rv al, rv e9] [(.ref al), (.ref al)])) rfl rfl (hb hby d34_2)
  refine own_st st1 ?_
  refine own_st (fun _ kk_ => XS.iconst X1.here hx rfl (hb hby d34_5) (XS.iadd X1.here hx rfl (hb hby d34_6) rfl kk_)) ?_
  show gN T1 (mkF m 7 #[rv al, rv e9] [(.int (mc + (1 : Int32))), (.ref al)])
  obtain ⟨T2, h2, X2, e2, W2, st2⟩ := putF X1 hx hZ hown (host := "") (Or.inl (own_w hw 175 rfl)) (Via.of (own_w hw 176 rfl)) e1 p_4 p_1 (Or.inl (own_w hw 162 rfl)) (own_w hw 143 rfl) (ty := .int) (by decide) rfl rfl (g := (mkF m 7 #[rv al, rv e9] [(.int (mc + (1 : Int32))), (.ref al)])) rfl rfl (hb hby d34_7)
  have fw2 : Fld Z h2 al "java/util/AbstractList" "modCount" "I" (.int (mc + (1 : Int32))) := p_4.same W2
  have f2_0 := p_0.wr W2
  have f2_1 := p_1.wr W2
  have f2_2 := p_2.other W2 (Or.inr (slot_ne (Or.inl (own_w hw 165 rfl)) (Or.inl (own_w hw 162 rfl)) (by decide) (t := (.array (.object "java/lang/Object"))) (t' := .int) (by decide) (by decide)))
  have f2_3 := p_3.other W2 (Or.inr (slot_ne (Or.inl (own_w hw 178 rfl)) (Or.inl (own_w hw 162 rfl)) (by decide) (t := .int) (t' := .int) (by decide) (by decide)))
  have f2_5 := p_6.wr W2
  have f2_6 := p_7.other W2 p_8
  have Zs2 : n0 ≤ h2.size := Nat.le_trans Z0 (Nat.le_of_eq W2.size.symm)
  have K2 := (Keep.refl h0 [al]).wr W2 (Or.inl (List.mem_of_getElem? (i := 0) rfl))
  have N2 := Fr.snoc X2 N0 p_5
  refine own_st st2 ?_
  refine own_st (fun _ kk_ => XS.aloadN X2.here hx rfl (hb hby d34_10) rfl rfl (XS.aloadN X2.here hx rfl (hb hby d34_11) rfl rfl (XS.aloadN X2.here hx rfl (hb hby d34_12) rfl rfl kk_))) ?_
  show gN T2 (mkF m 13 #[rv al, rv e9] [(.ref al), (.ref e9), (.ref al)])
  obtain ⟨T3, X3, e3, st3⟩ := getF X2 hx hZ hown (host := "") (Or.inl (own_w hw 164 rfl)) Via.refl e2 f2_2 (g := (mkF m 13 #[rv al, rv e9] [(.ref al), (.ref e9), (.ref al)])) rfl rfl (hb hby d34_13)
  refine own_st st3 ?_
  refine own_st (fun _ kk_ => XS.aloadN X3.here hx rfl (hb hby d34_16) rfl rfl kk_) ?_
  show gN T3 (mkF m 17 #[rv al, rv e9] [(.ref al), (.ref dc), (.ref e9), (.ref al)])
  obtain ⟨T4, X4, e4, st4⟩ := getF X3 hx hZ hown (host := "") (Or.inl (own_w hw 177 rfl)) Via.refl e3 f2_3 (g := (mkF m 17 #[rv al, rv e9] [(.ref al), (.ref dc), (.ref e9), (.ref al)])) rfl rfl (hb hby d34_17)
  refine own_st st4 ?_
  obtain ⟨cq5, q5, q5'⟩ := f2_1.cell
  obtain ⟨T5, L5, v5, X5, hQ5, st5⟩ := own_cut (X4.privateBack hx (y := yy41) hown (own_mw hZ hw 179 rfl) (own_mw hZ hw 180 rfl) (own_mw hZ hw 182 rfl) (Cond.privateMethod_at (mvP hZ (own_w hw 181 rfl) (args := #[]))) (own_mw hZ hw 183 rfl) (by decide) (backOf (W := 0) (rmAP0 l Z a0 hw (al) (e9) (dc) (kdc) ((mc + (1 : Int32))) h2 n0 Zs2 f2_0 f2_1 f2_2 f2_3 fw2 p_5 f2_5 f2_6 p_8) hZ (own_w hw 183 rfl) (own_w hw 144 rfl) (by decide) (by decide)) (g := (mkF m 20 #[rv al, rv e9] [(.int (0 : Int32)), (.ref dc), (.ref e9), (.ref al)])) rfl (by rw [hml]; rfl) (Steps.refl _) (a := al) (by rw [e4]; exact q5) q5' (argsL := [(.ref e9), (.ref dc), (.int (0 : Int32))]) (rest := []) (lenOf pd_27 rfl) rfl (own_bl rfl) (hb hby d34_20) (fun _ _ => ⟨rfl, e4, own_bl rfl, own_bl rfl⟩))
  obtain ⟨x5_y, x5_ky, rfl, Nq5, Kq5, u5_0, u5_1, u5_2, u5_3, u5_4, u5_5, u5_6, u5_7⟩ := hQ5
  have N5 := Fr.app N2 Nq5
  have f5_0 := f2_0.keep Kq5
  have f5_1 := f2_1.keep Kq5
  have f5_4 := own_Sta_keep f2_5 Kq5 (nsS f2_1.nostat ns0)
  have f5_5 := f2_6.keep Kq5 (ninS p_8 nin0)
  have Zs5 : n0 ≤ T5.heap.size := Nat.le_trans Zs2 Kq5.1
  have K5 := K2.trans Kq5 (allS (Or.inl (List.mem_of_getElem? (i := 0) rfl)) all0)
  refine own_sTN st5 ?_
  have sz5_y := Nat.le_trans K2.1 u5_0
  refine own_st (fun _ kk_ => XS.iconst X5.here hx rfl (hb hby d34_23) kk_) ?_
  show gN T5 (mkF m 24 #[rv al, rv e9] [(.int (1 : Int32))])
  refine own_retN X5 hx hlk (t := .boolean) hret (by simp) (hb hby d34_24) (by decide) (by decide) ?_
  show QAD0 Z al e9 mc h0 n0 (some (.int (nar .boolean (1 : Int32)))) T5.heap _
  exact ⟨x5_y, x5_ky, rfl, N5, K5, sz5_y, u5_1, u5_2, u5_3, u5_4, u5_5, u5_6, u5_7⟩
abbrev rRrmAP1 : Room := { frames := 0, cells := 0, slots := 0, locals := 0 }
theorem ef_rmAP1 (m : MethodId) (al : Addr) (e9 : Addr) (d : Addr) : entryFrame m #[(.ref al), (.ref e9), (.ref d), (.int (1 : Int32))] 4 = (mkF m 0 #[rv al, rv e9, rv d, iv (1 : Int32)] []) := by first | (simp [entryFrame, mkF, argsToLocals, Value.category]; done) | rfl
def QAP1 (Z : State) (al : Addr) (e9 : Addr) (d : Addr) (kd : ClassId) (mc : Int32) (qa0 : Addr) (h0 : Heap) (n0 : Nat) (v_ : Option Value) (h_ : Heap) (L_ : List Loc) : Prop := (v_ = none) ∧ (Fr n0 L_) ∧ (Keep h0 h_ [al, d]) ∧ (Exa Z h_ al "java/util/ArrayList") ∧ (Fld Z h_ al "java/util/ArrayList" "elementData" "[Ljava/lang/Object;" (.ref d)) ∧ (Fld Z h_ al "java/util/ArrayList" "size" "I" (.int (2 : Int32))) ∧ (Fld Z h_ al "java/util/AbstractList" "modCount" "I" (.int mc)) ∧ (Arv Z h_ d kd (.object "java/lang/Object") (10 : Int32) [(.ref qa0), (.ref e9), .null, .null, .null, .null, .null, .null, .null, .null] .null) ∧ (Exa Z h_ d "[Ljava/lang/Object;") ∧ (Ovr Z kd "java/lang/Object")
theorem rmAP1 (l : Launch) (Z : State) (a0 : Array Value) (hw : own_T a0 Z) (al : Addr) (e9 : Addr) (d : Addr) (kd : ClassId) (mc : Int32) (qa0 : Addr) (h0 : Heap) (n0 : Nat) (Z0 : n0 ≤ h0.size) (p_0 : Exa Z h0 e9 "com/example/firm_duties/firmduties/BusinessContext$Pair") (p_1 : Exa Z h0 al "java/util/ArrayList") (p_2 : Fld Z h0 al "java/util/ArrayList" "elementData" "[Ljava/lang/Object;" (.ref d)) (p_3 : Fld Z h0 al "java/util/ArrayList" "size" "I" (.int (1 : Int32))) (p_4 : Fld Z h0 al "java/util/AbstractList" "modCount" "I" (.int mc)) (p_5 : n0 ≤ al) (p_6 : n0 ≤ d) (p_7 : Arv Z h0 d kd (.object "java/lang/Object") (10 : Int32) [(.ref qa0), .null, .null, .null, .null, .null, .null, .null, .null, .null] .null) (p_8 : Exa Z h0 d "[Ljava/lang/Object;") (ov : Ovr Z kd "java/lang/Object") (p_10 : al ≠ d) :
    own_Met l yy41 jdk_38_method_24_code 4 none [] rRrmAP1 Z h0 #[(.ref al), (.ref e9), (.ref d), (.int (1 : Int32))] (QAP1 Z al e9 d kd mc qa0 h0 n0) := by
  refine own_openN pn_35 (own := "java/util/ArrayList") rfl ?_
  intro p e s m below meth c s₁ hx hby hlk hml hret hZ hown hnm X0 e0
  have N0 := Fr.nil n0
  rw [ef_rmAP1 m al e9 d]
  show own_Goes p e below s (QAP1 Z al e9 d kd mc qa0 h0 n0) rRrmAP1.cells rRrmAP1.slots s₁ (mkF m 0 #[rv al, rv e9, rv d, iv (1 : Int32)] [])
  refine own_st (fun _ kk_ => XS.iloadN X0.here hx rfl (hb hby d35_0) rfl (XS.aloadN X0.here hx rfl (hb hby d35_1) rfl rfl kk_)) ?_
  show gN s₁ (mkF m 2 #[rv al, rv e9, rv d, iv (1 : Int32)] [(.ref d), (.int (1 : Int32))])
  obtain ⟨cl1, Ar1, -, Sz1, Nn1, -, -⟩ := id p_7
  refine own_st (fun _ kk_ => X0.arraylength hx (by rw [e0]; exact Ar1.1) (State.isArrayOf_alike hZ.alike Ar1.2.1) (g := (mkF m 2 #[rv al, rv e9, rv d, iv (1 : Int32)] [(.ref d), (.int (1 : Int32))])) rfl rfl (hb hby d35_2) _ kk_) ?_
  rw [len_of Sz1 Nn1]
  show gN s₁ (mkF m 3 #[rv al, rv e9, rv d, iv (1 : Int32)] [(.int (10 : Int32)), (.int (1 : Int32))])
  refine own_st (fun _ kk_ => XS.icmpYes X0.here hx rfl (pc0 := 3) (pc' := 11) rfl (hb hby d35_3) rfl (XT.ii_ne_t (by decide)) (by decide) (by decide) (XS.aloadN X0.here hx rfl (hb hby d35_11) rfl rfl (XS.iloadN X0.here hx rfl (hb hby d35_12) rfl (XS.aloadN X0.here hx rfl (hb hby d35_13) rfl rfl kk_)))) ?_
  show gN s₁ (mkF m 14 #[rv al, rv e9, rv d, iv (1 : Int32)] [(.ref e9), (.int (1 : Int32)), (.ref d)])
  obtain ⟨cl2, Ar2, q2, Sz2, Nn2, Hh2, Gg2⟩ := id p_7
  obtain ⟨T2, h2, X2, e2, W2, st2⟩ := stR X0 hx hZ e0 Ar2 (j := (1 : Int32)) (inb_of Sz2 ⟨by decide, by decide⟩) rfl (Sto.ofV Ar2 q2 ov (Ins.of_exa p_0 (own_w hw 197 rfl))) (g := (mkF m 14 #[rv al, rv e9, rv d, iv (1 : Int32)] [(.ref e9), (.int (1 : Int32)), (.ref d)])) rfl rfl (hb hby d35_14)
  have V2 : Arv Z h2 d kd (.object "java/lang/Object") (10 : Int32) [(.ref qa0), (.ref e9), .null, .null, .null, .null, .null, .null, .null, .null] .null := Arv.set Ar2 q2 Sz2 Nn2 Hh2 Gg2 rfl W2 1 rfl (Nat.le_of_ble_eq_true rfl)
  have f2_0 := p_0.wr W2
  have f2_1 := p_1.wr W2
  have f2_2 := p_2.other W2 (Or.inl p_10)
  have f2_3 := p_3.other W2 (Or.inl p_10)
  have f2_4 := p_4.other W2 (Or.inl p_10)
  have f2_6 := p_8.wr W2
  have Zs2 : n0 ≤ h2.size := Nat.le_trans Z0 (Nat.le_of_eq W2.size.symm)
  have K2 := (Keep.refl h0 [al, d]).wr W2 (Or.inl (List.mem_of_getElem? (i := 1) rfl))
  have N2 := Fr.snoc X2 N0 p_6
  refine own_st st2 ?_
  refine own_st (fun _ kk_ => XS.aloadN X2.here hx rfl (hb hby d35_15) rfl rfl (XS.iloadN X2.here hx rfl (hb hby d35_16) rfl (XS.iconst X2.here hx rfl (hb hby d35_17) (XS.iadd X2.here hx rfl (hb hby d35_18) rfl kk_)))) ?_
  show gN T2 (mkF m 19 #[rv al, rv e9, rv d, iv (1 : Int32)] [(.int (2 : Int32)), (.ref al)])
  obtain ⟨T3, h3, X3, e3, W3, st3⟩ := putF X2 hx hZ hown (host := "") (Or.inl (own_w hw 177 rfl)) Via.refl e2 f2_3 f2_1 (Or.inl (own_w hw 178 rfl)) (own_w hw 143 rfl) (ty := .int) (by decide) rfl rfl (g := (mkF m 19 #[rv al, rv e9, rv d, iv (1 : Int32)] [(.int (2 : Int32)), (.ref al)])) rfl rfl (hb hby d35_19)
  have fw3 : Fld Z h3 al "java/util/ArrayList" "size" "I" (.int (2 : Int32)) := f2_3.same W3
  have f3_0 := f2_0.wr W3
  have f3_1 := f2_1.wr W3
  have f3_2 := f2_2.other W3 (Or.inr (slot_ne (Or.inl (own_w hw 165 rfl)) (Or.inl (own_w hw 178 rfl)) (by decide) (t := (.array (.object "java/lang/Object"))) (t' := .int) (by decide) (by decide)))
  have f3_4 := f2_4.other W3 (Or.inr (slot_ne (Or.inl (own_w hw 162 rfl)) (Or.inl (own_w hw 178 rfl)) (by decide) (t := .int) (t' := .int) (by decide) (by decide)))
  have f3_5 := f2_6.wr W3
  have f3_6 := V2.other W3 (Ne.symm p_10)
  have Zs3 : n0 ≤ h3.size := Nat.le_trans Zs2 (Nat.le_of_eq W3.size.symm)
  have K3 := K2.wr W3 (Or.inl (List.mem_of_getElem? (i := 0) rfl))
  have N3 := Fr.snoc X3 N2 p_5
  refine own_st st3 ?_
  refine own_ret0 X3 hx hlk hret (hb hby d35_22) (by decide) (by decide) ?_
  show QAP1 Z al e9 d kd mc qa0 h0 n0 none T3.heap _
  rw [e3]
  exact ⟨rfl, N3, K3, f3_1, f3_2, fw3, f3_4, f3_6, f3_5, ov⟩
abbrev rRrmAD1 : Room := { frames := 1, cells := 0, slots := 0, locals := 15 }
theorem ef_rmAD1 (m : MethodId) (al : Addr) (e9 : Addr) : entryFrame m #[(.ref al), (.ref e9)] 2 = (mkF m 0 #[rv al, rv e9] []) := by first | (simp [entryFrame, mkF, argsToLocals, Value.category]; done) | rfl
def QAD1 (Z : State) (al : Addr) (e9 : Addr) (d : Addr) (kd : ClassId) (mc : Int32) (qa0 : Addr) (h0 : Heap) (n0 : Nat) (v_ : Option Value) (h_ : Heap) (L_ : List Loc) : Prop := (v_ = some (.int (1 : Int32))) ∧ (Fr n0 L_) ∧ (Keep h0 h_ [al, d]) ∧ (Exa Z h_ al "java/util/ArrayList") ∧ (Fld Z h_ al "java/util/ArrayList" "elementData" "[Ljava/lang/Object;" (.ref d)) ∧ (Fld Z h_ al "java/util/ArrayList" "size" "I" (.int (2 : Int32))) ∧ (Fld Z h_ al "java/util/AbstractList" "modCount" "I" (.int (mc + (1 : Int32)))) ∧ (Arv Z h_ d kd (.object "java/lang/Object") (10 : Int32) [(.ref qa0), (.ref e9), .null, .null, .null, .null, .null, .null, .null, .null] .null) ∧ (Exa Z h_ d "[Ljava/lang/Object;") ∧ (Ovr Z kd "java/lang/Object")
theorem rmAD1 (l : Launch) (Z : State) (a0 : Array Value) (hw : own_T a0 Z) (al : Addr) (e9 : Addr) (d : Addr) (kd : ClassId) (mc : Int32) (qa0 : Addr) (h0 : Heap) (n0 : Nat) (Z0 : n0 ≤ h0.size) (p_0 : Exa Z h0 e9 "com/example/firm_duties/firmduties/BusinessContext$Pair") (p_1 : Exa Z h0 al "java/util/ArrayList") (p_2 : Fld Z h0 al "java/util/ArrayList" "elementData" "[Ljava/lang/Object;" (.ref d)) (p_3 : Fld Z h0 al "java/util/ArrayList" "size" "I" (.int (1 : Int32))) (p_4 : Fld Z h0 al "java/util/AbstractList" "modCount" "I" (.int mc)) (p_5 : n0 ≤ al) (p_6 : n0 ≤ d) (p_7 : Arv Z h0 d kd (.object "java/lang/Object") (10 : Int32) [(.ref qa0), .null, .null, .null, .null, .null, .null, .null, .null, .null] .null) (p_8 : Exa Z h0 d "[Ljava/lang/Object;") (ov : Ovr Z kd "java/lang/Object") (p_10 : al ≠ d) :
    own_Met l yy42 jdk_38_method_25_code 2 (some .boolean) [] rRrmAD1 Z h0 #[(.ref al), (.ref e9)] (QAD1 Z al e9 d kd mc qa0 h0 n0) := by
  refine own_openN pn_34 (own := "java/util/ArrayList") rfl ?_
  intro p e s m below meth c s₁ hx hby hlk hml hret hZ hown hnm X0 e0
  have N0 := Fr.nil n0
  rw [ef_rmAD1 m al e9]
  show own_Goes p e below s (QAD1 Z al e9 d kd mc qa0 h0 n0) rRrmAD1.cells rRrmAD1.slots s₁ (mkF m 0 #[rv al, rv e9] [])
  refine own_st (fun _ kk_ => XS.aloadN X0.here hx rfl (hb hby d34_0) rfl rfl (XS.dup X0.here hx rfl (hb hby d34_1) rfl rfl kk_)) ?_
  show gN s₁ (mkF m 2 #[rv al, rv e9] [(.ref al), (.ref al)])
  obtain ⟨T1, X1, e1, st1⟩ := getF X0 hx hZ hown (host := "") (Or.inl (own_w hw 175 rfl)) (Via.of (own_w hw 176 rfl)) e0 p_4 (g := (mkF m 2 #[rv al, rv e9] [(.ref al), (.ref al)])) rfl rfl (hb hby d34_2)
  refine own_st st1 ?_
  refine own_st (fun _ kk_ => XS.iconst X1.here hx rfl (hb hby d34_5) (XS.iadd X1.here hx rfl (hb hby d34_6) rfl kk_)) ?_
  show gN T1 (mkF m 7 #[rv al, rv e9] [(.int (mc + (1 : Int32))), (.ref al)])
  obtain ⟨T2, h2, X2, e2, W2, st2⟩ := putF X1 hx hZ hown (host := "") (Or.inl (own_w hw 175 rfl)) (Via.of (own_w hw 176 rfl)) e1 p_4 p_1 (Or.inl (own_w hw 162 rfl)) (own_w hw 143 rfl) (ty := .int) (by decide) rfl rfl (g := (mkF m 7 #[rv al, rv e9] [(.int (mc + (1 : Int32))), (.ref al)])) rfl rfl (hb hby d34_7)
  have fw2 : Fld Z h2 al "java/util/AbstractList" "modCount" "I" (.int (mc + (1 : Int32))) := p_4.same W2
  have f2_0 := p_0.wr W2
  have f2_1 := p_1.wr W2
  have f2_2 := p_2.other W2 (Or.inr (slot_ne (Or.inl (own_w hw 165 rfl)) (Or.inl (own_w hw 162 rfl)) (by decide) (t := (.array (.object "java/lang/Object"))) (t' := .int) (by decide) (by decide)))
  have f2_3 := p_3.other W2 (Or.inr (slot_ne (Or.inl (own_w hw 178 rfl)) (Or.inl (own_w hw 162 rfl)) (by decide) (t := .int) (t' := .int) (by decide) (by decide)))
  have f2_5 := p_7.other W2 (Ne.symm p_10)
  have f2_6 := p_8.wr W2
  have Zs2 : n0 ≤ h2.size := Nat.le_trans Z0 (Nat.le_of_eq W2.size.symm)
  have K2 := (Keep.refl h0 [al, d]).wr W2 (Or.inl (List.mem_of_getElem? (i := 0) rfl))
  have N2 := Fr.snoc X2 N0 p_5
  refine own_st st2 ?_
  refine own_st (fun _ kk_ => XS.aloadN X2.here hx rfl (hb hby d34_10) rfl rfl (XS.aloadN X2.here hx rfl (hb hby d34_11) rfl rfl (XS.aloadN X2.here hx rfl (hb hby d34_12) rfl rfl kk_))) ?_
  show gN T2 (mkF m 13 #[rv al, rv e9] [(.ref al), (.ref e9), (.ref al)])
  obtain ⟨T3, X3, e3, st3⟩ := getF X2 hx hZ hown (host := "") (Or.inl (own_w hw 164 rfl)) Via.refl e2 f2_2 (g := (mkF m 13 #[rv al, rv e9] [(.ref al), (.ref e9), (.ref al)])) rfl rfl (hb hby d34_13)
  refine own_st st3 ?_
  refine own_st (fun _ kk_ => XS.aloadN X3.here hx rfl (hb hby d34_16) rfl rfl kk_) ?_
  show gN T3 (mkF m 17 #[rv al, rv e9] [(.ref al), (.ref d), (.ref e9), (.ref al)])
  obtain ⟨T4, X4, e4, st4⟩ := getF X3 hx hZ hown (host := "") (Or.inl (own_w hw 177 rfl)) Via.refl e3 f2_3 (g := (mkF m 17 #[rv al, rv e9] [(.ref al), (.ref d), (.ref e9), (.ref al)])) rfl rfl (hb hby d34_17)
  refine own_st st4 ?_
  obtain ⟨cq5, q5, q5'⟩ := f2_1.cell
  obtain ⟨T5, L5, v5, X5, hQ5, st5⟩ := own_cut (X4.privateBack hx (y := yy41) hown (own_mw hZ hw 179 rfl) (own_mw hZ hw 180 rfl) (own_mw hZ hw 182 rfl) (Cond.privateMethod_at (mvP hZ (own_w hw 181 rfl) (args := #[]))) (own_mw hZ hw 183 rfl) (by decide) (backOf (W := 0) (rmAP1 l Z a0 hw (al) (e9) (d) (kd) ((mc + (1 : Int32))) (qa0) h2 n0 Zs2 f2_0 f2_1 f2_2 f2_3 fw2 p_5 p_6 f2_5 f2_6 (by assumption) p_10) hZ (own_w hw 183 rfl) (own_w hw 144 rfl) (by decide) (by decide)) (g := (mkF m 20 #[rv al, rv e9] [(.int (1 : Int32)), (.ref d), (.ref e9), (.ref al)])) rfl (by rw [hml]; rfl) (Steps.refl _) (a := al) (by rw [e4]; exact q5) q5' (argsL := [(.ref e9), (.ref d), (.int (1 : Int32))]) (rest := []) (lenOf pd_27 rfl) rfl (own_bl rfl) (hb hby d34_20) (fun _ _ => ⟨rfl, e4, own_bl rfl, own_bl rfl⟩))
  obtain ⟨rfl, Nq5, Kq5, u5_0, u5_1, u5_2, u5_3, u5_4, u5_5, u5_6⟩ := hQ5
  have N5 := Fr.app N2 Nq5
  have f5_0 := f2_0.keep Kq5
  have f5_1 := f2_1.keep Kq5
  have f5_5 := f2_6.keep Kq5
  have Zs5 : n0 ≤ T5.heap.size := Nat.le_trans Zs2 Kq5.1
  have K5 := K2.trans Kq5 (allS (Or.inl (List.mem_of_getElem? (i := 0) rfl)) (allS (Or.inl (List.mem_of_getElem? (i := 1) rfl)) all0))
  refine own_sTN st5 ?_
  refine own_st (fun _ kk_ => XS.iconst X5.here hx rfl (hb hby d34_23) kk_) ?_
  show gN T5 (mkF m 24 #[rv al, rv e9] [(.int (1 : Int32))])
  refine own_retN X5 hx hlk (t := .boolean) hret (by simp) (hb hby d34_24) (by decide) (by decide) ?_
  show QAD1 Z al e9 d kd mc qa0 h0 n0 (some (.int (nar .boolean (1 : Int32)))) T5.heap _
  exact ⟨rfl, N5, K5, u5_0, u5_1, u5_2, u5_3, u5_4, u5_5, ov⟩
abbrev rRrmAP2 : Room := { frames := 0, cells := 0, slots := 0, locals := 0 }
theorem ef_rmAP2 (m : MethodId) (al : Addr) (e9 : Addr) (d : Addr) : entryFrame m #[(.ref al), (.ref e9), (.ref d), (.int (2 : Int32))] 4 = (mkF m 0 #[rv al, rv e9, rv d, iv (2 : Int32)] []) := by first | (simp [entryFrame, mkF, argsToLocals, Value.category]; done) | rfl
def QAP2 (Z : State) (al : Addr) (e9 : Addr) (d : Addr) (kd : ClassId) (mc : Int32) (qa0 : Addr) (qa1 : Addr) (h0 : Heap) (n0 : Nat) (v_ : Option Value) (h_ : Heap) (L_ : List Loc) : Prop := (v_ = none) ∧ (Fr n0 L_) ∧ (Keep h0 h_ [al, d]) ∧ (Exa Z h_ al "java/util/ArrayList") ∧ (Fld Z h_ al "java/util/ArrayList" "elementData" "[Ljava/lang/Object;" (.ref d)) ∧ (Fld Z h_ al "java/util/ArrayList" "size" "I" (.int (3 : Int32))) ∧ (Fld Z h_ al "java/util/AbstractList" "modCount" "I" (.int mc)) ∧ (Arv Z h_ d kd (.object "java/lang/Object") (10 : Int32) [(.ref qa0), (.ref qa1), (.ref e9), .null, .null, .null, .null, .null, .null, .null] .null) ∧ (Exa Z h_ d "[Ljava/lang/Object;") ∧ (Ovr Z kd "java/lang/Object")
theorem rmAP2 (l : Launch) (Z : State) (a0 : Array Value) (hw : own_T a0 Z) (al : Addr) (e9 : Addr) (d : Addr) (kd : ClassId) (mc : Int32) (qa0 : Addr) (qa1 : Addr) (h0 : Heap) (n0 : Nat) (Z0 : n0 ≤ h0.size) (p_0 : Exa Z h0 e9 "com/example/firm_duties/firmduties/BusinessContext$Pair") (p_1 : Exa Z h0 al "java/util/ArrayList") (p_2 : Fld Z h0 al "java/util/ArrayList" "elementData" "[Ljava/lang/Object;" (.ref d)) (p_3 : Fld Z h0 al "java/util/ArrayList" "size" "I" (.int (2 : Int32))) (p_4 : Fld Z h0 al "java/util/AbstractList" "modCount" "I" (.int mc)) (p_5 : n0 ≤ al) (p_6 : n0 ≤ d) (p_7 : Arv Z h0 d kd (.object "java/lang/Object") (10 : Int32) [(.ref qa0), (.ref qa1), .null, .null, .null, .null, .null, .null, .null, .null] .null) (p_8 : Exa Z h0 d "[Ljava/lang/Object;") (ov : Ovr Z kd "java/lang/Object") (p_10 : al ≠ d) :
    own_Met l yy41 jdk_38_method_24_code 4 none [] rRrmAP2 Z h0 #[(.ref al), (.ref e9), (.ref d), (.int (2 : Int32))] (QAP2 Z al e9 d kd mc qa0 qa1 h0 n0) := by
  refine own_openN pn_35 (own := "java/util/ArrayList") rfl ?_
  intro p e s m below meth c s₁ hx hby hlk hml hret hZ hown hnm X0 e0
  have N0 := Fr.nil n0
  rw [ef_rmAP2 m al e9 d]
  show own_Goes p e below s (QAP2 Z al e9 d kd mc qa0 qa1 h0 n0) rRrmAP2.cells rRrmAP2.slots s₁ (mkF m 0 #[rv al, rv e9, rv d, iv (2 : Int32)] [])
  refine own_st (fun _ kk_ => XS.iloadN X0.here hx rfl (hb hby d35_0) rfl (XS.aloadN X0.here hx rfl (hb hby d35_1) rfl rfl kk_)) ?_
  show gN s₁ (mkF m 2 #[rv al, rv e9, rv d, iv (2 : Int32)] [(.ref d), (.int (2 : Int32))])
  obtain ⟨cl1, Ar1, -, Sz1, Nn1, -, -⟩ := id p_7
  refine own_st (fun _ kk_ => X0.arraylength hx (by rw [e0]; exact Ar1.1) (State.isArrayOf_alike hZ.alike Ar1.2.1) (g := (mkF m 2 #[rv al, rv e9, rv d, iv (2 : Int32)] [(.ref d), (.int (2 : Int32))])) rfl rfl (hb hby d35_2) _ kk_) ?_
  rw [len_of Sz1 Nn1]
  show gN s₁ (mkF m 3 #[rv al, rv e9, rv d, iv (2 : Int32)] [(.int (10 : Int32)), (.int (2 : Int32))])
  refine own_st (fun _ kk_ => XS.icmpYes X0.here hx rfl (pc0 := 3) (pc' := 11) rfl (hb hby d35_3) rfl (XT.ii_ne_t (by decide)) (by decide) (by decide) (XS.aloadN X0.here hx rfl (hb hby d35_11) rfl rfl (XS.iloadN X0.here hx rfl (hb hby d35_12) rfl (XS.aloadN X0.here hx rfl (hb hby d35_13) rfl rfl kk_)))) ?_
  show gN s₁ (mkF m 14 #[rv al, rv e9, rv d, iv (2 : Int32)] [(.ref e9), (.int (2 : Int32)), (.ref d)])
  obtain ⟨cl2, Ar2, q2, Sz2, Nn2, Hh2, Gg2⟩ := id p_7
  obtain ⟨T2, h2, X2, e2, W2, st2⟩ := stR X0 hx hZ e0 Ar2 (j := (2 : Int32)) (inb_of Sz2 ⟨by decide, by decide⟩) rfl (Sto.ofV Ar2 q2 ov (Ins.of_exa p_0 (own_w hw 197 rfl))) (g := (mkF m 14 #[rv al, rv e9, rv d, iv (2 : Int32)] [(.ref e9), (.int (2 : Int32)), (.ref d)])) rfl rfl (hb hby d35_14)
  have V2 : Arv Z h2 d kd (.object "java/lang/Object") (10 : Int32) [(.ref qa0), (.ref qa1), (.ref e9), .null, .null, .null, .null, .null, .null, .null] .null := Arv.set Ar2 q2 Sz2 Nn2 Hh2 Gg2 rfl W2 2 rfl (Nat.le_of_ble_eq_true rfl)
  have f2_0 := p_0.wr W2
  have f2_1 := p_1.wr W2
  have f2_2 := p_2.other W2 (Or.inl p_10)
  have f2_3 := p_3.other W2 (Or.inl p_10)
  have f2_4 := p_4.other W2 (Or.inl p_10)
  have f2_6 := p_8.wr W2
  have Zs2 : n0 ≤ h2.size := Nat.le_trans Z0 (Nat.le_of_eq W2.size.symm)
  have K2 := (Keep.refl h0 [al, d]).wr W2 (Or.inl (List.mem_of_getElem? (i := 1) rfl))
  have N2 := Fr.snoc X2 N0 p_6
  refine own_st st2 ?_
  refine own_st (fun _ kk_ => XS.aloadN X2.here hx rfl (hb hby d35_15) rfl rfl (XS.iloadN X2.here hx rfl (hb hby d35_16) rfl (XS.iconst X2.here hx rfl (hb hby d35_17) (XS.iadd X2.here hx rfl (hb hby d35_18) rfl kk_)))) ?_
  show gN T2 (mkF m 19 #[rv al, rv e9, rv d, iv (2 : Int32)] [(.int (3 : Int32)), (.ref al)])
  obtain ⟨T3, h3, X3, e3, W3, st3⟩ := putF X2 hx hZ hown (host := "") (Or.inl (own_w hw 177 rfl)) Via.refl e2 f2_3 f2_1 (Or.inl (own_w hw 178 rfl)) (own_w hw 143 rfl) (ty := .int) (by decide) rfl rfl (g := (mkF m 19 #[rv al, rv e9, rv d, iv (2 : Int32)] [(.int (3 : Int32)), (.ref al)])) rfl rfl (hb hby d35_19)
  have fw3 : Fld Z h3 al "java/util/ArrayList" "size" "I" (.int (3 : Int32)) := f2_3.same W3
  have f3_0 := f2_0.wr W3
  have f3_1 := f2_1.wr W3
  have f3_2 := f2_2.other W3 (Or.inr (slot_ne (Or.inl (own_w hw 165 rfl)) (Or.inl (own_w hw 178 rfl)) (by decide) (t := (.array (.object "java/lang/Object"))) (t' := .int) (by decide) (by decide)))
  have f3_4 := f2_4.other W3 (Or.inr (slot_ne (Or.inl (own_w hw 162 rfl)) (Or.inl (own_w hw 178 rfl)) (by decide) (t := .int) (t' := .int) (by decide) (by decide)))
  have f3_5 := f2_6.wr W3
  have f3_6 := V2.other W3 (Ne.symm p_10)
  have Zs3 : n0 ≤ h3.size := Nat.le_trans Zs2 (Nat.le_of_eq W3.size.symm)
  have K3 := K2.wr W3 (Or.inl (List.mem_of_getElem? (i := 0) rfl))
  have N3 := Fr.snoc X3 N2 p_5
  refine own_st st3 ?_
  refine own_ret0 X3 hx hlk hret (hb hby d35_22) (by decide) (by decide) ?_
  show QAP2 Z al e9 d kd mc qa0 qa1 h0 n0 none T3.heap _
  rw [e3]
  exact ⟨rfl, N3, K3, f3_1, f3_2, fw3, f3_4, f3_6, f3_5, ov⟩
abbrev rRrmAD2 : Room := { frames := 1, cells := 0, slots := 0, locals := 15 }
theorem ef_rmAD2 (m : MethodId) (al : Addr) (e9 : Addr) : entryFrame m #[(.ref al), (.ref e9)] 2 = (mkF m 0 #[rv al, rv e9] []) := by first | (simp [entryFrame, mkF, argsToLocals, Value.category]; done) | rfl
def QAD2 (Z : State) (al : Addr) (e9 : Addr) (d : Addr) (kd : ClassId) (mc : Int32) (qa0 : Addr) (qa1 : Addr) (h0 : Heap) (n0 : Nat) (v_ : Option Value) (h_ : Heap) (L_ : List Loc) : Prop := (v_ = some (.int (1 : Int32))) ∧ (Fr n0 L_) ∧ (Keep h0 h_ [al, d]) ∧ (Exa Z h_ al "java/util/ArrayList") ∧ (Fld Z h_ al "java/util/ArrayList" "elementData" "[Ljava/lang/Object;" (.ref d)) ∧ (Fld Z h_ al "java/util/ArrayList" "size" "I" (.int (3 : Int32))) ∧ (Fld Z h_ al "java/util/AbstractList" "modCount" "I" (.int (mc + (1 : Int32)))) ∧ (Arv Z h_ d kd (.object "java/lang/Object") (10 : Int32) [(.ref qa0), (.ref qa1), (.ref e9), .null, .null, .null, .null, .null, .null, .null] .null) ∧ (Exa Z h_ d "[Ljava/lang/Object;") ∧ (Ovr Z kd "java/lang/Object")
theorem rmAD2 (l : Launch) (Z : State) (a0 : Array Value) (hw : own_T a0 Z) (al : Addr) (e9 : Addr) (d : Addr) (kd : ClassId) (mc : Int32) (qa0 : Addr) (qa1 : Addr) (h0 : Heap) (n0 : Nat) (Z0 : n0 ≤ h0.size) (p_0 : Exa Z h0 e9 "com/example/firm_duties/firmduties/BusinessContext$Pair") (p_1 : Exa Z h0 al "java/util/ArrayList") (p_2 : Fld Z h0 al "java/util/ArrayList" "elementData" "[Ljava/lang/Object;" (.ref d)) (p_3 : Fld Z h0 al "java/util/ArrayList" "size" "I" (.int (2 : Int32))) (p_4 : Fld Z h0 al "java/util/AbstractList" "modCount" "I" (.int mc)) (p_5 : n0 ≤ al) (p_6 : n0 ≤ d) (p_7 : Arv Z h0 d kd (.object "java/lang/Object") (10 : Int32) [(.ref qa0), (.ref qa1), .null, .null, .null, .null, .null, .null, .null, .null] .null) (p_8 : Exa Z h0 d "[Ljava/lang/Object;") (ov : Ovr Z kd "java/lang/Object") (p_10 : al ≠ d) :
    own_Met l yy42 jdk_38_method_25_code 2 (some .boolean) [] rRrmAD2 Z h0 #[(.ref al), (.ref e9)] (QAD2 Z al e9 d kd mc qa0 qa1 h0 n0) := by
  refine own_openN pn_34 (own := "java/util/ArrayList") rfl ?_
  intro p e s m below meth c s₁ hx hby hlk hml hret hZ hown hnm X0 e0
  have N0 := Fr.nil n0
  rw [ef_rmAD2 m al e9]
  show own_Goes p e below s (QAD2 Z al e9 d kd mc qa0 qa1 h0 n0) rRrmAD2.cells rRrmAD2.slots s₁ (mkF m 0 #[rv al, rv e9] [])
  refine own_st (fun _ kk_ => XS.aloadN X0.here hx rfl (hb hby d34_0) rfl rfl (XS.dup X0.here hx rfl (hb hby d34_1) rfl rfl kk_)) ?_
  show gN s₁ (mkF m 2 #[rv al, rv e9] [(.ref al), (.ref al)])
  obtain ⟨T1, X1, e1, st1⟩ := getF X0 hx hZ hown (host := "") (Or.inl (own_w hw 175 rfl)) (Via.of (own_w hw 176 rfl)) e0 p_4 (g := (mkF m 2 #[rv al, rv e9] [(.ref al), (.ref al)])) rfl rfl (hb hby d34_2)
  refine own_st st1 ?_
  refine own_st (fun _ kk_ => XS.iconst X1.here hx rfl (hb hby d34_5) (XS.iadd X1.here hx rfl (hb hby d34_6) rfl kk_)) ?_
  show gN T1 (mkF m 7 #[rv al, rv e9] [(.int (mc + (1 : Int32))), (.ref al)])
  obtain ⟨T2, h2, X2, e2, W2, st2⟩ := putF X1 hx hZ hown (host := "") (Or.inl (own_w hw 175 rfl)) (Via.of (own_w hw 176 rfl)) e1 p_4 p_1 (Or.inl (own_w hw 162 rfl)) (own_w hw 143 rfl) (ty := .int) (by decide) rfl rfl (g := (mkF m 7 #[rv al, rv e9] [(.int (mc + (1 : Int32))), (.ref al)])) rfl rfl (hb hby d34_7)
  have fw2 : Fld Z h2 al "java/util/AbstractList" "modCount" "I" (.int (mc + (1 : Int32))) := p_4.same W2
  have f2_0 := p_0.wr W2
  have f2_1 := p_1.wr W2
  have f2_2 := p_2.other W2 (Or.inr (slot_ne (Or.inl (own_w hw 165 rfl)) (Or.inl (own_w hw 162 rfl)) (by decide) (t := (.array (.object "java/lang/Object"))) (t' := .int) (by decide) (by decide)))
  have f2_3 := p_3.other W2 (Or.inr (slot_ne (Or.inl (own_w hw 178 rfl)) (Or.inl (own_w hw 162 rfl)) (by decide) (t := .int) (t' := .int) (by decide) (by decide)))
  have f2_5 := p_7.other W2 (Ne.symm p_10)
  have f2_6 := p_8.wr W2
  have Zs2 : n0 ≤ h2.size := Nat.le_trans Z0 (Nat.le_of_eq W2.size.symm)
  have K2 := (Keep.refl h0 [al, d]).wr W2 (Or.inl (List.mem_of_getElem? (i := 0) rfl))
  have N2 := Fr.snoc X2 N0 p_5
  refine own_st st2 ?_
  refine own_st (fun _ kk_ => XS.aloadN X2.here hx rfl (hb hby d34_10) rfl rfl (XS.aloadN X2.here hx rfl (hb hby d34_11) rfl rfl (XS.aloadN X2.here hx rfl (hb hby d34_12) rfl rfl kk_))) ?_
  show gN T2 (mkF m 13 #[rv al, rv e9] [(.ref al), (.ref e9), (.ref al)])
  obtain ⟨T3, X3, e3, st3⟩ := getF X2 hx hZ hown (host := "") (Or.inl (own_w hw 164 rfl)) Via.refl e2 f2_2 (g := (mkF m 13 #[rv al, rv e9] [(.ref al), (.ref e9), (.ref al)])) rfl rfl (hb hby d34_13)
  refine own_st st3 ?_
  refine own_st (fun _ kk_ => XS.aloadN X3.here hx rfl (hb hby d34_16) rfl rfl kk_) ?_
  show gN T3 (mkF m 17 #[rv al, rv e9] [(.ref al), (.ref d), (.ref e9), (.ref al)])
  obtain ⟨T4, X4, e4, st4⟩ := getF X3 hx hZ hown (host := "") (Or.inl (own_w hw 177 rfl)) Via.refl e3 f2_3 (g := (mkF m 17 #[rv al, rv e9] [(.ref al), (.ref d), (.ref e9), (.ref al)])) rfl rfl (hb hby d34_17)
  refine own_st st4 ?_
  obtain ⟨cq5, q5, q5'⟩ := f2_1.cell
  obtain ⟨T5, L5, v5, X5, hQ5, st5⟩ := own_cut (X4.privateBack hx (y := yy41) hown (own_mw hZ hw 179 rfl) (own_mw hZ hw 180 rfl) (own_mw hZ hw 182 rfl) (Cond.privateMethod_at (mvP hZ (own_w hw 181 rfl) (args := #[]))) (own_mw hZ hw 183 rfl) (by decide) (backOf (W := 0) (rmAP2 l Z a0 hw (al) (e9) (d) (kd) ((mc + (1 : Int32))) (qa0) (qa1) h2 n0 Zs2 f2_0 f2_1 f2_2 f2_3 fw2 p_5 p_6 f2_5 f2_6 (by assumption) p_10) hZ (own_w hw 183 rfl) (own_w hw 144 rfl) (by decide) (by decide)) (g := (mkF m 20 #[rv al, rv e9] [(.int (2 : Int32)), (.ref d), (.ref e9), (.ref al)])) rfl (by rw [hml]; rfl) (Steps.refl _) (a := al) (by rw [e4]; exact q5) q5' (argsL := [(.ref e9), (.ref d), (.int (2 : Int32))]) (rest := []) (lenOf pd_27 rfl) rfl (own_bl rfl) (hb hby d34_20) (fun _ _ => ⟨rfl, e4, own_bl rfl, own_bl rfl⟩))
  obtain ⟨rfl, Nq5, Kq5, u5_0, u5_1, u5_2, u5_3, u5_4, u5_5, u5_6⟩ := hQ5
  have N5 := Fr.app N2 Nq5
  have f5_0 := f2_0.keep Kq5
  have f5_1 := f2_1.keep Kq5
  have f5_5 := f2_6.keep Kq5
  have Zs5 : n0 ≤ T5.heap.size := Nat.le_trans Zs2 Kq5.1
  have K5 := K2.trans Kq5 (allS (Or.inl (List.mem_of_getElem? (i := 0) rfl)) (allS (Or.inl (List.mem_of_getElem? (i := 1) rfl)) all0))
  refine own_sTN st5 ?_
  refine own_st (fun _ kk_ => XS.iconst X5.here hx rfl (hb hby d34_23) kk_) ?_
  show gN T5 (mkF m 24 #[rv al, rv e9] [(.int (1 : Int32))])
  refine own_retN X5 hx hlk (t := .boolean) hret (by simp) (hb hby d34_24) (by decide) (by decide) ?_
  show QAD2 Z al e9 d kd mc qa0 qa1 h0 n0 (some (.int (nar .boolean (1 : Int32)))) T5.heap _
  exact ⟨rfl, N5, K5, u5_0, u5_1, u5_2, u5_3, u5_4, u5_5, ov⟩
abbrev rRrm49 : Room := { frames := 0, cells := 0, slots := 0, locals := 0 }
abbrev c49 (n : Nat) (i : ClassFile.Instr) (k : Nat) : Prop := decode jdk_31_method_10_code n = .ok (i, k)
theorem d49_0 : c49 0 (.aload_n 0) 1 := by decide +kernel
theorem d49_1 : c49 1 (.ifnonnull 11) 3 := by decide +kernel
theorem d49_12 : c49 12 (.aload_n 0) 1 := by decide +kernel
theorem d49_13 : c49 13 (.areturn) 1 := by decide +kernel
theorem pn_49 : plainFor yy43 = true := by decide +kernel
theorem ef_rm49 (m : MethodId) (e9 : Addr) : entryFrame m #[(.ref e9)] 1 = (mkF m 0 #[rv e9] []) := by first | (simp [entryFrame, mkF, argsToLocals, Value.category]; done) | rfl
def Q49 (Z : State) (e9 : Addr) (h0 : Heap) (n0 : Nat) (v_ : Option Value) (h_ : Heap) (L_ : List Loc) : Prop := (v_ = some (.ref e9)) ∧ (Fr n0 L_) ∧ (h_ = h0)
theorem rm49 (l : Launch) (Z : State) (a0 : Array Value) (hw : own_T a0 Z) (e9 : Addr) (h0 : Heap) (n0 : Nat) (Z0 : n0 ≤ h0.size) :
    own_Met l yy43 jdk_31_method_10_code 1 (some (.object "java/lang/Object")) [] rRrm49 Z h0 #[(.ref e9)] (Q49 Z e9 h0 n0) := by
  refine own_openN pn_49 (own := "java/util/Objects") rfl ?_
  intro p e s m below meth c s₁ hx hby hlk hml hret hZ hown hnm X0 e0
  have N0 := Fr.nil n0
  rw [ef_rm49 m e9]
  show own_Goes p e below s (Q49 Z e9 h0 n0) rRrm49.cells rRrm49.slots s₁ (mkF m 0 #[rv e9] [])
  refine own_st (fun _ kk_ => XS.aloadN X0.here hx rfl (hb hby d49_0) rfl rfl (XS.ifnonnullYes X0.here hx rfl (pc0 := 1) (pc' := 12) rfl (hb hby d49_1) rfl (by decide) (by decide) (XS.aloadN X0.here hx rfl (hb hby d49_12) rfl rfl kk_))) ?_
  show gN s₁ (mkF m 13 #[rv e9] [(.ref e9)])
  refine own_retA X0 hx hlk rfl hret rfl (hb hby d49_13) (by decide) (by decide) ?_
  show Q49 Z e9 h0 n0 (some (.ref e9)) s₁.heap _
  rw [e0]
  exact ⟨rfl, N0, rfl⟩
abbrev rRrm50 : Room := { frames := 0, cells := 0, slots := 0, locals := 0 }
abbrev c50 (n : Nat) (i : ClassFile.Instr) (k : Nat) : Prop := decode jdk_44_method_4_code n = .ok (i, k)
theorem d50_0 : c50 0 (.iconst 0) 1 := by decide +kernel
theorem d50_1 : c50 1 (.ireturn) 1 := by decide +kernel
theorem pn_50 : plainFor yy44 = true := by decide +kernel
theorem ef_rm50 (m : MethodId) (li : Addr) : entryFrame m #[(.ref li)] 1 = (mkF m 0 #[rv li] []) := by first | (simp [entryFrame, mkF, argsToLocals, Value.category]; done) | rfl
def Q50 (Z : State) (h0 : Heap) (n0 : Nat) (v_ : Option Value) (h_ : Heap) (L_ : List Loc) : Prop := (v_ = some (.int (0 : Int32))) ∧ (Fr n0 L_) ∧ (h_ = h0)
theorem rm50 (l : Launch) (Z : State) (a0 : Array Value) (hw : own_T a0 Z) (li : Addr) (h0 : Heap) (n0 : Nat) (Z0 : n0 ≤ h0.size) :
    own_Met l yy44 jdk_44_method_4_code 1 (some .boolean) [] rRrm50 Z h0 #[(.ref li)] (Q50 Z h0 n0) := by
  refine own_openN pn_50 (own := "java/util/ImmutableCollections$List12") rfl ?_
  intro p e s m below meth c s₁ hx hby hlk hml hret hZ hown hnm X0 e0
  have N0 := Fr.nil n0
  rw [ef_rm50 m li]
  show own_Goes p e below s (Q50 Z h0 n0) rRrm50.cells rRrm50.slots s₁ (mkF m 0 #[rv li] [])
  refine own_st (fun _ kk_ => XS.iconst X0.here hx rfl (hb hby d50_0) kk_) ?_
  show gN s₁ (mkF m 1 #[rv li] [(.int (0 : Int32))])
  refine own_retN X0 hx hlk (t := .boolean) hret (by simp) (hb hby d50_1) (by decide) (by decide) ?_
  show Q50 Z h0 n0 (some (.int (nar .boolean (0 : Int32)))) s₁.heap _
  rw [e0]
  exact ⟨rfl, N0, rfl⟩
def own_l (Z : State) (h : Heap) (k0 : Nat) (li : Addr) (n : Int32) (q0 q1 q2 em : Addr) : Prop := (n = 1 ∧ Exa Z h li "java/util/ImmutableCollections$List12" ∧ Fld Z h li "java/util/ImmutableCollections$List12" "e0" "Ljava/lang/Object;" (.ref q0) ∧ Fld Z h li "java/util/ImmutableCollections$List12" "e1" "Ljava/lang/Object;" (.ref em)) ∨ (n = 2 ∧ Exa Z h li "java/util/ImmutableCollections$List12" ∧ Fld Z h li "java/util/ImmutableCollections$List12" "e0" "Ljava/lang/Object;" (.ref q0) ∧ Fld Z h li "java/util/ImmutableCollections$List12" "e1" "Ljava/lang/Object;" (.ref q1) ∧ q1 ≠ em) ∨ (n = 3 ∧ ∃ d k, Exa Z h li "java/util/ImmutableCollections$ListN" ∧ Fld Z h li "java/util/ImmutableCollections$ListN" "elements" "[Ljava/lang/Object;" (.ref d) ∧ Arv Z h d k (.object "java/lang/Object") (3 : Int32) [(.ref q0), (.ref q1), (.ref q2)] .null ∧ k0 ≤ d)
theorem own_l.keep {Z : State} {h h' : Heap} {k0 : Nat} {li : Addr} {n : Int32} {q0 q1 q2 em : Addr} (F : own_l Z h k0 li n q0 q1 q2 em) (K : Keep h h' []) : own_l Z h' k0 li n q0 q1 q2 em := by
  rcases F with ⟨h1, h2, h3, h4⟩ | ⟨h1, h2, h3, h4, h5⟩ | ⟨h1, d, k, h2, h3, h4, h5⟩
  · exact Or.inl ⟨h1, h2.keep K, h3.keep K nin0, h4.keep K nin0⟩
  · exact Or.inr (Or.inl ⟨h1, h2.keep K, h3.keep K nin0, h4.keep K nin0, h5⟩)
  · exact Or.inr (Or.inr ⟨h1, d, k, h2.keep K, h3.keep K nin0, h4.keep K nin0, h5⟩)
theorem own_l.cast {Z : State} {h : Heap} {k0 : Nat} {li : Addr} {n m : Int32} {q0 q1 q2 em : Addr} (e : m = n) (F : own_l Z h k0 li n q0 q1 q2 em) : own_l Z h k0 li m q0 q1 q2 em := by rw [e]; exact F
theorem own_l.mono {Z : State} {h : Heap} {k0 k1 : Nat} {li : Addr} {n : Int32} {q0 q1 q2 em : Addr} (g : k1 ≤ k0) (F : own_l Z h k0 li n q0 q1 q2 em) : own_l Z h k1 li n q0 q1 q2 em := by
  rcases F with H | H | ⟨h1, d, k, h2, h3, h4, h5⟩
  · exact Or.inl H
  · exact Or.inr (Or.inl H)
  · exact Or.inr (Or.inr ⟨h1, d, k, h2, h3, h4, Nat.le_trans g h5⟩)
def own_v (n : Int32) (vs : List Value) (q0 q1 q2 : Addr) : Prop := (n = 1 ∧ vs = [.ref q0, .null, .null, .null, .null, .null, .null, .null, .null, .null]) ∨ (n = 2 ∧ vs = [.ref q0, .ref q1, .null, .null, .null, .null, .null, .null, .null, .null]) ∨ (n = 3 ∧ vs = [.ref q0, .ref q1, .ref q2, .null, .null, .null, .null, .null, .null, .null])
def own_u (n : Int32) (vs : List Value) (q0 q1 q2 : Addr) : Prop := (n = 1 ∧ vs = [.ref q0]) ∨ (n = 2 ∧ vs = [.ref q0, .ref q1]) ∨ (n = 3 ∧ vs = [.ref q0, .ref q1, .ref q2])
theorem own_v.nz {n : Int32} {vs : List Value} {q0 q1 q2 : Addr} (h : own_v n vs q0 q1 q2) : ¬ n = 0 := by rcases h with ⟨rfl, -⟩ | ⟨rfl, -⟩ | ⟨rfl, -⟩ <;> decide
abbrev rRrm44 : Room := { frames := 1, cells := 1, slots := 3, locals := 18 }
abbrev c44 (n : Nat) (i : ClassFile.Instr) (k : Nat) : Prop := decode jdk_65_method_120_code n = .ok (i, k)
theorem d44_0 : c44 0 (.aload_n 2) 1 := by decide +kernel
theorem d44_1 : c44 1 (.ldc 110) 2 := by decide +kernel
theorem d44_3 : c44 3 (.if_acmp .ne 10) 3 := by decide +kernel
theorem d44_6 : c44 6 (.iload_n 1) 1 := by decide +kernel
theorem d44_7 : c44 7 (.anewarray 2) 3 := by decide +kernel
theorem d44_10 : c44 10 (.goto 14) 3 := by decide +kernel
theorem d44_24 : c44 24 (.astore_n 3) 1 := by decide +kernel
theorem d44_25 : c44 25 (.aload_n 0) 1 := by decide +kernel
theorem d44_26 : c44 26 (.iconst 0) 1 := by decide +kernel
theorem d44_27 : c44 27 (.aload_n 3) 1 := by decide +kernel
theorem d44_28 : c44 28 (.iconst 0) 1 := by decide +kernel
theorem d44_29 : c44 29 (.aload_n 0) 1 := by decide +kernel
theorem d44_30 : c44 30 (.arraylength) 1 := by decide +kernel
theorem d44_31 : c44 31 (.iload_n 1) 1 := by decide +kernel
theorem d44_32 : c44 32 (.invokestatic 304) 3 := by decide +kernel
theorem d44_35 : c44 35 (.invokestatic 150) 3 := by decide +kernel
theorem d44_38 : c44 38 (.aload_n 3) 1 := by decide +kernel
theorem d44_39 : c44 39 (.areturn) 1 := by decide +kernel
theorem pn_44 : plainFor yy45 = true := by decide +kernel
theorem ef_rm44 (m : MethodId) (d : Addr) (n9 : Int32) (mo : Addr) : entryFrame m #[(.ref d), (.int n9), (.ref mo)] 4 = (mkF m 0 #[rv d, iv n9, rv mo, oU] []) := by first | (simp [entryFrame, mkF, argsToLocals, Value.category]; done) | rfl
def Q44 (Z : State) (n9 : Int32) (qa0 : Addr) (qa1 : Addr) (qa2 : Addr) (h0 : Heap) (n0 : Nat) (v_ : Option Value) (h_ : Heap) (L_ : List Loc) : Prop := ∃ y : Addr, ∃ ky : ClassId, ∃ vs9 : List Value, (v_ = some (.ref y)) ∧ (Fr n0 L_) ∧ (Keep h0 h_ []) ∧ (h0.size ≤ y) ∧ (Arv Z h_ y ky (.object "java/lang/Object") n9 vs9 .null) ∧ (Exa Z h_ y "[Ljava/lang/Object;") ∧ (own_u n9 vs9 qa0 qa1 qa2)
theorem rm44 (l : Launch) (Z : State) (a0 : Array Value) (hw : own_T a0 Z) (d : Addr) (n9 : Int32) (mo : Addr) (kd : ClassId) (vs1 : List Value) (qa0 : Addr) (qa1 : Addr) (qa2 : Addr) (h0 : Heap) (n0 : Nat) (Z0 : n0 ≤ h0.size) (p_0 : Arv Z h0 d kd (.object "java/lang/Object") (10 : Int32) vs1 .null) (p_1 : Exa Z h0 d "[Ljava/lang/Object;") (p_2 : Exa Z h0 qa0 "com/example/firm_duties/firmduties/BusinessContext$Pair") (p_3 : Exa Z h0 qa1 "com/example/firm_duties/firmduties/BusinessContext$Pair") (p_4 : Exa Z h0 qa2 "com/example/firm_duties/firmduties/BusinessContext$Pair") (hmir : (Jvm.Term.mirror "[Ljava/lang/Object;").eval a0 Z none [] Z = some (.ref mo)) (hv : own_v n9 vs1 qa0 qa1 qa2) :
    own_Met l yy45 jdk_65_method_120_code 4 (some (.array (.object "java/lang/Object"))) [] rRrm44 Z h0 #[(.ref d), (.int n9), (.ref mo)] (Q44 Z n9 qa0 qa1 qa2 h0 n0) := by
  refine own_openN pn_44 (own := "java/util/Arrays") rfl ?_
  intro p e s m below meth c s₁ hx hby hlk hml hret hZ hown hnm X0 e0
  have N0 := Fr.nil n0
  rw [ef_rm44 m d n9 mo]
  show own_Goes p e below s (Q44 Z n9 qa0 qa1 qa2 h0 n0) rRrm44.cells rRrm44.slots s₁ (mkF m 0 #[rv d, iv n9, rv mo, oU] [])
  rcases hv with ⟨rfl, rfl⟩ | ⟨rfl, rfl⟩ | ⟨rfl, rfl⟩
  · show gN s₁ (mkF m 0 #[rv d, iv (1 : Int32), rv mo, oU] [])
    refine own_st (fun _ kk_ => XS.aloadN X0.here hx rfl (hb hby d44_0) rfl rfl kk_) ?_
    show gN s₁ (mkF m 1 #[rv d, iv (1 : Int32), rv mo, oU] [(.ref mo)])
    obtain ⟨vm1, X1, st1⟩ := X0.ldcMirror hx hown (own_mw hZ hw 248 rfl) (Jvm.Free.ULB.mirror_move hZ.alike hmir) (g := (mkF m 1 #[rv d, iv (1 : Int32), rv mo, oU] [(.ref mo)])) rfl (hb hby d44_1)
    obtain ⟨T1, hT1⟩ : ∃ z, z = s₁.setVm vm1 := ⟨_, rfl⟩
    rw [← hT1] at X1 st1
    have e1 : T1.heap = h0 := by rw [hT1]; exact e0
    refine own_st st1 ?_
    refine own_st (fun _ kk_ => XT.acmpNo X1.here hx rfl (hb hby d44_3) rfl rfl rfl (XT.aa_ne_f rfl) (XS.iloadN X1.here hx rfl (hb hby d44_6) rfl kk_)) ?_
    show gN T1 (mkF m 7 #[rv d, iv (1 : Int32), rv mo, oU] [(.int (1 : Int32))])
    obtain ⟨T2, h2, k2, X2, e2, E2, A2, O2, Ea2, st2⟩ := own_newR X1 hx hZ hown (own_w hw 249 rfl) (own_w hw 196 rfl) (ad := "[Ljava/lang/Object;") rfl e1 (g := (mkF m 7 #[rv d, iv (1 : Int32), rv mo, oU] [(.int (1 : Int32))])) rfl (hb hby d44_7) rfl (by decide) (cap := 1) (by decide) (by decide) (by decide) (by decide)
    obtain ⟨b2, gx2⟩ : ∃ z, z = h0.size := ⟨_, rfl⟩
    rw [← gx2] at A2 Ea2 st2
    have f2_0 := p_0.ext E2
    have f2_1 := p_1.ext E2
    have f2_2 := p_2.ext E2
    have f2_3 := p_3.ext E2
    have f2_4 := p_4.ext E2
    have Zs2 : n0 ≤ h2.size := Nat.le_trans Z0 E2.1
    have K2 := (Keep.refl h0 []).ext E2
    have V2 : Arv Z h2 b2 k2 (.object "java/lang/Object") (1 : Int32) [.null] .null := (Arv.new A2 (by decide)).pad (pad_rep [] .null 1)
    refine own_st st2 ?_
    refine own_st (fun _ kk_ => XS.goto X2.here hx rfl (pc0 := 10) (pc' := 24) rfl (hb hby d44_10) (by decide) (by decide) (XS.astoreN X2.here hx rfl (hb hby d44_24) rfl rfl (l' := #[rv d, iv (1 : Int32), rv mo, rv b2]) rfl (XS.aloadN X2.here hx rfl (hb hby d44_25) rfl rfl (XS.iconst X2.here hx rfl (hb hby d44_26) (XS.aloadN X2.here hx rfl (hb hby d44_27) rfl rfl (XS.iconst X2.here hx rfl (hb hby d44_28) (XS.aloadN X2.here hx rfl (hb hby d44_29) rfl rfl kk_))))))) ?_
    show gN T2 (mkF m 30 #[rv d, iv (1 : Int32), rv mo, rv b2] [(.ref d), (.int (0 : Int32)), (.ref b2), (.int (0 : Int32)), (.ref d)])
    obtain ⟨cl3, Ar3, -, Sz3, Nn3, -, -⟩ := id f2_0
    refine own_st (fun _ kk_ => X2.arraylength hx (by rw [e2]; exact Ar3.1) (State.isArrayOf_alike hZ.alike Ar3.2.1) (g := (mkF m 30 #[rv d, iv (1 : Int32), rv mo, rv b2] [(.ref d), (.int (0 : Int32)), (.ref b2), (.int (0 : Int32)), (.ref d)])) rfl rfl (hb hby d44_30) _ kk_) ?_
    rw [len_of Sz3 Nn3]
    show gN T2 (mkF m 31 #[rv d, iv (1 : Int32), rv mo, rv b2] [(.int (10 : Int32)), (.int (0 : Int32)), (.ref b2), (.int (0 : Int32)), (.ref d)])
    refine own_st (fun _ kk_ => XS.iloadN X2.here hx rfl (hb hby d44_31) rfl kk_) ?_
    show gN T2 (mkF m 32 #[rv d, iv (1 : Int32), rv mo, rv b2] [(.int (1 : Int32)), (.int (10 : Int32)), (.int (0 : Int32)), (.ref b2), (.int (0 : Int32)), (.ref d)])
    obtain ⟨T4, L4, v4, X4, hQ4, st4⟩ := own_cutA (Jvm.LawKit.callS X2 hx (y := yy4) hown (own_mw hZ hw 250 rfl) (own_mw hZ hw 132 rfl) (own_mw hZ hw 129 rfl) (own_mw hZ hw 133 rfl) (by decide) (backOf (W := 4) (rmnB l Z a0 hw ((10 : Int32)) ((1 : Int32)) h2 n0 Zs2 (by decide)) hZ (own_w hw 133 rfl) (own_w hw 129 rfl) (by decide) (by decide)) (g := (mkF m 32 #[rv d, iv (1 : Int32), rv mo, rv b2] [(.int (1 : Int32)), (.int (10 : Int32)), (.int (0 : Int32)), (.ref b2), (.int (0 : Int32)), (.ref d)])) rfl (by rw [hml]; rfl) (argsL := [(.int (10 : Int32)), (.int (1 : Int32))]) (rest := [(.int (0 : Int32)), (.ref b2), (.int (0 : Int32)), (.ref d)]) (lenOf pd_7 rfl) rfl (own_bl rfl) (hb hby d44_32) (fun _ _ => ⟨rfl, e2, own_bl rfl, own_bl rfl⟩))
    obtain ⟨rfl, Nq4, eq4⟩ := hQ4
    have N4 := Fr.app N0 Nq4
    refine own_st st4 ?_
    obtain ⟨cy5, Ay5, qy5, -⟩ := id V2
    have gg2 := Nat.le_trans Z0 (Nat.le_of_eq gx2.symm)
    obtain ⟨T5, h5, L5, X5, e5, N5, Kp5, A5, st5⟩ := cpA X4 hx hZ hown (own_w hw 251 rfl) (own_w hw 254 rfl) (own_w hw 252 rfl) (own_w hw 253 rfl) eq4 f2_0 V2 (us := [(.ref qa0)]) (Or.inr ⟨rfl, rfl, ⟨Sto.ofV Ay5 qy5 O2 (Ins.of_exa f2_2 (own_w hw 197 rfl)), trivial⟩⟩) (by decide) (by decide) (by decide) (by decide) (by decide) rfl (Nat.le_of_ble_eq_true rfl) N4 gg2 (g := (mkF m 35 #[rv d, iv (1 : Int32), rv mo, rv b2] [(.int (1 : Int32)), (.int (0 : Int32)), (.ref b2), (.int (0 : Int32)), (.ref d)])) rfl (by rw [hml]; rfl) (rest := []) rfl (hb hby d44_35) (by decide) (W := 0) (by show 2 * 0 + _ ≤ _; exact Nat.le_of_eq rfl) (by decide)
    have n2_d := own_nl p_0.lt gx2
    have f5_0 := f2_0.keep Kp5 (ninS n2_d nin0)
    have f5_1 := f2_1.keep Kp5
    have f5_2 := f2_2.keep Kp5
    have f5_3 := f2_3.keep Kp5
    have f5_4 := f2_4.keep Kp5
    have f5_5 := Ea2.keep Kp5
    have Zs5 : n0 ≤ h5.size := Nat.le_trans Zs2 Kp5.1
    have sz2 := Nat.le_trans (Keep.refl h0 []).1 (Nat.le_of_eq gx2.symm)
    have K5 := K2.trans Kp5 (allS (Or.inr sz2) all0)
    have V5 : Arv Z h5 b2 k2 (.object "java/lang/Object") (1 : Int32) [(.ref qa0)] .null := A5
    refine own_st st5 ?_
    refine own_st (fun _ kk_ => XS.aloadN X5.here hx rfl (hb hby d44_38) rfl rfl kk_) ?_
    show gN T5 (mkF m 39 #[rv d, iv (1 : Int32), rv mo, rv b2] [(.ref b2)])
    refine own_retA X5 hx hlk rfl hret rfl (hb hby d44_39) (by decide) (by decide) ?_
    show Q44 Z (1 : Int32) qa0 qa1 qa2 h0 n0 (some (.ref b2)) T5.heap _
    rw [e5]
    exact ⟨b2, k2, [(.ref qa0)], rfl, N5, K5, sz2, V5, f5_5, (Or.inl ⟨rfl, rfl⟩)⟩
  · show gN s₁ (mkF m 0 #[rv d, iv (2 : Int32), rv mo, oU] [])
    refine own_st (fun _ kk_ => XS.aloadN X0.here hx rfl (hb hby d44_0) rfl rfl kk_) ?_
    show gN s₁ (mkF m 1 #[rv d, iv (2 : Int32), rv mo, oU] [(.ref mo)])
    obtain ⟨vm6, X6, st6⟩ := X0.ldcMirror hx hown (own_mw hZ hw 248 rfl) (Jvm.Free.ULB.mirror_move hZ.alike hmir) (g := (mkF m 1 #[rv d, iv (2 : Int32), rv mo, oU] [(.ref mo)])) rfl (hb hby d44_1)
    obtain ⟨T6, hT6⟩ : ∃ z, z = s₁.setVm vm6 := ⟨_, rfl⟩
    rw [← hT6] at X6 st6
    have e6 : T6.heap = h0 := by rw [hT6]; exact e0
    refine own_st st6 ?_
    refine own_st (fun _ kk_ => XT.acmpNo X6.here hx rfl (hb hby d44_3) rfl rfl rfl (XT.aa_ne_f rfl) (XS.iloadN X6.here hx rfl (hb hby d44_6) rfl kk_)) ?_
    show gN T6 (mkF m 7 #[rv d, iv (2 : Int32), rv mo, oU] [(.int (2 : Int32))])
    obtain ⟨T7, h7, k7, X7, e7, E7, A7, O7, Ea7, st7⟩ := own_newR X6 hx hZ hown (own_w hw 249 rfl) (own_w hw 196 rfl) (ad := "[Ljava/lang/Object;") rfl e6 (g := (mkF m 7 #[rv d, iv (2 : Int32), rv mo, oU] [(.int (2 : Int32))])) rfl (hb hby d44_7) rfl (by decide) (cap := 2) (by decide) (by decide) (by decide) (by decide)
    obtain ⟨b7, gx7⟩ : ∃ z, z = h0.size := ⟨_, rfl⟩
    rw [← gx7] at A7 Ea7 st7
    have f7_0 := p_0.ext E7
    have f7_1 := p_1.ext E7
    have f7_2 := p_2.ext E7
    have f7_3 := p_3.ext E7
    have f7_4 := p_4.ext E7
    have Zs7 : n0 ≤ h7.size := Nat.le_trans Z0 E7.1
    have K7 := (Keep.refl h0 []).ext E7
    have V7 : Arv Z h7 b7 k7 (.object "java/lang/Object") (2 : Int32) [.null, .null] .null := (Arv.new A7 (by decide)).pad (pad_rep [] .null 2)
    refine own_st st7 ?_
    refine own_st (fun _ kk_ => XS.goto X7.here hx rfl (pc0 := 10) (pc' := 24) rfl (hb hby d44_10) (by decide) (by decide) (XS.astoreN X7.here hx rfl (hb hby d44_24) rfl rfl (l' := #[rv d, iv (2 : Int32), rv mo, rv b7]) rfl (XS.aloadN X7.here hx rfl (hb hby d44_25) rfl rfl (XS.iconst X7.here hx rfl (hb hby d44_26) (XS.aloadN X7.here hx rfl (hb hby d44_27) rfl rfl (XS.iconst X7.here hx rfl (hb hby d44_28) (XS.aloadN X7.here hx rfl (hb hby d44_29) rfl rfl kk_))))))) ?_
    show gN T7 (mkF m 30 #[rv d, iv (2 : Int32), rv mo, rv b7] [(.ref d), (.int (0 : Int32)), (.ref b7), (.int (0 : Int32)), (.ref d)])
    obtain ⟨cl8, Ar8, -, Sz8, Nn8, -, -⟩ := id f7_0
    refine own_st (fun _ kk_ => X7.arraylength hx (by rw [e7]; exact Ar8.1) (State.isArrayOf_alike hZ.alike Ar8.2.1) (g := (mkF m 30 #[rv d, iv (2 : Int32), rv mo, rv b7] [(.ref d), (.int (0 : Int32)), (.ref b7), (.int (0 : Int32)), (.ref d)])) rfl rfl (hb hby d44_30) _ kk_) ?_
    rw [len_of Sz8 Nn8]
    show gN T7 (mkF m 31 #[rv d, iv (2 : Int32), rv mo, rv b7] [(.int (10 : Int32)), (.int (0 : Int32)), (.ref b7), (.int (0 : Int32)), (.ref d)])
    refine own_st (fun _ kk_ => XS.iloadN X7.here hx rfl (hb hby d44_31) rfl kk_) ?_
    show gN T7 (mkF m 32 #[rv d, iv (2 : Int32), rv mo, rv b7] [(.int (2 : Int32)), (.int (10 : Int32)), (.int (0 : Int32)), (.ref b7), (.int (0 : Int32)), (.ref d)])
    obtain ⟨T9, L9, v9, X9, hQ9, st9⟩ := own_cutA (Jvm.LawKit.callS X7 hx (y := yy4) hown (own_mw hZ hw 250 rfl) (own_mw hZ hw 132 rfl) (own_mw hZ hw 129 rfl) (own_mw hZ hw 133 rfl) (by decide) (backOf (W := 4) (rmnB l Z a0 hw ((10 : Int32)) ((2 : Int32)) h7 n0 Zs7 (by decide)) hZ (own_w hw 133 rfl) (own_w hw 129 rfl) (by decide) (by decide)) (g := (mkF m 32 #[rv d, iv (2 : Int32), rv mo, rv b7] [(.int (2 : Int32)), (.int (10 : Int32)), (.int (0 : Int32)), (.ref b7), (.int (0 : Int32)), (.ref d)])) rfl (by rw [hml]; rfl) (argsL := [(.int (10 : Int32)), (.int (2 : Int32))]) (rest := [(.int (0 : Int32)), (.ref b7), (.int (0 : Int32)), (.ref d)]) (lenOf pd_7 rfl) rfl (own_bl rfl) (hb hby d44_32) (fun _ _ => ⟨rfl, e7, own_bl rfl, own_bl rfl⟩))
    obtain ⟨rfl, Nq9, eq9⟩ := hQ9
    have N9 := Fr.app N0 Nq9
    refine own_st st9 ?_
    obtain ⟨cy10, Ay10, qy10, -⟩ := id V7
    have gg7 := Nat.le_trans Z0 (Nat.le_of_eq gx7.symm)
    obtain ⟨T10, h10, L10, X10, e10, N10, Kp10, A10, st10⟩ := cpA X9 hx hZ hown (own_w hw 251 rfl) (own_w hw 254 rfl) (own_w hw 252 rfl) (own_w hw 253 rfl) eq9 f7_0 V7 (us := [(.ref qa0), (.ref qa1)]) (Or.inr ⟨rfl, rfl, ⟨Sto.ofV Ay10 qy10 O7 (Ins.of_exa f7_2 (own_w hw 197 rfl)), ⟨Sto.ofV Ay10 qy10 O7 (Ins.of_exa f7_3 (own_w hw 197 rfl)), trivial⟩⟩⟩) (by decide) (by decide) (by decide) (by decide) (by decide) rfl (Nat.le_of_ble_eq_true rfl) N9 gg7 (g := (mkF m 35 #[rv d, iv (2 : Int32), rv mo, rv b7] [(.int (2 : Int32)), (.int (0 : Int32)), (.ref b7), (.int (0 : Int32)), (.ref d)])) rfl (by rw [hml]; rfl) (rest := []) rfl (hb hby d44_35) (by decide) (W := 0) (by show 2 * 0 + _ ≤ _; exact Nat.le_of_eq rfl) (by decide)
    have n7_d := own_nl p_0.lt gx7
    have f10_0 := f7_0.keep Kp10 (ninS n7_d nin0)
    have f10_1 := f7_1.keep Kp10
    have f10_2 := f7_2.keep Kp10
    have f10_3 := f7_3.keep Kp10
    have f10_4 := f7_4.keep Kp10
    have f10_5 := Ea7.keep Kp10
    have Zs10 : n0 ≤ h10.size := Nat.le_trans Zs7 Kp10.1
    have sz7 := Nat.le_trans (Keep.refl h0 []).1 (Nat.le_of_eq gx7.symm)
    have K10 := K7.trans Kp10 (allS (Or.inr sz7) all0)
    have V10 : Arv Z h10 b7 k7 (.object "java/lang/Object") (2 : Int32) [(.ref qa0), (.ref qa1)] .null := A10
    refine own_st st10 ?_
    refine own_st (fun _ kk_ => XS.aloadN X10.here hx rfl (hb hby d44_38) rfl rfl kk_) ?_
    show gN T10 (mkF m 39 #[rv d, iv (2 : Int32), rv mo, rv b7] [(.ref b7)])
    refine own_retA X10 hx hlk rfl hret rfl (hb hby d44_39) (by decide) (by decide) ?_
    show Q44 Z (2 : Int32) qa0 qa1 qa2 h0 n0 (some (.ref b7)) T10.heap _
    rw [e10]
    exact ⟨b7, k7, [(.ref qa0), (.ref qa1)], rfl, N10, K10, sz7, V10, f10_5, (Or.inr (Or.inl ⟨rfl, rfl⟩))⟩
  · show gN s₁ (mkF m 0 #[rv d, iv (3 : Int32), rv mo, oU] [])
    refine own_st (fun _ kk_ => XS.aloadN X0.here hx rfl (hb hby d44_0) rfl rfl kk_) ?_
    show gN s₁ (mkF m 1 #[rv d, iv (3 : Int32), rv mo, oU] [(.ref mo)])
    obtain ⟨vm11, X11, st11⟩ := X0.ldcMirror hx hown (own_mw hZ hw 248 rfl) (Jvm.Free.ULB.mirror_move hZ.alike hmir) (g := (mkF m 1 #[rv d, iv (3 : Int32), rv mo, oU] [(.ref mo)])) rfl (hb hby d44_1)
    obtain ⟨T11, hT11⟩ : ∃ z, z = s₁.setVm vm11 := ⟨_, rfl⟩
    rw [← hT11] at X11 st11
    have e11 : T11.heap = h0 := by rw [hT11]; exact e0
    refine own_st st11 ?_
    refine own_st (fun _ kk_ => XT.acmpNo X11.here hx rfl (hb hby d44_3) rfl rfl rfl (XT.aa_ne_f rfl) (XS.iloadN X11.here hx rfl (hb hby d44_6) rfl kk_)) ?_
    show gN T11 (mkF m 7 #[rv d, iv (3 : Int32), rv mo, oU] [(.int (3 : Int32))])
    obtain ⟨T12, h12, k12, X12, e12, E12, A12, O12, Ea12, st12⟩ := own_newR X11 hx hZ hown (own_w hw 249 rfl) (own_w hw 196 rfl) (ad := "[Ljava/lang/Object;") rfl e11 (g := (mkF m 7 #[rv d, iv (3 : Int32), rv mo, oU] [(.int (3 : Int32))])) rfl (hb hby d44_7) rfl (by decide) (cap := 3) (by decide) (by decide) (by decide) (by decide)
    obtain ⟨b12, gx12⟩ : ∃ z, z = h0.size := ⟨_, rfl⟩
    rw [← gx12] at A12 Ea12 st12
    have f12_0 := p_0.ext E12
    have f12_1 := p_1.ext E12
    have f12_2 := p_2.ext E12
    have f12_3 := p_3.ext E12
    have f12_4 := p_4.ext E12
    have Zs12 : n0 ≤ h12.size := Nat.le_trans Z0 E12.1
    have K12 := (Keep.refl h0 []).ext E12
    have V12 : Arv Z h12 b12 k12 (.object "java/lang/Object") (3 : Int32) [.null, .null, .null] .null := (Arv.new A12 (by decide)).pad (pad_rep [] .null 3)
    refine own_st st12 ?_
    refine own_st (fun _ kk_ => XS.goto X12.here hx rfl (pc0 := 10) (pc' := 24) rfl (hb hby d44_10) (by decide) (by decide) (XS.astoreN X12.here hx rfl (hb hby d44_24) rfl rfl (l' := #[rv d, iv (3 : Int32), rv mo, rv b12]) rfl (XS.aloadN X12.here hx rfl (hb hby d44_25) rfl rfl (XS.iconst X12.here hx rfl (hb hby d44_26) (XS.aloadN X12.here hx rfl (hb hby d44_27) rfl rfl (XS.iconst X12.here hx rfl (hb hby d44_28) (XS.aloadN X12.here hx rfl (hb hby d44_29) rfl rfl kk_))))))) ?_
    show gN T12 (mkF m 30 #[rv d, iv (3 : Int32), rv mo, rv b12] [(.ref d), (.int (0 : Int32)), (.ref b12), (.int (0 : Int32)), (.ref d)])
    obtain ⟨cl13, Ar13, -, Sz13, Nn13, -, -⟩ := id f12_0
    refine own_st (fun _ kk_ => X12.arraylength hx (by rw [e12]; exact Ar13.1) (State.isArrayOf_alike hZ.alike Ar13.2.1) (g := (mkF m 30 #[rv d, iv (3 : Int32), rv mo, rv b12] [(.ref d), (.int (0 : Int32)), (.ref b12), (.int (0 : Int32)), (.ref d)])) rfl rfl (hb hby d44_30) _ kk_) ?_
    rw [len_of Sz13 Nn13]
    show gN T12 (mkF m 31 #[rv d, iv (3 : Int32), rv mo, rv b12] [(.int (10 : Int32)), (.int (0 : Int32)), (.ref b12), (.int (0 : Int32)), (.ref d)])
    refine own_st (fun _ kk_ => XS.iloadN X12.here hx rfl (hb hby d44_31) rfl kk_) ?_
    show gN T12 (mkF m 32 #[rv d, iv (3 : Int32), rv mo, rv b12] [(.int (3 : Int32)), (.int (10 : Int32)), (.int (0 : Int32)), (.ref b12), (.int (0 : Int32)), (.ref d)])
    obtain ⟨T14, L14, v14, X14, hQ14, st14⟩ := own_cutA (Jvm.LawKit.callS X12 hx (y := yy4) hown (own_mw hZ hw 250 rfl) (own_mw hZ hw 132 rfl) (own_mw hZ hw 129 rfl) (own_mw hZ hw 133 rfl) (by decide) (backOf (W := 4) (rmnB l Z a0 hw ((10 : Int32)) ((3 : Int32)) h12 n0 Zs12 (by decide)) hZ (own_w hw 133 rfl) (own_w hw 129 rfl) (by decide) (by decide)) (g := (mkF m 32 #[rv d, iv (3 : Int32), rv mo, rv b12] [(.int (3 : Int32)), (.int (10 : Int32)), (.int (0 : Int32)), (.ref b12), (.int (0 : Int32)), (.ref d)])) rfl (by rw [hml]; rfl) (argsL := [(.int (10 : Int32)), (.int (3 : Int32))]) (rest := [(.int (0 : Int32)), (.ref b12), (.int (0 : Int32)), (.ref d)]) (lenOf pd_7 rfl) rfl (own_bl rfl) (hb hby d44_32) (fun _ _ => ⟨rfl, e12, own_bl rfl, own_bl rfl⟩))
    obtain ⟨rfl, Nq14, eq14⟩ := hQ14
    have N14 := Fr.app N0 Nq14
    refine own_st st14 ?_
    obtain ⟨cy15, Ay15, qy15, -⟩ := id V12
    have gg12 := Nat.le_trans Z0 (Nat.le_of_eq gx12.symm)
    obtain ⟨T15, h15, L15, X15, e15, N15, Kp15, A15, st15⟩ := cpA X14 hx hZ hown (own_w hw 251 rfl) (own_w hw 254 rfl) (own_w hw 252 rfl) (own_w hw 253 rfl) eq14 f12_0 V12 (us := [(.ref qa0), (.ref qa1), (.ref qa2)]) (Or.inr ⟨rfl, rfl, ⟨Sto.ofV Ay15 qy15 O12 (Ins.of_exa f12_2 (own_w hw 197 rfl)), ⟨Sto.ofV Ay15 qy15 O12 (Ins.of_exa f12_3 (own_w hw 197 rfl)), ⟨Sto.ofV Ay15 qy15 O12 (Ins.of_exa f12_4 (own_w hw 197 rfl)), trivial⟩⟩⟩⟩) (by decide) (by decide) (by decide) (by decide) (by decide) rfl (Nat.le_of_ble_eq_true rfl) N14 gg12 (g := (mkF m 35 #[rv d, iv (3 : Int32), rv mo, rv b12] [(.int (3 : Int32)), (.int (0 : Int32)), (.ref b12), (.int (0 : Int32)), (.ref d)])) rfl (by rw [hml]; rfl) (rest := []) rfl (hb hby d44_35) (by decide) (W := 0) (by show 2 * 0 + _ ≤ _; exact Nat.le_of_eq rfl) (by decide)
    have n12_d := own_nl p_0.lt gx12
    have f15_0 := f12_0.keep Kp15 (ninS n12_d nin0)
    have f15_1 := f12_1.keep Kp15
    have f15_2 := f12_2.keep Kp15
    have f15_3 := f12_3.keep Kp15
    have f15_4 := f12_4.keep Kp15
    have f15_5 := Ea12.keep Kp15
    have Zs15 : n0 ≤ h15.size := Nat.le_trans Zs12 Kp15.1
    have sz12 := Nat.le_trans (Keep.refl h0 []).1 (Nat.le_of_eq gx12.symm)
    have K15 := K12.trans Kp15 (allS (Or.inr sz12) all0)
    have V15 : Arv Z h15 b12 k12 (.object "java/lang/Object") (3 : Int32) [(.ref qa0), (.ref qa1), (.ref qa2)] .null := A15
    refine own_st st15 ?_
    refine own_st (fun _ kk_ => XS.aloadN X15.here hx rfl (hb hby d44_38) rfl rfl kk_) ?_
    show gN T15 (mkF m 39 #[rv d, iv (3 : Int32), rv mo, rv b12] [(.ref b12)])
    refine own_retA X15 hx hlk rfl hret rfl (hb hby d44_39) (by decide) (by decide) ?_
    show Q44 Z (3 : Int32) qa0 qa1 qa2 h0 n0 (some (.ref b12)) T15.heap _
    rw [e15]
    exact ⟨b12, k12, [(.ref qa0), (.ref qa1), (.ref qa2)], rfl, N15, K15, sz12, V15, f15_5, (Or.inr (Or.inr ⟨rfl, rfl⟩))⟩
abbrev rRrm43 : Room := { frames := 2, cells := 1, slots := 3, locals := 33 }
abbrev c43 (n : Nat) (i : ClassFile.Instr) (k : Nat) : Prop := decode jdk_65_method_119_code n = .ok (i, k)
theorem d43_0 : c43 0 (.aload_n 0) 1 := by decide +kernel
theorem d43_1 : c43 1 (.iload_n 1) 1 := by decide +kernel
theorem d43_2 : c43 2 (.aload_n 0) 1 := by decide +kernel
theorem d43_3 : c43 3 (.invokevirtual 86) 3 := by decide +kernel
theorem d43_6 : c43 6 (.invokestatic 300) 3 := by decide +kernel
theorem d43_9 : c43 9 (.areturn) 1 := by decide +kernel
theorem pd_28 : parseMethodDescriptor "([Ljava/lang/Object;ILjava/lang/Class;)[Ljava/lang/Object;" = some ⟨[(.array (.object "java/lang/Object")), .int, (.object "java/lang/Class")], some (.array (.object "java/lang/Object"))⟩ := by decide +kernel
theorem pn_43 : plainFor yy46 = true := by decide +kernel
theorem ef_rm43 (m : MethodId) (d : Addr) (n9 : Int32) : entryFrame m #[(.ref d), (.int n9)] 2 = (mkF m 0 #[rv d, iv n9] []) := by first | (simp [entryFrame, mkF, argsToLocals, Value.category]; done) | rfl
def Q43 (Z : State) (n9 : Int32) (qa0 : Addr) (qa1 : Addr) (qa2 : Addr) (h0 : Heap) (n0 : Nat) (v_ : Option Value) (h_ : Heap) (L_ : List Loc) : Prop := ∃ y : Addr, ∃ ky : ClassId, ∃ vs9 : List Value, (v_ = some (.ref y)) ∧ (Fr n0 L_) ∧ (Keep h0 h_ []) ∧ (h0.size ≤ y) ∧ (Arv Z h_ y ky (.object "java/lang/Object") n9 vs9 .null) ∧ (Exa Z h_ y "[Ljava/lang/Object;") ∧ (own_u n9 vs9 qa0 qa1 qa2)
theorem rm43 (l : Launch) (Z : State) (a0 : Array Value) (hw : own_T a0 Z) (d : Addr) (n9 : Int32) (kd : ClassId) (vs1 : List Value) (qa0 : Addr) (qa1 : Addr) (qa2 : Addr) (mo : Addr) (h0 : Heap) (n0 : Nat) (Z0 : n0 ≤ h0.size) (p_0 : Arv Z h0 d kd (.object "java/lang/Object") (10 : Int32) vs1 .null) (p_1 : Exa Z h0 d "[Ljava/lang/Object;") (p_2 : Exa Z h0 qa0 "com/example/firm_duties/firmduties/BusinessContext$Pair") (p_3 : Exa Z h0 qa1 "com/example/firm_duties/firmduties/BusinessContext$Pair") (p_4 : Exa Z h0 qa2 "com/example/firm_duties/firmduties/BusinessContext$Pair") (hmir : (Jvm.Term.mirror "[Ljava/lang/Object;").eval a0 Z none [] Z = some (.ref mo)) (hv : own_v n9 vs1 qa0 qa1 qa2) :
    own_Met l yy46 jdk_65_method_119_code 2 (some (.array (.object "java/lang/Object"))) [] rRrm43 Z h0 #[(.ref d), (.int n9)] (Q43 Z n9 qa0 qa1 qa2 h0 n0) := by
  refine own_openN pn_43 (own := "java/util/Arrays") rfl ?_
  intro p e s m below meth c s₁ hx hby hlk hml hret hZ hown hnm X0 e0
  have N0 := Fr.nil n0
  rw [ef_rm43 m d n9]
  show own_Goes p e below s (Q43 Z n9 qa0 qa1 qa2 h0 n0) rRrm43.cells rRrm43.slots s₁ (mkF m 0 #[rv d, iv n9] [])
  refine own_st (fun _ kk_ => XS.aloadN X0.here hx rfl (hb hby d43_0) rfl rfl (XS.iloadN X0.here hx rfl (hb hby d43_1) rfl (XS.aloadN X0.here hx rfl (hb hby d43_2) rfl rfl kk_))) ?_
  show gN s₁ (mkF m 3 #[rv d, iv n9] [(.ref d), (.int n9), (.ref d)])
  obtain ⟨cq1, kq1, q1a, q1b, q1c⟩ := isOf hZ e0 p_1
  obtain ⟨vm1, X1, st1⟩ := X0.getClassOf hx hown (own_mw hZ hw 239 rfl) (own_mw hZ hw 240 rfl) (notFace_of_selects (args := #[]) (own_mw hZ hw 242 rfl)) (own_mw hZ hw 242 rfl) (own_mw hZ hw 241 rfl) (own_mw hZ hw 243 rfl) q1a q1c q1b (own_mir (Jvm.Free.ULB.mirror_move (a' := #[]) hZ.alike hmir) q1a q1b) (g := (mkF m 3 #[rv d, iv n9] [(.ref d), (.int n9), (.ref d)])) rfl (by rw [hml]; rfl) (rest := [(.int n9), (.ref d)]) rfl (hb hby d43_3) (by decide) (by rw [own_gcw]; exact Nat.le_of_ble_eq_true rfl)
  obtain ⟨T1, hT1⟩ : ∃ z, z = s₁.setVm vm1 := ⟨_, rfl⟩
  rw [← hT1] at X1 st1
  have e1 : T1.heap = h0 := by rw [hT1]; exact e0
  refine own_st st1 ?_
  obtain ⟨T2, L2, v2, X2, hQ2, st2⟩ := own_cutA (Jvm.LawKit.callS X1 hx (y := yy45) hown (own_mw hZ hw 245 rfl) (own_mw hZ hw 246 rfl) (own_mw hZ hw 237 rfl) (own_mw hZ hw 247 rfl) (by decide) (backOf (W := 0) (rm44 l Z a0 hw (d) (n9) (mo) (kd) (vs1) (qa0) (qa1) (qa2) h0 n0 Z0 p_0 p_1 p_2 p_3 p_4 hmir hv) hZ (own_w hw 247 rfl) (own_w hw 237 rfl) (by decide) (by decide)) (g := (mkF m 6 #[rv d, iv n9] [(.ref mo), (.int n9), (.ref d)])) rfl (by rw [hml]; rfl) (argsL := [(.ref d), (.int n9), (.ref mo)]) (rest := []) (lenOf pd_28 rfl) rfl (own_bl rfl) (hb hby d43_6) (fun _ _ => ⟨rfl, e1, own_bl rfl, own_bl rfl⟩))
  obtain ⟨x2_y, x2_ky, x2_vs9, rfl, Nq2, Kq2, u2_0, u2_1, u2_2, u2_3⟩ := hQ2
  have N2 := Fr.app N0 Nq2
  have f2_0 := p_0.keep Kq2 nin0
  have f2_1 := p_1.keep Kq2
  have f2_2 := p_2.keep Kq2
  have f2_3 := p_3.keep Kq2
  have f2_4 := p_4.keep Kq2
  have Zs2 : n0 ≤ T2.heap.size := Nat.le_trans Z0 Kq2.1
  have K2 := (Keep.refl h0 []).trans Kq2 all0
  refine own_st st2 ?_
  have sz2_y := Nat.le_trans (Keep.refl h0 []).1 u2_0
  refine own_retA X2 hx hlk rfl hret rfl (hb hby d43_9) (by decide) (by decide) ?_
  show Q43 Z n9 qa0 qa1 qa2 h0 n0 (some (.ref x2_y)) T2.heap _
  exact ⟨x2_y, x2_ky, x2_vs9, rfl, N2, K2, sz2_y, u2_1, u2_2, u2_3⟩
abbrev rRrm42 : Room := { frames := 3, cells := 1, slots := 3, locals := 46 }
abbrev c42 (n : Nat) (i : ClassFile.Instr) (k : Nat) : Prop := decode jdk_38_method_16_code n = .ok (i, k)
theorem d42_0 : c42 0 (.aload_n 0) 1 := by decide +kernel
theorem d42_1 : c42 1 (.getfield 9) 3 := by decide +kernel
theorem d42_4 : c42 4 (.aload_n 0) 1 := by decide +kernel
theorem d42_5 : c42 5 (.getfield 48) 3 := by decide +kernel
theorem d42_8 : c42 8 (.invokestatic 66) 3 := by decide +kernel
theorem d42_11 : c42 11 (.areturn) 1 := by decide +kernel
theorem pd_29 : parseMethodDescriptor "([Ljava/lang/Object;I)[Ljava/lang/Object;" = some ⟨[(.array (.object "java/lang/Object")), .int], some (.array (.object "java/lang/Object"))⟩ := by decide +kernel
theorem pn_42 : plainFor yy47 = true := by decide +kernel
theorem ef_rm42 (m : MethodId) (al : Addr) : entryFrame m #[(.ref al)] 1 = (mkF m 0 #[rv al] []) := by first | (simp [entryFrame, mkF, argsToLocals, Value.category]; done) | rfl
def Q42 (Z : State) (n9 : Int32) (qa0 : Addr) (qa1 : Addr) (qa2 : Addr) (h0 : Heap) (n0 : Nat) (v_ : Option Value) (h_ : Heap) (L_ : List Loc) : Prop := ∃ y : Addr, ∃ ky : ClassId, ∃ vs9 : List Value, (v_ = some (.ref y)) ∧ (Fr n0 L_) ∧ (Keep h0 h_ []) ∧ (h0.size ≤ y) ∧ (Arv Z h_ y ky (.object "java/lang/Object") n9 vs9 .null) ∧ (Exa Z h_ y "[Ljava/lang/Object;") ∧ (own_u n9 vs9 qa0 qa1 qa2)
theorem rm42 (l : Launch) (Z : State) (a0 : Array Value) (hw : own_T a0 Z) (al : Addr) (d : Addr) (kd : ClassId) (n9 : Int32) (vs1 : List Value) (qa0 : Addr) (qa1 : Addr) (qa2 : Addr) (mo : Addr) (h0 : Heap) (n0 : Nat) (Z0 : n0 ≤ h0.size) (p_0 : Exa Z h0 al "java/util/ArrayList") (p_1 : Fld Z h0 al "java/util/ArrayList" "elementData" "[Ljava/lang/Object;" (.ref d)) (p_2 : Fld Z h0 al "java/util/ArrayList" "size" "I" (.int n9)) (p_3 : Arv Z h0 d kd (.object "java/lang/Object") (10 : Int32) vs1 .null) (p_4 : Exa Z h0 d "[Ljava/lang/Object;") (p_5 : Exa Z h0 qa0 "com/example/firm_duties/firmduties/BusinessContext$Pair") (p_6 : Exa Z h0 qa1 "com/example/firm_duties/firmduties/BusinessContext$Pair") (p_7 : Exa Z h0 qa2 "com/example/firm_duties/firmduties/BusinessContext$Pair") (hmir : (Jvm.Term.mirror "[Ljava/lang/Object;").eval a0 Z none [] Z = some (.ref mo)) (hv : own_v n9 vs1 qa0 qa1 qa2) :
    own_Met l yy47 jdk_38_method_16_code 1 (some (.array (.object "java/lang/Object"))) [] rRrm42 Z h0 #[(.ref al)] (Q42 Z n9 qa0 qa1 qa2 h0 n0) := by
  refine own_openN pn_42 (own := "java/util/ArrayList") rfl ?_
  intro p e s m below meth c s₁ hx hby hlk hml hret hZ hown hnm X0 e0
  have N0 := Fr.nil n0
  rw [ef_rm42 m al]
  show own_Goes p e below s (Q42 Z n9 qa0 qa1 qa2 h0 n0) rRrm42.cells rRrm42.slots s₁ (mkF m 0 #[rv al] [])
  refine own_st (fun _ kk_ => XS.aloadN X0.here hx rfl (hb hby d42_0) rfl rfl kk_) ?_
  show gN s₁ (mkF m 1 #[rv al] [(.ref al)])
  obtain ⟨T1, X1, e1, st1⟩ := getF X0 hx hZ hown (host := "") (Or.inl (own_w hw 164 rfl)) Via.refl e0 p_1 (g := (mkF m 1 #[rv al] [(.ref al)])) rfl rfl (hb hby d42_1)
  refine own_st st1 ?_
  refine own_st (fun _ kk_ => XS.aloadN X1.here hx rfl (hb hby d42_4) rfl rfl kk_) ?_
  show gN T1 (mkF m 5 #[rv al] [(.ref al), (.ref d)])
  obtain ⟨T2, X2, e2, st2⟩ := getF X1 hx hZ hown (host := "") (Or.inl (own_w hw 177 rfl)) Via.refl e1 p_2 (g := (mkF m 5 #[rv al] [(.ref al), (.ref d)])) rfl rfl (hb hby d42_5)
  refine own_st st2 ?_
  obtain ⟨T3, L3, v3, X3, hQ3, st3⟩ := own_cutA (Jvm.LawKit.callS X2 hx (y := yy46) hown (own_mw hZ hw 235 rfl) (own_mw hZ hw 236 rfl) (own_mw hZ hw 237 rfl) (own_mw hZ hw 238 rfl) (by decide) (backOf (W := 0) (rm43 l Z a0 hw (d) (n9) (kd) (vs1) (qa0) (qa1) (qa2) (mo) h0 n0 Z0 p_3 p_4 p_5 p_6 p_7 hmir hv) hZ (own_w hw 238 rfl) (own_w hw 237 rfl) (by decide) (by decide)) (g := (mkF m 8 #[rv al] [(.int n9), (.ref d)])) rfl (by rw [hml]; rfl) (argsL := [(.ref d), (.int n9)]) (rest := []) (lenOf pd_29 rfl) rfl (own_bl rfl) (hb hby d42_8) (fun _ _ => ⟨rfl, e2, own_bl rfl, own_bl rfl⟩))
  obtain ⟨x3_y, x3_ky, x3_vs9, rfl, Nq3, Kq3, u3_0, u3_1, u3_2, u3_3⟩ := hQ3
  have N3 := Fr.app N0 Nq3
  have f3_0 := p_0.keep Kq3
  have f3_1 := p_1.keep Kq3 nin0
  have f3_2 := p_2.keep Kq3 nin0
  have f3_3 := p_3.keep Kq3 nin0
  have f3_4 := p_4.keep Kq3
  have f3_5 := p_5.keep Kq3
  have f3_6 := p_6.keep Kq3
  have f3_7 := p_7.keep Kq3
  have Zs3 : n0 ≤ T3.heap.size := Nat.le_trans Z0 Kq3.1
  have K3 := (Keep.refl h0 []).trans Kq3 all0
  refine own_st st3 ?_
  have sz3_y := Nat.le_trans (Keep.refl h0 []).1 u3_0
  refine own_retA X3 hx hlk rfl hret rfl (hb hby d42_11) (by decide) (by decide) ?_
  show Q42 Z n9 qa0 qa1 qa2 h0 n0 (some (.ref x3_y)) T3.heap _
  exact ⟨x3_y, x3_ky, x3_vs9, rfl, N3, K3, sz3_y, u3_1, u3_2, u3_3⟩
abbrev rRrm41 : Room := { frames := 0, cells := 0, slots := 0, locals := 0 }
abbrev c41 (n : Nat) (i : ClassFile.Instr) (k : Nat) : Prop := decode jdk_38_method_9_code n = .ok (i, k)
theorem d41_0 : c41 0 (.aload_n 0) 1 := by decide +kernel
theorem d41_1 : c41 1 (.getfield 48) 3 := by decide +kernel
theorem d41_4 : c41 4 (.ifCond .ne 7) 3 := by decide +kernel
theorem d41_11 : c41 11 (.iconst 0) 1 := by decide +kernel
theorem d41_12 : c41 12 (.ireturn) 1 := by decide +kernel
theorem pn_41 : plainFor yy48 = true := by decide +kernel
theorem ef_rm41 (m : MethodId) (al : Addr) : entryFrame m #[(.ref al)] 1 = (mkF m 0 #[rv al] []) := by first | (simp [entryFrame, mkF, argsToLocals, Value.category]; done) | rfl
def Q41 (Z : State) (h0 : Heap) (n0 : Nat) (v_ : Option Value) (h_ : Heap) (L_ : List Loc) : Prop := (v_ = some (.int (0 : Int32))) ∧ (Fr n0 L_) ∧ (h_ = h0)
theorem rm41 (l : Launch) (Z : State) (a0 : Array Value) (hw : own_T a0 Z) (al : Addr) (n9 : Int32) (h0 : Heap) (n0 : Nat) (Z0 : n0 ≤ h0.size) (p_0 : Exa Z h0 al "java/util/ArrayList") (p_1 : Fld Z h0 al "java/util/ArrayList" "size" "I" (.int n9)) (hz : ¬ n9 = 0) :
    own_Met l yy48 jdk_38_method_9_code 1 (some .boolean) [] rRrm41 Z h0 #[(.ref al)] (Q41 Z h0 n0) := by
  refine own_openN pn_41 (own := "java/util/ArrayList") rfl ?_
  intro p e s m below meth c s₁ hx hby hlk hml hret hZ hown hnm X0 e0
  have N0 := Fr.nil n0
  rw [ef_rm41 m al]
  show own_Goes p e below s (Q41 Z h0 n0) rRrm41.cells rRrm41.slots s₁ (mkF m 0 #[rv al] [])
  refine own_st (fun _ kk_ => XS.aloadN X0.here hx rfl (hb hby d41_0) rfl rfl kk_) ?_
  show gN s₁ (mkF m 1 #[rv al] [(.ref al)])
  obtain ⟨T1, X1, e1, st1⟩ := getF X0 hx hZ hown (host := "") (Or.inl (own_w hw 177 rfl)) Via.refl e0 p_1 (g := (mkF m 1 #[rv al] [(.ref al)])) rfl rfl (hb hby d41_1)
  refine own_st st1 ?_
  refine own_st (fun _ kk_ => XS.ifYes X1.here hx rfl (pc0 := 4) (pc' := 11) rfl (hb hby d41_4) rfl (XT.i0_ne_t hz) (by decide) (by decide) (XS.iconst X1.here hx rfl (hb hby d41_11) kk_)) ?_
  show gN T1 (mkF m 12 #[rv al] [(.int (0 : Int32))])
  refine own_retN X1 hx hlk (t := .boolean) hret (by simp) (hb hby d41_12) (by decide) (by decide) ?_
  show Q41 Z h0 n0 (some (.int (nar .boolean (0 : Int32)))) T1.heap _
  rw [e1]
  exact ⟨rfl, N0, rfl⟩
abbrev rRrmLI1 : Room := { frames := 4, cells := 0, slots := 0, locals := 48 }
abbrev c46 (n : Nat) (i : ClassFile.Instr) (k : Nat) : Prop := decode jdk_44_method_1_code n = .ok (i, k)
theorem d46_0 : c46 0 (.aload_n 0) 1 := by decide +kernel
theorem d46_1 : c46 1 (.invokespecial 1) 3 := by decide +kernel
theorem d46_4 : c46 4 (.aload_n 0) 1 := by decide +kernel
theorem d46_5 : c46 5 (.aload_n 1) 1 := by decide +kernel
theorem d46_6 : c46 6 (.invokestatic 7) 3 := by decide +kernel
theorem d46_9 : c46 9 (.putfield 13) 3 := by decide +kernel
theorem d46_12 : c46 12 (.aload_n 0) 1 := by decide +kernel
theorem d46_13 : c46 13 (.getstatic 19) 3 := by decide +kernel
theorem d46_16 : c46 16 (.putfield 24) 3 := by decide +kernel
theorem d46_19 : c46 19 (.return_) 1 := by decide +kernel
theorem pd_30 : parseMethodDescriptor "(Ljava/lang/Object;)Ljava/lang/Object;" = some ⟨[(.object "java/lang/Object")], some (.object "java/lang/Object")⟩ := by decide +kernel
theorem pn_46 : plainFor yy49 = true := by decide +kernel
theorem ef_rmLI1 (m : MethodId) (li : Addr) (qa0 : Addr) : entryFrame m #[(.ref li), (.ref qa0)] 2 = (mkF m 0 #[rv li, rv qa0] []) := by first | (simp [entryFrame, mkF, argsToLocals, Value.category]; done) | rfl
def QLI1 (Z : State) (li : Addr) (qa0 : Addr) (em : Addr) (h0 : Heap) (n0 : Nat) (v_ : Option Value) (h_ : Heap) (L_ : List Loc) : Prop := (v_ = none) ∧ (Fr n0 L_) ∧ (Keep h0 h_ [li]) ∧ (Exa Z h_ li "java/util/ImmutableCollections$List12") ∧ (Fld Z h_ li "java/util/ImmutableCollections$List12" "e0" "Ljava/lang/Object;" (.ref qa0)) ∧ (Fld Z h_ li "java/util/ImmutableCollections$List12" "e1" "Ljava/lang/Object;" (.ref em))
theorem rmLI1 (l : Launch) (Z : State) (a0 : Array Value) (hw : own_T a0 Z) (li : Addr) (qa0 : Addr) (em : Addr) (h0 : Heap) (n0 : Nat) (Z0 : n0 ≤ h0.size) (p_0 : Exa Z h0 li "java/util/ImmutableCollections$List12") (p_1 : Fld Z h0 li "java/util/ImmutableCollections$List12" "e0" "Ljava/lang/Object;" .null) (p_2 : Fld Z h0 li "java/util/ImmutableCollections$List12" "e1" "Ljava/lang/Object;" .null) (p_3 : n0 ≤ li) (p_4 : Sta Z h0 "java/util/ImmutableCollections" "EMPTY" "Ljava/lang/Object;" (.ref em)) :
    own_Met l yy49 jdk_44_method_1_code 2 none [] rRrmLI1 Z h0 #[(.ref li), (.ref qa0)] (QLI1 Z li qa0 em h0 n0) := by
  refine own_openN pn_46 (own := "java/util/ImmutableCollections$List12") rfl ?_
  intro p e s m below meth c s₁ hx hby hlk hml hret hZ hown hnm X0 e0
  have N0 := Fr.nil n0
  rw [ef_rmLI1 m li qa0]
  show own_Goes p e below s (QLI1 Z li qa0 em h0 n0) rRrmLI1.cells rRrmLI1.slots s₁ (mkF m 0 #[rv li, rv qa0] [])
  refine own_st (fun _ kk_ => XS.aloadN X0.here hx rfl (hb hby d46_0) rfl rfl kk_) ?_
  show gN s₁ (mkF m 1 #[rv li, rv qa0] [(.ref li)])
  obtain ⟨T1, L1, v1, X1, hQ1, st1⟩ := own_cut (X0.specialBack hx (y := yy36) rfl hown (own_mw hZ hw 265 rfl) (own_mw hZ hw 266 rfl) (own_mw hZ hw 270 rfl) (by decide) (backOf (W := 0) (rm47 l Z a0 hw (li) h0 n0 Z0) hZ (own_w hw 270 rfl) (own_w hw 269 rfl) (by decide) (by decide)) (g := (mkF m 1 #[rv li, rv qa0] [(.ref li)])) rfl (by rw [hml]; rfl) (Steps.refl _) (a := li) (argsL := []) (rest := []) (lenOf pd_23 rfl) rfl (own_bl rfl) (hb hby d46_1) (fun _ _ => ⟨rfl, e0, own_bl rfl, own_bl rfl⟩))
  obtain ⟨rfl, Nq1, eq1⟩ := hQ1
  have N1 := Fr.app N0 Nq1
  refine own_sTN st1 ?_
  refine own_st (fun _ kk_ => XS.aloadN X1.here hx rfl (hb hby d46_4) rfl rfl (XS.aloadN X1.here hx rfl (hb hby d46_5) rfl rfl kk_)) ?_
  show gN T1 (mkF m 6 #[rv li, rv qa0] [(.ref qa0), (.ref li)])
  obtain ⟨T2, L2, v2, X2, hQ2, st2⟩ := own_cutA (Jvm.LawKit.callS X1 hx (y := yy43) hown (own_mw hZ hw 279 rfl) (own_mw hZ hw 280 rfl) (own_mw hZ hw 54 rfl) (own_mw hZ hw 281 rfl) (by decide) (backOf (W := 1) (rm49 l Z a0 hw (qa0) h0 n0 Z0) hZ (own_w hw 281 rfl) (own_w hw 54 rfl) (by decide) (by decide)) (g := (mkF m 6 #[rv li, rv qa0] [(.ref qa0), (.ref li)])) rfl (by rw [hml]; rfl) (argsL := [(.ref qa0)]) (rest := [(.ref li)]) (lenOf pd_30 rfl) rfl (own_bl rfl) (hb hby d46_6) (fun _ _ => ⟨rfl, eq1, own_bl rfl, own_bl rfl⟩))
  obtain ⟨rfl, Nq2, eq2⟩ := hQ2
  have N2 := Fr.app N1 Nq2
  refine own_st st2 ?_
  obtain ⟨T3, h3, X3, e3, W3, st3⟩ := putF X2 hx hZ hown (host := "") (Or.inl (own_w hw 282 rfl)) Via.refl eq2 p_1 p_0 (Or.inr ⟨(own_w hw 283 rfl), rfl, hnm⟩) (own_w hw 259 rfl) (ty := (.object "java/lang/Object")) (by decide) rfl rfl (g := (mkF m 9 #[rv li, rv qa0] [(.ref qa0), (.ref li)])) rfl rfl (hb hby d46_9)
  have fw3 : Fld Z h3 li "java/util/ImmutableCollections$List12" "e0" "Ljava/lang/Object;" (.ref qa0) := p_1.same W3
  have f3_0 := p_0.wr W3
  have f3_2 := p_2.other W3 (Or.inr (slot_ne (Or.inr (own_w hw 286 rfl)) (Or.inr (own_w hw 283 rfl)) (by decide) (t := (.object "java/lang/Object")) (t' := (.object "java/lang/Object")) (by decide) (by decide)))
  have f3_3 := p_4.wr W3
  have Zs3 : n0 ≤ h3.size := Nat.le_trans Z0 (Nat.le_of_eq W3.size.symm)
  have K3 := (Keep.refl h0 [li]).wr W3 (Or.inl (List.mem_of_getElem? (i := 0) rfl))
  have N3 := Fr.snoc X3 N2 p_3
  refine own_st st3 ?_
  refine own_st (fun _ kk_ => XS.aloadN X3.here hx rfl (hb hby d46_12) rfl rfl kk_) ?_
  show gN T3 (mkF m 13 #[rv li, rv qa0] [(.ref li)])
  obtain ⟨T4, X4, e4, st4⟩ := getS2 X3 hx hZ hown (Or.inr (own_w hw 284 rfl)) Via.refl e3 f3_3 (g := (mkF m 13 #[rv li, rv qa0] [(.ref li)])) rfl (hb hby d46_13)
  refine own_st st4 ?_
  obtain ⟨T5, h5, X5, e5, W5, st5⟩ := putF X4 hx hZ hown (host := "") (Or.inl (own_w hw 285 rfl)) Via.refl e4 f3_2 f3_0 (Or.inr ⟨(own_w hw 286 rfl), rfl, hnm⟩) (own_w hw 259 rfl) (ty := (.object "java/lang/Object")) (by decide) rfl rfl (g := (mkF m 16 #[rv li, rv qa0] [(.ref em), (.ref li)])) rfl rfl (hb hby d46_16)
  have fw5 : Fld Z h5 li "java/util/ImmutableCollections$List12" "e1" "Ljava/lang/Object;" (.ref em) := f3_2.same W5
  have f5_0 := f3_0.wr W5
  have f5_2 := f3_3.wr W5
  have f5_3 := fw3.other W5 (Or.inr (slot_ne (Or.inr (own_w hw 283 rfl)) (Or.inr (own_w hw 286 rfl)) (by decide) (t := (.object "java/lang/Object")) (t' := (.object "java/lang/Object")) (by decide) (by decide)))
  have Zs5 : n0 ≤ h5.size := Nat.le_trans Zs3 (Nat.le_of_eq W5.size.symm)
  have K5 := K3.wr W5 (Or.inl (List.mem_of_getElem? (i := 0) rfl))
  have N5 := Fr.snoc X5 N3 p_3
  refine own_st st5 ?_
  refine own_ret0 X5 hx hlk hret (hb hby d46_19) (by decide) (by decide) ?_
  show QLI1 Z li qa0 em h0 n0 none T5.heap _
  rw [e5]
  exact ⟨rfl, N5, K5, f5_0, f5_3, fw5⟩
abbrev rRrmLI2 : Room := { frames := 4, cells := 0, slots := 0, locals := 48 }
abbrev c51 (n : Nat) (i : ClassFile.Instr) (k : Nat) : Prop := decode jdk_44_method_2_code n = .ok (i, k)
theorem d51_0 : c51 0 (.aload_n 0) 1 := by decide +kernel
theorem d51_1 : c51 1 (.invokespecial 1) 3 := by decide +kernel
theorem d51_4 : c51 4 (.aload_n 0) 1 := by decide +kernel
theorem d51_5 : c51 5 (.aload_n 1) 1 := by decide +kernel
theorem d51_6 : c51 6 (.invokestatic 7) 3 := by decide +kernel
theorem d51_9 : c51 9 (.putfield 13) 3 := by decide +kernel
theorem d51_12 : c51 12 (.aload_n 0) 1 := by decide +kernel
theorem d51_13 : c51 13 (.aload_n 2) 1 := by decide +kernel
theorem d51_14 : c51 14 (.invokestatic 7) 3 := by decide +kernel
theorem d51_17 : c51 17 (.putfield 24) 3 := by decide +kernel
theorem d51_20 : c51 20 (.return_) 1 := by decide +kernel
theorem pn_51 : plainFor yy50 = true := by decide +kernel
theorem ef_rmLI2 (m : MethodId) (li : Addr) (qa0 : Addr) (qa1 : Addr) : entryFrame m #[(.ref li), (.ref qa0), (.ref qa1)] 3 = (mkF m 0 #[rv li, rv qa0, rv qa1] []) := by first | (simp [entryFrame, mkF, argsToLocals, Value.category]; done) | rfl
def QLI2 (Z : State) (li : Addr) (qa0 : Addr) (qa1 : Addr) (h0 : Heap) (n0 : Nat) (v_ : Option Value) (h_ : Heap) (L_ : List Loc) : Prop := (v_ = none) ∧ (Fr n0 L_) ∧ (Keep h0 h_ [li]) ∧ (Exa Z h_ li "java/util/ImmutableCollections$List12") ∧ (Fld Z h_ li "java/util/ImmutableCollections$List12" "e0" "Ljava/lang/Object;" (.ref qa0)) ∧ (Fld Z h_ li "java/util/ImmutableCollections$List12" "e1" "Ljava/lang/Object;" (.ref qa1))
theorem rmLI2 (l : Launch) (Z : State) (a0 : Array Value) (hw : own_T a0 Z) (li : Addr) (qa0 : Addr) (qa1 : Addr) (h0 : Heap) (n0 : Nat) (Z0 : n0 ≤ h0.size) (p_0 : Exa Z h0 li "java/util/ImmutableCollections$List12") (p_1 : Fld Z h0 li "java/util/ImmutableCollections$List12" "e0" "Ljava/lang/Object;" .null) (p_2 : Fld Z h0 li "java/util/ImmutableCollections$List12" "e1" "Ljava/lang/Object;" .null) (p_3 : n0 ≤ li) :
    own_Met l yy50 jdk_44_method_2_code 3 none [] rRrmLI2 Z h0 #[(.ref li), (.ref qa0), (.ref qa1)] (QLI2 Z li qa0 qa1 h0 n0) := by
  refine own_openN pn_51 (own := "java/util/ImmutableCollections$List12") rfl ?_
  intro p e s m below meth c s₁ hx hby hlk hml hret hZ hown hnm X0 e0
  have N0 := Fr.nil n0
  rw [ef_rmLI2 m li qa0 qa1]
  show own_Goes p e below s (QLI2 Z li qa0 qa1 h0 n0) rRrmLI2.cells rRrmLI2.slots s₁ (mkF m 0 #[rv li, rv qa0, rv qa1] [])
  refine own_st (fun _ kk_ => XS.aloadN X0.here hx rfl (hb hby d51_0) rfl rfl kk_) ?_
  show gN s₁ (mkF m 1 #[rv li, rv qa0, rv qa1] [(.ref li)])
  obtain ⟨T1, L1, v1, X1, hQ1, st1⟩ := own_cut (X0.specialBack hx (y := yy36) rfl hown (own_mw hZ hw 265 rfl) (own_mw hZ hw 266 rfl) (own_mw hZ hw 270 rfl) (by decide) (backOf (W := 0) (rm47 l Z a0 hw (li) h0 n0 Z0) hZ (own_w hw 270 rfl) (own_w hw 269 rfl) (by decide) (by decide)) (g := (mkF m 1 #[rv li, rv qa0, rv qa1] [(.ref li)])) rfl (by rw [hml]; rfl) (Steps.refl _) (a := li) (argsL := []) (rest := []) (lenOf pd_23 rfl) rfl (own_bl rfl) (hb hby d51_1) (fun _ _ => ⟨rfl, e0, own_bl rfl, own_bl rfl⟩))
  obtain ⟨rfl, Nq1, eq1⟩ := hQ1
  have N1 := Fr.app N0 Nq1
  refine own_sTN st1 ?_
  refine own_st (fun _ kk_ => XS.aloadN X1.here hx rfl (hb hby d51_4) rfl rfl (XS.aloadN X1.here hx rfl (hb hby d51_5) rfl rfl kk_)) ?_
  show gN T1 (mkF m 6 #[rv li, rv qa0, rv qa1] [(.ref qa0), (.ref li)])
  obtain ⟨T2, L2, v2, X2, hQ2, st2⟩ := own_cutA (Jvm.LawKit.callS X1 hx (y := yy43) hown (own_mw hZ hw 279 rfl) (own_mw hZ hw 280 rfl) (own_mw hZ hw 54 rfl) (own_mw hZ hw 281 rfl) (by decide) (backOf (W := 1) (rm49 l Z a0 hw (qa0) h0 n0 Z0) hZ (own_w hw 281 rfl) (own_w hw 54 rfl) (by decide) (by decide)) (g := (mkF m 6 #[rv li, rv qa0, rv qa1] [(.ref qa0), (.ref li)])) rfl (by rw [hml]; rfl) (argsL := [(.ref qa0)]) (rest := [(.ref li)]) (lenOf pd_30 rfl) rfl (own_bl rfl) (hb hby d51_6) (fun _ _ => ⟨rfl, eq1, own_bl rfl, own_bl rfl⟩))
  obtain ⟨rfl, Nq2, eq2⟩ := hQ2
  have N2 := Fr.app N1 Nq2
  refine own_st st2 ?_
  obtain ⟨T3, h3, X3, e3, W3, st3⟩ := putF X2 hx hZ hown (host := "") (Or.inl (own_w hw 282 rfl)) Via.refl eq2 p_1 p_0 (Or.inr ⟨(own_w hw 283 rfl), rfl, hnm⟩) (own_w hw 259 rfl) (ty := (.object "java/lang/Object")) (by decide) rfl rfl (g := (mkF m 9 #[rv li, rv qa0, rv qa1] [(.ref qa0), (.ref li)])) rfl rfl (hb hby d51_9)
  have fw3 : Fld Z h3 li "java/util/ImmutableCollections$List12" "e0" "Ljava/lang/Object;" (.ref qa0) := p_1.same W3
  have f3_0 := p_0.wr W3
  have f3_2 := p_2.other W3 (Or.inr (slot_ne (Or.inr (own_w hw 286 rfl)) (Or.inr (own_w hw 283 rfl)) (by decide) (t := (.object "java/lang/Object")) (t' := (.object "java/lang/Object")) (by decide) (by decide)))
  have Zs3 : n0 ≤ h3.size := Nat.le_trans Z0 (Nat.le_of_eq W3.size.symm)
  have K3 := (Keep.refl h0 [li]).wr W3 (Or.inl (List.mem_of_getElem? (i := 0) rfl))
  have N3 := Fr.snoc X3 N2 p_3
  refine own_st st3 ?_
  refine own_st (fun _ kk_ => XS.aloadN X3.here hx rfl (hb hby d51_12) rfl rfl (XS.aloadN X3.here hx rfl (hb hby d51_13) rfl rfl kk_)) ?_
  show gN T3 (mkF m 14 #[rv li, rv qa0, rv qa1] [(.ref qa1), (.ref li)])
  obtain ⟨T4, L4, v4, X4, hQ4, st4⟩ := own_cutA (Jvm.LawKit.callS X3 hx (y := yy43) hown (own_mw hZ hw 279 rfl) (own_mw hZ hw 280 rfl) (own_mw hZ hw 54 rfl) (own_mw hZ hw 281 rfl) (by decide) (backOf (W := 1) (rm49 l Z a0 hw (qa1) h3 n0 Zs3) hZ (own_w hw 281 rfl) (own_w hw 54 rfl) (by decide) (by decide)) (g := (mkF m 14 #[rv li, rv qa0, rv qa1] [(.ref qa1), (.ref li)])) rfl (by rw [hml]; rfl) (argsL := [(.ref qa1)]) (rest := [(.ref li)]) (lenOf pd_30 rfl) rfl (own_bl rfl) (hb hby d51_14) (fun _ _ => ⟨rfl, e3, own_bl rfl, own_bl rfl⟩))
  obtain ⟨rfl, Nq4, eq4⟩ := hQ4
  have N4 := Fr.app N3 Nq4
  refine own_st st4 ?_
  obtain ⟨T5, h5, X5, e5, W5, st5⟩ := putF X4 hx hZ hown (host := "") (Or.inl (own_w hw 285 rfl)) Via.refl eq4 f3_2 f3_0 (Or.inr ⟨(own_w hw 286 rfl), rfl, hnm⟩) (own_w hw 259 rfl) (ty := (.object "java/lang/Object")) (by decide) rfl rfl (g := (mkF m 17 #[rv li, rv qa0, rv qa1] [(.ref qa1), (.ref li)])) rfl rfl (hb hby d51_17)
  have fw5 : Fld Z h5 li "java/util/ImmutableCollections$List12" "e1" "Ljava/lang/Object;" (.ref qa1) := f3_2.same W5
  have f5_0 := f3_0.wr W5
  have f5_2 := fw3.other W5 (Or.inr (slot_ne (Or.inr (own_w hw 283 rfl)) (Or.inr (own_w hw 286 rfl)) (by decide) (t := (.object "java/lang/Object")) (t' := (.object "java/lang/Object")) (by decide) (by decide)))
  have Zs5 : n0 ≤ h5.size := Nat.le_trans Zs3 (Nat.le_of_eq W5.size.symm)
  have K5 := K3.wr W5 (Or.inl (List.mem_of_getElem? (i := 0) rfl))
  have N5 := Fr.snoc X5 N4 p_3
  refine own_st st5 ?_
  refine own_ret0 X5 hx hlk hret (hb hby d51_20) (by decide) (by decide) ?_
  show QLI2 Z li qa0 qa1 h0 n0 none T5.heap _
  rw [e5]
  exact ⟨rfl, N5, K5, f5_0, f5_2, fw5⟩
abbrev rRrm64 : Room := { frames := 4, cells := 0, slots := 0, locals := 48 }
abbrev c64 (n : Nat) (i : ClassFile.Instr) (k : Nat) : Prop := decode jdk_45_method_1_code n = .ok (i, k)
theorem d64_0 : c64 0 (.aload_n 0) 1 := by decide +kernel
theorem d64_1 : c64 1 (.invokespecial 1) 3 := by decide +kernel
theorem d64_4 : c64 4 (.aload_n 0) 1 := by decide +kernel
theorem d64_5 : c64 5 (.aload_n 1) 1 := by decide +kernel
theorem d64_6 : c64 6 (.putfield 7) 3 := by decide +kernel
theorem d64_9 : c64 9 (.aload_n 0) 1 := by decide +kernel
theorem d64_10 : c64 10 (.iload_n 2) 1 := by decide +kernel
theorem d64_11 : c64 11 (.putfield 13) 3 := by decide +kernel
theorem d64_14 : c64 14 (.return_) 1 := by decide +kernel
theorem pn_64 : plainFor yy51 = true := by decide +kernel
theorem ef_rm64 (m : MethodId) (li : Addr) (d : Addr) : entryFrame m #[(.ref li), (.ref d), (.int (0 : Int32))] 3 = (mkF m 0 #[rv li, rv d, iv (0 : Int32)] []) := by first | (simp [entryFrame, mkF, argsToLocals, Value.category]; done) | rfl
def Q64 (Z : State) (li : Addr) (d : Addr) (h0 : Heap) (n0 : Nat) (v_ : Option Value) (h_ : Heap) (L_ : List Loc) : Prop := (v_ = none) ∧ (Fr n0 L_) ∧ (Keep h0 h_ [li]) ∧ (Exa Z h_ li "java/util/ImmutableCollections$ListN") ∧ (Fld Z h_ li "java/util/ImmutableCollections$ListN" "elements" "[Ljava/lang/Object;" (.ref d))
theorem rm64 (l : Launch) (Z : State) (a0 : Array Value) (hw : own_T a0 Z) (li : Addr) (d : Addr) (h0 : Heap) (n0 : Nat) (Z0 : n0 ≤ h0.size) (p_0 : Exa Z h0 li "java/util/ImmutableCollections$ListN") (p_1 : Fld Z h0 li "java/util/ImmutableCollections$ListN" "elements" "[Ljava/lang/Object;" .null) (p_2 : Fld Z h0 li "java/util/ImmutableCollections$ListN" "allowNulls" "Z" (.int (0 : Int32))) (p_3 : n0 ≤ li) :
    own_Met l yy51 jdk_45_method_1_code 3 none [] rRrm64 Z h0 #[(.ref li), (.ref d), (.int (0 : Int32))] (Q64 Z li d h0 n0) := by
  refine own_openN pn_64 (own := "java/util/ImmutableCollections$ListN") rfl ?_
  intro p e s m below meth c s₁ hx hby hlk hml hret hZ hown hnm X0 e0
  have N0 := Fr.nil n0
  rw [ef_rm64 m li d]
  show own_Goes p e below s (Q64 Z li d h0 n0) rRrm64.cells rRrm64.slots s₁ (mkF m 0 #[rv li, rv d, iv (0 : Int32)] [])
  refine own_st (fun _ kk_ => XS.aloadN X0.here hx rfl (hb hby d64_0) rfl rfl kk_) ?_
  show gN s₁ (mkF m 1 #[rv li, rv d, iv (0 : Int32)] [(.ref li)])
  obtain ⟨T1, L1, v1, X1, hQ1, st1⟩ := own_cut (X0.specialBack hx (y := yy36) rfl hown (own_mw hZ hw 363 rfl) (own_mw hZ hw 266 rfl) (own_mw hZ hw 270 rfl) (by decide) (backOf (W := 0) (rm47 l Z a0 hw (li) h0 n0 Z0) hZ (own_w hw 270 rfl) (own_w hw 269 rfl) (by decide) (by decide)) (g := (mkF m 1 #[rv li, rv d, iv (0 : Int32)] [(.ref li)])) rfl (by rw [hml]; rfl) (Steps.refl _) (a := li) (argsL := []) (rest := []) (lenOf pd_23 rfl) rfl (own_bl rfl) (hb hby d64_1) (fun _ _ => ⟨rfl, e0, own_bl rfl, own_bl rfl⟩))
  obtain ⟨rfl, Nq1, eq1⟩ := hQ1
  have N1 := Fr.app N0 Nq1
  refine own_sTN st1 ?_
  refine own_st (fun _ kk_ => XS.aloadN X1.here hx rfl (hb hby d64_4) rfl rfl (XS.aloadN X1.here hx rfl (hb hby d64_5) rfl rfl kk_)) ?_
  show gN T1 (mkF m 6 #[rv li, rv d, iv (0 : Int32)] [(.ref d), (.ref li)])
  obtain ⟨T2, h2, X2, e2, W2, st2⟩ := putF X1 hx hZ hown (host := "") (Or.inl (own_w hw 367 rfl)) Via.refl eq1 p_1 p_0 (Or.inr ⟨(own_w hw 368 rfl), rfl, hnm⟩) (own_w hw 357 rfl) (ty := (.array (.object "java/lang/Object"))) (by decide) rfl rfl (g := (mkF m 6 #[rv li, rv d, iv (0 : Int32)] [(.ref d), (.ref li)])) rfl rfl (hb hby d64_6)
  have fw2 : Fld Z h2 li "java/util/ImmutableCollections$ListN" "elements" "[Ljava/lang/Object;" (.ref d) := p_1.same W2
  have f2_0 := p_0.wr W2
  have f2_2 := p_2.other W2 (Or.inr (slot_ne (Or.inr (own_w hw 370 rfl)) (Or.inr (own_w hw 368 rfl)) (by decide) (t := .boolean) (t' := (.array (.object "java/lang/Object"))) (by decide) (by decide)))
  have Zs2 : n0 ≤ h2.size := Nat.le_trans Z0 (Nat.le_of_eq W2.size.symm)
  have K2 := (Keep.refl h0 [li]).wr W2 (Or.inl (List.mem_of_getElem? (i := 0) rfl))
  have N2 := Fr.snoc X2 N1 p_3
  refine own_st st2 ?_
  refine own_st (fun _ kk_ => XS.aloadN X2.here hx rfl (hb hby d64_9) rfl rfl (XS.iloadN X2.here hx rfl (hb hby d64_10) rfl kk_)) ?_
  show gN T2 (mkF m 11 #[rv li, rv d, iv (0 : Int32)] [(.int (0 : Int32)), (.ref li)])
  obtain ⟨T3, h3, X3, e3, W3, st3⟩ := putFN X2 hx hZ hown (own_w hw 369 rfl) Via.refl e2 f2_2 f2_0 (Or.inr ⟨(own_w hw 370 rfl), rfl, hnm⟩) (own_w hw 357 rfl) (ty := .boolean) (v' := (.int (nar .boolean (0 : Int32)))) (by decide) rfl (fits_nar_bool _) (g := (mkF m 11 #[rv li, rv d, iv (0 : Int32)] [(.int (0 : Int32)), (.ref li)])) rfl rfl (hb hby d64_11)
  have fw3 : Fld Z h3 li "java/util/ImmutableCollections$ListN" "allowNulls" "Z" (.int (nar .boolean (0 : Int32))) := f2_2.same W3
  have f3_0 := f2_0.wr W3
  have f3_2 := fw2.other W3 (Or.inr (slot_ne (Or.inr (own_w hw 368 rfl)) (Or.inr (own_w hw 370 rfl)) (by decide) (t := (.array (.object "java/lang/Object"))) (t' := .boolean) (by decide) (by decide)))
  have Zs3 : n0 ≤ h3.size := Nat.le_trans Zs2 (Nat.le_of_eq W3.size.symm)
  have K3 := K2.wr W3 (Or.inl (List.mem_of_getElem? (i := 0) rfl))
  have N3 := Fr.snoc X3 N2 p_3
  refine own_st st3 ?_
  refine own_ret0 X3 hx hlk hret (hb hby d64_14) (by decide) (by decide) ?_
  show Q64 Z li d h0 n0 none T3.heap _
  rw [e3]
  exact ⟨rfl, N3, K3, f3_0, f3_2⟩
abbrev rRrm63 : Room := { frames := 5, cells := 2, slots := 5, locals := 63 }
abbrev c63 (n : Nat) (i : ClassFile.Instr) (k : Nat) : Prop := decode jdk_56_method_4_code n = .ok (i, k)
theorem d63_0 : c63 0 (.aload_n 0) 1 := by decide +kernel
theorem d63_1 : c63 1 (.arraylength) 1 := by decide +kernel
theorem d63_2 : c63 2 (.anewarray 2) 3 := by decide +kernel
theorem d63_5 : c63 5 (.astore_n 1) 1 := by decide +kernel
theorem d63_6 : c63 6 (.iconst 0) 1 := by decide +kernel
theorem d63_7 : c63 7 (.istore_n 2) 1 := by decide +kernel
theorem d63_8 : c63 8 (.iload_n 2) 1 := by decide +kernel
theorem d63_9 : c63 9 (.aload_n 0) 1 := by decide +kernel
theorem d63_10 : c63 10 (.arraylength) 1 := by decide +kernel
theorem d63_11 : c63 11 (.if_icmp .ge 18) 3 := by decide +kernel
theorem d63_14 : c63 14 (.aload_n 1) 1 := by decide +kernel
theorem d63_15 : c63 15 (.iload_n 2) 1 := by decide +kernel
theorem d63_16 : c63 16 (.aload_n 0) 1 := by decide +kernel
theorem d63_17 : c63 17 (.iload_n 2) 1 := by decide +kernel
theorem d63_18 : c63 18 (.aaload) 1 := by decide +kernel
theorem d63_19 : c63 19 (.invokestatic 37) 3 := by decide +kernel
theorem d63_22 : c63 22 (.aastore) 1 := by decide +kernel
theorem d63_23 : c63 23 (.iinc 2 1) 3 := by decide +kernel
theorem d63_26 : c63 26 (.goto (-18)) 3 := by decide +kernel
theorem d63_29 : c63 29 (.new 12) 3 := by decide +kernel
theorem d63_32 : c63 32 (.dup) 1 := by decide +kernel
theorem d63_33 : c63 33 (.aload_n 1) 1 := by decide +kernel
theorem d63_34 : c63 34 (.iconst 0) 1 := by decide +kernel
theorem d63_35 : c63 35 (.invokespecial 43) 3 := by decide +kernel
theorem d63_38 : c63 38 (.areturn) 1 := by decide +kernel
theorem pd_31 : parseMethodDescriptor "([Ljava/lang/Object;Z)V" = some ⟨[(.array (.object "java/lang/Object")), .boolean], none⟩ := by decide +kernel
theorem pn_63 : plainFor yy52 = true := by decide +kernel
theorem ef_rm63 (m : MethodId) (d : Addr) : entryFrame m #[(.ref d)] 3 = (mkF m 0 #[rv d, oU, oU] []) := by first | (simp [entryFrame, mkF, argsToLocals, Value.category]; done) | rfl
def Q63 (Z : State) (qa0 : Addr) (qa1 : Addr) (qa2 : Addr) (h0 : Heap) (n0 : Nat) (v_ : Option Value) (h_ : Heap) (L_ : List Loc) : Prop := ∃ li : Addr, ∃ y : Addr, ∃ ky : ClassId, (v_ = some (.ref li)) ∧ (Fr n0 L_) ∧ (Keep h0 h_ []) ∧ (h0.size ≤ li) ∧ (h0.size ≤ y) ∧ (Exa Z h_ li "java/util/ImmutableCollections$ListN") ∧ (Fld Z h_ li "java/util/ImmutableCollections$ListN" "elements" "[Ljava/lang/Object;" (.ref y)) ∧ (Arv Z h_ y ky (.object "java/lang/Object") (3 : Int32) [(.ref qa0), (.ref qa1), (.ref qa2)] .null)
theorem rm63 (l : Launch) (Z : State) (a0 : Array Value) (hw : own_T a0 Z) (d : Addr) (kd : ClassId) (qa0 : Addr) (qa1 : Addr) (qa2 : Addr) (h0 : Heap) (n0 : Nat) (Z0 : n0 ≤ h0.size) (p_0 : Arv Z h0 d kd (.object "java/lang/Object") (3 : Int32) [(.ref qa0), (.ref qa1), (.ref qa2)] .null) (p_1 : Exa Z h0 qa0 "com/example/firm_duties/firmduties/BusinessContext$Pair") (p_2 : Exa Z h0 qa1 "com/example/firm_duties/firmduties/BusinessContext$Pair") (p_3 : Exa Z h0 qa2 "com/example/firm_duties/firmduties/BusinessContext$Pair") :
    own_Met l yy52 jdk_56_method_4_code 3 (some (.object "java/util/List")) [] rRrm63 Z h0 #[(.ref d)] (Q63 Z qa0 qa1 qa2 h0 n0) := by
  refine own_openN pn_63 (own := "java/util/ImmutableCollections") rfl ?_
  intro p e s m below meth c s₁ hx hby hlk hml hret hZ hown hnm X0 e0
  have N0 := Fr.nil n0
  rw [ef_rm63 m d]
  show own_Goes p e below s (Q63 Z qa0 qa1 qa2 h0 n0) rRrm63.cells rRrm63.slots s₁ (mkF m 0 #[rv d, oU, oU] [])
  refine own_st (fun _ kk_ => XS.aloadN X0.here hx rfl (hb hby d63_0) rfl rfl kk_) ?_
  show gN s₁ (mkF m 1 #[rv d, oU, oU] [(.ref d)])
  obtain ⟨cl1, Ar1, -, Sz1, Nn1, -, -⟩ := id p_0
  refine own_st (fun _ kk_ => X0.arraylength hx (by rw [e0]; exact Ar1.1) (State.isArrayOf_alike hZ.alike Ar1.2.1) (g := (mkF m 1 #[rv d, oU, oU] [(.ref d)])) rfl rfl (hb hby d63_1) _ kk_) ?_
  rw [len_of Sz1 Nn1]
  show gN s₁ (mkF m 2 #[rv d, oU, oU] [(.int (3 : Int32))])
  obtain ⟨T2, h2, k2, X2, e2, E2, A2, O2, Ea2, st2⟩ := own_newR X0 hx hZ hown (own_w hw 355 rfl) (own_w hw 196 rfl) (ad := "[Ljava/lang/Object;") rfl e0 (g := (mkF m 2 #[rv d, oU, oU] [(.int (3 : Int32))])) rfl (hb hby d63_2) rfl (by decide) (cap := 3) (by decide) (by decide) (by decide) (by decide)
  obtain ⟨b2, gx2⟩ : ∃ z, z = h0.size := ⟨_, rfl⟩
  rw [← gx2] at A2 Ea2 st2
  have f2_0 := p_0.ext E2
  have f2_1 := p_1.ext E2
  have f2_2 := p_2.ext E2
  have f2_3 := p_3.ext E2
  have Zs2 : n0 ≤ h2.size := Nat.le_trans Z0 E2.1
  have K2 := (Keep.refl h0 []).ext E2
  have V2 : Arv Z h2 b2 k2 (.object "java/lang/Object") (3 : Int32) [.null, .null, .null] .null := (Arv.new A2 (by decide)).pad (pad_rep [] .null 3)
  refine own_st st2 ?_
  refine own_st (fun _ kk_ => XS.astoreN X2.here hx rfl (hb hby d63_5) rfl rfl (l' := #[rv d, rv b2, oU]) rfl (XS.iconst X2.here hx rfl (hb hby d63_6) (XS.istoreN X2.here hx rfl (hb hby d63_7) rfl (l' := #[rv d, rv b2, iv (0 : Int32)]) rfl (XS.iloadN X2.here hx rfl (hb hby d63_8) rfl (XS.aloadN X2.here hx rfl (hb hby d63_9) rfl rfl kk_))))) ?_
  show gN T2 (mkF m 10 #[rv d, rv b2, iv (0 : Int32)] [(.ref d), (.int (0 : Int32))])
  obtain ⟨cl3, Ar3, -, Sz3, Nn3, -, -⟩ := id f2_0
  refine own_st (fun _ kk_ => X2.arraylength hx (by rw [e2]; exact Ar3.1) (State.isArrayOf_alike hZ.alike Ar3.2.1) (g := (mkF m 10 #[rv d, rv b2, iv (0 : Int32)] [(.ref d), (.int (0 : Int32))])) rfl rfl (hb hby d63_10) _ kk_) ?_
  rw [len_of Sz3 Nn3]
  show gN T2 (mkF m 11 #[rv d, rv b2, iv (0 : Int32)] [(.int (3 : Int32)), (.int (0 : Int32))])
  refine own_st (fun _ kk_ => XS.icmpNo X2.here hx rfl (hb hby d63_11) rfl (XT.ii_ge_f (by decide)) (XS.aloadN X2.here hx rfl (hb hby d63_14) rfl rfl (XS.iloadN X2.here hx rfl (hb hby d63_15) rfl (XS.aloadN X2.here hx rfl (hb hby d63_16) rfl rfl (XS.iloadN X2.here hx rfl (hb hby d63_17) rfl kk_))))) ?_
  show gN T2 (mkF m 18 #[rv d, rv b2, iv (0 : Int32)] [(.int (0 : Int32)), (.ref d), (.int (0 : Int32)), (.ref b2)])
  obtain ⟨cl4, Ar4, q4, Sz4, Nn4, Hh4, Gg4⟩ := id f2_0
  refine own_st (fun _ kk_ => X2.aaload hx (j := (0 : Int32)) (v := (.ref qa0)) (by rw [e2]; exact Ar4.1) (State.isArrayOf_alike hZ.alike Ar4.2.1) rfl Ar4.2.2 (inb_of Sz4 ⟨by decide, by decide⟩) (Hh4.at (inb_of Sz4 ⟨by decide, by decide⟩) rfl) (g := (mkF m 18 #[rv d, rv b2, iv (0 : Int32)] [(.int (0 : Int32)), (.ref d), (.int (0 : Int32)), (.ref b2)])) rfl rfl (hb hby d63_18) _ kk_) ?_
  show gN T2 (mkF m 19 #[rv d, rv b2, iv (0 : Int32)] [(.ref qa0), (.int (0 : Int32)), (.ref b2)])
  obtain ⟨T5, L5, v5, X5, hQ5, st5⟩ := own_cutA (Jvm.LawKit.callS X2 hx (y := yy43) hown (own_mw hZ hw 356 rfl) (own_mw hZ hw 280 rfl) (own_mw hZ hw 54 rfl) (own_mw hZ hw 281 rfl) (by decide) (backOf (W := 2) (rm49 l Z a0 hw (qa0) h2 n0 Zs2) hZ (own_w hw 281 rfl) (own_w hw 54 rfl) (by decide) (by decide)) (g := (mkF m 19 #[rv d, rv b2, iv (0 : Int32)] [(.ref qa0), (.int (0 : Int32)), (.ref b2)])) rfl (by rw [hml]; rfl) (argsL := [(.ref qa0)]) (rest := [(.int (0 : Int32)), (.ref b2)]) (lenOf pd_30 rfl) rfl (own_bl rfl) (hb hby d63_19) (fun _ _ => ⟨rfl, e2, own_bl rfl, own_bl rfl⟩))
  obtain ⟨rfl, Nq5, eq5⟩ := hQ5
  have N5 := Fr.app N0 Nq5
  refine own_st st5 ?_
  obtain ⟨cl6, Ar6, q6, Sz6, Nn6, Hh6, Gg6⟩ := id V2
  obtain ⟨T6, h6, X6, e6, W6, st6⟩ := stR X5 hx hZ eq5 Ar6 (j := (0 : Int32)) (inb_of Sz6 ⟨by decide, by decide⟩) rfl (Sto.ofV Ar6 q6 O2 (Ins.of_exa f2_1 (own_w hw 197 rfl))) (g := (mkF m 22 #[rv d, rv b2, iv (0 : Int32)] [(.ref qa0), (.int (0 : Int32)), (.ref b2)])) rfl rfl (hb hby d63_22)
  have V6 : Arv Z h6 b2 k2 (.object "java/lang/Object") (3 : Int32) [(.ref qa0), .null, .null] .null := Arv.set Ar6 q6 Sz6 Nn6 Hh6 Gg6 rfl W6 0 rfl (Nat.le_of_ble_eq_true rfl)
  have n2_d := own_nl p_0.lt gx2
  have f6_0 := f2_0.other W6 n2_d
  have f6_1 := f2_1.wr W6
  have f6_2 := f2_2.wr W6
  have f6_3 := f2_3.wr W6
  have f6_4 := Ea2.wr W6
  have Zs6 : n0 ≤ h6.size := Nat.le_trans Zs2 (Nat.le_of_eq W6.size.symm)
  have sz2 := Nat.le_trans (Keep.refl h0 []).1 (Nat.le_of_eq gx2.symm)
  have K6 := K2.wr W6 (Or.inr sz2)
  have gg2 := Nat.le_trans Z0 (Nat.le_of_eq gx2.symm)
  have N6 := Fr.snoc X6 N5 gg2
  refine own_st st6 ?_
  refine own_st (fun _ kk_ => XS.iinc X6.here hx rfl (hb hby d63_23) rfl (l' := #[rv d, rv b2, iv (1 : Int32)]) rfl (XS.goto X6.here hx rfl (pc0 := 26) (pc' := 8) rfl (hb hby d63_26) (by decide) (by decide) (XS.iloadN X6.here hx rfl (hb hby d63_8) rfl (XS.aloadN X6.here hx rfl (hb hby d63_9) rfl rfl kk_)))) ?_
  show gN T6 (mkF m 10 #[rv d, rv b2, iv (1 : Int32)] [(.ref d), (.int (1 : Int32))])
  obtain ⟨cl7, Ar7, -, Sz7, Nn7, -, -⟩ := id f6_0
  refine own_st (fun _ kk_ => X6.arraylength hx (by rw [e6]; exact Ar7.1) (State.isArrayOf_alike hZ.alike Ar7.2.1) (g := (mkF m 10 #[rv d, rv b2, iv (1 : Int32)] [(.ref d), (.int (1 : Int32))])) rfl rfl (hb hby d63_10) _ kk_) ?_
  rw [len_of Sz7 Nn7]
  show gN T6 (mkF m 11 #[rv d, rv b2, iv (1 : Int32)] [(.int (3 : Int32)), (.int (1 : Int32))])
  refine own_st (fun _ kk_ => XS.icmpNo X6.here hx rfl (hb hby d63_11) rfl (XT.ii_ge_f (by decide)) (XS.aloadN X6.here hx rfl (hb hby d63_14) rfl rfl (XS.iloadN X6.here hx rfl (hb hby d63_15) rfl (XS.aloadN X6.here hx rfl (hb hby d63_16) rfl rfl (XS.iloadN X6.here hx rfl (hb hby d63_17) rfl kk_))))) ?_
  show gN T6 (mkF m 18 #[rv d, rv b2, iv (1 : Int32)] [(.int (1 : Int32)), (.ref d), (.int (1 : Int32)), (.ref b2)])
  obtain ⟨cl8, Ar8, q8, Sz8, Nn8, Hh8, Gg8⟩ := id f6_0
  refine own_st (fun _ kk_ => X6.aaload hx (j := (1 : Int32)) (v := (.ref qa1)) (by rw [e6]; exact Ar8.1) (State.isArrayOf_alike hZ.alike Ar8.2.1) rfl Ar8.2.2 (inb_of Sz8 ⟨by decide, by decide⟩) (Hh8.at (inb_of Sz8 ⟨by decide, by decide⟩) rfl) (g := (mkF m 18 #[rv d, rv b2, iv (1 : Int32)] [(.int (1 : Int32)), (.ref d), (.int (1 : Int32)), (.ref b2)])) rfl rfl (hb hby d63_18) _ kk_) ?_
  show gN T6 (mkF m 19 #[rv d, rv b2, iv (1 : Int32)] [(.ref qa1), (.int (1 : Int32)), (.ref b2)])
  obtain ⟨T9, L9, v9, X9, hQ9, st9⟩ := own_cutA (Jvm.LawKit.callS X6 hx (y := yy43) hown (own_mw hZ hw 356 rfl) (own_mw hZ hw 280 rfl) (own_mw hZ hw 54 rfl) (own_mw hZ hw 281 rfl) (by decide) (backOf (W := 2) (rm49 l Z a0 hw (qa1) h6 n0 Zs6) hZ (own_w hw 281 rfl) (own_w hw 54 rfl) (by decide) (by decide)) (g := (mkF m 19 #[rv d, rv b2, iv (1 : Int32)] [(.ref qa1), (.int (1 : Int32)), (.ref b2)])) rfl (by rw [hml]; rfl) (argsL := [(.ref qa1)]) (rest := [(.int (1 : Int32)), (.ref b2)]) (lenOf pd_30 rfl) rfl (own_bl rfl) (hb hby d63_19) (fun _ _ => ⟨rfl, e6, own_bl rfl, own_bl rfl⟩))
  obtain ⟨rfl, Nq9, eq9⟩ := hQ9
  have N9 := Fr.app N6 Nq9
  refine own_st st9 ?_
  obtain ⟨cl10, Ar10, q10, Sz10, Nn10, Hh10, Gg10⟩ := id V6
  obtain ⟨T10, h10, X10, e10, W10, st10⟩ := stR X9 hx hZ eq9 Ar10 (j := (1 : Int32)) (inb_of Sz10 ⟨by decide, by decide⟩) rfl (Sto.ofV Ar10 q10 O2 (Ins.of_exa f6_2 (own_w hw 197 rfl))) (g := (mkF m 22 #[rv d, rv b2, iv (1 : Int32)] [(.ref qa1), (.int (1 : Int32)), (.ref b2)])) rfl rfl (hb hby d63_22)
  have V10 : Arv Z h10 b2 k2 (.object "java/lang/Object") (3 : Int32) [(.ref qa0), (.ref qa1), .null] .null := Arv.set Ar10 q10 Sz10 Nn10 Hh10 Gg10 rfl W10 1 rfl (Nat.le_of_ble_eq_true rfl)
  have f10_0 := f6_0.other W10 n2_d
  have f10_1 := f6_1.wr W10
  have f10_2 := f6_2.wr W10
  have f10_3 := f6_3.wr W10
  have f10_4 := f6_4.wr W10
  have Zs10 : n0 ≤ h10.size := Nat.le_trans Zs6 (Nat.le_of_eq W10.size.symm)
  have K10 := K6.wr W10 (Or.inr sz2)
  have N10 := Fr.snoc X10 N9 gg2
  refine own_st st10 ?_
  refine own_st (fun _ kk_ => XS.iinc X10.here hx rfl (hb hby d63_23) rfl (l' := #[rv d, rv b2, iv (2 : Int32)]) rfl (XS.goto X10.here hx rfl (pc0 := 26) (pc' := 8) rfl (hb hby d63_26) (by decide) (by decide) (XS.iloadN X10.here hx rfl (hb hby d63_8) rfl (XS.aloadN X10.here hx rfl (hb hby d63_9) rfl rfl kk_)))) ?_
  show gN T10 (mkF m 10 #[rv d, rv b2, iv (2 : Int32)] [(.ref d), (.int (2 : Int32))])
  obtain ⟨cl11, Ar11, -, Sz11, Nn11, -, -⟩ := id f10_0
  refine own_st (fun _ kk_ => X10.arraylength hx (by rw [e10]; exact Ar11.1) (State.isArrayOf_alike hZ.alike Ar11.2.1) (g := (mkF m 10 #[rv d, rv b2, iv (2 : Int32)] [(.ref d), (.int (2 : Int32))])) rfl rfl (hb hby d63_10) _ kk_) ?_
  rw [len_of Sz11 Nn11]
  show gN T10 (mkF m 11 #[rv d, rv b2, iv (2 : Int32)] [(.int (3 : Int32)), (.int (2 : Int32))])
  refine own_st (fun _ kk_ => XS.icmpNo X10.here hx rfl (hb hby d63_11) rfl (XT.ii_ge_f (by decide)) (XS.aloadN X10.here hx rfl (hb hby d63_14) rfl rfl (XS.iloadN X10.here hx rfl (hb hby d63_15) rfl (XS.aloadN X10.here hx rfl (hb hby d63_16) rfl rfl (XS.iloadN X10.here hx rfl (hb hby d63_17) rfl kk_))))) ?_
  show gN T10 (mkF m 18 #[rv d, rv b2, iv (2 : Int32)] [(.int (2 : Int32)), (.ref d), (.int (2 : Int32)), (.ref b2)])
  obtain ⟨cl12, Ar12, q12, Sz12, Nn12, Hh12, Gg12⟩ := id f10_0
  refine own_st (fun _ kk_ => X10.aaload hx (j := (2 : Int32)) (v := (.ref qa2)) (by rw [e10]; exact Ar12.1) (State.isArrayOf_alike hZ.alike Ar12.2.1) rfl Ar12.2.2 (inb_of Sz12 ⟨by decide, by decide⟩) (Hh12.at (inb_of Sz12 ⟨by decide, by decide⟩) rfl) (g := (mkF m 18 #[rv d, rv b2, iv (2 : Int32)] [(.int (2 : Int32)), (.ref d), (.int (2 : Int32)), (.ref b2)])) rfl rfl (hb hby d63_18) _ kk_) ?_
  show gN T10 (mkF m 19 #[rv d, rv b2, iv (2 : Int32)] [(.ref qa2), (.int (2 : Int32)), (.ref b2)])
  obtain ⟨T13, L13, v13, X13, hQ13, st13⟩ := own_cutA (Jvm.LawKit.callS X10 hx (y := yy43) hown (own_mw hZ hw 356 rfl) (own_mw hZ hw 280 rfl) (own_mw hZ hw 54 rfl) (own_mw hZ hw 281 rfl) (by decide) (backOf (W := 2) (rm49 l Z a0 hw (qa2) h10 n0 Zs10) hZ (own_w hw 281 rfl) (own_w hw 54 rfl) (by decide) (by decide)) (g := (mkF m 19 #[rv d, rv b2, iv (2 : Int32)] [(.ref qa2), (.int (2 : Int32)), (.ref b2)])) rfl (by rw [hml]; rfl) (argsL := [(.ref qa2)]) (rest := [(.int (2 : Int32)), (.ref b2)]) (lenOf pd_30 rfl) rfl (own_bl rfl) (hb hby d63_19) (fun _ _ => ⟨rfl, e10, own_bl rfl, own_bl rfl⟩))
  obtain ⟨rfl, Nq13, eq13⟩ := hQ13
  have N13 := Fr.app N10 Nq13
  refine own_st st13 ?_
  obtain ⟨cl14, Ar14, q14, Sz14, Nn14, Hh14, Gg14⟩ := id V10
  obtain ⟨T14, h14, X14, e14, W14, st14⟩ := stR X13 hx hZ eq13 Ar14 (j := (2 : Int32)) (inb_of Sz14 ⟨by decide, by decide⟩) rfl (Sto.ofV Ar14 q14 O2 (Ins.of_exa f10_3 (own_w hw 197 rfl))) (g := (mkF m 22 #[rv d, rv b2, iv (2 : Int32)] [(.ref qa2), (.int (2 : Int32)), (.ref b2)])) rfl rfl (hb hby d63_22)
  have V14 : Arv Z h14 b2 k2 (.object "java/lang/Object") (3 : Int32) [(.ref qa0), (.ref qa1), (.ref qa2)] .null := Arv.set Ar14 q14 Sz14 Nn14 Hh14 Gg14 rfl W14 2 rfl (Nat.le_of_ble_eq_true rfl)
  have f14_0 := f10_0.other W14 n2_d
  have f14_1 := f10_1.wr W14
  have f14_2 := f10_2.wr W14
  have f14_3 := f10_3.wr W14
  have f14_4 := f10_4.wr W14
  have Zs14 : n0 ≤ h14.size := Nat.le_trans Zs10 (Nat.le_of_eq W14.size.symm)
  have K14 := K10.wr W14 (Or.inr sz2)
  have N14 := Fr.snoc X14 N13 gg2
  refine own_st st14 ?_
  refine own_st (fun _ kk_ => XS.iinc X14.here hx rfl (hb hby d63_23) rfl (l' := #[rv d, rv b2, iv (3 : Int32)]) rfl (XS.goto X14.here hx rfl (pc0 := 26) (pc' := 8) rfl (hb hby d63_26) (by decide) (by decide) (XS.iloadN X14.here hx rfl (hb hby d63_8) rfl (XS.aloadN X14.here hx rfl (hb hby d63_9) rfl rfl kk_)))) ?_
  show gN T14 (mkF m 10 #[rv d, rv b2, iv (3 : Int32)] [(.ref d), (.int (3 : Int32))])
  obtain ⟨cl15, Ar15, -, Sz15, Nn15, -, -⟩ := id f14_0
  refine own_st (fun _ kk_ => X14.arraylength hx (by rw [e14]; exact Ar15.1) (State.isArrayOf_alike hZ.alike Ar15.2.1) (g := (mkF m 10 #[rv d, rv b2, iv (3 : Int32)] [(.ref d), (.int (3 : Int32))])) rfl rfl (hb hby d63_10) _ kk_) ?_
  rw [len_of Sz15 Nn15]
  show gN T14 (mkF m 11 #[rv d, rv b2, iv (3 : Int32)] [(.int (3 : Int32)), (.int (3 : Int32))])
  refine own_st (fun _ kk_ => XS.icmpYes X14.here hx rfl (pc0 := 11) (pc' := 29) rfl (hb hby d63_11) rfl (XT.ii_ge_t (by decide)) (by decide) (by decide) kk_) ?_
  show gN T14 (mkF m 29 #[rv d, rv b2, iv (3 : Int32)] [])
  obtain ⟨T16, h16, X16, e16, E16, A16, D16, -, st16⟩ := newO X14 hx hZ hown (own_w hw 217 rfl) (own_w hw 357 rfl) (own_w hw 358 rfl) e14 (g := (mkF m 29 #[rv d, rv b2, iv (3 : Int32)] [])) rfl (hb hby d63_29) (by decide) (by decide)
  obtain ⟨b16, gx16⟩ : ∃ z, z = h14.size := ⟨_, rfl⟩
  rw [← gx16] at A16 D16 st16
  have f16_0 := f14_0.ext E16
  have f16_1 := f14_1.ext E16
  have f16_2 := f14_2.ext E16
  have f16_3 := f14_3.ext E16
  have f16_4 := f14_4.ext E16
  have f16_5 := V14.ext E16
  have Zs16 : n0 ≤ h16.size := Nat.le_trans Zs14 E16.1
  have K16 := K14.ext E16
  have fn16_elements : Fld Z h16 b16 "java/util/ImmutableCollections$ListN" "elements" "[Ljava/lang/Object;" .null := D16 (Or.inr (own_w hw 368 rfl)) (ty := (.array (.object "java/lang/Object"))) (by decide)
  have fn16_allowNulls : Fld Z h16 b16 "java/util/ImmutableCollections$ListN" "allowNulls" "Z" (.int (0 : Int32)) := D16 (Or.inr (own_w hw 370 rfl)) (ty := .boolean) (by decide)
  refine own_st st16 ?_
  refine own_st (fun _ kk_ => XS.dup X16.here hx rfl (hb hby d63_32) rfl rfl (XS.aloadN X16.here hx rfl (hb hby d63_33) rfl rfl (XS.iconst X16.here hx rfl (hb hby d63_34) kk_))) ?_
  show gN T16 (mkF m 35 #[rv d, rv b2, iv (3 : Int32)] [(.int (0 : Int32)), (.ref b2), (.ref b16), (.ref b16)])
  have gg16 := Nat.le_trans Zs14 (Nat.le_of_eq gx16.symm)
  obtain ⟨T17, L17, v17, X17, hQ17, st17⟩ := own_cut (X16.specialBackNest hx (y := yy51) rfl hown (Cond.methodLinkNest_wide hZ (own_w hw 359 rfl) :) (own_mw hZ hw 360 rfl) (own_mw hZ hw 362 rfl) (by decide) (backOf (W := 1) (rm64 l Z a0 hw (b16) (b2) h16 n0 Zs16 A16 fn16_elements fn16_allowNulls gg16) hZ (own_w hw 362 rfl) (own_w hw 358 rfl) (by decide) (by decide)) (g := (mkF m 35 #[rv d, rv b2, iv (3 : Int32)] [(.int (0 : Int32)), (.ref b2), (.ref b16), (.ref b16)])) rfl (by rw [hml]; rfl) (Steps.refl _) (a := b16) (argsL := [(.ref b2), (.int (0 : Int32))]) (rest := [(.ref b16)]) (lenOf pd_31 rfl) rfl (own_bl rfl) (hb hby d63_35) (fun _ _ => ⟨rfl, e16, own_bl rfl, own_bl rfl⟩))
  obtain ⟨rfl, Nq17, Kq17, u17_0, u17_1⟩ := hQ17
  have N17 := Fr.app N14 Nq17
  have n16_d := own_nl f14_0.lt gx16
  have f17_0 := f16_0.keep Kq17 (ninS n16_d nin0)
  have f17_1 := f16_1.keep Kq17
  have f17_2 := f16_2.keep Kq17
  have f17_3 := f16_3.keep Kq17
  have f17_4 := f16_4.keep Kq17
  have n16_b2 := own_nl f14_4.lt gx16
  have f17_5 := f16_5.keep Kq17 (ninS n16_b2 nin0)
  have f17_6 := A16.keep Kq17
  have Zs17 : n0 ≤ T17.heap.size := Nat.le_trans Zs16 Kq17.1
  have sz16 := Nat.le_trans K14.1 (Nat.le_of_eq gx16.symm)
  have K17 := K16.trans Kq17 (allS (Or.inr sz16) all0)
  refine own_sTN st17 ?_
  refine own_retA X17 hx hlk rfl hret rfl (hb hby d63_38) (by decide) (by decide) ?_
  show Q63 Z qa0 qa1 qa2 h0 n0 (some (.ref b16)) T17.heap _
  exact ⟨b16, b2, k2, rfl, N17, K17, sz16, sz2, u17_0, u17_1, f17_5⟩
abbrev rRrm45 : Room := { frames := 6, cells := 2, slots := 5, locals := 77 }
abbrev c45 (n : Nat) (i : ClassFile.Instr) (k : Nat) : Prop := decode jdk_40_method_47_code n = .ok (i, k)
theorem d45_0 : c45 0 (.aload_n 0) 1 := by decide +kernel
theorem d45_1 : c45 1 (.arraylength) 1 := by decide +kernel
theorem d45_2 : c45 2 (.tableswitch 57 0 2 #[26, 32, 43]) 26 := by decide +kernel
theorem d45_34 : c45 34 (.new 96) 3 := by decide +kernel
theorem d45_37 : c45 37 (.dup) 1 := by decide +kernel
theorem d45_38 : c45 38 (.aload_n 0) 1 := by decide +kernel
theorem d45_39 : c45 39 (.iconst 0) 1 := by decide +kernel
theorem d45_40 : c45 40 (.aaload) 1 := by decide +kernel
theorem d45_41 : c45 41 (.invokespecial 98) 3 := by decide +kernel
theorem d45_44 : c45 44 (.areturn) 1 := by decide +kernel
theorem d45_45 : c45 45 (.new 96) 3 := by decide +kernel
theorem d45_48 : c45 48 (.dup) 1 := by decide +kernel
theorem d45_49 : c45 49 (.aload_n 0) 1 := by decide +kernel
theorem d45_50 : c45 50 (.iconst 0) 1 := by decide +kernel
theorem d45_51 : c45 51 (.aaload) 1 := by decide +kernel
theorem d45_52 : c45 52 (.aload_n 0) 1 := by decide +kernel
theorem d45_53 : c45 53 (.iconst 1) 1 := by decide +kernel
theorem d45_54 : c45 54 (.aaload) 1 := by decide +kernel
theorem d45_55 : c45 55 (.invokespecial 100) 3 := by decide +kernel
theorem d45_58 : c45 58 (.areturn) 1 := by decide +kernel
theorem d45_59 : c45 59 (.aload_n 0) 1 := by decide +kernel
theorem d45_60 : c45 60 (.invokestatic 109) 3 := by decide +kernel
theorem d45_63 : c45 63 (.areturn) 1 := by decide +kernel
theorem pd_32 : parseMethodDescriptor "(Ljava/lang/Object;)V" = some ⟨[(.object "java/lang/Object")], none⟩ := by decide +kernel
theorem pd_33 : parseMethodDescriptor "(Ljava/lang/Object;Ljava/lang/Object;)V" = some ⟨[(.object "java/lang/Object"), (.object "java/lang/Object")], none⟩ := by decide +kernel
theorem pd_34 : parseMethodDescriptor "([Ljava/lang/Object;)Ljava/util/List;" = some ⟨[(.array (.object "java/lang/Object"))], some (.object "java/util/List")⟩ := by decide +kernel
theorem pn_45 : plainFor yy53 = true := by decide +kernel
theorem ef_rm45 (m : MethodId) (d : Addr) : entryFrame m #[(.ref d)] 2 = (mkF m 0 #[rv d, oU] []) := by first | (simp [entryFrame, mkF, argsToLocals, Value.category]; done) | rfl
def Q45 (Z : State) (n9 : Int32) (qa0 : Addr) (qa1 : Addr) (qa2 : Addr) (em : Addr) (h0 : Heap) (n0 : Nat) (v_ : Option Value) (h_ : Heap) (L_ : List Loc) : Prop := ∃ li : Addr, (v_ = some (.ref li)) ∧ (Fr n0 L_) ∧ (Keep h0 h_ []) ∧ (h0.size ≤ li) ∧ (own_l Z h_ h0.size li n9 qa0 qa1 qa2 em)
theorem rm45 (l : Launch) (Z : State) (a0 : Array Value) (hw : own_T a0 Z) (d : Addr) (kd : ClassId) (n9 : Int32) (vs1 : List Value) (qa0 : Addr) (qa1 : Addr) (qa2 : Addr) (em : Addr) (h0 : Heap) (n0 : Nat) (Z0 : n0 ≤ h0.size) (p_0 : Arv Z h0 d kd (.object "java/lang/Object") n9 vs1 .null) (p_1 : Sta Z h0 "java/util/ImmutableCollections" "EMPTY" "Ljava/lang/Object;" (.ref em)) (p_2 : Exa Z h0 qa0 "com/example/firm_duties/firmduties/BusinessContext$Pair") (p_3 : Exa Z h0 qa1 "com/example/firm_duties/firmduties/BusinessContext$Pair") (p_4 : Exa Z h0 qa2 "com/example/firm_duties/firmduties/BusinessContext$Pair") (hu : own_u n9 vs1 qa0 qa1 qa2) (hne : qa1 ≠ em) :
    own_Met l yy53 jdk_40_method_47_code 2 (some (.object "java/util/List")) [] rRrm45 Z h0 #[(.ref d)] (Q45 Z n9 qa0 qa1 qa2 em h0 n0) := by
  refine own_openN pn_45 (own := "java/util/List") rfl ?_
  intro p e s m below meth c s₁ hx hby hlk hml hret hZ hown hnm X0 e0
  have N0 := Fr.nil n0
  rw [ef_rm45 m d]
  show own_Goes p e below s (Q45 Z n9 qa0 qa1 qa2 em h0 n0) rRrm45.cells rRrm45.slots s₁ (mkF m 0 #[rv d, oU] [])
  rcases hu with ⟨rfl, rfl⟩ | ⟨rfl, rfl⟩ | ⟨rfl, rfl⟩
  · show gN s₁ (mkF m 0 #[rv d, oU] [])
    refine own_st (fun _ kk_ => XS.aloadN X0.here hx rfl (hb hby d45_0) rfl rfl kk_) ?_
    show gN s₁ (mkF m 1 #[rv d, oU] [(.ref d)])
    obtain ⟨cl1, Ar1, -, Sz1, Nn1, -, -⟩ := id p_0
    refine own_st (fun _ kk_ => X0.arraylength hx (by rw [e0]; exact Ar1.1) (State.isArrayOf_alike hZ.alike Ar1.2.1) (g := (mkF m 1 #[rv d, oU] [(.ref d)])) rfl rfl (hb hby d45_1) _ kk_) ?_
    rw [len_of Sz1 Nn1]
    show gN s₁ (mkF m 2 #[rv d, oU] [(.int (1 : Int32))])
    refine own_st (fun _ kk_ => X0.tableswitchIn hx (g := (mkF m 2 #[rv d, oU] [(.int (1 : Int32))])) rfl rfl (hb hby d45_2) (by decide) (off := 32) rfl (by show (0 : Int) ≤ 2 + 32; decide) _ kk_) ?_
    show gN s₁ (mkF m 34 #[rv d, oU] [])
    obtain ⟨T2, h2, X2, e2, E2, A2, D2, -, st2⟩ := newO X0 hx hZ hown (own_w hw 258 rfl) (own_w hw 259 rfl) (own_w hw 260 rfl) e0 (g := (mkF m 34 #[rv d, oU] [])) rfl (hb hby d45_34) (by decide) (by decide)
    obtain ⟨b2, gx2⟩ : ∃ z, z = h0.size := ⟨_, rfl⟩
    rw [← gx2] at A2 D2 st2
    have f2_0 := p_0.ext E2
    have f2_1 := p_1.ext E2
    have f2_2 := p_2.ext E2
    have f2_3 := p_3.ext E2
    have f2_4 := p_4.ext E2
    have Zs2 : n0 ≤ h2.size := Nat.le_trans Z0 E2.1
    have K2 := (Keep.refl h0 []).ext E2
    have fn2_e0 : Fld Z h2 b2 "java/util/ImmutableCollections$List12" "e0" "Ljava/lang/Object;" .null := D2 (Or.inr (own_w hw 283 rfl)) (ty := (.object "java/lang/Object")) (by decide)
    have fn2_e1 : Fld Z h2 b2 "java/util/ImmutableCollections$List12" "e1" "Ljava/lang/Object;" .null := D2 (Or.inr (own_w hw 286 rfl)) (ty := (.object "java/lang/Object")) (by decide)
    refine own_st st2 ?_
    refine own_st (fun _ kk_ => XS.dup X2.here hx rfl (hb hby d45_37) rfl rfl (XS.aloadN X2.here hx rfl (hb hby d45_38) rfl rfl (XS.iconst X2.here hx rfl (hb hby d45_39) kk_))) ?_
    show gN T2 (mkF m 40 #[rv d, oU] [(.int (0 : Int32)), (.ref d), (.ref b2), (.ref b2)])
    obtain ⟨cl3, Ar3, q3, Sz3, Nn3, Hh3, Gg3⟩ := id f2_0
    refine own_st (fun _ kk_ => X2.aaload hx (j := (0 : Int32)) (v := (.ref qa0)) (by rw [e2]; exact Ar3.1) (State.isArrayOf_alike hZ.alike Ar3.2.1) rfl Ar3.2.2 (inb_of Sz3 ⟨by decide, by decide⟩) (Hh3.at (inb_of Sz3 ⟨by decide, by decide⟩) rfl) (g := (mkF m 40 #[rv d, oU] [(.int (0 : Int32)), (.ref d), (.ref b2), (.ref b2)])) rfl rfl (hb hby d45_40) _ kk_) ?_
    show gN T2 (mkF m 41 #[rv d, oU] [(.ref qa0), (.ref b2), (.ref b2)])
    have gg2 := Nat.le_trans Z0 (Nat.le_of_eq gx2.symm)
    obtain ⟨T4, L4, v4, X4, hQ4, st4⟩ := own_cut (X2.specialBack hx (y := yy49) rfl hown (own_mw hZ hw 261 rfl) (own_mw hZ hw 262 rfl) (own_mw hZ hw 264 rfl) (by decide) (backOf (W := 1) (rmLI1 l Z a0 hw (b2) (qa0) (em) h2 n0 Zs2 A2 fn2_e0 fn2_e1 gg2 f2_1) hZ (own_w hw 264 rfl) (own_w hw 260 rfl) (by decide) (by decide)) (g := (mkF m 41 #[rv d, oU] [(.ref qa0), (.ref b2), (.ref b2)])) rfl (by rw [hml]; rfl) (Steps.refl _) (a := b2) (argsL := [(.ref qa0)]) (rest := [(.ref b2)]) (lenOf pd_32 rfl) rfl (own_bl rfl) (hb hby d45_41) (fun _ _ => ⟨rfl, e2, own_bl rfl, own_bl rfl⟩))
    obtain ⟨rfl, Nq4, Kq4, u4_0, u4_1, u4_2⟩ := hQ4
    have N4 := Fr.app N0 Nq4
    have n2_d := own_nl p_0.lt gx2
    have f4_0 := f2_0.keep Kq4 (ninS n2_d nin0)
    have f4_1 := own_Sta_keep f2_1 Kq4 (nsS A2.nostat ns0)
    have f4_2 := f2_2.keep Kq4
    have f4_3 := f2_3.keep Kq4
    have f4_4 := f2_4.keep Kq4
    have f4_5 := A2.keep Kq4
    have Zs4 : n0 ≤ T4.heap.size := Nat.le_trans Zs2 Kq4.1
    have sz2 := Nat.le_trans (Keep.refl h0 []).1 (Nat.le_of_eq gx2.symm)
    have K4 := K2.trans Kq4 (allS (Or.inr sz2) all0)
    refine own_sTN st4 ?_
    refine own_retA X4 hx hlk rfl hret rfl (hb hby d45_44) (by decide) (by decide) ?_
    show Q45 Z (1 : Int32) qa0 qa1 qa2 em h0 n0 (some (.ref b2)) T4.heap _
    exact ⟨b2, rfl, N4, K4, sz2, (Or.inl ⟨rfl, u4_0, u4_1, u4_2⟩)⟩
  · show gN s₁ (mkF m 0 #[rv d, oU] [])
    refine own_st (fun _ kk_ => XS.aloadN X0.here hx rfl (hb hby d45_0) rfl rfl kk_) ?_
    show gN s₁ (mkF m 1 #[rv d, oU] [(.ref d)])
    obtain ⟨cl5, Ar5, -, Sz5, Nn5, -, -⟩ := id p_0
    refine own_st (fun _ kk_ => X0.arraylength hx (by rw [e0]; exact Ar5.1) (State.isArrayOf_alike hZ.alike Ar5.2.1) (g := (mkF m 1 #[rv d, oU] [(.ref d)])) rfl rfl (hb hby d45_1) _ kk_) ?_
    rw [len_of Sz5 Nn5]
    show gN s₁ (mkF m 2 #[rv d, oU] [(.int (2 : Int32))])
    refine own_st (fun _ kk_ => X0.tableswitchIn hx (g := (mkF m 2 #[rv d, oU] [(.int (2 : Int32))])) rfl rfl (hb hby d45_2) (by decide) (off := 43) rfl (by show (0 : Int) ≤ 2 + 43; decide) _ kk_) ?_
    show gN s₁ (mkF m 45 #[rv d, oU] [])
    obtain ⟨T6, h6, X6, e6, E6, A6, D6, -, st6⟩ := newO X0 hx hZ hown (own_w hw 258 rfl) (own_w hw 259 rfl) (own_w hw 260 rfl) e0 (g := (mkF m 45 #[rv d, oU] [])) rfl (hb hby d45_45) (by decide) (by decide)
    obtain ⟨b6, gx6⟩ : ∃ z, z = h0.size := ⟨_, rfl⟩
    rw [← gx6] at A6 D6 st6
    have f6_0 := p_0.ext E6
    have f6_1 := p_1.ext E6
    have f6_2 := p_2.ext E6
    have f6_3 := p_3.ext E6
    have f6_4 := p_4.ext E6
    have Zs6 : n0 ≤ h6.size := Nat.le_trans Z0 E6.1
    have K6 := (Keep.refl h0 []).ext E6
    have fn6_e0 : Fld Z h6 b6 "java/util/ImmutableCollections$List12" "e0" "Ljava/lang/Object;" .null := D6 (Or.inr (own_w hw 283 rfl)) (ty := (.object "java/lang/Object")) (by decide)
    have fn6_e1 : Fld Z h6 b6 "java/util/ImmutableCollections$List12" "e1" "Ljava/lang/Object;" .null := D6 (Or.inr (own_w hw 286 rfl)) (ty := (.object "java/lang/Object")) (by decide)
    refine own_st st6 ?_
    refine own_st (fun _ kk_ => XS.dup X6.here hx rfl (hb hby d45_48) rfl rfl (XS.aloadN X6.here hx rfl (hb hby d45_49) rfl rfl (XS.iconst X6.here hx rfl (hb hby d45_50) kk_))) ?_
    show gN T6 (mkF m 51 #[rv d, oU] [(.int (0 : Int32)), (.ref d), (.ref b6), (.ref b6)])
    obtain ⟨cl7, Ar7, q7, Sz7, Nn7, Hh7, Gg7⟩ := id f6_0
    refine own_st (fun _ kk_ => X6.aaload hx (j := (0 : Int32)) (v := (.ref qa0)) (by rw [e6]; exact Ar7.1) (State.isArrayOf_alike hZ.alike Ar7.2.1) rfl Ar7.2.2 (inb_of Sz7 ⟨by decide, by decide⟩) (Hh7.at (inb_of Sz7 ⟨by decide, by decide⟩) rfl) (g := (mkF m 51 #[rv d, oU] [(.int (0 : Int32)), (.ref d), (.ref b6), (.ref b6)])) rfl rfl (hb hby d45_51) _ kk_) ?_
    show gN T6 (mkF m 52 #[rv d, oU] [(.ref qa0), (.ref b6), (.ref b6)])
    refine own_st (fun _ kk_ => XS.aloadN X6.here hx rfl (hb hby d45_52) rfl rfl (XS.iconst X6.here hx rfl (hb hby d45_53) kk_)) ?_
    show gN T6 (mkF m 54 #[rv d, oU] [(.int (1 : Int32)), (.ref d), (.ref qa0), (.ref b6), (.ref b6)])
    obtain ⟨cl8, Ar8, q8, Sz8, Nn8, Hh8, Gg8⟩ := id f6_0
    refine own_st (fun _ kk_ => X6.aaload hx (j := (1 : Int32)) (v := (.ref qa1)) (by rw [e6]; exact Ar8.1) (State.isArrayOf_alike hZ.alike Ar8.2.1) rfl Ar8.2.2 (inb_of Sz8 ⟨by decide, by decide⟩) (Hh8.at (inb_of Sz8 ⟨by decide, by decide⟩) rfl) (g := (mkF m 54 #[rv d, oU] [(.int (1 : Int32)), (.ref d), (.ref qa0), (.ref b6), (.ref b6)])) rfl rfl (hb hby d45_54) _ kk_) ?_
    show gN T6 (mkF m 55 #[rv d, oU] [(.ref qa1), (.ref qa0), (.ref b6), (.ref b6)])
    have gg6 := Nat.le_trans Z0 (Nat.le_of_eq gx6.symm)
    obtain ⟨T9, L9, v9, X9, hQ9, st9⟩ := own_cut (X6.specialBack hx (y := yy50) rfl hown (own_mw hZ hw 298 rfl) (own_mw hZ hw 299 rfl) (own_mw hZ hw 300 rfl) (by decide) (backOf (W := 1) (rmLI2 l Z a0 hw (b6) (qa0) (qa1) h6 n0 Zs6 A6 fn6_e0 fn6_e1 gg6) hZ (own_w hw 300 rfl) (own_w hw 260 rfl) (by decide) (by decide)) (g := (mkF m 55 #[rv d, oU] [(.ref qa1), (.ref qa0), (.ref b6), (.ref b6)])) rfl (by rw [hml]; rfl) (Steps.refl _) (a := b6) (argsL := [(.ref qa0), (.ref qa1)]) (rest := [(.ref b6)]) (lenOf pd_33 rfl) rfl (own_bl rfl) (hb hby d45_55) (fun _ _ => ⟨rfl, e6, own_bl rfl, own_bl rfl⟩))
    obtain ⟨rfl, Nq9, Kq9, u9_0, u9_1, u9_2⟩ := hQ9
    have N9 := Fr.app N0 Nq9
    have n6_d := own_nl p_0.lt gx6
    have f9_0 := f6_0.keep Kq9 (ninS n6_d nin0)
    have f9_1 := own_Sta_keep f6_1 Kq9 (nsS A6.nostat ns0)
    have f9_2 := f6_2.keep Kq9
    have f9_3 := f6_3.keep Kq9
    have f9_4 := f6_4.keep Kq9
    have f9_5 := A6.keep Kq9
    have Zs9 : n0 ≤ T9.heap.size := Nat.le_trans Zs6 Kq9.1
    have sz6 := Nat.le_trans (Keep.refl h0 []).1 (Nat.le_of_eq gx6.symm)
    have K9 := K6.trans Kq9 (allS (Or.inr sz6) all0)
    refine own_sTN st9 ?_
    refine own_retA X9 hx hlk rfl hret rfl (hb hby d45_58) (by decide) (by decide) ?_
    show Q45 Z (2 : Int32) qa0 qa1 qa2 em h0 n0 (some (.ref b6)) T9.heap _
    exact ⟨b6, rfl, N9, K9, sz6, (Or.inr (Or.inl ⟨rfl, u9_0, u9_1, u9_2, hne⟩))⟩
  · show gN s₁ (mkF m 0 #[rv d, oU] [])
    refine own_st (fun _ kk_ => XS.aloadN X0.here hx rfl (hb hby d45_0) rfl rfl kk_) ?_
    show gN s₁ (mkF m 1 #[rv d, oU] [(.ref d)])
    obtain ⟨cl10, Ar10, -, Sz10, Nn10, -, -⟩ := id p_0
    refine own_st (fun _ kk_ => X0.arraylength hx (by rw [e0]; exact Ar10.1) (State.isArrayOf_alike hZ.alike Ar10.2.1) (g := (mkF m 1 #[rv d, oU] [(.ref d)])) rfl rfl (hb hby d45_1) _ kk_) ?_
    rw [len_of Sz10 Nn10]
    show gN s₁ (mkF m 2 #[rv d, oU] [(.int (3 : Int32))])
    refine own_st (fun _ kk_ => X0.tableswitchOut hx (g := (mkF m 2 #[rv d, oU] [(.int (3 : Int32))])) rfl rfl (hb hby d45_2) (by decide) (by show (0 : Int) ≤ 2 + 57; decide) _ kk_) ?_
    show gN s₁ (mkF m 59 #[rv d, oU] [])
    refine own_st (fun _ kk_ => XS.aloadN X0.here hx rfl (hb hby d45_59) rfl rfl kk_) ?_
    show gN s₁ (mkF m 60 #[rv d, oU] [(.ref d)])
    obtain ⟨T11, L11, v11, X11, hQ11, st11⟩ := own_cutA (Jvm.LawKit.callS X0 hx (y := yy52) hown (own_mw hZ hw 352 rfl) (own_mw hZ hw 353 rfl) (own_mw hZ hw 210 rfl) (own_mw hZ hw 354 rfl) (by decide) (backOf (W := 0) (rm63 l Z a0 hw (d) (kd) (qa0) (qa1) (qa2) h0 n0 Z0 p_0 p_2 p_3 p_4) hZ (own_w hw 354 rfl) (own_w hw 210 rfl) (by decide) (by decide)) (g := (mkF m 60 #[rv d, oU] [(.ref d)])) rfl (by rw [hml]; rfl) (argsL := [(.ref d)]) (rest := []) (lenOf pd_34 rfl) rfl (own_bl rfl) (hb hby d45_60) (fun _ _ => ⟨rfl, e0, own_bl rfl, own_bl rfl⟩))
    obtain ⟨x11_li, x11_y, x11_ky, rfl, Nq11, Kq11, u11_0, u11_1, u11_2, u11_3, u11_4⟩ := hQ11
    have N11 := Fr.app N0 Nq11
    have f11_0 := p_0.keep Kq11 nin0
    have f11_1 := own_Sta_keep p_1 Kq11 ns0
    have f11_2 := p_2.keep Kq11
    have f11_3 := p_3.keep Kq11
    have f11_4 := p_4.keep Kq11
    have Zs11 : n0 ≤ T11.heap.size := Nat.le_trans Z0 Kq11.1
    have K11 := (Keep.refl h0 []).trans Kq11 all0
    refine own_st st11 ?_
    have sz11_y := Nat.le_trans (Keep.refl h0 []).1 u11_1
    have sz11_li := Nat.le_trans (Keep.refl h0 []).1 u11_0
    refine own_retA X11 hx hlk rfl hret rfl (hb hby d45_63) (by decide) (by decide) ?_
    show Q45 Z (3 : Int32) qa0 qa1 qa2 em h0 n0 (some (.ref x11_li)) T11.heap _
    exact ⟨x11_li, rfl, N11, K11, sz11_li, (Or.inr (Or.inr ⟨rfl, _, _, u11_2, u11_3, u11_4, sz11_y⟩))⟩
abbrev rRrm65 : Room := { frames := 0, cells := 0, slots := 0, locals := 0 }
abbrev c65 (n : Nat) (i : ClassFile.Instr) (k : Nat) : Prop := decode jdk_45_method_2_code n = .ok (i, k)
theorem d65_0 : c65 0 (.aload_n 0) 1 := by decide +kernel
theorem d65_1 : c65 1 (.getfield 7) 3 := by decide +kernel
theorem d65_4 : c65 4 (.arraylength) 1 := by decide +kernel
theorem d65_5 : c65 5 (.ifCond .ne 7) 3 := by decide +kernel
theorem d65_12 : c65 12 (.iconst 0) 1 := by decide +kernel
theorem d65_13 : c65 13 (.ireturn) 1 := by decide +kernel
theorem pn_65 : plainFor yy54 = true := by decide +kernel
theorem ef_rm65 (m : MethodId) (li : Addr) : entryFrame m #[(.ref li)] 1 = (mkF m 0 #[rv li] []) := by first | (simp [entryFrame, mkF, argsToLocals, Value.category]; done) | rfl
def Q65 (Z : State) (h0 : Heap) (n0 : Nat) (v_ : Option Value) (h_ : Heap) (L_ : List Loc) : Prop := (v_ = some (.int (0 : Int32))) ∧ (Fr n0 L_) ∧ (h_ = h0)
theorem rm65 (l : Launch) (Z : State) (a0 : Array Value) (hw : own_T a0 Z) (li : Addr) (d : Addr) (kd : ClassId) (qa0 : Addr) (qa1 : Addr) (qa2 : Addr) (h0 : Heap) (n0 : Nat) (Z0 : n0 ≤ h0.size) (p_0 : Exa Z h0 li "java/util/ImmutableCollections$ListN") (p_1 : Fld Z h0 li "java/util/ImmutableCollections$ListN" "elements" "[Ljava/lang/Object;" (.ref d)) (p_2 : Arv Z h0 d kd (.object "java/lang/Object") (3 : Int32) [(.ref qa0), (.ref qa1), (.ref qa2)] .null) :
    own_Met l yy54 jdk_45_method_2_code 1 (some .boolean) [] rRrm65 Z h0 #[(.ref li)] (Q65 Z h0 n0) := by
  refine own_openN pn_65 (own := "java/util/ImmutableCollections$ListN") rfl ?_
  intro p e s m below meth c s₁ hx hby hlk hml hret hZ hown hnm X0 e0
  have N0 := Fr.nil n0
  rw [ef_rm65 m li]
  show own_Goes p e below s (Q65 Z h0 n0) rRrm65.cells rRrm65.slots s₁ (mkF m 0 #[rv li] [])
  refine own_st (fun _ kk_ => XS.aloadN X0.here hx rfl (hb hby d65_0) rfl rfl kk_) ?_
  show gN s₁ (mkF m 1 #[rv li] [(.ref li)])
  obtain ⟨T1, X1, e1, st1⟩ := getF X0 hx hZ hown (host := "") (Or.inl (own_w hw 367 rfl)) Via.refl e0 p_1 (g := (mkF m 1 #[rv li] [(.ref li)])) rfl rfl (hb hby d65_1)
  refine own_st st1 ?_
  obtain ⟨cl2, Ar2, -, Sz2, Nn2, -, -⟩ := id p_2
  refine own_st (fun _ kk_ => X1.arraylength hx (by rw [e1]; exact Ar2.1) (State.isArrayOf_alike hZ.alike Ar2.2.1) (g := (mkF m 4 #[rv li] [(.ref d)])) rfl rfl (hb hby d65_4) _ kk_) ?_
  rw [len_of Sz2 Nn2]
  show gN T1 (mkF m 5 #[rv li] [(.int (3 : Int32))])
  refine own_st (fun _ kk_ => XS.ifYes X1.here hx rfl (pc0 := 5) (pc' := 12) rfl (hb hby d65_5) rfl (XT.i0_ne_t (by decide)) (by decide) (by decide) (XS.iconst X1.here hx rfl (hb hby d65_12) kk_)) ?_
  show gN T1 (mkF m 13 #[rv li] [(.int (0 : Int32))])
  refine own_retN X1 hx hlk (t := .boolean) hret (by simp) (hb hby d65_13) (by decide) (by decide) ?_
  show Q65 Z h0 n0 (some (.int (nar .boolean (0 : Int32)))) T1.heap _
  rw [e1]
  exact ⟨rfl, N0, rfl⟩
abbrev rRrm40 : Room := { frames := 7, cells := 3, slots := 8, locals := 90 }
abbrev c40 (n : Nat) (i : ClassFile.Instr) (k : Nat) : Prop := decode jdk_56_method_3_code n = .ok (i, k)
theorem d40_0 : c40 0 (.aload_n 0) 1 := by decide +kernel
theorem d40_1 : c40 1 (.instanceof 10) 3 := by decide +kernel
theorem d40_4 : c40 4 (.ifCond .ne 22) 3 := by decide +kernel
theorem d40_7 : c40 7 (.aload_n 0) 1 := by decide +kernel
theorem d40_8 : c40 8 (.instanceof 12) 3 := by decide +kernel
theorem d40_11 : c40 11 (.ifCond .eq 20) 3 := by decide +kernel
theorem d40_31 : c40 31 (.aload_n 0) 1 := by decide +kernel
theorem d40_32 : c40 32 (.invokeinterface 20 1) 5 := by decide +kernel
theorem d40_37 : c40 37 (.ifCond .eq 7) 3 := by decide +kernel
theorem d40_44 : c40 44 (.aload_n 0) 1 := by decide +kernel
theorem d40_45 : c40 45 (.invokeinterface 30 1) 5 := by decide +kernel
theorem d40_50 : c40 50 (.invokestatic 34) 3 := by decide +kernel
theorem d40_53 : c40 53 (.areturn) 1 := by decide +kernel
theorem pn_40 : plainFor yy57 = true := by decide +kernel
theorem ef_rm40 (m : MethodId) (al : Addr) : entryFrame m #[(.ref al)] 2 = (mkF m 0 #[rv al, oU] []) := by first | (simp [entryFrame, mkF, argsToLocals, Value.category]; done) | rfl
def Q40 (Z : State) (n9 : Int32) (qa0 : Addr) (qa1 : Addr) (qa2 : Addr) (em : Addr) (h0 : Heap) (n0 : Nat) (v_ : Option Value) (h_ : Heap) (L_ : List Loc) : Prop := ∃ li : Addr, (v_ = some (.ref li)) ∧ (Fr n0 L_) ∧ (Keep h0 h_ []) ∧ (h0.size ≤ li) ∧ (own_l Z h_ h0.size li n9 qa0 qa1 qa2 em)
theorem rm40 (l : Launch) (Z : State) (a0 : Array Value) (hw : own_T a0 Z) (al : Addr) (d : Addr) (kd : ClassId) (n9 : Int32) (vs1 : List Value) (qa0 : Addr) (qa1 : Addr) (qa2 : Addr) (mo : Addr) (em : Addr) (h0 : Heap) (n0 : Nat) (Z0 : n0 ≤ h0.size) (p_0 : Exa Z h0 al "java/util/ArrayList") (p_1 : Fld Z h0 al "java/util/ArrayList" "elementData" "[Ljava/lang/Object;" (.ref d)) (p_2 : Fld Z h0 al "java/util/ArrayList" "size" "I" (.int n9)) (p_3 : Arv Z h0 d kd (.object "java/lang/Object") (10 : Int32) vs1 .null) (p_4 : Exa Z h0 d "[Ljava/lang/Object;") (p_5 : Exa Z h0 qa0 "com/example/firm_duties/firmduties/BusinessContext$Pair") (p_6 : Exa Z h0 qa1 "com/example/firm_duties/firmduties/BusinessContext$Pair") (p_7 : Exa Z h0 qa2 "com/example/firm_duties/firmduties/BusinessContext$Pair") (hmir : (Jvm.Term.mirror "[Ljava/lang/Object;").eval a0 Z none [] Z = some (.ref mo)) (p_9 : Sta Z h0 "java/util/ImmutableCollections" "EMPTY" "Ljava/lang/Object;" (.ref em)) (hv : own_v n9 vs1 qa0 qa1 qa2) (hne : qa1 ≠ em) :
    own_Met l yy57 jdk_56_method_3_code 2 (some (.object "java/util/List")) [] rRrm40 Z h0 #[(.ref al)] (Q40 Z n9 qa0 qa1 qa2 em h0 n0) := by
  refine own_openN pn_40 (own := "java/util/ImmutableCollections") rfl ?_
  intro p e s m below meth c s₁ hx hby hlk hml hret hZ hown hnm X0 e0
  have N0 := Fr.nil n0
  rw [ef_rm40 m al]
  show own_Goes p e below s (Q40 Z n9 qa0 qa1 qa2 em h0 n0) rRrm40.cells rRrm40.slots s₁ (mkF m 0 #[rv al, oU] [])
  refine own_st (fun _ kk_ => XS.aloadN X0.here hx rfl (hb hby d40_0) rfl rfl kk_) ?_
  show gN s₁ (mkF m 1 #[rv al, oU] [(.ref al)])
  obtain ⟨T1, X1, e1, st1⟩ := instNo X0 hx hZ hown (own_w hw 212 rfl) e0 p_0 (own_nsn (own_w hw 213 rfl) (own_w hw 259 rfl) (NS.step (own_w hw 213 rfl) (NS.step (own_w hw 214 rfl) (NS.step (own_w hw 215 rfl) (own_nsr (own_w hw 216 rfl) (own_w hw 259 rfl) (by decide)) (by decide)) (by decide)) (by decide)) (by decide)) (g := (mkF m 1 #[rv al, oU] [(.ref al)])) rfl rfl (hb hby d40_1)
  refine own_st st1 ?_
  refine own_st (fun _ kk_ => XS.ifNo X1.here hx rfl (hb hby d40_4) rfl (XT.i0_ne_f (by decide)) (XS.aloadN X1.here hx rfl (hb hby d40_7) rfl rfl kk_)) ?_
  show gN T1 (mkF m 8 #[rv al, oU] [(.ref al)])
  obtain ⟨T2, X2, e2, st2⟩ := instNo X1 hx hZ hown (own_w hw 217 rfl) e1 p_0 (own_nsn (own_w hw 213 rfl) (own_w hw 357 rfl) (NS.step (own_w hw 213 rfl) (NS.step (own_w hw 214 rfl) (NS.step (own_w hw 215 rfl) (own_nsr (own_w hw 216 rfl) (own_w hw 357 rfl) (by decide)) (by decide)) (by decide)) (by decide)) (by decide)) (g := (mkF m 8 #[rv al, oU] [(.ref al)])) rfl rfl (hb hby d40_8)
  refine own_st st2 ?_
  refine own_st (fun _ kk_ => XS.ifYes X2.here hx rfl (pc0 := 11) (pc' := 31) rfl (hb hby d40_11) rfl (XT.i0_eq_t (by decide)) (by decide) (by decide) (XS.aloadN X2.here hx rfl (hb hby d40_31) rfl rfl kk_)) ?_
  show gN T2 (mkF m 32 #[rv al, oU] [(.ref al)])
  obtain ⟨cq3, kq3, q3a, q3b, q3c⟩ := isOf hZ e2 p_0
  obtain ⟨T3, L3, v3, X3, hQ3, st3⟩ := own_cut (X2.interfaceBack hx (xi := yy55) (y := yy48) hown (own_mw hZ hw 218 rfl) (own_mw hZ hw 219 rfl) (own_mw hZ hw 220 rfl) (own_mw hZ hw 221 rfl) (own_mw hZ hw 222 rfl) (own_mw hZ hw 223 rfl) (own_mw hZ hw 224 rfl) (own_mw hZ hw 225 rfl) (by decide) (backOf (W := 0) (rm41 l Z a0 hw (al) (n9) h0 n0 Z0 p_0 p_2 hv.nz) hZ (own_w hw 226 rfl) (own_w hw 144 rfl) (by decide) (by decide)) q3a q3b q3c (g := (mkF m 32 #[rv al, oU] [(.ref al)])) rfl (by rw [hml]; rfl) (Steps.refl _) (argsL := []) (rest := []) (lenOf pd_5 rfl) rfl (own_bl rfl) (hb hby d40_32) (fun _ _ => ⟨rfl, e2, own_bl rfl, own_bl rfl⟩))
  obtain ⟨rfl, Nq3, eq3⟩ := hQ3
  have N3 := Fr.app N0 Nq3
  refine own_sTN st3 ?_
  refine own_st (fun _ kk_ => XS.ifYes X3.here hx rfl (pc0 := 37) (pc' := 44) rfl (hb hby d40_37) rfl (XT.i0_eq_t (by decide)) (by decide) (by decide) (XS.aloadN X3.here hx rfl (hb hby d40_44) rfl rfl kk_)) ?_
  show gN T3 (mkF m 45 #[rv al, oU] [(.ref al)])
  obtain ⟨cq4, kq4, q4a, q4b, q4c⟩ := isOf hZ eq3 p_0
  obtain ⟨T4, L4, v4, X4, hQ4, st4⟩ := own_cut (X3.interfaceBack hx (xi := yy56) (y := yy47) hown (own_mw hZ hw 227 rfl) (own_mw hZ hw 228 rfl) (own_mw hZ hw 229 rfl) (own_mw hZ hw 230 rfl) (own_mw hZ hw 231 rfl) (own_mw hZ hw 232 rfl) (own_mw hZ hw 233 rfl) (own_mw hZ hw 225 rfl) (by decide) (backOf (W := 0) (rm42 l Z a0 hw (al) (d) (kd) (n9) (vs1) (qa0) (qa1) (qa2) (mo) h0 n0 Z0 p_0 p_1 p_2 p_3 p_4 p_5 p_6 p_7 hmir hv) hZ (own_w hw 234 rfl) (own_w hw 144 rfl) (by decide) (by decide)) q4a q4b q4c (g := (mkF m 45 #[rv al, oU] [(.ref al)])) rfl (by rw [hml]; rfl) (Steps.refl _) (argsL := []) (rest := []) (lenOf pd_26 rfl) rfl (own_bl rfl) (hb hby d40_45) (fun _ _ => ⟨rfl, eq3, own_bl rfl, own_bl rfl⟩))
  obtain ⟨x4_y, x4_ky, x4_vs9, rfl, Nq4, Kq4, u4_0, u4_1, u4_2, u4_3⟩ := hQ4
  have N4 := Fr.app N3 Nq4
  have f4_0 := p_0.keep Kq4
  have f4_1 := p_1.keep Kq4 nin0
  have f4_2 := p_2.keep Kq4 nin0
  have f4_3 := p_3.keep Kq4 nin0
  have f4_4 := p_4.keep Kq4
  have f4_5 := p_5.keep Kq4
  have f4_6 := p_6.keep Kq4
  have f4_7 := p_7.keep Kq4
  have f4_8 := own_Sta_keep p_9 Kq4 ns0
  have Zs4 : n0 ≤ T4.heap.size := Nat.le_trans Z0 Kq4.1
  have K4 := (Keep.refl h0 []).trans Kq4 all0
  refine own_sTN st4 ?_
  obtain ⟨T5, L5, v5, X5, hQ5, st5⟩ := own_cutA (Jvm.LawKit.callS X4 hx (y := yy53) hown (own_mw hZ hw 255 rfl) (own_mw hZ hw 256 rfl) (own_mw hZ hw 206 rfl) (own_mw hZ hw 257 rfl) (by decide) (backOf (W := 0) (rm45 l Z a0 hw (x4_y) (x4_ky) (n9) (x4_vs9) (qa0) (qa1) (qa2) (em) T4.heap n0 Zs4 u4_1 f4_8 f4_5 f4_6 f4_7 u4_3 hne) hZ (own_w hw 257 rfl) (own_w hw 206 rfl) (by decide) (by decide)) (g := (mkF m 50 #[rv al, oU] [(.ref x4_y)])) rfl (by rw [hml]; rfl) (argsL := [(.ref x4_y)]) (rest := []) (lenOf pd_34 rfl) rfl (own_bl rfl) (hb hby d40_50) (fun _ _ => ⟨rfl, rfl, own_bl rfl, own_bl rfl⟩))
  obtain ⟨x5_li, rfl, Nq5, Kq5, u5_0, u5_1⟩ := hQ5
  have N5 := Fr.app N4 Nq5
  have f5_0 := f4_0.keep Kq5
  have f5_1 := f4_1.keep Kq5 nin0
  have f5_2 := f4_2.keep Kq5 nin0
  have f5_3 := f4_3.keep Kq5 nin0
  have f5_4 := f4_4.keep Kq5
  have f5_5 := f4_5.keep Kq5
  have f5_6 := f4_6.keep Kq5
  have f5_7 := f4_7.keep Kq5
  have f5_8 := own_Sta_keep f4_8 Kq5 ns0
  have f5_9 := u4_1.keep Kq5 nin0
  have f5_10 := u4_2.keep Kq5
  have Zs5 : n0 ≤ T5.heap.size := Nat.le_trans Zs4 Kq5.1
  have K5 := K4.trans Kq5 all0
  refine own_st st5 ?_
  have sz5_li := Nat.le_trans K4.1 u5_0
  refine own_retA X5 hx hlk rfl hret rfl (hb hby d40_53) (by decide) (by decide) ?_
  show Q40 Z n9 qa0 qa1 qa2 em h0 n0 (some (.ref x5_li)) T5.heap _
  exact ⟨x5_li, rfl, N5, K5, sz5_li, (own_l.mono K4.1 u5_1)⟩
abbrev rRrm39 : Room := { frames := 8, cells := 3, slots := 8, locals := 103 }
abbrev c39 (n : Nat) (i : ClassFile.Instr) (k : Nat) : Prop := decode jdk_40_method_48_code n = .ok (i, k)
theorem d39_0 : c39 0 (.aload_n 0) 1 := by decide +kernel
theorem d39_1 : c39 1 (.invokestatic 112) 3 := by decide +kernel
theorem d39_4 : c39 4 (.areturn) 1 := by decide +kernel
theorem pd_35 : parseMethodDescriptor "(Ljava/util/Collection;)Ljava/util/List;" = some ⟨[(.object "java/util/Collection")], some (.object "java/util/List")⟩ := by decide +kernel
theorem pn_39 : plainFor yy58 = true := by decide +kernel
theorem ef_rm39 (m : MethodId) (al : Addr) : entryFrame m #[(.ref al)] 1 = (mkF m 0 #[rv al] []) := by first | (simp [entryFrame, mkF, argsToLocals, Value.category]; done) | rfl
def Q39 (Z : State) (n9 : Int32) (qa0 : Addr) (qa1 : Addr) (qa2 : Addr) (em : Addr) (h0 : Heap) (n0 : Nat) (v_ : Option Value) (h_ : Heap) (L_ : List Loc) : Prop := ∃ li : Addr, (v_ = some (.ref li)) ∧ (Fr n0 L_) ∧ (Keep h0 h_ []) ∧ (h0.size ≤ li) ∧ (own_l Z h_ h0.size li n9 qa0 qa1 qa2 em)
theorem rm39 (l : Launch) (Z : State) (a0 : Array Value) (hw : own_T a0 Z) (al : Addr) (d : Addr) (kd : ClassId) (n9 : Int32) (vs1 : List Value) (qa0 : Addr) (qa1 : Addr) (qa2 : Addr) (mo : Addr) (em : Addr) (h0 : Heap) (n0 : Nat) (Z0 : n0 ≤ h0.size) (p_0 : Exa Z h0 al "java/util/ArrayList") (p_1 : Fld Z h0 al "java/util/ArrayList" "elementData" "[Ljava/lang/Object;" (.ref d)) (p_2 : Fld Z h0 al "java/util/ArrayList" "size" "I" (.int n9)) (p_3 : Arv Z h0 d kd (.object "java/lang/Object") (10 : Int32) vs1 .null) (p_4 : Exa Z h0 d "[Ljava/lang/Object;") (p_5 : Exa Z h0 qa0 "com/example/firm_duties/firmduties/BusinessContext$Pair") (p_6 : Exa Z h0 qa1 "com/example/firm_duties/firmduties/BusinessContext$Pair") (p_7 : Exa Z h0 qa2 "com/example/firm_duties/firmduties/BusinessContext$Pair") (hmir : (Jvm.Term.mirror "[Ljava/lang/Object;").eval a0 Z none [] Z = some (.ref mo)) (p_9 : Sta Z h0 "java/util/ImmutableCollections" "EMPTY" "Ljava/lang/Object;" (.ref em)) (hv : own_v n9 vs1 qa0 qa1 qa2) (hne : qa1 ≠ em) :
    own_Met l yy58 jdk_40_method_48_code 1 (some (.object "java/util/List")) [] rRrm39 Z h0 #[(.ref al)] (Q39 Z n9 qa0 qa1 qa2 em h0 n0) := by
  refine own_openN pn_39 (own := "java/util/List") rfl ?_
  intro p e s m below meth c s₁ hx hby hlk hml hret hZ hown hnm X0 e0
  have N0 := Fr.nil n0
  rw [ef_rm39 m al]
  show own_Goes p e below s (Q39 Z n9 qa0 qa1 qa2 em h0 n0) rRrm39.cells rRrm39.slots s₁ (mkF m 0 #[rv al] [])
  refine own_st (fun _ kk_ => XS.aloadN X0.here hx rfl (hb hby d39_0) rfl rfl kk_) ?_
  show gN s₁ (mkF m 1 #[rv al] [(.ref al)])
  obtain ⟨T1, L1, v1, X1, hQ1, st1⟩ := own_cutA (Jvm.LawKit.callS X0 hx (y := yy57) hown (own_mw hZ hw 208 rfl) (own_mw hZ hw 209 rfl) (own_mw hZ hw 210 rfl) (own_mw hZ hw 211 rfl) (by decide) (backOf (W := 0) (rm40 l Z a0 hw (al) (d) (kd) (n9) (vs1) (qa0) (qa1) (qa2) (mo) (em) h0 n0 Z0 p_0 p_1 p_2 p_3 p_4 p_5 p_6 p_7 hmir p_9 hv hne) hZ (own_w hw 211 rfl) (own_w hw 210 rfl) (by decide) (by decide)) (g := (mkF m 1 #[rv al] [(.ref al)])) rfl (by rw [hml]; rfl) (argsL := [(.ref al)]) (rest := []) (lenOf pd_35 rfl) rfl (own_bl rfl) (hb hby d39_1) (fun _ _ => ⟨rfl, e0, own_bl rfl, own_bl rfl⟩))
  obtain ⟨x1_li, rfl, Nq1, Kq1, u1_0, u1_1⟩ := hQ1
  have N1 := Fr.app N0 Nq1
  have f1_0 := p_0.keep Kq1
  have f1_1 := p_1.keep Kq1 nin0
  have f1_2 := p_2.keep Kq1 nin0
  have f1_3 := p_3.keep Kq1 nin0
  have f1_4 := p_4.keep Kq1
  have f1_5 := p_5.keep Kq1
  have f1_6 := p_6.keep Kq1
  have f1_7 := p_7.keep Kq1
  have f1_8 := own_Sta_keep p_9 Kq1 ns0
  have Zs1 : n0 ≤ T1.heap.size := Nat.le_trans Z0 Kq1.1
  have K1 := (Keep.refl h0 []).trans Kq1 all0
  refine own_st st1 ?_
  have sz1_li := Nat.le_trans (Keep.refl h0 []).1 u1_0
  refine own_retA X1 hx hlk rfl hret rfl (hb hby d39_4) (by decide) (by decide) ?_
  show Q39 Z n9 qa0 qa1 qa2 em h0 n0 (some (.ref x1_li)) T1.heap _
  exact ⟨x1_li, rfl, N1, K1, sz1_li, u1_1⟩
abbrev rRrm38 : Room := { frames := 9, cells := 3, slots := 8, locals := 115 }
abbrev c38 (n : Nat) (i : ClassFile.Instr) (k : Nat) : Prop := decode prog_2_method_1_code n = .ok (i, k)
theorem d38_0 : c38 0 (.aload_n 0) 1 := by decide +kernel
theorem d38_1 : c38 1 (.invokespecial 1) 3 := by decide +kernel
theorem d38_4 : c38 4 (.aload_n 1) 1 := by decide +kernel
theorem d38_5 : c38 5 (.invokestatic 7) 3 := by decide +kernel
theorem d38_8 : c38 8 (.astore_n 1) 1 := by decide +kernel
theorem d38_9 : c38 9 (.aload_n 1) 1 := by decide +kernel
theorem d38_10 : c38 10 (.invokeinterface 13 1) 5 := by decide +kernel
theorem d38_15 : c38 15 (.ifCond .eq 13) 3 := by decide +kernel
theorem d38_28 : c38 28 (.aload_n 0) 1 := by decide +kernel
theorem d38_29 : c38 29 (.aload_n 1) 1 := by decide +kernel
theorem d38_30 : c38 30 (.putfield 24) 3 := by decide +kernel
theorem d38_33 : c38 33 (.return_) 1 := by decide +kernel
theorem pn_38 : plainFor yy60 = true := by decide +kernel
theorem ef_rm38 (m : MethodId) (bc : Addr) (al : Addr) : entryFrame m #[(.ref bc), (.ref al)] 2 = (mkF m 0 #[rv bc, rv al] []) := by first | (simp [entryFrame, mkF, argsToLocals, Value.category]; done) | rfl
def Q38 (Z : State) (bc : Addr) (n9 : Int32) (qa0 : Addr) (qa1 : Addr) (qa2 : Addr) (em : Addr) (h0 : Heap) (n0 : Nat) (v_ : Option Value) (h_ : Heap) (L_ : List Loc) : Prop := ∃ li : Addr, (v_ = none) ∧ (Fr n0 L_) ∧ (Keep h0 h_ [bc]) ∧ (h0.size ≤ li) ∧ (own_l Z h_ h0.size li n9 qa0 qa1 qa2 em) ∧ (Exa Z h_ bc "com/example/firm_duties/firmduties/BusinessContext") ∧ (Fld Z h_ bc "com/example/firm_duties/firmduties/BusinessContext" "pairs" "Ljava/util/List;" (.ref li))
theorem rm38 (l : Launch) (Z : State) (a0 : Array Value) (hw : own_T a0 Z) (bc : Addr) (al : Addr) (d : Addr) (kd : ClassId) (n9 : Int32) (vs1 : List Value) (qa0 : Addr) (qa1 : Addr) (qa2 : Addr) (mo : Addr) (em : Addr) (h0 : Heap) (n0 : Nat) (Z0 : n0 ≤ h0.size) (p_0 : Exa Z h0 bc "com/example/firm_duties/firmduties/BusinessContext") (p_1 : Fld Z h0 bc "com/example/firm_duties/firmduties/BusinessContext" "pairs" "Ljava/util/List;" .null) (p_2 : n0 ≤ bc) (p_3 : Exa Z h0 al "java/util/ArrayList") (p_4 : Fld Z h0 al "java/util/ArrayList" "elementData" "[Ljava/lang/Object;" (.ref d)) (p_5 : Fld Z h0 al "java/util/ArrayList" "size" "I" (.int n9)) (p_6 : Arv Z h0 d kd (.object "java/lang/Object") (10 : Int32) vs1 .null) (p_7 : Exa Z h0 d "[Ljava/lang/Object;") (p_8 : Exa Z h0 qa0 "com/example/firm_duties/firmduties/BusinessContext$Pair") (p_9 : Exa Z h0 qa1 "com/example/firm_duties/firmduties/BusinessContext$Pair") (p_10 : Exa Z h0 qa2 "com/example/firm_duties/firmduties/BusinessContext$Pair") (hmir : (Jvm.Term.mirror "[Ljava/lang/Object;").eval a0 Z none [] Z = some (.ref mo)) (p_12 : Sta Z h0 "java/util/ImmutableCollections" "EMPTY" "Ljava/lang/Object;" (.ref em)) (hv : own_v n9 vs1 qa0 qa1 qa2) (hne : qa1 ≠ em) :
    own_Met l yy60 prog_2_method_1_code 2 none [] rRrm38 Z h0 #[(.ref bc), (.ref al)] (Q38 Z bc n9 qa0 qa1 qa2 em h0 n0) := by
  refine own_openN pn_38 (own := "com/example/firm_duties/firmduties/BusinessContext") rfl ?_
  intro p e s m below meth c s₁ hx hby hlk hml hret hZ hown hnm X0 e0
  have N0 := Fr.nil n0
  rw [ef_rm38 m bc al]
  show own_Goes p e below s (Q38 Z bc n9 qa0 qa1 qa2 em h0 n0) rRrm38.cells rRrm38.slots s₁ (mkF m 0 #[rv bc, rv al] [])
  refine own_st (fun _ kk_ => XS.aloadN X0.here hx rfl (hb hby d38_0) rfl rfl kk_) ?_
  show gN s₁ (mkF m 1 #[rv bc, rv al] [(.ref bc)])
  obtain ⟨T1, L1, v1, X1, hQ1, st1⟩ := own_cut (X0.specialBack hx (y := yy32) rfl hown (own_mw hZ hw 203 rfl) (own_mw hZ hw 40 rfl) (own_mw hZ hw 43 rfl) (by decide) (backOf (W := 0) (rm9 l Z a0 hw (bc) h0 n0 Z0) hZ (own_w hw 43 rfl) (own_w hw 42 rfl) (by decide) (by decide)) (g := (mkF m 1 #[rv bc, rv al] [(.ref bc)])) rfl (by rw [hml]; rfl) (Steps.refl _) (a := bc) (argsL := []) (rest := []) (lenOf pd_23 rfl) rfl (own_bl rfl) (hb hby d38_1) (fun _ _ => ⟨rfl, e0, own_bl rfl, own_bl rfl⟩))
  obtain ⟨rfl, Nq1, eq1⟩ := hQ1
  have N1 := Fr.app N0 Nq1
  refine own_sTN st1 ?_
  refine own_st (fun _ kk_ => XS.aloadN X1.here hx rfl (hb hby d38_4) rfl rfl kk_) ?_
  show gN T1 (mkF m 5 #[rv bc, rv al] [(.ref al)])
  obtain ⟨T2, L2, v2, X2, hQ2, st2⟩ := own_cutA (Jvm.LawKit.callS X1 hx (y := yy58) hown (own_mw hZ hw 204 rfl) (own_mw hZ hw 205 rfl) (own_mw hZ hw 206 rfl) (own_mw hZ hw 207 rfl) (by decide) (backOf (W := 0) (rm39 l Z a0 hw (al) (d) (kd) (n9) (vs1) (qa0) (qa1) (qa2) (mo) (em) h0 n0 Z0 p_3 p_4 p_5 p_6 p_7 p_8 p_9 p_10 hmir p_12 hv hne) hZ (own_w hw 207 rfl) (own_w hw 206 rfl) (by decide) (by decide)) (g := (mkF m 5 #[rv bc, rv al] [(.ref al)])) rfl (by rw [hml]; rfl) (argsL := [(.ref al)]) (rest := []) (lenOf pd_35 rfl) rfl (own_bl rfl) (hb hby d38_5) (fun _ _ => ⟨rfl, eq1, own_bl rfl, own_bl rfl⟩))
  obtain ⟨x2_li, rfl, Nq2, Kq2, u2_0, u2_1⟩ := hQ2
  have N2 := Fr.app N1 Nq2
  have f2_0 := p_0.keep Kq2
  have f2_1 := p_1.keep Kq2 nin0
  have f2_2 := p_3.keep Kq2
  have f2_3 := p_4.keep Kq2 nin0
  have f2_4 := p_5.keep Kq2 nin0
  have f2_5 := p_6.keep Kq2 nin0
  have f2_6 := p_7.keep Kq2
  have f2_7 := p_8.keep Kq2
  have f2_8 := p_9.keep Kq2
  have f2_9 := p_10.keep Kq2
  have f2_10 := own_Sta_keep p_12 Kq2 ns0
  have Zs2 : n0 ≤ T2.heap.size := Nat.le_trans Z0 Kq2.1
  have K2 := (Keep.refl h0 [bc]).trans Kq2 all0
  refine own_st st2 ?_
  have sz2_li := Nat.le_trans (Keep.refl h0 [bc]).1 u2_0
  rcases u2_1 with ⟨l0, l1, l2, l3⟩ | ⟨l0, l1, l2, l3, l4⟩ | ⟨l0, d3, k3, l1, l2, l3, l4⟩
  · show gN T2 (mkF m 8 #[rv bc, rv al] [(.ref x2_li)])
    refine own_st (fun _ kk_ => XS.astoreN X2.here hx rfl (hb hby d38_8) rfl rfl (l' := #[rv bc, rv x2_li]) rfl (XS.aloadN X2.here hx rfl (hb hby d38_9) rfl rfl kk_)) ?_
    show gN T2 (mkF m 10 #[rv bc, rv x2_li] [(.ref x2_li)])
    obtain ⟨cq3, kq3, q3a, q3b, q3c⟩ := isOf hZ rfl l1
    obtain ⟨T3, L3, v3, X3, hQ3, st3⟩ := own_cut (X2.interfaceBack hx (xi := yy59) (y := yy44) hown (own_mw hZ hw 287 rfl) (own_mw hZ hw 288 rfl) (own_mw hZ hw 289 rfl) (own_mw hZ hw 290 rfl) (own_mw hZ hw 291 rfl) (own_mw hZ hw 292 rfl) (own_mw hZ hw 293 rfl) (own_mw hZ hw 294 rfl) (by decide) (backOf (W := 0) (rm50 l Z a0 hw (x2_li) T2.heap n0 Zs2) hZ (own_w hw 295 rfl) (own_w hw 260 rfl) (by decide) (by decide)) q3a q3b q3c (g := (mkF m 10 #[rv bc, rv x2_li] [(.ref x2_li)])) rfl (by rw [hml]; rfl) (Steps.refl _) (argsL := []) (rest := []) (lenOf pd_5 rfl) rfl (own_bl rfl) (hb hby d38_10) (fun _ _ => ⟨rfl, rfl, own_bl rfl, own_bl rfl⟩))
    obtain ⟨rfl, Nq3, eq3⟩ := hQ3
    have N3 := Fr.app N2 Nq3
    refine own_sTN st3 ?_
    refine own_st (fun _ kk_ => XS.ifYes X3.here hx rfl (pc0 := 15) (pc' := 28) rfl (hb hby d38_15) rfl (XT.i0_eq_t (by decide)) (by decide) (by decide) (XS.aloadN X3.here hx rfl (hb hby d38_28) rfl rfl (XS.aloadN X3.here hx rfl (hb hby d38_29) rfl rfl kk_))) ?_
    show gN T3 (mkF m 30 #[rv bc, rv x2_li] [(.ref x2_li), (.ref bc)])
    obtain ⟨T4, h4, X4, e4, W4, st4⟩ := putF X3 hx hZ hown (host := "") (Or.inl (own_w hw 296 rfl)) Via.refl eq3 f2_1 f2_0 (Or.inr ⟨(own_w hw 297 rfl), rfl, hnm⟩) (own_w hw 199 rfl) (ty := (.object "java/util/List")) (by decide) rfl rfl (g := (mkF m 30 #[rv bc, rv x2_li] [(.ref x2_li), (.ref bc)])) rfl rfl (hb hby d38_30)
    have fw4 : Fld Z h4 bc "com/example/firm_duties/firmduties/BusinessContext" "pairs" "Ljava/util/List;" (.ref x2_li) := f2_1.same W4
    have f4_0 := f2_0.wr W4
    have f4_2 := f2_2.wr W4
    have f4_6 := f2_6.wr W4
    have f4_7 := f2_7.wr W4
    have f4_8 := f2_8.wr W4
    have f4_9 := f2_9.wr W4
    have f4_10 := f2_10.wr W4
    have f4_11 := l1.wr W4
    have n2_bcli := own_nk p_0.lt u2_0
    have f4_12 := l2.other W4 (Or.inl (Ne.symm n2_bcli))
    have f4_13 := l3.other W4 (Or.inl (Ne.symm n2_bcli))
    have Zs4 : n0 ≤ h4.size := Nat.le_trans Zs2 (Nat.le_of_eq W4.size.symm)
    have K4 := K2.wr W4 (Or.inl (List.mem_of_getElem? (i := 0) rfl))
    have N4 := Fr.snoc X4 N3 p_2
    refine own_st st4 ?_
    refine own_ret0 X4 hx hlk hret (hb hby d38_33) (by decide) (by decide) ?_
    show Q38 Z bc n9 qa0 qa1 qa2 em h0 n0 none T4.heap _
    rw [e4]
    exact ⟨x2_li, rfl, N4, K4, sz2_li, (Or.inl ⟨l0, f4_11, f4_12, f4_13⟩), f4_0, fw4⟩
  · show gN T2 (mkF m 8 #[rv bc, rv al] [(.ref x2_li)])
    refine own_st (fun _ kk_ => XS.astoreN X2.here hx rfl (hb hby d38_8) rfl rfl (l' := #[rv bc, rv x2_li]) rfl (XS.aloadN X2.here hx rfl (hb hby d38_9) rfl rfl kk_)) ?_
    show gN T2 (mkF m 10 #[rv bc, rv x2_li] [(.ref x2_li)])
    obtain ⟨cq5, kq5, q5a, q5b, q5c⟩ := isOf hZ rfl l1
    obtain ⟨T5, L5, v5, X5, hQ5, st5⟩ := own_cut (X2.interfaceBack hx (xi := yy59) (y := yy44) hown (own_mw hZ hw 287 rfl) (own_mw hZ hw 288 rfl) (own_mw hZ hw 289 rfl) (own_mw hZ hw 290 rfl) (own_mw hZ hw 291 rfl) (own_mw hZ hw 292 rfl) (own_mw hZ hw 293 rfl) (own_mw hZ hw 294 rfl) (by decide) (backOf (W := 0) (rm50 l Z a0 hw (x2_li) T2.heap n0 Zs2) hZ (own_w hw 295 rfl) (own_w hw 260 rfl) (by decide) (by decide)) q5a q5b q5c (g := (mkF m 10 #[rv bc, rv x2_li] [(.ref x2_li)])) rfl (by rw [hml]; rfl) (Steps.refl _) (argsL := []) (rest := []) (lenOf pd_5 rfl) rfl (own_bl rfl) (hb hby d38_10) (fun _ _ => ⟨rfl, rfl, own_bl rfl, own_bl rfl⟩))
    obtain ⟨rfl, Nq5, eq5⟩ := hQ5
    have N5 := Fr.app N2 Nq5
    refine own_sTN st5 ?_
    refine own_st (fun _ kk_ => XS.ifYes X5.here hx rfl (pc0 := 15) (pc' := 28) rfl (hb hby d38_15) rfl (XT.i0_eq_t (by decide)) (by decide) (by decide) (XS.aloadN X5.here hx rfl (hb hby d38_28) rfl rfl (XS.aloadN X5.here hx rfl (hb hby d38_29) rfl rfl kk_))) ?_
    show gN T5 (mkF m 30 #[rv bc, rv x2_li] [(.ref x2_li), (.ref bc)])
    obtain ⟨T6, h6, X6, e6, W6, st6⟩ := putF X5 hx hZ hown (host := "") (Or.inl (own_w hw 296 rfl)) Via.refl eq5 f2_1 f2_0 (Or.inr ⟨(own_w hw 297 rfl), rfl, hnm⟩) (own_w hw 199 rfl) (ty := (.object "java/util/List")) (by decide) rfl rfl (g := (mkF m 30 #[rv bc, rv x2_li] [(.ref x2_li), (.ref bc)])) rfl rfl (hb hby d38_30)
    have fw6 : Fld Z h6 bc "com/example/firm_duties/firmduties/BusinessContext" "pairs" "Ljava/util/List;" (.ref x2_li) := f2_1.same W6
    have f6_0 := f2_0.wr W6
    have f6_2 := f2_2.wr W6
    have f6_6 := f2_6.wr W6
    have f6_7 := f2_7.wr W6
    have f6_8 := f2_8.wr W6
    have f6_9 := f2_9.wr W6
    have f6_10 := f2_10.wr W6
    have f6_11 := l1.wr W6
    have n2_bcli := own_nk p_0.lt u2_0
    have f6_12 := l2.other W6 (Or.inl (Ne.symm n2_bcli))
    have f6_13 := l3.other W6 (Or.inl (Ne.symm n2_bcli))
    have Zs6 : n0 ≤ h6.size := Nat.le_trans Zs2 (Nat.le_of_eq W6.size.symm)
    have K6 := K2.wr W6 (Or.inl (List.mem_of_getElem? (i := 0) rfl))
    have N6 := Fr.snoc X6 N5 p_2
    refine own_st st6 ?_
    refine own_ret0 X6 hx hlk hret (hb hby d38_33) (by decide) (by decide) ?_
    show Q38 Z bc n9 qa0 qa1 qa2 em h0 n0 none T6.heap _
    rw [e6]
    exact ⟨x2_li, rfl, N6, K6, sz2_li, (Or.inr (Or.inl ⟨l0, f6_11, f6_12, f6_13, l4⟩)), f6_0, fw6⟩
  · show gN T2 (mkF m 8 #[rv bc, rv al] [(.ref x2_li)])
    refine own_st (fun _ kk_ => XS.astoreN X2.here hx rfl (hb hby d38_8) rfl rfl (l' := #[rv bc, rv x2_li]) rfl (XS.aloadN X2.here hx rfl (hb hby d38_9) rfl rfl kk_)) ?_
    show gN T2 (mkF m 10 #[rv bc, rv x2_li] [(.ref x2_li)])
    obtain ⟨cq7, kq7, q7a, q7b, q7c⟩ := isOf hZ rfl l1
    obtain ⟨T7, L7, v7, X7, hQ7, st7⟩ := own_cut (X2.interfaceBack hx (xi := yy59) (y := yy54) hown (own_mw hZ hw 287 rfl) (own_mw hZ hw 288 rfl) (own_mw hZ hw 289 rfl) (own_mw hZ hw 371 rfl) (own_mw hZ hw 372 rfl) (own_mw hZ hw 373 rfl) (own_mw hZ hw 374 rfl) (own_mw hZ hw 375 rfl) (by decide) (backOf (W := 0) (rm65 l Z a0 hw (x2_li) (d3) (k3) (qa0) (qa1) (qa2) T2.heap n0 Zs2 l1 l2 l3) hZ (own_w hw 376 rfl) (own_w hw 358 rfl) (by decide) (by decide)) q7a q7b q7c (g := (mkF m 10 #[rv bc, rv x2_li] [(.ref x2_li)])) rfl (by rw [hml]; rfl) (Steps.refl _) (argsL := []) (rest := []) (lenOf pd_5 rfl) rfl (own_bl rfl) (hb hby d38_10) (fun _ _ => ⟨rfl, rfl, own_bl rfl, own_bl rfl⟩))
    obtain ⟨rfl, Nq7, eq7⟩ := hQ7
    have N7 := Fr.app N2 Nq7
    refine own_sTN st7 ?_
    refine own_st (fun _ kk_ => XS.ifYes X7.here hx rfl (pc0 := 15) (pc' := 28) rfl (hb hby d38_15) rfl (XT.i0_eq_t (by decide)) (by decide) (by decide) (XS.aloadN X7.here hx rfl (hb hby d38_28) rfl rfl (XS.aloadN X7.here hx rfl (hb hby d38_29) rfl rfl kk_))) ?_
    show gN T7 (mkF m 30 #[rv bc, rv x2_li] [(.ref x2_li), (.ref bc)])
    obtain ⟨T8, h8, X8, e8, W8, st8⟩ := putF X7 hx hZ hown (host := "") (Or.inl (own_w hw 296 rfl)) Via.refl eq7 f2_1 f2_0 (Or.inr ⟨(own_w hw 297 rfl), rfl, hnm⟩) (own_w hw 199 rfl) (ty := (.object "java/util/List")) (by decide) rfl rfl (g := (mkF m 30 #[rv bc, rv x2_li] [(.ref x2_li), (.ref bc)])) rfl rfl (hb hby d38_30)
    have fw8 : Fld Z h8 bc "com/example/firm_duties/firmduties/BusinessContext" "pairs" "Ljava/util/List;" (.ref x2_li) := f2_1.same W8
    have f8_0 := f2_0.wr W8
    have f8_2 := f2_2.wr W8
    have f8_6 := f2_6.wr W8
    have f8_7 := f2_7.wr W8
    have f8_8 := f2_8.wr W8
    have f8_9 := f2_9.wr W8
    have f8_10 := f2_10.wr W8
    have f8_11 := l1.wr W8
    have n2_bcli := own_nk p_0.lt u2_0
    have f8_12 := l2.other W8 (Or.inl (Ne.symm n2_bcli))
    have nbd := own_nk p_0.lt l4
    have f8_13 := l3.other W8 (Ne.symm nbd)
    have Zs8 : n0 ≤ h8.size := Nat.le_trans Zs2 (Nat.le_of_eq W8.size.symm)
    have K8 := K2.wr W8 (Or.inl (List.mem_of_getElem? (i := 0) rfl))
    have N8 := Fr.snoc X8 N7 p_2
    refine own_st st8 ?_
    refine own_ret0 X8 hx hlk hret (hb hby d38_33) (by decide) (by decide) ?_
    show Q38 Z bc n9 qa0 qa1 qa2 em h0 n0 none T8.heap _
    rw [e8]
    exact ⟨x2_li, rfl, N8, K8, sz2_li, (Or.inr (Or.inr ⟨l0, d3, k3, f8_11, f8_12, f8_13, l4⟩)), f8_0, fw8⟩
abbrev rRrm53 : Room := { frames := 0, cells := 0, slots := 0, locals := 0 }
abbrev c53 (n : Nat) (i : ClassFile.Instr) (k : Nat) : Prop := decode method_4_code n = .ok (i, k)
theorem d53_0 : c53 0 (.iload_n 0) 1 := by decide +kernel
theorem d53_1 : c53 1 (.iconst 4) 1 := by decide +kernel
theorem d53_2 : c53 2 (.iushr) 1 := by decide +kernel
theorem d53_3 : c53 3 (.iconst 1) 1 := by decide +kernel
theorem d53_4 : c53 4 (.iand) 1 := by decide +kernel
theorem d53_5 : c53 5 (.istore_n 2) 1 := by decide +kernel
theorem d53_6 : c53 6 (.iload_n 1) 1 := by decide +kernel
theorem d53_7 : c53 7 (.iconst 4) 1 := by decide +kernel
theorem d53_8 : c53 8 (.iushr) 1 := by decide +kernel
theorem d53_9 : c53 9 (.iconst 1) 1 := by decide +kernel
theorem d53_10 : c53 10 (.iand) 1 := by decide +kernel
theorem d53_11 : c53 11 (.istore_n 3) 1 := by decide +kernel
theorem d53_12 : c53 12 (.iload_n 2) 1 := by decide +kernel
theorem d53_13 : c53 13 (.iload_n 3) 1 := by decide +kernel
theorem d53_14 : c53 14 (.if_icmp .eq 5) 3 := by decide +kernel
theorem d53_17 : c53 17 (.iconst 0) 1 := by decide +kernel
theorem d53_18 : c53 18 (.ireturn) 1 := by decide +kernel
theorem d53_19 : c53 19 (.iload_n 0) 1 := by decide +kernel
theorem d53_20 : c53 20 (.iconst 3) 1 := by decide +kernel
theorem d53_21 : c53 21 (.iand) 1 := by decide +kernel
theorem d53_22 : c53 22 (.iload_n 1) 1 := by decide +kernel
theorem d53_23 : c53 23 (.iconst 3) 1 := by decide +kernel
theorem d53_24 : c53 24 (.iand) 1 := by decide +kernel
theorem d53_25 : c53 25 (.if_icmp .eq 5) 3 := by decide +kernel
theorem d53_28 : c53 28 (.iconst 0) 1 := by decide +kernel
theorem d53_29 : c53 29 (.ireturn) 1 := by decide +kernel
theorem d53_30 : c53 30 (.iload_n 2) 1 := by decide +kernel
theorem d53_31 : c53 31 (.ifCond .eq 16) 3 := by decide +kernel
theorem d53_34 : c53 34 (.iload_n 0) 1 := by decide +kernel
theorem d53_35 : c53 35 (.iconst 2) 1 := by decide +kernel
theorem d53_36 : c53 36 (.iushr) 1 := by decide +kernel
theorem d53_37 : c53 37 (.iconst 3) 1 := by decide +kernel
theorem d53_38 : c53 38 (.iand) 1 := by decide +kernel
theorem d53_39 : c53 39 (.iload_n 1) 1 := by decide +kernel
theorem d53_40 : c53 40 (.iconst 2) 1 := by decide +kernel
theorem d53_41 : c53 41 (.iushr) 1 := by decide +kernel
theorem d53_42 : c53 42 (.iconst 3) 1 := by decide +kernel
theorem d53_43 : c53 43 (.iand) 1 := by decide +kernel
theorem d53_44 : c53 44 (.if_icmp .ne 7) 3 := by decide +kernel
theorem d53_47 : c53 47 (.iconst 1) 1 := by decide +kernel
theorem d53_48 : c53 48 (.goto 4) 3 := by decide +kernel
theorem d53_51 : c53 51 (.iconst 0) 1 := by decide +kernel
theorem d53_52 : c53 52 (.ireturn) 1 := by decide +kernel
theorem pn_53 : plainFor yy61 = true := by decide +kernel
theorem ef_rm53 (m : MethodId) (x1 : Int32) (y1 : Int32) : entryFrame m #[(.int x1), (.int y1)] 4 = (mkF m 0 #[iv x1, iv y1, oU, oU] []) := by first | (simp [entryFrame, mkF, argsToLocals, Value.category]; done) | rfl
def Q53 (Z : State) (x1 : Int32) (y1 : Int32) (h0 : Heap) (n0 : Nat) (v_ : Option Value) (h_ : Heap) (L_ : List Loc) : Prop := (v_ = some (.int (own_b (own_tu x1 = own_tu y1)))) ∧ (Fr n0 L_) ∧ (h_ = h0)
theorem rm53 (l : Launch) (Z : State) (a0 : Array Value) (hw : own_T a0 Z) (x1 : Int32) (y1 : Int32) (h0 : Heap) (n0 : Nat) (Z0 : n0 ≤ h0.size) :
    own_Met l yy61 method_4_code 4 (some .boolean) [] rRrm53 Z h0 #[(.int x1), (.int y1)] (Q53 Z x1 y1 h0 n0) := by
  refine own_openN pn_53 (own := "com/example/firm_duties/firmduties/BusinessContextMatchesPinLaw") rfl ?_
  intro p e s m below meth c s₁ hx hby hlk hml hret hZ hown hnm X0 e0
  have N0 := Fr.nil n0
  rw [ef_rm53 m x1 y1]
  show own_Goes p e below s (Q53 Z x1 y1 h0 n0) rRrm53.cells rRrm53.slots s₁ (mkF m 0 #[iv x1, iv y1, oU, oU] [])
  refine own_st (fun _ kk_ => XS.iloadN X0.here hx rfl (hb hby d53_0) rfl (XS.iconst X0.here hx rfl (hb hby d53_1) (XS.iushr X0.here hx rfl (hb hby d53_2) rfl (XS.iconst X0.here hx rfl (hb hby d53_3) (XS.iand X0.here hx rfl (hb hby d53_4) rfl (XS.istoreN X0.here hx rfl (hb hby d53_5) rfl (l' := #[iv x1, iv y1, iv (((x1.toUInt32 >>> ((4 : Int32) &&& 31).toUInt32).toInt32) &&& (1 : Int32)), oU]) rfl (XS.iloadN X0.here hx rfl (hb hby d53_6) rfl (XS.iconst X0.here hx rfl (hb hby d53_7) (XS.iushr X0.here hx rfl (hb hby d53_8) rfl (XS.iconst X0.here hx rfl (hb hby d53_9) (XS.iand X0.here hx rfl (hb hby d53_10) rfl (XS.istoreN X0.here hx rfl (hb hby d53_11) rfl (l' := #[iv x1, iv y1, iv (((x1.toUInt32 >>> ((4 : Int32) &&& 31).toUInt32).toInt32) &&& (1 : Int32)), iv (((y1.toUInt32 >>> ((4 : Int32) &&& 31).toUInt32).toInt32) &&& (1 : Int32))]) rfl kk_)))))))))))) ?_
  show gN s₁ (mkF m 12 #[iv x1, iv y1, iv (((x1.toUInt32 >>> ((4 : Int32) &&& 31).toUInt32).toInt32) &&& (1 : Int32)), iv (((y1.toUInt32 >>> ((4 : Int32) &&& 31).toUInt32).toInt32) &&& (1 : Int32))] [])
  refine own_st (fun _ kk_ => XS.iloadN X0.here hx rfl (hb hby d53_12) rfl (XS.iloadN X0.here hx rfl (hb hby d53_13) rfl kk_)) ?_
  show gN s₁ (mkF m 14 #[iv x1, iv y1, iv (((x1.toUInt32 >>> ((4 : Int32) &&& 31).toUInt32).toInt32) &&& (1 : Int32)), iv (((y1.toUInt32 >>> ((4 : Int32) &&& 31).toUInt32).toInt32) &&& (1 : Int32))] [(.int (((y1.toUInt32 >>> ((4 : Int32) &&& 31).toUInt32).toInt32) &&& (1 : Int32))), (.int (((x1.toUInt32 >>> ((4 : Int32) &&& 31).toUInt32).toInt32) &&& (1 : Int32)))])
  rcases Classical.em ((((x1.toUInt32 >>> ((4 : Int32) &&& 31).toUInt32).toInt32) &&& (1 : Int32)) = (((y1.toUInt32 >>> ((4 : Int32) &&& 31).toUInt32).toInt32) &&& (1 : Int32))) with k0 | k0
  · refine own_st (fun _ kk_ => XS.icmpYes X0.here hx rfl (pc0 := 14) (pc' := 19) rfl (hb hby d53_14) rfl (XT.ii_eq_t k0) (by decide) (by decide) (XS.iloadN X0.here hx rfl (hb hby d53_19) rfl (XS.iconst X0.here hx rfl (hb hby d53_20) (XS.iand X0.here hx rfl (hb hby d53_21) rfl (XS.iloadN X0.here hx rfl (hb hby d53_22) rfl (XS.iconst X0.here hx rfl (hb hby d53_23) (XS.iand X0.here hx rfl (hb hby d53_24) rfl kk_))))))) ?_
    show gN s₁ (mkF m 25 #[iv x1, iv y1, iv (((x1.toUInt32 >>> ((4 : Int32) &&& 31).toUInt32).toInt32) &&& (1 : Int32)), iv (((y1.toUInt32 >>> ((4 : Int32) &&& 31).toUInt32).toInt32) &&& (1 : Int32))] [(.int (y1 &&& (3 : Int32))), (.int (x1 &&& (3 : Int32)))])
    rcases Classical.em ((x1 &&& (3 : Int32)) = (y1 &&& (3 : Int32))) with k1 | k1
    · refine own_st (fun _ kk_ => XS.icmpYes X0.here hx rfl (pc0 := 25) (pc' := 30) rfl (hb hby d53_25) rfl (XT.ii_eq_t k1) (by decide) (by decide) (XS.iloadN X0.here hx rfl (hb hby d53_30) rfl kk_)) ?_
      show gN s₁ (mkF m 31 #[iv x1, iv y1, iv (((x1.toUInt32 >>> ((4 : Int32) &&& 31).toUInt32).toInt32) &&& (1 : Int32)), iv (((y1.toUInt32 >>> ((4 : Int32) &&& 31).toUInt32).toInt32) &&& (1 : Int32))] [(.int (((x1.toUInt32 >>> ((4 : Int32) &&& 31).toUInt32).toInt32) &&& (1 : Int32)))])
      rcases Classical.em ((((x1.toUInt32 >>> ((4 : Int32) &&& 31).toUInt32).toInt32) &&& (1 : Int32)) = (0 : Int32)) with k2 | k2
      · refine own_st (fun _ kk_ => XS.ifYes X0.here hx rfl (pc0 := 31) (pc' := 47) rfl (hb hby d53_31) rfl (XT.i0_eq_t k2) (by decide) (by decide) (XS.iconst X0.here hx rfl (hb hby d53_47) (XS.goto X0.here hx rfl (pc0 := 48) (pc' := 52) rfl (hb hby d53_48) (by decide) (by decide) kk_))) ?_
        show gN s₁ (mkF m 52 #[iv x1, iv y1, iv (((x1.toUInt32 >>> ((4 : Int32) &&& 31).toUInt32).toInt32) &&& (1 : Int32)), iv (((y1.toUInt32 >>> ((4 : Int32) &&& 31).toUInt32).toInt32) &&& (1 : Int32))] [(.int (1 : Int32))])
        refine own_retN X0 hx hlk (t := .boolean) hret (by simp) (hb hby d53_52) (by decide) (by decide) ?_
        show Q53 Z x1 y1 h0 n0 (some (.int (nar .boolean (1 : Int32)))) s₁.heap _
        rw [e0]
        exact ⟨by exact own_bt ((own_tueq _ _).mpr ⟨k0, k1, Or.inl k2⟩), N0, rfl⟩
      · refine own_st (fun _ kk_ => XS.ifNo X0.here hx rfl (hb hby d53_31) rfl (XT.i0_eq_f k2) (XS.iloadN X0.here hx rfl (hb hby d53_34) rfl (XS.iconst X0.here hx rfl (hb hby d53_35) (XS.iushr X0.here hx rfl (hb hby d53_36) rfl (XS.iconst X0.here hx rfl (hb hby d53_37) (XS.iand X0.here hx rfl (hb hby d53_38) rfl (XS.iloadN X0.here hx rfl (hb hby d53_39) rfl (XS.iconst X0.here hx rfl (hb hby d53_40) (XS.iushr X0.here hx rfl (hb hby d53_41) rfl (XS.iconst X0.here hx rfl (hb hby d53_42) (XS.iand X0.here hx rfl (hb hby d53_43) rfl kk_))))))))))) ?_
        show gN s₁ (mkF m 44 #[iv x1, iv y1, iv (((x1.toUInt32 >>> ((4 : Int32) &&& 31).toUInt32).toInt32) &&& (1 : Int32)), iv (((y1.toUInt32 >>> ((4 : Int32) &&& 31).toUInt32).toInt32) &&& (1 : Int32))] [(.int (((y1.toUInt32 >>> ((2 : Int32) &&& 31).toUInt32).toInt32) &&& (3 : Int32))), (.int (((x1.toUInt32 >>> ((2 : Int32) &&& 31).toUInt32).toInt32) &&& (3 : Int32)))])
        rcases Classical.em ((((x1.toUInt32 >>> ((2 : Int32) &&& 31).toUInt32).toInt32) &&& (3 : Int32)) = (((y1.toUInt32 >>> ((2 : Int32) &&& 31).toUInt32).toInt32) &&& (3 : Int32))) with k3 | k3
        · refine own_st (fun _ kk_ => XS.icmpNo X0.here hx rfl (hb hby d53_44) rfl (XT.ii_ne_f k3) (XS.iconst X0.here hx rfl (hb hby d53_47) (XS.goto X0.here hx rfl (pc0 := 48) (pc' := 52) rfl (hb hby d53_48) (by decide) (by decide) kk_))) ?_
          show gN s₁ (mkF m 52 #[iv x1, iv y1, iv (((x1.toUInt32 >>> ((4 : Int32) &&& 31).toUInt32).toInt32) &&& (1 : Int32)), iv (((y1.toUInt32 >>> ((4 : Int32) &&& 31).toUInt32).toInt32) &&& (1 : Int32))] [(.int (1 : Int32))])
          refine own_retN X0 hx hlk (t := .boolean) hret (by simp) (hb hby d53_52) (by decide) (by decide) ?_
          show Q53 Z x1 y1 h0 n0 (some (.int (nar .boolean (1 : Int32)))) s₁.heap _
          rw [e0]
          exact ⟨by exact own_bt ((own_tueq _ _).mpr ⟨k0, k1, Or.inr k3⟩), N0, rfl⟩
        · refine own_st (fun _ kk_ => XS.icmpYes X0.here hx rfl (pc0 := 44) (pc' := 51) rfl (hb hby d53_44) rfl (XT.ii_ne_t k3) (by decide) (by decide) (XS.iconst X0.here hx rfl (hb hby d53_51) kk_)) ?_
          show gN s₁ (mkF m 52 #[iv x1, iv y1, iv (((x1.toUInt32 >>> ((4 : Int32) &&& 31).toUInt32).toInt32) &&& (1 : Int32)), iv (((y1.toUInt32 >>> ((4 : Int32) &&& 31).toUInt32).toInt32) &&& (1 : Int32))] [(.int (0 : Int32))])
          refine own_retN X0 hx hlk (t := .boolean) hret (by simp) (hb hby d53_52) (by decide) (by decide) ?_
          show Q53 Z x1 y1 h0 n0 (some (.int (nar .boolean (0 : Int32)))) s₁.heap _
          rw [e0]
          exact ⟨by exact own_bf (fun z => ((own_tueq _ _).mp z).2.2.elim k2 k3), N0, rfl⟩
    · refine own_st (fun _ kk_ => XS.icmpNo X0.here hx rfl (hb hby d53_25) rfl (XT.ii_eq_f k1) (XS.iconst X0.here hx rfl (hb hby d53_28) kk_)) ?_
      show gN s₁ (mkF m 29 #[iv x1, iv y1, iv (((x1.toUInt32 >>> ((4 : Int32) &&& 31).toUInt32).toInt32) &&& (1 : Int32)), iv (((y1.toUInt32 >>> ((4 : Int32) &&& 31).toUInt32).toInt32) &&& (1 : Int32))] [(.int (0 : Int32))])
      refine own_retN X0 hx hlk (t := .boolean) hret (by simp) (hb hby d53_29) (by decide) (by decide) ?_
      show Q53 Z x1 y1 h0 n0 (some (.int (nar .boolean (0 : Int32)))) s₁.heap _
      rw [e0]
      exact ⟨by exact own_bf (fun z => k1 ((own_tueq _ _).mp z).2.1), N0, rfl⟩
  · refine own_st (fun _ kk_ => XS.icmpNo X0.here hx rfl (hb hby d53_14) rfl (XT.ii_eq_f k0) (XS.iconst X0.here hx rfl (hb hby d53_17) kk_)) ?_
    show gN s₁ (mkF m 18 #[iv x1, iv y1, iv (((x1.toUInt32 >>> ((4 : Int32) &&& 31).toUInt32).toInt32) &&& (1 : Int32)), iv (((y1.toUInt32 >>> ((4 : Int32) &&& 31).toUInt32).toInt32) &&& (1 : Int32))] [(.int (0 : Int32))])
    refine own_retN X0 hx hlk (t := .boolean) hret (by simp) (hb hby d53_18) (by decide) (by decide) ?_
    show Q53 Z x1 y1 h0 n0 (some (.int (nar .boolean (0 : Int32)))) s₁.heap _
    rw [e0]
    exact ⟨by exact own_bf (fun z => k0 ((own_tueq _ _).mp z).1), N0, rfl⟩
abbrev rRrm68 : Room := { frames := 0, cells := 0, slots := 0, locals := 0 }
abbrev c68 (n : Nat) (i : ClassFile.Instr) (k : Nat) : Prop := decode method_5_code n = .ok (i, k)
theorem d68_0 : c68 0 (.iload_n 0) 1 := by decide +kernel
theorem d68_1 : c68 1 (.iconst 4) 1 := by decide +kernel
theorem d68_2 : c68 2 (.iushr) 1 := by decide +kernel
theorem d68_3 : c68 3 (.iconst 1) 1 := by decide +kernel
theorem d68_4 : c68 4 (.iand) 1 := by decide +kernel
theorem d68_5 : c68 5 (.ifCond .ne 14) 3 := by decide +kernel
theorem d68_8 : c68 8 (.iload_n 0) 1 := by decide +kernel
theorem d68_9 : c68 9 (.iconst 3) 1 := by decide +kernel
theorem d68_10 : c68 10 (.iand) 1 := by decide +kernel
theorem d68_11 : c68 11 (.iconst 2) 1 := by decide +kernel
theorem d68_12 : c68 12 (.if_icmp .lt 7) 3 := by decide +kernel
theorem d68_15 : c68 15 (.iconst 1) 1 := by decide +kernel
theorem d68_16 : c68 16 (.goto 4) 3 := by decide +kernel
theorem d68_19 : c68 19 (.iconst 0) 1 := by decide +kernel
theorem d68_20 : c68 20 (.ireturn) 1 := by decide +kernel
theorem pn_68 : plainFor yy62 = true := by decide +kernel
theorem ef_rm68 (m : MethodId) (x1 : Int32) : entryFrame m #[(.int x1)] 1 = (mkF m 0 #[iv x1] []) := by first | (simp [entryFrame, mkF, argsToLocals, Value.category]; done) | rfl
def Q68 (Z : State) (x1 : Int32) (h0 : Heap) (n0 : Nat) (v_ : Option Value) (h_ : Heap) (L_ : List Loc) : Prop := (v_ = some (.int (own_b (own_tu x1 = [42] ∨ own_tu x1 = [33])))) ∧ (Fr n0 L_) ∧ (h_ = h0)
theorem rm68 (l : Launch) (Z : State) (a0 : Array Value) (hw : own_T a0 Z) (x1 : Int32) (h0 : Heap) (n0 : Nat) (Z0 : n0 ≤ h0.size) :
    own_Met l yy62 method_5_code 1 (some .boolean) [] rRrm68 Z h0 #[(.int x1)] (Q68 Z x1 h0 n0) := by
  refine own_openN pn_68 (own := "com/example/firm_duties/firmduties/BusinessContextMatchesPinLaw") rfl ?_
  intro p e s m below meth c s₁ hx hby hlk hml hret hZ hown hnm X0 e0
  have N0 := Fr.nil n0
  rw [ef_rm68 m x1]
  show own_Goes p e below s (Q68 Z x1 h0 n0) rRrm68.cells rRrm68.slots s₁ (mkF m 0 #[iv x1] [])
  refine own_st (fun _ kk_ => XS.iloadN X0.here hx rfl (hb hby d68_0) rfl (XS.iconst X0.here hx rfl (hb hby d68_1) (XS.iushr X0.here hx rfl (hb hby d68_2) rfl (XS.iconst X0.here hx rfl (hb hby d68_3) (XS.iand X0.here hx rfl (hb hby d68_4) rfl kk_))))) ?_
  show gN s₁ (mkF m 5 #[iv x1] [(.int (((x1.toUInt32 >>> ((4 : Int32) &&& 31).toUInt32).toInt32) &&& (1 : Int32)))])
  rcases Classical.em ((((x1.toUInt32 >>> ((4 : Int32) &&& 31).toUInt32).toInt32) &&& (1 : Int32)) = (0 : Int32)) with k0 | k0
  · refine own_st (fun _ kk_ => XS.ifNo X0.here hx rfl (hb hby d68_5) rfl (XT.i0_ne_f k0) (XS.iloadN X0.here hx rfl (hb hby d68_8) rfl (XS.iconst X0.here hx rfl (hb hby d68_9) (XS.iand X0.here hx rfl (hb hby d68_10) rfl (XS.iconst X0.here hx rfl (hb hby d68_11) kk_))))) ?_
    show gN s₁ (mkF m 12 #[iv x1] [(.int (2 : Int32)), (.int (x1 &&& (3 : Int32)))])
    rcases Classical.em ((x1 &&& (3 : Int32)) < (2 : Int32)) with k1 | k1
    · refine own_st (fun _ kk_ => XS.icmpYes X0.here hx rfl (pc0 := 12) (pc' := 19) rfl (hb hby d68_12) rfl (XT.ii_lt_t k1) (by decide) (by decide) (XS.iconst X0.here hx rfl (hb hby d68_19) kk_)) ?_
      show gN s₁ (mkF m 20 #[iv x1] [(.int (0 : Int32))])
      refine own_retN X0 hx hlk (t := .boolean) hret (by simp) (hb hby d68_20) (by decide) (by decide) ?_
      show Q68 Z x1 h0 n0 (some (.int (nar .boolean (0 : Int32)))) s₁.heap _
      rw [e0]
      exact ⟨by exact own_bf (fun z => ((own_wild _).mp z).2 k1), N0, rfl⟩
    · refine own_st (fun _ kk_ => XS.icmpNo X0.here hx rfl (hb hby d68_12) rfl (XT.ii_lt_f k1) (XS.iconst X0.here hx rfl (hb hby d68_15) (XS.goto X0.here hx rfl (pc0 := 16) (pc' := 20) rfl (hb hby d68_16) (by decide) (by decide) kk_))) ?_
      show gN s₁ (mkF m 20 #[iv x1] [(.int (1 : Int32))])
      refine own_retN X0 hx hlk (t := .boolean) hret (by simp) (hb hby d68_20) (by decide) (by decide) ?_
      show Q68 Z x1 h0 n0 (some (.int (nar .boolean (1 : Int32)))) s₁.heap _
      rw [e0]
      exact ⟨by exact own_bt ((own_wild _).mpr ⟨k0, k1⟩), N0, rfl⟩
  · refine own_st (fun _ kk_ => XS.ifYes X0.here hx rfl (pc0 := 5) (pc' := 19) rfl (hb hby d68_5) rfl (XT.i0_ne_t k0) (by decide) (by decide) (XS.iconst X0.here hx rfl (hb hby d68_19) kk_)) ?_
    show gN s₁ (mkF m 20 #[iv x1] [(.int (0 : Int32))])
    refine own_retN X0 hx hlk (t := .boolean) hret (by simp) (hb hby d68_20) (by decide) (by decide) ?_
    show Q68 Z x1 h0 n0 (some (.int (nar .boolean (0 : Int32)))) s₁.heap _
    rw [e0]
    exact ⟨by exact own_bf (fun z => k0 ((own_wild _).mp z).1), N0, rfl⟩
abbrev rRrm52 : Room := { frames := 1, cells := 0, slots := 0, locals := 15 }
abbrev c52 (n : Nat) (i : ClassFile.Instr) (k : Nat) : Prop := decode method_6_code n = .ok (i, k)
theorem d52_0 : c52 0 (.iload_n 0) 1 := by decide +kernel
theorem d52_1 : c52 1 (.iload_n 2) 1 := by decide +kernel
theorem d52_2 : c52 2 (.invokestatic 22) 3 := by decide +kernel
theorem d52_5 : c52 5 (.ifCond .eq 22) 3 := by decide +kernel
theorem d52_8 : c52 8 (.iload_n 1) 1 := by decide +kernel
theorem d52_9 : c52 9 (.invokestatic 26) 3 := by decide +kernel
theorem d52_12 : c52 12 (.ifCond .ne 11) 3 := by decide +kernel
theorem d52_15 : c52 15 (.iload_n 1) 1 := by decide +kernel
theorem d52_16 : c52 16 (.iload_n 3) 1 := by decide +kernel
theorem d52_17 : c52 17 (.invokestatic 22) 3 := by decide +kernel
theorem d52_20 : c52 20 (.ifCond .eq 7) 3 := by decide +kernel
theorem d52_23 : c52 23 (.iconst 1) 1 := by decide +kernel
theorem d52_24 : c52 24 (.goto 4) 3 := by decide +kernel
theorem d52_27 : c52 27 (.iconst 0) 1 := by decide +kernel
theorem d52_28 : c52 28 (.ireturn) 1 := by decide +kernel
theorem pd_36 : parseMethodDescriptor "(II)Z" = some ⟨[.int, .int], some .boolean⟩ := by decide +kernel
theorem pn_52 : plainFor yy63 = true := by decide +kernel
theorem ef_rm52 (m : MethodId) (x1 : Int32) (x2 : Int32) (y1 : Int32) (y2 : Int32) : entryFrame m #[(.int x1), (.int x2), (.int y1), (.int y2)] 4 = (mkF m 0 #[iv x1, iv x2, iv y1, iv y2] []) := by first | (simp [entryFrame, mkF, argsToLocals, Value.category]; done) | rfl
def Q52 (Z : State) (x1 : Int32) (x2 : Int32) (y1 : Int32) (y2 : Int32) (h0 : Heap) (n0 : Nat) (v_ : Option Value) (h_ : Heap) (L_ : List Loc) : Prop := (v_ = some (.int (own_b (own_q (own_tu x1) (own_tu x2) (own_tu y1) (own_tu y2))))) ∧ (Fr n0 L_) ∧ (h_ = h0)
theorem rm52 (l : Launch) (Z : State) (a0 : Array Value) (hw : own_T a0 Z) (x1 : Int32) (x2 : Int32) (y1 : Int32) (y2 : Int32) (h0 : Heap) (n0 : Nat) (Z0 : n0 ≤ h0.size) :
    own_Met l yy63 method_6_code 4 (some .boolean) [] rRrm52 Z h0 #[(.int x1), (.int x2), (.int y1), (.int y2)] (Q52 Z x1 x2 y1 y2 h0 n0) := by
  refine own_openN pn_52 (own := "com/example/firm_duties/firmduties/BusinessContextMatchesPinLaw") rfl ?_
  intro p e s m below meth c s₁ hx hby hlk hml hret hZ hown hnm X0 e0
  have N0 := Fr.nil n0
  rw [ef_rm52 m x1 x2 y1 y2]
  show own_Goes p e below s (Q52 Z x1 x2 y1 y2 h0 n0) rRrm52.cells rRrm52.slots s₁ (mkF m 0 #[iv x1, iv x2, iv y1, iv y2] [])
  refine own_st (fun _ kk_ => XS.iloadN X0.here hx rfl (hb hby d52_0) rfl (XS.iloadN X0.here hx rfl (hb hby d52_1) rfl kk_)) ?_
  show gN s₁ (mkF m 2 #[iv x1, iv x2, iv y1, iv y2] [(.int y1), (.int x1)])
  obtain ⟨T1, L1, v1, X1, hQ1, st1⟩ := own_cutA (Jvm.LawKit.callS X0 hx (y := yy61) hown (own_mw hZ hw 304 rfl) (own_mw hZ hw 305 rfl) (own_mw hZ hw 5 rfl) (own_mw hZ hw 306 rfl) (by decide) (backOf (W := 0) (rm53 l Z a0 hw (x1) (y1) h0 n0 Z0) hZ (own_w hw 306 rfl) (own_w hw 5 rfl) (by decide) (by decide)) (g := (mkF m 2 #[iv x1, iv x2, iv y1, iv y2] [(.int y1), (.int x1)])) rfl (by rw [hml]; rfl) (argsL := [(.int x1), (.int y1)]) (rest := []) (lenOf pd_36 rfl) rfl (own_bl rfl) (hb hby d52_2) (fun _ _ => ⟨rfl, e0, own_bl rfl, own_bl rfl⟩))
  obtain ⟨rfl, Nq1, eq1⟩ := hQ1
  have N1 := Fr.app N0 Nq1
  refine own_st st1 ?_
  rcases Classical.em (own_tu x1 = own_tu y1) with k0 | k0
  · rw [own_b1 k0]
    show gN T1 (mkF m 5 #[iv x1, iv x2, iv y1, iv y2] [(.int (1 : Int32))])
    refine own_st (fun _ kk_ => XS.ifNo X1.here hx rfl (hb hby d52_5) rfl (XT.i0_eq_f (by decide)) (XS.iloadN X1.here hx rfl (hb hby d52_8) rfl kk_)) ?_
    show gN T1 (mkF m 9 #[iv x1, iv x2, iv y1, iv y2] [(.int x2)])
    obtain ⟨T2, L2, v2, X2, hQ2, st2⟩ := own_cutA (Jvm.LawKit.callS X1 hx (y := yy62) hown (own_mw hZ hw 387 rfl) (own_mw hZ hw 388 rfl) (own_mw hZ hw 5 rfl) (own_mw hZ hw 389 rfl) (by decide) (backOf (W := 0) (rm68 l Z a0 hw (x2) h0 n0 Z0) hZ (own_w hw 389 rfl) (own_w hw 5 rfl) (by decide) (by decide)) (g := (mkF m 9 #[iv x1, iv x2, iv y1, iv y2] [(.int x2)])) rfl (by rw [hml]; rfl) (argsL := [(.int x2)]) (rest := []) (lenOf pd_3 rfl) rfl (own_bl rfl) (hb hby d52_9) (fun _ _ => ⟨rfl, eq1, own_bl rfl, own_bl rfl⟩))
    obtain ⟨rfl, Nq2, eq2⟩ := hQ2
    have N2 := Fr.app N1 Nq2
    refine own_st st2 ?_
    rcases Classical.em (own_tu x2 = [42] ∨ own_tu x2 = [33]) with k1 | k1
    · rw [own_b1 k1]
      show gN T2 (mkF m 12 #[iv x1, iv x2, iv y1, iv y2] [(.int (1 : Int32))])
      refine own_st (fun _ kk_ => XS.ifYes X2.here hx rfl (pc0 := 12) (pc' := 23) rfl (hb hby d52_12) rfl (XT.i0_ne_t (by decide)) (by decide) (by decide) (XS.iconst X2.here hx rfl (hb hby d52_23) (XS.goto X2.here hx rfl (pc0 := 24) (pc' := 28) rfl (hb hby d52_24) (by decide) (by decide) kk_))) ?_
      show gN T2 (mkF m 28 #[iv x1, iv x2, iv y1, iv y2] [(.int (1 : Int32))])
      refine own_retN X2 hx hlk (t := .boolean) hret (by simp) (hb hby d52_28) (by decide) (by decide) ?_
      show Q52 Z x1 x2 y1 y2 h0 n0 (some (.int (nar .boolean (1 : Int32)))) T2.heap _
      rw [eq2]
      exact ⟨by exact own_bt ⟨k0, k1.elim Or.inl (fun z => Or.inr (Or.inl z))⟩, N2, rfl⟩
    · rw [own_b0 k1]
      show gN T2 (mkF m 12 #[iv x1, iv x2, iv y1, iv y2] [(.int (0 : Int32))])
      refine own_st (fun _ kk_ => XS.ifNo X2.here hx rfl (hb hby d52_12) rfl (XT.i0_ne_f (by decide)) (XS.iloadN X2.here hx rfl (hb hby d52_15) rfl (XS.iloadN X2.here hx rfl (hb hby d52_16) rfl kk_))) ?_
      show gN T2 (mkF m 17 #[iv x1, iv x2, iv y1, iv y2] [(.int y2), (.int x2)])
      obtain ⟨T3, L3, v3, X3, hQ3, st3⟩ := own_cutA (Jvm.LawKit.callS X2 hx (y := yy61) hown (own_mw hZ hw 304 rfl) (own_mw hZ hw 305 rfl) (own_mw hZ hw 5 rfl) (own_mw hZ hw 306 rfl) (by decide) (backOf (W := 0) (rm53 l Z a0 hw (x2) (y2) h0 n0 Z0) hZ (own_w hw 306 rfl) (own_w hw 5 rfl) (by decide) (by decide)) (g := (mkF m 17 #[iv x1, iv x2, iv y1, iv y2] [(.int y2), (.int x2)])) rfl (by rw [hml]; rfl) (argsL := [(.int x2), (.int y2)]) (rest := []) (lenOf pd_36 rfl) rfl (own_bl rfl) (hb hby d52_17) (fun _ _ => ⟨rfl, eq2, own_bl rfl, own_bl rfl⟩))
      obtain ⟨rfl, Nq3, eq3⟩ := hQ3
      have N3 := Fr.app N2 Nq3
      refine own_st st3 ?_
      rcases Classical.em (own_tu x2 = own_tu y2) with k2 | k2
      · rw [own_b1 k2]
        show gN T3 (mkF m 20 #[iv x1, iv x2, iv y1, iv y2] [(.int (1 : Int32))])
        refine own_st (fun _ kk_ => XS.ifNo X3.here hx rfl (hb hby d52_20) rfl (XT.i0_eq_f (by decide)) (XS.iconst X3.here hx rfl (hb hby d52_23) (XS.goto X3.here hx rfl (pc0 := 24) (pc' := 28) rfl (hb hby d52_24) (by decide) (by decide) kk_))) ?_
        show gN T3 (mkF m 28 #[iv x1, iv x2, iv y1, iv y2] [(.int (1 : Int32))])
        refine own_retN X3 hx hlk (t := .boolean) hret (by simp) (hb hby d52_28) (by decide) (by decide) ?_
        show Q52 Z x1 x2 y1 y2 h0 n0 (some (.int (nar .boolean (1 : Int32)))) T3.heap _
        rw [eq3]
        exact ⟨by exact own_bt ⟨k0, Or.inr (Or.inr k2)⟩, N3, rfl⟩
      · rw [own_b0 k2]
        show gN T3 (mkF m 20 #[iv x1, iv x2, iv y1, iv y2] [(.int (0 : Int32))])
        refine own_st (fun _ kk_ => XS.ifYes X3.here hx rfl (pc0 := 20) (pc' := 27) rfl (hb hby d52_20) rfl (XT.i0_eq_t (by decide)) (by decide) (by decide) (XS.iconst X3.here hx rfl (hb hby d52_27) kk_)) ?_
        show gN T3 (mkF m 28 #[iv x1, iv x2, iv y1, iv y2] [(.int (0 : Int32))])
        refine own_retN X3 hx hlk (t := .boolean) hret (by simp) (hb hby d52_28) (by decide) (by decide) ?_
        show Q52 Z x1 x2 y1 y2 h0 n0 (some (.int (nar .boolean (0 : Int32)))) T3.heap _
        rw [eq3]
        exact ⟨by exact own_bf (fun z => z.2.elim (fun y => k1 (Or.inl y)) (fun y => y.elim (fun x => k1 (Or.inr x)) k2)), N3, rfl⟩
  · rw [own_b0 k0]
    show gN T1 (mkF m 5 #[iv x1, iv x2, iv y1, iv y2] [(.int (0 : Int32))])
    refine own_st (fun _ kk_ => XS.ifYes X1.here hx rfl (pc0 := 5) (pc' := 27) rfl (hb hby d52_5) rfl (XT.i0_eq_t (by decide)) (by decide) (by decide) (XS.iconst X1.here hx rfl (hb hby d52_27) kk_)) ?_
    show gN T1 (mkF m 28 #[iv x1, iv x2, iv y1, iv y2] [(.int (0 : Int32))])
    refine own_retN X1 hx hlk (t := .boolean) hret (by simp) (hb hby d52_28) (by decide) (by decide) ?_
    show Q52 Z x1 x2 y1 y2 h0 n0 (some (.int (nar .boolean (0 : Int32)))) T1.heap _
    rw [eq1]
    exact ⟨by exact own_bf (fun z => k0 z.1), N1, rfl⟩
abbrev rRrmSZ1 : Room := { frames := 0, cells := 0, slots := 0, locals := 0 }
abbrev c55 (n : Nat) (i : ClassFile.Instr) (k : Nat) : Prop := decode jdk_44_method_3_code n = .ok (i, k)
theorem d55_0 : c55 0 (.aload_n 0) 1 := by decide +kernel
theorem d55_1 : c55 1 (.getfield 24) 3 := by decide +kernel
theorem d55_4 : c55 4 (.getstatic 19) 3 := by decide +kernel
theorem d55_7 : c55 7 (.if_acmp .eq 7) 3 := by decide +kernel
theorem d55_14 : c55 14 (.iconst 1) 1 := by decide +kernel
theorem d55_15 : c55 15 (.ireturn) 1 := by decide +kernel
theorem pn_55 : plainFor yy64 = true := by decide +kernel
theorem ef_rmSZ1 (m : MethodId) (li : Addr) : entryFrame m #[(.ref li)] 1 = (mkF m 0 #[rv li] []) := by first | (simp [entryFrame, mkF, argsToLocals, Value.category]; done) | rfl
def QSZ1 (Z : State) (h0 : Heap) (n0 : Nat) (v_ : Option Value) (h_ : Heap) (L_ : List Loc) : Prop := (v_ = some (.int (1 : Int32))) ∧ (Fr n0 L_) ∧ (h_ = h0)
theorem rmSZ1 (l : Launch) (Z : State) (a0 : Array Value) (hw : own_T a0 Z) (li : Addr) (em : Addr) (qa0 : Addr) (h0 : Heap) (n0 : Nat) (Z0 : n0 ≤ h0.size) (p_0 : Exa Z h0 li "java/util/ImmutableCollections$List12") (p_1 : Fld Z h0 li "java/util/ImmutableCollections$List12" "e0" "Ljava/lang/Object;" (.ref qa0)) (p_2 : Fld Z h0 li "java/util/ImmutableCollections$List12" "e1" "Ljava/lang/Object;" (.ref em)) (p_3 : Sta Z h0 "java/util/ImmutableCollections" "EMPTY" "Ljava/lang/Object;" (.ref em)) :
    own_Met l yy64 jdk_44_method_3_code 1 (some .int) [] rRrmSZ1 Z h0 #[(.ref li)] (QSZ1 Z h0 n0) := by
  refine own_openN pn_55 (own := "java/util/ImmutableCollections$List12") rfl ?_
  intro p e s m below meth c s₁ hx hby hlk hml hret hZ hown hnm X0 e0
  have N0 := Fr.nil n0
  rw [ef_rmSZ1 m li]
  show own_Goes p e below s (QSZ1 Z h0 n0) rRrmSZ1.cells rRrmSZ1.slots s₁ (mkF m 0 #[rv li] [])
  refine own_st (fun _ kk_ => XS.aloadN X0.here hx rfl (hb hby d55_0) rfl rfl kk_) ?_
  show gN s₁ (mkF m 1 #[rv li] [(.ref li)])
  obtain ⟨T1, X1, e1, st1⟩ := getF X0 hx hZ hown (host := "") (Or.inl (own_w hw 285 rfl)) Via.refl e0 p_2 (g := (mkF m 1 #[rv li] [(.ref li)])) rfl rfl (hb hby d55_1)
  refine own_st st1 ?_
  obtain ⟨T2, X2, e2, st2⟩ := getS2 X1 hx hZ hown (Or.inr (own_w hw 284 rfl)) Via.refl e1 p_3 (g := (mkF m 4 #[rv li] [(.ref em)])) rfl (hb hby d55_4)
  refine own_st st2 ?_
  refine own_st (fun _ kk_ => XT.acmpYes X2.here hx rfl (pc0 := 7) (pc' := 14) rfl (hb hby d55_7) rfl rfl rfl (XT.aa_eq_t rfl) (by decide) (by decide) (XS.iconst X2.here hx rfl (hb hby d55_14) kk_)) ?_
  show gN T2 (mkF m 15 #[rv li] [(.int (1 : Int32))])
  refine own_retI X2 hx hlk hret (hb hby d55_15) (by decide) (by decide) ?_
  show QSZ1 Z h0 n0 (some (.int (1 : Int32))) T2.heap _
  rw [e2]
  exact ⟨rfl, N0, rfl⟩
abbrev rRrmSZ2 : Room := { frames := 0, cells := 0, slots := 0, locals := 0 }
theorem d55_10 : c55 10 (.iconst 2) 1 := by decide +kernel
theorem d55_11 : c55 11 (.goto 4) 3 := by decide +kernel
theorem ef_rmSZ2 (m : MethodId) (li : Addr) : entryFrame m #[(.ref li)] 1 = (mkF m 0 #[rv li] []) := by first | (simp [entryFrame, mkF, argsToLocals, Value.category]; done) | rfl
def QSZ2 (Z : State) (h0 : Heap) (n0 : Nat) (v_ : Option Value) (h_ : Heap) (L_ : List Loc) : Prop := (v_ = some (.int (2 : Int32))) ∧ (Fr n0 L_) ∧ (h_ = h0)
theorem rmSZ2 (l : Launch) (Z : State) (a0 : Array Value) (hw : own_T a0 Z) (li : Addr) (em : Addr) (qa0 : Addr) (qa1 : Addr) (h0 : Heap) (n0 : Nat) (Z0 : n0 ≤ h0.size) (p_0 : Exa Z h0 li "java/util/ImmutableCollections$List12") (p_1 : Fld Z h0 li "java/util/ImmutableCollections$List12" "e0" "Ljava/lang/Object;" (.ref qa0)) (p_2 : Fld Z h0 li "java/util/ImmutableCollections$List12" "e1" "Ljava/lang/Object;" (.ref qa1)) (p_3 : Sta Z h0 "java/util/ImmutableCollections" "EMPTY" "Ljava/lang/Object;" (.ref em)) (p_4 : qa1 ≠ em) :
    own_Met l yy64 jdk_44_method_3_code 1 (some .int) [] rRrmSZ2 Z h0 #[(.ref li)] (QSZ2 Z h0 n0) := by
  refine own_openN pn_55 (own := "java/util/ImmutableCollections$List12") rfl ?_
  intro p e s m below meth c s₁ hx hby hlk hml hret hZ hown hnm X0 e0
  have N0 := Fr.nil n0
  rw [ef_rmSZ2 m li]
  show own_Goes p e below s (QSZ2 Z h0 n0) rRrmSZ2.cells rRrmSZ2.slots s₁ (mkF m 0 #[rv li] [])
  refine own_st (fun _ kk_ => XS.aloadN X0.here hx rfl (hb hby d55_0) rfl rfl kk_) ?_
  show gN s₁ (mkF m 1 #[rv li] [(.ref li)])
  obtain ⟨T1, X1, e1, st1⟩ := getF X0 hx hZ hown (host := "") (Or.inl (own_w hw 285 rfl)) Via.refl e0 p_2 (g := (mkF m 1 #[rv li] [(.ref li)])) rfl rfl (hb hby d55_1)
  refine own_st st1 ?_
  obtain ⟨T2, X2, e2, st2⟩ := getS2 X1 hx hZ hown (Or.inr (own_w hw 284 rfl)) Via.refl e1 p_3 (g := (mkF m 4 #[rv li] [(.ref qa1)])) rfl (hb hby d55_4)
  refine own_st st2 ?_
  refine own_st (fun _ kk_ => XT.acmpNo X2.here hx rfl (hb hby d55_7) rfl rfl rfl (XT.aa_eq_f (fun q => p_4 (Value.ref.inj q))) (XS.iconst X2.here hx rfl (hb hby d55_10) (XS.goto X2.here hx rfl (pc0 := 11) (pc' := 15) rfl (hb hby d55_11) (by decide) (by decide) kk_))) ?_
  show gN T2 (mkF m 15 #[rv li] [(.int (2 : Int32))])
  refine own_retI X2 hx hlk hret (hb hby d55_15) (by decide) (by decide) ?_
  show QSZ2 Z h0 n0 (some (.int (2 : Int32))) T2.heap _
  rw [e2]
  exact ⟨rfl, N0, rfl⟩
abbrev rRrmGT0 : Room := { frames := 0, cells := 0, slots := 0, locals := 0 }
abbrev c56 (n : Nat) (i : ClassFile.Instr) (k : Nat) : Prop := decode jdk_44_method_5_code n = .ok (i, k)
theorem d56_0 : c56 0 (.iload_n 1) 1 := by decide +kernel
theorem d56_1 : c56 1 (.ifCond .ne 8) 3 := by decide +kernel
theorem d56_4 : c56 4 (.aload_n 0) 1 := by decide +kernel
theorem d56_5 : c56 5 (.getfield 13) 3 := by decide +kernel
theorem d56_8 : c56 8 (.areturn) 1 := by decide +kernel
theorem pn_56 : plainFor yy65 = true := by decide +kernel
theorem ef_rmGT0 (m : MethodId) (li : Addr) : entryFrame m #[(.ref li), (.int (0 : Int32))] 2 = (mkF m 0 #[rv li, iv (0 : Int32)] []) := by first | (simp [entryFrame, mkF, argsToLocals, Value.category]; done) | rfl
def QGT0 (Z : State) (qa0 : Addr) (h0 : Heap) (n0 : Nat) (v_ : Option Value) (h_ : Heap) (L_ : List Loc) : Prop := (v_ = some (.ref qa0)) ∧ (Fr n0 L_) ∧ (h_ = h0)
theorem rmGT0 (l : Launch) (Z : State) (a0 : Array Value) (hw : own_T a0 Z) (li : Addr) (qa0 : Addr) (qa1 : Addr) (h0 : Heap) (n0 : Nat) (Z0 : n0 ≤ h0.size) (p_0 : Exa Z h0 li "java/util/ImmutableCollections$List12") (p_1 : Fld Z h0 li "java/util/ImmutableCollections$List12" "e0" "Ljava/lang/Object;" (.ref qa0)) (p_2 : Fld Z h0 li "java/util/ImmutableCollections$List12" "e1" "Ljava/lang/Object;" (.ref qa1)) :
    own_Met l yy65 jdk_44_method_5_code 2 (some (.object "java/lang/Object")) [] rRrmGT0 Z h0 #[(.ref li), (.int (0 : Int32))] (QGT0 Z qa0 h0 n0) := by
  refine own_openN pn_56 (own := "java/util/ImmutableCollections$List12") rfl ?_
  intro p e s m below meth c s₁ hx hby hlk hml hret hZ hown hnm X0 e0
  have N0 := Fr.nil n0
  rw [ef_rmGT0 m li]
  show own_Goes p e below s (QGT0 Z qa0 h0 n0) rRrmGT0.cells rRrmGT0.slots s₁ (mkF m 0 #[rv li, iv (0 : Int32)] [])
  refine own_st (fun _ kk_ => XS.iloadN X0.here hx rfl (hb hby d56_0) rfl (XS.ifNo X0.here hx rfl (hb hby d56_1) rfl (XT.i0_ne_f (by decide)) (XS.aloadN X0.here hx rfl (hb hby d56_4) rfl rfl kk_))) ?_
  show gN s₁ (mkF m 5 #[rv li, iv (0 : Int32)] [(.ref li)])
  obtain ⟨T1, X1, e1, st1⟩ := getF X0 hx hZ hown (host := "") (Or.inl (own_w hw 282 rfl)) Via.refl e0 p_1 (g := (mkF m 5 #[rv li, iv (0 : Int32)] [(.ref li)])) rfl rfl (hb hby d56_5)
  refine own_st st1 ?_
  refine own_retA X1 hx hlk rfl hret rfl (hb hby d56_8) (by decide) (by decide) ?_
  show QGT0 Z qa0 h0 n0 (some (.ref qa0)) T1.heap _
  rw [e1]
  exact ⟨rfl, N0, rfl⟩
abbrev rRrmGT1 : Room := { frames := 0, cells := 0, slots := 0, locals := 0 }
theorem d56_9 : c56 9 (.iload_n 1) 1 := by decide +kernel
theorem d56_10 : c56 10 (.iconst 1) 1 := by decide +kernel
theorem d56_11 : c56 11 (.if_icmp .ne 18) 3 := by decide +kernel
theorem d56_14 : c56 14 (.aload_n 0) 1 := by decide +kernel
theorem d56_15 : c56 15 (.getfield 24) 3 := by decide +kernel
theorem d56_18 : c56 18 (.getstatic 19) 3 := by decide +kernel
theorem d56_21 : c56 21 (.if_acmp .eq 8) 3 := by decide +kernel
theorem d56_24 : c56 24 (.aload_n 0) 1 := by decide +kernel
theorem d56_25 : c56 25 (.getfield 24) 3 := by decide +kernel
theorem d56_28 : c56 28 (.areturn) 1 := by decide +kernel
theorem ef_rmGT1 (m : MethodId) (li : Addr) : entryFrame m #[(.ref li), (.int (1 : Int32))] 2 = (mkF m 0 #[rv li, iv (1 : Int32)] []) := by first | (simp [entryFrame, mkF, argsToLocals, Value.category]; done) | rfl
def QGT1 (Z : State) (qa1 : Addr) (h0 : Heap) (n0 : Nat) (v_ : Option Value) (h_ : Heap) (L_ : List Loc) : Prop := (v_ = some (.ref qa1)) ∧ (Fr n0 L_) ∧ (h_ = h0)
theorem rmGT1 (l : Launch) (Z : State) (a0 : Array Value) (hw : own_T a0 Z) (li : Addr) (em : Addr) (qa0 : Addr) (qa1 : Addr) (h0 : Heap) (n0 : Nat) (Z0 : n0 ≤ h0.size) (p_0 : Exa Z h0 li "java/util/ImmutableCollections$List12") (p_1 : Fld Z h0 li "java/util/ImmutableCollections$List12" "e0" "Ljava/lang/Object;" (.ref qa0)) (p_2 : Fld Z h0 li "java/util/ImmutableCollections$List12" "e1" "Ljava/lang/Object;" (.ref qa1)) (p_3 : Sta Z h0 "java/util/ImmutableCollections" "EMPTY" "Ljava/lang/Object;" (.ref em)) (p_4 : qa1 ≠ em) :
    own_Met l yy65 jdk_44_method_5_code 2 (some (.object "java/lang/Object")) [] rRrmGT1 Z h0 #[(.ref li), (.int (1 : Int32))] (QGT1 Z qa1 h0 n0) := by
  refine own_openN pn_56 (own := "java/util/ImmutableCollections$List12") rfl ?_
  intro p e s m below meth c s₁ hx hby hlk hml hret hZ hown hnm X0 e0
  have N0 := Fr.nil n0
  rw [ef_rmGT1 m li]
  show own_Goes p e below s (QGT1 Z qa1 h0 n0) rRrmGT1.cells rRrmGT1.slots s₁ (mkF m 0 #[rv li, iv (1 : Int32)] [])
  refine own_st (fun _ kk_ => XS.iloadN X0.here hx rfl (hb hby d56_0) rfl (XS.ifYes X0.here hx rfl (pc0 := 1) (pc' := 9) rfl (hb hby d56_1) rfl (XT.i0_ne_t (by decide)) (by decide) (by decide) (XS.iloadN X0.here hx rfl (hb hby d56_9) rfl (XS.iconst X0.here hx rfl (hb hby d56_10) (XS.icmpNo X0.here hx rfl (hb hby d56_11) rfl (XT.ii_ne_f (by decide)) (XS.aloadN X0.here hx rfl (hb hby d56_14) rfl rfl kk_)))))) ?_
  show gN s₁ (mkF m 15 #[rv li, iv (1 : Int32)] [(.ref li)])
  obtain ⟨T1, X1, e1, st1⟩ := getF X0 hx hZ hown (host := "") (Or.inl (own_w hw 285 rfl)) Via.refl e0 p_2 (g := (mkF m 15 #[rv li, iv (1 : Int32)] [(.ref li)])) rfl rfl (hb hby d56_15)
  refine own_st st1 ?_
  obtain ⟨T2, X2, e2, st2⟩ := getS2 X1 hx hZ hown (Or.inr (own_w hw 284 rfl)) Via.refl e1 p_3 (g := (mkF m 18 #[rv li, iv (1 : Int32)] [(.ref qa1)])) rfl (hb hby d56_18)
  refine own_st st2 ?_
  refine own_st (fun _ kk_ => XT.acmpNo X2.here hx rfl (hb hby d56_21) rfl rfl rfl (XT.aa_eq_f (fun q => p_4 (Value.ref.inj q))) (XS.aloadN X2.here hx rfl (hb hby d56_24) rfl rfl kk_)) ?_
  show gN T2 (mkF m 25 #[rv li, iv (1 : Int32)] [(.ref li)])
  obtain ⟨T3, X3, e3, st3⟩ := getF X2 hx hZ hown (host := "") (Or.inl (own_w hw 285 rfl)) Via.refl e2 p_2 (g := (mkF m 25 #[rv li, iv (1 : Int32)] [(.ref li)])) rfl rfl (hb hby d56_25)
  refine own_st st3 ?_
  refine own_retA X3 hx hlk rfl hret rfl (hb hby d56_28) (by decide) (by decide) ?_
  show QGT1 Z qa1 h0 n0 (some (.ref qa1)) T3.heap _
  rw [e3]
  exact ⟨rfl, N0, rfl⟩
abbrev rRrm66 : Room := { frames := 0, cells := 0, slots := 0, locals := 0 }
abbrev c66 (n : Nat) (i : ClassFile.Instr) (k : Nat) : Prop := decode jdk_45_method_3_code n = .ok (i, k)
theorem d66_0 : c66 0 (.aload_n 0) 1 := by decide +kernel
theorem d66_1 : c66 1 (.getfield 7) 3 := by decide +kernel
theorem d66_4 : c66 4 (.arraylength) 1 := by decide +kernel
theorem d66_5 : c66 5 (.ireturn) 1 := by decide +kernel
theorem pn_66 : plainFor yy66 = true := by decide +kernel
theorem ef_rm66 (m : MethodId) (li : Addr) : entryFrame m #[(.ref li)] 1 = (mkF m 0 #[rv li] []) := by first | (simp [entryFrame, mkF, argsToLocals, Value.category]; done) | rfl
def Q66 (Z : State) (h0 : Heap) (n0 : Nat) (v_ : Option Value) (h_ : Heap) (L_ : List Loc) : Prop := (v_ = some (.int (3 : Int32))) ∧ (Fr n0 L_) ∧ (h_ = h0)
theorem rm66 (l : Launch) (Z : State) (a0 : Array Value) (hw : own_T a0 Z) (li : Addr) (d : Addr) (kd : ClassId) (qa0 : Addr) (qa1 : Addr) (qa2 : Addr) (h0 : Heap) (n0 : Nat) (Z0 : n0 ≤ h0.size) (p_0 : Exa Z h0 li "java/util/ImmutableCollections$ListN") (p_1 : Fld Z h0 li "java/util/ImmutableCollections$ListN" "elements" "[Ljava/lang/Object;" (.ref d)) (p_2 : Arv Z h0 d kd (.object "java/lang/Object") (3 : Int32) [(.ref qa0), (.ref qa1), (.ref qa2)] .null) :
    own_Met l yy66 jdk_45_method_3_code 1 (some .int) [] rRrm66 Z h0 #[(.ref li)] (Q66 Z h0 n0) := by
  refine own_openN pn_66 (own := "java/util/ImmutableCollections$ListN") rfl ?_
  intro p e s m below meth c s₁ hx hby hlk hml hret hZ hown hnm X0 e0
  have N0 := Fr.nil n0
  rw [ef_rm66 m li]
  show own_Goes p e below s (Q66 Z h0 n0) rRrm66.cells rRrm66.slots s₁ (mkF m 0 #[rv li] [])
  refine own_st (fun _ kk_ => XS.aloadN X0.here hx rfl (hb hby d66_0) rfl rfl kk_) ?_
  show gN s₁ (mkF m 1 #[rv li] [(.ref li)])
  obtain ⟨T1, X1, e1, st1⟩ := getF X0 hx hZ hown (host := "") (Or.inl (own_w hw 367 rfl)) Via.refl e0 p_1 (g := (mkF m 1 #[rv li] [(.ref li)])) rfl rfl (hb hby d66_1)
  refine own_st st1 ?_
  obtain ⟨cl2, Ar2, -, Sz2, Nn2, -, -⟩ := id p_2
  refine own_st (fun _ kk_ => X1.arraylength hx (by rw [e1]; exact Ar2.1) (State.isArrayOf_alike hZ.alike Ar2.2.1) (g := (mkF m 4 #[rv li] [(.ref d)])) rfl rfl (hb hby d66_4) _ kk_) ?_
  rw [len_of Sz2 Nn2]
  show gN T1 (mkF m 5 #[rv li] [(.int (3 : Int32))])
  refine own_retI X1 hx hlk hret (hb hby d66_5) (by decide) (by decide) ?_
  show Q66 Z h0 n0 (some (.int (3 : Int32))) T1.heap _
  rw [e1]
  exact ⟨rfl, N0, rfl⟩
abbrev rRrmNG0 : Room := { frames := 0, cells := 0, slots := 0, locals := 0 }
abbrev c67 (n : Nat) (i : ClassFile.Instr) (k : Nat) : Prop := decode jdk_45_method_4_code n = .ok (i, k)
theorem d67_0 : c67 0 (.aload_n 0) 1 := by decide +kernel
theorem d67_1 : c67 1 (.getfield 7) 3 := by decide +kernel
theorem d67_4 : c67 4 (.iload_n 1) 1 := by decide +kernel
theorem d67_5 : c67 5 (.aaload) 1 := by decide +kernel
theorem d67_6 : c67 6 (.areturn) 1 := by decide +kernel
theorem pn_67 : plainFor yy67 = true := by decide +kernel
theorem ef_rmNG0 (m : MethodId) (li : Addr) : entryFrame m #[(.ref li), (.int (0 : Int32))] 2 = (mkF m 0 #[rv li, iv (0 : Int32)] []) := by first | (simp [entryFrame, mkF, argsToLocals, Value.category]; done) | rfl
def QNG0 (Z : State) (qa0 : Addr) (h0 : Heap) (n0 : Nat) (v_ : Option Value) (h_ : Heap) (L_ : List Loc) : Prop := (v_ = some (.ref qa0)) ∧ (Fr n0 L_) ∧ (h_ = h0)
theorem rmNG0 (l : Launch) (Z : State) (a0 : Array Value) (hw : own_T a0 Z) (li : Addr) (d : Addr) (kd : ClassId) (qa0 : Addr) (qa1 : Addr) (qa2 : Addr) (h0 : Heap) (n0 : Nat) (Z0 : n0 ≤ h0.size) (p_0 : Exa Z h0 li "java/util/ImmutableCollections$ListN") (p_1 : Fld Z h0 li "java/util/ImmutableCollections$ListN" "elements" "[Ljava/lang/Object;" (.ref d)) (p_2 : Arv Z h0 d kd (.object "java/lang/Object") (3 : Int32) [(.ref qa0), (.ref qa1), (.ref qa2)] .null) :
    own_Met l yy67 jdk_45_method_4_code 2 (some (.object "java/lang/Object")) [] rRrmNG0 Z h0 #[(.ref li), (.int (0 : Int32))] (QNG0 Z qa0 h0 n0) := by
  refine own_openN pn_67 (own := "java/util/ImmutableCollections$ListN") rfl ?_
  intro p e s m below meth c s₁ hx hby hlk hml hret hZ hown hnm X0 e0
  have N0 := Fr.nil n0
  rw [ef_rmNG0 m li]
  show own_Goes p e below s (QNG0 Z qa0 h0 n0) rRrmNG0.cells rRrmNG0.slots s₁ (mkF m 0 #[rv li, iv (0 : Int32)] [])
  refine own_st (fun _ kk_ => XS.aloadN X0.here hx rfl (hb hby d67_0) rfl rfl kk_) ?_
  show gN s₁ (mkF m 1 #[rv li, iv (0 : Int32)] [(.ref li)])
  obtain ⟨T1, X1, e1, st1⟩ := getF X0 hx hZ hown (host := "") (Or.inl (own_w hw 367 rfl)) Via.refl e0 p_1 (g := (mkF m 1 #[rv li, iv (0 : Int32)] [(.ref li)])) rfl rfl (hb hby d67_1)
  refine own_st st1 ?_
  refine own_st (fun _ kk_ => XS.iloadN X1.here hx rfl (hb hby d67_4) rfl kk_) ?_
  show gN T1 (mkF m 5 #[rv li, iv (0 : Int32)] [(.int (0 : Int32)), (.ref d)])
  obtain ⟨cl2, Ar2, q2, Sz2, Nn2, Hh2, Gg2⟩ := id p_2
  refine own_st (fun _ kk_ => X1.aaload hx (j := (0 : Int32)) (v := (.ref qa0)) (by rw [e1]; exact Ar2.1) (State.isArrayOf_alike hZ.alike Ar2.2.1) rfl Ar2.2.2 (inb_of Sz2 ⟨by decide, by decide⟩) (Hh2.at (inb_of Sz2 ⟨by decide, by decide⟩) rfl) (g := (mkF m 5 #[rv li, iv (0 : Int32)] [(.int (0 : Int32)), (.ref d)])) rfl rfl (hb hby d67_5) _ kk_) ?_
  show gN T1 (mkF m 6 #[rv li, iv (0 : Int32)] [(.ref qa0)])
  refine own_retA X1 hx hlk rfl hret rfl (hb hby d67_6) (by decide) (by decide) ?_
  show QNG0 Z qa0 h0 n0 (some (.ref qa0)) T1.heap _
  rw [e1]
  exact ⟨rfl, N0, rfl⟩
abbrev rRrmNG1 : Room := { frames := 0, cells := 0, slots := 0, locals := 0 }
theorem ef_rmNG1 (m : MethodId) (li : Addr) : entryFrame m #[(.ref li), (.int (1 : Int32))] 2 = (mkF m 0 #[rv li, iv (1 : Int32)] []) := by first | (simp [entryFrame, mkF, argsToLocals, Value.category]; done) | rfl
def QNG1 (Z : State) (qa1 : Addr) (h0 : Heap) (n0 : Nat) (v_ : Option Value) (h_ : Heap) (L_ : List Loc) : Prop := (v_ = some (.ref qa1)) ∧ (Fr n0 L_) ∧ (h_ = h0)
theorem rmNG1 (l : Launch) (Z : State) (a0 : Array Value) (hw : own_T a0 Z) (li : Addr) (d : Addr) (kd : ClassId) (qa0 : Addr) (qa1 : Addr) (qa2 : Addr) (h0 : Heap) (n0 : Nat) (Z0 : n0 ≤ h0.size) (p_0 : Exa Z h0 li "java/util/ImmutableCollections$ListN") (p_1 : Fld Z h0 li "java/util/ImmutableCollections$ListN" "elements" "[Ljava/lang/Object;" (.ref d)) (p_2 : Arv Z h0 d kd (.object "java/lang/Object") (3 : Int32) [(.ref qa0), (.ref qa1), (.ref qa2)] .null) :
    own_Met l yy67 jdk_45_method_4_code 2 (some (.object "java/lang/Object")) [] rRrmNG1 Z h0 #[(.ref li), (.int (1 : Int32))] (QNG1 Z qa1 h0 n0) := by
  refine own_openN pn_67 (own := "java/util/ImmutableCollections$ListN") rfl ?_
  intro p e s m below meth c s₁ hx hby hlk hml hret hZ hown hnm X0 e0
  have N0 := Fr.nil n0
  rw [ef_rmNG1 m li]
  show own_Goes p e below s (QNG1 Z qa1 h0 n0) rRrmNG1.cells rRrmNG1.slots s₁ (mkF m 0 #[rv li, iv (1 : Int32)] [])
  refine own_st (fun _ kk_ => XS.aloadN X0.here hx rfl (hb hby d67_0) rfl rfl kk_) ?_
  show gN s₁ (mkF m 1 #[rv li, iv (1 : Int32)] [(.ref li)])
  obtain ⟨T1, X1, e1, st1⟩ := getF X0 hx hZ hown (host := "") (Or.inl (own_w hw 367 rfl)) Via.refl e0 p_1 (g := (mkF m 1 #[rv li, iv (1 : Int32)] [(.ref li)])) rfl rfl (hb hby d67_1)
  refine own_st st1 ?_
  refine own_st (fun _ kk_ => XS.iloadN X1.here hx rfl (hb hby d67_4) rfl kk_) ?_
  show gN T1 (mkF m 5 #[rv li, iv (1 : Int32)] [(.int (1 : Int32)), (.ref d)])
  obtain ⟨cl2, Ar2, q2, Sz2, Nn2, Hh2, Gg2⟩ := id p_2
  refine own_st (fun _ kk_ => X1.aaload hx (j := (1 : Int32)) (v := (.ref qa1)) (by rw [e1]; exact Ar2.1) (State.isArrayOf_alike hZ.alike Ar2.2.1) rfl Ar2.2.2 (inb_of Sz2 ⟨by decide, by decide⟩) (Hh2.at (inb_of Sz2 ⟨by decide, by decide⟩) rfl) (g := (mkF m 5 #[rv li, iv (1 : Int32)] [(.int (1 : Int32)), (.ref d)])) rfl rfl (hb hby d67_5) _ kk_) ?_
  show gN T1 (mkF m 6 #[rv li, iv (1 : Int32)] [(.ref qa1)])
  refine own_retA X1 hx hlk rfl hret rfl (hb hby d67_6) (by decide) (by decide) ?_
  show QNG1 Z qa1 h0 n0 (some (.ref qa1)) T1.heap _
  rw [e1]
  exact ⟨rfl, N0, rfl⟩
abbrev rRrmNG2 : Room := { frames := 0, cells := 0, slots := 0, locals := 0 }
theorem ef_rmNG2 (m : MethodId) (li : Addr) : entryFrame m #[(.ref li), (.int (2 : Int32))] 2 = (mkF m 0 #[rv li, iv (2 : Int32)] []) := by first | (simp [entryFrame, mkF, argsToLocals, Value.category]; done) | rfl
def QNG2 (Z : State) (qa2 : Addr) (h0 : Heap) (n0 : Nat) (v_ : Option Value) (h_ : Heap) (L_ : List Loc) : Prop := (v_ = some (.ref qa2)) ∧ (Fr n0 L_) ∧ (h_ = h0)
theorem rmNG2 (l : Launch) (Z : State) (a0 : Array Value) (hw : own_T a0 Z) (li : Addr) (d : Addr) (kd : ClassId) (qa0 : Addr) (qa1 : Addr) (qa2 : Addr) (h0 : Heap) (n0 : Nat) (Z0 : n0 ≤ h0.size) (p_0 : Exa Z h0 li "java/util/ImmutableCollections$ListN") (p_1 : Fld Z h0 li "java/util/ImmutableCollections$ListN" "elements" "[Ljava/lang/Object;" (.ref d)) (p_2 : Arv Z h0 d kd (.object "java/lang/Object") (3 : Int32) [(.ref qa0), (.ref qa1), (.ref qa2)] .null) :
    own_Met l yy67 jdk_45_method_4_code 2 (some (.object "java/lang/Object")) [] rRrmNG2 Z h0 #[(.ref li), (.int (2 : Int32))] (QNG2 Z qa2 h0 n0) := by
  refine own_openN pn_67 (own := "java/util/ImmutableCollections$ListN") rfl ?_
  intro p e s m below meth c s₁ hx hby hlk hml hret hZ hown hnm X0 e0
  have N0 := Fr.nil n0
  rw [ef_rmNG2 m li]
  show own_Goes p e below s (QNG2 Z qa2 h0 n0) rRrmNG2.cells rRrmNG2.slots s₁ (mkF m 0 #[rv li, iv (2 : Int32)] [])
  refine own_st (fun _ kk_ => XS.aloadN X0.here hx rfl (hb hby d67_0) rfl rfl kk_) ?_
  show gN s₁ (mkF m 1 #[rv li, iv (2 : Int32)] [(.ref li)])
  obtain ⟨T1, X1, e1, st1⟩ := getF X0 hx hZ hown (host := "") (Or.inl (own_w hw 367 rfl)) Via.refl e0 p_1 (g := (mkF m 1 #[rv li, iv (2 : Int32)] [(.ref li)])) rfl rfl (hb hby d67_1)
  refine own_st st1 ?_
  refine own_st (fun _ kk_ => XS.iloadN X1.here hx rfl (hb hby d67_4) rfl kk_) ?_
  show gN T1 (mkF m 5 #[rv li, iv (2 : Int32)] [(.int (2 : Int32)), (.ref d)])
  obtain ⟨cl2, Ar2, q2, Sz2, Nn2, Hh2, Gg2⟩ := id p_2
  refine own_st (fun _ kk_ => X1.aaload hx (j := (2 : Int32)) (v := (.ref qa2)) (by rw [e1]; exact Ar2.1) (State.isArrayOf_alike hZ.alike Ar2.2.1) rfl Ar2.2.2 (inb_of Sz2 ⟨by decide, by decide⟩) (Hh2.at (inb_of Sz2 ⟨by decide, by decide⟩) rfl) (g := (mkF m 5 #[rv li, iv (2 : Int32)] [(.int (2 : Int32)), (.ref d)])) rfl rfl (hb hby d67_5) _ kk_) ?_
  show gN T1 (mkF m 6 #[rv li, iv (2 : Int32)] [(.ref qa2)])
  refine own_retA X1 hx hlk rfl hret rfl (hb hby d67_6) (by decide) (by decide) ?_
  show QNG2 Z qa2 h0 n0 (some (.ref qa2)) T1.heap _
  rw [e1]
  exact ⟨rfl, N0, rfl⟩
theorem own_okS : own_ok [42] (1 : Int32) [(.int (42 : Int32))] := ⟨Or.inl ⟨rfl, by decide, by decide +kernel, by decide⟩, by decide, by decide⟩
theorem own_okX : own_ok [33] (1 : Int32) [(.int (33 : Int32))] := ⟨Or.inl ⟨rfl, by decide, by decide +kernel, by decide⟩, by decide, by decide⟩
abbrev own_mt (np ni : Int32) (P0 P1 : Prop) : Prop := ¬ ni < np ∧ P0 ∧ (np = 1 ∨ P1)
abbrev rRrm54 : Room := { frames := 2, cells := 8, slots := 32, locals := 28 }
abbrev c54 (n : Nat) (i : ClassFile.Instr) (k : Nat) : Prop := decode prog_2_method_4_code n = .ok (i, k)
theorem d54_0 : c54 0 (.aload_n 1) 1 := by decide +kernel
theorem d54_1 : c54 1 (.getfield 24) 3 := by decide +kernel
theorem d54_4 : c54 4 (.invokeinterface 116 1) 5 := by decide +kernel
theorem d54_9 : c54 9 (.aload_n 0) 1 := by decide +kernel
theorem d54_10 : c54 10 (.getfield 24) 3 := by decide +kernel
theorem d54_13 : c54 13 (.invokeinterface 116 1) 5 := by decide +kernel
theorem d54_18 : c54 18 (.if_icmp .ge 5) 3 := by decide +kernel
theorem d54_21 : c54 21 (.iconst 0) 1 := by decide +kernel
theorem d54_22 : c54 22 (.ireturn) 1 := by decide +kernel
theorem d54_23 : c54 23 (.iconst 0) 1 := by decide +kernel
theorem d54_24 : c54 24 (.istore_n 2) 1 := by decide +kernel
theorem d54_25 : c54 25 (.iload_n 2) 1 := by decide +kernel
theorem d54_26 : c54 26 (.aload_n 0) 1 := by decide +kernel
theorem d54_27 : c54 27 (.getfield 24) 3 := by decide +kernel
theorem d54_30 : c54 30 (.invokeinterface 116 1) 5 := by decide +kernel
theorem d54_35 : c54 35 (.if_icmp .ge 96) 3 := by decide +kernel
theorem d54_38 : c54 38 (.aload_n 0) 1 := by decide +kernel
theorem d54_39 : c54 39 (.getfield 24) 3 := by decide +kernel
theorem d54_42 : c54 42 (.iload_n 2) 1 := by decide +kernel
theorem d54_43 : c54 43 (.invokeinterface 120 2) 5 := by decide +kernel
theorem d54_48 : c54 48 (.checkcast 47) 3 := by decide +kernel
theorem d54_51 : c54 51 (.astore_n 3) 1 := by decide +kernel
theorem d54_52 : c54 52 (.aload_n 1) 1 := by decide +kernel
theorem d54_53 : c54 53 (.getfield 24) 3 := by decide +kernel
theorem d54_56 : c54 56 (.iload_n 2) 1 := by decide +kernel
theorem d54_57 : c54 57 (.invokeinterface 120 2) 5 := by decide +kernel
theorem d54_62 : c54 62 (.checkcast 47) 3 := by decide +kernel
theorem d54_65 : c54 65 (.astore 4) 2 := by decide +kernel
theorem d54_67 : c54 67 (.aload_n 3) 1 := by decide +kernel
theorem d54_68 : c54 68 (.getfield 124) 3 := by decide +kernel
theorem d54_71 : c54 71 (.aload 4) 2 := by decide +kernel
theorem d54_73 : c54 73 (.getfield 124) 3 := by decide +kernel
theorem d54_76 : c54 76 (.invokevirtual 55) 3 := by decide +kernel
theorem d54_79 : c54 79 (.ifCond .ne 5) 3 := by decide +kernel
theorem d54_82 : c54 82 (.iconst 0) 1 := by decide +kernel
theorem d54_83 : c54 83 (.ireturn) 1 := by decide +kernel
theorem d54_84 : c54 84 (.aload_n 3) 1 := by decide +kernel
theorem d54_85 : c54 85 (.getfield 49) 3 := by decide +kernel
theorem d54_88 : c54 88 (.ldc 53) 2 := by decide +kernel
theorem d54_90 : c54 90 (.invokevirtual 55) 3 := by decide +kernel
theorem d54_93 : c54 93 (.ifCond .ne 32) 3 := by decide +kernel
theorem d54_96 : c54 96 (.aload_n 3) 1 := by decide +kernel
theorem d54_97 : c54 97 (.getfield 49) 3 := by decide +kernel
theorem d54_100 : c54 100 (.ldc 61) 2 := by decide +kernel
theorem d54_102 : c54 102 (.invokevirtual 55) 3 := by decide +kernel
theorem d54_105 : c54 105 (.ifCond .ne 20) 3 := by decide +kernel
theorem d54_108 : c54 108 (.aload_n 3) 1 := by decide +kernel
theorem d54_109 : c54 109 (.getfield 49) 3 := by decide +kernel
theorem d54_112 : c54 112 (.aload 4) 2 := by decide +kernel
theorem d54_114 : c54 114 (.getfield 49) 3 := by decide +kernel
theorem d54_117 : c54 117 (.invokevirtual 55) 3 := by decide +kernel
theorem d54_120 : c54 120 (.ifCond .ne 5) 3 := by decide +kernel
theorem d54_123 : c54 123 (.iconst 0) 1 := by decide +kernel
theorem d54_124 : c54 124 (.ireturn) 1 := by decide +kernel
theorem d54_125 : c54 125 (.iinc 2 1) 3 := by decide +kernel
theorem d54_128 : c54 128 (.goto (-103)) 3 := by decide +kernel
theorem d54_131 : c54 131 (.iconst 1) 1 := by decide +kernel
theorem d54_132 : c54 132 (.ireturn) 1 := by decide +kernel
theorem pd_37 : parseMethodDescriptor "(I)Ljava/lang/Object;" = some ⟨[.int], some (.object "java/lang/Object")⟩ := by decide +kernel
theorem pn_54 : plainFor yy70 = true := by decide +kernel
theorem ef_rm54 (m : MethodId) (bc1 : Addr) (bc2 : Addr) : entryFrame m #[(.ref bc1), (.ref bc2)] 5 = (mkF m 0 #[rv bc1, rv bc2, oU, oU, oU] []) := by first | (simp [entryFrame, mkF, argsToLocals, Value.category]; done) | rfl
def Q54 (Z : State) (np : Int32) (ni : Int32) (a0tu : List Int32) (a0vu : List Int32) (a1tu : List Int32) (a1vu : List Int32) (b0tu : List Int32) (b0vu : List Int32) (b1tu : List Int32) (b1vu : List Int32) (h0 : Heap) (n0 : Nat) (v_ : Option Value) (h_ : Heap) (L_ : List Loc) : Prop := (v_ = some (.int (own_b (own_mt np ni (own_q a0tu a0vu b0tu b0vu) (own_q a1tu a1vu b1tu b1vu))))) ∧ (Fr n0 L_) ∧ (Keep h0 h_ [])
theorem rm54 (l : Launch) (Z : State) (a0 : Array Value) (hw : ∀ d ∈ tables_1, d.before a0 Z = true) (ws : List Jvm.Cond) (hEL : EW Z a0 consts_1) (bc1 : Addr) (bc2 : Addr) (li1 : Addr) (li2 : Addr) (em : Addr) (cs : Int32) (np : Int32) (ni : Int32) (a2p : Addr) (b2p : Addr) (ka1 : Nat) (ka2 : Nat) (a0p : Addr) (a0ta : Addr) (a0td : Addr) (a0tk : ClassId) (a0tz : Int32) (a0tl : List Value) (a0tu : List Int32) (a0va : Addr) (a0vd : Addr) (a0vk : ClassId) (a0vz : Int32) (a0vl : List Value) (a0vu : List Int32) (a1p : Addr) (a1ta : Addr) (a1td : Addr) (a1tk : ClassId) (a1tz : Int32) (a1tl : List Value) (a1tu : List Int32) (a1va : Addr) (a1vd : Addr) (a1vk : ClassId) (a1vz : Int32) (a1vl : List Value) (a1vu : List Int32) (b0p : Addr) (b0ta : Addr) (b0td : Addr) (b0tk : ClassId) (b0tz : Int32) (b0tl : List Value) (b0tu : List Int32) (b0va : Addr) (b0vd : Addr) (b0vk : ClassId) (b0vz : Int32) (b0vl : List Value) (b0vu : List Int32) (b1p : Addr) (b1ta : Addr) (b1td : Addr) (b1tk : ClassId) (b1tz : Int32) (b1tl : List Value) (b1tu : List Int32) (b1va : Addr) (b1vd : Addr) (b1vk : ClassId) (b1vz : Int32) (b1vl : List Value) (b1vu : List Int32) (h0 : Heap) (n0 : Nat) (Z0 : n0 ≤ h0.size) (p_0 : Exa Z h0 bc1 "com/example/firm_duties/firmduties/BusinessContext") (p_1 : Fld Z h0 bc1 "com/example/firm_duties/firmduties/BusinessContext" "pairs" "Ljava/util/List;" (.ref li1)) (p_2 : Exa Z h0 bc2 "com/example/firm_duties/firmduties/BusinessContext") (p_3 : Fld Z h0 bc2 "com/example/firm_duties/firmduties/BusinessContext" "pairs" "Ljava/util/List;" (.ref li2)) (p_4 : Sta Z h0 "java/util/ImmutableCollections" "EMPTY" "Ljava/lang/Object;" (.ref em)) (p_5 : Sta Z h0 "java/lang/String" "COMPACT_STRINGS" "Z" (.int cs)) (hcs : ¬ cs = (0 : Int32)) (p_7 : Exa Z h0 a0p "com/example/firm_duties/firmduties/BusinessContext$Pair") (p_8 : Fld Z h0 a0p "com/example/firm_duties/firmduties/BusinessContext$Pair" "type" "Ljava/lang/String;" (.ref a0ta)) (p_9 : Fld Z h0 a0p "com/example/firm_duties/firmduties/BusinessContext$Pair" "value" "Ljava/lang/String;" (.ref a0va)) (p_10 : Exa Z h0 a0ta "java/lang/String") (p_11 : Fld Z h0 a0ta "java/lang/String" "coder" "B" (.int (0 : Int32))) (p_12 : Fld Z h0 a0ta "java/lang/String" "value" "[B" (.ref a0td)) (p_13 : Arv Z h0 a0td a0tk .byte a0tz a0tl (.int (0 : Int32))) (p_14 : Exa Z h0 a0va "java/lang/String") (p_15 : Fld Z h0 a0va "java/lang/String" "coder" "B" (.int (0 : Int32))) (p_16 : Fld Z h0 a0va "java/lang/String" "value" "[B" (.ref a0vd)) (p_17 : Arv Z h0 a0vd a0vk .byte a0vz a0vl (.int (0 : Int32))) (ho_a0t : own_ok a0tu a0tz a0tl) (ho_a0v : own_ok a0vu a0vz a0vl) (p_20 : Exa Z h0 a1p "com/example/firm_duties/firmduties/BusinessContext$Pair") (p_21 : Fld Z h0 a1p "com/example/firm_duties/firmduties/BusinessContext$Pair" "type" "Ljava/lang/String;" (.ref a1ta)) (p_22 : Fld Z h0 a1p "com/example/firm_duties/firmduties/BusinessContext$Pair" "value" "Ljava/lang/String;" (.ref a1va)) (p_23 : Exa Z h0 a1ta "java/lang/String") (p_24 : Fld Z h0 a1ta "java/lang/String" "coder" "B" (.int (0 : Int32))) (p_25 : Fld Z h0 a1ta "java/lang/String" "value" "[B" (.ref a1td)) (p_26 : Arv Z h0 a1td a1tk .byte a1tz a1tl (.int (0 : Int32))) (p_27 : Exa Z h0 a1va "java/lang/String") (p_28 : Fld Z h0 a1va "java/lang/String" "coder" "B" (.int (0 : Int32))) (p_29 : Fld Z h0 a1va "java/lang/String" "value" "[B" (.ref a1vd)) (p_30 : Arv Z h0 a1vd a1vk .byte a1vz a1vl (.int (0 : Int32))) (ho_a1t : own_ok a1tu a1tz a1tl) (ho_a1v : own_ok a1vu a1vz a1vl) (p_33 : Exa Z h0 b0p "com/example/firm_duties/firmduties/BusinessContext$Pair") (p_34 : Fld Z h0 b0p "com/example/firm_duties/firmduties/BusinessContext$Pair" "type" "Ljava/lang/String;" (.ref b0ta)) (p_35 : Fld Z h0 b0p "com/example/firm_duties/firmduties/BusinessContext$Pair" "value" "Ljava/lang/String;" (.ref b0va)) (p_36 : Exa Z h0 b0ta "java/lang/String") (p_37 : Fld Z h0 b0ta "java/lang/String" "coder" "B" (.int (0 : Int32))) (p_38 : Fld Z h0 b0ta "java/lang/String" "value" "[B" (.ref b0td)) (p_39 : Arv Z h0 b0td b0tk .byte b0tz b0tl (.int (0 : Int32))) (p_40 : Exa Z h0 b0va "java/lang/String") (p_41 : Fld Z h0 b0va "java/lang/String" "coder" "B" (.int (0 : Int32))) (p_42 : Fld Z h0 b0va "java/lang/String" "value" "[B" (.ref b0vd)) (p_43 : Arv Z h0 b0vd b0vk .byte b0vz b0vl (.int (0 : Int32))) (ho_b0t : own_ok b0tu b0tz b0tl) (ho_b0v : own_ok b0vu b0vz b0vl) (p_46 : Exa Z h0 b1p "com/example/firm_duties/firmduties/BusinessContext$Pair") (p_47 : Fld Z h0 b1p "com/example/firm_duties/firmduties/BusinessContext$Pair" "type" "Ljava/lang/String;" (.ref b1ta)) (p_48 : Fld Z h0 b1p "com/example/firm_duties/firmduties/BusinessContext$Pair" "value" "Ljava/lang/String;" (.ref b1va)) (p_49 : Exa Z h0 b1ta "java/lang/String") (p_50 : Fld Z h0 b1ta "java/lang/String" "coder" "B" (.int (0 : Int32))) (p_51 : Fld Z h0 b1ta "java/lang/String" "value" "[B" (.ref b1td)) (p_52 : Arv Z h0 b1td b1tk .byte b1tz b1tl (.int (0 : Int32))) (p_53 : Exa Z h0 b1va "java/lang/String") (p_54 : Fld Z h0 b1va "java/lang/String" "coder" "B" (.int (0 : Int32))) (p_55 : Fld Z h0 b1va "java/lang/String" "value" "[B" (.ref b1vd)) (p_56 : Arv Z h0 b1vd b1vk .byte b1vz b1vl (.int (0 : Int32))) (ho_b1t : own_ok b1tu b1tz b1tl) (ho_b1v : own_ok b1vu b1vz b1vl) (hl1 : own_l Z h0 ka1 li1 np a0p a1p a2p em) (hl2 : own_l Z h0 ka2 li2 ni b0p b1p b2p em) (hn3 : ¬ np = 3) :
    MetFree l yy70 (head1 (Jvm.Cond.code yy70 prog_2_method_4_code 5 (some .boolean) :: ws) rRrm54) (fun a_ U_ => a_ = #[(.ref bc1), (.ref bc2)] ∧ Z.Warmed39 U_.vm ∧ U_.heap = h0 ∧ CHv Z consts_1 U_.vm h0 ∧ ∀ x_ ∈ ([] : List Addr), Safe Z consts_1 U_.vm h0 x_) (fun _ _ _ _ _ => True) (fun _ U_ o_ U1_ => ∃ v_ L_, o_ = .returned v_ ∧ Q54 Z np ni a0tu a0vu a1tu a1vu b0tu b0vu b1tu b1vu h0 n0 v_ U1_.heap L_ ∧ CHr Z consts_1 U_.vm U_.heap U1_.vm U1_.heap ∧ ReturnedEndW U_ o_ U1_ L_ rRrm54.cells rRrm54.slots) := by
  refine MetFree.of_bodySF pn_54 hisR ?_
  intro p e s m args below meth c s₁ Bd hml0 hP hK
  obtain ⟨rfl, hZ, hh, hCH, hSf⟩ := hP
  have hx := Bd.exec
  have hby := Bd.bytes
  have hlk : meth.locks = false := Bd.notSynchronized
  have hml : c.maxLocals = 5 := hml0
  have hown : s.vm.findClass "com/example/firm_duties/firmduties/BusinessContext" = some m.cls := findClass_of_methodNamed Bd.named
  have hnm := (name_of_methodNamed Bd.named Bd.method).1
  have X0 : Stand p l e rRrm54 (s.setVm s.vm) m #[(.ref bc1), (.ref bc2)] below meth c s₁ [] 0 0 := Stand.of_body Bd
  have e0 : s₁.heap = h0 := by rw [← hh, Bd.state]; rfl
  have N0 := Fr.nil n0
  have hS0 : s.Since s.vm n0 := (State.WarmedH.refl s).since n0
  have wS : ∀ d ∈ Bundle.stringAtoms, d.before a0 Z = true := by
    intro d hd
    simp only [Bundle.stringAtoms, List.mem_cons, List.not_mem_nil, or_false] at hd
    rcases hd with rfl | rfl | rfl | rfl | rfl | rfl | rfl
    · exact (own_w hw 12 rfl)
    · exact (own_w hw 20 rfl)
    · exact (own_w hw 24 rfl)
    · exact (own_w hw 33 rfl)
    · exact (own_w hw 35 rfl)
    · exact (own_w hw 46 rfl)
    · exact (own_w hw 47 rfl)
  have C0 := CHr.refl hCH
  show own_GoesH p e below s Z consts_1 (Q54 Z np ni a0tu a0vu a1tu a1vu b0tu b0vu b1tu b1vu h0 n0) rRrm54.cells rRrm54.slots s₁ (entryFrame m #[(.ref bc1), (.ref bc2)] 5)
  rw [ef_rm54 m bc1 bc2]
  show own_GoesH p e below s Z consts_1 (Q54 Z np ni a0tu a0vu a1tu a1vu b0tu b0vu b1tu b1vu h0 n0) rRrm54.cells rRrm54.slots s₁ (mkF m 0 #[rv bc1, rv bc2, oU, oU, oU] [])
  have J0 : ∀ (T2 : State) (L2 : List Loc) (h2 : Heap) (vm2 : Vm) (k2 : Nat), Stand p l e rRrm54 (s.setVm vm2) m #[(.ref bc1), (.ref bc2)] below meth c T2 L2 0 0 → T2.heap = h2 → Fr n0 L2 → n0 ≤ h2.size → s.Since vm2 k2 → k2 ≤ h2.size → Z.Warmed39 (s.setVm vm2).vm → (s.setVm vm2).vm.findClass "com/example/firm_duties/firmduties/BusinessContext" = some m.cls → CHr Z consts_1 s.vm h0 vm2 h2 → Keep h0 h2 [] → Keep h0 h2 [] → (∀ (T1 : State) (L1 : List Loc) (h1 : Heap) (vm1 : Vm) (k1 : Nat), Stand p l e rRrm54 (s.setVm vm1) m #[(.ref bc1), (.ref bc2)] below meth c T1 L1 4 16 → T1.heap = h1 → Fr n0 L1 → n0 ≤ h1.size → s.Since vm1 k1 → k1 ≤ h1.size → Z.Warmed39 (s.setVm vm1).vm → (s.setVm vm1).vm.findClass "com/example/firm_duties/firmduties/BusinessContext" = some m.cls → CHr Z consts_1 s.vm h0 vm1 h1 → Keep h0 h1 [] → Keep h0 h1 [] → own_q a0tu a0vu b0tu b0vu → own_GoesH p e below s Z consts_1 (Q54 Z np ni a0tu a0vu a1tu a1vu b0tu b0vu b1tu b1vu h0 n0) rRrm54.cells rRrm54.slots T1 (mkF m 125 #[rv bc1, rv bc2, iv (0 : Int32), rv a0p, rv b0p] [])) → own_GoesH p e below s Z consts_1 (Q54 Z np ni a0tu a0vu a1tu a1vu b0tu b0vu b1tu b1vu h0 n0) rRrm54.cells rRrm54.slots T2 (mkF m 67 #[rv bc1, rv bc2, iv (0 : Int32), rv a0p, rv b0p] []) := by
    intro T2 L2 h2 vm2 k2 X2 e2 N2 Zs2 hS2 Ks2 hZ hown C2 K2 MJ2_0 j2_0
    show gH T2 (mkF m 67 #[rv bc1, rv bc2, iv (0 : Int32), rv a0p, rv b0p] [])
    refine own_stH (fun _ kk_ => XS.aloadN X2.here hx rfl (hb hby d54_67) rfl rfl kk_) ?_
    show gH T2 (mkF m 68 #[rv bc1, rv bc2, iv (0 : Int32), rv a0p, rv b0p] [(.ref a0p)])
    have mf3 := p_8.keep MJ2_0 nin0
    refine own_stH (fun _ kk_ => own_getR X2 hx hZ hown (own_w hw 330 rfl) e2 mf3 (g := (mkF m 68 #[rv bc1, rv bc2, iv (0 : Int32), rv a0p, rv b0p] [(.ref a0p)])) rfl rfl (hb hby d54_68) _ (XS.aload X2.here hx rfl (hb hby d54_71) rfl rfl kk_)) ?_
    show gH T2 (mkF m 73 #[rv bc1, rv bc2, iv (0 : Int32), rv a0p, rv b0p] [(.ref b0p), (.ref a0ta)])
    have mf4 := p_34.keep MJ2_0 nin0
    refine own_stH (fun _ kk_ => own_getR X2 hx hZ hown (own_w hw 330 rfl) e2 mf4 (g := (mkF m 73 #[rv bc1, rv bc2, iv (0 : Int32), rv a0p, rv b0p] [(.ref b0p), (.ref a0ta)])) rfl rfl (hb hby d54_73) _ kk_) ?_
    show gH T2 (mkF m 76 #[rv bc1, rv bc2, iv (0 : Int32), rv a0p, rv b0p] [(.ref b0ta), (.ref a0ta)])
    have mf6 := p_10.keep MJ2_0
    have mf7 := p_11.keep MJ2_0 nin0
    have mf8 := p_12.keep MJ2_0 nin0
    have mf9 := p_36.keep MJ2_0
    have mf10 := p_37.keep MJ2_0 nin0
    have mf11 := p_38.keep MJ2_0 nin0
    have mf12 := p_13.keep MJ2_0 nin0
    have mf13 := p_39.keep MJ2_0 nin0
    have mf14 := own_Sta_keep p_5 MJ2_0 ns0
    obtain ⟨cq5, kq5, q5a, q5b, q5c⟩ := isOf hZ e2 mf6
    obtain ⟨_, _, ⟨T5, L5, k5, n5⟩, -, X5, ⟨Lc5, hQ5, l5, y5, z5⟩, st5⟩ := X2.virtualBack hx (y := yy12) (z := yy12) hown (own_mw hZ hw 96 rfl) (own_mw hZ hw 97 rfl) (notFace_of_selects (args := #[]) (own_mw hZ hw 99 rfl)) (own_mw hZ hw 99 rfl) (own_mw hZ hw 98 rfl) (by decide) (own_eqW (W := 0) (n0 := n0) hZ hw (kI := 4) (own_w hw 20 rfl) (us := a0tu) (ds := b0tu) mf6 mf7 mf8 mf9 mf10 mf11 mf12 mf13 ho_a0t ho_b0t mf14 (by assumption) (by decide) (by decide)) q5a q5c (g := (mkF m 76 #[rv bc1, rv bc2, iv (0 : Int32), rv a0p, rv b0p] [(.ref b0ta), (.ref a0ta)])) rfl (by rw [hml]; rfl) (Steps.refl _) (argsL := [(.ref b0ta)]) (rest := []) (lenOf pd_12 rfl) rfl (own_bl rfl) (hb hby d54_76) (fun _ _ => ⟨rfl, e2, own_bl rfl, own_bl rfl⟩)
    dsimp only [Pt.U, Pt.locs, Pt.cells, Pt.slots] at X5 l5 y5 z5 st5 hQ5
    subst l5 y5 z5
    obtain ⟨rfl, Nq5, eq5⟩ := hQ5
    have N5 := Fr.app N2 Nq5
    refine own_sTH st5 ?_
    rcases Classical.em (a0tu = b0tu) with k0 | k0
    · rw [own_b1 k0]
      show gH T5 (mkF m 79 #[rv bc1, rv bc2, iv (0 : Int32), rv a0p, rv b0p] [(.int (1 : Int32))])
      refine own_stH (fun _ kk_ => XS.ifYes X5.here hx rfl (pc0 := 79) (pc' := 84) rfl (hb hby d54_79) rfl (XT.i0_ne_t (by decide)) (by decide) (by decide) (XS.aloadN X5.here hx rfl (hb hby d54_84) rfl rfl kk_)) ?_
      show gH T5 (mkF m 85 #[rv bc1, rv bc2, iv (0 : Int32), rv a0p, rv b0p] [(.ref a0p)])
      have mf15 := p_9.keep MJ2_0 nin0
      refine own_stH (fun _ kk_ => own_getR X5 hx hZ hown (own_w hw 390 rfl) eq5 mf15 (g := (mkF m 85 #[rv bc1, rv bc2, iv (0 : Int32), rv a0p, rv b0p] [(.ref a0p)])) rfl rfl (hb hby d54_85) _ kk_) ?_
      show gH T5 (mkF m 88 #[rv bc1, rv bc2, iv (0 : Int32), rv a0p, rv b0p] [(.ref a0va)])
      obtain ⟨b16, T16, h16, k16, d16, kc16, X16, e16, E16, hS16, Ka16, hZ, hown, Ex16, Fc16, Fv16, Av16, -, -, hC16, -, hsa16, st16⟩ := ldcCH X5 hx hZ hown (own_w hw 391 rfl) wS eq5 hS2 Ks2 hEL (List.mem_of_getElem? (i := 0) rfl) C2.1 (vs := [(.int (42 : Int32))]) (z := (1 : Int32)) ⟨by decide, by decide⟩ (by decide) (by decide) (g := (mkF m 88 #[rv bc1, rv bc2, iv (0 : Int32), rv a0p, rv b0p] [(.ref a0va)])) rfl (hb hby d54_88) (n := 4) (by decide) (by decide) (by decide) (by decide)
      have M16_0 := MJ2_0.ext E16
      have C16 := C2.trans hC16
      have Zs16 : n0 ≤ h16.size := Nat.le_trans Zs2 E16.1
      have K16 := K2.ext E16
      have Ks16 := Nat.le_trans Ks2 E16.1
      refine own_stH st16 ?_
      have mf18 := p_14.keep M16_0
      have mf19 := p_15.keep M16_0 nin0
      have mf20 := p_16.keep M16_0 nin0
      have mf21 := p_17.keep M16_0 nin0
      have mf22 := own_Sta_keep p_5 M16_0 ns0
      obtain ⟨cq17, kq17, q17a, q17b, q17c⟩ := isOf hZ e16 mf18
      obtain ⟨_, _, ⟨T17, L17, k17, n17⟩, -, X17, ⟨Lc17, hQ17, l17, y17, z17⟩, st17⟩ := X16.virtualBack hx (y := yy12) (z := yy12) hown (own_mw hZ hw 96 rfl) (own_mw hZ hw 97 rfl) (notFace_of_selects (args := #[]) (own_mw hZ hw 99 rfl)) (own_mw hZ hw 99 rfl) (own_mw hZ hw 98 rfl) (by decide) (own_eqW (W := 0) (n0 := n0) hZ hw (kI := 4) (own_w hw 20 rfl) (us := a0vu) (ds := [42]) mf18 mf19 mf20 Ex16 Fc16 Fv16 mf21 Av16 ho_a0v own_okS mf22 (by assumption) (by decide) (by decide)) q17a q17c (g := (mkF m 90 #[rv bc1, rv bc2, iv (0 : Int32), rv a0p, rv b0p] [(.ref b16), (.ref a0va)])) rfl (by rw [hml]; rfl) (Steps.refl _) (argsL := [(.ref b16)]) (rest := []) (lenOf pd_12 rfl) rfl (own_bl rfl) (hb hby d54_90) (fun _ _ => ⟨rfl, e16, own_bl rfl, own_bl rfl⟩)
      dsimp only [Pt.U, Pt.locs, Pt.cells, Pt.slots] at X17 l17 y17 z17 st17 hQ17
      subst l17 y17 z17
      obtain ⟨rfl, Nq17, eq17⟩ := hQ17
      have N17 := Fr.app N5 Nq17
      refine own_sTH st17 ?_
      rcases Classical.em (a0vu = [42]) with k1 | k1
      · rw [own_b1 k1]
        show gH T17 (mkF m 93 #[rv bc1, rv bc2, iv (0 : Int32), rv a0p, rv b0p] [(.int (1 : Int32))])
        refine own_stH (fun _ kk_ => XS.ifYes X17.here hx rfl (pc0 := 93) (pc' := 125) rfl (hb hby d54_93) rfl (XT.i0_ne_t (by decide)) (by decide) (by decide) kk_) ?_
        show gH T17 (mkF m 125 #[rv bc1, rv bc2, iv (0 : Int32), rv a0p, rv b0p] [])
        exact j2_0 _ _ _ _ _ (X17.more (by decide) (by decide)) eq17 N17 Zs16 hS16 Ka16 hZ hown C16 K16 M16_0 ⟨k0, Or.inl k1⟩
      · rw [own_b0 k1]
        show gH T17 (mkF m 93 #[rv bc1, rv bc2, iv (0 : Int32), rv a0p, rv b0p] [(.int (0 : Int32))])
        refine own_stH (fun _ kk_ => XS.ifNo X17.here hx rfl (hb hby d54_93) rfl (XT.i0_ne_f (by decide)) (XS.aloadN X17.here hx rfl (hb hby d54_96) rfl rfl kk_)) ?_
        show gH T17 (mkF m 97 #[rv bc1, rv bc2, iv (0 : Int32), rv a0p, rv b0p] [(.ref a0p)])
        have mf23 := p_9.keep M16_0 nin0
        refine own_stH (fun _ kk_ => own_getR X17 hx hZ hown (own_w hw 390 rfl) eq17 mf23 (g := (mkF m 97 #[rv bc1, rv bc2, iv (0 : Int32), rv a0p, rv b0p] [(.ref a0p)])) rfl rfl (hb hby d54_97) _ kk_) ?_
        show gH T17 (mkF m 100 #[rv bc1, rv bc2, iv (0 : Int32), rv a0p, rv b0p] [(.ref a0va)])
        obtain ⟨b24, T24, h24, k24, d24, kc24, X24, e24, E24, hS24, Ka24, hZ, hown, Ex24, Fc24, Fv24, Av24, -, -, hC24, -, hsa24, st24⟩ := ldcCH X17 hx hZ hown (own_w hw 392 rfl) wS eq17 hS16 Ka16 hEL (List.mem_of_getElem? (i := 1) rfl) C16.1 (vs := [(.int (33 : Int32))]) (z := (1 : Int32)) ⟨by decide, by decide⟩ (by decide) (by decide) (g := (mkF m 100 #[rv bc1, rv bc2, iv (0 : Int32), rv a0p, rv b0p] [(.ref a0va)])) rfl (hb hby d54_100) (n := 4) (by decide) (by decide) (by decide) (by decide)
        have f24_0 := Ex16.ext E24
        have f24_1 := Fc16.ext E24
        have f24_2 := Fv16.ext E24
        have f24_3 := Av16.ext E24
        have M24_0 := M16_0.ext E24
        have C24 := C16.trans hC24
        have Zs24 : n0 ≤ h24.size := Nat.le_trans Zs16 E24.1
        have K24 := K16.ext E24
        have Ks24 := Nat.le_trans Ka16 E24.1
        refine own_stH st24 ?_
        have mf26 := p_14.keep M24_0
        have mf27 := p_15.keep M24_0 nin0
        have mf28 := p_16.keep M24_0 nin0
        have mf29 := p_17.keep M24_0 nin0
        have mf30 := own_Sta_keep p_5 M24_0 ns0
        obtain ⟨cq25, kq25, q25a, q25b, q25c⟩ := isOf hZ e24 mf26
        obtain ⟨_, _, ⟨T25, L25, k25, n25⟩, -, X25, ⟨Lc25, hQ25, l25, y25, z25⟩, st25⟩ := X24.virtualBack hx (y := yy12) (z := yy12) hown (own_mw hZ hw 96 rfl) (own_mw hZ hw 97 rfl) (notFace_of_selects (args := #[]) (own_mw hZ hw 99 rfl)) (own_mw hZ hw 99 rfl) (own_mw hZ hw 98 rfl) (by decide) (own_eqW (W := 0) (n0 := n0) hZ hw (kI := 4) (own_w hw 20 rfl) (us := a0vu) (ds := [33]) mf26 mf27 mf28 Ex24 Fc24 Fv24 mf29 Av24 ho_a0v own_okX mf30 (by assumption) (by decide) (by decide)) q25a q25c (g := (mkF m 102 #[rv bc1, rv bc2, iv (0 : Int32), rv a0p, rv b0p] [(.ref b24), (.ref a0va)])) rfl (by rw [hml]; rfl) (Steps.refl _) (argsL := [(.ref b24)]) (rest := []) (lenOf pd_12 rfl) rfl (own_bl rfl) (hb hby d54_102) (fun _ _ => ⟨rfl, e24, own_bl rfl, own_bl rfl⟩)
        dsimp only [Pt.U, Pt.locs, Pt.cells, Pt.slots] at X25 l25 y25 z25 st25 hQ25
        subst l25 y25 z25
        obtain ⟨rfl, Nq25, eq25⟩ := hQ25
        have N25 := Fr.app N17 Nq25
        refine own_sTH st25 ?_
        rcases Classical.em (a0vu = [33]) with k2 | k2
        · rw [own_b1 k2]
          show gH T25 (mkF m 105 #[rv bc1, rv bc2, iv (0 : Int32), rv a0p, rv b0p] [(.int (1 : Int32))])
          refine own_stH (fun _ kk_ => XS.ifYes X25.here hx rfl (pc0 := 105) (pc' := 125) rfl (hb hby d54_105) rfl (XT.i0_ne_t (by decide)) (by decide) (by decide) kk_) ?_
          show gH T25 (mkF m 125 #[rv bc1, rv bc2, iv (0 : Int32), rv a0p, rv b0p] [])
          exact j2_0 _ _ _ _ _ (X25.more (by decide) (by decide)) eq25 N25 Zs24 hS24 Ka24 hZ hown C24 K24 M24_0 ⟨k0, Or.inr (Or.inl k2)⟩
        · rw [own_b0 k2]
          show gH T25 (mkF m 105 #[rv bc1, rv bc2, iv (0 : Int32), rv a0p, rv b0p] [(.int (0 : Int32))])
          refine own_stH (fun _ kk_ => XS.ifNo X25.here hx rfl (hb hby d54_105) rfl (XT.i0_ne_f (by decide)) (XS.aloadN X25.here hx rfl (hb hby d54_108) rfl rfl kk_)) ?_
          show gH T25 (mkF m 109 #[rv bc1, rv bc2, iv (0 : Int32), rv a0p, rv b0p] [(.ref a0p)])
          have mf31 := p_9.keep M24_0 nin0
          refine own_stH (fun _ kk_ => own_getR X25 hx hZ hown (own_w hw 390 rfl) eq25 mf31 (g := (mkF m 109 #[rv bc1, rv bc2, iv (0 : Int32), rv a0p, rv b0p] [(.ref a0p)])) rfl rfl (hb hby d54_109) _ (XS.aload X25.here hx rfl (hb hby d54_112) rfl rfl kk_)) ?_
          show gH T25 (mkF m 114 #[rv bc1, rv bc2, iv (0 : Int32), rv a0p, rv b0p] [(.ref b0p), (.ref a0va)])
          have mf32 := p_35.keep M24_0 nin0
          refine own_stH (fun _ kk_ => own_getR X25 hx hZ hown (own_w hw 390 rfl) eq25 mf32 (g := (mkF m 114 #[rv bc1, rv bc2, iv (0 : Int32), rv a0p, rv b0p] [(.ref b0p), (.ref a0va)])) rfl rfl (hb hby d54_114) _ kk_) ?_
          show gH T25 (mkF m 117 #[rv bc1, rv bc2, iv (0 : Int32), rv a0p, rv b0p] [(.ref b0va), (.ref a0va)])
          have mf34 := p_40.keep M24_0
          have mf35 := p_41.keep M24_0 nin0
          have mf36 := p_42.keep M24_0 nin0
          have mf37 := p_43.keep M24_0 nin0
          obtain ⟨cq33, kq33, q33a, q33b, q33c⟩ := isOf hZ eq25 mf26
          obtain ⟨_, _, ⟨T33, L33, k33, n33⟩, -, X33, ⟨Lc33, hQ33, l33, y33, z33⟩, st33⟩ := X25.virtualBack hx (y := yy12) (z := yy12) hown (own_mw hZ hw 96 rfl) (own_mw hZ hw 97 rfl) (notFace_of_selects (args := #[]) (own_mw hZ hw 99 rfl)) (own_mw hZ hw 99 rfl) (own_mw hZ hw 98 rfl) (by decide) (own_eqW (W := 0) (n0 := n0) hZ hw (kI := 4) (own_w hw 20 rfl) (us := a0vu) (ds := b0vu) mf26 mf27 mf28 mf34 mf35 mf36 mf29 mf37 ho_a0v ho_b0v mf30 (by assumption) (by decide) (by decide)) q33a q33c (g := (mkF m 117 #[rv bc1, rv bc2, iv (0 : Int32), rv a0p, rv b0p] [(.ref b0va), (.ref a0va)])) rfl (by rw [hml]; rfl) (Steps.refl _) (argsL := [(.ref b0va)]) (rest := []) (lenOf pd_12 rfl) rfl (own_bl rfl) (hb hby d54_117) (fun _ _ => ⟨rfl, eq25, own_bl rfl, own_bl rfl⟩)
          dsimp only [Pt.U, Pt.locs, Pt.cells, Pt.slots] at X33 l33 y33 z33 st33 hQ33
          subst l33 y33 z33
          obtain ⟨rfl, Nq33, eq33⟩ := hQ33
          have N33 := Fr.app N25 Nq33
          refine own_sTH st33 ?_
          rcases Classical.em (a0vu = b0vu) with k3 | k3
          · rw [own_b1 k3]
            show gH T33 (mkF m 120 #[rv bc1, rv bc2, iv (0 : Int32), rv a0p, rv b0p] [(.int (1 : Int32))])
            refine own_stH (fun _ kk_ => XS.ifYes X33.here hx rfl (pc0 := 120) (pc' := 125) rfl (hb hby d54_120) rfl (XT.i0_ne_t (by decide)) (by decide) (by decide) kk_) ?_
            show gH T33 (mkF m 125 #[rv bc1, rv bc2, iv (0 : Int32), rv a0p, rv b0p] [])
            exact j2_0 _ _ _ _ _ (X33.more (by decide) (by decide)) eq33 N33 Zs24 hS24 Ka24 hZ hown C24 K24 M24_0 ⟨k0, Or.inr (Or.inr k3)⟩
          · rw [own_b0 k3]
            show gH T33 (mkF m 120 #[rv bc1, rv bc2, iv (0 : Int32), rv a0p, rv b0p] [(.int (0 : Int32))])
            refine own_stH (fun _ kk_ => XS.ifNo X33.here hx rfl (hb hby d54_120) rfl (XT.i0_ne_f (by decide)) (XS.iconst X33.here hx rfl (hb hby d54_123) kk_)) ?_
            show gH T33 (mkF m 124 #[rv bc1, rv bc2, iv (0 : Int32), rv a0p, rv b0p] [(.int (0 : Int32))])
            refine own_endH (v := (some (.int (nar .boolean (0 : Int32))))) X33 hlk hS24 (by rw [eq33]; exact Ka24) hZ hEL hh eq33 C24 (fun h => by rw [Bd.returns] at h; cases h) (by decide) (by decide) ?_ (fun fs hr => retN X33 hx (t := .boolean) Bd.returns (by simp) (hb hby d54_124) hr)
            show Q54 Z np ni a0tu a0vu a1tu a1vu b0tu b0vu b1tu b1vu h0 n0 (some (.int (nar .boolean (0 : Int32)))) T33.heap _
            rw [eq33]
            exact ⟨by exact own_bf (fun z => (fun y => y.2.elim k1 (fun x => x.elim k2 k3)) z.2.1), N33, K24⟩
    · rw [own_b0 k0]
      show gH T5 (mkF m 79 #[rv bc1, rv bc2, iv (0 : Int32), rv a0p, rv b0p] [(.int (0 : Int32))])
      refine own_stH (fun _ kk_ => XS.ifNo X5.here hx rfl (hb hby d54_79) rfl (XT.i0_ne_f (by decide)) (XS.iconst X5.here hx rfl (hb hby d54_82) kk_)) ?_
      show gH T5 (mkF m 83 #[rv bc1, rv bc2, iv (0 : Int32), rv a0p, rv b0p] [(.int (0 : Int32))])
      refine own_endH (v := (some (.int (nar .boolean (0 : Int32))))) X5 hlk hS2 (by rw [eq5]; exact Ks2) hZ hEL hh eq5 C2 (fun h => by rw [Bd.returns] at h; cases h) (by decide) (by decide) ?_ (fun fs hr => retN X5 hx (t := .boolean) Bd.returns (by simp) (hb hby d54_83) hr)
      show Q54 Z np ni a0tu a0vu a1tu a1vu b0tu b0vu b1tu b1vu h0 n0 (some (.int (nar .boolean (0 : Int32)))) T5.heap _
      rw [eq5]
      exact ⟨by exact own_bf (fun z => (fun y => k0 y.1) z.2.1), N5, K2⟩
  have J1 : ∀ (T39 : State) (L39 : List Loc) (h39 : Heap) (vm39 : Vm) (k39 : Nat), Stand p l e rRrm54 (s.setVm vm39) m #[(.ref bc1), (.ref bc2)] below meth c T39 L39 4 16 → T39.heap = h39 → Fr n0 L39 → n0 ≤ h39.size → s.Since vm39 k39 → k39 ≤ h39.size → Z.Warmed39 (s.setVm vm39).vm → (s.setVm vm39).vm.findClass "com/example/firm_duties/firmduties/BusinessContext" = some m.cls → CHr Z consts_1 s.vm h0 vm39 h39 → Keep h0 h39 [] → Keep h0 h39 [] → ¬ np = 1 → (∀ (T38 : State) (L38 : List Loc) (h38 : Heap) (vm38 : Vm) (k38 : Nat), Stand p l e rRrm54 (s.setVm vm38) m #[(.ref bc1), (.ref bc2)] below meth c T38 L38 8 32 → T38.heap = h38 → Fr n0 L38 → n0 ≤ h38.size → s.Since vm38 k38 → k38 ≤ h38.size → Z.Warmed39 (s.setVm vm38).vm → (s.setVm vm38).vm.findClass "com/example/firm_duties/firmduties/BusinessContext" = some m.cls → CHr Z consts_1 s.vm h0 vm38 h38 → Keep h0 h38 [] → Keep h0 h38 [] → own_q a1tu a1vu b1tu b1vu → own_GoesH p e below s Z consts_1 (Q54 Z np ni a0tu a0vu a1tu a1vu b0tu b0vu b1tu b1vu h0 n0) rRrm54.cells rRrm54.slots T38 (mkF m 125 #[rv bc1, rv bc2, iv (1 : Int32), rv a1p, rv b1p] [])) → own_GoesH p e below s Z consts_1 (Q54 Z np ni a0tu a0vu a1tu a1vu b0tu b0vu b1tu b1vu h0 n0) rRrm54.cells rRrm54.slots T39 (mkF m 67 #[rv bc1, rv bc2, iv (1 : Int32), rv a1p, rv b1p] []) := by
    intro T39 L39 h39 vm39 k39 X39 e39 N39 Zs39 hS39 Ks39 hZ hown C39 K39 MJ39_0 j39_0 j39_1
    show gH T39 (mkF m 67 #[rv bc1, rv bc2, iv (1 : Int32), rv a1p, rv b1p] [])
    refine own_stH (fun _ kk_ => XS.aloadN X39.here hx rfl (hb hby d54_67) rfl rfl kk_) ?_
    show gH T39 (mkF m 68 #[rv bc1, rv bc2, iv (1 : Int32), rv a1p, rv b1p] [(.ref a1p)])
    have mf40 := p_21.keep MJ39_0 nin0
    refine own_stH (fun _ kk_ => own_getR X39 hx hZ hown (own_w hw 330 rfl) e39 mf40 (g := (mkF m 68 #[rv bc1, rv bc2, iv (1 : Int32), rv a1p, rv b1p] [(.ref a1p)])) rfl rfl (hb hby d54_68) _ (XS.aload X39.here hx rfl (hb hby d54_71) rfl rfl kk_)) ?_
    show gH T39 (mkF m 73 #[rv bc1, rv bc2, iv (1 : Int32), rv a1p, rv b1p] [(.ref b1p), (.ref a1ta)])
    have mf41 := p_47.keep MJ39_0 nin0
    refine own_stH (fun _ kk_ => own_getR X39 hx hZ hown (own_w hw 330 rfl) e39 mf41 (g := (mkF m 73 #[rv bc1, rv bc2, iv (1 : Int32), rv a1p, rv b1p] [(.ref b1p), (.ref a1ta)])) rfl rfl (hb hby d54_73) _ kk_) ?_
    show gH T39 (mkF m 76 #[rv bc1, rv bc2, iv (1 : Int32), rv a1p, rv b1p] [(.ref b1ta), (.ref a1ta)])
    have mf43 := p_23.keep MJ39_0
    have mf44 := p_24.keep MJ39_0 nin0
    have mf45 := p_25.keep MJ39_0 nin0
    have mf46 := p_49.keep MJ39_0
    have mf47 := p_50.keep MJ39_0 nin0
    have mf48 := p_51.keep MJ39_0 nin0
    have mf49 := p_26.keep MJ39_0 nin0
    have mf50 := p_52.keep MJ39_0 nin0
    have mf51 := own_Sta_keep p_5 MJ39_0 ns0
    obtain ⟨cq42, kq42, q42a, q42b, q42c⟩ := isOf hZ e39 mf43
    obtain ⟨_, _, ⟨T42, L42, k42, n42⟩, -, X42, ⟨Lc42, hQ42, l42, y42, z42⟩, st42⟩ := X39.virtualBack hx (y := yy12) (z := yy12) hown (own_mw hZ hw 96 rfl) (own_mw hZ hw 97 rfl) (notFace_of_selects (args := #[]) (own_mw hZ hw 99 rfl)) (own_mw hZ hw 99 rfl) (own_mw hZ hw 98 rfl) (by decide) (own_eqW (W := 0) (n0 := n0) hZ hw (kI := 4) (own_w hw 20 rfl) (us := a1tu) (ds := b1tu) mf43 mf44 mf45 mf46 mf47 mf48 mf49 mf50 ho_a1t ho_b1t mf51 (by assumption) (by decide) (by decide)) q42a q42c (g := (mkF m 76 #[rv bc1, rv bc2, iv (1 : Int32), rv a1p, rv b1p] [(.ref b1ta), (.ref a1ta)])) rfl (by rw [hml]; rfl) (Steps.refl _) (argsL := [(.ref b1ta)]) (rest := []) (lenOf pd_12 rfl) rfl (own_bl rfl) (hb hby d54_76) (fun _ _ => ⟨rfl, e39, own_bl rfl, own_bl rfl⟩)
    dsimp only [Pt.U, Pt.locs, Pt.cells, Pt.slots] at X42 l42 y42 z42 st42 hQ42
    subst l42 y42 z42
    obtain ⟨rfl, Nq42, eq42⟩ := hQ42
    have N42 := Fr.app N39 Nq42
    refine own_sTH st42 ?_
    rcases Classical.em (a1tu = b1tu) with k0 | k0
    · rw [own_b1 k0]
      show gH T42 (mkF m 79 #[rv bc1, rv bc2, iv (1 : Int32), rv a1p, rv b1p] [(.int (1 : Int32))])
      refine own_stH (fun _ kk_ => XS.ifYes X42.here hx rfl (pc0 := 79) (pc' := 84) rfl (hb hby d54_79) rfl (XT.i0_ne_t (by decide)) (by decide) (by decide) (XS.aloadN X42.here hx rfl (hb hby d54_84) rfl rfl kk_)) ?_
      show gH T42 (mkF m 85 #[rv bc1, rv bc2, iv (1 : Int32), rv a1p, rv b1p] [(.ref a1p)])
      have mf52 := p_22.keep MJ39_0 nin0
      refine own_stH (fun _ kk_ => own_getR X42 hx hZ hown (own_w hw 390 rfl) eq42 mf52 (g := (mkF m 85 #[rv bc1, rv bc2, iv (1 : Int32), rv a1p, rv b1p] [(.ref a1p)])) rfl rfl (hb hby d54_85) _ kk_) ?_
      show gH T42 (mkF m 88 #[rv bc1, rv bc2, iv (1 : Int32), rv a1p, rv b1p] [(.ref a1va)])
      obtain ⟨b53, T53, h53, k53, d53, kc53, X53, e53, E53, hS53, Ka53, hZ, hown, Ex53, Fc53, Fv53, Av53, -, -, hC53, -, hsa53, st53⟩ := ldcCH X42 hx hZ hown (own_w hw 391 rfl) wS eq42 hS39 Ks39 hEL (List.mem_of_getElem? (i := 0) rfl) C39.1 (vs := [(.int (42 : Int32))]) (z := (1 : Int32)) ⟨by decide, by decide⟩ (by decide) (by decide) (g := (mkF m 88 #[rv bc1, rv bc2, iv (1 : Int32), rv a1p, rv b1p] [(.ref a1va)])) rfl (hb hby d54_88) (n := 4) (by decide) (by decide) (by decide) (by decide)
      have M53_0 := MJ39_0.ext E53
      have C53 := C39.trans hC53
      have Zs53 : n0 ≤ h53.size := Nat.le_trans Zs39 E53.1
      have K53 := K39.ext E53
      have Ks53 := Nat.le_trans Ks39 E53.1
      refine own_stH st53 ?_
      have mf55 := p_27.keep M53_0
      have mf56 := p_28.keep M53_0 nin0
      have mf57 := p_29.keep M53_0 nin0
      have mf58 := p_30.keep M53_0 nin0
      have mf59 := own_Sta_keep p_5 M53_0 ns0
      obtain ⟨cq54, kq54, q54a, q54b, q54c⟩ := isOf hZ e53 mf55
      obtain ⟨_, _, ⟨T54, L54, k54, n54⟩, -, X54, ⟨Lc54, hQ54, l54, y54, z54⟩, st54⟩ := X53.virtualBack hx (y := yy12) (z := yy12) hown (own_mw hZ hw 96 rfl) (own_mw hZ hw 97 rfl) (notFace_of_selects (args := #[]) (own_mw hZ hw 99 rfl)) (own_mw hZ hw 99 rfl) (own_mw hZ hw 98 rfl) (by decide) (own_eqW (W := 0) (n0 := n0) hZ hw (kI := 4) (own_w hw 20 rfl) (us := a1vu) (ds := [42]) mf55 mf56 mf57 Ex53 Fc53 Fv53 mf58 Av53 ho_a1v own_okS mf59 (by assumption) (by decide) (by decide)) q54a q54c (g := (mkF m 90 #[rv bc1, rv bc2, iv (1 : Int32), rv a1p, rv b1p] [(.ref b53), (.ref a1va)])) rfl (by rw [hml]; rfl) (Steps.refl _) (argsL := [(.ref b53)]) (rest := []) (lenOf pd_12 rfl) rfl (own_bl rfl) (hb hby d54_90) (fun _ _ => ⟨rfl, e53, own_bl rfl, own_bl rfl⟩)
      dsimp only [Pt.U, Pt.locs, Pt.cells, Pt.slots] at X54 l54 y54 z54 st54 hQ54
      subst l54 y54 z54
      obtain ⟨rfl, Nq54, eq54⟩ := hQ54
      have N54 := Fr.app N42 Nq54
      refine own_sTH st54 ?_
      rcases Classical.em (a1vu = [42]) with k1 | k1
      · rw [own_b1 k1]
        show gH T54 (mkF m 93 #[rv bc1, rv bc2, iv (1 : Int32), rv a1p, rv b1p] [(.int (1 : Int32))])
        refine own_stH (fun _ kk_ => XS.ifYes X54.here hx rfl (pc0 := 93) (pc' := 125) rfl (hb hby d54_93) rfl (XT.i0_ne_t (by decide)) (by decide) (by decide) kk_) ?_
        show gH T54 (mkF m 125 #[rv bc1, rv bc2, iv (1 : Int32), rv a1p, rv b1p] [])
        exact j39_1 _ _ _ _ _ (X54.more (by decide) (by decide)) eq54 N54 Zs53 hS53 Ka53 hZ hown C53 K53 M53_0 ⟨k0, Or.inl k1⟩
      · rw [own_b0 k1]
        show gH T54 (mkF m 93 #[rv bc1, rv bc2, iv (1 : Int32), rv a1p, rv b1p] [(.int (0 : Int32))])
        refine own_stH (fun _ kk_ => XS.ifNo X54.here hx rfl (hb hby d54_93) rfl (XT.i0_ne_f (by decide)) (XS.aloadN X54.here hx rfl (hb hby d54_96) rfl rfl kk_)) ?_
        show gH T54 (mkF m 97 #[rv bc1, rv bc2, iv (1 : Int32), rv a1p, rv b1p] [(.ref a1p)])
        have mf60 := p_22.keep M53_0 nin0
        refine own_stH (fun _ kk_ => own_getR X54 hx hZ hown (own_w hw 390 rfl) eq54 mf60 (g := (mkF m 97 #[rv bc1, rv bc2, iv (1 : Int32), rv a1p, rv b1p] [(.ref a1p)])) rfl rfl (hb hby d54_97) _ kk_) ?_
        show gH T54 (mkF m 100 #[rv bc1, rv bc2, iv (1 : Int32), rv a1p, rv b1p] [(.ref a1va)])
        obtain ⟨b61, T61, h61, k61, d61, kc61, X61, e61, E61, hS61, Ka61, hZ, hown, Ex61, Fc61, Fv61, Av61, -, -, hC61, -, hsa61, st61⟩ := ldcCH X54 hx hZ hown (own_w hw 392 rfl) wS eq54 hS53 Ka53 hEL (List.mem_of_getElem? (i := 1) rfl) C53.1 (vs := [(.int (33 : Int32))]) (z := (1 : Int32)) ⟨by decide, by decide⟩ (by decide) (by decide) (g := (mkF m 100 #[rv bc1, rv bc2, iv (1 : Int32), rv a1p, rv b1p] [(.ref a1va)])) rfl (hb hby d54_100) (n := 4) (by decide) (by decide) (by decide) (by decide)
        have f61_0 := Ex53.ext E61
        have f61_1 := Fc53.ext E61
        have f61_2 := Fv53.ext E61
        have f61_3 := Av53.ext E61
        have M61_0 := M53_0.ext E61
        have C61 := C53.trans hC61
        have Zs61 : n0 ≤ h61.size := Nat.le_trans Zs53 E61.1
        have K61 := K53.ext E61
        have Ks61 := Nat.le_trans Ka53 E61.1
        refine own_stH st61 ?_
        have mf63 := p_27.keep M61_0
        have mf64 := p_28.keep M61_0 nin0
        have mf65 := p_29.keep M61_0 nin0
        have mf66 := p_30.keep M61_0 nin0
        have mf67 := own_Sta_keep p_5 M61_0 ns0
        obtain ⟨cq62, kq62, q62a, q62b, q62c⟩ := isOf hZ e61 mf63
        obtain ⟨_, _, ⟨T62, L62, k62, n62⟩, -, X62, ⟨Lc62, hQ62, l62, y62, z62⟩, st62⟩ := X61.virtualBack hx (y := yy12) (z := yy12) hown (own_mw hZ hw 96 rfl) (own_mw hZ hw 97 rfl) (notFace_of_selects (args := #[]) (own_mw hZ hw 99 rfl)) (own_mw hZ hw 99 rfl) (own_mw hZ hw 98 rfl) (by decide) (own_eqW (W := 0) (n0 := n0) hZ hw (kI := 4) (own_w hw 20 rfl) (us := a1vu) (ds := [33]) mf63 mf64 mf65 Ex61 Fc61 Fv61 mf66 Av61 ho_a1v own_okX mf67 (by assumption) (by decide) (by decide)) q62a q62c (g := (mkF m 102 #[rv bc1, rv bc2, iv (1 : Int32), rv a1p, rv b1p] [(.ref b61), (.ref a1va)])) rfl (by rw [hml]; rfl) (Steps.refl _) (argsL := [(.ref b61)]) (rest := []) (lenOf pd_12 rfl) rfl (own_bl rfl) (hb hby d54_102) (fun _ _ => ⟨rfl, e61, own_bl rfl, own_bl rfl⟩)
        dsimp only [Pt.U, Pt.locs, Pt.cells, Pt.slots] at X62 l62 y62 z62 st62 hQ62
        subst l62 y62 z62
        obtain ⟨rfl, Nq62, eq62⟩ := hQ62
        have N62 := Fr.app N54 Nq62
        refine own_sTH st62 ?_
        rcases Classical.em (a1vu = [33]) with k2 | k2
        · rw [own_b1 k2]
          show gH T62 (mkF m 105 #[rv bc1, rv bc2, iv (1 : Int32), rv a1p, rv b1p] [(.int (1 : Int32))])
          refine own_stH (fun _ kk_ => XS.ifYes X62.here hx rfl (pc0 := 105) (pc' := 125) rfl (hb hby d54_105) rfl (XT.i0_ne_t (by decide)) (by decide) (by decide) kk_) ?_
          show gH T62 (mkF m 125 #[rv bc1, rv bc2, iv (1 : Int32), rv a1p, rv b1p] [])
          exact j39_1 _ _ _ _ _ (X62.more (by decide) (by decide)) eq62 N62 Zs61 hS61 Ka61 hZ hown C61 K61 M61_0 ⟨k0, Or.inr (Or.inl k2)⟩
        · rw [own_b0 k2]
          show gH T62 (mkF m 105 #[rv bc1, rv bc2, iv (1 : Int32), rv a1p, rv b1p] [(.int (0 : Int32))])
          refine own_stH (fun _ kk_ => XS.ifNo X62.here hx rfl (hb hby d54_105) rfl (XT.i0_ne_f (by decide)) (XS.aloadN X62.here hx rfl (hb hby d54_108) rfl rfl kk_)) ?_
          show gH T62 (mkF m 109 #[rv bc1, rv bc2, iv (1 : Int32), rv a1p, rv b1p] [(.ref a1p)])
          have mf68 := p_22.keep M61_0 nin0
          refine own_stH (fun _ kk_ => own_getR X62 hx hZ hown (own_w hw 390 rfl) eq62 mf68 (g := (mkF m 109 #[rv bc1, rv bc2, iv (1 : Int32), rv a1p, rv b1p] [(.ref a1p)])) rfl rfl (hb hby d54_109) _ (XS.aload X62.here hx rfl (hb hby d54_112) rfl rfl kk_)) ?_
          show gH T62 (mkF m 114 #[rv bc1, rv bc2, iv (1 : Int32), rv a1p, rv b1p] [(.ref b1p), (.ref a1va)])
          have mf69 := p_48.keep M61_0 nin0
          refine own_stH (fun _ kk_ => own_getR X62 hx hZ hown (own_w hw 390 rfl) eq62 mf69 (g := (mkF m 114 #[rv bc1, rv bc2, iv (1 : Int32), rv a1p, rv b1p] [(.ref b1p), (.ref a1va)])) rfl rfl (hb hby d54_114) _ kk_) ?_
          show gH T62 (mkF m 117 #[rv bc1, rv bc2, iv (1 : Int32), rv a1p, rv b1p] [(.ref b1va), (.ref a1va)])
          have mf71 := p_53.keep M61_0
          have mf72 := p_54.keep M61_0 nin0
          have mf73 := p_55.keep M61_0 nin0
          have mf74 := p_56.keep M61_0 nin0
          obtain ⟨cq70, kq70, q70a, q70b, q70c⟩ := isOf hZ eq62 mf63
          obtain ⟨_, _, ⟨T70, L70, k70, n70⟩, -, X70, ⟨Lc70, hQ70, l70, y70, z70⟩, st70⟩ := X62.virtualBack hx (y := yy12) (z := yy12) hown (own_mw hZ hw 96 rfl) (own_mw hZ hw 97 rfl) (notFace_of_selects (args := #[]) (own_mw hZ hw 99 rfl)) (own_mw hZ hw 99 rfl) (own_mw hZ hw 98 rfl) (by decide) (own_eqW (W := 0) (n0 := n0) hZ hw (kI := 4) (own_w hw 20 rfl) (us := a1vu) (ds := b1vu) mf63 mf64 mf65 mf71 mf72 mf73 mf66 mf74 ho_a1v ho_b1v mf67 (by assumption) (by decide) (by decide)) q70a q70c (g := (mkF m 117 #[rv bc1, rv bc2, iv (1 : Int32), rv a1p, rv b1p] [(.ref b1va), (.ref a1va)])) rfl (by rw [hml]; rfl) (Steps.refl _) (argsL := [(.ref b1va)]) (rest := []) (lenOf pd_12 rfl) rfl (own_bl rfl) (hb hby d54_117) (fun _ _ => ⟨rfl, eq62, own_bl rfl, own_bl rfl⟩)
          dsimp only [Pt.U, Pt.locs, Pt.cells, Pt.slots] at X70 l70 y70 z70 st70 hQ70
          subst l70 y70 z70
          obtain ⟨rfl, Nq70, eq70⟩ := hQ70
          have N70 := Fr.app N62 Nq70
          refine own_sTH st70 ?_
          rcases Classical.em (a1vu = b1vu) with k3 | k3
          · rw [own_b1 k3]
            show gH T70 (mkF m 120 #[rv bc1, rv bc2, iv (1 : Int32), rv a1p, rv b1p] [(.int (1 : Int32))])
            refine own_stH (fun _ kk_ => XS.ifYes X70.here hx rfl (pc0 := 120) (pc' := 125) rfl (hb hby d54_120) rfl (XT.i0_ne_t (by decide)) (by decide) (by decide) kk_) ?_
            show gH T70 (mkF m 125 #[rv bc1, rv bc2, iv (1 : Int32), rv a1p, rv b1p] [])
            exact j39_1 _ _ _ _ _ (X70.more (by decide) (by decide)) eq70 N70 Zs61 hS61 Ka61 hZ hown C61 K61 M61_0 ⟨k0, Or.inr (Or.inr k3)⟩
          · rw [own_b0 k3]
            show gH T70 (mkF m 120 #[rv bc1, rv bc2, iv (1 : Int32), rv a1p, rv b1p] [(.int (0 : Int32))])
            refine own_stH (fun _ kk_ => XS.ifNo X70.here hx rfl (hb hby d54_120) rfl (XT.i0_ne_f (by decide)) (XS.iconst X70.here hx rfl (hb hby d54_123) kk_)) ?_
            show gH T70 (mkF m 124 #[rv bc1, rv bc2, iv (1 : Int32), rv a1p, rv b1p] [(.int (0 : Int32))])
            refine own_endH (v := (some (.int (nar .boolean (0 : Int32))))) X70 hlk hS61 (by rw [eq70]; exact Ka61) hZ hEL hh eq70 C61 (fun h => by rw [Bd.returns] at h; cases h) (by decide) (by decide) ?_ (fun fs hr => retN X70 hx (t := .boolean) Bd.returns (by simp) (hb hby d54_124) hr)
            show Q54 Z np ni a0tu a0vu a1tu a1vu b0tu b0vu b1tu b1vu h0 n0 (some (.int (nar .boolean (0 : Int32)))) T70.heap _
            rw [eq70]
            exact ⟨by exact own_bf (fun z => z.2.2.elim j39_0 (fun y => y.2.elim k1 (fun x => x.elim k2 k3))), N70, K61⟩
    · rw [own_b0 k0]
      show gH T42 (mkF m 79 #[rv bc1, rv bc2, iv (1 : Int32), rv a1p, rv b1p] [(.int (0 : Int32))])
      refine own_stH (fun _ kk_ => XS.ifNo X42.here hx rfl (hb hby d54_79) rfl (XT.i0_ne_f (by decide)) (XS.iconst X42.here hx rfl (hb hby d54_82) kk_)) ?_
      show gH T42 (mkF m 83 #[rv bc1, rv bc2, iv (1 : Int32), rv a1p, rv b1p] [(.int (0 : Int32))])
      refine own_endH (v := (some (.int (nar .boolean (0 : Int32))))) X42 hlk hS39 (by rw [eq42]; exact Ks39) hZ hEL hh eq42 C39 (fun h => by rw [Bd.returns] at h; cases h) (by decide) (by decide) ?_ (fun fs hr => retN X42 hx (t := .boolean) Bd.returns (by simp) (hb hby d54_83) hr)
      show Q54 Z np ni a0tu a0vu a1tu a1vu b0tu b0vu b1tu b1vu h0 n0 (some (.int (nar .boolean (0 : Int32)))) T42.heap _
      rw [eq42]
      exact ⟨by exact own_bf (fun z => z.2.2.elim j39_0 (fun y => k0 y.1)), N42, K39⟩
  rcases hl1 with ⟨rfl, l1a, l1b, l1e⟩ | ⟨rfl, l1a, l1b, l1e, l1n⟩ | ⟨l1z, -⟩
  · rcases hl2 with ⟨rfl, l2a, l2b, l2c⟩ | ⟨rfl, l2a, l2b, l2c, l2n⟩ | ⟨rfl, d3, k3, l2a, l2b, l2c, -⟩
    · show gH s₁ (mkF m 0 #[rv bc1, rv bc2, oU, oU, oU] [])
      refine own_stH (fun _ kk_ => XS.aloadN X0.here hx rfl (hb hby d54_0) rfl rfl kk_) ?_
      show gH s₁ (mkF m 1 #[rv bc1, rv bc2, oU, oU, oU] [(.ref bc2)])
      obtain ⟨T75, X75, e75, st75⟩ := getF X0 hx hZ hown (host := "") (Or.inl (own_w hw 296 rfl)) Via.refl e0 p_3 (g := (mkF m 1 #[rv bc1, rv bc2, oU, oU, oU] [(.ref bc2)])) rfl rfl (hb hby d54_1)
      refine own_stH st75 ?_
      obtain ⟨cq76, kq76, q76a, q76b, q76c⟩ := isOf hZ e75 l2a
      obtain ⟨T76, L76, v76, X76, hQ76, st76⟩ := own_cut (X75.interfaceBack hx (xi := yy68) (y := yy64) hown (own_mw hZ hw 312 rfl) (own_mw hZ hw 313 rfl) (own_mw hZ hw 314 rfl) (own_mw hZ hw 315 rfl) (own_mw hZ hw 316 rfl) (own_mw hZ hw 317 rfl) (own_mw hZ hw 318 rfl) (own_mw hZ hw 294 rfl) (by decide) (backOf (W := 0) (rmSZ1 l Z a0 hw (li2) (em) (b0p) h0 n0 Z0 l2a l2b l2c p_4) hZ (own_w hw 319 rfl) (own_w hw 260 rfl) (by decide) (by decide)) q76a q76b q76c (g := (mkF m 4 #[rv bc1, rv bc2, oU, oU, oU] [(.ref li2)])) rfl (by rw [hml]; rfl) (Steps.refl _) (argsL := []) (rest := []) (lenOf pd_9 rfl) rfl (own_bl rfl) (hb hby d54_4) (fun _ _ => ⟨rfl, e75, own_bl rfl, own_bl rfl⟩))
      obtain ⟨rfl, Nq76, eq76⟩ := hQ76
      have N76 := Fr.app N0 Nq76
      refine own_sTH st76 ?_
      refine own_stH (fun _ kk_ => XS.aloadN X76.here hx rfl (hb hby d54_9) rfl rfl kk_) ?_
      show gH T76 (mkF m 10 #[rv bc1, rv bc2, oU, oU, oU] [(.ref bc1), (.int (1 : Int32))])
      obtain ⟨T77, X77, e77, st77⟩ := getF X76 hx hZ hown (host := "") (Or.inl (own_w hw 296 rfl)) Via.refl eq76 p_1 (g := (mkF m 10 #[rv bc1, rv bc2, oU, oU, oU] [(.ref bc1), (.int (1 : Int32))])) rfl rfl (hb hby d54_10)
      refine own_stH st77 ?_
      obtain ⟨cq78, kq78, q78a, q78b, q78c⟩ := isOf hZ e77 l1a
      obtain ⟨T78, L78, v78, X78, hQ78, st78⟩ := own_cut (X77.interfaceBack hx (xi := yy68) (y := yy64) hown (own_mw hZ hw 312 rfl) (own_mw hZ hw 313 rfl) (own_mw hZ hw 314 rfl) (own_mw hZ hw 315 rfl) (own_mw hZ hw 316 rfl) (own_mw hZ hw 317 rfl) (own_mw hZ hw 318 rfl) (own_mw hZ hw 294 rfl) (by decide) (backOf (W := 1) (rmSZ1 l Z a0 hw (li1) (em) (a0p) h0 n0 Z0 l1a l1b l1e p_4) hZ (own_w hw 319 rfl) (own_w hw 260 rfl) (by decide) (by decide)) q78a q78b q78c (g := (mkF m 13 #[rv bc1, rv bc2, oU, oU, oU] [(.ref li1), (.int (1 : Int32))])) rfl (by rw [hml]; rfl) (Steps.refl _) (argsL := []) (rest := [(.int (1 : Int32))]) (lenOf pd_9 rfl) rfl (own_bl rfl) (hb hby d54_13) (fun _ _ => ⟨rfl, e77, own_bl rfl, own_bl rfl⟩))
      obtain ⟨rfl, Nq78, eq78⟩ := hQ78
      have N78 := Fr.app N76 Nq78
      refine own_sTH st78 ?_
      refine own_stH (fun _ kk_ => XS.icmpYes X78.here hx rfl (pc0 := 18) (pc' := 23) rfl (hb hby d54_18) rfl (XT.ii_ge_t (by decide)) (by decide) (by decide) (XS.iconst X78.here hx rfl (hb hby d54_23) (XS.istoreN X78.here hx rfl (hb hby d54_24) rfl (l' := #[rv bc1, rv bc2, iv (0 : Int32), oU, oU]) rfl kk_))) ?_
      show gH T78 (mkF m 25 #[rv bc1, rv bc2, iv (0 : Int32), oU, oU] [])
      have JE : ∀ (T79 : State) (L79 : List Loc) (h79 : Heap) (vm79 : Vm) (k79 : Nat), Stand p l e rRrm54 (s.setVm vm79) m #[(.ref bc1), (.ref bc2)] below meth c T79 L79 4 16 → T79.heap = h79 → Fr n0 L79 → n0 ≤ h79.size → s.Since vm79 k79 → k79 ≤ h79.size → Z.Warmed39 (s.setVm vm79).vm → (s.setVm vm79).vm.findClass "com/example/firm_duties/firmduties/BusinessContext" = some m.cls → CHr Z consts_1 s.vm h0 vm79 h79 → Keep h0 h79 [] → Keep h0 h79 [] → own_q a0tu a0vu b0tu b0vu → own_GoesH p e below s Z consts_1 (Q54 Z (1 : Int32) (1 : Int32) a0tu a0vu a1tu a1vu b0tu b0vu b1tu b1vu h0 n0) rRrm54.cells rRrm54.slots T79 (mkF m 125 #[rv bc1, rv bc2, iv (0 : Int32), rv a0p, rv b0p] []) := by
        intro T79 L79 h79 vm79 k79 X79 e79 N79 Zs79 hS79 Ks79 hZ hown C79 K79 MJ79_0 j79_0
        show gH T79 (mkF m 125 #[rv bc1, rv bc2, iv (0 : Int32), rv a0p, rv b0p] [])
        refine own_stH (fun _ kk_ => XS.iinc X79.here hx rfl (hb hby d54_125) rfl (l' := #[rv bc1, rv bc2, iv (1 : Int32), rv a0p, rv b0p]) rfl (XS.goto X79.here hx rfl (pc0 := 128) (pc' := 25) rfl (hb hby d54_128) (by decide) (by decide) (XS.iloadN X79.here hx rfl (hb hby d54_25) rfl (XS.aloadN X79.here hx rfl (hb hby d54_26) rfl rfl kk_)))) ?_
        show gH T79 (mkF m 27 #[rv bc1, rv bc2, iv (1 : Int32), rv a0p, rv b0p] [(.ref bc1), (.int (1 : Int32))])
        have mf80 := p_1.keep MJ79_0 nin0
        obtain ⟨T81, X81, e81, st81⟩ := getF X79 hx hZ hown (host := "") (Or.inl (own_w hw 296 rfl)) Via.refl e79 mf80 (g := (mkF m 27 #[rv bc1, rv bc2, iv (1 : Int32), rv a0p, rv b0p] [(.ref bc1), (.int (1 : Int32))])) rfl rfl (hb hby d54_27)
        refine own_stH st81 ?_
        have mf83 := l1a.keep MJ79_0
        have mf84 := l1e.keep MJ79_0 nin0
        have mf85 := l1b.keep MJ79_0 nin0
        have mf86 := own_Sta_keep p_4 MJ79_0 ns0
        obtain ⟨cq82, kq82, q82a, q82b, q82c⟩ := isOf hZ e81 mf83
        obtain ⟨T82, L82, v82, X82, hQ82, st82⟩ := own_cut (X81.interfaceBack hx (xi := yy68) (y := yy64) hown (own_mw hZ hw 312 rfl) (own_mw hZ hw 313 rfl) (own_mw hZ hw 314 rfl) (own_mw hZ hw 315 rfl) (own_mw hZ hw 316 rfl) (own_mw hZ hw 317 rfl) (own_mw hZ hw 318 rfl) (own_mw hZ hw 294 rfl) (by decide) (backOf (W := 1) (rmSZ1 l Z a0 hw (li1) (em) (a0p) h79 n0 Zs79 mf83 mf85 mf84 mf86) hZ (own_w hw 319 rfl) (own_w hw 260 rfl) (by decide) (by decide)) q82a q82b q82c (g := (mkF m 30 #[rv bc1, rv bc2, iv (1 : Int32), rv a0p, rv b0p] [(.ref li1), (.int (1 : Int32))])) rfl (by rw [hml]; rfl) (Steps.refl _) (argsL := []) (rest := [(.int (1 : Int32))]) (lenOf pd_9 rfl) rfl (own_bl rfl) (hb hby d54_30) (fun _ _ => ⟨rfl, e81, own_bl rfl, own_bl rfl⟩))
        obtain ⟨rfl, Nq82, eq82⟩ := hQ82
        have N82 := Fr.app N79 Nq82
        refine own_sTH st82 ?_
        refine own_stH (fun _ kk_ => XS.icmpYes X82.here hx rfl (pc0 := 35) (pc' := 131) rfl (hb hby d54_35) rfl (XT.ii_ge_t (by decide)) (by decide) (by decide) (XS.iconst X82.here hx rfl (hb hby d54_131) kk_)) ?_
        show gH T82 (mkF m 132 #[rv bc1, rv bc2, iv (1 : Int32), rv a0p, rv b0p] [(.int (1 : Int32))])
        refine own_endH (v := (some (.int (nar .boolean (1 : Int32))))) X82 hlk hS79 (by rw [eq82]; exact Ks79) hZ hEL hh eq82 C79 (fun h => by rw [Bd.returns] at h; cases h) (by decide) (by decide) ?_ (fun fs hr => retN X82 hx (t := .boolean) Bd.returns (by simp) (hb hby d54_132) hr)
        show Q54 Z (1 : Int32) (1 : Int32) a0tu a0vu a1tu a1vu b0tu b0vu b1tu b1vu h0 n0 (some (.int (nar .boolean (1 : Int32)))) T82.heap _
        rw [eq82]
        exact ⟨by exact own_bt ⟨by decide, j79_0, Or.inl rfl⟩, N82, K79⟩
      show gH T78 (mkF m 25 #[rv bc1, rv bc2, iv (0 : Int32), oU, oU] [])
      refine own_stH (fun _ kk_ => XS.iloadN X78.here hx rfl (hb hby d54_25) rfl (XS.aloadN X78.here hx rfl (hb hby d54_26) rfl rfl kk_)) ?_
      show gH T78 (mkF m 27 #[rv bc1, rv bc2, iv (0 : Int32), oU, oU] [(.ref bc1), (.int (0 : Int32))])
      obtain ⟨T87, X87, e87, st87⟩ := getF X78 hx hZ hown (host := "") (Or.inl (own_w hw 296 rfl)) Via.refl eq78 p_1 (g := (mkF m 27 #[rv bc1, rv bc2, iv (0 : Int32), oU, oU] [(.ref bc1), (.int (0 : Int32))])) rfl rfl (hb hby d54_27)
      refine own_stH st87 ?_
      obtain ⟨cq88, kq88, q88a, q88b, q88c⟩ := isOf hZ e87 l1a
      obtain ⟨T88, L88, v88, X88, hQ88, st88⟩ := own_cut (X87.interfaceBack hx (xi := yy68) (y := yy64) hown (own_mw hZ hw 312 rfl) (own_mw hZ hw 313 rfl) (own_mw hZ hw 314 rfl) (own_mw hZ hw 315 rfl) (own_mw hZ hw 316 rfl) (own_mw hZ hw 317 rfl) (own_mw hZ hw 318 rfl) (own_mw hZ hw 294 rfl) (by decide) (backOf (W := 1) (rmSZ1 l Z a0 hw (li1) (em) (a0p) h0 n0 Z0 l1a l1b l1e p_4) hZ (own_w hw 319 rfl) (own_w hw 260 rfl) (by decide) (by decide)) q88a q88b q88c (g := (mkF m 30 #[rv bc1, rv bc2, iv (0 : Int32), oU, oU] [(.ref li1), (.int (0 : Int32))])) rfl (by rw [hml]; rfl) (Steps.refl _) (argsL := []) (rest := [(.int (0 : Int32))]) (lenOf pd_9 rfl) rfl (own_bl rfl) (hb hby d54_30) (fun _ _ => ⟨rfl, e87, own_bl rfl, own_bl rfl⟩))
      obtain ⟨rfl, Nq88, eq88⟩ := hQ88
      have N88 := Fr.app N78 Nq88
      refine own_sTH st88 ?_
      refine own_stH (fun _ kk_ => XS.icmpNo X88.here hx rfl (hb hby d54_35) rfl (XT.ii_ge_f (by decide)) (XS.aloadN X88.here hx rfl (hb hby d54_38) rfl rfl kk_)) ?_
      show gH T88 (mkF m 39 #[rv bc1, rv bc2, iv (0 : Int32), oU, oU] [(.ref bc1)])
      obtain ⟨T89, X89, e89, st89⟩ := getF X88 hx hZ hown (host := "") (Or.inl (own_w hw 296 rfl)) Via.refl eq88 p_1 (g := (mkF m 39 #[rv bc1, rv bc2, iv (0 : Int32), oU, oU] [(.ref bc1)])) rfl rfl (hb hby d54_39)
      refine own_stH st89 ?_
      refine own_stH (fun _ kk_ => XS.iloadN X89.here hx rfl (hb hby d54_42) rfl kk_) ?_
      show gH T89 (mkF m 43 #[rv bc1, rv bc2, iv (0 : Int32), oU, oU] [(.int (0 : Int32)), (.ref li1)])
      obtain ⟨cq90, kq90, q90a, q90b, q90c⟩ := isOf hZ e89 l1a
      obtain ⟨T90, L90, v90, X90, hQ90, st90⟩ := own_cut (X89.interfaceBack hx (xi := yy69) (y := yy65) hown (own_mw hZ hw 320 rfl) (own_mw hZ hw 321 rfl) (own_mw hZ hw 322 rfl) (own_mw hZ hw 323 rfl) (own_mw hZ hw 324 rfl) (own_mw hZ hw 325 rfl) (own_mw hZ hw 326 rfl) (own_mw hZ hw 294 rfl) (by decide) (backOf (W := 0) (rmGT0 l Z a0 hw (li1) (a0p) (em) h0 n0 Z0 l1a l1b l1e) hZ (own_w hw 327 rfl) (own_w hw 260 rfl) (by decide) (by decide)) q90a q90b q90c (g := (mkF m 43 #[rv bc1, rv bc2, iv (0 : Int32), oU, oU] [(.int (0 : Int32)), (.ref li1)])) rfl (by rw [hml]; rfl) (Steps.refl _) (argsL := [(.int (0 : Int32))]) (rest := []) (lenOf pd_37 rfl) rfl (own_bl rfl) (hb hby d54_43) (fun _ _ => ⟨rfl, e89, own_bl rfl, own_bl rfl⟩))
      obtain ⟨rfl, Nq90, eq90⟩ := hQ90
      have N90 := Fr.app N88 Nq90
      refine own_sTH st90 ?_
      obtain ⟨T91, X91, e91, st91⟩ := castY X90 hx hZ hown (own_w hw 328 rfl) eq90 (Ins.self p_7) (g := (mkF m 48 #[rv bc1, rv bc2, iv (0 : Int32), oU, oU] [(.ref a0p)])) rfl rfl (hb hby d54_48)
      refine own_stH st91 ?_
      refine own_stH (fun _ kk_ => XS.astoreN X91.here hx rfl (hb hby d54_51) rfl rfl (l' := #[rv bc1, rv bc2, iv (0 : Int32), rv a0p, oU]) rfl (XS.aloadN X91.here hx rfl (hb hby d54_52) rfl rfl kk_)) ?_
      show gH T91 (mkF m 53 #[rv bc1, rv bc2, iv (0 : Int32), rv a0p, oU] [(.ref bc2)])
      obtain ⟨T92, X92, e92, st92⟩ := getF X91 hx hZ hown (host := "") (Or.inl (own_w hw 296 rfl)) Via.refl e91 p_3 (g := (mkF m 53 #[rv bc1, rv bc2, iv (0 : Int32), rv a0p, oU] [(.ref bc2)])) rfl rfl (hb hby d54_53)
      refine own_stH st92 ?_
      refine own_stH (fun _ kk_ => XS.iloadN X92.here hx rfl (hb hby d54_56) rfl kk_) ?_
      show gH T92 (mkF m 57 #[rv bc1, rv bc2, iv (0 : Int32), rv a0p, oU] [(.int (0 : Int32)), (.ref li2)])
      obtain ⟨cq93, kq93, q93a, q93b, q93c⟩ := isOf hZ e92 l2a
      obtain ⟨T93, L93, v93, X93, hQ93, st93⟩ := own_cut (X92.interfaceBack hx (xi := yy69) (y := yy65) hown (own_mw hZ hw 320 rfl) (own_mw hZ hw 321 rfl) (own_mw hZ hw 322 rfl) (own_mw hZ hw 323 rfl) (own_mw hZ hw 324 rfl) (own_mw hZ hw 325 rfl) (own_mw hZ hw 326 rfl) (own_mw hZ hw 294 rfl) (by decide) (backOf (W := 0) (rmGT0 l Z a0 hw (li2) (b0p) (em) h0 n0 Z0 l2a l2b l2c) hZ (own_w hw 327 rfl) (own_w hw 260 rfl) (by decide) (by decide)) q93a q93b q93c (g := (mkF m 57 #[rv bc1, rv bc2, iv (0 : Int32), rv a0p, oU] [(.int (0 : Int32)), (.ref li2)])) rfl (by rw [hml]; rfl) (Steps.refl _) (argsL := [(.int (0 : Int32))]) (rest := []) (lenOf pd_37 rfl) rfl (own_bl rfl) (hb hby d54_57) (fun _ _ => ⟨rfl, e92, own_bl rfl, own_bl rfl⟩))
      obtain ⟨rfl, Nq93, eq93⟩ := hQ93
      have N93 := Fr.app N90 Nq93
      refine own_sTH st93 ?_
      obtain ⟨T94, X94, e94, st94⟩ := castY X93 hx hZ hown (own_w hw 328 rfl) eq93 (Ins.self p_33) (g := (mkF m 62 #[rv bc1, rv bc2, iv (0 : Int32), rv a0p, oU] [(.ref b0p)])) rfl rfl (hb hby d54_62)
      refine own_stH st94 ?_
      refine own_stH (fun _ kk_ => XS.astore X94.here hx rfl (hb hby d54_65) rfl rfl (l' := #[rv bc1, rv bc2, iv (0 : Int32), rv a0p, rv b0p]) rfl kk_) ?_
      show gH T94 (mkF m 67 #[rv bc1, rv bc2, iv (0 : Int32), rv a0p, rv b0p] [])
      exact J0 _ _ _ _ _ (X94.more (by decide) (by decide)) e94 N93 Z0 hS0 Z0 hZ hown C0 (Keep.refl h0 []) (Keep.refl h0 []) JE
    · show gH s₁ (mkF m 0 #[rv bc1, rv bc2, oU, oU, oU] [])
      refine own_stH (fun _ kk_ => XS.aloadN X0.here hx rfl (hb hby d54_0) rfl rfl kk_) ?_
      show gH s₁ (mkF m 1 #[rv bc1, rv bc2, oU, oU, oU] [(.ref bc2)])
      obtain ⟨T95, X95, e95, st95⟩ := getF X0 hx hZ hown (host := "") (Or.inl (own_w hw 296 rfl)) Via.refl e0 p_3 (g := (mkF m 1 #[rv bc1, rv bc2, oU, oU, oU] [(.ref bc2)])) rfl rfl (hb hby d54_1)
      refine own_stH st95 ?_
      obtain ⟨cq96, kq96, q96a, q96b, q96c⟩ := isOf hZ e95 l2a
      obtain ⟨T96, L96, v96, X96, hQ96, st96⟩ := own_cut (X95.interfaceBack hx (xi := yy68) (y := yy64) hown (own_mw hZ hw 312 rfl) (own_mw hZ hw 313 rfl) (own_mw hZ hw 314 rfl) (own_mw hZ hw 315 rfl) (own_mw hZ hw 316 rfl) (own_mw hZ hw 317 rfl) (own_mw hZ hw 318 rfl) (own_mw hZ hw 294 rfl) (by decide) (backOf (W := 0) (rmSZ2 l Z a0 hw (li2) (em) (b0p) (b1p) h0 n0 Z0 l2a l2b l2c p_4 l2n) hZ (own_w hw 319 rfl) (own_w hw 260 rfl) (by decide) (by decide)) q96a q96b q96c (g := (mkF m 4 #[rv bc1, rv bc2, oU, oU, oU] [(.ref li2)])) rfl (by rw [hml]; rfl) (Steps.refl _) (argsL := []) (rest := []) (lenOf pd_9 rfl) rfl (own_bl rfl) (hb hby d54_4) (fun _ _ => ⟨rfl, e95, own_bl rfl, own_bl rfl⟩))
      obtain ⟨rfl, Nq96, eq96⟩ := hQ96
      have N96 := Fr.app N0 Nq96
      refine own_sTH st96 ?_
      refine own_stH (fun _ kk_ => XS.aloadN X96.here hx rfl (hb hby d54_9) rfl rfl kk_) ?_
      show gH T96 (mkF m 10 #[rv bc1, rv bc2, oU, oU, oU] [(.ref bc1), (.int (2 : Int32))])
      obtain ⟨T97, X97, e97, st97⟩ := getF X96 hx hZ hown (host := "") (Or.inl (own_w hw 296 rfl)) Via.refl eq96 p_1 (g := (mkF m 10 #[rv bc1, rv bc2, oU, oU, oU] [(.ref bc1), (.int (2 : Int32))])) rfl rfl (hb hby d54_10)
      refine own_stH st97 ?_
      obtain ⟨cq98, kq98, q98a, q98b, q98c⟩ := isOf hZ e97 l1a
      obtain ⟨T98, L98, v98, X98, hQ98, st98⟩ := own_cut (X97.interfaceBack hx (xi := yy68) (y := yy64) hown (own_mw hZ hw 312 rfl) (own_mw hZ hw 313 rfl) (own_mw hZ hw 314 rfl) (own_mw hZ hw 315 rfl) (own_mw hZ hw 316 rfl) (own_mw hZ hw 317 rfl) (own_mw hZ hw 318 rfl) (own_mw hZ hw 294 rfl) (by decide) (backOf (W := 1) (rmSZ1 l Z a0 hw (li1) (em) (a0p) h0 n0 Z0 l1a l1b l1e p_4) hZ (own_w hw 319 rfl) (own_w hw 260 rfl) (by decide) (by decide)) q98a q98b q98c (g := (mkF m 13 #[rv bc1, rv bc2, oU, oU, oU] [(.ref li1), (.int (2 : Int32))])) rfl (by rw [hml]; rfl) (Steps.refl _) (argsL := []) (rest := [(.int (2 : Int32))]) (lenOf pd_9 rfl) rfl (own_bl rfl) (hb hby d54_13) (fun _ _ => ⟨rfl, e97, own_bl rfl, own_bl rfl⟩))
      obtain ⟨rfl, Nq98, eq98⟩ := hQ98
      have N98 := Fr.app N96 Nq98
      refine own_sTH st98 ?_
      refine own_stH (fun _ kk_ => XS.icmpYes X98.here hx rfl (pc0 := 18) (pc' := 23) rfl (hb hby d54_18) rfl (XT.ii_ge_t (by decide)) (by decide) (by decide) (XS.iconst X98.here hx rfl (hb hby d54_23) (XS.istoreN X98.here hx rfl (hb hby d54_24) rfl (l' := #[rv bc1, rv bc2, iv (0 : Int32), oU, oU]) rfl kk_))) ?_
      show gH T98 (mkF m 25 #[rv bc1, rv bc2, iv (0 : Int32), oU, oU] [])
      have JE : ∀ (T99 : State) (L99 : List Loc) (h99 : Heap) (vm99 : Vm) (k99 : Nat), Stand p l e rRrm54 (s.setVm vm99) m #[(.ref bc1), (.ref bc2)] below meth c T99 L99 4 16 → T99.heap = h99 → Fr n0 L99 → n0 ≤ h99.size → s.Since vm99 k99 → k99 ≤ h99.size → Z.Warmed39 (s.setVm vm99).vm → (s.setVm vm99).vm.findClass "com/example/firm_duties/firmduties/BusinessContext" = some m.cls → CHr Z consts_1 s.vm h0 vm99 h99 → Keep h0 h99 [] → Keep h0 h99 [] → own_q a0tu a0vu b0tu b0vu → own_GoesH p e below s Z consts_1 (Q54 Z (1 : Int32) (2 : Int32) a0tu a0vu a1tu a1vu b0tu b0vu b1tu b1vu h0 n0) rRrm54.cells rRrm54.slots T99 (mkF m 125 #[rv bc1, rv bc2, iv (0 : Int32), rv a0p, rv b0p] []) := by
        intro T99 L99 h99 vm99 k99 X99 e99 N99 Zs99 hS99 Ks99 hZ hown C99 K99 MJ99_0 j99_0
        show gH T99 (mkF m 125 #[rv bc1, rv bc2, iv (0 : Int32), rv a0p, rv b0p] [])
        refine own_stH (fun _ kk_ => XS.iinc X99.here hx rfl (hb hby d54_125) rfl (l' := #[rv bc1, rv bc2, iv (1 : Int32), rv a0p, rv b0p]) rfl (XS.goto X99.here hx rfl (pc0 := 128) (pc' := 25) rfl (hb hby d54_128) (by decide) (by decide) (XS.iloadN X99.here hx rfl (hb hby d54_25) rfl (XS.aloadN X99.here hx rfl (hb hby d54_26) rfl rfl kk_)))) ?_
        show gH T99 (mkF m 27 #[rv bc1, rv bc2, iv (1 : Int32), rv a0p, rv b0p] [(.ref bc1), (.int (1 : Int32))])
        have mf100 := p_1.keep MJ99_0 nin0
        obtain ⟨T101, X101, e101, st101⟩ := getF X99 hx hZ hown (host := "") (Or.inl (own_w hw 296 rfl)) Via.refl e99 mf100 (g := (mkF m 27 #[rv bc1, rv bc2, iv (1 : Int32), rv a0p, rv b0p] [(.ref bc1), (.int (1 : Int32))])) rfl rfl (hb hby d54_27)
        refine own_stH st101 ?_
        have mf103 := l1a.keep MJ99_0
        have mf104 := l1e.keep MJ99_0 nin0
        have mf105 := l1b.keep MJ99_0 nin0
        have mf106 := own_Sta_keep p_4 MJ99_0 ns0
        obtain ⟨cq102, kq102, q102a, q102b, q102c⟩ := isOf hZ e101 mf103
        obtain ⟨T102, L102, v102, X102, hQ102, st102⟩ := own_cut (X101.interfaceBack hx (xi := yy68) (y := yy64) hown (own_mw hZ hw 312 rfl) (own_mw hZ hw 313 rfl) (own_mw hZ hw 314 rfl) (own_mw hZ hw 315 rfl) (own_mw hZ hw 316 rfl) (own_mw hZ hw 317 rfl) (own_mw hZ hw 318 rfl) (own_mw hZ hw 294 rfl) (by decide) (backOf (W := 1) (rmSZ1 l Z a0 hw (li1) (em) (a0p) h99 n0 Zs99 mf103 mf105 mf104 mf106) hZ (own_w hw 319 rfl) (own_w hw 260 rfl) (by decide) (by decide)) q102a q102b q102c (g := (mkF m 30 #[rv bc1, rv bc2, iv (1 : Int32), rv a0p, rv b0p] [(.ref li1), (.int (1 : Int32))])) rfl (by rw [hml]; rfl) (Steps.refl _) (argsL := []) (rest := [(.int (1 : Int32))]) (lenOf pd_9 rfl) rfl (own_bl rfl) (hb hby d54_30) (fun _ _ => ⟨rfl, e101, own_bl rfl, own_bl rfl⟩))
        obtain ⟨rfl, Nq102, eq102⟩ := hQ102
        have N102 := Fr.app N99 Nq102
        refine own_sTH st102 ?_
        refine own_stH (fun _ kk_ => XS.icmpYes X102.here hx rfl (pc0 := 35) (pc' := 131) rfl (hb hby d54_35) rfl (XT.ii_ge_t (by decide)) (by decide) (by decide) (XS.iconst X102.here hx rfl (hb hby d54_131) kk_)) ?_
        show gH T102 (mkF m 132 #[rv bc1, rv bc2, iv (1 : Int32), rv a0p, rv b0p] [(.int (1 : Int32))])
        refine own_endH (v := (some (.int (nar .boolean (1 : Int32))))) X102 hlk hS99 (by rw [eq102]; exact Ks99) hZ hEL hh eq102 C99 (fun h => by rw [Bd.returns] at h; cases h) (by decide) (by decide) ?_ (fun fs hr => retN X102 hx (t := .boolean) Bd.returns (by simp) (hb hby d54_132) hr)
        show Q54 Z (1 : Int32) (2 : Int32) a0tu a0vu a1tu a1vu b0tu b0vu b1tu b1vu h0 n0 (some (.int (nar .boolean (1 : Int32)))) T102.heap _
        rw [eq102]
        exact ⟨by exact own_bt ⟨by decide, j99_0, Or.inl rfl⟩, N102, K99⟩
      show gH T98 (mkF m 25 #[rv bc1, rv bc2, iv (0 : Int32), oU, oU] [])
      refine own_stH (fun _ kk_ => XS.iloadN X98.here hx rfl (hb hby d54_25) rfl (XS.aloadN X98.here hx rfl (hb hby d54_26) rfl rfl kk_)) ?_
      show gH T98 (mkF m 27 #[rv bc1, rv bc2, iv (0 : Int32), oU, oU] [(.ref bc1), (.int (0 : Int32))])
      obtain ⟨T107, X107, e107, st107⟩ := getF X98 hx hZ hown (host := "") (Or.inl (own_w hw 296 rfl)) Via.refl eq98 p_1 (g := (mkF m 27 #[rv bc1, rv bc2, iv (0 : Int32), oU, oU] [(.ref bc1), (.int (0 : Int32))])) rfl rfl (hb hby d54_27)
      refine own_stH st107 ?_
      obtain ⟨cq108, kq108, q108a, q108b, q108c⟩ := isOf hZ e107 l1a
      obtain ⟨T108, L108, v108, X108, hQ108, st108⟩ := own_cut (X107.interfaceBack hx (xi := yy68) (y := yy64) hown (own_mw hZ hw 312 rfl) (own_mw hZ hw 313 rfl) (own_mw hZ hw 314 rfl) (own_mw hZ hw 315 rfl) (own_mw hZ hw 316 rfl) (own_mw hZ hw 317 rfl) (own_mw hZ hw 318 rfl) (own_mw hZ hw 294 rfl) (by decide) (backOf (W := 1) (rmSZ1 l Z a0 hw (li1) (em) (a0p) h0 n0 Z0 l1a l1b l1e p_4) hZ (own_w hw 319 rfl) (own_w hw 260 rfl) (by decide) (by decide)) q108a q108b q108c (g := (mkF m 30 #[rv bc1, rv bc2, iv (0 : Int32), oU, oU] [(.ref li1), (.int (0 : Int32))])) rfl (by rw [hml]; rfl) (Steps.refl _) (argsL := []) (rest := [(.int (0 : Int32))]) (lenOf pd_9 rfl) rfl (own_bl rfl) (hb hby d54_30) (fun _ _ => ⟨rfl, e107, own_bl rfl, own_bl rfl⟩))
      obtain ⟨rfl, Nq108, eq108⟩ := hQ108
      have N108 := Fr.app N98 Nq108
      refine own_sTH st108 ?_
      refine own_stH (fun _ kk_ => XS.icmpNo X108.here hx rfl (hb hby d54_35) rfl (XT.ii_ge_f (by decide)) (XS.aloadN X108.here hx rfl (hb hby d54_38) rfl rfl kk_)) ?_
      show gH T108 (mkF m 39 #[rv bc1, rv bc2, iv (0 : Int32), oU, oU] [(.ref bc1)])
      obtain ⟨T109, X109, e109, st109⟩ := getF X108 hx hZ hown (host := "") (Or.inl (own_w hw 296 rfl)) Via.refl eq108 p_1 (g := (mkF m 39 #[rv bc1, rv bc2, iv (0 : Int32), oU, oU] [(.ref bc1)])) rfl rfl (hb hby d54_39)
      refine own_stH st109 ?_
      refine own_stH (fun _ kk_ => XS.iloadN X109.here hx rfl (hb hby d54_42) rfl kk_) ?_
      show gH T109 (mkF m 43 #[rv bc1, rv bc2, iv (0 : Int32), oU, oU] [(.int (0 : Int32)), (.ref li1)])
      obtain ⟨cq110, kq110, q110a, q110b, q110c⟩ := isOf hZ e109 l1a
      obtain ⟨T110, L110, v110, X110, hQ110, st110⟩ := own_cut (X109.interfaceBack hx (xi := yy69) (y := yy65) hown (own_mw hZ hw 320 rfl) (own_mw hZ hw 321 rfl) (own_mw hZ hw 322 rfl) (own_mw hZ hw 323 rfl) (own_mw hZ hw 324 rfl) (own_mw hZ hw 325 rfl) (own_mw hZ hw 326 rfl) (own_mw hZ hw 294 rfl) (by decide) (backOf (W := 0) (rmGT0 l Z a0 hw (li1) (a0p) (em) h0 n0 Z0 l1a l1b l1e) hZ (own_w hw 327 rfl) (own_w hw 260 rfl) (by decide) (by decide)) q110a q110b q110c (g := (mkF m 43 #[rv bc1, rv bc2, iv (0 : Int32), oU, oU] [(.int (0 : Int32)), (.ref li1)])) rfl (by rw [hml]; rfl) (Steps.refl _) (argsL := [(.int (0 : Int32))]) (rest := []) (lenOf pd_37 rfl) rfl (own_bl rfl) (hb hby d54_43) (fun _ _ => ⟨rfl, e109, own_bl rfl, own_bl rfl⟩))
      obtain ⟨rfl, Nq110, eq110⟩ := hQ110
      have N110 := Fr.app N108 Nq110
      refine own_sTH st110 ?_
      obtain ⟨T111, X111, e111, st111⟩ := castY X110 hx hZ hown (own_w hw 328 rfl) eq110 (Ins.self p_7) (g := (mkF m 48 #[rv bc1, rv bc2, iv (0 : Int32), oU, oU] [(.ref a0p)])) rfl rfl (hb hby d54_48)
      refine own_stH st111 ?_
      refine own_stH (fun _ kk_ => XS.astoreN X111.here hx rfl (hb hby d54_51) rfl rfl (l' := #[rv bc1, rv bc2, iv (0 : Int32), rv a0p, oU]) rfl (XS.aloadN X111.here hx rfl (hb hby d54_52) rfl rfl kk_)) ?_
      show gH T111 (mkF m 53 #[rv bc1, rv bc2, iv (0 : Int32), rv a0p, oU] [(.ref bc2)])
      obtain ⟨T112, X112, e112, st112⟩ := getF X111 hx hZ hown (host := "") (Or.inl (own_w hw 296 rfl)) Via.refl e111 p_3 (g := (mkF m 53 #[rv bc1, rv bc2, iv (0 : Int32), rv a0p, oU] [(.ref bc2)])) rfl rfl (hb hby d54_53)
      refine own_stH st112 ?_
      refine own_stH (fun _ kk_ => XS.iloadN X112.here hx rfl (hb hby d54_56) rfl kk_) ?_
      show gH T112 (mkF m 57 #[rv bc1, rv bc2, iv (0 : Int32), rv a0p, oU] [(.int (0 : Int32)), (.ref li2)])
      obtain ⟨cq113, kq113, q113a, q113b, q113c⟩ := isOf hZ e112 l2a
      obtain ⟨T113, L113, v113, X113, hQ113, st113⟩ := own_cut (X112.interfaceBack hx (xi := yy69) (y := yy65) hown (own_mw hZ hw 320 rfl) (own_mw hZ hw 321 rfl) (own_mw hZ hw 322 rfl) (own_mw hZ hw 323 rfl) (own_mw hZ hw 324 rfl) (own_mw hZ hw 325 rfl) (own_mw hZ hw 326 rfl) (own_mw hZ hw 294 rfl) (by decide) (backOf (W := 0) (rmGT0 l Z a0 hw (li2) (b0p) (b1p) h0 n0 Z0 l2a l2b l2c) hZ (own_w hw 327 rfl) (own_w hw 260 rfl) (by decide) (by decide)) q113a q113b q113c (g := (mkF m 57 #[rv bc1, rv bc2, iv (0 : Int32), rv a0p, oU] [(.int (0 : Int32)), (.ref li2)])) rfl (by rw [hml]; rfl) (Steps.refl _) (argsL := [(.int (0 : Int32))]) (rest := []) (lenOf pd_37 rfl) rfl (own_bl rfl) (hb hby d54_57) (fun _ _ => ⟨rfl, e112, own_bl rfl, own_bl rfl⟩))
      obtain ⟨rfl, Nq113, eq113⟩ := hQ113
      have N113 := Fr.app N110 Nq113
      refine own_sTH st113 ?_
      obtain ⟨T114, X114, e114, st114⟩ := castY X113 hx hZ hown (own_w hw 328 rfl) eq113 (Ins.self p_33) (g := (mkF m 62 #[rv bc1, rv bc2, iv (0 : Int32), rv a0p, oU] [(.ref b0p)])) rfl rfl (hb hby d54_62)
      refine own_stH st114 ?_
      refine own_stH (fun _ kk_ => XS.astore X114.here hx rfl (hb hby d54_65) rfl rfl (l' := #[rv bc1, rv bc2, iv (0 : Int32), rv a0p, rv b0p]) rfl kk_) ?_
      show gH T114 (mkF m 67 #[rv bc1, rv bc2, iv (0 : Int32), rv a0p, rv b0p] [])
      exact J0 _ _ _ _ _ (X114.more (by decide) (by decide)) e114 N113 Z0 hS0 Z0 hZ hown C0 (Keep.refl h0 []) (Keep.refl h0 []) JE
    · show gH s₁ (mkF m 0 #[rv bc1, rv bc2, oU, oU, oU] [])
      refine own_stH (fun _ kk_ => XS.aloadN X0.here hx rfl (hb hby d54_0) rfl rfl kk_) ?_
      show gH s₁ (mkF m 1 #[rv bc1, rv bc2, oU, oU, oU] [(.ref bc2)])
      obtain ⟨T115, X115, e115, st115⟩ := getF X0 hx hZ hown (host := "") (Or.inl (own_w hw 296 rfl)) Via.refl e0 p_3 (g := (mkF m 1 #[rv bc1, rv bc2, oU, oU, oU] [(.ref bc2)])) rfl rfl (hb hby d54_1)
      refine own_stH st115 ?_
      obtain ⟨cq116, kq116, q116a, q116b, q116c⟩ := isOf hZ e115 l2a
      obtain ⟨T116, L116, v116, X116, hQ116, st116⟩ := own_cut (X115.interfaceBack hx (xi := yy68) (y := yy66) hown (own_mw hZ hw 312 rfl) (own_mw hZ hw 313 rfl) (own_mw hZ hw 314 rfl) (own_mw hZ hw 377 rfl) (own_mw hZ hw 378 rfl) (own_mw hZ hw 379 rfl) (own_mw hZ hw 380 rfl) (own_mw hZ hw 375 rfl) (by decide) (backOf (W := 0) (rm66 l Z a0 hw (li2) (d3) (k3) (b0p) (b1p) (b2p) h0 n0 Z0 l2a l2b l2c) hZ (own_w hw 381 rfl) (own_w hw 358 rfl) (by decide) (by decide)) q116a q116b q116c (g := (mkF m 4 #[rv bc1, rv bc2, oU, oU, oU] [(.ref li2)])) rfl (by rw [hml]; rfl) (Steps.refl _) (argsL := []) (rest := []) (lenOf pd_9 rfl) rfl (own_bl rfl) (hb hby d54_4) (fun _ _ => ⟨rfl, e115, own_bl rfl, own_bl rfl⟩))
      obtain ⟨rfl, Nq116, eq116⟩ := hQ116
      have N116 := Fr.app N0 Nq116
      refine own_sTH st116 ?_
      refine own_stH (fun _ kk_ => XS.aloadN X116.here hx rfl (hb hby d54_9) rfl rfl kk_) ?_
      show gH T116 (mkF m 10 #[rv bc1, rv bc2, oU, oU, oU] [(.ref bc1), (.int (3 : Int32))])
      obtain ⟨T117, X117, e117, st117⟩ := getF X116 hx hZ hown (host := "") (Or.inl (own_w hw 296 rfl)) Via.refl eq116 p_1 (g := (mkF m 10 #[rv bc1, rv bc2, oU, oU, oU] [(.ref bc1), (.int (3 : Int32))])) rfl rfl (hb hby d54_10)
      refine own_stH st117 ?_
      obtain ⟨cq118, kq118, q118a, q118b, q118c⟩ := isOf hZ e117 l1a
      obtain ⟨T118, L118, v118, X118, hQ118, st118⟩ := own_cut (X117.interfaceBack hx (xi := yy68) (y := yy64) hown (own_mw hZ hw 312 rfl) (own_mw hZ hw 313 rfl) (own_mw hZ hw 314 rfl) (own_mw hZ hw 315 rfl) (own_mw hZ hw 316 rfl) (own_mw hZ hw 317 rfl) (own_mw hZ hw 318 rfl) (own_mw hZ hw 294 rfl) (by decide) (backOf (W := 1) (rmSZ1 l Z a0 hw (li1) (em) (a0p) h0 n0 Z0 l1a l1b l1e p_4) hZ (own_w hw 319 rfl) (own_w hw 260 rfl) (by decide) (by decide)) q118a q118b q118c (g := (mkF m 13 #[rv bc1, rv bc2, oU, oU, oU] [(.ref li1), (.int (3 : Int32))])) rfl (by rw [hml]; rfl) (Steps.refl _) (argsL := []) (rest := [(.int (3 : Int32))]) (lenOf pd_9 rfl) rfl (own_bl rfl) (hb hby d54_13) (fun _ _ => ⟨rfl, e117, own_bl rfl, own_bl rfl⟩))
      obtain ⟨rfl, Nq118, eq118⟩ := hQ118
      have N118 := Fr.app N116 Nq118
      refine own_sTH st118 ?_
      refine own_stH (fun _ kk_ => XS.icmpYes X118.here hx rfl (pc0 := 18) (pc' := 23) rfl (hb hby d54_18) rfl (XT.ii_ge_t (by decide)) (by decide) (by decide) (XS.iconst X118.here hx rfl (hb hby d54_23) (XS.istoreN X118.here hx rfl (hb hby d54_24) rfl (l' := #[rv bc1, rv bc2, iv (0 : Int32), oU, oU]) rfl kk_))) ?_
      show gH T118 (mkF m 25 #[rv bc1, rv bc2, iv (0 : Int32), oU, oU] [])
      have JE : ∀ (T119 : State) (L119 : List Loc) (h119 : Heap) (vm119 : Vm) (k119 : Nat), Stand p l e rRrm54 (s.setVm vm119) m #[(.ref bc1), (.ref bc2)] below meth c T119 L119 4 16 → T119.heap = h119 → Fr n0 L119 → n0 ≤ h119.size → s.Since vm119 k119 → k119 ≤ h119.size → Z.Warmed39 (s.setVm vm119).vm → (s.setVm vm119).vm.findClass "com/example/firm_duties/firmduties/BusinessContext" = some m.cls → CHr Z consts_1 s.vm h0 vm119 h119 → Keep h0 h119 [] → Keep h0 h119 [] → own_q a0tu a0vu b0tu b0vu → own_GoesH p e below s Z consts_1 (Q54 Z (1 : Int32) (3 : Int32) a0tu a0vu a1tu a1vu b0tu b0vu b1tu b1vu h0 n0) rRrm54.cells rRrm54.slots T119 (mkF m 125 #[rv bc1, rv bc2, iv (0 : Int32), rv a0p, rv b0p] []) := by
        intro T119 L119 h119 vm119 k119 X119 e119 N119 Zs119 hS119 Ks119 hZ hown C119 K119 MJ119_0 j119_0
        show gH T119 (mkF m 125 #[rv bc1, rv bc2, iv (0 : Int32), rv a0p, rv b0p] [])
        refine own_stH (fun _ kk_ => XS.iinc X119.here hx rfl (hb hby d54_125) rfl (l' := #[rv bc1, rv bc2, iv (1 : Int32), rv a0p, rv b0p]) rfl (XS.goto X119.here hx rfl (pc0 := 128) (pc' := 25) rfl (hb hby d54_128) (by decide) (by decide) (XS.iloadN X119.here hx rfl (hb hby d54_25) rfl (XS.aloadN X119.here hx rfl (hb hby d54_26) rfl rfl kk_)))) ?_
        show gH T119 (mkF m 27 #[rv bc1, rv bc2, iv (1 : Int32), rv a0p, rv b0p] [(.ref bc1), (.int (1 : Int32))])
        have mf120 := p_1.keep MJ119_0 nin0
        obtain ⟨T121, X121, e121, st121⟩ := getF X119 hx hZ hown (host := "") (Or.inl (own_w hw 296 rfl)) Via.refl e119 mf120 (g := (mkF m 27 #[rv bc1, rv bc2, iv (1 : Int32), rv a0p, rv b0p] [(.ref bc1), (.int (1 : Int32))])) rfl rfl (hb hby d54_27)
        refine own_stH st121 ?_
        have mf123 := l1a.keep MJ119_0
        have mf124 := l1e.keep MJ119_0 nin0
        have mf125 := l1b.keep MJ119_0 nin0
        have mf126 := own_Sta_keep p_4 MJ119_0 ns0
        obtain ⟨cq122, kq122, q122a, q122b, q122c⟩ := isOf hZ e121 mf123
        obtain ⟨T122, L122, v122, X122, hQ122, st122⟩ := own_cut (X121.interfaceBack hx (xi := yy68) (y := yy64) hown (own_mw hZ hw 312 rfl) (own_mw hZ hw 313 rfl) (own_mw hZ hw 314 rfl) (own_mw hZ hw 315 rfl) (own_mw hZ hw 316 rfl) (own_mw hZ hw 317 rfl) (own_mw hZ hw 318 rfl) (own_mw hZ hw 294 rfl) (by decide) (backOf (W := 1) (rmSZ1 l Z a0 hw (li1) (em) (a0p) h119 n0 Zs119 mf123 mf125 mf124 mf126) hZ (own_w hw 319 rfl) (own_w hw 260 rfl) (by decide) (by decide)) q122a q122b q122c (g := (mkF m 30 #[rv bc1, rv bc2, iv (1 : Int32), rv a0p, rv b0p] [(.ref li1), (.int (1 : Int32))])) rfl (by rw [hml]; rfl) (Steps.refl _) (argsL := []) (rest := [(.int (1 : Int32))]) (lenOf pd_9 rfl) rfl (own_bl rfl) (hb hby d54_30) (fun _ _ => ⟨rfl, e121, own_bl rfl, own_bl rfl⟩))
        obtain ⟨rfl, Nq122, eq122⟩ := hQ122
        have N122 := Fr.app N119 Nq122
        refine own_sTH st122 ?_
        refine own_stH (fun _ kk_ => XS.icmpYes X122.here hx rfl (pc0 := 35) (pc' := 131) rfl (hb hby d54_35) rfl (XT.ii_ge_t (by decide)) (by decide) (by decide) (XS.iconst X122.here hx rfl (hb hby d54_131) kk_)) ?_
        show gH T122 (mkF m 132 #[rv bc1, rv bc2, iv (1 : Int32), rv a0p, rv b0p] [(.int (1 : Int32))])
        refine own_endH (v := (some (.int (nar .boolean (1 : Int32))))) X122 hlk hS119 (by rw [eq122]; exact Ks119) hZ hEL hh eq122 C119 (fun h => by rw [Bd.returns] at h; cases h) (by decide) (by decide) ?_ (fun fs hr => retN X122 hx (t := .boolean) Bd.returns (by simp) (hb hby d54_132) hr)
        show Q54 Z (1 : Int32) (3 : Int32) a0tu a0vu a1tu a1vu b0tu b0vu b1tu b1vu h0 n0 (some (.int (nar .boolean (1 : Int32)))) T122.heap _
        rw [eq122]
        exact ⟨by exact own_bt ⟨by decide, j119_0, Or.inl rfl⟩, N122, K119⟩
      show gH T118 (mkF m 25 #[rv bc1, rv bc2, iv (0 : Int32), oU, oU] [])
      refine own_stH (fun _ kk_ => XS.iloadN X118.here hx rfl (hb hby d54_25) rfl (XS.aloadN X118.here hx rfl (hb hby d54_26) rfl rfl kk_)) ?_
      show gH T118 (mkF m 27 #[rv bc1, rv bc2, iv (0 : Int32), oU, oU] [(.ref bc1), (.int (0 : Int32))])
      obtain ⟨T127, X127, e127, st127⟩ := getF X118 hx hZ hown (host := "") (Or.inl (own_w hw 296 rfl)) Via.refl eq118 p_1 (g := (mkF m 27 #[rv bc1, rv bc2, iv (0 : Int32), oU, oU] [(.ref bc1), (.int (0 : Int32))])) rfl rfl (hb hby d54_27)
      refine own_stH st127 ?_
      obtain ⟨cq128, kq128, q128a, q128b, q128c⟩ := isOf hZ e127 l1a
      obtain ⟨T128, L128, v128, X128, hQ128, st128⟩ := own_cut (X127.interfaceBack hx (xi := yy68) (y := yy64) hown (own_mw hZ hw 312 rfl) (own_mw hZ hw 313 rfl) (own_mw hZ hw 314 rfl) (own_mw hZ hw 315 rfl) (own_mw hZ hw 316 rfl) (own_mw hZ hw 317 rfl) (own_mw hZ hw 318 rfl) (own_mw hZ hw 294 rfl) (by decide) (backOf (W := 1) (rmSZ1 l Z a0 hw (li1) (em) (a0p) h0 n0 Z0 l1a l1b l1e p_4) hZ (own_w hw 319 rfl) (own_w hw 260 rfl) (by decide) (by decide)) q128a q128b q128c (g := (mkF m 30 #[rv bc1, rv bc2, iv (0 : Int32), oU, oU] [(.ref li1), (.int (0 : Int32))])) rfl (by rw [hml]; rfl) (Steps.refl _) (argsL := []) (rest := [(.int (0 : Int32))]) (lenOf pd_9 rfl) rfl (own_bl rfl) (hb hby d54_30) (fun _ _ => ⟨rfl, e127, own_bl rfl, own_bl rfl⟩))
      obtain ⟨rfl, Nq128, eq128⟩ := hQ128
      have N128 := Fr.app N118 Nq128
      refine own_sTH st128 ?_
      refine own_stH (fun _ kk_ => XS.icmpNo X128.here hx rfl (hb hby d54_35) rfl (XT.ii_ge_f (by decide)) (XS.aloadN X128.here hx rfl (hb hby d54_38) rfl rfl kk_)) ?_
      show gH T128 (mkF m 39 #[rv bc1, rv bc2, iv (0 : Int32), oU, oU] [(.ref bc1)])
      obtain ⟨T129, X129, e129, st129⟩ := getF X128 hx hZ hown (host := "") (Or.inl (own_w hw 296 rfl)) Via.refl eq128 p_1 (g := (mkF m 39 #[rv bc1, rv bc2, iv (0 : Int32), oU, oU] [(.ref bc1)])) rfl rfl (hb hby d54_39)
      refine own_stH st129 ?_
      refine own_stH (fun _ kk_ => XS.iloadN X129.here hx rfl (hb hby d54_42) rfl kk_) ?_
      show gH T129 (mkF m 43 #[rv bc1, rv bc2, iv (0 : Int32), oU, oU] [(.int (0 : Int32)), (.ref li1)])
      obtain ⟨cq130, kq130, q130a, q130b, q130c⟩ := isOf hZ e129 l1a
      obtain ⟨T130, L130, v130, X130, hQ130, st130⟩ := own_cut (X129.interfaceBack hx (xi := yy69) (y := yy65) hown (own_mw hZ hw 320 rfl) (own_mw hZ hw 321 rfl) (own_mw hZ hw 322 rfl) (own_mw hZ hw 323 rfl) (own_mw hZ hw 324 rfl) (own_mw hZ hw 325 rfl) (own_mw hZ hw 326 rfl) (own_mw hZ hw 294 rfl) (by decide) (backOf (W := 0) (rmGT0 l Z a0 hw (li1) (a0p) (em) h0 n0 Z0 l1a l1b l1e) hZ (own_w hw 327 rfl) (own_w hw 260 rfl) (by decide) (by decide)) q130a q130b q130c (g := (mkF m 43 #[rv bc1, rv bc2, iv (0 : Int32), oU, oU] [(.int (0 : Int32)), (.ref li1)])) rfl (by rw [hml]; rfl) (Steps.refl _) (argsL := [(.int (0 : Int32))]) (rest := []) (lenOf pd_37 rfl) rfl (own_bl rfl) (hb hby d54_43) (fun _ _ => ⟨rfl, e129, own_bl rfl, own_bl rfl⟩))
      obtain ⟨rfl, Nq130, eq130⟩ := hQ130
      have N130 := Fr.app N128 Nq130
      refine own_sTH st130 ?_
      obtain ⟨T131, X131, e131, st131⟩ := castY X130 hx hZ hown (own_w hw 328 rfl) eq130 (Ins.self p_7) (g := (mkF m 48 #[rv bc1, rv bc2, iv (0 : Int32), oU, oU] [(.ref a0p)])) rfl rfl (hb hby d54_48)
      refine own_stH st131 ?_
      refine own_stH (fun _ kk_ => XS.astoreN X131.here hx rfl (hb hby d54_51) rfl rfl (l' := #[rv bc1, rv bc2, iv (0 : Int32), rv a0p, oU]) rfl (XS.aloadN X131.here hx rfl (hb hby d54_52) rfl rfl kk_)) ?_
      show gH T131 (mkF m 53 #[rv bc1, rv bc2, iv (0 : Int32), rv a0p, oU] [(.ref bc2)])
      obtain ⟨T132, X132, e132, st132⟩ := getF X131 hx hZ hown (host := "") (Or.inl (own_w hw 296 rfl)) Via.refl e131 p_3 (g := (mkF m 53 #[rv bc1, rv bc2, iv (0 : Int32), rv a0p, oU] [(.ref bc2)])) rfl rfl (hb hby d54_53)
      refine own_stH st132 ?_
      refine own_stH (fun _ kk_ => XS.iloadN X132.here hx rfl (hb hby d54_56) rfl kk_) ?_
      show gH T132 (mkF m 57 #[rv bc1, rv bc2, iv (0 : Int32), rv a0p, oU] [(.int (0 : Int32)), (.ref li2)])
      obtain ⟨cq133, kq133, q133a, q133b, q133c⟩ := isOf hZ e132 l2a
      obtain ⟨T133, L133, v133, X133, hQ133, st133⟩ := own_cut (X132.interfaceBack hx (xi := yy69) (y := yy67) hown (own_mw hZ hw 320 rfl) (own_mw hZ hw 321 rfl) (own_mw hZ hw 322 rfl) (own_mw hZ hw 382 rfl) (own_mw hZ hw 383 rfl) (own_mw hZ hw 384 rfl) (own_mw hZ hw 385 rfl) (own_mw hZ hw 375 rfl) (by decide) (backOf (W := 0) (rmNG0 l Z a0 hw (li2) (d3) (k3) (b0p) (b1p) (b2p) h0 n0 Z0 l2a l2b l2c) hZ (own_w hw 386 rfl) (own_w hw 358 rfl) (by decide) (by decide)) q133a q133b q133c (g := (mkF m 57 #[rv bc1, rv bc2, iv (0 : Int32), rv a0p, oU] [(.int (0 : Int32)), (.ref li2)])) rfl (by rw [hml]; rfl) (Steps.refl _) (argsL := [(.int (0 : Int32))]) (rest := []) (lenOf pd_37 rfl) rfl (own_bl rfl) (hb hby d54_57) (fun _ _ => ⟨rfl, e132, own_bl rfl, own_bl rfl⟩))
      obtain ⟨rfl, Nq133, eq133⟩ := hQ133
      have N133 := Fr.app N130 Nq133
      refine own_sTH st133 ?_
      obtain ⟨T134, X134, e134, st134⟩ := castY X133 hx hZ hown (own_w hw 328 rfl) eq133 (Ins.self p_33) (g := (mkF m 62 #[rv bc1, rv bc2, iv (0 : Int32), rv a0p, oU] [(.ref b0p)])) rfl rfl (hb hby d54_62)
      refine own_stH st134 ?_
      refine own_stH (fun _ kk_ => XS.astore X134.here hx rfl (hb hby d54_65) rfl rfl (l' := #[rv bc1, rv bc2, iv (0 : Int32), rv a0p, rv b0p]) rfl kk_) ?_
      show gH T134 (mkF m 67 #[rv bc1, rv bc2, iv (0 : Int32), rv a0p, rv b0p] [])
      exact J0 _ _ _ _ _ (X134.more (by decide) (by decide)) e134 N133 Z0 hS0 Z0 hZ hown C0 (Keep.refl h0 []) (Keep.refl h0 []) JE
  · rcases hl2 with ⟨rfl, l2a, l2b, l2c⟩ | ⟨rfl, l2a, l2b, l2c, l2n⟩ | ⟨rfl, d3, k3, l2a, l2b, l2c, -⟩
    · show gH s₁ (mkF m 0 #[rv bc1, rv bc2, oU, oU, oU] [])
      refine own_stH (fun _ kk_ => XS.aloadN X0.here hx rfl (hb hby d54_0) rfl rfl kk_) ?_
      show gH s₁ (mkF m 1 #[rv bc1, rv bc2, oU, oU, oU] [(.ref bc2)])
      obtain ⟨T135, X135, e135, st135⟩ := getF X0 hx hZ hown (host := "") (Or.inl (own_w hw 296 rfl)) Via.refl e0 p_3 (g := (mkF m 1 #[rv bc1, rv bc2, oU, oU, oU] [(.ref bc2)])) rfl rfl (hb hby d54_1)
      refine own_stH st135 ?_
      obtain ⟨cq136, kq136, q136a, q136b, q136c⟩ := isOf hZ e135 l2a
      obtain ⟨T136, L136, v136, X136, hQ136, st136⟩ := own_cut (X135.interfaceBack hx (xi := yy68) (y := yy64) hown (own_mw hZ hw 312 rfl) (own_mw hZ hw 313 rfl) (own_mw hZ hw 314 rfl) (own_mw hZ hw 315 rfl) (own_mw hZ hw 316 rfl) (own_mw hZ hw 317 rfl) (own_mw hZ hw 318 rfl) (own_mw hZ hw 294 rfl) (by decide) (backOf (W := 0) (rmSZ1 l Z a0 hw (li2) (em) (b0p) h0 n0 Z0 l2a l2b l2c p_4) hZ (own_w hw 319 rfl) (own_w hw 260 rfl) (by decide) (by decide)) q136a q136b q136c (g := (mkF m 4 #[rv bc1, rv bc2, oU, oU, oU] [(.ref li2)])) rfl (by rw [hml]; rfl) (Steps.refl _) (argsL := []) (rest := []) (lenOf pd_9 rfl) rfl (own_bl rfl) (hb hby d54_4) (fun _ _ => ⟨rfl, e135, own_bl rfl, own_bl rfl⟩))
      obtain ⟨rfl, Nq136, eq136⟩ := hQ136
      have N136 := Fr.app N0 Nq136
      refine own_sTH st136 ?_
      refine own_stH (fun _ kk_ => XS.aloadN X136.here hx rfl (hb hby d54_9) rfl rfl kk_) ?_
      show gH T136 (mkF m 10 #[rv bc1, rv bc2, oU, oU, oU] [(.ref bc1), (.int (1 : Int32))])
      obtain ⟨T137, X137, e137, st137⟩ := getF X136 hx hZ hown (host := "") (Or.inl (own_w hw 296 rfl)) Via.refl eq136 p_1 (g := (mkF m 10 #[rv bc1, rv bc2, oU, oU, oU] [(.ref bc1), (.int (1 : Int32))])) rfl rfl (hb hby d54_10)
      refine own_stH st137 ?_
      obtain ⟨cq138, kq138, q138a, q138b, q138c⟩ := isOf hZ e137 l1a
      obtain ⟨T138, L138, v138, X138, hQ138, st138⟩ := own_cut (X137.interfaceBack hx (xi := yy68) (y := yy64) hown (own_mw hZ hw 312 rfl) (own_mw hZ hw 313 rfl) (own_mw hZ hw 314 rfl) (own_mw hZ hw 315 rfl) (own_mw hZ hw 316 rfl) (own_mw hZ hw 317 rfl) (own_mw hZ hw 318 rfl) (own_mw hZ hw 294 rfl) (by decide) (backOf (W := 1) (rmSZ2 l Z a0 hw (li1) (em) (a0p) (a1p) h0 n0 Z0 l1a l1b l1e p_4 l1n) hZ (own_w hw 319 rfl) (own_w hw 260 rfl) (by decide) (by decide)) q138a q138b q138c (g := (mkF m 13 #[rv bc1, rv bc2, oU, oU, oU] [(.ref li1), (.int (1 : Int32))])) rfl (by rw [hml]; rfl) (Steps.refl _) (argsL := []) (rest := [(.int (1 : Int32))]) (lenOf pd_9 rfl) rfl (own_bl rfl) (hb hby d54_13) (fun _ _ => ⟨rfl, e137, own_bl rfl, own_bl rfl⟩))
      obtain ⟨rfl, Nq138, eq138⟩ := hQ138
      have N138 := Fr.app N136 Nq138
      refine own_sTH st138 ?_
      refine own_stH (fun _ kk_ => XS.icmpNo X138.here hx rfl (hb hby d54_18) rfl (XT.ii_ge_f (by decide)) (XS.iconst X138.here hx rfl (hb hby d54_21) kk_)) ?_
      show gH T138 (mkF m 22 #[rv bc1, rv bc2, oU, oU, oU] [(.int (0 : Int32))])
      refine own_endH (v := (some (.int (nar .boolean (0 : Int32))))) X138 hlk hS0 (by rw [eq138]; exact Z0) hZ hEL hh eq138 C0 (fun h => by rw [Bd.returns] at h; cases h) (by decide) (by decide) ?_ (fun fs hr => retN X138 hx (t := .boolean) Bd.returns (by simp) (hb hby d54_22) hr)
      show Q54 Z (2 : Int32) (1 : Int32) a0tu a0vu a1tu a1vu b0tu b0vu b1tu b1vu h0 n0 (some (.int (nar .boolean (0 : Int32)))) T138.heap _
      rw [eq138]
      exact ⟨by exact own_bf (fun z => z.1 (by decide)), N138, (Keep.refl h0 [])⟩
    · show gH s₁ (mkF m 0 #[rv bc1, rv bc2, oU, oU, oU] [])
      refine own_stH (fun _ kk_ => XS.aloadN X0.here hx rfl (hb hby d54_0) rfl rfl kk_) ?_
      show gH s₁ (mkF m 1 #[rv bc1, rv bc2, oU, oU, oU] [(.ref bc2)])
      obtain ⟨T139, X139, e139, st139⟩ := getF X0 hx hZ hown (host := "") (Or.inl (own_w hw 296 rfl)) Via.refl e0 p_3 (g := (mkF m 1 #[rv bc1, rv bc2, oU, oU, oU] [(.ref bc2)])) rfl rfl (hb hby d54_1)
      refine own_stH st139 ?_
      obtain ⟨cq140, kq140, q140a, q140b, q140c⟩ := isOf hZ e139 l2a
      obtain ⟨T140, L140, v140, X140, hQ140, st140⟩ := own_cut (X139.interfaceBack hx (xi := yy68) (y := yy64) hown (own_mw hZ hw 312 rfl) (own_mw hZ hw 313 rfl) (own_mw hZ hw 314 rfl) (own_mw hZ hw 315 rfl) (own_mw hZ hw 316 rfl) (own_mw hZ hw 317 rfl) (own_mw hZ hw 318 rfl) (own_mw hZ hw 294 rfl) (by decide) (backOf (W := 0) (rmSZ2 l Z a0 hw (li2) (em) (b0p) (b1p) h0 n0 Z0 l2a l2b l2c p_4 l2n) hZ (own_w hw 319 rfl) (own_w hw 260 rfl) (by decide) (by decide)) q140a q140b q140c (g := (mkF m 4 #[rv bc1, rv bc2, oU, oU, oU] [(.ref li2)])) rfl (by rw [hml]; rfl) (Steps.refl _) (argsL := []) (rest := []) (lenOf pd_9 rfl) rfl (own_bl rfl) (hb hby d54_4) (fun _ _ => ⟨rfl, e139, own_bl rfl, own_bl rfl⟩))
      obtain ⟨rfl, Nq140, eq140⟩ := hQ140
      have N140 := Fr.app N0 Nq140
      refine own_sTH st140 ?_
      refine own_stH (fun _ kk_ => XS.aloadN X140.here hx rfl (hb hby d54_9) rfl rfl kk_) ?_
      show gH T140 (mkF m 10 #[rv bc1, rv bc2, oU, oU, oU] [(.ref bc1), (.int (2 : Int32))])
      obtain ⟨T141, X141, e141, st141⟩ := getF X140 hx hZ hown (host := "") (Or.inl (own_w hw 296 rfl)) Via.refl eq140 p_1 (g := (mkF m 10 #[rv bc1, rv bc2, oU, oU, oU] [(.ref bc1), (.int (2 : Int32))])) rfl rfl (hb hby d54_10)
      refine own_stH st141 ?_
      obtain ⟨cq142, kq142, q142a, q142b, q142c⟩ := isOf hZ e141 l1a
      obtain ⟨T142, L142, v142, X142, hQ142, st142⟩ := own_cut (X141.interfaceBack hx (xi := yy68) (y := yy64) hown (own_mw hZ hw 312 rfl) (own_mw hZ hw 313 rfl) (own_mw hZ hw 314 rfl) (own_mw hZ hw 315 rfl) (own_mw hZ hw 316 rfl) (own_mw hZ hw 317 rfl) (own_mw hZ hw 318 rfl) (own_mw hZ hw 294 rfl) (by decide) (backOf (W := 1) (rmSZ2 l Z a0 hw (li1) (em) (a0p) (a1p) h0 n0 Z0 l1a l1b l1e p_4 l1n) hZ (own_w hw 319 rfl) (own_w hw 260 rfl) (by decide) (by decide)) q142a q142b q142c (g := (mkF m 13 #[rv bc1, rv bc2, oU, oU, oU] [(.ref li1), (.int (2 : Int32))])) rfl (by rw [hml]; rfl) (Steps.refl _) (argsL := []) (rest := [(.int (2 : Int32))]) (lenOf pd_9 rfl) rfl (own_bl rfl) (hb hby d54_13) (fun _ _ => ⟨rfl, e141, own_bl rfl, own_bl rfl⟩))
      obtain ⟨rfl, Nq142, eq142⟩ := hQ142
      have N142 := Fr.app N140 Nq142
      refine own_sTH st142 ?_
      refine own_stH (fun _ kk_ => XS.icmpYes X142.here hx rfl (pc0 := 18) (pc' := 23) rfl (hb hby d54_18) rfl (XT.ii_ge_t (by decide)) (by decide) (by decide) (XS.iconst X142.here hx rfl (hb hby d54_23) (XS.istoreN X142.here hx rfl (hb hby d54_24) rfl (l' := #[rv bc1, rv bc2, iv (0 : Int32), oU, oU]) rfl kk_))) ?_
      show gH T142 (mkF m 25 #[rv bc1, rv bc2, iv (0 : Int32), oU, oU] [])
      have JM : ∀ (T143 : State) (L143 : List Loc) (h143 : Heap) (vm143 : Vm) (k143 : Nat), Stand p l e rRrm54 (s.setVm vm143) m #[(.ref bc1), (.ref bc2)] below meth c T143 L143 4 16 → T143.heap = h143 → Fr n0 L143 → n0 ≤ h143.size → s.Since vm143 k143 → k143 ≤ h143.size → Z.Warmed39 (s.setVm vm143).vm → (s.setVm vm143).vm.findClass "com/example/firm_duties/firmduties/BusinessContext" = some m.cls → CHr Z consts_1 s.vm h0 vm143 h143 → Keep h0 h143 [] → Keep h0 h143 [] → own_q a0tu a0vu b0tu b0vu → own_GoesH p e below s Z consts_1 (Q54 Z (2 : Int32) (2 : Int32) a0tu a0vu a1tu a1vu b0tu b0vu b1tu b1vu h0 n0) rRrm54.cells rRrm54.slots T143 (mkF m 125 #[rv bc1, rv bc2, iv (0 : Int32), rv a0p, rv b0p] []) := by
        intro T143 L143 h143 vm143 k143 X143 e143 N143 Zs143 hS143 Ks143 hZ hown C143 K143 MJ143_0 j143_0
        have JE : ∀ (T144 : State) (L144 : List Loc) (h144 : Heap) (vm144 : Vm) (k144 : Nat), Stand p l e rRrm54 (s.setVm vm144) m #[(.ref bc1), (.ref bc2)] below meth c T144 L144 8 32 → T144.heap = h144 → Fr n0 L144 → n0 ≤ h144.size → s.Since vm144 k144 → k144 ≤ h144.size → Z.Warmed39 (s.setVm vm144).vm → (s.setVm vm144).vm.findClass "com/example/firm_duties/firmduties/BusinessContext" = some m.cls → CHr Z consts_1 s.vm h0 vm144 h144 → Keep h0 h144 [] → Keep h0 h144 [] → own_q a1tu a1vu b1tu b1vu → own_GoesH p e below s Z consts_1 (Q54 Z (2 : Int32) (2 : Int32) a0tu a0vu a1tu a1vu b0tu b0vu b1tu b1vu h0 n0) rRrm54.cells rRrm54.slots T144 (mkF m 125 #[rv bc1, rv bc2, iv (1 : Int32), rv a1p, rv b1p] []) := by
          intro T144 L144 h144 vm144 k144 X144 e144 N144 Zs144 hS144 Ks144 hZ hown C144 K144 MJ144_0 j144_0
          show gH T144 (mkF m 125 #[rv bc1, rv bc2, iv (1 : Int32), rv a1p, rv b1p] [])
          refine own_stH (fun _ kk_ => XS.iinc X144.here hx rfl (hb hby d54_125) rfl (l' := #[rv bc1, rv bc2, iv (2 : Int32), rv a1p, rv b1p]) rfl (XS.goto X144.here hx rfl (pc0 := 128) (pc' := 25) rfl (hb hby d54_128) (by decide) (by decide) (XS.iloadN X144.here hx rfl (hb hby d54_25) rfl (XS.aloadN X144.here hx rfl (hb hby d54_26) rfl rfl kk_)))) ?_
          show gH T144 (mkF m 27 #[rv bc1, rv bc2, iv (2 : Int32), rv a1p, rv b1p] [(.ref bc1), (.int (2 : Int32))])
          have mf145 := p_1.keep MJ144_0 nin0
          obtain ⟨T146, X146, e146, st146⟩ := getF X144 hx hZ hown (host := "") (Or.inl (own_w hw 296 rfl)) Via.refl e144 mf145 (g := (mkF m 27 #[rv bc1, rv bc2, iv (2 : Int32), rv a1p, rv b1p] [(.ref bc1), (.int (2 : Int32))])) rfl rfl (hb hby d54_27)
          refine own_stH st146 ?_
          have mf148 := l1a.keep MJ144_0
          have mf149 := l1e.keep MJ144_0 nin0
          have mf150 := l1b.keep MJ144_0 nin0
          have mf151 := own_Sta_keep p_4 MJ144_0 ns0
          obtain ⟨cq147, kq147, q147a, q147b, q147c⟩ := isOf hZ e146 mf148
          obtain ⟨T147, L147, v147, X147, hQ147, st147⟩ := own_cut (X146.interfaceBack hx (xi := yy68) (y := yy64) hown (own_mw hZ hw 312 rfl) (own_mw hZ hw 313 rfl) (own_mw hZ hw 314 rfl) (own_mw hZ hw 315 rfl) (own_mw hZ hw 316 rfl) (own_mw hZ hw 317 rfl) (own_mw hZ hw 318 rfl) (own_mw hZ hw 294 rfl) (by decide) (backOf (W := 1) (rmSZ2 l Z a0 hw (li1) (em) (a0p) (a1p) h144 n0 Zs144 mf148 mf150 mf149 mf151 l1n) hZ (own_w hw 319 rfl) (own_w hw 260 rfl) (by decide) (by decide)) q147a q147b q147c (g := (mkF m 30 #[rv bc1, rv bc2, iv (2 : Int32), rv a1p, rv b1p] [(.ref li1), (.int (2 : Int32))])) rfl (by rw [hml]; rfl) (Steps.refl _) (argsL := []) (rest := [(.int (2 : Int32))]) (lenOf pd_9 rfl) rfl (own_bl rfl) (hb hby d54_30) (fun _ _ => ⟨rfl, e146, own_bl rfl, own_bl rfl⟩))
          obtain ⟨rfl, Nq147, eq147⟩ := hQ147
          have N147 := Fr.app N144 Nq147
          refine own_sTH st147 ?_
          refine own_stH (fun _ kk_ => XS.icmpYes X147.here hx rfl (pc0 := 35) (pc' := 131) rfl (hb hby d54_35) rfl (XT.ii_ge_t (by decide)) (by decide) (by decide) (XS.iconst X147.here hx rfl (hb hby d54_131) kk_)) ?_
          show gH T147 (mkF m 132 #[rv bc1, rv bc2, iv (2 : Int32), rv a1p, rv b1p] [(.int (1 : Int32))])
          refine own_endH (v := (some (.int (nar .boolean (1 : Int32))))) X147 hlk hS144 (by rw [eq147]; exact Ks144) hZ hEL hh eq147 C144 (fun h => by rw [Bd.returns] at h; cases h) (by decide) (by decide) ?_ (fun fs hr => retN X147 hx (t := .boolean) Bd.returns (by simp) (hb hby d54_132) hr)
          show Q54 Z (2 : Int32) (2 : Int32) a0tu a0vu a1tu a1vu b0tu b0vu b1tu b1vu h0 n0 (some (.int (nar .boolean (1 : Int32)))) T147.heap _
          rw [eq147]
          exact ⟨by exact own_bt ⟨by decide, j143_0, Or.inr j144_0⟩, N147, K144⟩
        show gH T143 (mkF m 125 #[rv bc1, rv bc2, iv (0 : Int32), rv a0p, rv b0p] [])
        refine own_stH (fun _ kk_ => XS.iinc X143.here hx rfl (hb hby d54_125) rfl (l' := #[rv bc1, rv bc2, iv (1 : Int32), rv a0p, rv b0p]) rfl (XS.goto X143.here hx rfl (pc0 := 128) (pc' := 25) rfl (hb hby d54_128) (by decide) (by decide) (XS.iloadN X143.here hx rfl (hb hby d54_25) rfl (XS.aloadN X143.here hx rfl (hb hby d54_26) rfl rfl kk_)))) ?_
        show gH T143 (mkF m 27 #[rv bc1, rv bc2, iv (1 : Int32), rv a0p, rv b0p] [(.ref bc1), (.int (1 : Int32))])
        have mf152 := p_1.keep MJ143_0 nin0
        obtain ⟨T153, X153, e153, st153⟩ := getF X143 hx hZ hown (host := "") (Or.inl (own_w hw 296 rfl)) Via.refl e143 mf152 (g := (mkF m 27 #[rv bc1, rv bc2, iv (1 : Int32), rv a0p, rv b0p] [(.ref bc1), (.int (1 : Int32))])) rfl rfl (hb hby d54_27)
        refine own_stH st153 ?_
        have mf155 := l1a.keep MJ143_0
        have mf156 := l1e.keep MJ143_0 nin0
        have mf157 := l1b.keep MJ143_0 nin0
        have mf158 := own_Sta_keep p_4 MJ143_0 ns0
        obtain ⟨cq154, kq154, q154a, q154b, q154c⟩ := isOf hZ e153 mf155
        obtain ⟨T154, L154, v154, X154, hQ154, st154⟩ := own_cut (X153.interfaceBack hx (xi := yy68) (y := yy64) hown (own_mw hZ hw 312 rfl) (own_mw hZ hw 313 rfl) (own_mw hZ hw 314 rfl) (own_mw hZ hw 315 rfl) (own_mw hZ hw 316 rfl) (own_mw hZ hw 317 rfl) (own_mw hZ hw 318 rfl) (own_mw hZ hw 294 rfl) (by decide) (backOf (W := 1) (rmSZ2 l Z a0 hw (li1) (em) (a0p) (a1p) h143 n0 Zs143 mf155 mf157 mf156 mf158 l1n) hZ (own_w hw 319 rfl) (own_w hw 260 rfl) (by decide) (by decide)) q154a q154b q154c (g := (mkF m 30 #[rv bc1, rv bc2, iv (1 : Int32), rv a0p, rv b0p] [(.ref li1), (.int (1 : Int32))])) rfl (by rw [hml]; rfl) (Steps.refl _) (argsL := []) (rest := [(.int (1 : Int32))]) (lenOf pd_9 rfl) rfl (own_bl rfl) (hb hby d54_30) (fun _ _ => ⟨rfl, e153, own_bl rfl, own_bl rfl⟩))
        obtain ⟨rfl, Nq154, eq154⟩ := hQ154
        have N154 := Fr.app N143 Nq154
        refine own_sTH st154 ?_
        refine own_stH (fun _ kk_ => XS.icmpNo X154.here hx rfl (hb hby d54_35) rfl (XT.ii_ge_f (by decide)) (XS.aloadN X154.here hx rfl (hb hby d54_38) rfl rfl kk_)) ?_
        show gH T154 (mkF m 39 #[rv bc1, rv bc2, iv (1 : Int32), rv a0p, rv b0p] [(.ref bc1)])
        obtain ⟨T159, X159, e159, st159⟩ := getF X154 hx hZ hown (host := "") (Or.inl (own_w hw 296 rfl)) Via.refl eq154 mf152 (g := (mkF m 39 #[rv bc1, rv bc2, iv (1 : Int32), rv a0p, rv b0p] [(.ref bc1)])) rfl rfl (hb hby d54_39)
        refine own_stH st159 ?_
        refine own_stH (fun _ kk_ => XS.iloadN X159.here hx rfl (hb hby d54_42) rfl kk_) ?_
        show gH T159 (mkF m 43 #[rv bc1, rv bc2, iv (1 : Int32), rv a0p, rv b0p] [(.int (1 : Int32)), (.ref li1)])
        obtain ⟨cq160, kq160, q160a, q160b, q160c⟩ := isOf hZ e159 mf155
        obtain ⟨T160, L160, v160, X160, hQ160, st160⟩ := own_cut (X159.interfaceBack hx (xi := yy69) (y := yy65) hown (own_mw hZ hw 320 rfl) (own_mw hZ hw 321 rfl) (own_mw hZ hw 322 rfl) (own_mw hZ hw 323 rfl) (own_mw hZ hw 324 rfl) (own_mw hZ hw 325 rfl) (own_mw hZ hw 326 rfl) (own_mw hZ hw 294 rfl) (by decide) (backOf (W := 0) (rmGT1 l Z a0 hw (li1) (em) (a0p) (a1p) h143 n0 Zs143 mf155 mf157 mf156 mf158 l1n) hZ (own_w hw 327 rfl) (own_w hw 260 rfl) (by decide) (by decide)) q160a q160b q160c (g := (mkF m 43 #[rv bc1, rv bc2, iv (1 : Int32), rv a0p, rv b0p] [(.int (1 : Int32)), (.ref li1)])) rfl (by rw [hml]; rfl) (Steps.refl _) (argsL := [(.int (1 : Int32))]) (rest := []) (lenOf pd_37 rfl) rfl (own_bl rfl) (hb hby d54_43) (fun _ _ => ⟨rfl, e159, own_bl rfl, own_bl rfl⟩))
        obtain ⟨rfl, Nq160, eq160⟩ := hQ160
        have N160 := Fr.app N154 Nq160
        refine own_sTH st160 ?_
        have mf162 := p_20.keep MJ143_0
        obtain ⟨T161, X161, e161, st161⟩ := castY X160 hx hZ hown (own_w hw 328 rfl) eq160 (Ins.self mf162) (g := (mkF m 48 #[rv bc1, rv bc2, iv (1 : Int32), rv a0p, rv b0p] [(.ref a1p)])) rfl rfl (hb hby d54_48)
        refine own_stH st161 ?_
        refine own_stH (fun _ kk_ => XS.astoreN X161.here hx rfl (hb hby d54_51) rfl rfl (l' := #[rv bc1, rv bc2, iv (1 : Int32), rv a1p, rv b0p]) rfl (XS.aloadN X161.here hx rfl (hb hby d54_52) rfl rfl kk_)) ?_
        show gH T161 (mkF m 53 #[rv bc1, rv bc2, iv (1 : Int32), rv a1p, rv b0p] [(.ref bc2)])
        have mf163 := p_3.keep MJ143_0 nin0
        obtain ⟨T164, X164, e164, st164⟩ := getF X161 hx hZ hown (host := "") (Or.inl (own_w hw 296 rfl)) Via.refl e161 mf163 (g := (mkF m 53 #[rv bc1, rv bc2, iv (1 : Int32), rv a1p, rv b0p] [(.ref bc2)])) rfl rfl (hb hby d54_53)
        refine own_stH st164 ?_
        refine own_stH (fun _ kk_ => XS.iloadN X164.here hx rfl (hb hby d54_56) rfl kk_) ?_
        show gH T164 (mkF m 57 #[rv bc1, rv bc2, iv (1 : Int32), rv a1p, rv b0p] [(.int (1 : Int32)), (.ref li2)])
        have mf166 := l2a.keep MJ143_0
        have mf167 := l2b.keep MJ143_0 nin0
        have mf168 := l2c.keep MJ143_0 nin0
        obtain ⟨cq165, kq165, q165a, q165b, q165c⟩ := isOf hZ e164 mf166
        obtain ⟨T165, L165, v165, X165, hQ165, st165⟩ := own_cut (X164.interfaceBack hx (xi := yy69) (y := yy65) hown (own_mw hZ hw 320 rfl) (own_mw hZ hw 321 rfl) (own_mw hZ hw 322 rfl) (own_mw hZ hw 323 rfl) (own_mw hZ hw 324 rfl) (own_mw hZ hw 325 rfl) (own_mw hZ hw 326 rfl) (own_mw hZ hw 294 rfl) (by decide) (backOf (W := 0) (rmGT1 l Z a0 hw (li2) (em) (b0p) (b1p) h143 n0 Zs143 mf166 mf167 mf168 mf158 l2n) hZ (own_w hw 327 rfl) (own_w hw 260 rfl) (by decide) (by decide)) q165a q165b q165c (g := (mkF m 57 #[rv bc1, rv bc2, iv (1 : Int32), rv a1p, rv b0p] [(.int (1 : Int32)), (.ref li2)])) rfl (by rw [hml]; rfl) (Steps.refl _) (argsL := [(.int (1 : Int32))]) (rest := []) (lenOf pd_37 rfl) rfl (own_bl rfl) (hb hby d54_57) (fun _ _ => ⟨rfl, e164, own_bl rfl, own_bl rfl⟩))
        obtain ⟨rfl, Nq165, eq165⟩ := hQ165
        have N165 := Fr.app N160 Nq165
        refine own_sTH st165 ?_
        have mf170 := p_46.keep MJ143_0
        obtain ⟨T169, X169, e169, st169⟩ := castY X165 hx hZ hown (own_w hw 328 rfl) eq165 (Ins.self mf170) (g := (mkF m 62 #[rv bc1, rv bc2, iv (1 : Int32), rv a1p, rv b0p] [(.ref b1p)])) rfl rfl (hb hby d54_62)
        refine own_stH st169 ?_
        refine own_stH (fun _ kk_ => XS.astore X169.here hx rfl (hb hby d54_65) rfl rfl (l' := #[rv bc1, rv bc2, iv (1 : Int32), rv a1p, rv b1p]) rfl kk_) ?_
        show gH T169 (mkF m 67 #[rv bc1, rv bc2, iv (1 : Int32), rv a1p, rv b1p] [])
        exact J1 _ _ _ _ _ (X169.more (by decide) (by decide)) e169 N165 Zs143 hS143 Ks143 hZ hown C143 K143 MJ143_0 (by decide) JE
      show gH T142 (mkF m 25 #[rv bc1, rv bc2, iv (0 : Int32), oU, oU] [])
      refine own_stH (fun _ kk_ => XS.iloadN X142.here hx rfl (hb hby d54_25) rfl (XS.aloadN X142.here hx rfl (hb hby d54_26) rfl rfl kk_)) ?_
      show gH T142 (mkF m 27 #[rv bc1, rv bc2, iv (0 : Int32), oU, oU] [(.ref bc1), (.int (0 : Int32))])
      obtain ⟨T171, X171, e171, st171⟩ := getF X142 hx hZ hown (host := "") (Or.inl (own_w hw 296 rfl)) Via.refl eq142 p_1 (g := (mkF m 27 #[rv bc1, rv bc2, iv (0 : Int32), oU, oU] [(.ref bc1), (.int (0 : Int32))])) rfl rfl (hb hby d54_27)
      refine own_stH st171 ?_
      obtain ⟨cq172, kq172, q172a, q172b, q172c⟩ := isOf hZ e171 l1a
      obtain ⟨T172, L172, v172, X172, hQ172, st172⟩ := own_cut (X171.interfaceBack hx (xi := yy68) (y := yy64) hown (own_mw hZ hw 312 rfl) (own_mw hZ hw 313 rfl) (own_mw hZ hw 314 rfl) (own_mw hZ hw 315 rfl) (own_mw hZ hw 316 rfl) (own_mw hZ hw 317 rfl) (own_mw hZ hw 318 rfl) (own_mw hZ hw 294 rfl) (by decide) (backOf (W := 1) (rmSZ2 l Z a0 hw (li1) (em) (a0p) (a1p) h0 n0 Z0 l1a l1b l1e p_4 l1n) hZ (own_w hw 319 rfl) (own_w hw 260 rfl) (by decide) (by decide)) q172a q172b q172c (g := (mkF m 30 #[rv bc1, rv bc2, iv (0 : Int32), oU, oU] [(.ref li1), (.int (0 : Int32))])) rfl (by rw [hml]; rfl) (Steps.refl _) (argsL := []) (rest := [(.int (0 : Int32))]) (lenOf pd_9 rfl) rfl (own_bl rfl) (hb hby d54_30) (fun _ _ => ⟨rfl, e171, own_bl rfl, own_bl rfl⟩))
      obtain ⟨rfl, Nq172, eq172⟩ := hQ172
      have N172 := Fr.app N142 Nq172
      refine own_sTH st172 ?_
      refine own_stH (fun _ kk_ => XS.icmpNo X172.here hx rfl (hb hby d54_35) rfl (XT.ii_ge_f (by decide)) (XS.aloadN X172.here hx rfl (hb hby d54_38) rfl rfl kk_)) ?_
      show gH T172 (mkF m 39 #[rv bc1, rv bc2, iv (0 : Int32), oU, oU] [(.ref bc1)])
      obtain ⟨T173, X173, e173, st173⟩ := getF X172 hx hZ hown (host := "") (Or.inl (own_w hw 296 rfl)) Via.refl eq172 p_1 (g := (mkF m 39 #[rv bc1, rv bc2, iv (0 : Int32), oU, oU] [(.ref bc1)])) rfl rfl (hb hby d54_39)
      refine own_stH st173 ?_
      refine own_stH (fun _ kk_ => XS.iloadN X173.here hx rfl (hb hby d54_42) rfl kk_) ?_
      show gH T173 (mkF m 43 #[rv bc1, rv bc2, iv (0 : Int32), oU, oU] [(.int (0 : Int32)), (.ref li1)])
      obtain ⟨cq174, kq174, q174a, q174b, q174c⟩ := isOf hZ e173 l1a
      obtain ⟨T174, L174, v174, X174, hQ174, st174⟩ := own_cut (X173.interfaceBack hx (xi := yy69) (y := yy65) hown (own_mw hZ hw 320 rfl) (own_mw hZ hw 321 rfl) (own_mw hZ hw 322 rfl) (own_mw hZ hw 323 rfl) (own_mw hZ hw 324 rfl) (own_mw hZ hw 325 rfl) (own_mw hZ hw 326 rfl) (own_mw hZ hw 294 rfl) (by decide) (backOf (W := 0) (rmGT0 l Z a0 hw (li1) (a0p) (a1p) h0 n0 Z0 l1a l1b l1e) hZ (own_w hw 327 rfl) (own_w hw 260 rfl) (by decide) (by decide)) q174a q174b q174c (g := (mkF m 43 #[rv bc1, rv bc2, iv (0 : Int32), oU, oU] [(.int (0 : Int32)), (.ref li1)])) rfl (by rw [hml]; rfl) (Steps.refl _) (argsL := [(.int (0 : Int32))]) (rest := []) (lenOf pd_37 rfl) rfl (own_bl rfl) (hb hby d54_43) (fun _ _ => ⟨rfl, e173, own_bl rfl, own_bl rfl⟩))
      obtain ⟨rfl, Nq174, eq174⟩ := hQ174
      have N174 := Fr.app N172 Nq174
      refine own_sTH st174 ?_
      obtain ⟨T175, X175, e175, st175⟩ := castY X174 hx hZ hown (own_w hw 328 rfl) eq174 (Ins.self p_7) (g := (mkF m 48 #[rv bc1, rv bc2, iv (0 : Int32), oU, oU] [(.ref a0p)])) rfl rfl (hb hby d54_48)
      refine own_stH st175 ?_
      refine own_stH (fun _ kk_ => XS.astoreN X175.here hx rfl (hb hby d54_51) rfl rfl (l' := #[rv bc1, rv bc2, iv (0 : Int32), rv a0p, oU]) rfl (XS.aloadN X175.here hx rfl (hb hby d54_52) rfl rfl kk_)) ?_
      show gH T175 (mkF m 53 #[rv bc1, rv bc2, iv (0 : Int32), rv a0p, oU] [(.ref bc2)])
      obtain ⟨T176, X176, e176, st176⟩ := getF X175 hx hZ hown (host := "") (Or.inl (own_w hw 296 rfl)) Via.refl e175 p_3 (g := (mkF m 53 #[rv bc1, rv bc2, iv (0 : Int32), rv a0p, oU] [(.ref bc2)])) rfl rfl (hb hby d54_53)
      refine own_stH st176 ?_
      refine own_stH (fun _ kk_ => XS.iloadN X176.here hx rfl (hb hby d54_56) rfl kk_) ?_
      show gH T176 (mkF m 57 #[rv bc1, rv bc2, iv (0 : Int32), rv a0p, oU] [(.int (0 : Int32)), (.ref li2)])
      obtain ⟨cq177, kq177, q177a, q177b, q177c⟩ := isOf hZ e176 l2a
      obtain ⟨T177, L177, v177, X177, hQ177, st177⟩ := own_cut (X176.interfaceBack hx (xi := yy69) (y := yy65) hown (own_mw hZ hw 320 rfl) (own_mw hZ hw 321 rfl) (own_mw hZ hw 322 rfl) (own_mw hZ hw 323 rfl) (own_mw hZ hw 324 rfl) (own_mw hZ hw 325 rfl) (own_mw hZ hw 326 rfl) (own_mw hZ hw 294 rfl) (by decide) (backOf (W := 0) (rmGT0 l Z a0 hw (li2) (b0p) (b1p) h0 n0 Z0 l2a l2b l2c) hZ (own_w hw 327 rfl) (own_w hw 260 rfl) (by decide) (by decide)) q177a q177b q177c (g := (mkF m 57 #[rv bc1, rv bc2, iv (0 : Int32), rv a0p, oU] [(.int (0 : Int32)), (.ref li2)])) rfl (by rw [hml]; rfl) (Steps.refl _) (argsL := [(.int (0 : Int32))]) (rest := []) (lenOf pd_37 rfl) rfl (own_bl rfl) (hb hby d54_57) (fun _ _ => ⟨rfl, e176, own_bl rfl, own_bl rfl⟩))
      obtain ⟨rfl, Nq177, eq177⟩ := hQ177
      have N177 := Fr.app N174 Nq177
      refine own_sTH st177 ?_
      obtain ⟨T178, X178, e178, st178⟩ := castY X177 hx hZ hown (own_w hw 328 rfl) eq177 (Ins.self p_33) (g := (mkF m 62 #[rv bc1, rv bc2, iv (0 : Int32), rv a0p, oU] [(.ref b0p)])) rfl rfl (hb hby d54_62)
      refine own_stH st178 ?_
      refine own_stH (fun _ kk_ => XS.astore X178.here hx rfl (hb hby d54_65) rfl rfl (l' := #[rv bc1, rv bc2, iv (0 : Int32), rv a0p, rv b0p]) rfl kk_) ?_
      show gH T178 (mkF m 67 #[rv bc1, rv bc2, iv (0 : Int32), rv a0p, rv b0p] [])
      exact J0 _ _ _ _ _ (X178.more (by decide) (by decide)) e178 N177 Z0 hS0 Z0 hZ hown C0 (Keep.refl h0 []) (Keep.refl h0 []) JM
    · show gH s₁ (mkF m 0 #[rv bc1, rv bc2, oU, oU, oU] [])
      refine own_stH (fun _ kk_ => XS.aloadN X0.here hx rfl (hb hby d54_0) rfl rfl kk_) ?_
      show gH s₁ (mkF m 1 #[rv bc1, rv bc2, oU, oU, oU] [(.ref bc2)])
      obtain ⟨T179, X179, e179, st179⟩ := getF X0 hx hZ hown (host := "") (Or.inl (own_w hw 296 rfl)) Via.refl e0 p_3 (g := (mkF m 1 #[rv bc1, rv bc2, oU, oU, oU] [(.ref bc2)])) rfl rfl (hb hby d54_1)
      refine own_stH st179 ?_
      obtain ⟨cq180, kq180, q180a, q180b, q180c⟩ := isOf hZ e179 l2a
      obtain ⟨T180, L180, v180, X180, hQ180, st180⟩ := own_cut (X179.interfaceBack hx (xi := yy68) (y := yy66) hown (own_mw hZ hw 312 rfl) (own_mw hZ hw 313 rfl) (own_mw hZ hw 314 rfl) (own_mw hZ hw 377 rfl) (own_mw hZ hw 378 rfl) (own_mw hZ hw 379 rfl) (own_mw hZ hw 380 rfl) (own_mw hZ hw 375 rfl) (by decide) (backOf (W := 0) (rm66 l Z a0 hw (li2) (d3) (k3) (b0p) (b1p) (b2p) h0 n0 Z0 l2a l2b l2c) hZ (own_w hw 381 rfl) (own_w hw 358 rfl) (by decide) (by decide)) q180a q180b q180c (g := (mkF m 4 #[rv bc1, rv bc2, oU, oU, oU] [(.ref li2)])) rfl (by rw [hml]; rfl) (Steps.refl _) (argsL := []) (rest := []) (lenOf pd_9 rfl) rfl (own_bl rfl) (hb hby d54_4) (fun _ _ => ⟨rfl, e179, own_bl rfl, own_bl rfl⟩))
      obtain ⟨rfl, Nq180, eq180⟩ := hQ180
      have N180 := Fr.app N0 Nq180
      refine own_sTH st180 ?_
      refine own_stH (fun _ kk_ => XS.aloadN X180.here hx rfl (hb hby d54_9) rfl rfl kk_) ?_
      show gH T180 (mkF m 10 #[rv bc1, rv bc2, oU, oU, oU] [(.ref bc1), (.int (3 : Int32))])
      obtain ⟨T181, X181, e181, st181⟩ := getF X180 hx hZ hown (host := "") (Or.inl (own_w hw 296 rfl)) Via.refl eq180 p_1 (g := (mkF m 10 #[rv bc1, rv bc2, oU, oU, oU] [(.ref bc1), (.int (3 : Int32))])) rfl rfl (hb hby d54_10)
      refine own_stH st181 ?_
      obtain ⟨cq182, kq182, q182a, q182b, q182c⟩ := isOf hZ e181 l1a
      obtain ⟨T182, L182, v182, X182, hQ182, st182⟩ := own_cut (X181.interfaceBack hx (xi := yy68) (y := yy64) hown (own_mw hZ hw 312 rfl) (own_mw hZ hw 313 rfl) (own_mw hZ hw 314 rfl) (own_mw hZ hw 315 rfl) (own_mw hZ hw 316 rfl) (own_mw hZ hw 317 rfl) (own_mw hZ hw 318 rfl) (own_mw hZ hw 294 rfl) (by decide) (backOf (W := 1) (rmSZ2 l Z a0 hw (li1) (em) (a0p) (a1p) h0 n0 Z0 l1a l1b l1e p_4 l1n) hZ (own_w hw 319 rfl) (own_w hw 260 rfl) (by decide) (by decide)) q182a q182b q182c (g := (mkF m 13 #[rv bc1, rv bc2, oU, oU, oU] [(.ref li1), (.int (3 : Int32))])) rfl (by rw [hml]; rfl) (Steps.refl _) (argsL := []) (rest := [(.int (3 : Int32))]) (lenOf pd_9 rfl) rfl (own_bl rfl) (hb hby d54_13) (fun _ _ => ⟨rfl, e181, own_bl rfl, own_bl rfl⟩))
      obtain ⟨rfl, Nq182, eq182⟩ := hQ182
      have N182 := Fr.app N180 Nq182
      refine own_sTH st182 ?_
      refine own_stH (fun _ kk_ => XS.icmpYes X182.here hx rfl (pc0 := 18) (pc' := 23) rfl (hb hby d54_18) rfl (XT.ii_ge_t (by decide)) (by decide) (by decide) (XS.iconst X182.here hx rfl (hb hby d54_23) (XS.istoreN X182.here hx rfl (hb hby d54_24) rfl (l' := #[rv bc1, rv bc2, iv (0 : Int32), oU, oU]) rfl kk_))) ?_
      show gH T182 (mkF m 25 #[rv bc1, rv bc2, iv (0 : Int32), oU, oU] [])
      have JM : ∀ (T183 : State) (L183 : List Loc) (h183 : Heap) (vm183 : Vm) (k183 : Nat), Stand p l e rRrm54 (s.setVm vm183) m #[(.ref bc1), (.ref bc2)] below meth c T183 L183 4 16 → T183.heap = h183 → Fr n0 L183 → n0 ≤ h183.size → s.Since vm183 k183 → k183 ≤ h183.size → Z.Warmed39 (s.setVm vm183).vm → (s.setVm vm183).vm.findClass "com/example/firm_duties/firmduties/BusinessContext" = some m.cls → CHr Z consts_1 s.vm h0 vm183 h183 → Keep h0 h183 [] → Keep h0 h183 [] → own_q a0tu a0vu b0tu b0vu → own_GoesH p e below s Z consts_1 (Q54 Z (2 : Int32) (3 : Int32) a0tu a0vu a1tu a1vu b0tu b0vu b1tu b1vu h0 n0) rRrm54.cells rRrm54.slots T183 (mkF m 125 #[rv bc1, rv bc2, iv (0 : Int32), rv a0p, rv b0p] []) := by
        intro T183 L183 h183 vm183 k183 X183 e183 N183 Zs183 hS183 Ks183 hZ hown C183 K183 MJ183_0 j183_0
        have JE : ∀ (T184 : State) (L184 : List Loc) (h184 : Heap) (vm184 : Vm) (k184 : Nat), Stand p l e rRrm54 (s.setVm vm184) m #[(.ref bc1), (.ref bc2)] below meth c T184 L184 8 32 → T184.heap = h184 → Fr n0 L184 → n0 ≤ h184.size → s.Since vm184 k184 → k184 ≤ h184.size → Z.Warmed39 (s.setVm vm184).vm → (s.setVm vm184).vm.findClass "com/example/firm_duties/firmduties/BusinessContext" = some m.cls → CHr Z consts_1 s.vm h0 vm184 h184 → Keep h0 h184 [] → Keep h0 h184 [] → own_q a1tu a1vu b1tu b1vu → own_GoesH p e below s Z consts_1 (Q54 Z (2 : Int32) (3 : Int32) a0tu a0vu a1tu a1vu b0tu b0vu b1tu b1vu h0 n0) rRrm54.cells rRrm54.slots T184 (mkF m 125 #[rv bc1, rv bc2, iv (1 : Int32), rv a1p, rv b1p] []) := by
          intro T184 L184 h184 vm184 k184 X184 e184 N184 Zs184 hS184 Ks184 hZ hown C184 K184 MJ184_0 j184_0
          show gH T184 (mkF m 125 #[rv bc1, rv bc2, iv (1 : Int32), rv a1p, rv b1p] [])
          refine own_stH (fun _ kk_ => XS.iinc X184.here hx rfl (hb hby d54_125) rfl (l' := #[rv bc1, rv bc2, iv (2 : Int32), rv a1p, rv b1p]) rfl (XS.goto X184.here hx rfl (pc0 := 128) (pc' := 25) rfl (hb hby d54_128) (by decide) (by decide) (XS.iloadN X184.here hx rfl (hb hby d54_25) rfl (XS.aloadN X184.here hx rfl (hb hby d54_26) rfl rfl kk_)))) ?_
          show gH T184 (mkF m 27 #[rv bc1, rv bc2, iv (2 : Int32), rv a1p, rv b1p] [(.ref bc1), (.int (2 : Int32))])
          have mf185 := p_1.keep MJ184_0 nin0
          obtain ⟨T186, X186, e186, st186⟩ := getF X184 hx hZ hown (host := "") (Or.inl (own_w hw 296 rfl)) Via.refl e184 mf185 (g := (mkF m 27 #[rv bc1, rv bc2, iv (2 : Int32), rv a1p, rv b1p] [(.ref bc1), (.int (2 : Int32))])) rfl rfl (hb hby d54_27)
          refine own_stH st186 ?_
          have mf188 := l1a.keep MJ184_0
          have mf189 := l1e.keep MJ184_0 nin0
          have mf190 := l1b.keep MJ184_0 nin0
          have mf191 := own_Sta_keep p_4 MJ184_0 ns0
          obtain ⟨cq187, kq187, q187a, q187b, q187c⟩ := isOf hZ e186 mf188
          obtain ⟨T187, L187, v187, X187, hQ187, st187⟩ := own_cut (X186.interfaceBack hx (xi := yy68) (y := yy64) hown (own_mw hZ hw 312 rfl) (own_mw hZ hw 313 rfl) (own_mw hZ hw 314 rfl) (own_mw hZ hw 315 rfl) (own_mw hZ hw 316 rfl) (own_mw hZ hw 317 rfl) (own_mw hZ hw 318 rfl) (own_mw hZ hw 294 rfl) (by decide) (backOf (W := 1) (rmSZ2 l Z a0 hw (li1) (em) (a0p) (a1p) h184 n0 Zs184 mf188 mf190 mf189 mf191 l1n) hZ (own_w hw 319 rfl) (own_w hw 260 rfl) (by decide) (by decide)) q187a q187b q187c (g := (mkF m 30 #[rv bc1, rv bc2, iv (2 : Int32), rv a1p, rv b1p] [(.ref li1), (.int (2 : Int32))])) rfl (by rw [hml]; rfl) (Steps.refl _) (argsL := []) (rest := [(.int (2 : Int32))]) (lenOf pd_9 rfl) rfl (own_bl rfl) (hb hby d54_30) (fun _ _ => ⟨rfl, e186, own_bl rfl, own_bl rfl⟩))
          obtain ⟨rfl, Nq187, eq187⟩ := hQ187
          have N187 := Fr.app N184 Nq187
          refine own_sTH st187 ?_
          refine own_stH (fun _ kk_ => XS.icmpYes X187.here hx rfl (pc0 := 35) (pc' := 131) rfl (hb hby d54_35) rfl (XT.ii_ge_t (by decide)) (by decide) (by decide) (XS.iconst X187.here hx rfl (hb hby d54_131) kk_)) ?_
          show gH T187 (mkF m 132 #[rv bc1, rv bc2, iv (2 : Int32), rv a1p, rv b1p] [(.int (1 : Int32))])
          refine own_endH (v := (some (.int (nar .boolean (1 : Int32))))) X187 hlk hS184 (by rw [eq187]; exact Ks184) hZ hEL hh eq187 C184 (fun h => by rw [Bd.returns] at h; cases h) (by decide) (by decide) ?_ (fun fs hr => retN X187 hx (t := .boolean) Bd.returns (by simp) (hb hby d54_132) hr)
          show Q54 Z (2 : Int32) (3 : Int32) a0tu a0vu a1tu a1vu b0tu b0vu b1tu b1vu h0 n0 (some (.int (nar .boolean (1 : Int32)))) T187.heap _
          rw [eq187]
          exact ⟨by exact own_bt ⟨by decide, j183_0, Or.inr j184_0⟩, N187, K184⟩
        show gH T183 (mkF m 125 #[rv bc1, rv bc2, iv (0 : Int32), rv a0p, rv b0p] [])
        refine own_stH (fun _ kk_ => XS.iinc X183.here hx rfl (hb hby d54_125) rfl (l' := #[rv bc1, rv bc2, iv (1 : Int32), rv a0p, rv b0p]) rfl (XS.goto X183.here hx rfl (pc0 := 128) (pc' := 25) rfl (hb hby d54_128) (by decide) (by decide) (XS.iloadN X183.here hx rfl (hb hby d54_25) rfl (XS.aloadN X183.here hx rfl (hb hby d54_26) rfl rfl kk_)))) ?_
        show gH T183 (mkF m 27 #[rv bc1, rv bc2, iv (1 : Int32), rv a0p, rv b0p] [(.ref bc1), (.int (1 : Int32))])
        have mf192 := p_1.keep MJ183_0 nin0
        obtain ⟨T193, X193, e193, st193⟩ := getF X183 hx hZ hown (host := "") (Or.inl (own_w hw 296 rfl)) Via.refl e183 mf192 (g := (mkF m 27 #[rv bc1, rv bc2, iv (1 : Int32), rv a0p, rv b0p] [(.ref bc1), (.int (1 : Int32))])) rfl rfl (hb hby d54_27)
        refine own_stH st193 ?_
        have mf195 := l1a.keep MJ183_0
        have mf196 := l1e.keep MJ183_0 nin0
        have mf197 := l1b.keep MJ183_0 nin0
        have mf198 := own_Sta_keep p_4 MJ183_0 ns0
        obtain ⟨cq194, kq194, q194a, q194b, q194c⟩ := isOf hZ e193 mf195
        obtain ⟨T194, L194, v194, X194, hQ194, st194⟩ := own_cut (X193.interfaceBack hx (xi := yy68) (y := yy64) hown (own_mw hZ hw 312 rfl) (own_mw hZ hw 313 rfl) (own_mw hZ hw 314 rfl) (own_mw hZ hw 315 rfl) (own_mw hZ hw 316 rfl) (own_mw hZ hw 317 rfl) (own_mw hZ hw 318 rfl) (own_mw hZ hw 294 rfl) (by decide) (backOf (W := 1) (rmSZ2 l Z a0 hw (li1) (em) (a0p) (a1p) h183 n0 Zs183 mf195 mf197 mf196 mf198 l1n) hZ (own_w hw 319 rfl) (own_w hw 260 rfl) (by decide) (by decide)) q194a q194b q194c (g := (mkF m 30 #[rv bc1, rv bc2, iv (1 : Int32), rv a0p, rv b0p] [(.ref li1), (.int (1 : Int32))])) rfl (by rw [hml]; rfl) (Steps.refl _) (argsL := []) (rest := [(.int (1 : Int32))]) (lenOf pd_9 rfl) rfl (own_bl rfl) (hb hby d54_30) (fun _ _ => ⟨rfl, e193, own_bl rfl, own_bl rfl⟩))
        obtain ⟨rfl, Nq194, eq194⟩ := hQ194
        have N194 := Fr.app N183 Nq194
        refine own_sTH st194 ?_
        refine own_stH (fun _ kk_ => XS.icmpNo X194.here hx rfl (hb hby d54_35) rfl (XT.ii_ge_f (by decide)) (XS.aloadN X194.here hx rfl (hb hby d54_38) rfl rfl kk_)) ?_
        show gH T194 (mkF m 39 #[rv bc1, rv bc2, iv (1 : Int32), rv a0p, rv b0p] [(.ref bc1)])
        obtain ⟨T199, X199, e199, st199⟩ := getF X194 hx hZ hown (host := "") (Or.inl (own_w hw 296 rfl)) Via.refl eq194 mf192 (g := (mkF m 39 #[rv bc1, rv bc2, iv (1 : Int32), rv a0p, rv b0p] [(.ref bc1)])) rfl rfl (hb hby d54_39)
        refine own_stH st199 ?_
        refine own_stH (fun _ kk_ => XS.iloadN X199.here hx rfl (hb hby d54_42) rfl kk_) ?_
        show gH T199 (mkF m 43 #[rv bc1, rv bc2, iv (1 : Int32), rv a0p, rv b0p] [(.int (1 : Int32)), (.ref li1)])
        obtain ⟨cq200, kq200, q200a, q200b, q200c⟩ := isOf hZ e199 mf195
        obtain ⟨T200, L200, v200, X200, hQ200, st200⟩ := own_cut (X199.interfaceBack hx (xi := yy69) (y := yy65) hown (own_mw hZ hw 320 rfl) (own_mw hZ hw 321 rfl) (own_mw hZ hw 322 rfl) (own_mw hZ hw 323 rfl) (own_mw hZ hw 324 rfl) (own_mw hZ hw 325 rfl) (own_mw hZ hw 326 rfl) (own_mw hZ hw 294 rfl) (by decide) (backOf (W := 0) (rmGT1 l Z a0 hw (li1) (em) (a0p) (a1p) h183 n0 Zs183 mf195 mf197 mf196 mf198 l1n) hZ (own_w hw 327 rfl) (own_w hw 260 rfl) (by decide) (by decide)) q200a q200b q200c (g := (mkF m 43 #[rv bc1, rv bc2, iv (1 : Int32), rv a0p, rv b0p] [(.int (1 : Int32)), (.ref li1)])) rfl (by rw [hml]; rfl) (Steps.refl _) (argsL := [(.int (1 : Int32))]) (rest := []) (lenOf pd_37 rfl) rfl (own_bl rfl) (hb hby d54_43) (fun _ _ => ⟨rfl, e199, own_bl rfl, own_bl rfl⟩))
        obtain ⟨rfl, Nq200, eq200⟩ := hQ200
        have N200 := Fr.app N194 Nq200
        refine own_sTH st200 ?_
        have mf202 := p_20.keep MJ183_0
        obtain ⟨T201, X201, e201, st201⟩ := castY X200 hx hZ hown (own_w hw 328 rfl) eq200 (Ins.self mf202) (g := (mkF m 48 #[rv bc1, rv bc2, iv (1 : Int32), rv a0p, rv b0p] [(.ref a1p)])) rfl rfl (hb hby d54_48)
        refine own_stH st201 ?_
        refine own_stH (fun _ kk_ => XS.astoreN X201.here hx rfl (hb hby d54_51) rfl rfl (l' := #[rv bc1, rv bc2, iv (1 : Int32), rv a1p, rv b0p]) rfl (XS.aloadN X201.here hx rfl (hb hby d54_52) rfl rfl kk_)) ?_
        show gH T201 (mkF m 53 #[rv bc1, rv bc2, iv (1 : Int32), rv a1p, rv b0p] [(.ref bc2)])
        have mf203 := p_3.keep MJ183_0 nin0
        obtain ⟨T204, X204, e204, st204⟩ := getF X201 hx hZ hown (host := "") (Or.inl (own_w hw 296 rfl)) Via.refl e201 mf203 (g := (mkF m 53 #[rv bc1, rv bc2, iv (1 : Int32), rv a1p, rv b0p] [(.ref bc2)])) rfl rfl (hb hby d54_53)
        refine own_stH st204 ?_
        refine own_stH (fun _ kk_ => XS.iloadN X204.here hx rfl (hb hby d54_56) rfl kk_) ?_
        show gH T204 (mkF m 57 #[rv bc1, rv bc2, iv (1 : Int32), rv a1p, rv b0p] [(.int (1 : Int32)), (.ref li2)])
        have mf206 := l2a.keep MJ183_0
        have mf207 := l2b.keep MJ183_0 nin0
        have mf208 := l2c.keep MJ183_0 nin0
        obtain ⟨cq205, kq205, q205a, q205b, q205c⟩ := isOf hZ e204 mf206
        obtain ⟨T205, L205, v205, X205, hQ205, st205⟩ := own_cut (X204.interfaceBack hx (xi := yy69) (y := yy67) hown (own_mw hZ hw 320 rfl) (own_mw hZ hw 321 rfl) (own_mw hZ hw 322 rfl) (own_mw hZ hw 382 rfl) (own_mw hZ hw 383 rfl) (own_mw hZ hw 384 rfl) (own_mw hZ hw 385 rfl) (own_mw hZ hw 375 rfl) (by decide) (backOf (W := 0) (rmNG1 l Z a0 hw (li2) (d3) (k3) (b0p) (b1p) (b2p) h183 n0 Zs183 mf206 mf207 mf208) hZ (own_w hw 386 rfl) (own_w hw 358 rfl) (by decide) (by decide)) q205a q205b q205c (g := (mkF m 57 #[rv bc1, rv bc2, iv (1 : Int32), rv a1p, rv b0p] [(.int (1 : Int32)), (.ref li2)])) rfl (by rw [hml]; rfl) (Steps.refl _) (argsL := [(.int (1 : Int32))]) (rest := []) (lenOf pd_37 rfl) rfl (own_bl rfl) (hb hby d54_57) (fun _ _ => ⟨rfl, e204, own_bl rfl, own_bl rfl⟩))
        obtain ⟨rfl, Nq205, eq205⟩ := hQ205
        have N205 := Fr.app N200 Nq205
        refine own_sTH st205 ?_
        have mf210 := p_46.keep MJ183_0
        obtain ⟨T209, X209, e209, st209⟩ := castY X205 hx hZ hown (own_w hw 328 rfl) eq205 (Ins.self mf210) (g := (mkF m 62 #[rv bc1, rv bc2, iv (1 : Int32), rv a1p, rv b0p] [(.ref b1p)])) rfl rfl (hb hby d54_62)
        refine own_stH st209 ?_
        refine own_stH (fun _ kk_ => XS.astore X209.here hx rfl (hb hby d54_65) rfl rfl (l' := #[rv bc1, rv bc2, iv (1 : Int32), rv a1p, rv b1p]) rfl kk_) ?_
        show gH T209 (mkF m 67 #[rv bc1, rv bc2, iv (1 : Int32), rv a1p, rv b1p] [])
        exact J1 _ _ _ _ _ (X209.more (by decide) (by decide)) e209 N205 Zs183 hS183 Ks183 hZ hown C183 K183 MJ183_0 (by decide) JE
      show gH T182 (mkF m 25 #[rv bc1, rv bc2, iv (0 : Int32), oU, oU] [])
      refine own_stH (fun _ kk_ => XS.iloadN X182.here hx rfl (hb hby d54_25) rfl (XS.aloadN X182.here hx rfl (hb hby d54_26) rfl rfl kk_)) ?_
      show gH T182 (mkF m 27 #[rv bc1, rv bc2, iv (0 : Int32), oU, oU] [(.ref bc1), (.int (0 : Int32))])
      obtain ⟨T211, X211, e211, st211⟩ := getF X182 hx hZ hown (host := "") (Or.inl (own_w hw 296 rfl)) Via.refl eq182 p_1 (g := (mkF m 27 #[rv bc1, rv bc2, iv (0 : Int32), oU, oU] [(.ref bc1), (.int (0 : Int32))])) rfl rfl (hb hby d54_27)
      refine own_stH st211 ?_
      obtain ⟨cq212, kq212, q212a, q212b, q212c⟩ := isOf hZ e211 l1a
      obtain ⟨T212, L212, v212, X212, hQ212, st212⟩ := own_cut (X211.interfaceBack hx (xi := yy68) (y := yy64) hown (own_mw hZ hw 312 rfl) (own_mw hZ hw 313 rfl) (own_mw hZ hw 314 rfl) (own_mw hZ hw 315 rfl) (own_mw hZ hw 316 rfl) (own_mw hZ hw 317 rfl) (own_mw hZ hw 318 rfl) (own_mw hZ hw 294 rfl) (by decide) (backOf (W := 1) (rmSZ2 l Z a0 hw (li1) (em) (a0p) (a1p) h0 n0 Z0 l1a l1b l1e p_4 l1n) hZ (own_w hw 319 rfl) (own_w hw 260 rfl) (by decide) (by decide)) q212a q212b q212c (g := (mkF m 30 #[rv bc1, rv bc2, iv (0 : Int32), oU, oU] [(.ref li1), (.int (0 : Int32))])) rfl (by rw [hml]; rfl) (Steps.refl _) (argsL := []) (rest := [(.int (0 : Int32))]) (lenOf pd_9 rfl) rfl (own_bl rfl) (hb hby d54_30) (fun _ _ => ⟨rfl, e211, own_bl rfl, own_bl rfl⟩))
      obtain ⟨rfl, Nq212, eq212⟩ := hQ212
      have N212 := Fr.app N182 Nq212
      refine own_sTH st212 ?_
      refine own_stH (fun _ kk_ => XS.icmpNo X212.here hx rfl (hb hby d54_35) rfl (XT.ii_ge_f (by decide)) (XS.aloadN X212.here hx rfl (hb hby d54_38) rfl rfl kk_)) ?_
      show gH T212 (mkF m 39 #[rv bc1, rv bc2, iv (0 : Int32), oU, oU] [(.ref bc1)])
      obtain ⟨T213, X213, e213, st213⟩ := getF X212 hx hZ hown (host := "") (Or.inl (own_w hw 296 rfl)) Via.refl eq212 p_1 (g := (mkF m 39 #[rv bc1, rv bc2, iv (0 : Int32), oU, oU] [(.ref bc1)])) rfl rfl (hb hby d54_39)
      refine own_stH st213 ?_
      refine own_stH (fun _ kk_ => XS.iloadN X213.here hx rfl (hb hby d54_42) rfl kk_) ?_
      show gH T213 (mkF m 43 #[rv bc1, rv bc2, iv (0 : Int32), oU, oU] [(.int (0 : Int32)), (.ref li1)])
      obtain ⟨cq214, kq214, q214a, q214b, q214c⟩ := isOf hZ e213 l1a
      obtain ⟨T214, L214, v214, X214, hQ214, st214⟩ := own_cut (X213.interfaceBack hx (xi := yy69) (y := yy65) hown (own_mw hZ hw 320 rfl) (own_mw hZ hw 321 rfl) (own_mw hZ hw 322 rfl) (own_mw hZ hw 323 rfl) (own_mw hZ hw 324 rfl) (own_mw hZ hw 325 rfl) (own_mw hZ hw 326 rfl) (own_mw hZ hw 294 rfl) (by decide) (backOf (W := 0) (rmGT0 l Z a0 hw (li1) (a0p) (a1p) h0 n0 Z0 l1a l1b l1e) hZ (own_w hw 327 rfl) (own_w hw 260 rfl) (by decide) (by decide)) q214a q214b q214c (g := (mkF m 43 #[rv bc1, rv bc2, iv (0 : Int32), oU, oU] [(.int (0 : Int32)), (.ref li1)])) rfl (by rw [hml]; rfl) (Steps.refl _) (argsL := [(.int (0 : Int32))]) (rest := []) (lenOf pd_37 rfl) rfl (own_bl rfl) (hb hby d54_43) (fun _ _ => ⟨rfl, e213, own_bl rfl, own_bl rfl⟩))
      obtain ⟨rfl, Nq214, eq214⟩ := hQ214
      have N214 := Fr.app N212 Nq214
      refine own_sTH st214 ?_
      obtain ⟨T215, X215, e215, st215⟩ := castY X214 hx hZ hown (own_w hw 328 rfl) eq214 (Ins.self p_7) (g := (mkF m 48 #[rv bc1, rv bc2, iv (0 : Int32), oU, oU] [(.ref a0p)])) rfl rfl (hb hby d54_48)
      refine own_stH st215 ?_
      refine own_stH (fun _ kk_ => XS.astoreN X215.here hx rfl (hb hby d54_51) rfl rfl (l' := #[rv bc1, rv bc2, iv (0 : Int32), rv a0p, oU]) rfl (XS.aloadN X215.here hx rfl (hb hby d54_52) rfl rfl kk_)) ?_
      show gH T215 (mkF m 53 #[rv bc1, rv bc2, iv (0 : Int32), rv a0p, oU] [(.ref bc2)])
      obtain ⟨T216, X216, e216, st216⟩ := getF X215 hx hZ hown (host := "") (Or.inl (own_w hw 296 rfl)) Via.refl e215 p_3 (g := (mkF m 53 #[rv bc1, rv bc2, iv (0 : Int32), rv a0p, oU] [(.ref bc2)])) rfl rfl (hb hby d54_53)
      refine own_stH st216 ?_
      refine own_stH (fun _ kk_ => XS.iloadN X216.here hx rfl (hb hby d54_56) rfl kk_) ?_
      show gH T216 (mkF m 57 #[rv bc1, rv bc2, iv (0 : Int32), rv a0p, oU] [(.int (0 : Int32)), (.ref li2)])
      obtain ⟨cq217, kq217, q217a, q217b, q217c⟩ := isOf hZ e216 l2a
      obtain ⟨T217, L217, v217, X217, hQ217, st217⟩ := own_cut (X216.interfaceBack hx (xi := yy69) (y := yy67) hown (own_mw hZ hw 320 rfl) (own_mw hZ hw 321 rfl) (own_mw hZ hw 322 rfl) (own_mw hZ hw 382 rfl) (own_mw hZ hw 383 rfl) (own_mw hZ hw 384 rfl) (own_mw hZ hw 385 rfl) (own_mw hZ hw 375 rfl) (by decide) (backOf (W := 0) (rmNG0 l Z a0 hw (li2) (d3) (k3) (b0p) (b1p) (b2p) h0 n0 Z0 l2a l2b l2c) hZ (own_w hw 386 rfl) (own_w hw 358 rfl) (by decide) (by decide)) q217a q217b q217c (g := (mkF m 57 #[rv bc1, rv bc2, iv (0 : Int32), rv a0p, oU] [(.int (0 : Int32)), (.ref li2)])) rfl (by rw [hml]; rfl) (Steps.refl _) (argsL := [(.int (0 : Int32))]) (rest := []) (lenOf pd_37 rfl) rfl (own_bl rfl) (hb hby d54_57) (fun _ _ => ⟨rfl, e216, own_bl rfl, own_bl rfl⟩))
      obtain ⟨rfl, Nq217, eq217⟩ := hQ217
      have N217 := Fr.app N214 Nq217
      refine own_sTH st217 ?_
      obtain ⟨T218, X218, e218, st218⟩ := castY X217 hx hZ hown (own_w hw 328 rfl) eq217 (Ins.self p_33) (g := (mkF m 62 #[rv bc1, rv bc2, iv (0 : Int32), rv a0p, oU] [(.ref b0p)])) rfl rfl (hb hby d54_62)
      refine own_stH st218 ?_
      refine own_stH (fun _ kk_ => XS.astore X218.here hx rfl (hb hby d54_65) rfl rfl (l' := #[rv bc1, rv bc2, iv (0 : Int32), rv a0p, rv b0p]) rfl kk_) ?_
      show gH T218 (mkF m 67 #[rv bc1, rv bc2, iv (0 : Int32), rv a0p, rv b0p] [])
      exact J0 _ _ _ _ _ (X218.more (by decide) (by decide)) e218 N217 Z0 hS0 Z0 hZ hown C0 (Keep.refl h0 []) (Keep.refl h0 []) JM
  · exact absurd l1z hn3
theorem own_np (x : Int32) : (x &&& (1 : Int32)) + (1 : Int32) = 1 ∨ (x &&& (1 : Int32)) + (1 : Int32) = 2 := by
  rcases and_one x with h | h <;> rw [h] <;> decide
theorem own_ni (x : Int32) : ((x &&& (3 : Int32)) % (3 : Int32)) + (1 : Int32) = 1 ∨ ((x &&& (3 : Int32)) % (3 : Int32)) + (1 : Int32) = 2 ∨ ((x &&& (3 : Int32)) % (3 : Int32)) + (1 : Int32) = 3 := by
  rcases own_4 x with h | h | h | h <;> rw [h] <;> decide
theorem pd_38 : parseMethodDescriptor "(I)Ljava/lang/String;" = some ⟨[.int], some (.object "java/lang/String")⟩ := by decide +kernel
theorem pd_39 : parseMethodDescriptor "(IIII)Z" = some ⟨[.int, .int, .int, .int], some .boolean⟩ := by decide +kernel
theorem pd_40 : parseMethodDescriptor "(Lcom/example/firm_duties/firmduties/BusinessContext;)Z" = some ⟨[(.object "com/example/firm_duties/firmduties/BusinessContext")], some .boolean⟩ := by decide +kernel
theorem pd_41 : parseMethodDescriptor "(Ljava/util/List;)V" = some ⟨[(.object "java/util/List")], none⟩ := by decide +kernel
theorem pn_rm0 : plainFor x = true := by first | exact plainFor_of_name (by first | (simp [plainName, overriddenIn]; done) | decide +kernel) | decide +kernel
theorem ef_rm0 (m : MethodId) (p1 : Int32) (p2 : Int32) (p3 : Int32) : entryFrame m #[(.int p1), (.int p2), (.int p3)] maxLocals = (mkF m 0 #[iv p1, iv p2, iv p3, oU, oU, oU, oU, oU, oU, oU, oU, oU, oU, oU, oU, oU, oU, oU, oU, oU, oU, oU, oU, oU, oU] []) := by first | (simp [entryFrame, mkF, argsToLocals, Value.category, maxLocals]; done) | rfl
def Q0 (Z : State) (h0 : Heap) (n0 : Nat) (v_ : Option Value) (h_ : Heap) (L_ : List Loc) : Prop := (v_ = some (.int (1 : Int32))) ∧ (Fr n0 L_)
theorem rm0 (l : Launch) (Z : State) (a0 : Array Value) (hw : ∀ d ∈ tables_1, d.before a0 Z = true) (ws : List Jvm.Cond) (hEL : EW Z a0 consts_1) (p1 : Int32) (p2 : Int32) (p3 : Int32) (ci : Addr) (ca : Addr) (ka : ClassId) (dc : Addr) (kdc : ClassId) (em : Addr) (mo : Addr) (cs : Int32) (h0 : Heap) (n0 : Nat) (Z0 : n0 ≤ h0.size) (p_0 : Sta Z h0 "java/lang/CharacterDataLatin1" "instance" "Ljava/lang/CharacterDataLatin1;" (.ref ci)) (p_1 : Exa Z h0 ci "java/lang/CharacterDataLatin1") (p_2 : Sta Z h0 "java/lang/CharacterDataLatin1" "A" "[I" (.ref ca)) (p_3 : Arv Z h0 ca ka .int (256 : Int32) own_A (.int (0 : Int32))) (p_4 : Sta Z h0 "java/util/ArrayList" "DEFAULTCAPACITY_EMPTY_ELEMENTDATA" "[Ljava/lang/Object;" (.ref dc)) (p_5 : Arv Z h0 dc kdc (.object "java/lang/Object") (0 : Int32) [] .null) (p_6 : Exa Z h0 dc "[Ljava/lang/Object;") (p_7 : Sta Z h0 "java/util/ImmutableCollections" "EMPTY" "Ljava/lang/Object;" (.ref em)) (p_8 : Exa Z h0 em "java/lang/Object") (hmir : (Jvm.Term.mirror "[Ljava/lang/Object;").eval a0 Z none [] Z = some (.ref mo)) (p_10 : Sta Z h0 "java/lang/String" "COMPACT_STRINGS" "Z" (.int cs)) (hcs : ¬ cs = (0 : Int32)) :
    MetFree l x (head1 (Jvm.Cond.code x code maxLocals ret :: ws) room_1) (fun a_ U_ => a_ = #[(.int p1), (.int p2), (.int p3)] ∧ Z.Warmed39 U_.vm ∧ U_.heap = h0 ∧ CHv Z consts_1 U_.vm h0 ∧ ∀ x_ ∈ ([] : List Addr), Safe Z consts_1 U_.vm h0 x_) (fun _ _ _ _ _ => True) (fun _ U_ o_ U1_ => ∃ v_ L_, o_ = .returned v_ ∧ Q0 Z h0 n0 v_ U1_.heap L_ ∧ CHr Z consts_1 U_.vm U_.heap U1_.vm U1_.heap ∧ ReturnedEndW U_ o_ U1_ L_ 112 4480) := by
  refine MetFree.of_bodySF pn_rm0 hisR ?_
  intro p e s m args below meth c s₁ Bd hml0 hP hK
  obtain ⟨rfl, hZ, hh, hCH, hSf⟩ := hP
  have hx := Bd.exec
  have hby := Bd.bytes
  have hlk : meth.locks = false := Bd.notSynchronized
  have hml : c.maxLocals = 25 := hml0
  have hown : s.vm.findClass "com/example/firm_duties/firmduties/BusinessContextMatchesPinLaw" = some m.cls := findClass_of_methodNamed Bd.named
  have hnm := (name_of_methodNamed Bd.named Bd.method).1
  have X0 : Stand p l e room_1 (s.setVm s.vm) m #[(.int p1), (.int p2), (.int p3)] below meth c s₁ [] 0 0 := Stand.of_body Bd
  have e0 : s₁.heap = h0 := by rw [← hh, Bd.state]; rfl
  have N0 := Fr.nil n0
  have hS0 : s.Since s.vm n0 := (State.WarmedH.refl s).since n0
  have wS : ∀ d ∈ Bundle.stringAtoms, d.before a0 Z = true := by
    intro d hd
    simp only [Bundle.stringAtoms, List.mem_cons, List.not_mem_nil, or_false] at hd
    rcases hd with rfl | rfl | rfl | rfl | rfl | rfl | rfl
    · exact (own_w hw 12 rfl)
    · exact (own_w hw 20 rfl)
    · exact (own_w hw 24 rfl)
    · exact (own_w hw 33 rfl)
    · exact (own_w hw 35 rfl)
    · exact (own_w hw 46 rfl)
    · exact (own_w hw 47 rfl)
  have C0 := CHr.refl hCH
  show own_GoesH p e below s Z consts_1 (Q0 Z h0 n0) 112 4480 s₁ (entryFrame m #[(.int p1), (.int p2), (.int p3)] maxLocals)
  rw [ef_rm0 m p1 p2 p3]
  show own_GoesH p e below s Z consts_1 (Q0 Z h0 n0) 112 4480 s₁ (mkF m 0 #[iv p1, iv p2, iv p3, oU, oU, oU, oU, oU, oU, oU, oU, oU, oU, oU, oU, oU, oU, oU, oU, oU, oU, oU, oU, oU, oU] [])
  refine own_stH (fun _ kk_ => XS.iloadN X0.here hx rfl (hb hby at_0) rfl (XS.iconst X0.here hx rfl (hb hby at_1) (XS.iand X0.here hx rfl (hb hby at_2) rfl (XS.iconst X0.here hx rfl (hb hby at_3) (XS.iadd X0.here hx rfl (hb hby at_4) rfl (XS.istoreN X0.here hx rfl (hb hby at_5) rfl (l' := #[iv p1, iv p2, iv p3, iv ((p3 &&& (1 : Int32)) + (1 : Int32)), oU, oU, oU, oU, oU, oU, oU, oU, oU, oU, oU, oU, oU, oU, oU, oU, oU, oU, oU, oU, oU]) rfl (XS.iloadN X0.here hx rfl (hb hby at_6) rfl (XS.iconst X0.here hx rfl (hb hby at_7) (XS.iushr X0.here hx rfl (hb hby at_8) rfl (XS.iconst X0.here hx rfl (hb hby at_9) (XS.iand X0.here hx rfl (hb hby at_10) rfl (XS.iconst X0.here hx rfl (hb hby at_11) kk_)))))))))))) ?_
  show gH s₁ (mkF m 12 #[iv p1, iv p2, iv p3, iv ((p3 &&& (1 : Int32)) + (1 : Int32)), oU, oU, oU, oU, oU, oU, oU, oU, oU, oU, oU, oU, oU, oU, oU, oU, oU, oU, oU, oU, oU] [(.int (3 : Int32)), (.int (((p3.toUInt32 >>> ((1 : Int32) &&& 31).toUInt32).toInt32) &&& (3 : Int32)))])
  refine own_stH (fun _ kk_ => iremM X0 hx rfl (hb hby at_12) rfl (by decide) (XS.iconst X0.here hx rfl (hb hby at_13) (XS.iadd X0.here hx rfl (hb hby at_14) rfl (XS.istore X0.here hx rfl (hb hby at_15) rfl (l' := #[iv p1, iv p2, iv p3, iv ((p3 &&& (1 : Int32)) + (1 : Int32)), iv (((((p3.toUInt32 >>> ((1 : Int32) &&& 31).toUInt32).toInt32) &&& (3 : Int32)) % (3 : Int32)) + (1 : Int32)), oU, oU, oU, oU, oU, oU, oU, oU, oU, oU, oU, oU, oU, oU, oU, oU, oU, oU, oU, oU]) rfl (XS.iloadN X0.here hx rfl (hb hby at_17) rfl (XS.bipush X0.here hx rfl (hb hby at_18) (XS.iand X0.here hx rfl (hb hby at_20) rfl (XS.istore X0.here hx rfl (hb hby at_21) rfl (l' := #[iv p1, iv p2, iv p3, iv ((p3 &&& (1 : Int32)) + (1 : Int32)), iv (((((p3.toUInt32 >>> ((1 : Int32) &&& 31).toUInt32).toInt32) &&& (3 : Int32)) % (3 : Int32)) + (1 : Int32)), iv (p1 &&& (31 : Int32)), oU, oU, oU, oU, oU, oU, oU, oU, oU, oU, oU, oU, oU, oU, oU, oU, oU, oU, oU]) rfl (XS.iloadN X0.here hx rfl (hb hby at_23) rfl (XS.iconst X0.here hx rfl (hb hby at_24) (XS.iushr X0.here hx rfl (hb hby at_25) rfl (XS.bipush X0.here hx rfl (hb hby at_26) kk_)))))))))))) ?_
  show gH s₁ (mkF m 28 #[iv p1, iv p2, iv p3, iv ((p3 &&& (1 : Int32)) + (1 : Int32)), iv (((((p3.toUInt32 >>> ((1 : Int32) &&& 31).toUInt32).toInt32) &&& (3 : Int32)) % (3 : Int32)) + (1 : Int32)), iv (p1 &&& (31 : Int32)), oU, oU, oU, oU, oU, oU, oU, oU, oU, oU, oU, oU, oU, oU, oU, oU, oU, oU, oU] [(.int (31 : Int32)), (.int ((p1.toUInt32 >>> ((5 : Int32) &&& 31).toUInt32).toInt32))])
  refine own_stH (fun _ kk_ => XS.iand X0.here hx rfl (hb hby at_28) rfl (XS.istore X0.here hx rfl (hb hby at_29) rfl (l' := #[iv p1, iv p2, iv p3, iv ((p3 &&& (1 : Int32)) + (1 : Int32)), iv (((((p3.toUInt32 >>> ((1 : Int32) &&& 31).toUInt32).toInt32) &&& (3 : Int32)) % (3 : Int32)) + (1 : Int32)), iv (p1 &&& (31 : Int32)), iv (((p1.toUInt32 >>> ((5 : Int32) &&& 31).toUInt32).toInt32) &&& (31 : Int32)), oU, oU, oU, oU, oU, oU, oU, oU, oU, oU, oU, oU, oU, oU, oU, oU, oU, oU]) rfl (XS.iloadN X0.here hx rfl (hb hby at_31) rfl (XS.bipush X0.here hx rfl (hb hby at_32) (XS.iushr X0.here hx rfl (hb hby at_34) rfl (XS.bipush X0.here hx rfl (hb hby at_35) (XS.iand X0.here hx rfl (hb hby at_37) rfl (XS.istore X0.here hx rfl (hb hby at_38) rfl (l' := #[iv p1, iv p2, iv p3, iv ((p3 &&& (1 : Int32)) + (1 : Int32)), iv (((((p3.toUInt32 >>> ((1 : Int32) &&& 31).toUInt32).toInt32) &&& (3 : Int32)) % (3 : Int32)) + (1 : Int32)), iv (p1 &&& (31 : Int32)), iv (((p1.toUInt32 >>> ((5 : Int32) &&& 31).toUInt32).toInt32) &&& (31 : Int32)), iv (((p1.toUInt32 >>> ((10 : Int32) &&& 31).toUInt32).toInt32) &&& (31 : Int32)), oU, oU, oU, oU, oU, oU, oU, oU, oU, oU, oU, oU, oU, oU, oU, oU, oU]) rfl (XS.iloadN X0.here hx rfl (hb hby at_40) rfl (XS.bipush X0.here hx rfl (hb hby at_41) (XS.iushr X0.here hx rfl (hb hby at_43) rfl (XS.bipush X0.here hx rfl (hb hby at_44) kk_)))))))))))) ?_
  show gH s₁ (mkF m 46 #[iv p1, iv p2, iv p3, iv ((p3 &&& (1 : Int32)) + (1 : Int32)), iv (((((p3.toUInt32 >>> ((1 : Int32) &&& 31).toUInt32).toInt32) &&& (3 : Int32)) % (3 : Int32)) + (1 : Int32)), iv (p1 &&& (31 : Int32)), iv (((p1.toUInt32 >>> ((5 : Int32) &&& 31).toUInt32).toInt32) &&& (31 : Int32)), iv (((p1.toUInt32 >>> ((10 : Int32) &&& 31).toUInt32).toInt32) &&& (31 : Int32)), oU, oU, oU, oU, oU, oU, oU, oU, oU, oU, oU, oU, oU, oU, oU, oU, oU] [(.int (31 : Int32)), (.int ((p1.toUInt32 >>> ((15 : Int32) &&& 31).toUInt32).toInt32))])
  refine own_stH (fun _ kk_ => XS.iand X0.here hx rfl (hb hby at_46) rfl (XS.istore X0.here hx rfl (hb hby at_47) rfl (l' := #[iv p1, iv p2, iv p3, iv ((p3 &&& (1 : Int32)) + (1 : Int32)), iv (((((p3.toUInt32 >>> ((1 : Int32) &&& 31).toUInt32).toInt32) &&& (3 : Int32)) % (3 : Int32)) + (1 : Int32)), iv (p1 &&& (31 : Int32)), iv (((p1.toUInt32 >>> ((5 : Int32) &&& 31).toUInt32).toInt32) &&& (31 : Int32)), iv (((p1.toUInt32 >>> ((10 : Int32) &&& 31).toUInt32).toInt32) &&& (31 : Int32)), iv (((p1.toUInt32 >>> ((15 : Int32) &&& 31).toUInt32).toInt32) &&& (31 : Int32)), oU, oU, oU, oU, oU, oU, oU, oU, oU, oU, oU, oU, oU, oU, oU, oU]) rfl (XS.iloadN X0.here hx rfl (hb hby at_49) rfl (XS.bipush X0.here hx rfl (hb hby at_50) (XS.iand X0.here hx rfl (hb hby at_52) rfl (XS.istore X0.here hx rfl (hb hby at_53) rfl (l' := #[iv p1, iv p2, iv p3, iv ((p3 &&& (1 : Int32)) + (1 : Int32)), iv (((((p3.toUInt32 >>> ((1 : Int32) &&& 31).toUInt32).toInt32) &&& (3 : Int32)) % (3 : Int32)) + (1 : Int32)), iv (p1 &&& (31 : Int32)), iv (((p1.toUInt32 >>> ((5 : Int32) &&& 31).toUInt32).toInt32) &&& (31 : Int32)), iv (((p1.toUInt32 >>> ((10 : Int32) &&& 31).toUInt32).toInt32) &&& (31 : Int32)), iv (((p1.toUInt32 >>> ((15 : Int32) &&& 31).toUInt32).toInt32) &&& (31 : Int32)), iv (p2 &&& (31 : Int32)), oU, oU, oU, oU, oU, oU, oU, oU, oU, oU, oU, oU, oU, oU, oU]) rfl (XS.iloadN X0.here hx rfl (hb hby at_55) rfl (XS.iconst X0.here hx rfl (hb hby at_56) (XS.iushr X0.here hx rfl (hb hby at_57) rfl (XS.bipush X0.here hx rfl (hb hby at_58) (XS.iand X0.here hx rfl (hb hby at_60) rfl (XS.istore X0.here hx rfl (hb hby at_61) rfl (l' := #[iv p1, iv p2, iv p3, iv ((p3 &&& (1 : Int32)) + (1 : Int32)), iv (((((p3.toUInt32 >>> ((1 : Int32) &&& 31).toUInt32).toInt32) &&& (3 : Int32)) % (3 : Int32)) + (1 : Int32)), iv (p1 &&& (31 : Int32)), iv (((p1.toUInt32 >>> ((5 : Int32) &&& 31).toUInt32).toInt32) &&& (31 : Int32)), iv (((p1.toUInt32 >>> ((10 : Int32) &&& 31).toUInt32).toInt32) &&& (31 : Int32)), iv (((p1.toUInt32 >>> ((15 : Int32) &&& 31).toUInt32).toInt32) &&& (31 : Int32)), iv (p2 &&& (31 : Int32)), iv (((p2.toUInt32 >>> ((5 : Int32) &&& 31).toUInt32).toInt32) &&& (31 : Int32)), oU, oU, oU, oU, oU, oU, oU, oU, oU, oU, oU, oU, oU, oU]) rfl kk_)))))))))))) ?_
  show gH s₁ (mkF m 63 #[iv p1, iv p2, iv p3, iv ((p3 &&& (1 : Int32)) + (1 : Int32)), iv (((((p3.toUInt32 >>> ((1 : Int32) &&& 31).toUInt32).toInt32) &&& (3 : Int32)) % (3 : Int32)) + (1 : Int32)), iv (p1 &&& (31 : Int32)), iv (((p1.toUInt32 >>> ((5 : Int32) &&& 31).toUInt32).toInt32) &&& (31 : Int32)), iv (((p1.toUInt32 >>> ((10 : Int32) &&& 31).toUInt32).toInt32) &&& (31 : Int32)), iv (((p1.toUInt32 >>> ((15 : Int32) &&& 31).toUInt32).toInt32) &&& (31 : Int32)), iv (p2 &&& (31 : Int32)), iv (((p2.toUInt32 >>> ((5 : Int32) &&& 31).toUInt32).toInt32) &&& (31 : Int32)), oU, oU, oU, oU, oU, oU, oU, oU, oU, oU, oU, oU, oU, oU] [])
  refine own_stH (fun _ kk_ => XS.iloadN X0.here hx rfl (hb hby at_63) rfl (XS.bipush X0.here hx rfl (hb hby at_64) (XS.iushr X0.here hx rfl (hb hby at_66) rfl (XS.bipush X0.here hx rfl (hb hby at_67) (XS.iand X0.here hx rfl (hb hby at_69) rfl (XS.istore X0.here hx rfl (hb hby at_70) rfl (l' := #[iv p1, iv p2, iv p3, iv ((p3 &&& (1 : Int32)) + (1 : Int32)), iv (((((p3.toUInt32 >>> ((1 : Int32) &&& 31).toUInt32).toInt32) &&& (3 : Int32)) % (3 : Int32)) + (1 : Int32)), iv (p1 &&& (31 : Int32)), iv (((p1.toUInt32 >>> ((5 : Int32) &&& 31).toUInt32).toInt32) &&& (31 : Int32)), iv (((p1.toUInt32 >>> ((10 : Int32) &&& 31).toUInt32).toInt32) &&& (31 : Int32)), iv (((p1.toUInt32 >>> ((15 : Int32) &&& 31).toUInt32).toInt32) &&& (31 : Int32)), iv (p2 &&& (31 : Int32)), iv (((p2.toUInt32 >>> ((5 : Int32) &&& 31).toUInt32).toInt32) &&& (31 : Int32)), iv (((p2.toUInt32 >>> ((10 : Int32) &&& 31).toUInt32).toInt32) &&& (31 : Int32)), oU, oU, oU, oU, oU, oU, oU, oU, oU, oU, oU, oU, oU]) rfl (XS.iloadN X0.here hx rfl (hb hby at_72) rfl (XS.bipush X0.here hx rfl (hb hby at_73) (XS.iushr X0.here hx rfl (hb hby at_75) rfl (XS.bipush X0.here hx rfl (hb hby at_76) (XS.iand X0.here hx rfl (hb hby at_78) rfl (XS.istore X0.here hx rfl (hb hby at_79) rfl (l' := #[iv p1, iv p2, iv p3, iv ((p3 &&& (1 : Int32)) + (1 : Int32)), iv (((((p3.toUInt32 >>> ((1 : Int32) &&& 31).toUInt32).toInt32) &&& (3 : Int32)) % (3 : Int32)) + (1 : Int32)), iv (p1 &&& (31 : Int32)), iv (((p1.toUInt32 >>> ((5 : Int32) &&& 31).toUInt32).toInt32) &&& (31 : Int32)), iv (((p1.toUInt32 >>> ((10 : Int32) &&& 31).toUInt32).toInt32) &&& (31 : Int32)), iv (((p1.toUInt32 >>> ((15 : Int32) &&& 31).toUInt32).toInt32) &&& (31 : Int32)), iv (p2 &&& (31 : Int32)), iv (((p2.toUInt32 >>> ((5 : Int32) &&& 31).toUInt32).toInt32) &&& (31 : Int32)), iv (((p2.toUInt32 >>> ((10 : Int32) &&& 31).toUInt32).toInt32) &&& (31 : Int32)), iv (((p2.toUInt32 >>> ((15 : Int32) &&& 31).toUInt32).toInt32) &&& (31 : Int32)), oU, oU, oU, oU, oU, oU, oU, oU, oU, oU, oU, oU]) rfl kk_)))))))))))) ?_
  show gH s₁ (mkF m 81 #[iv p1, iv p2, iv p3, iv ((p3 &&& (1 : Int32)) + (1 : Int32)), iv (((((p3.toUInt32 >>> ((1 : Int32) &&& 31).toUInt32).toInt32) &&& (3 : Int32)) % (3 : Int32)) + (1 : Int32)), iv (p1 &&& (31 : Int32)), iv (((p1.toUInt32 >>> ((5 : Int32) &&& 31).toUInt32).toInt32) &&& (31 : Int32)), iv (((p1.toUInt32 >>> ((10 : Int32) &&& 31).toUInt32).toInt32) &&& (31 : Int32)), iv (((p1.toUInt32 >>> ((15 : Int32) &&& 31).toUInt32).toInt32) &&& (31 : Int32)), iv (p2 &&& (31 : Int32)), iv (((p2.toUInt32 >>> ((5 : Int32) &&& 31).toUInt32).toInt32) &&& (31 : Int32)), iv (((p2.toUInt32 >>> ((10 : Int32) &&& 31).toUInt32).toInt32) &&& (31 : Int32)), iv (((p2.toUInt32 >>> ((15 : Int32) &&& 31).toUInt32).toInt32) &&& (31 : Int32)), oU, oU, oU, oU, oU, oU, oU, oU, oU, oU, oU, oU] [])
  refine own_stH (fun _ kk_ => XS.iloadN X0.here hx rfl (hb hby at_81) rfl (XS.bipush X0.here hx rfl (hb hby at_82) (XS.iushr X0.here hx rfl (hb hby at_84) rfl (XS.bipush X0.here hx rfl (hb hby at_85) (XS.iand X0.here hx rfl (hb hby at_87) rfl (XS.istore X0.here hx rfl (hb hby at_88) rfl (l' := #[iv p1, iv p2, iv p3, iv ((p3 &&& (1 : Int32)) + (1 : Int32)), iv (((((p3.toUInt32 >>> ((1 : Int32) &&& 31).toUInt32).toInt32) &&& (3 : Int32)) % (3 : Int32)) + (1 : Int32)), iv (p1 &&& (31 : Int32)), iv (((p1.toUInt32 >>> ((5 : Int32) &&& 31).toUInt32).toInt32) &&& (31 : Int32)), iv (((p1.toUInt32 >>> ((10 : Int32) &&& 31).toUInt32).toInt32) &&& (31 : Int32)), iv (((p1.toUInt32 >>> ((15 : Int32) &&& 31).toUInt32).toInt32) &&& (31 : Int32)), iv (p2 &&& (31 : Int32)), iv (((p2.toUInt32 >>> ((5 : Int32) &&& 31).toUInt32).toInt32) &&& (31 : Int32)), iv (((p2.toUInt32 >>> ((10 : Int32) &&& 31).toUInt32).toInt32) &&& (31 : Int32)), iv (((p2.toUInt32 >>> ((15 : Int32) &&& 31).toUInt32).toInt32) &&& (31 : Int32)), iv (((p2.toUInt32 >>> ((20 : Int32) &&& 31).toUInt32).toInt32) &&& (31 : Int32)), oU, oU, oU, oU, oU, oU, oU, oU, oU, oU, oU]) rfl (XS.iloadN X0.here hx rfl (hb hby at_90) rfl (XS.bipush X0.here hx rfl (hb hby at_91) (XS.iushr X0.here hx rfl (hb hby at_93) rfl (XS.bipush X0.here hx rfl (hb hby at_94) (XS.iand X0.here hx rfl (hb hby at_96) rfl (XS.istore X0.here hx rfl (hb hby at_97) rfl (l' := #[iv p1, iv p2, iv p3, iv ((p3 &&& (1 : Int32)) + (1 : Int32)), iv (((((p3.toUInt32 >>> ((1 : Int32) &&& 31).toUInt32).toInt32) &&& (3 : Int32)) % (3 : Int32)) + (1 : Int32)), iv (p1 &&& (31 : Int32)), iv (((p1.toUInt32 >>> ((5 : Int32) &&& 31).toUInt32).toInt32) &&& (31 : Int32)), iv (((p1.toUInt32 >>> ((10 : Int32) &&& 31).toUInt32).toInt32) &&& (31 : Int32)), iv (((p1.toUInt32 >>> ((15 : Int32) &&& 31).toUInt32).toInt32) &&& (31 : Int32)), iv (p2 &&& (31 : Int32)), iv (((p2.toUInt32 >>> ((5 : Int32) &&& 31).toUInt32).toInt32) &&& (31 : Int32)), iv (((p2.toUInt32 >>> ((10 : Int32) &&& 31).toUInt32).toInt32) &&& (31 : Int32)), iv (((p2.toUInt32 >>> ((15 : Int32) &&& 31).toUInt32).toInt32) &&& (31 : Int32)), iv (((p2.toUInt32 >>> ((20 : Int32) &&& 31).toUInt32).toInt32) &&& (31 : Int32)), iv (((p2.toUInt32 >>> ((25 : Int32) &&& 31).toUInt32).toInt32) &&& (31 : Int32)), oU, oU, oU, oU, oU, oU, oU, oU, oU, oU]) rfl kk_)))))))))))) ?_
  show gH s₁ (mkF m 99 #[iv p1, iv p2, iv p3, iv ((p3 &&& (1 : Int32)) + (1 : Int32)), iv (((((p3.toUInt32 >>> ((1 : Int32) &&& 31).toUInt32).toInt32) &&& (3 : Int32)) % (3 : Int32)) + (1 : Int32)), iv (p1 &&& (31 : Int32)), iv (((p1.toUInt32 >>> ((5 : Int32) &&& 31).toUInt32).toInt32) &&& (31 : Int32)), iv (((p1.toUInt32 >>> ((10 : Int32) &&& 31).toUInt32).toInt32) &&& (31 : Int32)), iv (((p1.toUInt32 >>> ((15 : Int32) &&& 31).toUInt32).toInt32) &&& (31 : Int32)), iv (p2 &&& (31 : Int32)), iv (((p2.toUInt32 >>> ((5 : Int32) &&& 31).toUInt32).toInt32) &&& (31 : Int32)), iv (((p2.toUInt32 >>> ((10 : Int32) &&& 31).toUInt32).toInt32) &&& (31 : Int32)), iv (((p2.toUInt32 >>> ((15 : Int32) &&& 31).toUInt32).toInt32) &&& (31 : Int32)), iv (((p2.toUInt32 >>> ((20 : Int32) &&& 31).toUInt32).toInt32) &&& (31 : Int32)), iv (((p2.toUInt32 >>> ((25 : Int32) &&& 31).toUInt32).toInt32) &&& (31 : Int32)), oU, oU, oU, oU, oU, oU, oU, oU, oU, oU] [])
  have hnp := own_np p3
  have hni := own_ni ((p3.toUInt32 >>> ((1 : Int32) &&& 31).toUInt32).toInt32)
  obtain ⟨np, h_np⟩ : ∃ z, z = ((p3 &&& (1 : Int32)) + (1 : Int32)) := ⟨_, rfl⟩
  rw [← h_np]
  show gH s₁ (mkF m 99 #[iv p1, iv p2, iv p3, iv np, iv (((((p3.toUInt32 >>> ((1 : Int32) &&& 31).toUInt32).toInt32) &&& (3 : Int32)) % (3 : Int32)) + (1 : Int32)), iv (p1 &&& (31 : Int32)), iv (((p1.toUInt32 >>> ((5 : Int32) &&& 31).toUInt32).toInt32) &&& (31 : Int32)), iv (((p1.toUInt32 >>> ((10 : Int32) &&& 31).toUInt32).toInt32) &&& (31 : Int32)), iv (((p1.toUInt32 >>> ((15 : Int32) &&& 31).toUInt32).toInt32) &&& (31 : Int32)), iv (p2 &&& (31 : Int32)), iv (((p2.toUInt32 >>> ((5 : Int32) &&& 31).toUInt32).toInt32) &&& (31 : Int32)), iv (((p2.toUInt32 >>> ((10 : Int32) &&& 31).toUInt32).toInt32) &&& (31 : Int32)), iv (((p2.toUInt32 >>> ((15 : Int32) &&& 31).toUInt32).toInt32) &&& (31 : Int32)), iv (((p2.toUInt32 >>> ((20 : Int32) &&& 31).toUInt32).toInt32) &&& (31 : Int32)), iv (((p2.toUInt32 >>> ((25 : Int32) &&& 31).toUInt32).toInt32) &&& (31 : Int32)), oU, oU, oU, oU, oU, oU, oU, oU, oU, oU] [])
  rw [← h_np] at hnp
  obtain ⟨ni, h_ni⟩ : ∃ z, z = (((((p3.toUInt32 >>> ((1 : Int32) &&& 31).toUInt32).toInt32) &&& (3 : Int32)) % (3 : Int32)) + (1 : Int32)) := ⟨_, rfl⟩
  rw [← h_ni]
  show gH s₁ (mkF m 99 #[iv p1, iv p2, iv p3, iv np, iv ni, iv (p1 &&& (31 : Int32)), iv (((p1.toUInt32 >>> ((5 : Int32) &&& 31).toUInt32).toInt32) &&& (31 : Int32)), iv (((p1.toUInt32 >>> ((10 : Int32) &&& 31).toUInt32).toInt32) &&& (31 : Int32)), iv (((p1.toUInt32 >>> ((15 : Int32) &&& 31).toUInt32).toInt32) &&& (31 : Int32)), iv (p2 &&& (31 : Int32)), iv (((p2.toUInt32 >>> ((5 : Int32) &&& 31).toUInt32).toInt32) &&& (31 : Int32)), iv (((p2.toUInt32 >>> ((10 : Int32) &&& 31).toUInt32).toInt32) &&& (31 : Int32)), iv (((p2.toUInt32 >>> ((15 : Int32) &&& 31).toUInt32).toInt32) &&& (31 : Int32)), iv (((p2.toUInt32 >>> ((20 : Int32) &&& 31).toUInt32).toInt32) &&& (31 : Int32)), iv (((p2.toUInt32 >>> ((25 : Int32) &&& 31).toUInt32).toInt32) &&& (31 : Int32)), oU, oU, oU, oU, oU, oU, oU, oU, oU, oU] [])
  rw [← h_ni] at hni
  obtain ⟨j5, h_j5⟩ : ∃ z, z = (p1 &&& (31 : Int32)) := ⟨_, rfl⟩
  rw [← h_j5]
  show gH s₁ (mkF m 99 #[iv p1, iv p2, iv p3, iv np, iv ni, iv j5, iv (((p1.toUInt32 >>> ((5 : Int32) &&& 31).toUInt32).toInt32) &&& (31 : Int32)), iv (((p1.toUInt32 >>> ((10 : Int32) &&& 31).toUInt32).toInt32) &&& (31 : Int32)), iv (((p1.toUInt32 >>> ((15 : Int32) &&& 31).toUInt32).toInt32) &&& (31 : Int32)), iv (p2 &&& (31 : Int32)), iv (((p2.toUInt32 >>> ((5 : Int32) &&& 31).toUInt32).toInt32) &&& (31 : Int32)), iv (((p2.toUInt32 >>> ((10 : Int32) &&& 31).toUInt32).toInt32) &&& (31 : Int32)), iv (((p2.toUInt32 >>> ((15 : Int32) &&& 31).toUInt32).toInt32) &&& (31 : Int32)), iv (((p2.toUInt32 >>> ((20 : Int32) &&& 31).toUInt32).toInt32) &&& (31 : Int32)), iv (((p2.toUInt32 >>> ((25 : Int32) &&& 31).toUInt32).toInt32) &&& (31 : Int32)), oU, oU, oU, oU, oU, oU, oU, oU, oU, oU] [])
  obtain ⟨j6, h_j6⟩ : ∃ z, z = (((p1.toUInt32 >>> ((5 : Int32) &&& 31).toUInt32).toInt32) &&& (31 : Int32)) := ⟨_, rfl⟩
  rw [← h_j6]
  show gH s₁ (mkF m 99 #[iv p1, iv p2, iv p3, iv np, iv ni, iv j5, iv j6, iv (((p1.toUInt32 >>> ((10 : Int32) &&& 31).toUInt32).toInt32) &&& (31 : Int32)), iv (((p1.toUInt32 >>> ((15 : Int32) &&& 31).toUInt32).toInt32) &&& (31 : Int32)), iv (p2 &&& (31 : Int32)), iv (((p2.toUInt32 >>> ((5 : Int32) &&& 31).toUInt32).toInt32) &&& (31 : Int32)), iv (((p2.toUInt32 >>> ((10 : Int32) &&& 31).toUInt32).toInt32) &&& (31 : Int32)), iv (((p2.toUInt32 >>> ((15 : Int32) &&& 31).toUInt32).toInt32) &&& (31 : Int32)), iv (((p2.toUInt32 >>> ((20 : Int32) &&& 31).toUInt32).toInt32) &&& (31 : Int32)), iv (((p2.toUInt32 >>> ((25 : Int32) &&& 31).toUInt32).toInt32) &&& (31 : Int32)), oU, oU, oU, oU, oU, oU, oU, oU, oU, oU] [])
  obtain ⟨j7, h_j7⟩ : ∃ z, z = (((p1.toUInt32 >>> ((10 : Int32) &&& 31).toUInt32).toInt32) &&& (31 : Int32)) := ⟨_, rfl⟩
  rw [← h_j7]
  show gH s₁ (mkF m 99 #[iv p1, iv p2, iv p3, iv np, iv ni, iv j5, iv j6, iv j7, iv (((p1.toUInt32 >>> ((15 : Int32) &&& 31).toUInt32).toInt32) &&& (31 : Int32)), iv (p2 &&& (31 : Int32)), iv (((p2.toUInt32 >>> ((5 : Int32) &&& 31).toUInt32).toInt32) &&& (31 : Int32)), iv (((p2.toUInt32 >>> ((10 : Int32) &&& 31).toUInt32).toInt32) &&& (31 : Int32)), iv (((p2.toUInt32 >>> ((15 : Int32) &&& 31).toUInt32).toInt32) &&& (31 : Int32)), iv (((p2.toUInt32 >>> ((20 : Int32) &&& 31).toUInt32).toInt32) &&& (31 : Int32)), iv (((p2.toUInt32 >>> ((25 : Int32) &&& 31).toUInt32).toInt32) &&& (31 : Int32)), oU, oU, oU, oU, oU, oU, oU, oU, oU, oU] [])
  obtain ⟨j8, h_j8⟩ : ∃ z, z = (((p1.toUInt32 >>> ((15 : Int32) &&& 31).toUInt32).toInt32) &&& (31 : Int32)) := ⟨_, rfl⟩
  rw [← h_j8]
  show gH s₁ (mkF m 99 #[iv p1, iv p2, iv p3, iv np, iv ni, iv j5, iv j6, iv j7, iv j8, iv (p2 &&& (31 : Int32)), iv (((p2.toUInt32 >>> ((5 : Int32) &&& 31).toUInt32).toInt32) &&& (31 : Int32)), iv (((p2.toUInt32 >>> ((10 : Int32) &&& 31).toUInt32).toInt32) &&& (31 : Int32)), iv (((p2.toUInt32 >>> ((15 : Int32) &&& 31).toUInt32).toInt32) &&& (31 : Int32)), iv (((p2.toUInt32 >>> ((20 : Int32) &&& 31).toUInt32).toInt32) &&& (31 : Int32)), iv (((p2.toUInt32 >>> ((25 : Int32) &&& 31).toUInt32).toInt32) &&& (31 : Int32)), oU, oU, oU, oU, oU, oU, oU, oU, oU, oU] [])
  obtain ⟨j9, h_j9⟩ : ∃ z, z = (p2 &&& (31 : Int32)) := ⟨_, rfl⟩
  rw [← h_j9]
  show gH s₁ (mkF m 99 #[iv p1, iv p2, iv p3, iv np, iv ni, iv j5, iv j6, iv j7, iv j8, iv j9, iv (((p2.toUInt32 >>> ((5 : Int32) &&& 31).toUInt32).toInt32) &&& (31 : Int32)), iv (((p2.toUInt32 >>> ((10 : Int32) &&& 31).toUInt32).toInt32) &&& (31 : Int32)), iv (((p2.toUInt32 >>> ((15 : Int32) &&& 31).toUInt32).toInt32) &&& (31 : Int32)), iv (((p2.toUInt32 >>> ((20 : Int32) &&& 31).toUInt32).toInt32) &&& (31 : Int32)), iv (((p2.toUInt32 >>> ((25 : Int32) &&& 31).toUInt32).toInt32) &&& (31 : Int32)), oU, oU, oU, oU, oU, oU, oU, oU, oU, oU] [])
  obtain ⟨j10, h_j10⟩ : ∃ z, z = (((p2.toUInt32 >>> ((5 : Int32) &&& 31).toUInt32).toInt32) &&& (31 : Int32)) := ⟨_, rfl⟩
  rw [← h_j10]
  show gH s₁ (mkF m 99 #[iv p1, iv p2, iv p3, iv np, iv ni, iv j5, iv j6, iv j7, iv j8, iv j9, iv j10, iv (((p2.toUInt32 >>> ((10 : Int32) &&& 31).toUInt32).toInt32) &&& (31 : Int32)), iv (((p2.toUInt32 >>> ((15 : Int32) &&& 31).toUInt32).toInt32) &&& (31 : Int32)), iv (((p2.toUInt32 >>> ((20 : Int32) &&& 31).toUInt32).toInt32) &&& (31 : Int32)), iv (((p2.toUInt32 >>> ((25 : Int32) &&& 31).toUInt32).toInt32) &&& (31 : Int32)), oU, oU, oU, oU, oU, oU, oU, oU, oU, oU] [])
  obtain ⟨j11, h_j11⟩ : ∃ z, z = (((p2.toUInt32 >>> ((10 : Int32) &&& 31).toUInt32).toInt32) &&& (31 : Int32)) := ⟨_, rfl⟩
  rw [← h_j11]
  show gH s₁ (mkF m 99 #[iv p1, iv p2, iv p3, iv np, iv ni, iv j5, iv j6, iv j7, iv j8, iv j9, iv j10, iv j11, iv (((p2.toUInt32 >>> ((15 : Int32) &&& 31).toUInt32).toInt32) &&& (31 : Int32)), iv (((p2.toUInt32 >>> ((20 : Int32) &&& 31).toUInt32).toInt32) &&& (31 : Int32)), iv (((p2.toUInt32 >>> ((25 : Int32) &&& 31).toUInt32).toInt32) &&& (31 : Int32)), oU, oU, oU, oU, oU, oU, oU, oU, oU, oU] [])
  obtain ⟨j12, h_j12⟩ : ∃ z, z = (((p2.toUInt32 >>> ((15 : Int32) &&& 31).toUInt32).toInt32) &&& (31 : Int32)) := ⟨_, rfl⟩
  rw [← h_j12]
  show gH s₁ (mkF m 99 #[iv p1, iv p2, iv p3, iv np, iv ni, iv j5, iv j6, iv j7, iv j8, iv j9, iv j10, iv j11, iv j12, iv (((p2.toUInt32 >>> ((20 : Int32) &&& 31).toUInt32).toInt32) &&& (31 : Int32)), iv (((p2.toUInt32 >>> ((25 : Int32) &&& 31).toUInt32).toInt32) &&& (31 : Int32)), oU, oU, oU, oU, oU, oU, oU, oU, oU, oU] [])
  obtain ⟨j13, h_j13⟩ : ∃ z, z = (((p2.toUInt32 >>> ((20 : Int32) &&& 31).toUInt32).toInt32) &&& (31 : Int32)) := ⟨_, rfl⟩
  rw [← h_j13]
  show gH s₁ (mkF m 99 #[iv p1, iv p2, iv p3, iv np, iv ni, iv j5, iv j6, iv j7, iv j8, iv j9, iv j10, iv j11, iv j12, iv j13, iv (((p2.toUInt32 >>> ((25 : Int32) &&& 31).toUInt32).toInt32) &&& (31 : Int32)), oU, oU, oU, oU, oU, oU, oU, oU, oU, oU] [])
  obtain ⟨j14, h_j14⟩ : ∃ z, z = (((p2.toUInt32 >>> ((25 : Int32) &&& 31).toUInt32).toInt32) &&& (31 : Int32)) := ⟨_, rfl⟩
  rw [← h_j14]
  show gH s₁ (mkF m 99 #[iv p1, iv p2, iv p3, iv np, iv ni, iv j5, iv j6, iv j7, iv j8, iv j9, iv j10, iv j11, iv j12, iv j13, iv j14, oU, oU, oU, oU, oU, oU, oU, oU, oU, oU] [])
  obtain ⟨T1, h1, X1, e1, E1, A1, D1, -, st1⟩ := newO X0 hx hZ hown (own_w hw 0 rfl) (own_w hw 1 rfl) (own_w hw 2 rfl) e0 (g := (mkF m 99 #[iv p1, iv p2, iv p3, iv np, iv ni, iv j5, iv j6, iv j7, iv j8, iv j9, iv j10, iv j11, iv j12, iv j13, iv j14, oU, oU, oU, oU, oU, oU, oU, oU, oU, oU] [])) rfl (hb hby at_99) (by decide) (by decide)
  obtain ⟨b1, gx1⟩ : ∃ z, z = h0.size := ⟨_, rfl⟩
  rw [← gx1] at A1 D1 st1
  have M1_0 := (Keep.refl h0 []).ext E1
  have C1 := C0.trans (CHr.ext E1 C0.1)
  have Zs1 : n0 ≤ h1.size := Nat.le_trans Z0 E1.1
  have Ks1 := Nat.le_trans Z0 E1.1
  have fn1_type : Fld Z h1 b1 "com/example/firm_duties/firmduties/BusinessContext$Pair" "type" "Ljava/lang/String;" .null := D1 (Or.inr (own_w hw 139 rfl)) (ty := (.object "java/lang/String")) (by decide)
  have fn1_value : Fld Z h1 b1 "com/example/firm_duties/firmduties/BusinessContext$Pair" "value" "Ljava/lang/String;" .null := D1 (Or.inr (own_w hw 141 rfl)) (ty := (.object "java/lang/String")) (by decide)
  refine own_stH st1 ?_
  clear st1 X0
  refine own_stH (fun _ kk_ => XS.dup X1.here hx rfl (hb hby at_102) rfl rfl (XS.iload X1.here hx rfl (hb hby at_103) rfl kk_)) ?_
  show gH T1 (mkF m 105 #[iv p1, iv p2, iv p3, iv np, iv ni, iv j5, iv j6, iv j7, iv j8, iv j9, iv j10, iv j11, iv j12, iv j13, iv j14, oU, oU, oU, oU, oU, oU, oU, oU, oU, oU] [(.int j5), (.ref b1), (.ref b1)])
  have mf3 := own_Sta_keep p_10 M1_0 ns0
  obtain ⟨T2, L2, v2, X2, hQ2, st2⟩ := own_cutA (Jvm.LawKit.callS X1 hx (y := yy31) hown (own_mw hZ hw 3 rfl) (own_mw hZ hw 4 rfl) (own_mw hZ hw 5 rfl) (own_mw hZ hw 6 rfl) (by decide) (backOf (W := 2) (rm1 l Z a0 hw (j5) (cs) h1 n0 Zs1 mf3 (by assumption)) hZ (own_w hw 6 rfl) (own_w hw 5 rfl) (by decide) (by decide)) (g := (mkF m 105 #[iv p1, iv p2, iv p3, iv np, iv ni, iv j5, iv j6, iv j7, iv j8, iv j9, iv j10, iv j11, iv j12, iv j13, iv j14, oU, oU, oU, oU, oU, oU, oU, oU, oU, oU] [(.int j5), (.ref b1), (.ref b1)])) rfl (by rw [hml]; rfl) (argsL := [(.int j5)]) (rest := [(.ref b1), (.ref b1)]) (lenOf pd_38 rfl) rfl (own_bl rfl) (hb hby at_105) (fun _ _ => ⟨rfl, e1, own_bl rfl, own_bl rfl⟩))
  obtain ⟨x2_y, x2_d, x2_kd, x2_z9, x2_vs9, rfl, Nq2, Kq2, u2_0, u2_1, u2_2, u2_3, u2_4, u2_5, u2_6, u2_7⟩ := hQ2
  have N2 := Fr.app N0 Nq2
  have f2_0 := A1.keep Kq2
  have f2_1 := fn1_type.keep Kq2 nin0
  have f2_2 := fn1_value.keep Kq2 nin0
  have M2_0 := M1_0.trans Kq2 all0
  have C2 := C1.trans (CHr.keep Kq2 sf0 C1.1)
  have Ks2 := Nat.le_trans Ks1 Kq2.1
  have Zs2 : n0 ≤ T2.heap.size := Nat.le_trans Zs1 Kq2.1
  refine own_stH st2 ?_
  clear st2 X1
  refine own_stH (fun _ kk_ => XS.iload X2.here hx rfl (hb hby at_108) rfl kk_) ?_
  show gH T2 (mkF m 110 #[iv p1, iv p2, iv p3, iv np, iv ni, iv j5, iv j6, iv j7, iv j8, iv j9, iv j10, iv j11, iv j12, iv j13, iv j14, oU, oU, oU, oU, oU, oU, oU, oU, oU, oU] [(.int j6), (.ref x2_y), (.ref b1), (.ref b1)])
  have mf5 := own_Sta_keep p_10 M2_0 ns0
  obtain ⟨T4, L4, v4, X4, hQ4, st4⟩ := own_cutA (Jvm.LawKit.callS X2 hx (y := yy31) hown (own_mw hZ hw 3 rfl) (own_mw hZ hw 4 rfl) (own_mw hZ hw 5 rfl) (own_mw hZ hw 6 rfl) (by decide) (backOf (W := 3) (rm1 l Z a0 hw (j6) (cs) T2.heap n0 Zs2 mf5 (by assumption)) hZ (own_w hw 6 rfl) (own_w hw 5 rfl) (by decide) (by decide)) (g := (mkF m 110 #[iv p1, iv p2, iv p3, iv np, iv ni, iv j5, iv j6, iv j7, iv j8, iv j9, iv j10, iv j11, iv j12, iv j13, iv j14, oU, oU, oU, oU, oU, oU, oU, oU, oU, oU] [(.int j6), (.ref x2_y), (.ref b1), (.ref b1)])) rfl (by rw [hml]; rfl) (argsL := [(.int j6)]) (rest := [(.ref x2_y), (.ref b1), (.ref b1)]) (lenOf pd_38 rfl) rfl (own_bl rfl) (hb hby at_110) (fun _ _ => ⟨rfl, rfl, own_bl rfl, own_bl rfl⟩))
  obtain ⟨x4_y, x4_d, x4_kd, x4_z9, x4_vs9, rfl, Nq4, Kq4, u4_0, u4_1, u4_2, u4_3, u4_4, u4_5, u4_6, u4_7⟩ := hQ4
  have N4 := Fr.app N2 Nq4
  have f4_0 := f2_0.keep Kq4
  have f4_1 := f2_1.keep Kq4 nin0
  have f4_2 := f2_2.keep Kq4 nin0
  have f4_3 := u2_2.keep Kq4
  have f4_4 := u2_3.keep Kq4 nin0
  have f4_5 := u2_4.keep Kq4 nin0
  have f4_6 := u2_5.keep Kq4 nin0
  have M4_0 := M2_0.trans Kq4 all0
  have C4 := C2.trans (CHr.keep Kq4 sf0 C2.1)
  have Ks4 := Nat.le_trans Ks2 Kq4.1
  have Zs4 : n0 ≤ T4.heap.size := Nat.le_trans Zs2 Kq4.1
  refine own_stH st4 ?_
  clear st4 X2
  have gg1 := Nat.le_trans Z0 (Nat.le_of_eq gx1.symm)
  have mf7 := own_Sta_keep p_0 M4_0 ns0
  have mf8 := p_1.keep M4_0
  have mf9 := own_Sta_keep p_2 M4_0 ns0
  have mf10 := p_3.keep M4_0 nin0
  have mf11 := own_Sta_keep p_10 M4_0 ns0
  obtain ⟨_, _, ⟨T6, L6, k6, n6⟩, -, X6, hSn6, hgn6, ⟨Lc6, hQ6, l6, y6, z6, hC6⟩, st6⟩ := X4.specialBackS hx (y := yy33) rfl hown (own_mw hZ hw 36 rfl) (own_mw hZ hw 37 rfl) (own_mw hZ hw 38 rfl) (by decide) (own_backH (sl := []) (W := 1) (rm8 l Z a0 hw [] hEL (b1) (x2_y) (x4_y) (x2_d) (x2_kd) (x2_z9) (x2_vs9) (x4_d) (x4_kd) (x4_z9) (x4_vs9) (ci) (ca) (ka) (cs) T4.heap n0 Zs4 f4_0 f4_1 f4_2 gg1 f4_3 f4_4 f4_5 f4_6 u4_2 u4_3 u4_4 u4_5 mf7 mf8 mf9 mf10 mf11 (by assumption) u2_6 u4_6) hZ (own_w hw 38 rfl) (own_w hw 2 rfl) (by decide) (by decide) hEL C4.1 own_sn) (g := (mkF m 113 #[iv p1, iv p2, iv p3, iv np, iv ni, iv j5, iv j6, iv j7, iv j8, iv j9, iv j10, iv j11, iv j12, iv j13, iv j14, oU, oU, oU, oU, oU, oU, oU, oU, oU, oU] [(.ref x4_y), (.ref x2_y), (.ref b1), (.ref b1)])) rfl (by rw [hml]; rfl) (Steps.refl _) (a := b1) (argsL := [(.ref x2_y), (.ref x4_y)]) (rest := [(.ref b1)]) (lenOf pd_24 rfl) rfl (own_bl rfl) (hb hby at_113) (fun _ _ => ⟨rfl, rfl, own_bl rfl, own_bl rfl⟩)
  dsimp only [Pt.U, Pt.locs, Pt.cells, Pt.slots] at X6 l6 y6 z6 st6 hQ6 hSn6 hgn6 hC6
  subst l6 y6 z6
  have X6 : Stand p l e room_1 (s.setVm T6.vm) m _ below meth c T6 _ _ _ := X6
  have hS6 := foldS hS0 Ks4 hSn6 hgn6
  have hown : (s.setVm T6.vm).vm.findClass "com/example/firm_duties/firmduties/BusinessContextMatchesPinLaw" = some m.cls := by rw [show (s.setVm T6.vm).vm = T6.vm from rfl, hSn6.1.alike.findClass]; exact hown
  obtain ⟨rfl, Nq6, Kq6, u6_0, u6_1, u6_2⟩ := hQ6
  have N6 := Fr.app N4 Nq6
  have hZ : Z.Warmed39 (s.setVm T6.vm).vm := State.Warmed39.trans (t := (s.setVm s.vm)) hZ hSn6.1
  have f6_0 := f4_0.keep Kq6
  have f6_3 := f4_3.keep Kq6
  have n2_b1y := own_nk A1.lt u2_0
  have f6_4 := f4_4.keep Kq6 (ninS (Ne.symm n2_b1y) nin0)
  have f6_5 := f4_5.keep Kq6 (ninS (Ne.symm n2_b1y) nin0)
  have n2_b1d := own_nk A1.lt u2_1
  have f6_6 := f4_6.keep Kq6 (ninS (Ne.symm n2_b1d) nin0)
  have f6_7 := u4_2.keep Kq6
  have n4_b1y := own_nk f2_0.lt u4_0
  have f6_8 := u4_3.keep Kq6 (ninS (Ne.symm n4_b1y) nin0)
  have f6_9 := u4_4.keep Kq6 (ninS (Ne.symm n4_b1y) nin0)
  have n4_b1d := own_nk f2_0.lt u4_1
  have f6_10 := u4_5.keep Kq6 (ninS (Ne.symm n4_b1d) nin0)
  have ms1_0 := Nat.le_trans (Keep.refl h0 []).1 (Nat.le_of_eq gx1.symm)
  have M6_0 := M4_0.trans Kq6 (allS (Or.inr ms1_0) all0)
  have C6 := C4.trans hC6
  have Ks6 := Nat.le_trans Ks4 Kq6.1
  have Zs6 : n0 ≤ T6.heap.size := Nat.le_trans Zs4 Kq6.1
  refine own_sTH st6 ?_
  clear st6 X4
  refine own_stH (fun _ kk_ => XS.astore X6.here hx rfl (hb hby at_116) rfl rfl (l' := #[iv p1, iv p2, iv p3, iv np, iv ni, iv j5, iv j6, iv j7, iv j8, iv j9, iv j10, iv j11, iv j12, iv j13, iv j14, rv b1, oU, oU, oU, oU, oU, oU, oU, oU, oU]) rfl kk_) ?_
  show gH T6 (mkF m 118 #[iv p1, iv p2, iv p3, iv np, iv ni, iv j5, iv j6, iv j7, iv j8, iv j9, iv j10, iv j11, iv j12, iv j13, iv j14, rv b1, oU, oU, oU, oU, oU, oU, oU, oU, oU] [])
  obtain ⟨T12, h12, X12, e12, E12, A12, D12, -, st12⟩ := newO X6 hx hZ hown (own_w hw 0 rfl) (own_w hw 1 rfl) (own_w hw 2 rfl) rfl (g := (mkF m 118 #[iv p1, iv p2, iv p3, iv np, iv ni, iv j5, iv j6, iv j7, iv j8, iv j9, iv j10, iv j11, iv j12, iv j13, iv j14, rv b1, oU, oU, oU, oU, oU, oU, oU, oU, oU] [])) rfl (hb hby at_118) (by decide) (by decide)
  obtain ⟨b12, gx12⟩ : ∃ z, z = T6.heap.size := ⟨_, rfl⟩
  rw [← gx12] at A12 D12 st12
  have M12_0 := M6_0.ext E12
  have M12_1 := (Keep.refl T6.heap []).ext E12
  have C12 := C6.trans (CHr.ext E12 C6.1)
  have Zs12 : n0 ≤ h12.size := Nat.le_trans Zs6 E12.1
  have Ks12 := Nat.le_trans (Nat.le_refl T6.heap.size) E12.1
  have fn12_type : Fld Z h12 b12 "com/example/firm_duties/firmduties/BusinessContext$Pair" "type" "Ljava/lang/String;" .null := D12 (Or.inr (own_w hw 139 rfl)) (ty := (.object "java/lang/String")) (by decide)
  have fn12_value : Fld Z h12 b12 "com/example/firm_duties/firmduties/BusinessContext$Pair" "value" "Ljava/lang/String;" .null := D12 (Or.inr (own_w hw 141 rfl)) (ty := (.object "java/lang/String")) (by decide)
  refine own_stH st12 ?_
  clear st12 X6
  refine own_stH (fun _ kk_ => XS.dup X12.here hx rfl (hb hby at_121) rfl rfl (XS.iload X12.here hx rfl (hb hby at_122) rfl kk_)) ?_
  show gH T12 (mkF m 124 #[iv p1, iv p2, iv p3, iv np, iv ni, iv j5, iv j6, iv j7, iv j8, iv j9, iv j10, iv j11, iv j12, iv j13, iv j14, rv b1, oU, oU, oU, oU, oU, oU, oU, oU, oU] [(.int j7), (.ref b12), (.ref b12)])
  have mf14 := own_Sta_keep p_10 M12_0 ns0
  obtain ⟨T13, L13, v13, X13, hQ13, st13⟩ := own_cutA (Jvm.LawKit.callS X12 hx (y := yy31) hown (own_mw hZ hw 3 rfl) (own_mw hZ hw 4 rfl) (own_mw hZ hw 5 rfl) (own_mw hZ hw 6 rfl) (by decide) (backOf (W := 2) (rm1 l Z a0 hw (j7) (cs) h12 n0 Zs12 mf14 (by assumption)) hZ (own_w hw 6 rfl) (own_w hw 5 rfl) (by decide) (by decide)) (g := (mkF m 124 #[iv p1, iv p2, iv p3, iv np, iv ni, iv j5, iv j6, iv j7, iv j8, iv j9, iv j10, iv j11, iv j12, iv j13, iv j14, rv b1, oU, oU, oU, oU, oU, oU, oU, oU, oU] [(.int j7), (.ref b12), (.ref b12)])) rfl (by rw [hml]; rfl) (argsL := [(.int j7)]) (rest := [(.ref b12), (.ref b12)]) (lenOf pd_38 rfl) rfl (own_bl rfl) (hb hby at_124) (fun _ _ => ⟨rfl, e12, own_bl rfl, own_bl rfl⟩))
  obtain ⟨x13_y, x13_d, x13_kd, x13_z9, x13_vs9, rfl, Nq13, Kq13, u13_0, u13_1, u13_2, u13_3, u13_4, u13_5, u13_6, u13_7⟩ := hQ13
  have N13 := Fr.app N6 Nq13
  have f13_0 := A12.keep Kq13
  have f13_1 := fn12_type.keep Kq13 nin0
  have f13_2 := fn12_value.keep Kq13 nin0
  have M13_0 := M12_0.trans Kq13 all0
  have M13_1 := M12_1.trans Kq13 all0
  have C13 := C12.trans (CHr.keep Kq13 sf0 C12.1)
  have Ks13 := Nat.le_trans Ks12 Kq13.1
  have Zs13 : n0 ≤ T13.heap.size := Nat.le_trans Zs12 Kq13.1
  refine own_stH st13 ?_
  clear st13 X12
  refine own_stH (fun _ kk_ => XS.iload X13.here hx rfl (hb hby at_127) rfl kk_) ?_
  show gH T13 (mkF m 129 #[iv p1, iv p2, iv p3, iv np, iv ni, iv j5, iv j6, iv j7, iv j8, iv j9, iv j10, iv j11, iv j12, iv j13, iv j14, rv b1, oU, oU, oU, oU, oU, oU, oU, oU, oU] [(.int j8), (.ref x13_y), (.ref b12), (.ref b12)])
  have mf16 := own_Sta_keep p_10 M13_0 ns0
  obtain ⟨T15, L15, v15, X15, hQ15, st15⟩ := own_cutA (Jvm.LawKit.callS X13 hx (y := yy31) hown (own_mw hZ hw 3 rfl) (own_mw hZ hw 4 rfl) (own_mw hZ hw 5 rfl) (own_mw hZ hw 6 rfl) (by decide) (backOf (W := 3) (rm1 l Z a0 hw (j8) (cs) T13.heap n0 Zs13 mf16 (by assumption)) hZ (own_w hw 6 rfl) (own_w hw 5 rfl) (by decide) (by decide)) (g := (mkF m 129 #[iv p1, iv p2, iv p3, iv np, iv ni, iv j5, iv j6, iv j7, iv j8, iv j9, iv j10, iv j11, iv j12, iv j13, iv j14, rv b1, oU, oU, oU, oU, oU, oU, oU, oU, oU] [(.int j8), (.ref x13_y), (.ref b12), (.ref b12)])) rfl (by rw [hml]; rfl) (argsL := [(.int j8)]) (rest := [(.ref x13_y), (.ref b12), (.ref b12)]) (lenOf pd_38 rfl) rfl (own_bl rfl) (hb hby at_129) (fun _ _ => ⟨rfl, rfl, own_bl rfl, own_bl rfl⟩))
  obtain ⟨x15_y, x15_d, x15_kd, x15_z9, x15_vs9, rfl, Nq15, Kq15, u15_0, u15_1, u15_2, u15_3, u15_4, u15_5, u15_6, u15_7⟩ := hQ15
  have N15 := Fr.app N13 Nq15
  have f15_0 := f13_0.keep Kq15
  have f15_1 := f13_1.keep Kq15 nin0
  have f15_2 := f13_2.keep Kq15 nin0
  have f15_3 := u13_2.keep Kq15
  have f15_4 := u13_3.keep Kq15 nin0
  have f15_5 := u13_4.keep Kq15 nin0
  have f15_6 := u13_5.keep Kq15 nin0
  have M15_0 := M13_0.trans Kq15 all0
  have M15_1 := M13_1.trans Kq15 all0
  have C15 := C13.trans (CHr.keep Kq15 sf0 C13.1)
  have Ks15 := Nat.le_trans Ks13 Kq15.1
  have Zs15 : n0 ≤ T15.heap.size := Nat.le_trans Zs13 Kq15.1
  refine own_stH st15 ?_
  clear st15 X13
  have gg12 := Nat.le_trans Zs6 (Nat.le_of_eq gx12.symm)
  have mf18 := own_Sta_keep p_0 M15_0 ns0
  have mf19 := p_1.keep M15_0
  have mf20 := own_Sta_keep p_2 M15_0 ns0
  have mf21 := p_3.keep M15_0 nin0
  have mf22 := own_Sta_keep p_10 M15_0 ns0
  obtain ⟨_, _, ⟨T17, L17, k17, n17⟩, -, X17, hSn17, hgn17, ⟨Lc17, hQ17, l17, y17, z17, hC17⟩, st17⟩ := X15.specialBackS hx (y := yy33) rfl hown (own_mw hZ hw 36 rfl) (own_mw hZ hw 37 rfl) (own_mw hZ hw 38 rfl) (by decide) (own_backH (sl := []) (W := 1) (rm8 l Z a0 hw [] hEL (b12) (x13_y) (x15_y) (x13_d) (x13_kd) (x13_z9) (x13_vs9) (x15_d) (x15_kd) (x15_z9) (x15_vs9) (ci) (ca) (ka) (cs) T15.heap n0 Zs15 f15_0 f15_1 f15_2 gg12 f15_3 f15_4 f15_5 f15_6 u15_2 u15_3 u15_4 u15_5 mf18 mf19 mf20 mf21 mf22 (by assumption) u13_6 u15_6) hZ (own_w hw 38 rfl) (own_w hw 2 rfl) (by decide) (by decide) hEL C15.1 own_sn) (g := (mkF m 132 #[iv p1, iv p2, iv p3, iv np, iv ni, iv j5, iv j6, iv j7, iv j8, iv j9, iv j10, iv j11, iv j12, iv j13, iv j14, rv b1, oU, oU, oU, oU, oU, oU, oU, oU, oU] [(.ref x15_y), (.ref x13_y), (.ref b12), (.ref b12)])) rfl (by rw [hml]; rfl) (Steps.refl _) (a := b12) (argsL := [(.ref x13_y), (.ref x15_y)]) (rest := [(.ref b12)]) (lenOf pd_24 rfl) rfl (own_bl rfl) (hb hby at_132) (fun _ _ => ⟨rfl, rfl, own_bl rfl, own_bl rfl⟩)
  dsimp only [Pt.U, Pt.locs, Pt.cells, Pt.slots] at X17 l17 y17 z17 st17 hQ17 hSn17 hgn17 hC17
  subst l17 y17 z17
  have X17 : Stand p l e room_1 (s.setVm T17.vm) m _ below meth c T17 _ _ _ := X17
  have hS17 := foldS hS6 Ks15 hSn17 hgn17
  have hown : (s.setVm T17.vm).vm.findClass "com/example/firm_duties/firmduties/BusinessContextMatchesPinLaw" = some m.cls := by rw [show (s.setVm T17.vm).vm = T17.vm from rfl, hSn17.1.alike.findClass]; exact hown
  obtain ⟨rfl, Nq17, Kq17, u17_0, u17_1, u17_2⟩ := hQ17
  have N17 := Fr.app N15 Nq17
  have hZ : Z.Warmed39 (s.setVm T17.vm).vm := State.Warmed39.trans (t := (s.setVm T6.vm)) hZ hSn17.1
  have f17_0 := f15_0.keep Kq17
  have f17_3 := f15_3.keep Kq17
  have n13_b12y := own_nk A12.lt u13_0
  have f17_4 := f15_4.keep Kq17 (ninS (Ne.symm n13_b12y) nin0)
  have f17_5 := f15_5.keep Kq17 (ninS (Ne.symm n13_b12y) nin0)
  have n13_b12d := own_nk A12.lt u13_1
  have f17_6 := f15_6.keep Kq17 (ninS (Ne.symm n13_b12d) nin0)
  have f17_7 := u15_2.keep Kq17
  have n15_b12y := own_nk f13_0.lt u15_0
  have f17_8 := u15_3.keep Kq17 (ninS (Ne.symm n15_b12y) nin0)
  have f17_9 := u15_4.keep Kq17 (ninS (Ne.symm n15_b12y) nin0)
  have n15_b12d := own_nk f13_0.lt u15_1
  have f17_10 := u15_5.keep Kq17 (ninS (Ne.symm n15_b12d) nin0)
  have ms12_0 := Nat.le_trans M6_0.1 (Nat.le_of_eq gx12.symm)
  have M17_0 := M15_0.trans Kq17 (allS (Or.inr ms12_0) all0)
  have ms12_1 := Nat.le_trans (Keep.refl T6.heap []).1 (Nat.le_of_eq gx12.symm)
  have M17_1 := M15_1.trans Kq17 (allS (Or.inr ms12_1) all0)
  have C17 := C15.trans hC17
  have Ks17 := Nat.le_trans Ks15 Kq17.1
  have Zs17 : n0 ≤ T17.heap.size := Nat.le_trans Zs15 Kq17.1
  refine own_sTH st17 ?_
  clear st17 X15
  refine own_stH (fun _ kk_ => XS.astore X17.here hx rfl (hb hby at_135) rfl rfl (l' := #[iv p1, iv p2, iv p3, iv np, iv ni, iv j5, iv j6, iv j7, iv j8, iv j9, iv j10, iv j11, iv j12, iv j13, iv j14, rv b1, rv b12, oU, oU, oU, oU, oU, oU, oU, oU]) rfl kk_) ?_
  show gH T17 (mkF m 137 #[iv p1, iv p2, iv p3, iv np, iv ni, iv j5, iv j6, iv j7, iv j8, iv j9, iv j10, iv j11, iv j12, iv j13, iv j14, rv b1, rv b12, oU, oU, oU, oU, oU, oU, oU, oU] [])
  obtain ⟨T23, h23, X23, e23, E23, A23, D23, -, st23⟩ := newO X17 hx hZ hown (own_w hw 0 rfl) (own_w hw 1 rfl) (own_w hw 2 rfl) rfl (g := (mkF m 137 #[iv p1, iv p2, iv p3, iv np, iv ni, iv j5, iv j6, iv j7, iv j8, iv j9, iv j10, iv j11, iv j12, iv j13, iv j14, rv b1, rv b12, oU, oU, oU, oU, oU, oU, oU, oU] [])) rfl (hb hby at_137) (by decide) (by decide)
  obtain ⟨b23, gx23⟩ : ∃ z, z = T17.heap.size := ⟨_, rfl⟩
  rw [← gx23] at A23 D23 st23
  have M23_0 := M17_0.ext E23
  have M23_1 := M17_1.ext E23
  have M23_2 := (Keep.refl T17.heap []).ext E23
  have C23 := C17.trans (CHr.ext E23 C17.1)
  have Zs23 : n0 ≤ h23.size := Nat.le_trans Zs17 E23.1
  have Ks23 := Nat.le_trans (Nat.le_refl T17.heap.size) E23.1
  have fn23_type : Fld Z h23 b23 "com/example/firm_duties/firmduties/BusinessContext$Pair" "type" "Ljava/lang/String;" .null := D23 (Or.inr (own_w hw 139 rfl)) (ty := (.object "java/lang/String")) (by decide)
  have fn23_value : Fld Z h23 b23 "com/example/firm_duties/firmduties/BusinessContext$Pair" "value" "Ljava/lang/String;" .null := D23 (Or.inr (own_w hw 141 rfl)) (ty := (.object "java/lang/String")) (by decide)
  refine own_stH st23 ?_
  clear st23 X17
  refine own_stH (fun _ kk_ => XS.dup X23.here hx rfl (hb hby at_140) rfl rfl (XS.iload X23.here hx rfl (hb hby at_141) rfl kk_)) ?_
  show gH T23 (mkF m 143 #[iv p1, iv p2, iv p3, iv np, iv ni, iv j5, iv j6, iv j7, iv j8, iv j9, iv j10, iv j11, iv j12, iv j13, iv j14, rv b1, rv b12, oU, oU, oU, oU, oU, oU, oU, oU] [(.int j9), (.ref b23), (.ref b23)])
  have mf25 := own_Sta_keep p_10 M23_0 ns0
  obtain ⟨T24, L24, v24, X24, hQ24, st24⟩ := own_cutA (Jvm.LawKit.callS X23 hx (y := yy31) hown (own_mw hZ hw 3 rfl) (own_mw hZ hw 4 rfl) (own_mw hZ hw 5 rfl) (own_mw hZ hw 6 rfl) (by decide) (backOf (W := 2) (rm1 l Z a0 hw (j9) (cs) h23 n0 Zs23 mf25 (by assumption)) hZ (own_w hw 6 rfl) (own_w hw 5 rfl) (by decide) (by decide)) (g := (mkF m 143 #[iv p1, iv p2, iv p3, iv np, iv ni, iv j5, iv j6, iv j7, iv j8, iv j9, iv j10, iv j11, iv j12, iv j13, iv j14, rv b1, rv b12, oU, oU, oU, oU, oU, oU, oU, oU] [(.int j9), (.ref b23), (.ref b23)])) rfl (by rw [hml]; rfl) (argsL := [(.int j9)]) (rest := [(.ref b23), (.ref b23)]) (lenOf pd_38 rfl) rfl (own_bl rfl) (hb hby at_143) (fun _ _ => ⟨rfl, e23, own_bl rfl, own_bl rfl⟩))
  obtain ⟨x24_y, x24_d, x24_kd, x24_z9, x24_vs9, rfl, Nq24, Kq24, u24_0, u24_1, u24_2, u24_3, u24_4, u24_5, u24_6, u24_7⟩ := hQ24
  have N24 := Fr.app N17 Nq24
  have f24_0 := A23.keep Kq24
  have f24_1 := fn23_type.keep Kq24 nin0
  have f24_2 := fn23_value.keep Kq24 nin0
  have M24_0 := M23_0.trans Kq24 all0
  have M24_1 := M23_1.trans Kq24 all0
  have M24_2 := M23_2.trans Kq24 all0
  have C24 := C23.trans (CHr.keep Kq24 sf0 C23.1)
  have Ks24 := Nat.le_trans Ks23 Kq24.1
  have Zs24 : n0 ≤ T24.heap.size := Nat.le_trans Zs23 Kq24.1
  refine own_stH st24 ?_
  clear st24 X23
  refine own_stH (fun _ kk_ => XS.iload X24.here hx rfl (hb hby at_146) rfl kk_) ?_
  show gH T24 (mkF m 148 #[iv p1, iv p2, iv p3, iv np, iv ni, iv j5, iv j6, iv j7, iv j8, iv j9, iv j10, iv j11, iv j12, iv j13, iv j14, rv b1, rv b12, oU, oU, oU, oU, oU, oU, oU, oU] [(.int j10), (.ref x24_y), (.ref b23), (.ref b23)])
  have mf27 := own_Sta_keep p_10 M24_0 ns0
  obtain ⟨T26, L26, v26, X26, hQ26, st26⟩ := own_cutA (Jvm.LawKit.callS X24 hx (y := yy31) hown (own_mw hZ hw 3 rfl) (own_mw hZ hw 4 rfl) (own_mw hZ hw 5 rfl) (own_mw hZ hw 6 rfl) (by decide) (backOf (W := 3) (rm1 l Z a0 hw (j10) (cs) T24.heap n0 Zs24 mf27 (by assumption)) hZ (own_w hw 6 rfl) (own_w hw 5 rfl) (by decide) (by decide)) (g := (mkF m 148 #[iv p1, iv p2, iv p3, iv np, iv ni, iv j5, iv j6, iv j7, iv j8, iv j9, iv j10, iv j11, iv j12, iv j13, iv j14, rv b1, rv b12, oU, oU, oU, oU, oU, oU, oU, oU] [(.int j10), (.ref x24_y), (.ref b23), (.ref b23)])) rfl (by rw [hml]; rfl) (argsL := [(.int j10)]) (rest := [(.ref x24_y), (.ref b23), (.ref b23)]) (lenOf pd_38 rfl) rfl (own_bl rfl) (hb hby at_148) (fun _ _ => ⟨rfl, rfl, own_bl rfl, own_bl rfl⟩))
  obtain ⟨x26_y, x26_d, x26_kd, x26_z9, x26_vs9, rfl, Nq26, Kq26, u26_0, u26_1, u26_2, u26_3, u26_4, u26_5, u26_6, u26_7⟩ := hQ26
  have N26 := Fr.app N24 Nq26
  have f26_0 := f24_0.keep Kq26
  have f26_1 := f24_1.keep Kq26 nin0
  have f26_2 := f24_2.keep Kq26 nin0
  have f26_3 := u24_2.keep Kq26
  have f26_4 := u24_3.keep Kq26 nin0
  have f26_5 := u24_4.keep Kq26 nin0
  have f26_6 := u24_5.keep Kq26 nin0
  have M26_0 := M24_0.trans Kq26 all0
  have M26_1 := M24_1.trans Kq26 all0
  have M26_2 := M24_2.trans Kq26 all0
  have C26 := C24.trans (CHr.keep Kq26 sf0 C24.1)
  have Ks26 := Nat.le_trans Ks24 Kq26.1
  have Zs26 : n0 ≤ T26.heap.size := Nat.le_trans Zs24 Kq26.1
  refine own_stH st26 ?_
  clear st26 X24
  have gg23 := Nat.le_trans Zs17 (Nat.le_of_eq gx23.symm)
  have mf29 := own_Sta_keep p_0 M26_0 ns0
  have mf30 := p_1.keep M26_0
  have mf31 := own_Sta_keep p_2 M26_0 ns0
  have mf32 := p_3.keep M26_0 nin0
  have mf33 := own_Sta_keep p_10 M26_0 ns0
  obtain ⟨_, _, ⟨T28, L28, k28, n28⟩, -, X28, hSn28, hgn28, ⟨Lc28, hQ28, l28, y28, z28, hC28⟩, st28⟩ := X26.specialBackS hx (y := yy33) rfl hown (own_mw hZ hw 36 rfl) (own_mw hZ hw 37 rfl) (own_mw hZ hw 38 rfl) (by decide) (own_backH (sl := []) (W := 1) (rm8 l Z a0 hw [] hEL (b23) (x24_y) (x26_y) (x24_d) (x24_kd) (x24_z9) (x24_vs9) (x26_d) (x26_kd) (x26_z9) (x26_vs9) (ci) (ca) (ka) (cs) T26.heap n0 Zs26 f26_0 f26_1 f26_2 gg23 f26_3 f26_4 f26_5 f26_6 u26_2 u26_3 u26_4 u26_5 mf29 mf30 mf31 mf32 mf33 (by assumption) u24_6 u26_6) hZ (own_w hw 38 rfl) (own_w hw 2 rfl) (by decide) (by decide) hEL C26.1 own_sn) (g := (mkF m 151 #[iv p1, iv p2, iv p3, iv np, iv ni, iv j5, iv j6, iv j7, iv j8, iv j9, iv j10, iv j11, iv j12, iv j13, iv j14, rv b1, rv b12, oU, oU, oU, oU, oU, oU, oU, oU] [(.ref x26_y), (.ref x24_y), (.ref b23), (.ref b23)])) rfl (by rw [hml]; rfl) (Steps.refl _) (a := b23) (argsL := [(.ref x24_y), (.ref x26_y)]) (rest := [(.ref b23)]) (lenOf pd_24 rfl) rfl (own_bl rfl) (hb hby at_151) (fun _ _ => ⟨rfl, rfl, own_bl rfl, own_bl rfl⟩)
  dsimp only [Pt.U, Pt.locs, Pt.cells, Pt.slots] at X28 l28 y28 z28 st28 hQ28 hSn28 hgn28 hC28
  subst l28 y28 z28
  have X28 : Stand p l e room_1 (s.setVm T28.vm) m _ below meth c T28 _ _ _ := X28
  have hS28 := foldS hS17 Ks26 hSn28 hgn28
  have hown : (s.setVm T28.vm).vm.findClass "com/example/firm_duties/firmduties/BusinessContextMatchesPinLaw" = some m.cls := by rw [show (s.setVm T28.vm).vm = T28.vm from rfl, hSn28.1.alike.findClass]; exact hown
  obtain ⟨rfl, Nq28, Kq28, u28_0, u28_1, u28_2⟩ := hQ28
  have N28 := Fr.app N26 Nq28
  have hZ : Z.Warmed39 (s.setVm T28.vm).vm := State.Warmed39.trans (t := (s.setVm T17.vm)) hZ hSn28.1
  have f28_0 := f26_0.keep Kq28
  have f28_3 := f26_3.keep Kq28
  have n24_b23y := own_nk A23.lt u24_0
  have f28_4 := f26_4.keep Kq28 (ninS (Ne.symm n24_b23y) nin0)
  have f28_5 := f26_5.keep Kq28 (ninS (Ne.symm n24_b23y) nin0)
  have n24_b23d := own_nk A23.lt u24_1
  have f28_6 := f26_6.keep Kq28 (ninS (Ne.symm n24_b23d) nin0)
  have f28_7 := u26_2.keep Kq28
  have n26_b23y := own_nk f24_0.lt u26_0
  have f28_8 := u26_3.keep Kq28 (ninS (Ne.symm n26_b23y) nin0)
  have f28_9 := u26_4.keep Kq28 (ninS (Ne.symm n26_b23y) nin0)
  have n26_b23d := own_nk f24_0.lt u26_1
  have f28_10 := u26_5.keep Kq28 (ninS (Ne.symm n26_b23d) nin0)
  have ms23_0 := Nat.le_trans M17_0.1 (Nat.le_of_eq gx23.symm)
  have M28_0 := M26_0.trans Kq28 (allS (Or.inr ms23_0) all0)
  have ms23_1 := Nat.le_trans M17_1.1 (Nat.le_of_eq gx23.symm)
  have M28_1 := M26_1.trans Kq28 (allS (Or.inr ms23_1) all0)
  have ms23_2 := Nat.le_trans (Keep.refl T17.heap []).1 (Nat.le_of_eq gx23.symm)
  have M28_2 := M26_2.trans Kq28 (allS (Or.inr ms23_2) all0)
  have C28 := C26.trans hC28
  have Ks28 := Nat.le_trans Ks26 Kq28.1
  have Zs28 : n0 ≤ T28.heap.size := Nat.le_trans Zs26 Kq28.1
  refine own_sTH st28 ?_
  clear st28 X26
  refine own_stH (fun _ kk_ => XS.astore X28.here hx rfl (hb hby at_154) rfl rfl (l' := #[iv p1, iv p2, iv p3, iv np, iv ni, iv j5, iv j6, iv j7, iv j8, iv j9, iv j10, iv j11, iv j12, iv j13, iv j14, rv b1, rv b12, rv b23, oU, oU, oU, oU, oU, oU, oU]) rfl kk_) ?_
  show gH T28 (mkF m 156 #[iv p1, iv p2, iv p3, iv np, iv ni, iv j5, iv j6, iv j7, iv j8, iv j9, iv j10, iv j11, iv j12, iv j13, iv j14, rv b1, rv b12, rv b23, oU, oU, oU, oU, oU, oU, oU] [])
  obtain ⟨T34, h34, X34, e34, E34, A34, D34, -, st34⟩ := newO X28 hx hZ hown (own_w hw 0 rfl) (own_w hw 1 rfl) (own_w hw 2 rfl) rfl (g := (mkF m 156 #[iv p1, iv p2, iv p3, iv np, iv ni, iv j5, iv j6, iv j7, iv j8, iv j9, iv j10, iv j11, iv j12, iv j13, iv j14, rv b1, rv b12, rv b23, oU, oU, oU, oU, oU, oU, oU] [])) rfl (hb hby at_156) (by decide) (by decide)
  obtain ⟨b34, gx34⟩ : ∃ z, z = T28.heap.size := ⟨_, rfl⟩
  rw [← gx34] at A34 D34 st34
  have M34_0 := M28_0.ext E34
  have M34_1 := M28_1.ext E34
  have M34_2 := M28_2.ext E34
  have M34_3 := (Keep.refl T28.heap []).ext E34
  have C34 := C28.trans (CHr.ext E34 C28.1)
  have Zs34 : n0 ≤ h34.size := Nat.le_trans Zs28 E34.1
  have Ks34 := Nat.le_trans (Nat.le_refl T28.heap.size) E34.1
  have fn34_type : Fld Z h34 b34 "com/example/firm_duties/firmduties/BusinessContext$Pair" "type" "Ljava/lang/String;" .null := D34 (Or.inr (own_w hw 139 rfl)) (ty := (.object "java/lang/String")) (by decide)
  have fn34_value : Fld Z h34 b34 "com/example/firm_duties/firmduties/BusinessContext$Pair" "value" "Ljava/lang/String;" .null := D34 (Or.inr (own_w hw 141 rfl)) (ty := (.object "java/lang/String")) (by decide)
  refine own_stH st34 ?_
  clear st34 X28
  refine own_stH (fun _ kk_ => XS.dup X34.here hx rfl (hb hby at_159) rfl rfl (XS.iload X34.here hx rfl (hb hby at_160) rfl kk_)) ?_
  show gH T34 (mkF m 162 #[iv p1, iv p2, iv p3, iv np, iv ni, iv j5, iv j6, iv j7, iv j8, iv j9, iv j10, iv j11, iv j12, iv j13, iv j14, rv b1, rv b12, rv b23, oU, oU, oU, oU, oU, oU, oU] [(.int j11), (.ref b34), (.ref b34)])
  have mf36 := own_Sta_keep p_10 M34_0 ns0
  obtain ⟨T35, L35, v35, X35, hQ35, st35⟩ := own_cutA (Jvm.LawKit.callS X34 hx (y := yy31) hown (own_mw hZ hw 3 rfl) (own_mw hZ hw 4 rfl) (own_mw hZ hw 5 rfl) (own_mw hZ hw 6 rfl) (by decide) (backOf (W := 2) (rm1 l Z a0 hw (j11) (cs) h34 n0 Zs34 mf36 (by assumption)) hZ (own_w hw 6 rfl) (own_w hw 5 rfl) (by decide) (by decide)) (g := (mkF m 162 #[iv p1, iv p2, iv p3, iv np, iv ni, iv j5, iv j6, iv j7, iv j8, iv j9, iv j10, iv j11, iv j12, iv j13, iv j14, rv b1, rv b12, rv b23, oU, oU, oU, oU, oU, oU, oU] [(.int j11), (.ref b34), (.ref b34)])) rfl (by rw [hml]; rfl) (argsL := [(.int j11)]) (rest := [(.ref b34), (.ref b34)]) (lenOf pd_38 rfl) rfl (own_bl rfl) (hb hby at_162) (fun _ _ => ⟨rfl, e34, own_bl rfl, own_bl rfl⟩))
  obtain ⟨x35_y, x35_d, x35_kd, x35_z9, x35_vs9, rfl, Nq35, Kq35, u35_0, u35_1, u35_2, u35_3, u35_4, u35_5, u35_6, u35_7⟩ := hQ35
  have N35 := Fr.app N28 Nq35
  have f35_0 := A34.keep Kq35
  have f35_1 := fn34_type.keep Kq35 nin0
  have f35_2 := fn34_value.keep Kq35 nin0
  have M35_0 := M34_0.trans Kq35 all0
  have M35_1 := M34_1.trans Kq35 all0
  have M35_2 := M34_2.trans Kq35 all0
  have M35_3 := M34_3.trans Kq35 all0
  have C35 := C34.trans (CHr.keep Kq35 sf0 C34.1)
  have Ks35 := Nat.le_trans Ks34 Kq35.1
  have Zs35 : n0 ≤ T35.heap.size := Nat.le_trans Zs34 Kq35.1
  refine own_stH st35 ?_
  clear st35 X34
  refine own_stH (fun _ kk_ => XS.iload X35.here hx rfl (hb hby at_165) rfl kk_) ?_
  show gH T35 (mkF m 167 #[iv p1, iv p2, iv p3, iv np, iv ni, iv j5, iv j6, iv j7, iv j8, iv j9, iv j10, iv j11, iv j12, iv j13, iv j14, rv b1, rv b12, rv b23, oU, oU, oU, oU, oU, oU, oU] [(.int j12), (.ref x35_y), (.ref b34), (.ref b34)])
  have mf38 := own_Sta_keep p_10 M35_0 ns0
  obtain ⟨T37, L37, v37, X37, hQ37, st37⟩ := own_cutA (Jvm.LawKit.callS X35 hx (y := yy31) hown (own_mw hZ hw 3 rfl) (own_mw hZ hw 4 rfl) (own_mw hZ hw 5 rfl) (own_mw hZ hw 6 rfl) (by decide) (backOf (W := 3) (rm1 l Z a0 hw (j12) (cs) T35.heap n0 Zs35 mf38 (by assumption)) hZ (own_w hw 6 rfl) (own_w hw 5 rfl) (by decide) (by decide)) (g := (mkF m 167 #[iv p1, iv p2, iv p3, iv np, iv ni, iv j5, iv j6, iv j7, iv j8, iv j9, iv j10, iv j11, iv j12, iv j13, iv j14, rv b1, rv b12, rv b23, oU, oU, oU, oU, oU, oU, oU] [(.int j12), (.ref x35_y), (.ref b34), (.ref b34)])) rfl (by rw [hml]; rfl) (argsL := [(.int j12)]) (rest := [(.ref x35_y), (.ref b34), (.ref b34)]) (lenOf pd_38 rfl) rfl (own_bl rfl) (hb hby at_167) (fun _ _ => ⟨rfl, rfl, own_bl rfl, own_bl rfl⟩))
  obtain ⟨x37_y, x37_d, x37_kd, x37_z9, x37_vs9, rfl, Nq37, Kq37, u37_0, u37_1, u37_2, u37_3, u37_4, u37_5, u37_6, u37_7⟩ := hQ37
  have N37 := Fr.app N35 Nq37
  have f37_0 := f35_0.keep Kq37
  have f37_1 := f35_1.keep Kq37 nin0
  have f37_2 := f35_2.keep Kq37 nin0
  have f37_3 := u35_2.keep Kq37
  have f37_4 := u35_3.keep Kq37 nin0
  have f37_5 := u35_4.keep Kq37 nin0
  have f37_6 := u35_5.keep Kq37 nin0
  have M37_0 := M35_0.trans Kq37 all0
  have M37_1 := M35_1.trans Kq37 all0
  have M37_2 := M35_2.trans Kq37 all0
  have M37_3 := M35_3.trans Kq37 all0
  have C37 := C35.trans (CHr.keep Kq37 sf0 C35.1)
  have Ks37 := Nat.le_trans Ks35 Kq37.1
  have Zs37 : n0 ≤ T37.heap.size := Nat.le_trans Zs35 Kq37.1
  refine own_stH st37 ?_
  clear st37 X35
  have gg34 := Nat.le_trans Zs28 (Nat.le_of_eq gx34.symm)
  have mf40 := own_Sta_keep p_0 M37_0 ns0
  have mf41 := p_1.keep M37_0
  have mf42 := own_Sta_keep p_2 M37_0 ns0
  have mf43 := p_3.keep M37_0 nin0
  have mf44 := own_Sta_keep p_10 M37_0 ns0
  obtain ⟨_, _, ⟨T39, L39, k39, n39⟩, -, X39, hSn39, hgn39, ⟨Lc39, hQ39, l39, y39, z39, hC39⟩, st39⟩ := X37.specialBackS hx (y := yy33) rfl hown (own_mw hZ hw 36 rfl) (own_mw hZ hw 37 rfl) (own_mw hZ hw 38 rfl) (by decide) (own_backH (sl := []) (W := 1) (rm8 l Z a0 hw [] hEL (b34) (x35_y) (x37_y) (x35_d) (x35_kd) (x35_z9) (x35_vs9) (x37_d) (x37_kd) (x37_z9) (x37_vs9) (ci) (ca) (ka) (cs) T37.heap n0 Zs37 f37_0 f37_1 f37_2 gg34 f37_3 f37_4 f37_5 f37_6 u37_2 u37_3 u37_4 u37_5 mf40 mf41 mf42 mf43 mf44 (by assumption) u35_6 u37_6) hZ (own_w hw 38 rfl) (own_w hw 2 rfl) (by decide) (by decide) hEL C37.1 own_sn) (g := (mkF m 170 #[iv p1, iv p2, iv p3, iv np, iv ni, iv j5, iv j6, iv j7, iv j8, iv j9, iv j10, iv j11, iv j12, iv j13, iv j14, rv b1, rv b12, rv b23, oU, oU, oU, oU, oU, oU, oU] [(.ref x37_y), (.ref x35_y), (.ref b34), (.ref b34)])) rfl (by rw [hml]; rfl) (Steps.refl _) (a := b34) (argsL := [(.ref x35_y), (.ref x37_y)]) (rest := [(.ref b34)]) (lenOf pd_24 rfl) rfl (own_bl rfl) (hb hby at_170) (fun _ _ => ⟨rfl, rfl, own_bl rfl, own_bl rfl⟩)
  dsimp only [Pt.U, Pt.locs, Pt.cells, Pt.slots] at X39 l39 y39 z39 st39 hQ39 hSn39 hgn39 hC39
  subst l39 y39 z39
  have X39 : Stand p l e room_1 (s.setVm T39.vm) m _ below meth c T39 _ _ _ := X39
  have hS39 := foldS hS28 Ks37 hSn39 hgn39
  have hown : (s.setVm T39.vm).vm.findClass "com/example/firm_duties/firmduties/BusinessContextMatchesPinLaw" = some m.cls := by rw [show (s.setVm T39.vm).vm = T39.vm from rfl, hSn39.1.alike.findClass]; exact hown
  obtain ⟨rfl, Nq39, Kq39, u39_0, u39_1, u39_2⟩ := hQ39
  have N39 := Fr.app N37 Nq39
  have hZ : Z.Warmed39 (s.setVm T39.vm).vm := State.Warmed39.trans (t := (s.setVm T28.vm)) hZ hSn39.1
  have f39_0 := f37_0.keep Kq39
  have f39_3 := f37_3.keep Kq39
  have n35_b34y := own_nk A34.lt u35_0
  have f39_4 := f37_4.keep Kq39 (ninS (Ne.symm n35_b34y) nin0)
  have f39_5 := f37_5.keep Kq39 (ninS (Ne.symm n35_b34y) nin0)
  have n35_b34d := own_nk A34.lt u35_1
  have f39_6 := f37_6.keep Kq39 (ninS (Ne.symm n35_b34d) nin0)
  have f39_7 := u37_2.keep Kq39
  have n37_b34y := own_nk f35_0.lt u37_0
  have f39_8 := u37_3.keep Kq39 (ninS (Ne.symm n37_b34y) nin0)
  have f39_9 := u37_4.keep Kq39 (ninS (Ne.symm n37_b34y) nin0)
  have n37_b34d := own_nk f35_0.lt u37_1
  have f39_10 := u37_5.keep Kq39 (ninS (Ne.symm n37_b34d) nin0)
  have ms34_0 := Nat.le_trans M28_0.1 (Nat.le_of_eq gx34.symm)
  have M39_0 := M37_0.trans Kq39 (allS (Or.inr ms34_0) all0)
  have ms34_1 := Nat.le_trans M28_1.1 (Nat.le_of_eq gx34.symm)
  have M39_1 := M37_1.trans Kq39 (allS (Or.inr ms34_1) all0)
  have ms34_2 := Nat.le_trans M28_2.1 (Nat.le_of_eq gx34.symm)
  have M39_2 := M37_2.trans Kq39 (allS (Or.inr ms34_2) all0)
  have ms34_3 := Nat.le_trans (Keep.refl T28.heap []).1 (Nat.le_of_eq gx34.symm)
  have M39_3 := M37_3.trans Kq39 (allS (Or.inr ms34_3) all0)
  have C39 := C37.trans hC39
  have Ks39 := Nat.le_trans Ks37 Kq39.1
  have Zs39 : n0 ≤ T39.heap.size := Nat.le_trans Zs37 Kq39.1
  refine own_sTH st39 ?_
  clear st39 X37
  refine own_stH (fun _ kk_ => XS.astore X39.here hx rfl (hb hby at_173) rfl rfl (l' := #[iv p1, iv p2, iv p3, iv np, iv ni, iv j5, iv j6, iv j7, iv j8, iv j9, iv j10, iv j11, iv j12, iv j13, iv j14, rv b1, rv b12, rv b23, rv b34, oU, oU, oU, oU, oU, oU]) rfl kk_) ?_
  show gH T39 (mkF m 175 #[iv p1, iv p2, iv p3, iv np, iv ni, iv j5, iv j6, iv j7, iv j8, iv j9, iv j10, iv j11, iv j12, iv j13, iv j14, rv b1, rv b12, rv b23, rv b34, oU, oU, oU, oU, oU, oU] [])
  obtain ⟨T45, h45, X45, e45, E45, A45, D45, -, st45⟩ := newO X39 hx hZ hown (own_w hw 0 rfl) (own_w hw 1 rfl) (own_w hw 2 rfl) rfl (g := (mkF m 175 #[iv p1, iv p2, iv p3, iv np, iv ni, iv j5, iv j6, iv j7, iv j8, iv j9, iv j10, iv j11, iv j12, iv j13, iv j14, rv b1, rv b12, rv b23, rv b34, oU, oU, oU, oU, oU, oU] [])) rfl (hb hby at_175) (by decide) (by decide)
  obtain ⟨b45, gx45⟩ : ∃ z, z = T39.heap.size := ⟨_, rfl⟩
  rw [← gx45] at A45 D45 st45
  have M45_0 := M39_0.ext E45
  have M45_1 := M39_1.ext E45
  have M45_2 := M39_2.ext E45
  have M45_3 := M39_3.ext E45
  have M45_4 := (Keep.refl T39.heap []).ext E45
  have C45 := C39.trans (CHr.ext E45 C39.1)
  have Zs45 : n0 ≤ h45.size := Nat.le_trans Zs39 E45.1
  have Ks45 := Nat.le_trans (Nat.le_refl T39.heap.size) E45.1
  have fn45_type : Fld Z h45 b45 "com/example/firm_duties/firmduties/BusinessContext$Pair" "type" "Ljava/lang/String;" .null := D45 (Or.inr (own_w hw 139 rfl)) (ty := (.object "java/lang/String")) (by decide)
  have fn45_value : Fld Z h45 b45 "com/example/firm_duties/firmduties/BusinessContext$Pair" "value" "Ljava/lang/String;" .null := D45 (Or.inr (own_w hw 141 rfl)) (ty := (.object "java/lang/String")) (by decide)
  refine own_stH st45 ?_
  clear st45 X39
  refine own_stH (fun _ kk_ => XS.dup X45.here hx rfl (hb hby at_178) rfl rfl (XS.iload X45.here hx rfl (hb hby at_179) rfl kk_)) ?_
  show gH T45 (mkF m 181 #[iv p1, iv p2, iv p3, iv np, iv ni, iv j5, iv j6, iv j7, iv j8, iv j9, iv j10, iv j11, iv j12, iv j13, iv j14, rv b1, rv b12, rv b23, rv b34, oU, oU, oU, oU, oU, oU] [(.int j13), (.ref b45), (.ref b45)])
  have mf47 := own_Sta_keep p_10 M45_0 ns0
  obtain ⟨T46, L46, v46, X46, hQ46, st46⟩ := own_cutA (Jvm.LawKit.callS X45 hx (y := yy31) hown (own_mw hZ hw 3 rfl) (own_mw hZ hw 4 rfl) (own_mw hZ hw 5 rfl) (own_mw hZ hw 6 rfl) (by decide) (backOf (W := 2) (rm1 l Z a0 hw (j13) (cs) h45 n0 Zs45 mf47 (by assumption)) hZ (own_w hw 6 rfl) (own_w hw 5 rfl) (by decide) (by decide)) (g := (mkF m 181 #[iv p1, iv p2, iv p3, iv np, iv ni, iv j5, iv j6, iv j7, iv j8, iv j9, iv j10, iv j11, iv j12, iv j13, iv j14, rv b1, rv b12, rv b23, rv b34, oU, oU, oU, oU, oU, oU] [(.int j13), (.ref b45), (.ref b45)])) rfl (by rw [hml]; rfl) (argsL := [(.int j13)]) (rest := [(.ref b45), (.ref b45)]) (lenOf pd_38 rfl) rfl (own_bl rfl) (hb hby at_181) (fun _ _ => ⟨rfl, e45, own_bl rfl, own_bl rfl⟩))
  obtain ⟨x46_y, x46_d, x46_kd, x46_z9, x46_vs9, rfl, Nq46, Kq46, u46_0, u46_1, u46_2, u46_3, u46_4, u46_5, u46_6, u46_7⟩ := hQ46
  have N46 := Fr.app N39 Nq46
  have f46_0 := A45.keep Kq46
  have f46_1 := fn45_type.keep Kq46 nin0
  have f46_2 := fn45_value.keep Kq46 nin0
  have M46_0 := M45_0.trans Kq46 all0
  have M46_1 := M45_1.trans Kq46 all0
  have M46_2 := M45_2.trans Kq46 all0
  have M46_3 := M45_3.trans Kq46 all0
  have M46_4 := M45_4.trans Kq46 all0
  have C46 := C45.trans (CHr.keep Kq46 sf0 C45.1)
  have Ks46 := Nat.le_trans Ks45 Kq46.1
  have Zs46 : n0 ≤ T46.heap.size := Nat.le_trans Zs45 Kq46.1
  refine own_stH st46 ?_
  clear st46 X45
  refine own_stH (fun _ kk_ => XS.iload X46.here hx rfl (hb hby at_184) rfl kk_) ?_
  show gH T46 (mkF m 186 #[iv p1, iv p2, iv p3, iv np, iv ni, iv j5, iv j6, iv j7, iv j8, iv j9, iv j10, iv j11, iv j12, iv j13, iv j14, rv b1, rv b12, rv b23, rv b34, oU, oU, oU, oU, oU, oU] [(.int j14), (.ref x46_y), (.ref b45), (.ref b45)])
  have mf49 := own_Sta_keep p_10 M46_0 ns0
  obtain ⟨T48, L48, v48, X48, hQ48, st48⟩ := own_cutA (Jvm.LawKit.callS X46 hx (y := yy31) hown (own_mw hZ hw 3 rfl) (own_mw hZ hw 4 rfl) (own_mw hZ hw 5 rfl) (own_mw hZ hw 6 rfl) (by decide) (backOf (W := 3) (rm1 l Z a0 hw (j14) (cs) T46.heap n0 Zs46 mf49 (by assumption)) hZ (own_w hw 6 rfl) (own_w hw 5 rfl) (by decide) (by decide)) (g := (mkF m 186 #[iv p1, iv p2, iv p3, iv np, iv ni, iv j5, iv j6, iv j7, iv j8, iv j9, iv j10, iv j11, iv j12, iv j13, iv j14, rv b1, rv b12, rv b23, rv b34, oU, oU, oU, oU, oU, oU] [(.int j14), (.ref x46_y), (.ref b45), (.ref b45)])) rfl (by rw [hml]; rfl) (argsL := [(.int j14)]) (rest := [(.ref x46_y), (.ref b45), (.ref b45)]) (lenOf pd_38 rfl) rfl (own_bl rfl) (hb hby at_186) (fun _ _ => ⟨rfl, rfl, own_bl rfl, own_bl rfl⟩))
  obtain ⟨x48_y, x48_d, x48_kd, x48_z9, x48_vs9, rfl, Nq48, Kq48, u48_0, u48_1, u48_2, u48_3, u48_4, u48_5, u48_6, u48_7⟩ := hQ48
  have N48 := Fr.app N46 Nq48
  have f48_0 := f46_0.keep Kq48
  have f48_1 := f46_1.keep Kq48 nin0
  have f48_2 := f46_2.keep Kq48 nin0
  have f48_3 := u46_2.keep Kq48
  have f48_4 := u46_3.keep Kq48 nin0
  have f48_5 := u46_4.keep Kq48 nin0
  have f48_6 := u46_5.keep Kq48 nin0
  have M48_0 := M46_0.trans Kq48 all0
  have M48_1 := M46_1.trans Kq48 all0
  have M48_2 := M46_2.trans Kq48 all0
  have M48_3 := M46_3.trans Kq48 all0
  have M48_4 := M46_4.trans Kq48 all0
  have C48 := C46.trans (CHr.keep Kq48 sf0 C46.1)
  have Ks48 := Nat.le_trans Ks46 Kq48.1
  have Zs48 : n0 ≤ T48.heap.size := Nat.le_trans Zs46 Kq48.1
  refine own_stH st48 ?_
  clear st48 X46
  have gg45 := Nat.le_trans Zs39 (Nat.le_of_eq gx45.symm)
  have mf51 := own_Sta_keep p_0 M48_0 ns0
  have mf52 := p_1.keep M48_0
  have mf53 := own_Sta_keep p_2 M48_0 ns0
  have mf54 := p_3.keep M48_0 nin0
  have mf55 := own_Sta_keep p_10 M48_0 ns0
  obtain ⟨_, _, ⟨T50, L50, k50, n50⟩, -, X50, hSn50, hgn50, ⟨Lc50, hQ50, l50, y50, z50, hC50⟩, st50⟩ := X48.specialBackS hx (y := yy33) rfl hown (own_mw hZ hw 36 rfl) (own_mw hZ hw 37 rfl) (own_mw hZ hw 38 rfl) (by decide) (own_backH (sl := []) (W := 1) (rm8 l Z a0 hw [] hEL (b45) (x46_y) (x48_y) (x46_d) (x46_kd) (x46_z9) (x46_vs9) (x48_d) (x48_kd) (x48_z9) (x48_vs9) (ci) (ca) (ka) (cs) T48.heap n0 Zs48 f48_0 f48_1 f48_2 gg45 f48_3 f48_4 f48_5 f48_6 u48_2 u48_3 u48_4 u48_5 mf51 mf52 mf53 mf54 mf55 (by assumption) u46_6 u48_6) hZ (own_w hw 38 rfl) (own_w hw 2 rfl) (by decide) (by decide) hEL C48.1 own_sn) (g := (mkF m 189 #[iv p1, iv p2, iv p3, iv np, iv ni, iv j5, iv j6, iv j7, iv j8, iv j9, iv j10, iv j11, iv j12, iv j13, iv j14, rv b1, rv b12, rv b23, rv b34, oU, oU, oU, oU, oU, oU] [(.ref x48_y), (.ref x46_y), (.ref b45), (.ref b45)])) rfl (by rw [hml]; rfl) (Steps.refl _) (a := b45) (argsL := [(.ref x46_y), (.ref x48_y)]) (rest := [(.ref b45)]) (lenOf pd_24 rfl) rfl (own_bl rfl) (hb hby at_189) (fun _ _ => ⟨rfl, rfl, own_bl rfl, own_bl rfl⟩)
  dsimp only [Pt.U, Pt.locs, Pt.cells, Pt.slots] at X50 l50 y50 z50 st50 hQ50 hSn50 hgn50 hC50
  subst l50 y50 z50
  have X50 : Stand p l e room_1 (s.setVm T50.vm) m _ below meth c T50 _ _ _ := X50
  have hS50 := foldS hS39 Ks48 hSn50 hgn50
  have hown : (s.setVm T50.vm).vm.findClass "com/example/firm_duties/firmduties/BusinessContextMatchesPinLaw" = some m.cls := by rw [show (s.setVm T50.vm).vm = T50.vm from rfl, hSn50.1.alike.findClass]; exact hown
  obtain ⟨rfl, Nq50, Kq50, u50_0, u50_1, u50_2⟩ := hQ50
  have N50 := Fr.app N48 Nq50
  have hZ : Z.Warmed39 (s.setVm T50.vm).vm := State.Warmed39.trans (t := (s.setVm T39.vm)) hZ hSn50.1
  have f50_0 := f48_0.keep Kq50
  have f50_3 := f48_3.keep Kq50
  have n46_b45y := own_nk A45.lt u46_0
  have f50_4 := f48_4.keep Kq50 (ninS (Ne.symm n46_b45y) nin0)
  have f50_5 := f48_5.keep Kq50 (ninS (Ne.symm n46_b45y) nin0)
  have n46_b45d := own_nk A45.lt u46_1
  have f50_6 := f48_6.keep Kq50 (ninS (Ne.symm n46_b45d) nin0)
  have f50_7 := u48_2.keep Kq50
  have n48_b45y := own_nk f46_0.lt u48_0
  have f50_8 := u48_3.keep Kq50 (ninS (Ne.symm n48_b45y) nin0)
  have f50_9 := u48_4.keep Kq50 (ninS (Ne.symm n48_b45y) nin0)
  have n48_b45d := own_nk f46_0.lt u48_1
  have f50_10 := u48_5.keep Kq50 (ninS (Ne.symm n48_b45d) nin0)
  have ms45_0 := Nat.le_trans M39_0.1 (Nat.le_of_eq gx45.symm)
  have M50_0 := M48_0.trans Kq50 (allS (Or.inr ms45_0) all0)
  have ms45_1 := Nat.le_trans M39_1.1 (Nat.le_of_eq gx45.symm)
  have M50_1 := M48_1.trans Kq50 (allS (Or.inr ms45_1) all0)
  have ms45_2 := Nat.le_trans M39_2.1 (Nat.le_of_eq gx45.symm)
  have M50_2 := M48_2.trans Kq50 (allS (Or.inr ms45_2) all0)
  have ms45_3 := Nat.le_trans M39_3.1 (Nat.le_of_eq gx45.symm)
  have M50_3 := M48_3.trans Kq50 (allS (Or.inr ms45_3) all0)
  have ms45_4 := Nat.le_trans (Keep.refl T39.heap []).1 (Nat.le_of_eq gx45.symm)
  have M50_4 := M48_4.trans Kq50 (allS (Or.inr ms45_4) all0)
  have C50 := C48.trans hC50
  have Ks50 := Nat.le_trans Ks48 Kq50.1
  have Zs50 : n0 ≤ T50.heap.size := Nat.le_trans Zs48 Kq50.1
  refine own_sTH st50 ?_
  clear st50 X48
  refine own_stH (fun _ kk_ => XS.astore X50.here hx rfl (hb hby at_192) rfl rfl (l' := #[iv p1, iv p2, iv p3, iv np, iv ni, iv j5, iv j6, iv j7, iv j8, iv j9, iv j10, iv j11, iv j12, iv j13, iv j14, rv b1, rv b12, rv b23, rv b34, rv b45, oU, oU, oU, oU, oU]) rfl kk_) ?_
  show gH T50 (mkF m 194 #[iv p1, iv p2, iv p3, iv np, iv ni, iv j5, iv j6, iv j7, iv j8, iv j9, iv j10, iv j11, iv j12, iv j13, iv j14, rv b1, rv b12, rv b23, rv b34, rv b45, oU, oU, oU, oU, oU] [])
  have nm56 := own_nk p_8.lt ms1_0
  have nm57 := own_nk p_8.lt ms12_0
  have nm58 := own_nk p_8.lt ms23_0
  have nm59 := own_nk p_8.lt ms34_0
  have nm60 := own_nk p_8.lt ms45_0
  have mf61 := own_Sta_keep p_0 M50_0 ns0
  have mf62 := p_1.keep M50_0
  have mf63 := own_Sta_keep p_2 M50_0 ns0
  have mf64 := p_3.keep M50_0 nin0
  have mf65 := own_Sta_keep p_4 M50_0 ns0
  have mf66 := p_5.keep M50_0 nin0
  have mf67 := p_6.keep M50_0
  have mf68 := own_Sta_keep p_7 M50_0 ns0
  have mf69 := p_8.keep M50_0
  have mf70 := own_Sta_keep p_10 M50_0 ns0
  have mf71 := u6_0.keep M50_1
  have mf72 := f6_3.keep M50_1
  have mf73 := f6_4.keep M50_1 nin0
  have mf74 := f6_5.keep M50_1 nin0
  have mf75 := f6_6.keep M50_1 nin0
  have mf76 := f6_7.keep M50_1
  have mf77 := f6_8.keep M50_1 nin0
  have mf78 := f6_9.keep M50_1 nin0
  have mf79 := f6_10.keep M50_1 nin0
  have mf80 := u6_1.keep M50_1 nin0
  have mf81 := u6_2.keep M50_1 nin0
  have mf82 := u17_0.keep M50_2
  have mf83 := f17_3.keep M50_2
  have mf84 := f17_4.keep M50_2 nin0
  have mf85 := f17_5.keep M50_2 nin0
  have mf86 := f17_6.keep M50_2 nin0
  have mf87 := f17_7.keep M50_2
  have mf88 := f17_8.keep M50_2 nin0
  have mf89 := f17_9.keep M50_2 nin0
  have mf90 := f17_10.keep M50_2 nin0
  have mf91 := u17_1.keep M50_2 nin0
  have mf92 := u17_2.keep M50_2 nin0
  have mf93 := u28_0.keep M50_3
  have mf94 := f28_3.keep M50_3
  have mf95 := f28_4.keep M50_3 nin0
  have mf96 := f28_5.keep M50_3 nin0
  have mf97 := f28_6.keep M50_3 nin0
  have mf98 := f28_7.keep M50_3
  have mf99 := f28_8.keep M50_3 nin0
  have mf100 := f28_9.keep M50_3 nin0
  have mf101 := f28_10.keep M50_3 nin0
  have mf102 := u28_1.keep M50_3 nin0
  have mf103 := u28_2.keep M50_3 nin0
  have mf104 := u39_0.keep M50_4
  have mf105 := f39_3.keep M50_4
  have mf106 := f39_4.keep M50_4 nin0
  have mf107 := f39_5.keep M50_4 nin0
  have mf108 := f39_6.keep M50_4 nin0
  have mf109 := f39_7.keep M50_4
  have mf110 := f39_8.keep M50_4 nin0
  have mf111 := f39_9.keep M50_4 nin0
  have mf112 := f39_10.keep M50_4 nin0
  have mf113 := u39_1.keep M50_4 nin0
  have mf114 := u39_2.keep M50_4 nin0
  obtain ⟨T115, h115, X115, e115, E115, A115, D115, -, st115⟩ := newO X50 hx hZ hown (own_w hw 142 rfl) (own_w hw 143 rfl) (own_w hw 144 rfl) rfl (g := (mkF m 194 #[iv p1, iv p2, iv p3, iv np, iv ni, iv j5, iv j6, iv j7, iv j8, iv j9, iv j10, iv j11, iv j12, iv j13, iv j14, rv b1, rv b12, rv b23, rv b34, rv b45, oU, oU, oU, oU, oU] [])) rfl (hb hby at_194) (by decide) (by decide)
  obtain ⟨b115, gx115⟩ : ∃ z, z = T50.heap.size := ⟨_, rfl⟩
  rw [← gx115] at A115 D115 st115
  have M115_0 := (Keep.refl T50.heap []).ext E115
  have C115 := C50.trans (CHr.ext E115 C50.1)
  have Zs115 : n0 ≤ h115.size := Nat.le_trans Zs50 E115.1
  have Ks115 := Nat.le_trans (Nat.le_refl T50.heap.size) E115.1
  have fn115_modCount : Fld Z h115 b115 "java/util/AbstractList" "modCount" "I" (.int (0 : Int32)) := D115 (Or.inl (own_w hw 162 rfl)) (ty := .int) (by decide)
  have fn115_elementData : Fld Z h115 b115 "java/util/ArrayList" "elementData" "[Ljava/lang/Object;" .null := D115 (Or.inl (own_w hw 165 rfl)) (ty := (.array (.object "java/lang/Object"))) (by decide)
  have fn115_size : Fld Z h115 b115 "java/util/ArrayList" "size" "I" (.int (0 : Int32)) := D115 (Or.inl (own_w hw 178 rfl)) (ty := .int) (by decide)
  refine own_stH st115 ?_
  clear st115 X50
  refine own_stH (fun _ kk_ => XS.dup X115.here hx rfl (hb hby at_197) rfl rfl kk_) ?_
  show gH T115 (mkF m 198 #[iv p1, iv p2, iv p3, iv np, iv ni, iv j5, iv j6, iv j7, iv j8, iv j9, iv j10, iv j11, iv j12, iv j13, iv j14, rv b1, rv b12, rv b23, rv b34, rv b45, oU, oU, oU, oU, oU] [(.ref b115), (.ref b115)])
  have gg115 := Nat.le_trans Zs50 (Nat.le_of_eq gx115.symm)
  have mf117 := own_Sta_keep mf65 M115_0 ns0
  obtain ⟨T116, L116, v116, X116, hQ116, st116⟩ := own_cut (X115.specialBack hx (y := yy38) rfl hown (own_mw hZ hw 145 rfl) (own_mw hZ hw 146 rfl) (own_mw hZ hw 147 rfl) (by decide) (backOf (W := 1) (rm31 l Z a0 hw (b115) (dc) h115 n0 Zs115 A115 fn115_elementData fn115_size fn115_modCount gg115 mf117) hZ (own_w hw 147 rfl) (own_w hw 144 rfl) (by decide) (by decide)) (g := (mkF m 198 #[iv p1, iv p2, iv p3, iv np, iv ni, iv j5, iv j6, iv j7, iv j8, iv j9, iv j10, iv j11, iv j12, iv j13, iv j14, rv b1, rv b12, rv b23, rv b34, rv b45, oU, oU, oU, oU, oU] [(.ref b115), (.ref b115)])) rfl (by rw [hml]; rfl) (Steps.refl _) (a := b115) (argsL := []) (rest := [(.ref b115)]) (lenOf pd_23 rfl) rfl (own_bl rfl) (hb hby at_198) (fun _ _ => ⟨rfl, e115, own_bl rfl, own_bl rfl⟩))
  obtain ⟨rfl, Nq116, Kq116, u116_0, u116_1, u116_2, u116_3⟩ := hQ116
  have N116 := Fr.app N50 Nq116
  have f116_0 := A115.keep Kq116
  have ms115_0 := Nat.le_trans (Keep.refl T50.heap []).1 (Nat.le_of_eq gx115.symm)
  have M116_0 := M115_0.trans Kq116 (allS (Or.inr ms115_0) all0)
  have C116 := C115.trans (CHr.keep Kq116 (sfS (Safe.exa hZ.alike A115 (by decide) (by decide)) sf0) C115.1)
  have Ks116 := Nat.le_trans Ks115 Kq116.1
  have Zs116 : n0 ≤ T116.heap.size := Nat.le_trans Zs115 Kq116.1
  refine own_sTH st116 ?_
  clear st116 X115
  refine own_stH (fun _ kk_ => XS.astore X116.here hx rfl (hb hby at_201) rfl rfl (l' := #[iv p1, iv p2, iv p3, iv np, iv ni, iv j5, iv j6, iv j7, iv j8, iv j9, iv j10, iv j11, iv j12, iv j13, iv j14, rv b1, rv b12, rv b23, rv b34, rv b45, rv b115, oU, oU, oU, oU]) rfl (XS.aload X116.here hx rfl (hb hby at_203) rfl rfl (XS.aload X116.here hx rfl (hb hby at_205) rfl rfl kk_))) ?_
  show gH T116 (mkF m 207 #[iv p1, iv p2, iv p3, iv np, iv ni, iv j5, iv j6, iv j7, iv j8, iv j9, iv j10, iv j11, iv j12, iv j13, iv j14, rv b1, rv b12, rv b23, rv b34, rv b45, rv b115, oU, oU, oU, oU] [(.ref b1), (.ref b115)])
  have mf119 := mf71.keep M116_0
  have mf120 := own_Sta_keep mf65 M116_0 ns0
  have mf121 := mf66.keep M116_0 nin0
  have nm122 := own_nk mf66.lt ms115_0
  obtain ⟨cq118, kq118, q118a, q118b, q118c⟩ := isOf hZ rfl u116_0
  obtain ⟨T118, L118, v118, X118, hQ118, st118⟩ := own_cut (X116.interfaceBack hx (xi := yy71) (y := yy42) hown (own_mw hZ hw 166 rfl) (own_mw hZ hw 167 rfl) (own_mw hZ hw 168 rfl) (own_mw hZ hw 169 rfl) (own_mw hZ hw 170 rfl) (own_mw hZ hw 171 rfl) (own_mw hZ hw 172 rfl) (own_mw hZ hw 173 rfl) (by decide) (backOf (W := 0) (rmAD0 l Z a0 hw (b115) (b1) (dc) (kdc) ((0 : Int32)) T116.heap n0 Zs116 mf119 u116_0 u116_1 u116_2 u116_3 gg115 mf120 mf121 nm122) hZ (own_w hw 174 rfl) (own_w hw 144 rfl) (by decide) (by decide)) q118a q118b q118c (g := (mkF m 207 #[iv p1, iv p2, iv p3, iv np, iv ni, iv j5, iv j6, iv j7, iv j8, iv j9, iv j10, iv j11, iv j12, iv j13, iv j14, rv b1, rv b12, rv b23, rv b34, rv b45, rv b115, oU, oU, oU, oU] [(.ref b1), (.ref b115)])) rfl (by rw [hml]; rfl) (Steps.refl _) (argsL := [(.ref b1)]) (rest := []) (lenOf pd_12 rfl) rfl (own_bl rfl) (hb hby at_207) (fun _ _ => ⟨rfl, rfl, own_bl rfl, own_bl rfl⟩))
  obtain ⟨x118_y, x118_ky, rfl, Nq118, Kq118, u118_0, u118_1, u118_2, u118_3, u118_4, u118_5, u118_6, u118_7⟩ := hQ118
  have N118 := Fr.app N116 Nq118
  have f118_0 := u116_0.keep Kq118
  have M118_0 := M116_0.trans Kq118 (allS (Or.inr ms115_0) all0)
  have C118 := C116.trans (CHr.keep Kq118 (sfS (Safe.exa hZ.alike u116_0 (by decide) (by decide)) sf0) C116.1)
  have Ks118 := Nat.le_trans Ks116 Kq118.1
  have Zs118 : n0 ≤ T118.heap.size := Nat.le_trans Zs116 Kq118.1
  refine own_sTH st118 ?_
  clear st118 X116
  refine own_stH (fun _ kk_ => XS.pop X118.here hx rfl (hb hby at_212) rfl rfl kk_) ?_
  show gH T118 (mkF m 213 #[iv p1, iv p2, iv p3, iv np, iv ni, iv j5, iv j6, iv j7, iv j8, iv j9, iv j10, iv j11, iv j12, iv j13, iv j14, rv b1, rv b12, rv b23, rv b34, rv b45, rv b115, oU, oU, oU, oU] [])
  have JL : ∀ (T123 : State) (L123 : List Loc) (h123 : Heap) (vm123 : Vm) (k123 : Nat) (np9 : Int32) (ni9 : Int32) (al1 : Addr) (al2 : Addr) (bc1 : Addr) (bc2 : Addr) (li1 : Addr) (li2 : Addr) (kk1 : Nat) (kk2 : Nat), Stand p l e room_1 (s.setVm vm123) m #[(.int p1), (.int p2), (.int p3)] below meth c T123 L123 77 383 → T123.heap = h123 → Fr n0 L123 → n0 ≤ h123.size → s.Since vm123 k123 → k123 ≤ h123.size → Z.Warmed39 (s.setVm vm123).vm → (s.setVm vm123).vm.findClass "com/example/firm_duties/firmduties/BusinessContextMatchesPinLaw" = some m.cls → CHr Z consts_1 s.vm h0 vm123 h123 → Keep T50.heap h123 [] → Exa Z h123 bc1 "com/example/firm_duties/firmduties/BusinessContext" → Fld Z h123 bc1 "com/example/firm_duties/firmduties/BusinessContext" "pairs" "Ljava/util/List;" (.ref li1) → Exa Z h123 bc2 "com/example/firm_duties/firmduties/BusinessContext" → Fld Z h123 bc2 "com/example/firm_duties/firmduties/BusinessContext" "pairs" "Ljava/util/List;" (.ref li2) → own_l Z h123 kk1 li1 np9 b1 b12 b12 em → own_l Z h123 kk2 li2 ni9 b23 b34 b45 em → np9 = 1 ∨ np9 = 2 → own_GoesH p e below s Z consts_1 (Q0 Z h0 n0) 112 4480 T123 (mkF m 301 #[iv p1, iv p2, iv p3, iv np9, iv ni9, iv j5, iv j6, iv j7, iv j8, iv j9, iv j10, iv j11, iv j12, iv j13, iv j14, rv b1, rv b12, rv b23, rv b34, rv b45, rv al1, rv al2, rv bc1, rv bc2, oU] []) := by
    intro T123 L123 h123 vm123 k123 np9 ni9 al1 al2 bc1 bc2 li1 li2 kk1 kk2 X123 e123 N123 Zs123 hS123 Ks123 hZ hown C123 MJ123_0 j123_0 j123_1 j123_2 j123_3 j123_4 j123_5 j123_6
    show gH T123 (mkF m 301 #[iv p1, iv p2, iv p3, iv np9, iv ni9, iv j5, iv j6, iv j7, iv j8, iv j9, iv j10, iv j11, iv j12, iv j13, iv j14, rv b1, rv b12, rv b23, rv b34, rv b45, rv al1, rv al2, rv bc1, rv bc2, oU] [])
    have JR : ∀ (T124 : State) (L124 : List Loc) (h124 : Heap) (vm124 : Vm) (k124 : Nat) (r9 : Int32), Stand p l e room_1 (s.setVm vm124) m #[(.int p1), (.int p2), (.int p3)] below meth c T124 L124 77 383 → T124.heap = h124 → Fr n0 L124 → n0 ≤ h124.size → s.Since vm124 k124 → k124 ≤ h124.size → Z.Warmed39 (s.setVm vm124).vm → (s.setVm vm124).vm.findClass "com/example/firm_duties/firmduties/BusinessContextMatchesPinLaw" = some m.cls → CHr Z consts_1 s.vm h0 vm124 h124 → Keep T50.heap h124 [] → Exa Z h124 bc1 "com/example/firm_duties/firmduties/BusinessContext" → Fld Z h124 bc1 "com/example/firm_duties/firmduties/BusinessContext" "pairs" "Ljava/util/List;" (.ref li1) → Exa Z h124 bc2 "com/example/firm_duties/firmduties/BusinessContext" → Fld Z h124 bc2 "com/example/firm_duties/firmduties/BusinessContext" "pairs" "Ljava/util/List;" (.ref li2) → own_l Z h124 kk1 li1 np9 b1 b12 b12 em → own_l Z h124 kk2 li2 ni9 b23 b34 b45 em → r9 = own_b (own_mt np9 ni9 (own_q (own_tu j5) (own_tu j6) (own_tu j9) (own_tu j10)) (own_q (own_tu j7) (own_tu j8) (own_tu j11) (own_tu j12))) → own_GoesH p e below s Z consts_1 (Q0 Z h0 n0) 112 4480 T124 (mkF m 347 #[iv p1, iv p2, iv p3, iv np9, iv ni9, iv j5, iv j6, iv j7, iv j8, iv j9, iv j10, iv j11, iv j12, iv j13, iv j14, rv b1, rv b12, rv b23, rv b34, rv b45, rv al1, rv al2, rv bc1, rv bc2, iv r9] []) := by
      intro T124 L124 h124 vm124 k124 r9 X124 e124 N124 Zs124 hS124 Ks124 hZ hown C124 MJ124_0 j124_0 j124_1 j124_2 j124_3 j124_4 j124_5 j124_6
      show gH T124 (mkF m 347 #[iv p1, iv p2, iv p3, iv np9, iv ni9, iv j5, iv j6, iv j7, iv j8, iv j9, iv j10, iv j11, iv j12, iv j13, iv j14, rv b1, rv b12, rv b23, rv b34, rv b45, rv al1, rv al2, rv bc1, rv bc2, iv r9] [])
      refine own_stH (fun _ kk_ => XS.aload X124.here hx rfl (hb hby at_347) rfl rfl (XS.aload X124.here hx rfl (hb hby at_349) rfl rfl kk_)) ?_
      show gH T124 (mkF m 351 #[iv p1, iv p2, iv p3, iv np9, iv ni9, iv j5, iv j6, iv j7, iv j8, iv j9, iv j10, iv j11, iv j12, iv j13, iv j14, rv b1, rv b12, rv b23, rv b34, rv b45, rv al1, rv al2, rv bc1, rv bc2, iv r9] [(.ref bc2), (.ref bc1)])
      have mf128 := own_Sta_keep mf68 MJ124_0 ns0
      have mf129 := own_Sta_keep mf70 MJ124_0 ns0
      have mf130 := mf71.keep MJ124_0
      have mf131 := mf80.keep MJ124_0 nin0
      have mf132 := mf81.keep MJ124_0 nin0
      have mf133 := mf72.keep MJ124_0
      have mf134 := mf73.keep MJ124_0 nin0
      have mf135 := mf74.keep MJ124_0 nin0
      have mf136 := mf75.keep MJ124_0 nin0
      have mf137 := mf76.keep MJ124_0
      have mf138 := mf77.keep MJ124_0 nin0
      have mf139 := mf78.keep MJ124_0 nin0
      have mf140 := mf79.keep MJ124_0 nin0
      have mf141 := mf82.keep MJ124_0
      have mf142 := mf91.keep MJ124_0 nin0
      have mf143 := mf92.keep MJ124_0 nin0
      have mf144 := mf83.keep MJ124_0
      have mf145 := mf84.keep MJ124_0 nin0
      have mf146 := mf85.keep MJ124_0 nin0
      have mf147 := mf86.keep MJ124_0 nin0
      have mf148 := mf87.keep MJ124_0
      have mf149 := mf88.keep MJ124_0 nin0
      have mf150 := mf89.keep MJ124_0 nin0
      have mf151 := mf90.keep MJ124_0 nin0
      have mf152 := mf93.keep MJ124_0
      have mf153 := mf102.keep MJ124_0 nin0
      have mf154 := mf103.keep MJ124_0 nin0
      have mf155 := mf94.keep MJ124_0
      have mf156 := mf95.keep MJ124_0 nin0
      have mf157 := mf96.keep MJ124_0 nin0
      have mf158 := mf97.keep MJ124_0 nin0
      have mf159 := mf98.keep MJ124_0
      have mf160 := mf99.keep MJ124_0 nin0
      have mf161 := mf100.keep MJ124_0 nin0
      have mf162 := mf101.keep MJ124_0 nin0
      have mf163 := mf104.keep MJ124_0
      have mf164 := mf113.keep MJ124_0 nin0
      have mf165 := mf114.keep MJ124_0 nin0
      have mf166 := mf105.keep MJ124_0
      have mf167 := mf106.keep MJ124_0 nin0
      have mf168 := mf107.keep MJ124_0 nin0
      have mf169 := mf108.keep MJ124_0 nin0
      have mf170 := mf109.keep MJ124_0
      have mf171 := mf110.keep MJ124_0 nin0
      have mf172 := mf111.keep MJ124_0 nin0
      have mf173 := mf112.keep MJ124_0 nin0
      obtain ⟨cq127, kq127, q127a, q127b, q127c⟩ := isOf hZ e124 j124_0
      obtain ⟨_, _, ⟨T127, L127, k127, n127⟩, -, X127, hSn127, hgn127, ⟨Lc127, hQ127, l127, y127, z127, hC127⟩, st127⟩ := X124.virtualBackS hx (y := yy70) (z := yy70) hown (own_mw hZ hw 307 rfl) (own_mw hZ hw 308 rfl) (notFace_of_selects (args := #[]) (own_mw hZ hw 310 rfl)) (own_mw hZ hw 310 rfl) (own_mw hZ hw 309 rfl) (by decide) (own_backH (sl := []) (W := 0) (rm54 l Z a0 hw [] hEL (bc1) (bc2) (li1) (li2) (em) (cs) (np9) (ni9) (b12) (b45) (_) (_) (b1) (x2_y) (x2_d) (x2_kd) (x2_z9) (x2_vs9) ((own_tu j5)) (x4_y) (x4_d) (x4_kd) (x4_z9) (x4_vs9) ((own_tu j6)) (b12) (x13_y) (x13_d) (x13_kd) (x13_z9) (x13_vs9) ((own_tu j7)) (x15_y) (x15_d) (x15_kd) (x15_z9) (x15_vs9) ((own_tu j8)) (b23) (x24_y) (x24_d) (x24_kd) (x24_z9) (x24_vs9) ((own_tu j9)) (x26_y) (x26_d) (x26_kd) (x26_z9) (x26_vs9) ((own_tu j10)) (b34) (x35_y) (x35_d) (x35_kd) (x35_z9) (x35_vs9) ((own_tu j11)) (x37_y) (x37_d) (x37_kd) (x37_z9) (x37_vs9) ((own_tu j12)) h124 n0 Zs124 j124_0 j124_1 j124_2 j124_3 mf128 mf129 (by assumption) mf130 mf131 mf132 mf133 mf134 mf135 mf136 mf137 mf138 mf139 mf140 u2_7 u4_7 mf141 mf142 mf143 mf144 mf145 mf146 mf147 mf148 mf149 mf150 mf151 u13_7 u15_7 mf152 mf153 mf154 mf155 mf156 mf157 mf158 mf159 mf160 mf161 mf162 u24_7 u26_7 mf163 mf164 mf165 mf166 mf167 mf168 mf169 mf170 mf171 mf172 mf173 u35_7 u37_7 j124_4 j124_5 (by rcases j123_6 with z | z <;> rw [z] <;> decide)) hZ (own_w hw 311 rfl) (own_w hw 50 rfl) (by decide) (by decide) hEL C124.1 own_sn) q127a q127c (g := (mkF m 351 #[iv p1, iv p2, iv p3, iv np9, iv ni9, iv j5, iv j6, iv j7, iv j8, iv j9, iv j10, iv j11, iv j12, iv j13, iv j14, rv b1, rv b12, rv b23, rv b34, rv b45, rv al1, rv al2, rv bc1, rv bc2, iv r9] [(.ref bc2), (.ref bc1)])) rfl (by rw [hml]; rfl) (Steps.refl _) (argsL := [(.ref bc2)]) (rest := []) (lenOf pd_40 rfl) rfl (own_bl rfl) (hb hby at_351) (fun _ _ => ⟨rfl, e124, own_bl rfl, own_bl rfl⟩)
      dsimp only [Pt.U, Pt.locs, Pt.cells, Pt.slots] at X127 l127 y127 z127 st127 hQ127 hSn127 hgn127 hC127
      subst l127 y127 z127
      have X127 : Stand p l e room_1 (s.setVm T127.vm) m _ below meth c T127 _ _ _ := X127
      have hS127 := foldS hS124 (by rw [e124]; exact Ks124) hSn127 hgn127
      have hown : (s.setVm T127.vm).vm.findClass "com/example/firm_duties/firmduties/BusinessContextMatchesPinLaw" = some m.cls := by rw [show (s.setVm T127.vm).vm = T127.vm from rfl, hSn127.1.alike.findClass]; exact hown
      obtain ⟨rfl, Nq127, Kq127⟩ := hQ127
      have N127 := Fr.app N124 Nq127
      have hZ : Z.Warmed39 (s.setVm T127.vm).vm := State.Warmed39.trans (t := (s.setVm vm124)) hZ hSn127.1
      have f127_0 := j124_0.keep Kq127
      have f127_1 := j124_1.keep Kq127 nin0
      have f127_2 := j124_2.keep Kq127
      have f127_3 := j124_3.keep Kq127 nin0
      have M127_0 := MJ124_0.trans Kq127 all0
      have C127 := C124.trans hC127
      have Ks127 := Nat.le_trans Ks124 Kq127.1
      have Zs127 : n0 ≤ T127.heap.size := Nat.le_trans Zs124 Kq127.1
      refine own_sTH st127 ?_
      clear st127 X124
      refine own_stH (fun _ kk_ => XS.iload X127.here hx rfl (hb hby at_354) rfl (XS.icmpNo X127.here hx rfl (hb hby at_356) rfl (XT.ii_ne_f j124_6.symm) (XS.iconst X127.here hx rfl (hb hby at_359) (XS.goto X127.here hx rfl (pc0 := 360) (pc' := 364) rfl (hb hby at_360) (by decide) (by decide) kk_)))) ?_
      show gH T127 (mkF m 364 #[iv p1, iv p2, iv p3, iv np9, iv ni9, iv j5, iv j6, iv j7, iv j8, iv j9, iv j10, iv j11, iv j12, iv j13, iv j14, rv b1, rv b12, rv b23, rv b34, rv b45, rv al1, rv al2, rv bc1, rv bc2, iv r9] [(.int (1 : Int32))])
      refine own_endH (v := (some (.int (nar .boolean (1 : Int32))))) X127 hlk hS127 (Nat.le_refl T127.heap.size) hZ hEL hh rfl C127 (fun h => by rw [Bd.returns] at h; cases h) (by decide) (by decide) ?_ (fun fs hr => retN X127 hx (t := .boolean) Bd.returns (by simp) (hb hby at_364) hr)
      show Q0 Z h0 n0 (some (.int (nar .boolean (1 : Int32)))) T127.heap _
      exact ⟨rfl, N127⟩
    refine own_stH (fun _ kk_ => XS.iload X123.here hx rfl (hb hby at_301) rfl (XS.iloadN X123.here hx rfl (hb hby at_303) rfl kk_)) ?_
    show gH T123 (mkF m 304 #[iv p1, iv p2, iv p3, iv np9, iv ni9, iv j5, iv j6, iv j7, iv j8, iv j9, iv j10, iv j11, iv j12, iv j13, iv j14, rv b1, rv b12, rv b23, rv b34, rv b45, rv al1, rv al2, rv bc1, rv bc2, oU] [(.int np9), (.int ni9)])
    rcases Classical.em (ni9 < np9) with k9 | k9
    · refine own_stH (fun _ kk_ => XS.icmpYes X123.here hx rfl (pc0 := 304) (pc' := 344) rfl (hb hby at_304) rfl (XT.ii_lt_t k9) (by decide) (by decide) (XS.iconst X123.here hx rfl (hb hby at_344) (XS.istore X123.here hx rfl (hb hby at_345) rfl (l' := #[iv p1, iv p2, iv p3, iv np9, iv ni9, iv j5, iv j6, iv j7, iv j8, iv j9, iv j10, iv j11, iv j12, iv j13, iv j14, rv b1, rv b12, rv b23, rv b34, rv b45, rv al1, rv al2, rv bc1, rv bc2, iv (0 : Int32)]) rfl kk_))) ?_
      show gH T123 (mkF m 347 #[iv p1, iv p2, iv p3, iv np9, iv ni9, iv j5, iv j6, iv j7, iv j8, iv j9, iv j10, iv j11, iv j12, iv j13, iv j14, rv b1, rv b12, rv b23, rv b34, rv b45, rv al1, rv al2, rv bc1, rv bc2, iv (0 : Int32)] [])
      exact JR _ _ _ _ _ ((0 : Int32)) (X123.more (by decide) (by decide)) e123 N123 Zs123 hS123 Ks123 hZ hown C123 MJ123_0 j123_0 j123_1 j123_2 j123_3 j123_4 j123_5 (own_b0 (fun z => z.1 k9)).symm
    · refine own_stH (fun _ kk_ => XS.icmpNo X123.here hx rfl (hb hby at_304) rfl (XT.ii_lt_f k9) (XS.iload X123.here hx rfl (hb hby at_307) rfl (XS.iload X123.here hx rfl (hb hby at_309) rfl (XS.iload X123.here hx rfl (hb hby at_311) rfl (XS.iload X123.here hx rfl (hb hby at_313) rfl kk_))))) ?_
      show gH T123 (mkF m 315 #[iv p1, iv p2, iv p3, iv np9, iv ni9, iv j5, iv j6, iv j7, iv j8, iv j9, iv j10, iv j11, iv j12, iv j13, iv j14, rv b1, rv b12, rv b23, rv b34, rv b45, rv al1, rv al2, rv bc1, rv bc2, oU] [(.int j10), (.int j9), (.int j6), (.int j5)])
      obtain ⟨T125, L125, v125, X125, hQ125, st125⟩ := own_cutA (Jvm.LawKit.callS X123 hx (y := yy63) hown (own_mw hZ hw 301 rfl) (own_mw hZ hw 302 rfl) (own_mw hZ hw 5 rfl) (own_mw hZ hw 303 rfl) (by decide) (backOf (W := 0) (rm52 l Z a0 hw (j5) (j6) (j9) (j10) h123 n0 Zs123) hZ (own_w hw 303 rfl) (own_w hw 5 rfl) (by decide) (by decide)) (g := (mkF m 315 #[iv p1, iv p2, iv p3, iv np9, iv ni9, iv j5, iv j6, iv j7, iv j8, iv j9, iv j10, iv j11, iv j12, iv j13, iv j14, rv b1, rv b12, rv b23, rv b34, rv b45, rv al1, rv al2, rv bc1, rv bc2, oU] [(.int j10), (.int j9), (.int j6), (.int j5)])) rfl (by rw [hml]; rfl) (argsL := [(.int j5), (.int j6), (.int j9), (.int j10)]) (rest := []) (lenOf pd_39 rfl) rfl (own_bl rfl) (hb hby at_315) (fun _ _ => ⟨rfl, e123, own_bl rfl, own_bl rfl⟩))
      obtain ⟨rfl, Nq125, eq125⟩ := hQ125
      have N125 := Fr.app N123 Nq125
      refine own_stH st125 ?_
      clear st125 X123
      rcases Classical.em (own_q (own_tu j5) (own_tu j6) (own_tu j9) (own_tu j10)) with k0 | k0
      · rw [own_b1 k0]
        show gH T125 (mkF m 318 #[iv p1, iv p2, iv p3, iv np9, iv ni9, iv j5, iv j6, iv j7, iv j8, iv j9, iv j10, iv j11, iv j12, iv j13, iv j14, rv b1, rv b12, rv b23, rv b34, rv b45, rv al1, rv al2, rv bc1, rv bc2, oU] [(.int (1 : Int32))])
        refine own_stH (fun _ kk_ => XS.ifNo X125.here hx rfl (hb hby at_318) rfl (XT.i0_eq_f (by decide)) (XS.iloadN X125.here hx rfl (hb hby at_321) rfl (XS.iconst X125.here hx rfl (hb hby at_322) kk_))) ?_
        show gH T125 (mkF m 323 #[iv p1, iv p2, iv p3, iv np9, iv ni9, iv j5, iv j6, iv j7, iv j8, iv j9, iv j10, iv j11, iv j12, iv j13, iv j14, rv b1, rv b12, rv b23, rv b34, rv b45, rv al1, rv al2, rv bc1, rv bc2, oU] [(.int (2 : Int32)), (.int np9)])
        rcases Classical.em (np9 < (2 : Int32)) with k8 | k8
        · refine own_stH (fun _ kk_ => XS.icmpYes X125.here hx rfl (pc0 := 323) (pc' := 340) rfl (hb hby at_323) rfl (XT.ii_lt_t k8) (by decide) (by decide) (XS.iconst X125.here hx rfl (hb hby at_340) (XS.goto X125.here hx rfl (pc0 := 341) (pc' := 345) rfl (hb hby at_341) (by decide) (by decide) (XS.istore X125.here hx rfl (hb hby at_345) rfl (l' := #[iv p1, iv p2, iv p3, iv np9, iv ni9, iv j5, iv j6, iv j7, iv j8, iv j9, iv j10, iv j11, iv j12, iv j13, iv j14, rv b1, rv b12, rv b23, rv b34, rv b45, rv al1, rv al2, rv bc1, rv bc2, iv (1 : Int32)]) rfl kk_)))) ?_
          show gH T125 (mkF m 347 #[iv p1, iv p2, iv p3, iv np9, iv ni9, iv j5, iv j6, iv j7, iv j8, iv j9, iv j10, iv j11, iv j12, iv j13, iv j14, rv b1, rv b12, rv b23, rv b34, rv b45, rv al1, rv al2, rv bc1, rv bc2, iv (1 : Int32)] [])
          exact JR _ _ _ _ _ ((1 : Int32)) (X125.more (by decide) (by decide)) eq125 N125 Zs123 hS123 Ks123 hZ hown C123 MJ123_0 j123_0 j123_1 j123_2 j123_3 j123_4 j123_5 (own_b1 ⟨k9, k0, Or.inl (j123_6.resolve_right (fun z => absurd k8 (by rw [z]; decide)))⟩).symm
        · refine own_stH (fun _ kk_ => XS.icmpNo X125.here hx rfl (hb hby at_323) rfl (XT.ii_lt_f k8) (XS.iload X125.here hx rfl (hb hby at_326) rfl (XS.iload X125.here hx rfl (hb hby at_328) rfl (XS.iload X125.here hx rfl (hb hby at_330) rfl (XS.iload X125.here hx rfl (hb hby at_332) rfl kk_))))) ?_
          show gH T125 (mkF m 334 #[iv p1, iv p2, iv p3, iv np9, iv ni9, iv j5, iv j6, iv j7, iv j8, iv j9, iv j10, iv j11, iv j12, iv j13, iv j14, rv b1, rv b12, rv b23, rv b34, rv b45, rv al1, rv al2, rv bc1, rv bc2, oU] [(.int j12), (.int j11), (.int j8), (.int j7)])
          obtain ⟨T126, L126, v126, X126, hQ126, st126⟩ := own_cutA (Jvm.LawKit.callS X125 hx (y := yy63) hown (own_mw hZ hw 301 rfl) (own_mw hZ hw 302 rfl) (own_mw hZ hw 5 rfl) (own_mw hZ hw 303 rfl) (by decide) (backOf (W := 0) (rm52 l Z a0 hw (j7) (j8) (j11) (j12) h123 n0 Zs123) hZ (own_w hw 303 rfl) (own_w hw 5 rfl) (by decide) (by decide)) (g := (mkF m 334 #[iv p1, iv p2, iv p3, iv np9, iv ni9, iv j5, iv j6, iv j7, iv j8, iv j9, iv j10, iv j11, iv j12, iv j13, iv j14, rv b1, rv b12, rv b23, rv b34, rv b45, rv al1, rv al2, rv bc1, rv bc2, oU] [(.int j12), (.int j11), (.int j8), (.int j7)])) rfl (by rw [hml]; rfl) (argsL := [(.int j7), (.int j8), (.int j11), (.int j12)]) (rest := []) (lenOf pd_39 rfl) rfl (own_bl rfl) (hb hby at_334) (fun _ _ => ⟨rfl, eq125, own_bl rfl, own_bl rfl⟩))
          obtain ⟨rfl, Nq126, eq126⟩ := hQ126
          have N126 := Fr.app N125 Nq126
          refine own_stH st126 ?_
          clear st126 X125
          rcases Classical.em (own_q (own_tu j7) (own_tu j8) (own_tu j11) (own_tu j12)) with k1 | k1
          · rw [own_b1 k1]
            show gH T126 (mkF m 337 #[iv p1, iv p2, iv p3, iv np9, iv ni9, iv j5, iv j6, iv j7, iv j8, iv j9, iv j10, iv j11, iv j12, iv j13, iv j14, rv b1, rv b12, rv b23, rv b34, rv b45, rv al1, rv al2, rv bc1, rv bc2, oU] [(.int (1 : Int32))])
            refine own_stH (fun _ kk_ => XS.ifNo X126.here hx rfl (hb hby at_337) rfl (XT.i0_eq_f (by decide)) (XS.iconst X126.here hx rfl (hb hby at_340) (XS.goto X126.here hx rfl (pc0 := 341) (pc' := 345) rfl (hb hby at_341) (by decide) (by decide) (XS.istore X126.here hx rfl (hb hby at_345) rfl (l' := #[iv p1, iv p2, iv p3, iv np9, iv ni9, iv j5, iv j6, iv j7, iv j8, iv j9, iv j10, iv j11, iv j12, iv j13, iv j14, rv b1, rv b12, rv b23, rv b34, rv b45, rv al1, rv al2, rv bc1, rv bc2, iv (1 : Int32)]) rfl kk_)))) ?_
            show gH T126 (mkF m 347 #[iv p1, iv p2, iv p3, iv np9, iv ni9, iv j5, iv j6, iv j7, iv j8, iv j9, iv j10, iv j11, iv j12, iv j13, iv j14, rv b1, rv b12, rv b23, rv b34, rv b45, rv al1, rv al2, rv bc1, rv bc2, iv (1 : Int32)] [])
            exact JR _ _ _ _ _ ((1 : Int32)) (X126.more (by decide) (by decide)) eq126 N126 Zs123 hS123 Ks123 hZ hown C123 MJ123_0 j123_0 j123_1 j123_2 j123_3 j123_4 j123_5 (own_b1 ⟨k9, k0, Or.inr k1⟩).symm
          · rw [own_b0 k1]
            show gH T126 (mkF m 337 #[iv p1, iv p2, iv p3, iv np9, iv ni9, iv j5, iv j6, iv j7, iv j8, iv j9, iv j10, iv j11, iv j12, iv j13, iv j14, rv b1, rv b12, rv b23, rv b34, rv b45, rv al1, rv al2, rv bc1, rv bc2, oU] [(.int (0 : Int32))])
            refine own_stH (fun _ kk_ => XS.ifYes X126.here hx rfl (pc0 := 337) (pc' := 344) rfl (hb hby at_337) rfl (XT.i0_eq_t (by decide)) (by decide) (by decide) (XS.iconst X126.here hx rfl (hb hby at_344) (XS.istore X126.here hx rfl (hb hby at_345) rfl (l' := #[iv p1, iv p2, iv p3, iv np9, iv ni9, iv j5, iv j6, iv j7, iv j8, iv j9, iv j10, iv j11, iv j12, iv j13, iv j14, rv b1, rv b12, rv b23, rv b34, rv b45, rv al1, rv al2, rv bc1, rv bc2, iv (0 : Int32)]) rfl kk_))) ?_
            show gH T126 (mkF m 347 #[iv p1, iv p2, iv p3, iv np9, iv ni9, iv j5, iv j6, iv j7, iv j8, iv j9, iv j10, iv j11, iv j12, iv j13, iv j14, rv b1, rv b12, rv b23, rv b34, rv b45, rv al1, rv al2, rv bc1, rv bc2, iv (0 : Int32)] [])
            exact JR _ _ _ _ _ ((0 : Int32)) (X126.more (by decide) (by decide)) eq126 N126 Zs123 hS123 Ks123 hZ hown C123 MJ123_0 j123_0 j123_1 j123_2 j123_3 j123_4 j123_5 (own_b0 (fun z => z.2.2.elim (fun y => k8 (by rw [y]; decide)) k1)).symm
      · rw [own_b0 k0]
        show gH T125 (mkF m 318 #[iv p1, iv p2, iv p3, iv np9, iv ni9, iv j5, iv j6, iv j7, iv j8, iv j9, iv j10, iv j11, iv j12, iv j13, iv j14, rv b1, rv b12, rv b23, rv b34, rv b45, rv al1, rv al2, rv bc1, rv bc2, oU] [(.int (0 : Int32))])
        refine own_stH (fun _ kk_ => XS.ifYes X125.here hx rfl (pc0 := 318) (pc' := 344) rfl (hb hby at_318) rfl (XT.i0_eq_t (by decide)) (by decide) (by decide) (XS.iconst X125.here hx rfl (hb hby at_344) (XS.istore X125.here hx rfl (hb hby at_345) rfl (l' := #[iv p1, iv p2, iv p3, iv np9, iv ni9, iv j5, iv j6, iv j7, iv j8, iv j9, iv j10, iv j11, iv j12, iv j13, iv j14, rv b1, rv b12, rv b23, rv b34, rv b45, rv al1, rv al2, rv bc1, rv bc2, iv (0 : Int32)]) rfl kk_))) ?_
        show gH T125 (mkF m 347 #[iv p1, iv p2, iv p3, iv np9, iv ni9, iv j5, iv j6, iv j7, iv j8, iv j9, iv j10, iv j11, iv j12, iv j13, iv j14, rv b1, rv b12, rv b23, rv b34, rv b45, rv al1, rv al2, rv bc1, rv bc2, iv (0 : Int32)] [])
        exact JR _ _ _ _ _ ((0 : Int32)) (X125.more (by decide) (by decide)) eq125 N125 Zs123 hS123 Ks123 hZ hown C123 MJ123_0 j123_0 j123_1 j123_2 j123_3 j123_4 j123_5 (own_b0 (fun z => k0 z.2.1)).symm
  rcases hnp with hnpq | hnpq
  · show gH T118 (mkF m 213 #[iv p1, iv p2, iv p3, iv np, iv ni, iv j5, iv j6, iv j7, iv j8, iv j9, iv j10, iv j11, iv j12, iv j13, iv j14, rv b1, rv b12, rv b23, rv b34, rv b45, rv b115, oU, oU, oU, oU] [])
    refine own_stH (fun _ kk_ => XS.iloadN X118.here hx rfl (hb hby at_213) rfl (XS.iconst X118.here hx rfl (hb hby at_214) (XS.icmpYes X118.here hx rfl (pc0 := 215) (pc' := 228) rfl (hb hby at_215) rfl (XT.ii_ne_t (by rw [hnpq]; decide)) (by decide) (by decide) kk_))) ?_
    show gH T118 (mkF m 228 #[iv p1, iv p2, iv p3, iv np, iv ni, iv j5, iv j6, iv j7, iv j8, iv j9, iv j10, iv j11, iv j12, iv j13, iv j14, rv b1, rv b12, rv b23, rv b34, rv b45, rv b115, oU, oU, oU, oU] [])
    obtain ⟨T174, h174, X174, e174, E174, A174, D174, -, st174⟩ := newO X118 hx hZ hown (own_w hw 142 rfl) (own_w hw 143 rfl) (own_w hw 144 rfl) rfl (g := (mkF m 228 #[iv p1, iv p2, iv p3, iv np, iv ni, iv j5, iv j6, iv j7, iv j8, iv j9, iv j10, iv j11, iv j12, iv j13, iv j14, rv b1, rv b12, rv b23, rv b34, rv b45, rv b115, oU, oU, oU, oU] [])) rfl (hb hby at_228) (by decide) (by decide)
    obtain ⟨b174, gx174⟩ : ∃ z, z = T118.heap.size := ⟨_, rfl⟩
    rw [← gx174] at A174 D174 st174
    have f174_0 := u118_1.ext E174
    have f174_1 := u118_2.ext E174
    have f174_2 := u118_3.ext E174
    have f174_3 := u118_4.ext E174
    have f174_4 := u118_5.ext E174
    have f174_5 := u118_6.ext E174
    have M174_0 := M118_0.ext E174
    have C174 := C118.trans (CHr.ext E174 C118.1)
    have Zs174 : n0 ≤ h174.size := Nat.le_trans Zs118 E174.1
    have Ks174 := Nat.le_trans Ks118 E174.1
    have fn174_modCount : Fld Z h174 b174 "java/util/AbstractList" "modCount" "I" (.int (0 : Int32)) := D174 (Or.inl (own_w hw 162 rfl)) (ty := .int) (by decide)
    have fn174_elementData : Fld Z h174 b174 "java/util/ArrayList" "elementData" "[Ljava/lang/Object;" .null := D174 (Or.inl (own_w hw 165 rfl)) (ty := (.array (.object "java/lang/Object"))) (by decide)
    have fn174_size : Fld Z h174 b174 "java/util/ArrayList" "size" "I" (.int (0 : Int32)) := D174 (Or.inl (own_w hw 178 rfl)) (ty := .int) (by decide)
    refine own_stH st174 ?_
    clear st174 X118
    refine own_stH (fun _ kk_ => XS.dup X174.here hx rfl (hb hby at_231) rfl rfl kk_) ?_
    show gH T174 (mkF m 232 #[iv p1, iv p2, iv p3, iv np, iv ni, iv j5, iv j6, iv j7, iv j8, iv j9, iv j10, iv j11, iv j12, iv j13, iv j14, rv b1, rv b12, rv b23, rv b34, rv b45, rv b115, oU, oU, oU, oU] [(.ref b174), (.ref b174)])
    have gg174 := Nat.le_trans Zs118 (Nat.le_of_eq gx174.symm)
    have mf176 := own_Sta_keep mf65 M174_0 ns0
    obtain ⟨T175, L175, v175, X175, hQ175, st175⟩ := own_cut (X174.specialBack hx (y := yy38) rfl hown (own_mw hZ hw 145 rfl) (own_mw hZ hw 146 rfl) (own_mw hZ hw 147 rfl) (by decide) (backOf (W := 1) (rm31 l Z a0 hw (b174) (dc) h174 n0 Zs174 A174 fn174_elementData fn174_size fn174_modCount gg174 mf176) hZ (own_w hw 147 rfl) (own_w hw 144 rfl) (by decide) (by decide)) (g := (mkF m 232 #[iv p1, iv p2, iv p3, iv np, iv ni, iv j5, iv j6, iv j7, iv j8, iv j9, iv j10, iv j11, iv j12, iv j13, iv j14, rv b1, rv b12, rv b23, rv b34, rv b45, rv b115, oU, oU, oU, oU] [(.ref b174), (.ref b174)])) rfl (by rw [hml]; rfl) (Steps.refl _) (a := b174) (argsL := []) (rest := [(.ref b174)]) (lenOf pd_23 rfl) rfl (own_bl rfl) (hb hby at_232) (fun _ _ => ⟨rfl, e174, own_bl rfl, own_bl rfl⟩))
    obtain ⟨rfl, Nq175, Kq175, u175_0, u175_1, u175_2, u175_3⟩ := hQ175
    have N175 := Fr.app N118 Nq175
    have f175_0 := f174_0.keep Kq175
    have n174_b115 := own_nl u118_1.lt gx174
    have f175_1 := f174_1.keep Kq175 (ninS n174_b115 nin0)
    have f175_2 := f174_2.keep Kq175 (ninS n174_b115 nin0)
    have f175_3 := f174_3.keep Kq175 (ninS n174_b115 nin0)
    have n174_x118_y := own_nl u118_5.lt gx174
    have f175_4 := f174_4.keep Kq175 (ninS n174_x118_y nin0)
    have f175_5 := f174_5.keep Kq175
    have f175_6 := A174.keep Kq175
    have ms174_0 := Nat.le_trans M118_0.1 (Nat.le_of_eq gx174.symm)
    have M175_0 := M174_0.trans Kq175 (allS (Or.inr ms174_0) all0)
    have C175 := C174.trans (CHr.keep Kq175 (sfS (Safe.exa hZ.alike A174 (by decide) (by decide)) sf0) C174.1)
    have Ks175 := Nat.le_trans Ks174 Kq175.1
    have Zs175 : n0 ≤ T175.heap.size := Nat.le_trans Zs174 Kq175.1
    refine own_sTH st175 ?_
    clear st175 X174
    refine own_stH (fun _ kk_ => XS.astore X175.here hx rfl (hb hby at_235) rfl rfl (l' := #[iv p1, iv p2, iv p3, iv np, iv ni, iv j5, iv j6, iv j7, iv j8, iv j9, iv j10, iv j11, iv j12, iv j13, iv j14, rv b1, rv b12, rv b23, rv b34, rv b45, rv b115, rv b174, oU, oU, oU]) rfl (XS.aload X175.here hx rfl (hb hby at_237) rfl rfl (XS.aload X175.here hx rfl (hb hby at_239) rfl rfl kk_))) ?_
    show gH T175 (mkF m 241 #[iv p1, iv p2, iv p3, iv np, iv ni, iv j5, iv j6, iv j7, iv j8, iv j9, iv j10, iv j11, iv j12, iv j13, iv j14, rv b1, rv b12, rv b23, rv b34, rv b45, rv b115, rv b174, oU, oU, oU] [(.ref b23), (.ref b174)])
    have mf178 := mf93.keep M175_0
    have mf179 := own_Sta_keep mf65 M175_0 ns0
    have mf180 := mf66.keep M175_0 nin0
    have nm181 := own_nk mf66.lt ms174_0
    obtain ⟨cq177, kq177, q177a, q177b, q177c⟩ := isOf hZ rfl u175_0
    obtain ⟨T177, L177, v177, X177, hQ177, st177⟩ := own_cut (X175.interfaceBack hx (xi := yy71) (y := yy42) hown (own_mw hZ hw 166 rfl) (own_mw hZ hw 167 rfl) (own_mw hZ hw 168 rfl) (own_mw hZ hw 169 rfl) (own_mw hZ hw 170 rfl) (own_mw hZ hw 171 rfl) (own_mw hZ hw 172 rfl) (own_mw hZ hw 173 rfl) (by decide) (backOf (W := 0) (rmAD0 l Z a0 hw (b174) (b23) (dc) (kdc) ((0 : Int32)) T175.heap n0 Zs175 mf178 u175_0 u175_1 u175_2 u175_3 gg174 mf179 mf180 nm181) hZ (own_w hw 174 rfl) (own_w hw 144 rfl) (by decide) (by decide)) q177a q177b q177c (g := (mkF m 241 #[iv p1, iv p2, iv p3, iv np, iv ni, iv j5, iv j6, iv j7, iv j8, iv j9, iv j10, iv j11, iv j12, iv j13, iv j14, rv b1, rv b12, rv b23, rv b34, rv b45, rv b115, rv b174, oU, oU, oU] [(.ref b23), (.ref b174)])) rfl (by rw [hml]; rfl) (Steps.refl _) (argsL := [(.ref b23)]) (rest := []) (lenOf pd_12 rfl) rfl (own_bl rfl) (hb hby at_241) (fun _ _ => ⟨rfl, rfl, own_bl rfl, own_bl rfl⟩))
    obtain ⟨x177_y, x177_ky, rfl, Nq177, Kq177, u177_0, u177_1, u177_2, u177_3, u177_4, u177_5, u177_6, u177_7⟩ := hQ177
    have N177 := Fr.app N175 Nq177
    have f177_0 := f175_0.keep Kq177
    have f177_1 := f175_1.keep Kq177 (ninS n174_b115 nin0)
    have f177_2 := f175_2.keep Kq177 (ninS n174_b115 nin0)
    have f177_3 := f175_3.keep Kq177 (ninS n174_b115 nin0)
    have f177_4 := f175_4.keep Kq177 (ninS n174_x118_y nin0)
    have f177_5 := f175_5.keep Kq177
    have f177_6 := u175_0.keep Kq177
    have M177_0 := M175_0.trans Kq177 (allS (Or.inr ms174_0) all0)
    have C177 := C175.trans (CHr.keep Kq177 (sfS (Safe.exa hZ.alike u175_0 (by decide) (by decide)) sf0) C175.1)
    have Ks177 := Nat.le_trans Ks175 Kq177.1
    have Zs177 : n0 ≤ T177.heap.size := Nat.le_trans Zs175 Kq177.1
    refine own_sTH st177 ?_
    clear st177 X175
    refine own_stH (fun _ kk_ => XS.pop X177.here hx rfl (hb hby at_246) rfl rfl kk_) ?_
    show gH T177 (mkF m 247 #[iv p1, iv p2, iv p3, iv np, iv ni, iv j5, iv j6, iv j7, iv j8, iv j9, iv j10, iv j11, iv j12, iv j13, iv j14, rv b1, rv b12, rv b23, rv b34, rv b45, rv b115, rv b174, oU, oU, oU] [])
    rcases hni with hniq | hniq | hniq
    · show gH T177 (mkF m 247 #[iv p1, iv p2, iv p3, iv np, iv ni, iv j5, iv j6, iv j7, iv j8, iv j9, iv j10, iv j11, iv j12, iv j13, iv j14, rv b1, rv b12, rv b23, rv b34, rv b45, rv b115, rv b174, oU, oU, oU] [])
      refine own_stH (fun _ kk_ => XS.iload X177.here hx rfl (hb hby at_247) rfl (XS.iconst X177.here hx rfl (hb hby at_249) (XS.icmpYes X177.here hx rfl (pc0 := 250) (pc' := 263) rfl (hb hby at_250) rfl (XT.ii_lt_t (by rw [hniq]; decide)) (by decide) (by decide) (XS.iload X177.here hx rfl (hb hby at_263) rfl (XS.iconst X177.here hx rfl (hb hby at_265) (XS.icmpYes X177.here hx rfl (pc0 := 266) (pc' := 279) rfl (hb hby at_266) rfl (XT.ii_ne_t (by rw [hniq]; decide)) (by decide) (by decide) kk_)))))) ?_
      show gH T177 (mkF m 279 #[iv p1, iv p2, iv p3, iv np, iv ni, iv j5, iv j6, iv j7, iv j8, iv j9, iv j10, iv j11, iv j12, iv j13, iv j14, rv b1, rv b12, rv b23, rv b34, rv b45, rv b115, rv b174, oU, oU, oU] [])
      obtain ⟨T182, h182, X182, e182, E182, A182, D182, -, st182⟩ := newO X177 hx hZ hown (own_w hw 198 rfl) (own_w hw 199 rfl) (own_w hw 50 rfl) rfl (g := (mkF m 279 #[iv p1, iv p2, iv p3, iv np, iv ni, iv j5, iv j6, iv j7, iv j8, iv j9, iv j10, iv j11, iv j12, iv j13, iv j14, rv b1, rv b12, rv b23, rv b34, rv b45, rv b115, rv b174, oU, oU, oU] [])) rfl (hb hby at_279) (by decide) (by decide)
      obtain ⟨b182, gx182⟩ : ∃ z, z = T177.heap.size := ⟨_, rfl⟩
      rw [← gx182] at A182 D182 st182
      have f182_0 := f177_0.ext E182
      have f182_1 := f177_1.ext E182
      have f182_2 := f177_2.ext E182
      have f182_3 := f177_3.ext E182
      have f182_4 := f177_4.ext E182
      have f182_5 := f177_5.ext E182
      have f182_6 := u177_1.ext E182
      have f182_7 := u177_2.ext E182
      have f182_8 := u177_3.ext E182
      have f182_9 := u177_4.ext E182
      have f182_10 := u177_5.ext E182
      have f182_11 := u177_6.ext E182
      have M182_0 := M177_0.ext E182
      have C182 := C177.trans (CHr.ext E182 C177.1)
      have Zs182 : n0 ≤ h182.size := Nat.le_trans Zs177 E182.1
      have Ks182 := Nat.le_trans Ks177 E182.1
      have fn182_pairs : Fld Z h182 b182 "com/example/firm_duties/firmduties/BusinessContext" "pairs" "Ljava/util/List;" .null := D182 (Or.inr (own_w hw 297 rfl)) (ty := (.object "java/util/List")) (by decide)
      refine own_stH st182 ?_
      clear st182 X177
      refine own_stH (fun _ kk_ => XS.dup X182.here hx rfl (hb hby at_282) rfl rfl (XS.aload X182.here hx rfl (hb hby at_283) rfl rfl kk_)) ?_
      show gH T182 (mkF m 285 #[iv p1, iv p2, iv p3, iv np, iv ni, iv j5, iv j6, iv j7, iv j8, iv j9, iv j10, iv j11, iv j12, iv j13, iv j14, rv b1, rv b12, rv b23, rv b34, rv b45, rv b115, rv b174, oU, oU, oU] [(.ref b115), (.ref b182), (.ref b182)])
      have gg182 := Nat.le_trans Zs177 (Nat.le_of_eq gx182.symm)
      have mf184 := mf71.keep M182_0
      have mf185 := mf82.keep M182_0
      have mf186 := own_Sta_keep mf68 M182_0 ns0
      obtain ⟨T183, L183, v183, X183, hQ183, st183⟩ := own_cut (X182.specialBack hx (y := yy60) rfl hown (own_mw hZ hw 200 rfl) (own_mw hZ hw 201 rfl) (own_mw hZ hw 202 rfl) (by decide) (backOf (W := 1) (rm38 l Z a0 hw (b182) (b115) (x118_y) (x118_ky) ((1 : Int32)) ([(.ref b1), .null, .null, .null, .null, .null, .null, .null, .null, .null]) (b1) (b12) (b12) (mo) (em) h182 n0 Zs182 A182 fn182_pairs gg182 f182_0 f182_1 f182_2 f182_4 f182_5 mf184 mf185 mf185 hmir mf186 (Or.inl ⟨rfl, rfl⟩) (Ne.symm nm57)) hZ (own_w hw 202 rfl) (own_w hw 50 rfl) (by decide) (by decide)) (g := (mkF m 285 #[iv p1, iv p2, iv p3, iv np, iv ni, iv j5, iv j6, iv j7, iv j8, iv j9, iv j10, iv j11, iv j12, iv j13, iv j14, rv b1, rv b12, rv b23, rv b34, rv b45, rv b115, rv b174, oU, oU, oU] [(.ref b115), (.ref b182), (.ref b182)])) rfl (by rw [hml]; rfl) (Steps.refl _) (a := b182) (argsL := [(.ref b115)]) (rest := [(.ref b182)]) (lenOf pd_41 rfl) rfl (own_bl rfl) (hb hby at_285) (fun _ _ => ⟨rfl, e182, own_bl rfl, own_bl rfl⟩))
      obtain ⟨x183_li, rfl, Nq183, Kq183, u183_0, u183_1, u183_2, u183_3⟩ := hQ183
      have N183 := Fr.app N177 Nq183
      have f183_0 := f182_0.keep Kq183
      have n182_b115 := own_nl f177_0.lt gx182
      have f183_1 := f182_1.keep Kq183 (ninS n182_b115 nin0)
      have f183_2 := f182_2.keep Kq183 (ninS n182_b115 nin0)
      have f183_3 := f182_3.keep Kq183 (ninS n182_b115 nin0)
      have n182_x118_y := own_nl f177_4.lt gx182
      have f183_4 := f182_4.keep Kq183 (ninS n182_x118_y nin0)
      have f183_5 := f182_5.keep Kq183
      have f183_6 := f182_6.keep Kq183
      have n182_b174 := own_nl u177_1.lt gx182
      have f183_7 := f182_7.keep Kq183 (ninS n182_b174 nin0)
      have f183_8 := f182_8.keep Kq183 (ninS n182_b174 nin0)
      have f183_9 := f182_9.keep Kq183 (ninS n182_b174 nin0)
      have n182_x177_y := own_nl u177_5.lt gx182
      have f183_10 := f182_10.keep Kq183 (ninS n182_x177_y nin0)
      have f183_11 := f182_11.keep Kq183
      have f183_12 := A182.keep Kq183
      have ms182_0 := Nat.le_trans M177_0.1 (Nat.le_of_eq gx182.symm)
      have M183_0 := M182_0.trans Kq183 (allS (Or.inr ms182_0) all0)
      have C183 := C182.trans (CHr.keep Kq183 (sfS (Safe.exa hZ.alike A182 (by decide) (by decide)) sf0) C182.1)
      have Ks183 := Nat.le_trans Ks182 Kq183.1
      have Zs183 : n0 ≤ T183.heap.size := Nat.le_trans Zs182 Kq183.1
      refine own_sTH st183 ?_
      clear st183 X182
      have hx285 := own_l.cast hnpq u183_1
      refine own_stH (fun _ kk_ => XS.astore X183.here hx rfl (hb hby at_288) rfl rfl (l' := #[iv p1, iv p2, iv p3, iv np, iv ni, iv j5, iv j6, iv j7, iv j8, iv j9, iv j10, iv j11, iv j12, iv j13, iv j14, rv b1, rv b12, rv b23, rv b34, rv b45, rv b115, rv b174, rv b182, oU, oU]) rfl kk_) ?_
      show gH T183 (mkF m 290 #[iv p1, iv p2, iv p3, iv np, iv ni, iv j5, iv j6, iv j7, iv j8, iv j9, iv j10, iv j11, iv j12, iv j13, iv j14, rv b1, rv b12, rv b23, rv b34, rv b45, rv b115, rv b174, rv b182, oU, oU] [])
      obtain ⟨T187, h187, X187, e187, E187, A187, D187, -, st187⟩ := newO X183 hx hZ hown (own_w hw 198 rfl) (own_w hw 199 rfl) (own_w hw 50 rfl) rfl (g := (mkF m 290 #[iv p1, iv p2, iv p3, iv np, iv ni, iv j5, iv j6, iv j7, iv j8, iv j9, iv j10, iv j11, iv j12, iv j13, iv j14, rv b1, rv b12, rv b23, rv b34, rv b45, rv b115, rv b174, rv b182, oU, oU] [])) rfl (hb hby at_290) (by decide) (by decide)
      obtain ⟨b187, gx187⟩ : ∃ z, z = T183.heap.size := ⟨_, rfl⟩
      rw [← gx187] at A187 D187 st187
      have M187_0 := M183_0.ext E187
      have M187_1 := (Keep.refl T183.heap []).ext E187
      have C187 := C183.trans (CHr.ext E187 C183.1)
      have Zs187 : n0 ≤ h187.size := Nat.le_trans Zs183 E187.1
      have Ks187 := Nat.le_trans Ks183 E187.1
      have fn187_pairs : Fld Z h187 b187 "com/example/firm_duties/firmduties/BusinessContext" "pairs" "Ljava/util/List;" .null := D187 (Or.inr (own_w hw 297 rfl)) (ty := (.object "java/util/List")) (by decide)
      refine own_stH st187 ?_
      clear st187 X183
      refine own_stH (fun _ kk_ => XS.dup X187.here hx rfl (hb hby at_293) rfl rfl (XS.aload X187.here hx rfl (hb hby at_294) rfl rfl kk_)) ?_
      show gH T187 (mkF m 296 #[iv p1, iv p2, iv p3, iv np, iv ni, iv j5, iv j6, iv j7, iv j8, iv j9, iv j10, iv j11, iv j12, iv j13, iv j14, rv b1, rv b12, rv b23, rv b34, rv b45, rv b115, rv b174, rv b182, oU, oU] [(.ref b174), (.ref b187), (.ref b187)])
      have gg187 := Nat.le_trans Zs183 (Nat.le_of_eq gx187.symm)
      have mf189 := f183_6.keep M187_1
      have mf190 := f183_7.keep M187_1 nin0
      have mf191 := f183_8.keep M187_1 nin0
      have mf192 := f183_10.keep M187_1 nin0
      have mf193 := f183_11.keep M187_1
      have mf194 := mf93.keep M187_0
      have mf195 := mf104.keep M187_0
      have mf196 := u50_0.keep M187_0
      have mf197 := own_Sta_keep mf68 M187_0 ns0
      obtain ⟨T188, L188, v188, X188, hQ188, st188⟩ := own_cut (X187.specialBack hx (y := yy60) rfl hown (own_mw hZ hw 200 rfl) (own_mw hZ hw 201 rfl) (own_mw hZ hw 202 rfl) (by decide) (backOf (W := 1) (rm38 l Z a0 hw (b187) (b174) (x177_y) (x177_ky) ((1 : Int32)) ([(.ref b23), .null, .null, .null, .null, .null, .null, .null, .null, .null]) (b23) (b34) (b45) (mo) (em) h187 n0 Zs187 A187 fn187_pairs gg187 mf189 mf190 mf191 mf192 mf193 mf194 mf195 mf196 hmir mf197 (Or.inl ⟨rfl, rfl⟩) (Ne.symm nm59)) hZ (own_w hw 202 rfl) (own_w hw 50 rfl) (by decide) (by decide)) (g := (mkF m 296 #[iv p1, iv p2, iv p3, iv np, iv ni, iv j5, iv j6, iv j7, iv j8, iv j9, iv j10, iv j11, iv j12, iv j13, iv j14, rv b1, rv b12, rv b23, rv b34, rv b45, rv b115, rv b174, rv b182, oU, oU] [(.ref b174), (.ref b187), (.ref b187)])) rfl (by rw [hml]; rfl) (Steps.refl _) (a := b187) (argsL := [(.ref b174)]) (rest := [(.ref b187)]) (lenOf pd_41 rfl) rfl (own_bl rfl) (hb hby at_296) (fun _ _ => ⟨rfl, e187, own_bl rfl, own_bl rfl⟩))
      obtain ⟨x188_li, rfl, Nq188, Kq188, u188_0, u188_1, u188_2, u188_3⟩ := hQ188
      have N188 := Fr.app N183 Nq188
      have f188_0 := A187.keep Kq188
      have ms187_0 := Nat.le_trans M183_0.1 (Nat.le_of_eq gx187.symm)
      have M188_0 := M187_0.trans Kq188 (allS (Or.inr ms187_0) all0)
      have ms187_1 := Nat.le_trans (Keep.refl T183.heap []).1 (Nat.le_of_eq gx187.symm)
      have M188_1 := M187_1.trans Kq188 (allS (Or.inr ms187_1) all0)
      have C188 := C187.trans (CHr.keep Kq188 (sfS (Safe.exa hZ.alike A187 (by decide) (by decide)) sf0) C187.1)
      have Ks188 := Nat.le_trans Ks187 Kq188.1
      have Zs188 : n0 ≤ T188.heap.size := Nat.le_trans Zs187 Kq188.1
      refine own_sTH st188 ?_
      clear st188 X187
      have hx296 := own_l.cast hniq u188_1
      refine own_stH (fun _ kk_ => XS.astore X188.here hx rfl (hb hby at_299) rfl rfl (l' := #[iv p1, iv p2, iv p3, iv np, iv ni, iv j5, iv j6, iv j7, iv j8, iv j9, iv j10, iv j11, iv j12, iv j13, iv j14, rv b1, rv b12, rv b23, rv b34, rv b45, rv b115, rv b174, rv b182, rv b187, oU]) rfl kk_) ?_
      show gH T188 (mkF m 301 #[iv p1, iv p2, iv p3, iv np, iv ni, iv j5, iv j6, iv j7, iv j8, iv j9, iv j10, iv j11, iv j12, iv j13, iv j14, rv b1, rv b12, rv b23, rv b34, rv b45, rv b115, rv b174, rv b182, rv b187, oU] [])
      have mf198 := u183_3.keep M188_1 nin0
      have mf199 := u183_2.keep M188_1
      have mf200 := own_l.keep hx285 M188_1
      exact JL _ _ _ _ _ (np) (ni) (b115) (b174) (b182) (b187) (x183_li) (x188_li) (_) (_) (X188.more (by decide) (by decide)) rfl N188 Zs188 hS50 Ks188 hZ hown C188 M188_0 mf199 mf198 u188_2 u188_3 mf200 hx296 (Or.inl hnpq)
    · show gH T177 (mkF m 247 #[iv p1, iv p2, iv p3, iv np, iv ni, iv j5, iv j6, iv j7, iv j8, iv j9, iv j10, iv j11, iv j12, iv j13, iv j14, rv b1, rv b12, rv b23, rv b34, rv b45, rv b115, rv b174, oU, oU, oU] [])
      refine own_stH (fun _ kk_ => XS.iload X177.here hx rfl (hb hby at_247) rfl (XS.iconst X177.here hx rfl (hb hby at_249) (XS.icmpNo X177.here hx rfl (hb hby at_250) rfl (XT.ii_lt_f (by rw [hniq]; decide)) (XS.aload X177.here hx rfl (hb hby at_253) rfl rfl (XS.aload X177.here hx rfl (hb hby at_255) rfl rfl kk_))))) ?_
      show gH T177 (mkF m 257 #[iv p1, iv p2, iv p3, iv np, iv ni, iv j5, iv j6, iv j7, iv j8, iv j9, iv j10, iv j11, iv j12, iv j13, iv j14, rv b1, rv b12, rv b23, rv b34, rv b45, rv b115, rv b174, oU, oU, oU] [(.ref b34), (.ref b174)])
      have mf202 := mf104.keep M177_0
      have gg177_y := Nat.le_trans Zs175 u177_0
      have n177_b174y := own_nk u175_0.lt u177_0
      obtain ⟨cq201, kq201, q201a, q201b, q201c⟩ := isOf hZ rfl u177_1
      obtain ⟨T201, L201, v201, X201, hQ201, st201⟩ := own_cut (X177.interfaceBack hx (xi := yy71) (y := yy42) hown (own_mw hZ hw 166 rfl) (own_mw hZ hw 167 rfl) (own_mw hZ hw 168 rfl) (own_mw hZ hw 169 rfl) (own_mw hZ hw 170 rfl) (own_mw hZ hw 171 rfl) (own_mw hZ hw 172 rfl) (own_mw hZ hw 173 rfl) (by decide) (backOf (W := 0) (rmAD1 l Z a0 hw (b174) (b34) (x177_y) (x177_ky) (((0 : Int32) + (1 : Int32))) (b23) T177.heap n0 Zs177 mf202 u177_1 u177_2 u177_3 u177_4 gg174 gg177_y u177_5 u177_6 u177_7 n177_b174y) hZ (own_w hw 174 rfl) (own_w hw 144 rfl) (by decide) (by decide)) q201a q201b q201c (g := (mkF m 257 #[iv p1, iv p2, iv p3, iv np, iv ni, iv j5, iv j6, iv j7, iv j8, iv j9, iv j10, iv j11, iv j12, iv j13, iv j14, rv b1, rv b12, rv b23, rv b34, rv b45, rv b115, rv b174, oU, oU, oU] [(.ref b34), (.ref b174)])) rfl (by rw [hml]; rfl) (Steps.refl _) (argsL := [(.ref b34)]) (rest := []) (lenOf pd_12 rfl) rfl (own_bl rfl) (hb hby at_257) (fun _ _ => ⟨rfl, rfl, own_bl rfl, own_bl rfl⟩))
      obtain ⟨rfl, Nq201, Kq201, u201_0, u201_1, u201_2, u201_3, u201_4, u201_5, u201_6⟩ := hQ201
      have N201 := Fr.app N177 Nq201
      have f201_0 := f177_0.keep Kq201
      have n177_b115y := own_nk f175_0.lt u177_0
      have f201_1 := f177_1.keep Kq201 (ninS n174_b115 (ninS n177_b115y nin0))
      have f201_2 := f177_2.keep Kq201 (ninS n174_b115 (ninS n177_b115y nin0))
      have f201_3 := f177_3.keep Kq201 (ninS n174_b115 (ninS n177_b115y nin0))
      have n177_x118_yy := own_nk f175_4.lt u177_0
      have f201_4 := f177_4.keep Kq201 (ninS n174_x118_y (ninS n177_x118_yy nin0))
      have f201_5 := f177_5.keep Kq201
      have f201_6 := u177_1.keep Kq201
      have f201_11 := u177_6.keep Kq201
      have ms177_0y := Nat.le_trans M175_0.1 u177_0
      have M201_0 := M177_0.trans Kq201 (allS (Or.inr ms174_0) (allS (Or.inr ms177_0y) all0))
      have C201 := C177.trans (CHr.keep Kq201 (sfS (Safe.exa hZ.alike u177_1 (by decide) (by decide)) (sfS (Safe.exa hZ.alike u177_6 (by decide) (by decide)) sf0)) C177.1)
      have Ks201 := Nat.le_trans Ks177 Kq201.1
      have Zs201 : n0 ≤ T201.heap.size := Nat.le_trans Zs177 Kq201.1
      refine own_sTH st201 ?_
      clear st201 X177
      refine own_stH (fun _ kk_ => XS.pop X201.here hx rfl (hb hby at_262) rfl rfl (XS.iload X201.here hx rfl (hb hby at_263) rfl (XS.iconst X201.here hx rfl (hb hby at_265) (XS.icmpYes X201.here hx rfl (pc0 := 266) (pc' := 279) rfl (hb hby at_266) rfl (XT.ii_ne_t (by rw [hniq]; decide)) (by decide) (by decide) kk_)))) ?_
      show gH T201 (mkF m 279 #[iv p1, iv p2, iv p3, iv np, iv ni, iv j5, iv j6, iv j7, iv j8, iv j9, iv j10, iv j11, iv j12, iv j13, iv j14, rv b1, rv b12, rv b23, rv b34, rv b45, rv b115, rv b174, oU, oU, oU] [])
      obtain ⟨T203, h203, X203, e203, E203, A203, D203, -, st203⟩ := newO X201 hx hZ hown (own_w hw 198 rfl) (own_w hw 199 rfl) (own_w hw 50 rfl) rfl (g := (mkF m 279 #[iv p1, iv p2, iv p3, iv np, iv ni, iv j5, iv j6, iv j7, iv j8, iv j9, iv j10, iv j11, iv j12, iv j13, iv j14, rv b1, rv b12, rv b23, rv b34, rv b45, rv b115, rv b174, oU, oU, oU] [])) rfl (hb hby at_279) (by decide) (by decide)
      obtain ⟨b203, gx203⟩ : ∃ z, z = T201.heap.size := ⟨_, rfl⟩
      rw [← gx203] at A203 D203 st203
      have f203_0 := f201_0.ext E203
      have f203_1 := f201_1.ext E203
      have f203_2 := f201_2.ext E203
      have f203_3 := f201_3.ext E203
      have f203_4 := f201_4.ext E203
      have f203_5 := f201_5.ext E203
      have f203_6 := u201_0.ext E203
      have f203_7 := u201_5.ext E203
      have f203_8 := u201_1.ext E203
      have f203_9 := u201_2.ext E203
      have f203_10 := u201_3.ext E203
      have f203_11 := u201_4.ext E203
      have M203_0 := M201_0.ext E203
      have C203 := C201.trans (CHr.ext E203 C201.1)
      have Zs203 : n0 ≤ h203.size := Nat.le_trans Zs201 E203.1
      have Ks203 := Nat.le_trans Ks201 E203.1
      have fn203_pairs : Fld Z h203 b203 "com/example/firm_duties/firmduties/BusinessContext" "pairs" "Ljava/util/List;" .null := D203 (Or.inr (own_w hw 297 rfl)) (ty := (.object "java/util/List")) (by decide)
      refine own_stH st203 ?_
      clear st203 X201
      refine own_stH (fun _ kk_ => XS.dup X203.here hx rfl (hb hby at_282) rfl rfl (XS.aload X203.here hx rfl (hb hby at_283) rfl rfl kk_)) ?_
      show gH T203 (mkF m 285 #[iv p1, iv p2, iv p3, iv np, iv ni, iv j5, iv j6, iv j7, iv j8, iv j9, iv j10, iv j11, iv j12, iv j13, iv j14, rv b1, rv b12, rv b23, rv b34, rv b45, rv b115, rv b174, oU, oU, oU] [(.ref b115), (.ref b203), (.ref b203)])
      have gg203 := Nat.le_trans Zs201 (Nat.le_of_eq gx203.symm)
      have mf205 := mf71.keep M203_0
      have mf206 := mf82.keep M203_0
      have mf207 := own_Sta_keep mf68 M203_0 ns0
      obtain ⟨T204, L204, v204, X204, hQ204, st204⟩ := own_cut (X203.specialBack hx (y := yy60) rfl hown (own_mw hZ hw 200 rfl) (own_mw hZ hw 201 rfl) (own_mw hZ hw 202 rfl) (by decide) (backOf (W := 1) (rm38 l Z a0 hw (b203) (b115) (x118_y) (x118_ky) ((1 : Int32)) ([(.ref b1), .null, .null, .null, .null, .null, .null, .null, .null, .null]) (b1) (b12) (b12) (mo) (em) h203 n0 Zs203 A203 fn203_pairs gg203 f203_0 f203_1 f203_2 f203_4 f203_5 mf205 mf206 mf206 hmir mf207 (Or.inl ⟨rfl, rfl⟩) (Ne.symm nm57)) hZ (own_w hw 202 rfl) (own_w hw 50 rfl) (by decide) (by decide)) (g := (mkF m 285 #[iv p1, iv p2, iv p3, iv np, iv ni, iv j5, iv j6, iv j7, iv j8, iv j9, iv j10, iv j11, iv j12, iv j13, iv j14, rv b1, rv b12, rv b23, rv b34, rv b45, rv b115, rv b174, oU, oU, oU] [(.ref b115), (.ref b203), (.ref b203)])) rfl (by rw [hml]; rfl) (Steps.refl _) (a := b203) (argsL := [(.ref b115)]) (rest := [(.ref b203)]) (lenOf pd_41 rfl) rfl (own_bl rfl) (hb hby at_285) (fun _ _ => ⟨rfl, e203, own_bl rfl, own_bl rfl⟩))
      obtain ⟨x204_li, rfl, Nq204, Kq204, u204_0, u204_1, u204_2, u204_3⟩ := hQ204
      have N204 := Fr.app N201 Nq204
      have f204_0 := f203_0.keep Kq204
      have n203_b115 := own_nl f201_0.lt gx203
      have f204_1 := f203_1.keep Kq204 (ninS n203_b115 nin0)
      have f204_2 := f203_2.keep Kq204 (ninS n203_b115 nin0)
      have f204_3 := f203_3.keep Kq204 (ninS n203_b115 nin0)
      have n203_x118_y := own_nl f201_4.lt gx203
      have f204_4 := f203_4.keep Kq204 (ninS n203_x118_y nin0)
      have f204_5 := f203_5.keep Kq204
      have f204_6 := f203_6.keep Kq204
      have f204_7 := f203_7.keep Kq204
      have n203_b174 := own_nl u201_0.lt gx203
      have f204_8 := f203_8.keep Kq204 (ninS n203_b174 nin0)
      have f204_9 := f203_9.keep Kq204 (ninS n203_b174 nin0)
      have f204_10 := f203_10.keep Kq204 (ninS n203_b174 nin0)
      have n203_x177_y := own_nl u201_5.lt gx203
      have f204_11 := f203_11.keep Kq204 (ninS n203_x177_y nin0)
      have f204_12 := A203.keep Kq204
      have ms203_0 := Nat.le_trans M201_0.1 (Nat.le_of_eq gx203.symm)
      have M204_0 := M203_0.trans Kq204 (allS (Or.inr ms203_0) all0)
      have C204 := C203.trans (CHr.keep Kq204 (sfS (Safe.exa hZ.alike A203 (by decide) (by decide)) sf0) C203.1)
      have Ks204 := Nat.le_trans Ks203 Kq204.1
      have Zs204 : n0 ≤ T204.heap.size := Nat.le_trans Zs203 Kq204.1
      refine own_sTH st204 ?_
      clear st204 X203
      have hx285 := own_l.cast hnpq u204_1
      refine own_stH (fun _ kk_ => XS.astore X204.here hx rfl (hb hby at_288) rfl rfl (l' := #[iv p1, iv p2, iv p3, iv np, iv ni, iv j5, iv j6, iv j7, iv j8, iv j9, iv j10, iv j11, iv j12, iv j13, iv j14, rv b1, rv b12, rv b23, rv b34, rv b45, rv b115, rv b174, rv b203, oU, oU]) rfl kk_) ?_
      show gH T204 (mkF m 290 #[iv p1, iv p2, iv p3, iv np, iv ni, iv j5, iv j6, iv j7, iv j8, iv j9, iv j10, iv j11, iv j12, iv j13, iv j14, rv b1, rv b12, rv b23, rv b34, rv b45, rv b115, rv b174, rv b203, oU, oU] [])
      obtain ⟨T208, h208, X208, e208, E208, A208, D208, -, st208⟩ := newO X204 hx hZ hown (own_w hw 198 rfl) (own_w hw 199 rfl) (own_w hw 50 rfl) rfl (g := (mkF m 290 #[iv p1, iv p2, iv p3, iv np, iv ni, iv j5, iv j6, iv j7, iv j8, iv j9, iv j10, iv j11, iv j12, iv j13, iv j14, rv b1, rv b12, rv b23, rv b34, rv b45, rv b115, rv b174, rv b203, oU, oU] [])) rfl (hb hby at_290) (by decide) (by decide)
      obtain ⟨b208, gx208⟩ : ∃ z, z = T204.heap.size := ⟨_, rfl⟩
      rw [← gx208] at A208 D208 st208
      have M208_0 := M204_0.ext E208
      have M208_1 := (Keep.refl T204.heap []).ext E208
      have C208 := C204.trans (CHr.ext E208 C204.1)
      have Zs208 : n0 ≤ h208.size := Nat.le_trans Zs204 E208.1
      have Ks208 := Nat.le_trans Ks204 E208.1
      have fn208_pairs : Fld Z h208 b208 "com/example/firm_duties/firmduties/BusinessContext" "pairs" "Ljava/util/List;" .null := D208 (Or.inr (own_w hw 297 rfl)) (ty := (.object "java/util/List")) (by decide)
      refine own_stH st208 ?_
      clear st208 X204
      refine own_stH (fun _ kk_ => XS.dup X208.here hx rfl (hb hby at_293) rfl rfl (XS.aload X208.here hx rfl (hb hby at_294) rfl rfl kk_)) ?_
      show gH T208 (mkF m 296 #[iv p1, iv p2, iv p3, iv np, iv ni, iv j5, iv j6, iv j7, iv j8, iv j9, iv j10, iv j11, iv j12, iv j13, iv j14, rv b1, rv b12, rv b23, rv b34, rv b45, rv b115, rv b174, rv b203, oU, oU] [(.ref b174), (.ref b208), (.ref b208)])
      have gg208 := Nat.le_trans Zs204 (Nat.le_of_eq gx208.symm)
      have mf210 := f204_6.keep M208_1
      have mf211 := f204_8.keep M208_1 nin0
      have mf212 := f204_9.keep M208_1 nin0
      have mf213 := f204_11.keep M208_1 nin0
      have mf214 := f204_7.keep M208_1
      have mf215 := mf93.keep M208_0
      have mf216 := mf104.keep M208_0
      have mf217 := u50_0.keep M208_0
      have mf218 := own_Sta_keep mf68 M208_0 ns0
      obtain ⟨T209, L209, v209, X209, hQ209, st209⟩ := own_cut (X208.specialBack hx (y := yy60) rfl hown (own_mw hZ hw 200 rfl) (own_mw hZ hw 201 rfl) (own_mw hZ hw 202 rfl) (by decide) (backOf (W := 1) (rm38 l Z a0 hw (b208) (b174) (x177_y) (x177_ky) ((2 : Int32)) ([(.ref b23), (.ref b34), .null, .null, .null, .null, .null, .null, .null, .null]) (b23) (b34) (b45) (mo) (em) h208 n0 Zs208 A208 fn208_pairs gg208 mf210 mf211 mf212 mf213 mf214 mf215 mf216 mf217 hmir mf218 (Or.inr (Or.inl ⟨rfl, rfl⟩)) (Ne.symm nm59)) hZ (own_w hw 202 rfl) (own_w hw 50 rfl) (by decide) (by decide)) (g := (mkF m 296 #[iv p1, iv p2, iv p3, iv np, iv ni, iv j5, iv j6, iv j7, iv j8, iv j9, iv j10, iv j11, iv j12, iv j13, iv j14, rv b1, rv b12, rv b23, rv b34, rv b45, rv b115, rv b174, rv b203, oU, oU] [(.ref b174), (.ref b208), (.ref b208)])) rfl (by rw [hml]; rfl) (Steps.refl _) (a := b208) (argsL := [(.ref b174)]) (rest := [(.ref b208)]) (lenOf pd_41 rfl) rfl (own_bl rfl) (hb hby at_296) (fun _ _ => ⟨rfl, e208, own_bl rfl, own_bl rfl⟩))
      obtain ⟨x209_li, rfl, Nq209, Kq209, u209_0, u209_1, u209_2, u209_3⟩ := hQ209
      have N209 := Fr.app N204 Nq209
      have f209_0 := A208.keep Kq209
      have ms208_0 := Nat.le_trans M204_0.1 (Nat.le_of_eq gx208.symm)
      have M209_0 := M208_0.trans Kq209 (allS (Or.inr ms208_0) all0)
      have ms208_1 := Nat.le_trans (Keep.refl T204.heap []).1 (Nat.le_of_eq gx208.symm)
      have M209_1 := M208_1.trans Kq209 (allS (Or.inr ms208_1) all0)
      have C209 := C208.trans (CHr.keep Kq209 (sfS (Safe.exa hZ.alike A208 (by decide) (by decide)) sf0) C208.1)
      have Ks209 := Nat.le_trans Ks208 Kq209.1
      have Zs209 : n0 ≤ T209.heap.size := Nat.le_trans Zs208 Kq209.1
      refine own_sTH st209 ?_
      clear st209 X208
      have hx296 := own_l.cast hniq u209_1
      refine own_stH (fun _ kk_ => XS.astore X209.here hx rfl (hb hby at_299) rfl rfl (l' := #[iv p1, iv p2, iv p3, iv np, iv ni, iv j5, iv j6, iv j7, iv j8, iv j9, iv j10, iv j11, iv j12, iv j13, iv j14, rv b1, rv b12, rv b23, rv b34, rv b45, rv b115, rv b174, rv b203, rv b208, oU]) rfl kk_) ?_
      show gH T209 (mkF m 301 #[iv p1, iv p2, iv p3, iv np, iv ni, iv j5, iv j6, iv j7, iv j8, iv j9, iv j10, iv j11, iv j12, iv j13, iv j14, rv b1, rv b12, rv b23, rv b34, rv b45, rv b115, rv b174, rv b203, rv b208, oU] [])
      have mf219 := u204_3.keep M209_1 nin0
      have mf220 := u204_2.keep M209_1
      have mf221 := own_l.keep hx285 M209_1
      exact JL _ _ _ _ _ (np) (ni) (b115) (b174) (b203) (b208) (x204_li) (x209_li) (_) (_) (X209.more (by decide) (by decide)) rfl N209 Zs209 hS50 Ks209 hZ hown C209 M209_0 mf220 mf219 u209_2 u209_3 mf221 hx296 (Or.inl hnpq)
    · show gH T177 (mkF m 247 #[iv p1, iv p2, iv p3, iv np, iv ni, iv j5, iv j6, iv j7, iv j8, iv j9, iv j10, iv j11, iv j12, iv j13, iv j14, rv b1, rv b12, rv b23, rv b34, rv b45, rv b115, rv b174, oU, oU, oU] [])
      refine own_stH (fun _ kk_ => XS.iload X177.here hx rfl (hb hby at_247) rfl (XS.iconst X177.here hx rfl (hb hby at_249) (XS.icmpNo X177.here hx rfl (hb hby at_250) rfl (XT.ii_lt_f (by rw [hniq]; decide)) (XS.aload X177.here hx rfl (hb hby at_253) rfl rfl (XS.aload X177.here hx rfl (hb hby at_255) rfl rfl kk_))))) ?_
      show gH T177 (mkF m 257 #[iv p1, iv p2, iv p3, iv np, iv ni, iv j5, iv j6, iv j7, iv j8, iv j9, iv j10, iv j11, iv j12, iv j13, iv j14, rv b1, rv b12, rv b23, rv b34, rv b45, rv b115, rv b174, oU, oU, oU] [(.ref b34), (.ref b174)])
      have mf223 := mf104.keep M177_0
      have gg177_y := Nat.le_trans Zs175 u177_0
      have n177_b174y := own_nk u175_0.lt u177_0
      obtain ⟨cq222, kq222, q222a, q222b, q222c⟩ := isOf hZ rfl u177_1
      obtain ⟨T222, L222, v222, X222, hQ222, st222⟩ := own_cut (X177.interfaceBack hx (xi := yy71) (y := yy42) hown (own_mw hZ hw 166 rfl) (own_mw hZ hw 167 rfl) (own_mw hZ hw 168 rfl) (own_mw hZ hw 169 rfl) (own_mw hZ hw 170 rfl) (own_mw hZ hw 171 rfl) (own_mw hZ hw 172 rfl) (own_mw hZ hw 173 rfl) (by decide) (backOf (W := 0) (rmAD1 l Z a0 hw (b174) (b34) (x177_y) (x177_ky) (((0 : Int32) + (1 : Int32))) (b23) T177.heap n0 Zs177 mf223 u177_1 u177_2 u177_3 u177_4 gg174 gg177_y u177_5 u177_6 u177_7 n177_b174y) hZ (own_w hw 174 rfl) (own_w hw 144 rfl) (by decide) (by decide)) q222a q222b q222c (g := (mkF m 257 #[iv p1, iv p2, iv p3, iv np, iv ni, iv j5, iv j6, iv j7, iv j8, iv j9, iv j10, iv j11, iv j12, iv j13, iv j14, rv b1, rv b12, rv b23, rv b34, rv b45, rv b115, rv b174, oU, oU, oU] [(.ref b34), (.ref b174)])) rfl (by rw [hml]; rfl) (Steps.refl _) (argsL := [(.ref b34)]) (rest := []) (lenOf pd_12 rfl) rfl (own_bl rfl) (hb hby at_257) (fun _ _ => ⟨rfl, rfl, own_bl rfl, own_bl rfl⟩))
      obtain ⟨rfl, Nq222, Kq222, u222_0, u222_1, u222_2, u222_3, u222_4, u222_5, u222_6⟩ := hQ222
      have N222 := Fr.app N177 Nq222
      have f222_0 := f177_0.keep Kq222
      have n177_b115y := own_nk f175_0.lt u177_0
      have f222_1 := f177_1.keep Kq222 (ninS n174_b115 (ninS n177_b115y nin0))
      have f222_2 := f177_2.keep Kq222 (ninS n174_b115 (ninS n177_b115y nin0))
      have f222_3 := f177_3.keep Kq222 (ninS n174_b115 (ninS n177_b115y nin0))
      have n177_x118_yy := own_nk f175_4.lt u177_0
      have f222_4 := f177_4.keep Kq222 (ninS n174_x118_y (ninS n177_x118_yy nin0))
      have f222_5 := f177_5.keep Kq222
      have f222_6 := u177_1.keep Kq222
      have f222_11 := u177_6.keep Kq222
      have ms177_0y := Nat.le_trans M175_0.1 u177_0
      have M222_0 := M177_0.trans Kq222 (allS (Or.inr ms174_0) (allS (Or.inr ms177_0y) all0))
      have C222 := C177.trans (CHr.keep Kq222 (sfS (Safe.exa hZ.alike u177_1 (by decide) (by decide)) (sfS (Safe.exa hZ.alike u177_6 (by decide) (by decide)) sf0)) C177.1)
      have Ks222 := Nat.le_trans Ks177 Kq222.1
      have Zs222 : n0 ≤ T222.heap.size := Nat.le_trans Zs177 Kq222.1
      refine own_sTH st222 ?_
      clear st222 X177
      refine own_stH (fun _ kk_ => XS.pop X222.here hx rfl (hb hby at_262) rfl rfl (XS.iload X222.here hx rfl (hb hby at_263) rfl (XS.iconst X222.here hx rfl (hb hby at_265) (XS.icmpNo X222.here hx rfl (hb hby at_266) rfl (XT.ii_ne_f hniq) (XS.aload X222.here hx rfl (hb hby at_269) rfl rfl (XS.aload X222.here hx rfl (hb hby at_271) rfl rfl kk_)))))) ?_
      show gH T222 (mkF m 273 #[iv p1, iv p2, iv p3, iv np, iv ni, iv j5, iv j6, iv j7, iv j8, iv j9, iv j10, iv j11, iv j12, iv j13, iv j14, rv b1, rv b12, rv b23, rv b34, rv b45, rv b115, rv b174, oU, oU, oU] [(.ref b45), (.ref b174)])
      have mf225 := u50_0.keep M222_0
      obtain ⟨cq224, kq224, q224a, q224b, q224c⟩ := isOf hZ rfl u222_0
      obtain ⟨T224, L224, v224, X224, hQ224, st224⟩ := own_cut (X222.interfaceBack hx (xi := yy71) (y := yy42) hown (own_mw hZ hw 166 rfl) (own_mw hZ hw 167 rfl) (own_mw hZ hw 168 rfl) (own_mw hZ hw 169 rfl) (own_mw hZ hw 170 rfl) (own_mw hZ hw 171 rfl) (own_mw hZ hw 172 rfl) (own_mw hZ hw 173 rfl) (by decide) (backOf (W := 0) (rmAD2 l Z a0 hw (b174) (b45) (x177_y) (x177_ky) ((((0 : Int32) + (1 : Int32)) + (1 : Int32))) (b23) (b34) T222.heap n0 Zs222 mf225 u222_0 u222_1 u222_2 u222_3 gg174 gg177_y u222_4 u222_5 u222_6 n177_b174y) hZ (own_w hw 174 rfl) (own_w hw 144 rfl) (by decide) (by decide)) q224a q224b q224c (g := (mkF m 273 #[iv p1, iv p2, iv p3, iv np, iv ni, iv j5, iv j6, iv j7, iv j8, iv j9, iv j10, iv j11, iv j12, iv j13, iv j14, rv b1, rv b12, rv b23, rv b34, rv b45, rv b115, rv b174, oU, oU, oU] [(.ref b45), (.ref b174)])) rfl (by rw [hml]; rfl) (Steps.refl _) (argsL := [(.ref b45)]) (rest := []) (lenOf pd_12 rfl) rfl (own_bl rfl) (hb hby at_273) (fun _ _ => ⟨rfl, rfl, own_bl rfl, own_bl rfl⟩))
      obtain ⟨rfl, Nq224, Kq224, u224_0, u224_1, u224_2, u224_3, u224_4, u224_5, u224_6⟩ := hQ224
      have N224 := Fr.app N222 Nq224
      have f224_0 := f222_0.keep Kq224
      have f224_1 := f222_1.keep Kq224 (ninS n174_b115 (ninS n177_b115y nin0))
      have f224_2 := f222_2.keep Kq224 (ninS n174_b115 (ninS n177_b115y nin0))
      have f224_3 := f222_3.keep Kq224 (ninS n174_b115 (ninS n177_b115y nin0))
      have f224_4 := f222_4.keep Kq224 (ninS n174_x118_y (ninS n177_x118_yy nin0))
      have f224_5 := f222_5.keep Kq224
      have f224_6 := u222_0.keep Kq224
      have f224_7 := u222_5.keep Kq224
      have M224_0 := M222_0.trans Kq224 (allS (Or.inr ms174_0) (allS (Or.inr ms177_0y) all0))
      have C224 := C222.trans (CHr.keep Kq224 (sfS (Safe.exa hZ.alike u222_0 (by decide) (by decide)) (sfS (Safe.exa hZ.alike u222_5 (by decide) (by decide)) sf0)) C222.1)
      have Ks224 := Nat.le_trans Ks222 Kq224.1
      have Zs224 : n0 ≤ T224.heap.size := Nat.le_trans Zs222 Kq224.1
      refine own_sTH st224 ?_
      clear st224 X222
      refine own_stH (fun _ kk_ => XS.pop X224.here hx rfl (hb hby at_278) rfl rfl kk_) ?_
      show gH T224 (mkF m 279 #[iv p1, iv p2, iv p3, iv np, iv ni, iv j5, iv j6, iv j7, iv j8, iv j9, iv j10, iv j11, iv j12, iv j13, iv j14, rv b1, rv b12, rv b23, rv b34, rv b45, rv b115, rv b174, oU, oU, oU] [])
      obtain ⟨T226, h226, X226, e226, E226, A226, D226, -, st226⟩ := newO X224 hx hZ hown (own_w hw 198 rfl) (own_w hw 199 rfl) (own_w hw 50 rfl) rfl (g := (mkF m 279 #[iv p1, iv p2, iv p3, iv np, iv ni, iv j5, iv j6, iv j7, iv j8, iv j9, iv j10, iv j11, iv j12, iv j13, iv j14, rv b1, rv b12, rv b23, rv b34, rv b45, rv b115, rv b174, oU, oU, oU] [])) rfl (hb hby at_279) (by decide) (by decide)
      obtain ⟨b226, gx226⟩ : ∃ z, z = T224.heap.size := ⟨_, rfl⟩
      rw [← gx226] at A226 D226 st226
      have f226_0 := f224_0.ext E226
      have f226_1 := f224_1.ext E226
      have f226_2 := f224_2.ext E226
      have f226_3 := f224_3.ext E226
      have f226_4 := f224_4.ext E226
      have f226_5 := f224_5.ext E226
      have f226_6 := u224_0.ext E226
      have f226_7 := u224_5.ext E226
      have f226_8 := u224_1.ext E226
      have f226_9 := u224_2.ext E226
      have f226_10 := u224_3.ext E226
      have f226_11 := u224_4.ext E226
      have M226_0 := M224_0.ext E226
      have C226 := C224.trans (CHr.ext E226 C224.1)
      have Zs226 : n0 ≤ h226.size := Nat.le_trans Zs224 E226.1
      have Ks226 := Nat.le_trans Ks224 E226.1
      have fn226_pairs : Fld Z h226 b226 "com/example/firm_duties/firmduties/BusinessContext" "pairs" "Ljava/util/List;" .null := D226 (Or.inr (own_w hw 297 rfl)) (ty := (.object "java/util/List")) (by decide)
      refine own_stH st226 ?_
      clear st226 X224
      refine own_stH (fun _ kk_ => XS.dup X226.here hx rfl (hb hby at_282) rfl rfl (XS.aload X226.here hx rfl (hb hby at_283) rfl rfl kk_)) ?_
      show gH T226 (mkF m 285 #[iv p1, iv p2, iv p3, iv np, iv ni, iv j5, iv j6, iv j7, iv j8, iv j9, iv j10, iv j11, iv j12, iv j13, iv j14, rv b1, rv b12, rv b23, rv b34, rv b45, rv b115, rv b174, oU, oU, oU] [(.ref b115), (.ref b226), (.ref b226)])
      have gg226 := Nat.le_trans Zs224 (Nat.le_of_eq gx226.symm)
      have mf228 := mf71.keep M226_0
      have mf229 := mf82.keep M226_0
      have mf230 := own_Sta_keep mf68 M226_0 ns0
      obtain ⟨T227, L227, v227, X227, hQ227, st227⟩ := own_cut (X226.specialBack hx (y := yy60) rfl hown (own_mw hZ hw 200 rfl) (own_mw hZ hw 201 rfl) (own_mw hZ hw 202 rfl) (by decide) (backOf (W := 1) (rm38 l Z a0 hw (b226) (b115) (x118_y) (x118_ky) ((1 : Int32)) ([(.ref b1), .null, .null, .null, .null, .null, .null, .null, .null, .null]) (b1) (b12) (b12) (mo) (em) h226 n0 Zs226 A226 fn226_pairs gg226 f226_0 f226_1 f226_2 f226_4 f226_5 mf228 mf229 mf229 hmir mf230 (Or.inl ⟨rfl, rfl⟩) (Ne.symm nm57)) hZ (own_w hw 202 rfl) (own_w hw 50 rfl) (by decide) (by decide)) (g := (mkF m 285 #[iv p1, iv p2, iv p3, iv np, iv ni, iv j5, iv j6, iv j7, iv j8, iv j9, iv j10, iv j11, iv j12, iv j13, iv j14, rv b1, rv b12, rv b23, rv b34, rv b45, rv b115, rv b174, oU, oU, oU] [(.ref b115), (.ref b226), (.ref b226)])) rfl (by rw [hml]; rfl) (Steps.refl _) (a := b226) (argsL := [(.ref b115)]) (rest := [(.ref b226)]) (lenOf pd_41 rfl) rfl (own_bl rfl) (hb hby at_285) (fun _ _ => ⟨rfl, e226, own_bl rfl, own_bl rfl⟩))
      obtain ⟨x227_li, rfl, Nq227, Kq227, u227_0, u227_1, u227_2, u227_3⟩ := hQ227
      have N227 := Fr.app N224 Nq227
      have f227_0 := f226_0.keep Kq227
      have n226_b115 := own_nl f224_0.lt gx226
      have f227_1 := f226_1.keep Kq227 (ninS n226_b115 nin0)
      have f227_2 := f226_2.keep Kq227 (ninS n226_b115 nin0)
      have f227_3 := f226_3.keep Kq227 (ninS n226_b115 nin0)
      have n226_x118_y := own_nl f224_4.lt gx226
      have f227_4 := f226_4.keep Kq227 (ninS n226_x118_y nin0)
      have f227_5 := f226_5.keep Kq227
      have f227_6 := f226_6.keep Kq227
      have f227_7 := f226_7.keep Kq227
      have n226_b174 := own_nl u224_0.lt gx226
      have f227_8 := f226_8.keep Kq227 (ninS n226_b174 nin0)
      have f227_9 := f226_9.keep Kq227 (ninS n226_b174 nin0)
      have f227_10 := f226_10.keep Kq227 (ninS n226_b174 nin0)
      have n226_x177_y := own_nl u224_5.lt gx226
      have f227_11 := f226_11.keep Kq227 (ninS n226_x177_y nin0)
      have f227_12 := A226.keep Kq227
      have ms226_0 := Nat.le_trans M224_0.1 (Nat.le_of_eq gx226.symm)
      have M227_0 := M226_0.trans Kq227 (allS (Or.inr ms226_0) all0)
      have C227 := C226.trans (CHr.keep Kq227 (sfS (Safe.exa hZ.alike A226 (by decide) (by decide)) sf0) C226.1)
      have Ks227 := Nat.le_trans Ks226 Kq227.1
      have Zs227 : n0 ≤ T227.heap.size := Nat.le_trans Zs226 Kq227.1
      refine own_sTH st227 ?_
      clear st227 X226
      have hx285 := own_l.cast hnpq u227_1
      refine own_stH (fun _ kk_ => XS.astore X227.here hx rfl (hb hby at_288) rfl rfl (l' := #[iv p1, iv p2, iv p3, iv np, iv ni, iv j5, iv j6, iv j7, iv j8, iv j9, iv j10, iv j11, iv j12, iv j13, iv j14, rv b1, rv b12, rv b23, rv b34, rv b45, rv b115, rv b174, rv b226, oU, oU]) rfl kk_) ?_
      show gH T227 (mkF m 290 #[iv p1, iv p2, iv p3, iv np, iv ni, iv j5, iv j6, iv j7, iv j8, iv j9, iv j10, iv j11, iv j12, iv j13, iv j14, rv b1, rv b12, rv b23, rv b34, rv b45, rv b115, rv b174, rv b226, oU, oU] [])
      obtain ⟨T231, h231, X231, e231, E231, A231, D231, -, st231⟩ := newO X227 hx hZ hown (own_w hw 198 rfl) (own_w hw 199 rfl) (own_w hw 50 rfl) rfl (g := (mkF m 290 #[iv p1, iv p2, iv p3, iv np, iv ni, iv j5, iv j6, iv j7, iv j8, iv j9, iv j10, iv j11, iv j12, iv j13, iv j14, rv b1, rv b12, rv b23, rv b34, rv b45, rv b115, rv b174, rv b226, oU, oU] [])) rfl (hb hby at_290) (by decide) (by decide)
      obtain ⟨b231, gx231⟩ : ∃ z, z = T227.heap.size := ⟨_, rfl⟩
      rw [← gx231] at A231 D231 st231
      have M231_0 := M227_0.ext E231
      have M231_1 := (Keep.refl T227.heap []).ext E231
      have C231 := C227.trans (CHr.ext E231 C227.1)
      have Zs231 : n0 ≤ h231.size := Nat.le_trans Zs227 E231.1
      have Ks231 := Nat.le_trans Ks227 E231.1
      have fn231_pairs : Fld Z h231 b231 "com/example/firm_duties/firmduties/BusinessContext" "pairs" "Ljava/util/List;" .null := D231 (Or.inr (own_w hw 297 rfl)) (ty := (.object "java/util/List")) (by decide)
      refine own_stH st231 ?_
      clear st231 X227
      refine own_stH (fun _ kk_ => XS.dup X231.here hx rfl (hb hby at_293) rfl rfl (XS.aload X231.here hx rfl (hb hby at_294) rfl rfl kk_)) ?_
      show gH T231 (mkF m 296 #[iv p1, iv p2, iv p3, iv np, iv ni, iv j5, iv j6, iv j7, iv j8, iv j9, iv j10, iv j11, iv j12, iv j13, iv j14, rv b1, rv b12, rv b23, rv b34, rv b45, rv b115, rv b174, rv b226, oU, oU] [(.ref b174), (.ref b231), (.ref b231)])
      have gg231 := Nat.le_trans Zs227 (Nat.le_of_eq gx231.symm)
      have mf233 := f227_6.keep M231_1
      have mf234 := f227_8.keep M231_1 nin0
      have mf235 := f227_9.keep M231_1 nin0
      have mf236 := f227_11.keep M231_1 nin0
      have mf237 := f227_7.keep M231_1
      have mf238 := mf93.keep M231_0
      have mf239 := mf104.keep M231_0
      have mf240 := u50_0.keep M231_0
      have mf241 := own_Sta_keep mf68 M231_0 ns0
      obtain ⟨T232, L232, v232, X232, hQ232, st232⟩ := own_cut (X231.specialBack hx (y := yy60) rfl hown (own_mw hZ hw 200 rfl) (own_mw hZ hw 201 rfl) (own_mw hZ hw 202 rfl) (by decide) (backOf (W := 1) (rm38 l Z a0 hw (b231) (b174) (x177_y) (x177_ky) ((3 : Int32)) ([(.ref b23), (.ref b34), (.ref b45), .null, .null, .null, .null, .null, .null, .null]) (b23) (b34) (b45) (mo) (em) h231 n0 Zs231 A231 fn231_pairs gg231 mf233 mf234 mf235 mf236 mf237 mf238 mf239 mf240 hmir mf241 (Or.inr (Or.inr ⟨rfl, rfl⟩)) (Ne.symm nm59)) hZ (own_w hw 202 rfl) (own_w hw 50 rfl) (by decide) (by decide)) (g := (mkF m 296 #[iv p1, iv p2, iv p3, iv np, iv ni, iv j5, iv j6, iv j7, iv j8, iv j9, iv j10, iv j11, iv j12, iv j13, iv j14, rv b1, rv b12, rv b23, rv b34, rv b45, rv b115, rv b174, rv b226, oU, oU] [(.ref b174), (.ref b231), (.ref b231)])) rfl (by rw [hml]; rfl) (Steps.refl _) (a := b231) (argsL := [(.ref b174)]) (rest := [(.ref b231)]) (lenOf pd_41 rfl) rfl (own_bl rfl) (hb hby at_296) (fun _ _ => ⟨rfl, e231, own_bl rfl, own_bl rfl⟩))
      obtain ⟨x232_li, rfl, Nq232, Kq232, u232_0, u232_1, u232_2, u232_3⟩ := hQ232
      have N232 := Fr.app N227 Nq232
      have f232_0 := A231.keep Kq232
      have ms231_0 := Nat.le_trans M227_0.1 (Nat.le_of_eq gx231.symm)
      have M232_0 := M231_0.trans Kq232 (allS (Or.inr ms231_0) all0)
      have ms231_1 := Nat.le_trans (Keep.refl T227.heap []).1 (Nat.le_of_eq gx231.symm)
      have M232_1 := M231_1.trans Kq232 (allS (Or.inr ms231_1) all0)
      have C232 := C231.trans (CHr.keep Kq232 (sfS (Safe.exa hZ.alike A231 (by decide) (by decide)) sf0) C231.1)
      have Ks232 := Nat.le_trans Ks231 Kq232.1
      have Zs232 : n0 ≤ T232.heap.size := Nat.le_trans Zs231 Kq232.1
      refine own_sTH st232 ?_
      clear st232 X231
      have hx296 := own_l.cast hniq u232_1
      refine own_stH (fun _ kk_ => XS.astore X232.here hx rfl (hb hby at_299) rfl rfl (l' := #[iv p1, iv p2, iv p3, iv np, iv ni, iv j5, iv j6, iv j7, iv j8, iv j9, iv j10, iv j11, iv j12, iv j13, iv j14, rv b1, rv b12, rv b23, rv b34, rv b45, rv b115, rv b174, rv b226, rv b231, oU]) rfl kk_) ?_
      show gH T232 (mkF m 301 #[iv p1, iv p2, iv p3, iv np, iv ni, iv j5, iv j6, iv j7, iv j8, iv j9, iv j10, iv j11, iv j12, iv j13, iv j14, rv b1, rv b12, rv b23, rv b34, rv b45, rv b115, rv b174, rv b226, rv b231, oU] [])
      have mf242 := u227_3.keep M232_1 nin0
      have mf243 := u227_2.keep M232_1
      have mf244 := own_l.keep hx285 M232_1
      exact JL _ _ _ _ _ (np) (ni) (b115) (b174) (b226) (b231) (x227_li) (x232_li) (_) (_) (X232.more (by decide) (by decide)) rfl N232 Zs232 hS50 Ks232 hZ hown C232 M232_0 mf243 mf242 u232_2 u232_3 mf244 hx296 (Or.inl hnpq)
  · show gH T118 (mkF m 213 #[iv p1, iv p2, iv p3, iv np, iv ni, iv j5, iv j6, iv j7, iv j8, iv j9, iv j10, iv j11, iv j12, iv j13, iv j14, rv b1, rv b12, rv b23, rv b34, rv b45, rv b115, oU, oU, oU, oU] [])
    refine own_stH (fun _ kk_ => XS.iloadN X118.here hx rfl (hb hby at_213) rfl (XS.iconst X118.here hx rfl (hb hby at_214) (XS.icmpNo X118.here hx rfl (hb hby at_215) rfl (XT.ii_ne_f hnpq) (XS.aload X118.here hx rfl (hb hby at_218) rfl rfl (XS.aload X118.here hx rfl (hb hby at_220) rfl rfl kk_))))) ?_
    show gH T118 (mkF m 222 #[iv p1, iv p2, iv p3, iv np, iv ni, iv j5, iv j6, iv j7, iv j8, iv j9, iv j10, iv j11, iv j12, iv j13, iv j14, rv b1, rv b12, rv b23, rv b34, rv b45, rv b115, oU, oU, oU, oU] [(.ref b12), (.ref b115)])
    have mf246 := mf82.keep M118_0
    have gg118_y := Nat.le_trans Zs116 u118_0
    have n118_b115y := own_nk u116_0.lt u118_0
    obtain ⟨cq245, kq245, q245a, q245b, q245c⟩ := isOf hZ rfl u118_1
    obtain ⟨T245, L245, v245, X245, hQ245, st245⟩ := own_cut (X118.interfaceBack hx (xi := yy71) (y := yy42) hown (own_mw hZ hw 166 rfl) (own_mw hZ hw 167 rfl) (own_mw hZ hw 168 rfl) (own_mw hZ hw 169 rfl) (own_mw hZ hw 170 rfl) (own_mw hZ hw 171 rfl) (own_mw hZ hw 172 rfl) (own_mw hZ hw 173 rfl) (by decide) (backOf (W := 0) (rmAD1 l Z a0 hw (b115) (b12) (x118_y) (x118_ky) (((0 : Int32) + (1 : Int32))) (b1) T118.heap n0 Zs118 mf246 u118_1 u118_2 u118_3 u118_4 gg115 gg118_y u118_5 u118_6 u118_7 n118_b115y) hZ (own_w hw 174 rfl) (own_w hw 144 rfl) (by decide) (by decide)) q245a q245b q245c (g := (mkF m 222 #[iv p1, iv p2, iv p3, iv np, iv ni, iv j5, iv j6, iv j7, iv j8, iv j9, iv j10, iv j11, iv j12, iv j13, iv j14, rv b1, rv b12, rv b23, rv b34, rv b45, rv b115, oU, oU, oU, oU] [(.ref b12), (.ref b115)])) rfl (by rw [hml]; rfl) (Steps.refl _) (argsL := [(.ref b12)]) (rest := []) (lenOf pd_12 rfl) rfl (own_bl rfl) (hb hby at_222) (fun _ _ => ⟨rfl, rfl, own_bl rfl, own_bl rfl⟩))
    obtain ⟨rfl, Nq245, Kq245, u245_0, u245_1, u245_2, u245_3, u245_4, u245_5, u245_6⟩ := hQ245
    have N245 := Fr.app N118 Nq245
    have f245_0 := u118_1.keep Kq245
    have f245_5 := u118_6.keep Kq245
    have ms118_0y := Nat.le_trans M116_0.1 u118_0
    have M245_0 := M118_0.trans Kq245 (allS (Or.inr ms115_0) (allS (Or.inr ms118_0y) all0))
    have C245 := C118.trans (CHr.keep Kq245 (sfS (Safe.exa hZ.alike u118_1 (by decide) (by decide)) (sfS (Safe.exa hZ.alike u118_6 (by decide) (by decide)) sf0)) C118.1)
    have Ks245 := Nat.le_trans Ks118 Kq245.1
    have Zs245 : n0 ≤ T245.heap.size := Nat.le_trans Zs118 Kq245.1
    refine own_sTH st245 ?_
    clear st245 X118
    refine own_stH (fun _ kk_ => XS.pop X245.here hx rfl (hb hby at_227) rfl rfl kk_) ?_
    show gH T245 (mkF m 228 #[iv p1, iv p2, iv p3, iv np, iv ni, iv j5, iv j6, iv j7, iv j8, iv j9, iv j10, iv j11, iv j12, iv j13, iv j14, rv b1, rv b12, rv b23, rv b34, rv b45, rv b115, oU, oU, oU, oU] [])
    obtain ⟨T247, h247, X247, e247, E247, A247, D247, -, st247⟩ := newO X245 hx hZ hown (own_w hw 142 rfl) (own_w hw 143 rfl) (own_w hw 144 rfl) rfl (g := (mkF m 228 #[iv p1, iv p2, iv p3, iv np, iv ni, iv j5, iv j6, iv j7, iv j8, iv j9, iv j10, iv j11, iv j12, iv j13, iv j14, rv b1, rv b12, rv b23, rv b34, rv b45, rv b115, oU, oU, oU, oU] [])) rfl (hb hby at_228) (by decide) (by decide)
    obtain ⟨b247, gx247⟩ : ∃ z, z = T245.heap.size := ⟨_, rfl⟩
    rw [← gx247] at A247 D247 st247
    have f247_0 := u245_0.ext E247
    have f247_1 := u245_5.ext E247
    have f247_2 := u245_1.ext E247
    have f247_3 := u245_2.ext E247
    have f247_4 := u245_3.ext E247
    have f247_5 := u245_4.ext E247
    have M247_0 := M245_0.ext E247
    have C247 := C245.trans (CHr.ext E247 C245.1)
    have Zs247 : n0 ≤ h247.size := Nat.le_trans Zs245 E247.1
    have Ks247 := Nat.le_trans Ks245 E247.1
    have fn247_modCount : Fld Z h247 b247 "java/util/AbstractList" "modCount" "I" (.int (0 : Int32)) := D247 (Or.inl (own_w hw 162 rfl)) (ty := .int) (by decide)
    have fn247_elementData : Fld Z h247 b247 "java/util/ArrayList" "elementData" "[Ljava/lang/Object;" .null := D247 (Or.inl (own_w hw 165 rfl)) (ty := (.array (.object "java/lang/Object"))) (by decide)
    have fn247_size : Fld Z h247 b247 "java/util/ArrayList" "size" "I" (.int (0 : Int32)) := D247 (Or.inl (own_w hw 178 rfl)) (ty := .int) (by decide)
    refine own_stH st247 ?_
    clear st247 X245
    refine own_stH (fun _ kk_ => XS.dup X247.here hx rfl (hb hby at_231) rfl rfl kk_) ?_
    show gH T247 (mkF m 232 #[iv p1, iv p2, iv p3, iv np, iv ni, iv j5, iv j6, iv j7, iv j8, iv j9, iv j10, iv j11, iv j12, iv j13, iv j14, rv b1, rv b12, rv b23, rv b34, rv b45, rv b115, oU, oU, oU, oU] [(.ref b247), (.ref b247)])
    have gg247 := Nat.le_trans Zs245 (Nat.le_of_eq gx247.symm)
    have mf249 := own_Sta_keep mf65 M247_0 ns0
    obtain ⟨T248, L248, v248, X248, hQ248, st248⟩ := own_cut (X247.specialBack hx (y := yy38) rfl hown (own_mw hZ hw 145 rfl) (own_mw hZ hw 146 rfl) (own_mw hZ hw 147 rfl) (by decide) (backOf (W := 1) (rm31 l Z a0 hw (b247) (dc) h247 n0 Zs247 A247 fn247_elementData fn247_size fn247_modCount gg247 mf249) hZ (own_w hw 147 rfl) (own_w hw 144 rfl) (by decide) (by decide)) (g := (mkF m 232 #[iv p1, iv p2, iv p3, iv np, iv ni, iv j5, iv j6, iv j7, iv j8, iv j9, iv j10, iv j11, iv j12, iv j13, iv j14, rv b1, rv b12, rv b23, rv b34, rv b45, rv b115, oU, oU, oU, oU] [(.ref b247), (.ref b247)])) rfl (by rw [hml]; rfl) (Steps.refl _) (a := b247) (argsL := []) (rest := [(.ref b247)]) (lenOf pd_23 rfl) rfl (own_bl rfl) (hb hby at_232) (fun _ _ => ⟨rfl, e247, own_bl rfl, own_bl rfl⟩))
    obtain ⟨rfl, Nq248, Kq248, u248_0, u248_1, u248_2, u248_3⟩ := hQ248
    have N248 := Fr.app N245 Nq248
    have f248_0 := f247_0.keep Kq248
    have f248_1 := f247_1.keep Kq248
    have n247_b115 := own_nl u245_0.lt gx247
    have f248_2 := f247_2.keep Kq248 (ninS n247_b115 nin0)
    have f248_3 := f247_3.keep Kq248 (ninS n247_b115 nin0)
    have f248_4 := f247_4.keep Kq248 (ninS n247_b115 nin0)
    have n247_x118_y := own_nl u245_5.lt gx247
    have f248_5 := f247_5.keep Kq248 (ninS n247_x118_y nin0)
    have f248_6 := A247.keep Kq248
    have ms247_0 := Nat.le_trans M245_0.1 (Nat.le_of_eq gx247.symm)
    have M248_0 := M247_0.trans Kq248 (allS (Or.inr ms247_0) all0)
    have C248 := C247.trans (CHr.keep Kq248 (sfS (Safe.exa hZ.alike A247 (by decide) (by decide)) sf0) C247.1)
    have Ks248 := Nat.le_trans Ks247 Kq248.1
    have Zs248 : n0 ≤ T248.heap.size := Nat.le_trans Zs247 Kq248.1
    refine own_sTH st248 ?_
    clear st248 X247
    refine own_stH (fun _ kk_ => XS.astore X248.here hx rfl (hb hby at_235) rfl rfl (l' := #[iv p1, iv p2, iv p3, iv np, iv ni, iv j5, iv j6, iv j7, iv j8, iv j9, iv j10, iv j11, iv j12, iv j13, iv j14, rv b1, rv b12, rv b23, rv b34, rv b45, rv b115, rv b247, oU, oU, oU]) rfl (XS.aload X248.here hx rfl (hb hby at_237) rfl rfl (XS.aload X248.here hx rfl (hb hby at_239) rfl rfl kk_))) ?_
    show gH T248 (mkF m 241 #[iv p1, iv p2, iv p3, iv np, iv ni, iv j5, iv j6, iv j7, iv j8, iv j9, iv j10, iv j11, iv j12, iv j13, iv j14, rv b1, rv b12, rv b23, rv b34, rv b45, rv b115, rv b247, oU, oU, oU] [(.ref b23), (.ref b247)])
    have mf251 := mf93.keep M248_0
    have mf252 := own_Sta_keep mf65 M248_0 ns0
    have mf253 := mf66.keep M248_0 nin0
    have nm254 := own_nk mf66.lt ms247_0
    obtain ⟨cq250, kq250, q250a, q250b, q250c⟩ := isOf hZ rfl u248_0
    obtain ⟨T250, L250, v250, X250, hQ250, st250⟩ := own_cut (X248.interfaceBack hx (xi := yy71) (y := yy42) hown (own_mw hZ hw 166 rfl) (own_mw hZ hw 167 rfl) (own_mw hZ hw 168 rfl) (own_mw hZ hw 169 rfl) (own_mw hZ hw 170 rfl) (own_mw hZ hw 171 rfl) (own_mw hZ hw 172 rfl) (own_mw hZ hw 173 rfl) (by decide) (backOf (W := 0) (rmAD0 l Z a0 hw (b247) (b23) (dc) (kdc) ((0 : Int32)) T248.heap n0 Zs248 mf251 u248_0 u248_1 u248_2 u248_3 gg247 mf252 mf253 nm254) hZ (own_w hw 174 rfl) (own_w hw 144 rfl) (by decide) (by decide)) q250a q250b q250c (g := (mkF m 241 #[iv p1, iv p2, iv p3, iv np, iv ni, iv j5, iv j6, iv j7, iv j8, iv j9, iv j10, iv j11, iv j12, iv j13, iv j14, rv b1, rv b12, rv b23, rv b34, rv b45, rv b115, rv b247, oU, oU, oU] [(.ref b23), (.ref b247)])) rfl (by rw [hml]; rfl) (Steps.refl _) (argsL := [(.ref b23)]) (rest := []) (lenOf pd_12 rfl) rfl (own_bl rfl) (hb hby at_241) (fun _ _ => ⟨rfl, rfl, own_bl rfl, own_bl rfl⟩))
    obtain ⟨x250_y, x250_ky, rfl, Nq250, Kq250, u250_0, u250_1, u250_2, u250_3, u250_4, u250_5, u250_6, u250_7⟩ := hQ250
    have N250 := Fr.app N248 Nq250
    have f250_0 := f248_0.keep Kq250
    have f250_1 := f248_1.keep Kq250
    have f250_2 := f248_2.keep Kq250 (ninS n247_b115 nin0)
    have f250_3 := f248_3.keep Kq250 (ninS n247_b115 nin0)
    have f250_4 := f248_4.keep Kq250 (ninS n247_b115 nin0)
    have f250_5 := f248_5.keep Kq250 (ninS n247_x118_y nin0)
    have f250_6 := u248_0.keep Kq250
    have M250_0 := M248_0.trans Kq250 (allS (Or.inr ms247_0) all0)
    have C250 := C248.trans (CHr.keep Kq250 (sfS (Safe.exa hZ.alike u248_0 (by decide) (by decide)) sf0) C248.1)
    have Ks250 := Nat.le_trans Ks248 Kq250.1
    have Zs250 : n0 ≤ T250.heap.size := Nat.le_trans Zs248 Kq250.1
    refine own_sTH st250 ?_
    clear st250 X248
    refine own_stH (fun _ kk_ => XS.pop X250.here hx rfl (hb hby at_246) rfl rfl kk_) ?_
    show gH T250 (mkF m 247 #[iv p1, iv p2, iv p3, iv np, iv ni, iv j5, iv j6, iv j7, iv j8, iv j9, iv j10, iv j11, iv j12, iv j13, iv j14, rv b1, rv b12, rv b23, rv b34, rv b45, rv b115, rv b247, oU, oU, oU] [])
    rcases hni with hniq | hniq | hniq
    · show gH T250 (mkF m 247 #[iv p1, iv p2, iv p3, iv np, iv ni, iv j5, iv j6, iv j7, iv j8, iv j9, iv j10, iv j11, iv j12, iv j13, iv j14, rv b1, rv b12, rv b23, rv b34, rv b45, rv b115, rv b247, oU, oU, oU] [])
      refine own_stH (fun _ kk_ => XS.iload X250.here hx rfl (hb hby at_247) rfl (XS.iconst X250.here hx rfl (hb hby at_249) (XS.icmpYes X250.here hx rfl (pc0 := 250) (pc' := 263) rfl (hb hby at_250) rfl (XT.ii_lt_t (by rw [hniq]; decide)) (by decide) (by decide) (XS.iload X250.here hx rfl (hb hby at_263) rfl (XS.iconst X250.here hx rfl (hb hby at_265) (XS.icmpYes X250.here hx rfl (pc0 := 266) (pc' := 279) rfl (hb hby at_266) rfl (XT.ii_ne_t (by rw [hniq]; decide)) (by decide) (by decide) kk_)))))) ?_
      show gH T250 (mkF m 279 #[iv p1, iv p2, iv p3, iv np, iv ni, iv j5, iv j6, iv j7, iv j8, iv j9, iv j10, iv j11, iv j12, iv j13, iv j14, rv b1, rv b12, rv b23, rv b34, rv b45, rv b115, rv b247, oU, oU, oU] [])
      obtain ⟨T255, h255, X255, e255, E255, A255, D255, -, st255⟩ := newO X250 hx hZ hown (own_w hw 198 rfl) (own_w hw 199 rfl) (own_w hw 50 rfl) rfl (g := (mkF m 279 #[iv p1, iv p2, iv p3, iv np, iv ni, iv j5, iv j6, iv j7, iv j8, iv j9, iv j10, iv j11, iv j12, iv j13, iv j14, rv b1, rv b12, rv b23, rv b34, rv b45, rv b115, rv b247, oU, oU, oU] [])) rfl (hb hby at_279) (by decide) (by decide)
      obtain ⟨b255, gx255⟩ : ∃ z, z = T250.heap.size := ⟨_, rfl⟩
      rw [← gx255] at A255 D255 st255
      have f255_0 := f250_0.ext E255
      have f255_1 := f250_1.ext E255
      have f255_2 := f250_2.ext E255
      have f255_3 := f250_3.ext E255
      have f255_4 := f250_4.ext E255
      have f255_5 := f250_5.ext E255
      have f255_6 := u250_1.ext E255
      have f255_7 := u250_2.ext E255
      have f255_8 := u250_3.ext E255
      have f255_9 := u250_4.ext E255
      have f255_10 := u250_5.ext E255
      have f255_11 := u250_6.ext E255
      have M255_0 := M250_0.ext E255
      have C255 := C250.trans (CHr.ext E255 C250.1)
      have Zs255 : n0 ≤ h255.size := Nat.le_trans Zs250 E255.1
      have Ks255 := Nat.le_trans Ks250 E255.1
      have fn255_pairs : Fld Z h255 b255 "com/example/firm_duties/firmduties/BusinessContext" "pairs" "Ljava/util/List;" .null := D255 (Or.inr (own_w hw 297 rfl)) (ty := (.object "java/util/List")) (by decide)
      refine own_stH st255 ?_
      clear st255 X250
      refine own_stH (fun _ kk_ => XS.dup X255.here hx rfl (hb hby at_282) rfl rfl (XS.aload X255.here hx rfl (hb hby at_283) rfl rfl kk_)) ?_
      show gH T255 (mkF m 285 #[iv p1, iv p2, iv p3, iv np, iv ni, iv j5, iv j6, iv j7, iv j8, iv j9, iv j10, iv j11, iv j12, iv j13, iv j14, rv b1, rv b12, rv b23, rv b34, rv b45, rv b115, rv b247, oU, oU, oU] [(.ref b115), (.ref b255), (.ref b255)])
      have gg255 := Nat.le_trans Zs250 (Nat.le_of_eq gx255.symm)
      have mf257 := mf71.keep M255_0
      have mf258 := mf82.keep M255_0
      have mf259 := own_Sta_keep mf68 M255_0 ns0
      obtain ⟨T256, L256, v256, X256, hQ256, st256⟩ := own_cut (X255.specialBack hx (y := yy60) rfl hown (own_mw hZ hw 200 rfl) (own_mw hZ hw 201 rfl) (own_mw hZ hw 202 rfl) (by decide) (backOf (W := 1) (rm38 l Z a0 hw (b255) (b115) (x118_y) (x118_ky) ((2 : Int32)) ([(.ref b1), (.ref b12), .null, .null, .null, .null, .null, .null, .null, .null]) (b1) (b12) (b12) (mo) (em) h255 n0 Zs255 A255 fn255_pairs gg255 f255_0 f255_2 f255_3 f255_5 f255_1 mf257 mf258 mf258 hmir mf259 (Or.inr (Or.inl ⟨rfl, rfl⟩)) (Ne.symm nm57)) hZ (own_w hw 202 rfl) (own_w hw 50 rfl) (by decide) (by decide)) (g := (mkF m 285 #[iv p1, iv p2, iv p3, iv np, iv ni, iv j5, iv j6, iv j7, iv j8, iv j9, iv j10, iv j11, iv j12, iv j13, iv j14, rv b1, rv b12, rv b23, rv b34, rv b45, rv b115, rv b247, oU, oU, oU] [(.ref b115), (.ref b255), (.ref b255)])) rfl (by rw [hml]; rfl) (Steps.refl _) (a := b255) (argsL := [(.ref b115)]) (rest := [(.ref b255)]) (lenOf pd_41 rfl) rfl (own_bl rfl) (hb hby at_285) (fun _ _ => ⟨rfl, e255, own_bl rfl, own_bl rfl⟩))
      obtain ⟨x256_li, rfl, Nq256, Kq256, u256_0, u256_1, u256_2, u256_3⟩ := hQ256
      have N256 := Fr.app N250 Nq256
      have f256_0 := f255_0.keep Kq256
      have f256_1 := f255_1.keep Kq256
      have n255_b115 := own_nl f250_0.lt gx255
      have f256_2 := f255_2.keep Kq256 (ninS n255_b115 nin0)
      have f256_3 := f255_3.keep Kq256 (ninS n255_b115 nin0)
      have f256_4 := f255_4.keep Kq256 (ninS n255_b115 nin0)
      have n255_x118_y := own_nl f250_1.lt gx255
      have f256_5 := f255_5.keep Kq256 (ninS n255_x118_y nin0)
      have f256_6 := f255_6.keep Kq256
      have n255_b247 := own_nl u250_1.lt gx255
      have f256_7 := f255_7.keep Kq256 (ninS n255_b247 nin0)
      have f256_8 := f255_8.keep Kq256 (ninS n255_b247 nin0)
      have f256_9 := f255_9.keep Kq256 (ninS n255_b247 nin0)
      have n255_x250_y := own_nl u250_5.lt gx255
      have f256_10 := f255_10.keep Kq256 (ninS n255_x250_y nin0)
      have f256_11 := f255_11.keep Kq256
      have f256_12 := A255.keep Kq256
      have ms255_0 := Nat.le_trans M250_0.1 (Nat.le_of_eq gx255.symm)
      have M256_0 := M255_0.trans Kq256 (allS (Or.inr ms255_0) all0)
      have C256 := C255.trans (CHr.keep Kq256 (sfS (Safe.exa hZ.alike A255 (by decide) (by decide)) sf0) C255.1)
      have Ks256 := Nat.le_trans Ks255 Kq256.1
      have Zs256 : n0 ≤ T256.heap.size := Nat.le_trans Zs255 Kq256.1
      refine own_sTH st256 ?_
      clear st256 X255
      have hx285 := own_l.cast hnpq u256_1
      refine own_stH (fun _ kk_ => XS.astore X256.here hx rfl (hb hby at_288) rfl rfl (l' := #[iv p1, iv p2, iv p3, iv np, iv ni, iv j5, iv j6, iv j7, iv j8, iv j9, iv j10, iv j11, iv j12, iv j13, iv j14, rv b1, rv b12, rv b23, rv b34, rv b45, rv b115, rv b247, rv b255, oU, oU]) rfl kk_) ?_
      show gH T256 (mkF m 290 #[iv p1, iv p2, iv p3, iv np, iv ni, iv j5, iv j6, iv j7, iv j8, iv j9, iv j10, iv j11, iv j12, iv j13, iv j14, rv b1, rv b12, rv b23, rv b34, rv b45, rv b115, rv b247, rv b255, oU, oU] [])
      obtain ⟨T260, h260, X260, e260, E260, A260, D260, -, st260⟩ := newO X256 hx hZ hown (own_w hw 198 rfl) (own_w hw 199 rfl) (own_w hw 50 rfl) rfl (g := (mkF m 290 #[iv p1, iv p2, iv p3, iv np, iv ni, iv j5, iv j6, iv j7, iv j8, iv j9, iv j10, iv j11, iv j12, iv j13, iv j14, rv b1, rv b12, rv b23, rv b34, rv b45, rv b115, rv b247, rv b255, oU, oU] [])) rfl (hb hby at_290) (by decide) (by decide)
      obtain ⟨b260, gx260⟩ : ∃ z, z = T256.heap.size := ⟨_, rfl⟩
      rw [← gx260] at A260 D260 st260
      have M260_0 := M256_0.ext E260
      have M260_1 := (Keep.refl T256.heap []).ext E260
      have C260 := C256.trans (CHr.ext E260 C256.1)
      have Zs260 : n0 ≤ h260.size := Nat.le_trans Zs256 E260.1
      have Ks260 := Nat.le_trans Ks256 E260.1
      have fn260_pairs : Fld Z h260 b260 "com/example/firm_duties/firmduties/BusinessContext" "pairs" "Ljava/util/List;" .null := D260 (Or.inr (own_w hw 297 rfl)) (ty := (.object "java/util/List")) (by decide)
      refine own_stH st260 ?_
      clear st260 X256
      refine own_stH (fun _ kk_ => XS.dup X260.here hx rfl (hb hby at_293) rfl rfl (XS.aload X260.here hx rfl (hb hby at_294) rfl rfl kk_)) ?_
      show gH T260 (mkF m 296 #[iv p1, iv p2, iv p3, iv np, iv ni, iv j5, iv j6, iv j7, iv j8, iv j9, iv j10, iv j11, iv j12, iv j13, iv j14, rv b1, rv b12, rv b23, rv b34, rv b45, rv b115, rv b247, rv b255, oU, oU] [(.ref b247), (.ref b260), (.ref b260)])
      have gg260 := Nat.le_trans Zs256 (Nat.le_of_eq gx260.symm)
      have mf262 := f256_6.keep M260_1
      have mf263 := f256_7.keep M260_1 nin0
      have mf264 := f256_8.keep M260_1 nin0
      have mf265 := f256_10.keep M260_1 nin0
      have mf266 := f256_11.keep M260_1
      have mf267 := mf93.keep M260_0
      have mf268 := mf104.keep M260_0
      have mf269 := u50_0.keep M260_0
      have mf270 := own_Sta_keep mf68 M260_0 ns0
      obtain ⟨T261, L261, v261, X261, hQ261, st261⟩ := own_cut (X260.specialBack hx (y := yy60) rfl hown (own_mw hZ hw 200 rfl) (own_mw hZ hw 201 rfl) (own_mw hZ hw 202 rfl) (by decide) (backOf (W := 1) (rm38 l Z a0 hw (b260) (b247) (x250_y) (x250_ky) ((1 : Int32)) ([(.ref b23), .null, .null, .null, .null, .null, .null, .null, .null, .null]) (b23) (b34) (b45) (mo) (em) h260 n0 Zs260 A260 fn260_pairs gg260 mf262 mf263 mf264 mf265 mf266 mf267 mf268 mf269 hmir mf270 (Or.inl ⟨rfl, rfl⟩) (Ne.symm nm59)) hZ (own_w hw 202 rfl) (own_w hw 50 rfl) (by decide) (by decide)) (g := (mkF m 296 #[iv p1, iv p2, iv p3, iv np, iv ni, iv j5, iv j6, iv j7, iv j8, iv j9, iv j10, iv j11, iv j12, iv j13, iv j14, rv b1, rv b12, rv b23, rv b34, rv b45, rv b115, rv b247, rv b255, oU, oU] [(.ref b247), (.ref b260), (.ref b260)])) rfl (by rw [hml]; rfl) (Steps.refl _) (a := b260) (argsL := [(.ref b247)]) (rest := [(.ref b260)]) (lenOf pd_41 rfl) rfl (own_bl rfl) (hb hby at_296) (fun _ _ => ⟨rfl, e260, own_bl rfl, own_bl rfl⟩))
      obtain ⟨x261_li, rfl, Nq261, Kq261, u261_0, u261_1, u261_2, u261_3⟩ := hQ261
      have N261 := Fr.app N256 Nq261
      have f261_0 := A260.keep Kq261
      have ms260_0 := Nat.le_trans M256_0.1 (Nat.le_of_eq gx260.symm)
      have M261_0 := M260_0.trans Kq261 (allS (Or.inr ms260_0) all0)
      have ms260_1 := Nat.le_trans (Keep.refl T256.heap []).1 (Nat.le_of_eq gx260.symm)
      have M261_1 := M260_1.trans Kq261 (allS (Or.inr ms260_1) all0)
      have C261 := C260.trans (CHr.keep Kq261 (sfS (Safe.exa hZ.alike A260 (by decide) (by decide)) sf0) C260.1)
      have Ks261 := Nat.le_trans Ks260 Kq261.1
      have Zs261 : n0 ≤ T261.heap.size := Nat.le_trans Zs260 Kq261.1
      refine own_sTH st261 ?_
      clear st261 X260
      have hx296 := own_l.cast hniq u261_1
      refine own_stH (fun _ kk_ => XS.astore X261.here hx rfl (hb hby at_299) rfl rfl (l' := #[iv p1, iv p2, iv p3, iv np, iv ni, iv j5, iv j6, iv j7, iv j8, iv j9, iv j10, iv j11, iv j12, iv j13, iv j14, rv b1, rv b12, rv b23, rv b34, rv b45, rv b115, rv b247, rv b255, rv b260, oU]) rfl kk_) ?_
      show gH T261 (mkF m 301 #[iv p1, iv p2, iv p3, iv np, iv ni, iv j5, iv j6, iv j7, iv j8, iv j9, iv j10, iv j11, iv j12, iv j13, iv j14, rv b1, rv b12, rv b23, rv b34, rv b45, rv b115, rv b247, rv b255, rv b260, oU] [])
      have mf271 := u256_3.keep M261_1 nin0
      have mf272 := u256_2.keep M261_1
      have mf273 := own_l.keep hx285 M261_1
      exact JL _ _ _ _ _ (np) (ni) (b115) (b247) (b255) (b260) (x256_li) (x261_li) (_) (_) (X261.more (by decide) (by decide)) rfl N261 Zs261 hS50 Ks261 hZ hown C261 M261_0 mf272 mf271 u261_2 u261_3 mf273 hx296 (Or.inr hnpq)
    · show gH T250 (mkF m 247 #[iv p1, iv p2, iv p3, iv np, iv ni, iv j5, iv j6, iv j7, iv j8, iv j9, iv j10, iv j11, iv j12, iv j13, iv j14, rv b1, rv b12, rv b23, rv b34, rv b45, rv b115, rv b247, oU, oU, oU] [])
      refine own_stH (fun _ kk_ => XS.iload X250.here hx rfl (hb hby at_247) rfl (XS.iconst X250.here hx rfl (hb hby at_249) (XS.icmpNo X250.here hx rfl (hb hby at_250) rfl (XT.ii_lt_f (by rw [hniq]; decide)) (XS.aload X250.here hx rfl (hb hby at_253) rfl rfl (XS.aload X250.here hx rfl (hb hby at_255) rfl rfl kk_))))) ?_
      show gH T250 (mkF m 257 #[iv p1, iv p2, iv p3, iv np, iv ni, iv j5, iv j6, iv j7, iv j8, iv j9, iv j10, iv j11, iv j12, iv j13, iv j14, rv b1, rv b12, rv b23, rv b34, rv b45, rv b115, rv b247, oU, oU, oU] [(.ref b34), (.ref b247)])
      have mf275 := mf104.keep M250_0
      have gg250_y := Nat.le_trans Zs248 u250_0
      have n250_b247y := own_nk u248_0.lt u250_0
      obtain ⟨cq274, kq274, q274a, q274b, q274c⟩ := isOf hZ rfl u250_1
      obtain ⟨T274, L274, v274, X274, hQ274, st274⟩ := own_cut (X250.interfaceBack hx (xi := yy71) (y := yy42) hown (own_mw hZ hw 166 rfl) (own_mw hZ hw 167 rfl) (own_mw hZ hw 168 rfl) (own_mw hZ hw 169 rfl) (own_mw hZ hw 170 rfl) (own_mw hZ hw 171 rfl) (own_mw hZ hw 172 rfl) (own_mw hZ hw 173 rfl) (by decide) (backOf (W := 0) (rmAD1 l Z a0 hw (b247) (b34) (x250_y) (x250_ky) (((0 : Int32) + (1 : Int32))) (b23) T250.heap n0 Zs250 mf275 u250_1 u250_2 u250_3 u250_4 gg247 gg250_y u250_5 u250_6 u250_7 n250_b247y) hZ (own_w hw 174 rfl) (own_w hw 144 rfl) (by decide) (by decide)) q274a q274b q274c (g := (mkF m 257 #[iv p1, iv p2, iv p3, iv np, iv ni, iv j5, iv j6, iv j7, iv j8, iv j9, iv j10, iv j11, iv j12, iv j13, iv j14, rv b1, rv b12, rv b23, rv b34, rv b45, rv b115, rv b247, oU, oU, oU] [(.ref b34), (.ref b247)])) rfl (by rw [hml]; rfl) (Steps.refl _) (argsL := [(.ref b34)]) (rest := []) (lenOf pd_12 rfl) rfl (own_bl rfl) (hb hby at_257) (fun _ _ => ⟨rfl, rfl, own_bl rfl, own_bl rfl⟩))
      obtain ⟨rfl, Nq274, Kq274, u274_0, u274_1, u274_2, u274_3, u274_4, u274_5, u274_6⟩ := hQ274
      have N274 := Fr.app N250 Nq274
      have f274_0 := f250_0.keep Kq274
      have f274_1 := f250_1.keep Kq274
      have n250_b115y := own_nk f248_0.lt u250_0
      have f274_2 := f250_2.keep Kq274 (ninS n247_b115 (ninS n250_b115y nin0))
      have f274_3 := f250_3.keep Kq274 (ninS n247_b115 (ninS n250_b115y nin0))
      have f274_4 := f250_4.keep Kq274 (ninS n247_b115 (ninS n250_b115y nin0))
      have n250_x118_yy := own_nk f248_1.lt u250_0
      have f274_5 := f250_5.keep Kq274 (ninS n247_x118_y (ninS n250_x118_yy nin0))
      have f274_6 := u250_1.keep Kq274
      have f274_11 := u250_6.keep Kq274
      have ms250_0y := Nat.le_trans M248_0.1 u250_0
      have M274_0 := M250_0.trans Kq274 (allS (Or.inr ms247_0) (allS (Or.inr ms250_0y) all0))
      have C274 := C250.trans (CHr.keep Kq274 (sfS (Safe.exa hZ.alike u250_1 (by decide) (by decide)) (sfS (Safe.exa hZ.alike u250_6 (by decide) (by decide)) sf0)) C250.1)
      have Ks274 := Nat.le_trans Ks250 Kq274.1
      have Zs274 : n0 ≤ T274.heap.size := Nat.le_trans Zs250 Kq274.1
      refine own_sTH st274 ?_
      clear st274 X250
      refine own_stH (fun _ kk_ => XS.pop X274.here hx rfl (hb hby at_262) rfl rfl (XS.iload X274.here hx rfl (hb hby at_263) rfl (XS.iconst X274.here hx rfl (hb hby at_265) (XS.icmpYes X274.here hx rfl (pc0 := 266) (pc' := 279) rfl (hb hby at_266) rfl (XT.ii_ne_t (by rw [hniq]; decide)) (by decide) (by decide) kk_)))) ?_
      show gH T274 (mkF m 279 #[iv p1, iv p2, iv p3, iv np, iv ni, iv j5, iv j6, iv j7, iv j8, iv j9, iv j10, iv j11, iv j12, iv j13, iv j14, rv b1, rv b12, rv b23, rv b34, rv b45, rv b115, rv b247, oU, oU, oU] [])
      obtain ⟨T276, h276, X276, e276, E276, A276, D276, -, st276⟩ := newO X274 hx hZ hown (own_w hw 198 rfl) (own_w hw 199 rfl) (own_w hw 50 rfl) rfl (g := (mkF m 279 #[iv p1, iv p2, iv p3, iv np, iv ni, iv j5, iv j6, iv j7, iv j8, iv j9, iv j10, iv j11, iv j12, iv j13, iv j14, rv b1, rv b12, rv b23, rv b34, rv b45, rv b115, rv b247, oU, oU, oU] [])) rfl (hb hby at_279) (by decide) (by decide)
      obtain ⟨b276, gx276⟩ : ∃ z, z = T274.heap.size := ⟨_, rfl⟩
      rw [← gx276] at A276 D276 st276
      have f276_0 := f274_0.ext E276
      have f276_1 := f274_1.ext E276
      have f276_2 := f274_2.ext E276
      have f276_3 := f274_3.ext E276
      have f276_4 := f274_4.ext E276
      have f276_5 := f274_5.ext E276
      have f276_6 := u274_0.ext E276
      have f276_7 := u274_5.ext E276
      have f276_8 := u274_1.ext E276
      have f276_9 := u274_2.ext E276
      have f276_10 := u274_3.ext E276
      have f276_11 := u274_4.ext E276
      have M276_0 := M274_0.ext E276
      have C276 := C274.trans (CHr.ext E276 C274.1)
      have Zs276 : n0 ≤ h276.size := Nat.le_trans Zs274 E276.1
      have Ks276 := Nat.le_trans Ks274 E276.1
      have fn276_pairs : Fld Z h276 b276 "com/example/firm_duties/firmduties/BusinessContext" "pairs" "Ljava/util/List;" .null := D276 (Or.inr (own_w hw 297 rfl)) (ty := (.object "java/util/List")) (by decide)
      refine own_stH st276 ?_
      clear st276 X274
      refine own_stH (fun _ kk_ => XS.dup X276.here hx rfl (hb hby at_282) rfl rfl (XS.aload X276.here hx rfl (hb hby at_283) rfl rfl kk_)) ?_
      show gH T276 (mkF m 285 #[iv p1, iv p2, iv p3, iv np, iv ni, iv j5, iv j6, iv j7, iv j8, iv j9, iv j10, iv j11, iv j12, iv j13, iv j14, rv b1, rv b12, rv b23, rv b34, rv b45, rv b115, rv b247, oU, oU, oU] [(.ref b115), (.ref b276), (.ref b276)])
      have gg276 := Nat.le_trans Zs274 (Nat.le_of_eq gx276.symm)
      have mf278 := mf71.keep M276_0
      have mf279 := mf82.keep M276_0
      have mf280 := own_Sta_keep mf68 M276_0 ns0
      obtain ⟨T277, L277, v277, X277, hQ277, st277⟩ := own_cut (X276.specialBack hx (y := yy60) rfl hown (own_mw hZ hw 200 rfl) (own_mw hZ hw 201 rfl) (own_mw hZ hw 202 rfl) (by decide) (backOf (W := 1) (rm38 l Z a0 hw (b276) (b115) (x118_y) (x118_ky) ((2 : Int32)) ([(.ref b1), (.ref b12), .null, .null, .null, .null, .null, .null, .null, .null]) (b1) (b12) (b12) (mo) (em) h276 n0 Zs276 A276 fn276_pairs gg276 f276_0 f276_2 f276_3 f276_5 f276_1 mf278 mf279 mf279 hmir mf280 (Or.inr (Or.inl ⟨rfl, rfl⟩)) (Ne.symm nm57)) hZ (own_w hw 202 rfl) (own_w hw 50 rfl) (by decide) (by decide)) (g := (mkF m 285 #[iv p1, iv p2, iv p3, iv np, iv ni, iv j5, iv j6, iv j7, iv j8, iv j9, iv j10, iv j11, iv j12, iv j13, iv j14, rv b1, rv b12, rv b23, rv b34, rv b45, rv b115, rv b247, oU, oU, oU] [(.ref b115), (.ref b276), (.ref b276)])) rfl (by rw [hml]; rfl) (Steps.refl _) (a := b276) (argsL := [(.ref b115)]) (rest := [(.ref b276)]) (lenOf pd_41 rfl) rfl (own_bl rfl) (hb hby at_285) (fun _ _ => ⟨rfl, e276, own_bl rfl, own_bl rfl⟩))
      obtain ⟨x277_li, rfl, Nq277, Kq277, u277_0, u277_1, u277_2, u277_3⟩ := hQ277
      have N277 := Fr.app N274 Nq277
      have f277_0 := f276_0.keep Kq277
      have f277_1 := f276_1.keep Kq277
      have n276_b115 := own_nl f274_0.lt gx276
      have f277_2 := f276_2.keep Kq277 (ninS n276_b115 nin0)
      have f277_3 := f276_3.keep Kq277 (ninS n276_b115 nin0)
      have f277_4 := f276_4.keep Kq277 (ninS n276_b115 nin0)
      have n276_x118_y := own_nl f274_1.lt gx276
      have f277_5 := f276_5.keep Kq277 (ninS n276_x118_y nin0)
      have f277_6 := f276_6.keep Kq277
      have f277_7 := f276_7.keep Kq277
      have n276_b247 := own_nl u274_0.lt gx276
      have f277_8 := f276_8.keep Kq277 (ninS n276_b247 nin0)
      have f277_9 := f276_9.keep Kq277 (ninS n276_b247 nin0)
      have f277_10 := f276_10.keep Kq277 (ninS n276_b247 nin0)
      have n276_x250_y := own_nl u274_5.lt gx276
      have f277_11 := f276_11.keep Kq277 (ninS n276_x250_y nin0)
      have f277_12 := A276.keep Kq277
      have ms276_0 := Nat.le_trans M274_0.1 (Nat.le_of_eq gx276.symm)
      have M277_0 := M276_0.trans Kq277 (allS (Or.inr ms276_0) all0)
      have C277 := C276.trans (CHr.keep Kq277 (sfS (Safe.exa hZ.alike A276 (by decide) (by decide)) sf0) C276.1)
      have Ks277 := Nat.le_trans Ks276 Kq277.1
      have Zs277 : n0 ≤ T277.heap.size := Nat.le_trans Zs276 Kq277.1
      refine own_sTH st277 ?_
      clear st277 X276
      have hx285 := own_l.cast hnpq u277_1
      refine own_stH (fun _ kk_ => XS.astore X277.here hx rfl (hb hby at_288) rfl rfl (l' := #[iv p1, iv p2, iv p3, iv np, iv ni, iv j5, iv j6, iv j7, iv j8, iv j9, iv j10, iv j11, iv j12, iv j13, iv j14, rv b1, rv b12, rv b23, rv b34, rv b45, rv b115, rv b247, rv b276, oU, oU]) rfl kk_) ?_
      show gH T277 (mkF m 290 #[iv p1, iv p2, iv p3, iv np, iv ni, iv j5, iv j6, iv j7, iv j8, iv j9, iv j10, iv j11, iv j12, iv j13, iv j14, rv b1, rv b12, rv b23, rv b34, rv b45, rv b115, rv b247, rv b276, oU, oU] [])
      obtain ⟨T281, h281, X281, e281, E281, A281, D281, -, st281⟩ := newO X277 hx hZ hown (own_w hw 198 rfl) (own_w hw 199 rfl) (own_w hw 50 rfl) rfl (g := (mkF m 290 #[iv p1, iv p2, iv p3, iv np, iv ni, iv j5, iv j6, iv j7, iv j8, iv j9, iv j10, iv j11, iv j12, iv j13, iv j14, rv b1, rv b12, rv b23, rv b34, rv b45, rv b115, rv b247, rv b276, oU, oU] [])) rfl (hb hby at_290) (by decide) (by decide)
      obtain ⟨b281, gx281⟩ : ∃ z, z = T277.heap.size := ⟨_, rfl⟩
      rw [← gx281] at A281 D281 st281
      have M281_0 := M277_0.ext E281
      have M281_1 := (Keep.refl T277.heap []).ext E281
      have C281 := C277.trans (CHr.ext E281 C277.1)
      have Zs281 : n0 ≤ h281.size := Nat.le_trans Zs277 E281.1
      have Ks281 := Nat.le_trans Ks277 E281.1
      have fn281_pairs : Fld Z h281 b281 "com/example/firm_duties/firmduties/BusinessContext" "pairs" "Ljava/util/List;" .null := D281 (Or.inr (own_w hw 297 rfl)) (ty := (.object "java/util/List")) (by decide)
      refine own_stH st281 ?_
      clear st281 X277
      refine own_stH (fun _ kk_ => XS.dup X281.here hx rfl (hb hby at_293) rfl rfl (XS.aload X281.here hx rfl (hb hby at_294) rfl rfl kk_)) ?_
      show gH T281 (mkF m 296 #[iv p1, iv p2, iv p3, iv np, iv ni, iv j5, iv j6, iv j7, iv j8, iv j9, iv j10, iv j11, iv j12, iv j13, iv j14, rv b1, rv b12, rv b23, rv b34, rv b45, rv b115, rv b247, rv b276, oU, oU] [(.ref b247), (.ref b281), (.ref b281)])
      have gg281 := Nat.le_trans Zs277 (Nat.le_of_eq gx281.symm)
      have mf283 := f277_6.keep M281_1
      have mf284 := f277_8.keep M281_1 nin0
      have mf285 := f277_9.keep M281_1 nin0
      have mf286 := f277_11.keep M281_1 nin0
      have mf287 := f277_7.keep M281_1
      have mf288 := mf93.keep M281_0
      have mf289 := mf104.keep M281_0
      have mf290 := u50_0.keep M281_0
      have mf291 := own_Sta_keep mf68 M281_0 ns0
      obtain ⟨T282, L282, v282, X282, hQ282, st282⟩ := own_cut (X281.specialBack hx (y := yy60) rfl hown (own_mw hZ hw 200 rfl) (own_mw hZ hw 201 rfl) (own_mw hZ hw 202 rfl) (by decide) (backOf (W := 1) (rm38 l Z a0 hw (b281) (b247) (x250_y) (x250_ky) ((2 : Int32)) ([(.ref b23), (.ref b34), .null, .null, .null, .null, .null, .null, .null, .null]) (b23) (b34) (b45) (mo) (em) h281 n0 Zs281 A281 fn281_pairs gg281 mf283 mf284 mf285 mf286 mf287 mf288 mf289 mf290 hmir mf291 (Or.inr (Or.inl ⟨rfl, rfl⟩)) (Ne.symm nm59)) hZ (own_w hw 202 rfl) (own_w hw 50 rfl) (by decide) (by decide)) (g := (mkF m 296 #[iv p1, iv p2, iv p3, iv np, iv ni, iv j5, iv j6, iv j7, iv j8, iv j9, iv j10, iv j11, iv j12, iv j13, iv j14, rv b1, rv b12, rv b23, rv b34, rv b45, rv b115, rv b247, rv b276, oU, oU] [(.ref b247), (.ref b281), (.ref b281)])) rfl (by rw [hml]; rfl) (Steps.refl _) (a := b281) (argsL := [(.ref b247)]) (rest := [(.ref b281)]) (lenOf pd_41 rfl) rfl (own_bl rfl) (hb hby at_296) (fun _ _ => ⟨rfl, e281, own_bl rfl, own_bl rfl⟩))
      obtain ⟨x282_li, rfl, Nq282, Kq282, u282_0, u282_1, u282_2, u282_3⟩ := hQ282
      have N282 := Fr.app N277 Nq282
      have f282_0 := A281.keep Kq282
      have ms281_0 := Nat.le_trans M277_0.1 (Nat.le_of_eq gx281.symm)
      have M282_0 := M281_0.trans Kq282 (allS (Or.inr ms281_0) all0)
      have ms281_1 := Nat.le_trans (Keep.refl T277.heap []).1 (Nat.le_of_eq gx281.symm)
      have M282_1 := M281_1.trans Kq282 (allS (Or.inr ms281_1) all0)
      have C282 := C281.trans (CHr.keep Kq282 (sfS (Safe.exa hZ.alike A281 (by decide) (by decide)) sf0) C281.1)
      have Ks282 := Nat.le_trans Ks281 Kq282.1
      have Zs282 : n0 ≤ T282.heap.size := Nat.le_trans Zs281 Kq282.1
      refine own_sTH st282 ?_
      clear st282 X281
      have hx296 := own_l.cast hniq u282_1
      refine own_stH (fun _ kk_ => XS.astore X282.here hx rfl (hb hby at_299) rfl rfl (l' := #[iv p1, iv p2, iv p3, iv np, iv ni, iv j5, iv j6, iv j7, iv j8, iv j9, iv j10, iv j11, iv j12, iv j13, iv j14, rv b1, rv b12, rv b23, rv b34, rv b45, rv b115, rv b247, rv b276, rv b281, oU]) rfl kk_) ?_
      show gH T282 (mkF m 301 #[iv p1, iv p2, iv p3, iv np, iv ni, iv j5, iv j6, iv j7, iv j8, iv j9, iv j10, iv j11, iv j12, iv j13, iv j14, rv b1, rv b12, rv b23, rv b34, rv b45, rv b115, rv b247, rv b276, rv b281, oU] [])
      have mf292 := u277_3.keep M282_1 nin0
      have mf293 := u277_2.keep M282_1
      have mf294 := own_l.keep hx285 M282_1
      exact JL _ _ _ _ _ (np) (ni) (b115) (b247) (b276) (b281) (x277_li) (x282_li) (_) (_) (X282.more (by decide) (by decide)) rfl N282 Zs282 hS50 Ks282 hZ hown C282 M282_0 mf293 mf292 u282_2 u282_3 mf294 hx296 (Or.inr hnpq)
    · show gH T250 (mkF m 247 #[iv p1, iv p2, iv p3, iv np, iv ni, iv j5, iv j6, iv j7, iv j8, iv j9, iv j10, iv j11, iv j12, iv j13, iv j14, rv b1, rv b12, rv b23, rv b34, rv b45, rv b115, rv b247, oU, oU, oU] [])
      refine own_stH (fun _ kk_ => XS.iload X250.here hx rfl (hb hby at_247) rfl (XS.iconst X250.here hx rfl (hb hby at_249) (XS.icmpNo X250.here hx rfl (hb hby at_250) rfl (XT.ii_lt_f (by rw [hniq]; decide)) (XS.aload X250.here hx rfl (hb hby at_253) rfl rfl (XS.aload X250.here hx rfl (hb hby at_255) rfl rfl kk_))))) ?_
      show gH T250 (mkF m 257 #[iv p1, iv p2, iv p3, iv np, iv ni, iv j5, iv j6, iv j7, iv j8, iv j9, iv j10, iv j11, iv j12, iv j13, iv j14, rv b1, rv b12, rv b23, rv b34, rv b45, rv b115, rv b247, oU, oU, oU] [(.ref b34), (.ref b247)])
      have mf296 := mf104.keep M250_0
      have gg250_y := Nat.le_trans Zs248 u250_0
      have n250_b247y := own_nk u248_0.lt u250_0
      obtain ⟨cq295, kq295, q295a, q295b, q295c⟩ := isOf hZ rfl u250_1
      obtain ⟨T295, L295, v295, X295, hQ295, st295⟩ := own_cut (X250.interfaceBack hx (xi := yy71) (y := yy42) hown (own_mw hZ hw 166 rfl) (own_mw hZ hw 167 rfl) (own_mw hZ hw 168 rfl) (own_mw hZ hw 169 rfl) (own_mw hZ hw 170 rfl) (own_mw hZ hw 171 rfl) (own_mw hZ hw 172 rfl) (own_mw hZ hw 173 rfl) (by decide) (backOf (W := 0) (rmAD1 l Z a0 hw (b247) (b34) (x250_y) (x250_ky) (((0 : Int32) + (1 : Int32))) (b23) T250.heap n0 Zs250 mf296 u250_1 u250_2 u250_3 u250_4 gg247 gg250_y u250_5 u250_6 u250_7 n250_b247y) hZ (own_w hw 174 rfl) (own_w hw 144 rfl) (by decide) (by decide)) q295a q295b q295c (g := (mkF m 257 #[iv p1, iv p2, iv p3, iv np, iv ni, iv j5, iv j6, iv j7, iv j8, iv j9, iv j10, iv j11, iv j12, iv j13, iv j14, rv b1, rv b12, rv b23, rv b34, rv b45, rv b115, rv b247, oU, oU, oU] [(.ref b34), (.ref b247)])) rfl (by rw [hml]; rfl) (Steps.refl _) (argsL := [(.ref b34)]) (rest := []) (lenOf pd_12 rfl) rfl (own_bl rfl) (hb hby at_257) (fun _ _ => ⟨rfl, rfl, own_bl rfl, own_bl rfl⟩))
      obtain ⟨rfl, Nq295, Kq295, u295_0, u295_1, u295_2, u295_3, u295_4, u295_5, u295_6⟩ := hQ295
      have N295 := Fr.app N250 Nq295
      have f295_0 := f250_0.keep Kq295
      have f295_1 := f250_1.keep Kq295
      have n250_b115y := own_nk f248_0.lt u250_0
      have f295_2 := f250_2.keep Kq295 (ninS n247_b115 (ninS n250_b115y nin0))
      have f295_3 := f250_3.keep Kq295 (ninS n247_b115 (ninS n250_b115y nin0))
      have f295_4 := f250_4.keep Kq295 (ninS n247_b115 (ninS n250_b115y nin0))
      have n250_x118_yy := own_nk f248_1.lt u250_0
      have f295_5 := f250_5.keep Kq295 (ninS n247_x118_y (ninS n250_x118_yy nin0))
      have f295_6 := u250_1.keep Kq295
      have f295_11 := u250_6.keep Kq295
      have ms250_0y := Nat.le_trans M248_0.1 u250_0
      have M295_0 := M250_0.trans Kq295 (allS (Or.inr ms247_0) (allS (Or.inr ms250_0y) all0))
      have C295 := C250.trans (CHr.keep Kq295 (sfS (Safe.exa hZ.alike u250_1 (by decide) (by decide)) (sfS (Safe.exa hZ.alike u250_6 (by decide) (by decide)) sf0)) C250.1)
      have Ks295 := Nat.le_trans Ks250 Kq295.1
      have Zs295 : n0 ≤ T295.heap.size := Nat.le_trans Zs250 Kq295.1
      refine own_sTH st295 ?_
      clear st295 X250
      refine own_stH (fun _ kk_ => XS.pop X295.here hx rfl (hb hby at_262) rfl rfl (XS.iload X295.here hx rfl (hb hby at_263) rfl (XS.iconst X295.here hx rfl (hb hby at_265) (XS.icmpNo X295.here hx rfl (hb hby at_266) rfl (XT.ii_ne_f hniq) (XS.aload X295.here hx rfl (hb hby at_269) rfl rfl (XS.aload X295.here hx rfl (hb hby at_271) rfl rfl kk_)))))) ?_
      show gH T295 (mkF m 273 #[iv p1, iv p2, iv p3, iv np, iv ni, iv j5, iv j6, iv j7, iv j8, iv j9, iv j10, iv j11, iv j12, iv j13, iv j14, rv b1, rv b12, rv b23, rv b34, rv b45, rv b115, rv b247, oU, oU, oU] [(.ref b45), (.ref b247)])
      have mf298 := u50_0.keep M295_0
      obtain ⟨cq297, kq297, q297a, q297b, q297c⟩ := isOf hZ rfl u295_0
      obtain ⟨T297, L297, v297, X297, hQ297, st297⟩ := own_cut (X295.interfaceBack hx (xi := yy71) (y := yy42) hown (own_mw hZ hw 166 rfl) (own_mw hZ hw 167 rfl) (own_mw hZ hw 168 rfl) (own_mw hZ hw 169 rfl) (own_mw hZ hw 170 rfl) (own_mw hZ hw 171 rfl) (own_mw hZ hw 172 rfl) (own_mw hZ hw 173 rfl) (by decide) (backOf (W := 0) (rmAD2 l Z a0 hw (b247) (b45) (x250_y) (x250_ky) ((((0 : Int32) + (1 : Int32)) + (1 : Int32))) (b23) (b34) T295.heap n0 Zs295 mf298 u295_0 u295_1 u295_2 u295_3 gg247 gg250_y u295_4 u295_5 u295_6 n250_b247y) hZ (own_w hw 174 rfl) (own_w hw 144 rfl) (by decide) (by decide)) q297a q297b q297c (g := (mkF m 273 #[iv p1, iv p2, iv p3, iv np, iv ni, iv j5, iv j6, iv j7, iv j8, iv j9, iv j10, iv j11, iv j12, iv j13, iv j14, rv b1, rv b12, rv b23, rv b34, rv b45, rv b115, rv b247, oU, oU, oU] [(.ref b45), (.ref b247)])) rfl (by rw [hml]; rfl) (Steps.refl _) (argsL := [(.ref b45)]) (rest := []) (lenOf pd_12 rfl) rfl (own_bl rfl) (hb hby at_273) (fun _ _ => ⟨rfl, rfl, own_bl rfl, own_bl rfl⟩))
      obtain ⟨rfl, Nq297, Kq297, u297_0, u297_1, u297_2, u297_3, u297_4, u297_5, u297_6⟩ := hQ297
      have N297 := Fr.app N295 Nq297
      have f297_0 := f295_0.keep Kq297
      have f297_1 := f295_1.keep Kq297
      have f297_2 := f295_2.keep Kq297 (ninS n247_b115 (ninS n250_b115y nin0))
      have f297_3 := f295_3.keep Kq297 (ninS n247_b115 (ninS n250_b115y nin0))
      have f297_4 := f295_4.keep Kq297 (ninS n247_b115 (ninS n250_b115y nin0))
      have f297_5 := f295_5.keep Kq297 (ninS n247_x118_y (ninS n250_x118_yy nin0))
      have f297_6 := u295_0.keep Kq297
      have f297_7 := u295_5.keep Kq297
      have M297_0 := M295_0.trans Kq297 (allS (Or.inr ms247_0) (allS (Or.inr ms250_0y) all0))
      have C297 := C295.trans (CHr.keep Kq297 (sfS (Safe.exa hZ.alike u295_0 (by decide) (by decide)) (sfS (Safe.exa hZ.alike u295_5 (by decide) (by decide)) sf0)) C295.1)
      have Ks297 := Nat.le_trans Ks295 Kq297.1
      have Zs297 : n0 ≤ T297.heap.size := Nat.le_trans Zs295 Kq297.1
      refine own_sTH st297 ?_
      clear st297 X295
      refine own_stH (fun _ kk_ => XS.pop X297.here hx rfl (hb hby at_278) rfl rfl kk_) ?_
      show gH T297 (mkF m 279 #[iv p1, iv p2, iv p3, iv np, iv ni, iv j5, iv j6, iv j7, iv j8, iv j9, iv j10, iv j11, iv j12, iv j13, iv j14, rv b1, rv b12, rv b23, rv b34, rv b45, rv b115, rv b247, oU, oU, oU] [])
      obtain ⟨T299, h299, X299, e299, E299, A299, D299, -, st299⟩ := newO X297 hx hZ hown (own_w hw 198 rfl) (own_w hw 199 rfl) (own_w hw 50 rfl) rfl (g := (mkF m 279 #[iv p1, iv p2, iv p3, iv np, iv ni, iv j5, iv j6, iv j7, iv j8, iv j9, iv j10, iv j11, iv j12, iv j13, iv j14, rv b1, rv b12, rv b23, rv b34, rv b45, rv b115, rv b247, oU, oU, oU] [])) rfl (hb hby at_279) (by decide) (by decide)
      obtain ⟨b299, gx299⟩ : ∃ z, z = T297.heap.size := ⟨_, rfl⟩
      rw [← gx299] at A299 D299 st299
      have f299_0 := f297_0.ext E299
      have f299_1 := f297_1.ext E299
      have f299_2 := f297_2.ext E299
      have f299_3 := f297_3.ext E299
      have f299_4 := f297_4.ext E299
      have f299_5 := f297_5.ext E299
      have f299_6 := u297_0.ext E299
      have f299_7 := u297_5.ext E299
      have f299_8 := u297_1.ext E299
      have f299_9 := u297_2.ext E299
      have f299_10 := u297_3.ext E299
      have f299_11 := u297_4.ext E299
      have M299_0 := M297_0.ext E299
      have C299 := C297.trans (CHr.ext E299 C297.1)
      have Zs299 : n0 ≤ h299.size := Nat.le_trans Zs297 E299.1
      have Ks299 := Nat.le_trans Ks297 E299.1
      have fn299_pairs : Fld Z h299 b299 "com/example/firm_duties/firmduties/BusinessContext" "pairs" "Ljava/util/List;" .null := D299 (Or.inr (own_w hw 297 rfl)) (ty := (.object "java/util/List")) (by decide)
      refine own_stH st299 ?_
      clear st299 X297
      refine own_stH (fun _ kk_ => XS.dup X299.here hx rfl (hb hby at_282) rfl rfl (XS.aload X299.here hx rfl (hb hby at_283) rfl rfl kk_)) ?_
      show gH T299 (mkF m 285 #[iv p1, iv p2, iv p3, iv np, iv ni, iv j5, iv j6, iv j7, iv j8, iv j9, iv j10, iv j11, iv j12, iv j13, iv j14, rv b1, rv b12, rv b23, rv b34, rv b45, rv b115, rv b247, oU, oU, oU] [(.ref b115), (.ref b299), (.ref b299)])
      have gg299 := Nat.le_trans Zs297 (Nat.le_of_eq gx299.symm)
      have mf301 := mf71.keep M299_0
      have mf302 := mf82.keep M299_0
      have mf303 := own_Sta_keep mf68 M299_0 ns0
      obtain ⟨T300, L300, v300, X300, hQ300, st300⟩ := own_cut (X299.specialBack hx (y := yy60) rfl hown (own_mw hZ hw 200 rfl) (own_mw hZ hw 201 rfl) (own_mw hZ hw 202 rfl) (by decide) (backOf (W := 1) (rm38 l Z a0 hw (b299) (b115) (x118_y) (x118_ky) ((2 : Int32)) ([(.ref b1), (.ref b12), .null, .null, .null, .null, .null, .null, .null, .null]) (b1) (b12) (b12) (mo) (em) h299 n0 Zs299 A299 fn299_pairs gg299 f299_0 f299_2 f299_3 f299_5 f299_1 mf301 mf302 mf302 hmir mf303 (Or.inr (Or.inl ⟨rfl, rfl⟩)) (Ne.symm nm57)) hZ (own_w hw 202 rfl) (own_w hw 50 rfl) (by decide) (by decide)) (g := (mkF m 285 #[iv p1, iv p2, iv p3, iv np, iv ni, iv j5, iv j6, iv j7, iv j8, iv j9, iv j10, iv j11, iv j12, iv j13, iv j14, rv b1, rv b12, rv b23, rv b34, rv b45, rv b115, rv b247, oU, oU, oU] [(.ref b115), (.ref b299), (.ref b299)])) rfl (by rw [hml]; rfl) (Steps.refl _) (a := b299) (argsL := [(.ref b115)]) (rest := [(.ref b299)]) (lenOf pd_41 rfl) rfl (own_bl rfl) (hb hby at_285) (fun _ _ => ⟨rfl, e299, own_bl rfl, own_bl rfl⟩))
      obtain ⟨x300_li, rfl, Nq300, Kq300, u300_0, u300_1, u300_2, u300_3⟩ := hQ300
      have N300 := Fr.app N297 Nq300
      have f300_0 := f299_0.keep Kq300
      have f300_1 := f299_1.keep Kq300
      have n299_b115 := own_nl f297_0.lt gx299
      have f300_2 := f299_2.keep Kq300 (ninS n299_b115 nin0)
      have f300_3 := f299_3.keep Kq300 (ninS n299_b115 nin0)
      have f300_4 := f299_4.keep Kq300 (ninS n299_b115 nin0)
      have n299_x118_y := own_nl f297_1.lt gx299
      have f300_5 := f299_5.keep Kq300 (ninS n299_x118_y nin0)
      have f300_6 := f299_6.keep Kq300
      have f300_7 := f299_7.keep Kq300
      have n299_b247 := own_nl u297_0.lt gx299
      have f300_8 := f299_8.keep Kq300 (ninS n299_b247 nin0)
      have f300_9 := f299_9.keep Kq300 (ninS n299_b247 nin0)
      have f300_10 := f299_10.keep Kq300 (ninS n299_b247 nin0)
      have n299_x250_y := own_nl u297_5.lt gx299
      have f300_11 := f299_11.keep Kq300 (ninS n299_x250_y nin0)
      have f300_12 := A299.keep Kq300
      have ms299_0 := Nat.le_trans M297_0.1 (Nat.le_of_eq gx299.symm)
      have M300_0 := M299_0.trans Kq300 (allS (Or.inr ms299_0) all0)
      have C300 := C299.trans (CHr.keep Kq300 (sfS (Safe.exa hZ.alike A299 (by decide) (by decide)) sf0) C299.1)
      have Ks300 := Nat.le_trans Ks299 Kq300.1
      have Zs300 : n0 ≤ T300.heap.size := Nat.le_trans Zs299 Kq300.1
      refine own_sTH st300 ?_
      clear st300 X299
      have hx285 := own_l.cast hnpq u300_1
      refine own_stH (fun _ kk_ => XS.astore X300.here hx rfl (hb hby at_288) rfl rfl (l' := #[iv p1, iv p2, iv p3, iv np, iv ni, iv j5, iv j6, iv j7, iv j8, iv j9, iv j10, iv j11, iv j12, iv j13, iv j14, rv b1, rv b12, rv b23, rv b34, rv b45, rv b115, rv b247, rv b299, oU, oU]) rfl kk_) ?_
      show gH T300 (mkF m 290 #[iv p1, iv p2, iv p3, iv np, iv ni, iv j5, iv j6, iv j7, iv j8, iv j9, iv j10, iv j11, iv j12, iv j13, iv j14, rv b1, rv b12, rv b23, rv b34, rv b45, rv b115, rv b247, rv b299, oU, oU] [])
      obtain ⟨T304, h304, X304, e304, E304, A304, D304, -, st304⟩ := newO X300 hx hZ hown (own_w hw 198 rfl) (own_w hw 199 rfl) (own_w hw 50 rfl) rfl (g := (mkF m 290 #[iv p1, iv p2, iv p3, iv np, iv ni, iv j5, iv j6, iv j7, iv j8, iv j9, iv j10, iv j11, iv j12, iv j13, iv j14, rv b1, rv b12, rv b23, rv b34, rv b45, rv b115, rv b247, rv b299, oU, oU] [])) rfl (hb hby at_290) (by decide) (by decide)
      obtain ⟨b304, gx304⟩ : ∃ z, z = T300.heap.size := ⟨_, rfl⟩
      rw [← gx304] at A304 D304 st304
      have M304_0 := M300_0.ext E304
      have M304_1 := (Keep.refl T300.heap []).ext E304
      have C304 := C300.trans (CHr.ext E304 C300.1)
      have Zs304 : n0 ≤ h304.size := Nat.le_trans Zs300 E304.1
      have Ks304 := Nat.le_trans Ks300 E304.1
      have fn304_pairs : Fld Z h304 b304 "com/example/firm_duties/firmduties/BusinessContext" "pairs" "Ljava/util/List;" .null := D304 (Or.inr (own_w hw 297 rfl)) (ty := (.object "java/util/List")) (by decide)
      refine own_stH st304 ?_
      clear st304 X300
      refine own_stH (fun _ kk_ => XS.dup X304.here hx rfl (hb hby at_293) rfl rfl (XS.aload X304.here hx rfl (hb hby at_294) rfl rfl kk_)) ?_
      show gH T304 (mkF m 296 #[iv p1, iv p2, iv p3, iv np, iv ni, iv j5, iv j6, iv j7, iv j8, iv j9, iv j10, iv j11, iv j12, iv j13, iv j14, rv b1, rv b12, rv b23, rv b34, rv b45, rv b115, rv b247, rv b299, oU, oU] [(.ref b247), (.ref b304), (.ref b304)])
      have gg304 := Nat.le_trans Zs300 (Nat.le_of_eq gx304.symm)
      have mf306 := f300_6.keep M304_1
      have mf307 := f300_8.keep M304_1 nin0
      have mf308 := f300_9.keep M304_1 nin0
      have mf309 := f300_11.keep M304_1 nin0
      have mf310 := f300_7.keep M304_1
      have mf311 := mf93.keep M304_0
      have mf312 := mf104.keep M304_0
      have mf313 := u50_0.keep M304_0
      have mf314 := own_Sta_keep mf68 M304_0 ns0
      obtain ⟨T305, L305, v305, X305, hQ305, st305⟩ := own_cut (X304.specialBack hx (y := yy60) rfl hown (own_mw hZ hw 200 rfl) (own_mw hZ hw 201 rfl) (own_mw hZ hw 202 rfl) (by decide) (backOf (W := 1) (rm38 l Z a0 hw (b304) (b247) (x250_y) (x250_ky) ((3 : Int32)) ([(.ref b23), (.ref b34), (.ref b45), .null, .null, .null, .null, .null, .null, .null]) (b23) (b34) (b45) (mo) (em) h304 n0 Zs304 A304 fn304_pairs gg304 mf306 mf307 mf308 mf309 mf310 mf311 mf312 mf313 hmir mf314 (Or.inr (Or.inr ⟨rfl, rfl⟩)) (Ne.symm nm59)) hZ (own_w hw 202 rfl) (own_w hw 50 rfl) (by decide) (by decide)) (g := (mkF m 296 #[iv p1, iv p2, iv p3, iv np, iv ni, iv j5, iv j6, iv j7, iv j8, iv j9, iv j10, iv j11, iv j12, iv j13, iv j14, rv b1, rv b12, rv b23, rv b34, rv b45, rv b115, rv b247, rv b299, oU, oU] [(.ref b247), (.ref b304), (.ref b304)])) rfl (by rw [hml]; rfl) (Steps.refl _) (a := b304) (argsL := [(.ref b247)]) (rest := [(.ref b304)]) (lenOf pd_41 rfl) rfl (own_bl rfl) (hb hby at_296) (fun _ _ => ⟨rfl, e304, own_bl rfl, own_bl rfl⟩))
      obtain ⟨x305_li, rfl, Nq305, Kq305, u305_0, u305_1, u305_2, u305_3⟩ := hQ305
      have N305 := Fr.app N300 Nq305
      have f305_0 := A304.keep Kq305
      have ms304_0 := Nat.le_trans M300_0.1 (Nat.le_of_eq gx304.symm)
      have M305_0 := M304_0.trans Kq305 (allS (Or.inr ms304_0) all0)
      have ms304_1 := Nat.le_trans (Keep.refl T300.heap []).1 (Nat.le_of_eq gx304.symm)
      have M305_1 := M304_1.trans Kq305 (allS (Or.inr ms304_1) all0)
      have C305 := C304.trans (CHr.keep Kq305 (sfS (Safe.exa hZ.alike A304 (by decide) (by decide)) sf0) C304.1)
      have Ks305 := Nat.le_trans Ks304 Kq305.1
      have Zs305 : n0 ≤ T305.heap.size := Nat.le_trans Zs304 Kq305.1
      refine own_sTH st305 ?_
      clear st305 X304
      have hx296 := own_l.cast hniq u305_1
      refine own_stH (fun _ kk_ => XS.astore X305.here hx rfl (hb hby at_299) rfl rfl (l' := #[iv p1, iv p2, iv p3, iv np, iv ni, iv j5, iv j6, iv j7, iv j8, iv j9, iv j10, iv j11, iv j12, iv j13, iv j14, rv b1, rv b12, rv b23, rv b34, rv b45, rv b115, rv b247, rv b299, rv b304, oU]) rfl kk_) ?_
      show gH T305 (mkF m 301 #[iv p1, iv p2, iv p3, iv np, iv ni, iv j5, iv j6, iv j7, iv j8, iv j9, iv j10, iv j11, iv j12, iv j13, iv j14, rv b1, rv b12, rv b23, rv b34, rv b45, rv b115, rv b247, rv b299, rv b304, oU] [])
      have mf315 := u300_3.keep M305_1 nin0
      have mf316 := u300_2.keep M305_1
      have mf317 := own_l.keep hx285 M305_1
      exact JL _ _ _ _ _ (np) (ni) (b115) (b247) (b299) (b304) (x300_li) (x305_li) (_) (_) (X305.more (by decide) (by decide)) rfl N305 Zs305 hS50 Ks305 hZ hown C305 M305_0 mf316 mf315 u305_2 u305_3 mf317 hx296 (Or.inr hnpq)
theorem own_ord {args : Array Value} {s : State} {t : Term} {a : Addr} {C n d : String} {k : Int32} (et : t.eval args s none [] s = some (.ref a)) (h : (Jvm.Cond.eq (.field t C n d) (.int k)).value args s none s [] = some true) : Fld s s.heap a C n d (.int k) := by
  refine Fld.start ?_
  have e1 := fld_at (C := C) (n := n) (dd := d) et
  obtain ⟨x, y, h1, h2, h3, -⟩ := cmp_v (Or.inl h)
  rw [e1] at h1
  have h4 : y = .int k := (Option.some.inj h2).symm
  subst h4
  cases x <;> simp [Kin, Value.isRef] at h3
  rename_i z
  have q : (Jvm.Cond.eq (.field t C n d) (.int k)).value args s none s [] = some (decide (z = k)) := by simp [Cond.value, Term.eval, et, h1]
  rw [h1, gotT q h]
theorem own_fref {args : Array Value} {s : State} {t : Term} {a : Addr} {C n d K : String} (et : t.eval args s none [] s = some (.ref a)) (h : (Jvm.Cond.exactly (.field t C n d) K).value args s none s [] = some true) : ∃ k, Fld s s.heap a C n d (.ref k) := by
  obtain ⟨k, e⟩ := exa_v h
  exact ⟨k, Fld.start ((fld_at et).symm.trans e)⟩
theorem own_fnull {args : Array Value} {s : State} {t : Term} {a : Addr} {C n d : String} (et : t.eval args s none [] s = some (.ref a)) (h : (Jvm.Cond.eq (.field t C n d) .null).value args s none s [] = some true) : Fld s s.heap a C n d .null :=
  Fld.start ((fld_at et).symm.trans (null_v h))
theorem own_fe {args : Array Value} {s : State} {t : Term} {a : Addr} {C n d K : String} (et : t.eval args s none [] s = some (.ref a)) (h : (Jvm.Cond.exactly (.field t C n d) K).value args s none s [] = some true) : ∃ k, Fld s s.heap a C n d (.ref k) ∧ (Term.field t C n d).eval args s none [] s = some (.ref k) ∧ Exa s s.heap k K := by
  obtain ⟨k, ek⟩ := exa_v h
  exact ⟨k, Fld.start ((fld_at et).symm.trans ek), ek, Exa.start ek h⟩
theorem own_lz {args : Array Value} {s : State} {t : Term} {a : Addr} {z : Int32} {c : Cell} {ty : FieldType} (hl : (Jvm.Cond.eq (.length t) (.int z)).value args s none s [] = some true) (et : t.eval args s none [] s = some (.ref a)) (A : Arr s s.heap a c ty) : c.slots.size < 2 ^ 31 ∧ c.slots.size.toInt32 = z := by
  have ha := Arr.fin (Vm.Alike.refl _) A
  by_cases q : c.slots.size < 2 ^ 31
  · exact ⟨q, gotT (Cond.eq_ints (len_f et ha q) (Term.int_eval z)) hl⟩
  · obtain ⟨x, y, e1, -⟩ := cmp_v (Or.inl hl)
    simp [Term.eval, et, ha] at e1
    exact absurd e1.1 (by omega)
theorem own_el {args : Array Value} {s : State} {t : Term} {a : Addr} {c : Cell} {j k : Int32} {i : Nat} (h : (Jvm.Cond.eq (.elem t (.int j)) (.int k)).value args s none s [] = some true) (et : t.eval args s none [] s = some (.ref a)) (hc : s.heap[a]? = some c) (hi : j.toNatClampNeg = i) : c.slots[i]? = some (.int k) := by
  obtain ⟨x, y, e1, e2, -, ky⟩ := cmp_v (Or.inl h)
  cases (Term.int_eval k).symm.trans e2
  obtain ⟨z, rfl⟩ := ky
  have q := gotT (Cond.eq_ints e1 (Term.int_eval k)) h
  subst q hi
  exact (elem_in e1 et (Term.int_eval j) hc).2
theorem own_elR {args : Array Value} {s : State} {t u : Term} {a b : Addr} {c : Cell} {j : Int32} {i : Nat} (h : (Jvm.Cond.eq (.elem t (.int j)) u).value args s none s [] = some true) (et : t.eval args s none [] s = some (.ref a)) (hc : s.heap[a]? = some c) (eu : u.eval args s none [] s = some (.ref b)) (hi : j.toNatClampNeg = i) : c.slots[i]? = some (.ref b) := by
  obtain ⟨x, y, e1, e2, -, ky⟩ := cmp_v (Or.inl h)
  cases eu.symm.trans e2
  have q := gotT (eq_R e1 eu ky.2 rfl) h
  subst q hi
  exact (elem_in e1 et (Term.int_eval j) hc).2
theorem own_av {args : Array Value} {s : State} {t : Term} {a : Addr} {z : Int32} {ty : FieldType} {vs : List Value} {dv : Value} (hfit : Fit s) (et : t.eval args s none [] s = some (.ref a)) (h : (Jvm.Cond.arrayOf t ty).value args s none s [] = some true) (hl : (Jvm.Cond.eq (.length t) (.int z)).value args s none s [] = some true) (hz : ¬ z < 0) (hn : z.toNatClampNeg = vs.length) (H : ∀ c, s.heap[a]? = some c → HasL c 0 vs) : ∃ k, Arv s s.heap a k ty z vs dv := by
  obtain ⟨c, A⟩ := Arr.start et h
  obtain ⟨q1, q2⟩ := own_lz hl et A
  exact ⟨_, Arv.start hfit A q1 q2 hz hn (H c A.1)⟩
set_option maxRecDepth 65536 in
set_option maxHeartbeats 40000000 in
theorem comes_1 {Post : Tables → Env → Array Value → State → Outcome → State → Prop} (hpost : ∀ tb e args s v u, (limb_1_1.after args s (.returned v) u = true ∧ limb_1_2.after args s (.returned v) u = true ∧ True) → ReturnedEndW s (.returned v) u (Jvm.fieldLocs frame_1_writes args s ++ Jvm.arrayLocs frame_1_arrays args s ++ Jvm.staticLocs frame_1_statics s) 112 4480 → Post tb e args s (.returned v) u) :
    ArmFor flags0 classFile x code maxLocals ret World_1 tables_1 room_1 Calls_1 rest_1 Pre_1 Post := by
  intro l hfl _ _ p e ha hc hk s m args below hf hA hF happ hP
  obtain ⟨hcalls, hrest, hpre⟩ := hP
  obtain ⟨-, -, -, hnamed, -, -, -, hat⟩ := (Spec.applies_iff hf).mp happ
  obtain ⟨hg, hn⟩ := and_e (Cond.before_iff.mp (show (Jvm.Cond.and given_1 narrow_1).before args s = true from hpre))
  obtain ⟨h1, g0⟩ := and_e hg
  obtain ⟨w0, w1, w2, rfl⟩ : ∃ w0 w1 w2 : Value, args = #[w0, w1, w2] := by
    have hs : args.size = 3 := by simpa [Cond.value, given_1] using h1
    obtain ⟨L⟩ := args
    match L, hs with
    | [w0, w1, w2], _ => exact ⟨w0, w1, w2, rfl⟩
  have hw := fun d (hd : d ∈ tables_1) => atoms_spec (ws := Jvm.Cond.code x code maxLocals ret :: tables_1) hat d (List.mem_cons_of_mem _ hd)
  have hfit : Fit s := fun {y c} hc i hi => by
    obtain ⟨ha, rfl⟩ := Array.getElem?_eq_some_iff.mp hc
    have q := List.all_eq_true.mp ((Array.all_eq_true_iff_forall_mem.mp hF) _ (Array.getElem_mem ha)) i (List.mem_range.mpr hi)
    simpa [Array.getElem?_eq_getElem hi] using q
  obtain ⟨k0, g1⟩ := and_e g0
  obtain ⟨i0, e0⟩ := is_v k0
  obtain rfl : w0 = (.int i0) := Option.some.inj e0
  obtain ⟨k1, g2⟩ := and_e g1
  obtain ⟨i1, e1⟩ := is_v k1
  obtain rfl : w1 = (.int i1) := Option.some.inj e1
  obtain ⟨i2, e2⟩ := is_v g2
  obtain rfl : w2 = (.int i2) := Option.some.inj e2
  obtain ⟨hsets, hown0⟩ := atoms_of _ (rest_1_c_eq ▸ (show rest_1_c.before _ s = true from hrest))
  obtain ⟨cs, ecs⟩ := is_v (Cond.before_iff.mp (hsets _ (List.mem_of_getElem? (i := 1) rfl)))
  have St_cs : Sta s s.heap "java/lang/String" "COMPACT_STRINGS" "Z" (.int cs) := Sta.start ecs (Or.inl (hsets _ (List.mem_of_getElem? (i := 0) rfl)))
  have hcs : ¬ cs = (0 : Int32) := gotF (Cond.eq_ints ecs (Term.int_eval (0))) (not_v (Cond.before_iff.mp (hsets _ (List.mem_of_getElem? (i := 2) rfl))))
  have hEL : EW s _ consts_1 := (EW.cons (own_w hw 391 rfl) (by decide) (EW.cons (own_w hw 392 rfl) (by decide) (EW.cons (own_w hw 45 rfl) (by decide) (EW.cons (own_w hw 137 rfl) (by decide) EW.nil))))
  have hCH : CHv s consts_1 s.vm s.heap := CHv.start hEL (fun q hq => hcalls.2.1 q hq) (hsets _ (List.mem_of_getElem? (i := 2) rfl)) (own_w hw 24 rfl) (own_w hw 20 rfl)
  have hq9 := fun (i : Nat) {d : Jvm.Cond} (h : jdkStatics_1[i]? = some d) => Cond.before_iff.mp (hsets d (List.mem_of_getElem? h))
  obtain ⟨ci, eci⟩ := exa_v (hq9 11 rfl)
  have St_ci : Sta s s.heap "java/lang/CharacterDataLatin1" "instance" "Ljava/lang/CharacterDataLatin1;" (.ref ci) := Sta.start eci (Or.inl (hsets _ (List.mem_of_getElem? (i := 10) rfl)))
  have Ex_ci : Exa s s.heap ci "java/lang/CharacterDataLatin1" := Exa.start eci (hq9 11 rfl)
  obtain ⟨ca, eca⟩ := arr_v (hq9 14 rfl)
  have St_ca : Sta s s.heap "java/lang/CharacterDataLatin1" "A" "[I" (.ref ca) := Sta.start eca (Or.inl (hsets _ (List.mem_of_getElem? (i := 13) rfl)))
  obtain ⟨ka, Av_ca⟩ := own_av (vs := own_A) (dv := (.int (0 : Int32))) hfit eca (hq9 14 rfl) (hq9 16 rfl) (by decide) (by decide +kernel) (fun c hc => ⟨own_el (hq9 17 rfl) eca hc (by decide), own_el (hq9 18 rfl) eca hc (by decide), own_el (hq9 19 rfl) eca hc (by decide), own_el (hq9 20 rfl) eca hc (by decide), own_el (hq9 21 rfl) eca hc (by decide), own_el (hq9 22 rfl) eca hc (by decide), own_el (hq9 23 rfl) eca hc (by decide), own_el (hq9 24 rfl) eca hc (by decide), own_el (hq9 25 rfl) eca hc (by decide), own_el (hq9 26 rfl) eca hc (by decide), own_el (hq9 27 rfl) eca hc (by decide), own_el (hq9 28 rfl) eca hc (by decide), own_el (hq9 29 rfl) eca hc (by decide), own_el (hq9 30 rfl) eca hc (by decide), own_el (hq9 31 rfl) eca hc (by decide), own_el (hq9 32 rfl) eca hc (by decide), own_el (hq9 33 rfl) eca hc (by decide), own_el (hq9 34 rfl) eca hc (by decide), own_el (hq9 35 rfl) eca hc (by decide), own_el (hq9 36 rfl) eca hc (by decide), own_el (hq9 37 rfl) eca hc (by decide), own_el (hq9 38 rfl) eca hc (by decide), own_el (hq9 39 rfl) eca hc (by decide), own_el (hq9 40 rfl) eca hc (by decide), own_el (hq9 41 rfl) eca hc (by decide), own_el (hq9 42 rfl) eca hc (by decide), own_el (hq9 43 rfl) eca hc (by decide), own_el (hq9 44 rfl) eca hc (by decide), own_el (hq9 45 rfl) eca hc (by decide), own_el (hq9 46 rfl) eca hc (by decide), own_el (hq9 47 rfl) eca hc (by decide), own_el (hq9 48 rfl) eca hc (by decide), own_el (hq9 49 rfl) eca hc (by decide), own_el (hq9 50 rfl) eca hc (by decide), own_el (hq9 51 rfl) eca hc (by decide), own_el (hq9 52 rfl) eca hc (by decide), own_el (hq9 53 rfl) eca hc (by decide), own_el (hq9 54 rfl) eca hc (by decide), own_el (hq9 55 rfl) eca hc (by decide), own_el (hq9 56 rfl) eca hc (by decide), own_el (hq9 57 rfl) eca hc (by decide), own_el (hq9 58 rfl) eca hc (by decide), own_el (hq9 59 rfl) eca hc (by decide), own_el (hq9 60 rfl) eca hc (by decide), own_el (hq9 61 rfl) eca hc (by decide), own_el (hq9 62 rfl) eca hc (by decide), own_el (hq9 63 rfl) eca hc (by decide), own_el (hq9 64 rfl) eca hc (by decide), own_el (hq9 65 rfl) eca hc (by decide), own_el (hq9 66 rfl) eca hc (by decide), own_el (hq9 67 rfl) eca hc (by decide), own_el (hq9 68 rfl) eca hc (by decide), own_el (hq9 69 rfl) eca hc (by decide), own_el (hq9 70 rfl) eca hc (by decide), own_el (hq9 71 rfl) eca hc (by decide), own_el (hq9 72 rfl) eca hc (by decide), own_el (hq9 73 rfl) eca hc (by decide), own_el (hq9 74 rfl) eca hc (by decide), own_el (hq9 75 rfl) eca hc (by decide), own_el (hq9 76 rfl) eca hc (by decide), own_el (hq9 77 rfl) eca hc (by decide), own_el (hq9 78 rfl) eca hc (by decide), own_el (hq9 79 rfl) eca hc (by decide), own_el (hq9 80 rfl) eca hc (by decide), own_el (hq9 81 rfl) eca hc (by decide), own_el (hq9 82 rfl) eca hc (by decide), own_el (hq9 83 rfl) eca hc (by decide), own_el (hq9 84 rfl) eca hc (by decide), own_el (hq9 85 rfl) eca hc (by decide), own_el (hq9 86 rfl) eca hc (by decide), own_el (hq9 87 rfl) eca hc (by decide), own_el (hq9 88 rfl) eca hc (by decide), own_el (hq9 89 rfl) eca hc (by decide), own_el (hq9 90 rfl) eca hc (by decide), own_el (hq9 91 rfl) eca hc (by decide), own_el (hq9 92 rfl) eca hc (by decide), own_el (hq9 93 rfl) eca hc (by decide), own_el (hq9 94 rfl) eca hc (by decide), own_el (hq9 95 rfl) eca hc (by decide), own_el (hq9 96 rfl) eca hc (by decide), own_el (hq9 97 rfl) eca hc (by decide), own_el (hq9 98 rfl) eca hc (by decide), own_el (hq9 99 rfl) eca hc (by decide), own_el (hq9 100 rfl) eca hc (by decide), own_el (hq9 101 rfl) eca hc (by decide), own_el (hq9 102 rfl) eca hc (by decide), own_el (hq9 103 rfl) eca hc (by decide), own_el (hq9 104 rfl) eca hc (by decide), own_el (hq9 105 rfl) eca hc (by decide), own_el (hq9 106 rfl) eca hc (by decide), own_el (hq9 107 rfl) eca hc (by decide), own_el (hq9 108 rfl) eca hc (by decide), own_el (hq9 109 rfl) eca hc (by decide), own_el (hq9 110 rfl) eca hc (by decide), own_el (hq9 111 rfl) eca hc (by decide), own_el (hq9 112 rfl) eca hc (by decide), own_el (hq9 113 rfl) eca hc (by decide), own_el (hq9 114 rfl) eca hc (by decide), own_el (hq9 115 rfl) eca hc (by decide), own_el (hq9 116 rfl) eca hc (by decide), own_el (hq9 117 rfl) eca hc (by decide), own_el (hq9 118 rfl) eca hc (by decide), own_el (hq9 119 rfl) eca hc (by decide), own_el (hq9 120 rfl) eca hc (by decide), own_el (hq9 121 rfl) eca hc (by decide), own_el (hq9 122 rfl) eca hc (by decide), own_el (hq9 123 rfl) eca hc (by decide), own_el (hq9 124 rfl) eca hc (by decide), own_el (hq9 125 rfl) eca hc (by decide), own_el (hq9 126 rfl) eca hc (by decide), own_el (hq9 127 rfl) eca hc (by decide), own_el (hq9 128 rfl) eca hc (by decide), own_el (hq9 129 rfl) eca hc (by decide), own_el (hq9 130 rfl) eca hc (by decide), own_el (hq9 131 rfl) eca hc (by decide), own_el (hq9 132 rfl) eca hc (by decide), own_el (hq9 133 rfl) eca hc (by decide), own_el (hq9 134 rfl) eca hc (by decide), own_el (hq9 135 rfl) eca hc (by decide), own_el (hq9 136 rfl) eca hc (by decide), own_el (hq9 137 rfl) eca hc (by decide), own_el (hq9 138 rfl) eca hc (by decide), own_el (hq9 139 rfl) eca hc (by decide), own_el (hq9 140 rfl) eca hc (by decide), own_el (hq9 141 rfl) eca hc (by decide), own_el (hq9 142 rfl) eca hc (by decide), own_el (hq9 143 rfl) eca hc (by decide), own_el (hq9 144 rfl) eca hc (by decide), own_el (hq9 145 rfl) eca hc (by decide), own_el (hq9 146 rfl) eca hc (by decide), own_el (hq9 147 rfl) eca hc (by decide), own_el (hq9 148 rfl) eca hc (by decide), own_el (hq9 149 rfl) eca hc (by decide), own_el (hq9 150 rfl) eca hc (by decide), own_el (hq9 151 rfl) eca hc (by decide), own_el (hq9 152 rfl) eca hc (by decide), own_el (hq9 153 rfl) eca hc (by decide), own_el (hq9 154 rfl) eca hc (by decide), own_el (hq9 155 rfl) eca hc (by decide), own_el (hq9 156 rfl) eca hc (by decide), own_el (hq9 157 rfl) eca hc (by decide), own_el (hq9 158 rfl) eca hc (by decide), own_el (hq9 159 rfl) eca hc (by decide), own_el (hq9 160 rfl) eca hc (by decide), own_el (hq9 161 rfl) eca hc (by decide), own_el (hq9 162 rfl) eca hc (by decide), own_el (hq9 163 rfl) eca hc (by decide), own_el (hq9 164 rfl) eca hc (by decide), own_el (hq9 165 rfl) eca hc (by decide), own_el (hq9 166 rfl) eca hc (by decide), own_el (hq9 167 rfl) eca hc (by decide), own_el (hq9 168 rfl) eca hc (by decide), own_el (hq9 169 rfl) eca hc (by decide), own_el (hq9 170 rfl) eca hc (by decide), own_el (hq9 171 rfl) eca hc (by decide), own_el (hq9 172 rfl) eca hc (by decide), own_el (hq9 173 rfl) eca hc (by decide), own_el (hq9 174 rfl) eca hc (by decide), own_el (hq9 175 rfl) eca hc (by decide), own_el (hq9 176 rfl) eca hc (by decide), own_el (hq9 177 rfl) eca hc (by decide), own_el (hq9 178 rfl) eca hc (by decide), own_el (hq9 179 rfl) eca hc (by decide), own_el (hq9 180 rfl) eca hc (by decide), own_el (hq9 181 rfl) eca hc (by decide), own_el (hq9 182 rfl) eca hc (by decide), own_el (hq9 183 rfl) eca hc (by decide), own_el (hq9 184 rfl) eca hc (by decide), own_el (hq9 185 rfl) eca hc (by decide), own_el (hq9 186 rfl) eca hc (by decide), own_el (hq9 187 rfl) eca hc (by decide), own_el (hq9 188 rfl) eca hc (by decide), own_el (hq9 189 rfl) eca hc (by decide), own_el (hq9 190 rfl) eca hc (by decide), own_el (hq9 191 rfl) eca hc (by decide), own_el (hq9 192 rfl) eca hc (by decide), own_el (hq9 193 rfl) eca hc (by decide), own_el (hq9 194 rfl) eca hc (by decide), own_el (hq9 195 rfl) eca hc (by decide), own_el (hq9 196 rfl) eca hc (by decide), own_el (hq9 197 rfl) eca hc (by decide), own_el (hq9 198 rfl) eca hc (by decide), own_el (hq9 199 rfl) eca hc (by decide), own_el (hq9 200 rfl) eca hc (by decide), own_el (hq9 201 rfl) eca hc (by decide), own_el (hq9 202 rfl) eca hc (by decide), own_el (hq9 203 rfl) eca hc (by decide), own_el (hq9 204 rfl) eca hc (by decide), own_el (hq9 205 rfl) eca hc (by decide), own_el (hq9 206 rfl) eca hc (by decide), own_el (hq9 207 rfl) eca hc (by decide), own_el (hq9 208 rfl) eca hc (by decide), own_el (hq9 209 rfl) eca hc (by decide), own_el (hq9 210 rfl) eca hc (by decide), own_el (hq9 211 rfl) eca hc (by decide), own_el (hq9 212 rfl) eca hc (by decide), own_el (hq9 213 rfl) eca hc (by decide), own_el (hq9 214 rfl) eca hc (by decide), own_el (hq9 215 rfl) eca hc (by decide), own_el (hq9 216 rfl) eca hc (by decide), own_el (hq9 217 rfl) eca hc (by decide), own_el (hq9 218 rfl) eca hc (by decide), own_el (hq9 219 rfl) eca hc (by decide), own_el (hq9 220 rfl) eca hc (by decide), own_el (hq9 221 rfl) eca hc (by decide), own_el (hq9 222 rfl) eca hc (by decide), own_el (hq9 223 rfl) eca hc (by decide), own_el (hq9 224 rfl) eca hc (by decide), own_el (hq9 225 rfl) eca hc (by decide), own_el (hq9 226 rfl) eca hc (by decide), own_el (hq9 227 rfl) eca hc (by decide), own_el (hq9 228 rfl) eca hc (by decide), own_el (hq9 229 rfl) eca hc (by decide), own_el (hq9 230 rfl) eca hc (by decide), own_el (hq9 231 rfl) eca hc (by decide), own_el (hq9 232 rfl) eca hc (by decide), own_el (hq9 233 rfl) eca hc (by decide), own_el (hq9 234 rfl) eca hc (by decide), own_el (hq9 235 rfl) eca hc (by decide), own_el (hq9 236 rfl) eca hc (by decide), own_el (hq9 237 rfl) eca hc (by decide), own_el (hq9 238 rfl) eca hc (by decide), own_el (hq9 239 rfl) eca hc (by decide), own_el (hq9 240 rfl) eca hc (by decide), own_el (hq9 241 rfl) eca hc (by decide), own_el (hq9 242 rfl) eca hc (by decide), own_el (hq9 243 rfl) eca hc (by decide), own_el (hq9 244 rfl) eca hc (by decide), own_el (hq9 245 rfl) eca hc (by decide), own_el (hq9 246 rfl) eca hc (by decide), own_el (hq9 247 rfl) eca hc (by decide), own_el (hq9 248 rfl) eca hc (by decide), own_el (hq9 249 rfl) eca hc (by decide), own_el (hq9 250 rfl) eca hc (by decide), own_el (hq9 251 rfl) eca hc (by decide), own_el (hq9 252 rfl) eca hc (by decide), own_el (hq9 253 rfl) eca hc (by decide), own_el (hq9 254 rfl) eca hc (by decide), own_el (hq9 255 rfl) eca hc (by decide), own_el (hq9 256 rfl) eca hc (by decide), own_el (hq9 257 rfl) eca hc (by decide), own_el (hq9 258 rfl) eca hc (by decide), own_el (hq9 259 rfl) eca hc (by decide), own_el (hq9 260 rfl) eca hc (by decide), own_el (hq9 261 rfl) eca hc (by decide), own_el (hq9 262 rfl) eca hc (by decide), own_el (hq9 263 rfl) eca hc (by decide), own_el (hq9 264 rfl) eca hc (by decide), own_el (hq9 265 rfl) eca hc (by decide), own_el (hq9 266 rfl) eca hc (by decide), own_el (hq9 267 rfl) eca hc (by decide), own_el (hq9 268 rfl) eca hc (by decide), own_el (hq9 269 rfl) eca hc (by decide), own_el (hq9 270 rfl) eca hc (by decide), own_el (hq9 271 rfl) eca hc (by decide), own_el (hq9 272 rfl) eca hc (by decide), trivial⟩)
  obtain ⟨dc, edc⟩ := arr_v (hq9 279 rfl)
  have St_dc : Sta s s.heap "java/util/ArrayList" "DEFAULTCAPACITY_EMPTY_ELEMENTDATA" "[Ljava/lang/Object;" (.ref dc) := Sta.start edc (Or.inr ⟨(own_w hw 144 rfl), (hsets _ (List.mem_of_getElem? (i := 275) rfl))⟩)
  have Ex_dc : Exa s s.heap dc "[Ljava/lang/Object;" := Exa.start edc (hq9 280 rfl)
  obtain ⟨kdc, Av_dc⟩ := own_av (vs := []) (dv := .null) hfit edc (hq9 279 rfl) (hq9 281 rfl) (by decide) (by decide) (fun c hc => trivial)
  obtain ⟨em, eem⟩ := exa_v (hq9 284 rfl)
  have St_em : Sta s s.heap "java/util/ImmutableCollections" "EMPTY" "Ljava/lang/Object;" (.ref em) := Sta.start eem (Or.inl (hsets _ (List.mem_of_getElem? (i := 283) rfl)))
  have Ex_em : Exa s s.heap em "java/lang/Object" := Exa.start eem (hq9 284 rfl)
  obtain ⟨mc, mk, mo, hm1, hm2, hm3, -⟩ : ∃ (c : ClassId) (k : Class) (m : Addr), s.vm.findClass "[Ljava/lang/Object;" = some c ∧ s.vm.classes[c]? = some k ∧ k.mirror = some m ∧ ∃ (cell : Cell), s.heap[m]? = some cell ∧ cell.vm = .mirror c := hcalls.1
  have hmir : ∀ a, (Jvm.Term.mirror "[Ljava/lang/Object;").eval a s none [] s = some (.ref mo) := fun a => by simp [Term.eval, hm1, hm2, hm3]
  obtain ⟨n, o, h1, h2, h3, _, L, rfl, ⟨rfl, N⟩, -, hq⟩ := rm0 l s _ hw tables_1 hEL i0 i1 i2 ci ca ka dc kdc em mo cs s.heap s.heap.size (Nat.le_refl _) St_ci Ex_ci St_ca Av_ca St_dc Av_dc Ex_dc St_em Ex_em (hmir _) St_cs hcs p e ha hc hk s m _ below hf ((Spec.applies_iff_loose hf).mp happ).1 ⟨rfl, State.Warmed39.refl s, rfl, hCH, fun _ q => nomatch q⟩ trivial
  refine ⟨n, _, h1, h2, h3, hpost _ _ _ _ _ _ ⟨Cond.after_iff.mpr rfl, Cond.after_iff.mpr (eq_i res_at (Term.int_eval (1)) rfl), trivial⟩ ⟨hq.1, hq.2.1, hq.2.2.1, (hq.2.2.2.sift fun y hy => Or.inr (N y hy)).mono (by decide) (by decide)⟩⟩
theorem main_1_1 : Claimed_1_1 := comes_1 fun _ _ _ _ _ _ h hF => ⟨h.1, hF⟩
theorem main_1_2 : Claimed_1_2 := comes_1 fun _ _ _ _ _ _ h hF => ⟨h.2.1, hF⟩
end Jvm.Pilot.@@N@@
namespace Jvm.Pilot.@@N@@
open Jvm Jvm.ClassFile Sem Op Lib Jvm.Free Jvm.Stand Jvm.Pilot.@@N@@.Jvm.D
/-! MADE BY PROGRAM (witnessworld.py) out of the Statement's table words and the real class files: 43 classes; the members and pool entries that the words name. The judged class is class 1, her method 6. -/
namespace start1
open Jvm.ClassFile
def u (s : String) : CpInfo := .utf8 (stringToUtf16 s)
def gap : Nat → List CpInfo → List CpInfo
  | 0, r => r
  | n + 1, r => .unusable :: gap n r
def poolList (es : List (Nat × CpInfo)) (last : Nat) : List CpInfo := es.foldr (fun e r => gap e.1 (e.2 :: r)) (gap last [])
def pool (es : List (Nat × CpInfo)) (last : Nat) : Array CpInfo := ⟨poolList es last⟩
def fileOf (pool : Array CpInfo) (this : Nat) (attrs : Array Attribute := #[]) (ms : Array MethodInfo := #[]) (fl : Nat := 33) (sup : Nat := 0) (ifs : Array Nat := #[]) (fds : Array FieldInfo := #[]) : ClassFile where
  minorVersion := 0
  majorVersion := 65
  constantPool := pool
  accessFlags := fl
  thisClass := this
  superClass := sup
  interfaces := ifs
  fields := fds
  methods := ms
  attributes := attrs
def plain (name : String) (sup : Option ClassId) : Class where
  name := name
  kind := .ordinary
  loader := none
  accessFlags := 33
  super := sup
  interfaces := #[]
  cf := none
  fields := #[]
  methods := #[]
  instanceTypes := #[]
  staticTypes := #[]
  resolved := #[]
  callSites := []
  init := .initialized
  statics := none
  mirror := none

def pool0 : Array CpInfo := pool [(5, u "<init>"), (0, u "()V"), (1, .class_ 10), (1, u "java/lang/Object"), (0, u "getClass"), (0, u "()Ljava/lang/Class;")] 111

def k0c0 : Code := { maxStack := 0, maxLocals := 1, code := object_method_1_code, exceptionTable := #[], attributes := #[] }
def k0m0 : Method := { name := "<init>", desc := "()V", sig := { parameters := [], returnType := none }, accessFlags := 1, code := some k0c0 }
def k0m1 : Method := { name := "getClass", desc := "()Ljava/lang/Class;", sig := { parameters := [], returnType := some (.object "java/lang/Class") }, accessFlags := 273, code := none }
def k0 : Class := { plain "java/lang/Object" none with
  accessFlags := 33
  interfaces := #[]
  cf := some (fileOf pool0 8 #[] #[{ accessFlags := 1, nameIndex := 5, descriptorIndex := 6, attributes := #[] }, { accessFlags := 273, nameIndex := 11, descriptorIndex := 12, attributes := #[] }] 33 0 #[] #[])
  fields := #[]
  methods := #[k0m0, k0m1]
  instanceTypes := #[]
  staticTypes := #[]
  resolved := Array.replicate 124 none
  statics := none }

def pool1 : Array CpInfo := pool [(2, .class_ 4), (0, .nameAndType 5 6), (0, u "java/lang/Object"), (0, u "<init>"), (0, u "()V"), (0, .methodref 8 9), (0, .class_ 10), (0, .nameAndType 11 12), (0, u "com/example/firm_duties/firmduties/BusinessContextMatchesPinLaw"), (0, u "sym"), (0, u "(I)C"), (0, .methodref 14 15), (0, .class_ 16), (0, .nameAndType 17 18), (0, u "java/lang/String"), (0, u "valueOf"), (0, u "(C)Ljava/lang/String;"), (0, .methodref 14 20), (0, .nameAndType 5 21), (0, u "([C)V"), (0, .methodref 8 23), (0, .nameAndType 24 25), (0, u "same"), (0, u "(II)Z"), (0, .methodref 8 27), (0, .nameAndType 28 29), (0, u "wild"), (0, u "(I)Z"), (0, .class_ 31), (0, u "com/example/firm_duties/firmduties/BusinessContext$Pair"), (0, .methodref 8 33), (0, .nameAndType 34 35), (0, u "tok"), (0, u "(I)Ljava/lang/String;"), (0, .methodref 30 37), (0, .nameAndType 5 38), (0, u "(Ljava/lang/String;Ljava/lang/String;)V"), (0, .class_ 40), (0, u "java/util/ArrayList"), (0, .methodref 39 3), (0, .interfaceMethodref 43 44), (0, .class_ 45), (0, .nameAndType 46 47), (0, u "java/util/List"), (0, u "add"), (0, u "(Ljava/lang/Object;)Z"), (0, .class_ 49), (0, u "com/example/firm_duties/firmduties/BusinessContext"), (0, .methodref 48 51), (0, .nameAndType 5 52), (0, u "(Ljava/util/List;)V"), (0, .methodref 8 54), (0, .nameAndType 55 56), (0, u "pairOk"), (0, u "(IIII)Z"), (0, .methodref 48 58), (0, .nameAndType 59 60), (0, u "matches"), (0, u "(Lcom/example/firm_duties/firmduties/BusinessContext;)Z"), (3, u "law"), (0, u "(III)Z")] 4

def k1m0 : Method := { name := "<init>", desc := "()V", sig := { parameters := [], returnType := none }, accessFlags := 1, code := none }
def k1c1 : Code := { maxStack := 2, maxLocals := 1, code := method_2_code, exceptionTable := #[], attributes := #[] }
def k1m1 : Method := { name := "sym", desc := "(I)C", sig := { parameters := [.int], returnType := some .char }, accessFlags := 10, code := some k1c1 }
def k1c2 : Code := { maxStack := 3, maxLocals := 4, code := method_3_code, exceptionTable := #[], attributes := #[] }
def k1m2 : Method := { name := "tok", desc := "(I)Ljava/lang/String;", sig := { parameters := [.int], returnType := some (.object "java/lang/String") }, accessFlags := 10, code := some k1c2 }
def k1c3 : Code := { maxStack := 3, maxLocals := 4, code := method_4_code, exceptionTable := #[], attributes := #[] }
def k1m3 : Method := { name := "same", desc := "(II)Z", sig := { parameters := [.int, .int], returnType := some .boolean }, accessFlags := 10, code := some k1c3 }
def k1c4 : Code := { maxStack := 2, maxLocals := 1, code := method_5_code, exceptionTable := #[], attributes := #[] }
def k1m4 : Method := { name := "wild", desc := "(I)Z", sig := { parameters := [.int], returnType := some .boolean }, accessFlags := 10, code := some k1c4 }
def k1c5 : Code := { maxStack := 2, maxLocals := 4, code := method_6_code, exceptionTable := #[], attributes := #[] }
def k1m5 : Method := { name := "pairOk", desc := "(IIII)Z", sig := { parameters := [.int, .int, .int, .int], returnType := some .boolean }, accessFlags := 10, code := some k1c5 }
def k1c6 : Code := { maxStack := 4, maxLocals := 25, code := code, exceptionTable := #[], attributes := #[] }
def k1m6 : Method := { name := "law", desc := "(III)Z", sig := { parameters := [.int, .int, .int], returnType := some .boolean }, accessFlags := 9, code := some k1c6 }
def k1 : Class := { plain "com/example/firm_duties/firmduties/BusinessContextMatchesPinLaw" (some 0) with
  accessFlags := 49
  interfaces := #[]
  cf := some (fileOf pool1 8 #[] #[{ accessFlags := 1, nameIndex := 5, descriptorIndex := 6, attributes := #[] }, { accessFlags := 10, nameIndex := 11, descriptorIndex := 12, attributes := #[] }, { accessFlags := 10, nameIndex := 34, descriptorIndex := 35, attributes := #[] }, { accessFlags := 10, nameIndex := 24, descriptorIndex := 25, attributes := #[] }, { accessFlags := 10, nameIndex := 28, descriptorIndex := 29, attributes := #[] }, { accessFlags := 10, nameIndex := 55, descriptorIndex := 56, attributes := #[] }, { accessFlags := 9, nameIndex := 64, descriptorIndex := 65, attributes := #[] }] 49 2 #[] #[])
  fields := #[]
  methods := #[k1m0, k1m1, k1m2, k1m3, k1m4, k1m5, k1m6]
  instanceTypes := #[]
  staticTypes := #[]
  resolved := Array.replicate 70 none
  statics := none }

def pool2 : Array CpInfo := pool [(1, .methodref 2 3), (0, .class_ 4), (0, .nameAndType 5 6), (0, u "java/lang/Object"), (0, u "<init>"), (0, u "()V"), (0, .class_ 8), (0, u "java/lang/Record")] 13

def k2c0 : Code := { maxStack := 1, maxLocals := 1, code := jdk_30_method_1_code, exceptionTable := #[], attributes := #[] }
def k2m0 : Method := { name := "<init>", desc := "()V", sig := { parameters := [], returnType := none }, accessFlags := 4, code := some k2c0 }
def k2 : Class := { plain "java/lang/Record" (some 0) with
  accessFlags := 1057
  interfaces := #[]
  cf := some (fileOf pool2 7 #[] #[{ accessFlags := 4, nameIndex := 5, descriptorIndex := 6, attributes := #[] }] 1057 2 #[] #[])
  fields := #[]
  methods := #[k2m0]
  instanceTypes := #[]
  staticTypes := #[]
  resolved := Array.replicate 22 none
  statics := none }

def pool3 : Array CpInfo := pool [(1, .methodref 2 3), (0, .class_ 4), (0, .nameAndType 5 6), (0, u "java/lang/Record"), (0, u "<init>"), (0, u "()V"), (0, .string 8), (0, u "type"), (0, .methodref 10 11), (0, .class_ 12), (0, .nameAndType 13 14), (0, u "com/example/firm_duties/firmduties/BusinessContext"), (0, u "requireToken"), (0, u "(Ljava/lang/String;Ljava/lang/String;)V"), (0, .string 16), (0, u "value"), (0, .fieldref 18 19), (0, .class_ 20), (0, .nameAndType 8 21), (0, u "com/example/firm_duties/firmduties/BusinessContext$Pair"), (0, u "Ljava/lang/String;"), (0, .fieldref 18 23), (0, .nameAndType 16 21)] 50

def k3c0 : Code := { maxStack := 2, maxLocals := 3, code := prog_3_method_1_code, exceptionTable := #[], attributes := #[] }
def k3m0 : Method := { name := "<init>", desc := "(Ljava/lang/String;Ljava/lang/String;)V", sig := { parameters := [(.object "java/lang/String"), (.object "java/lang/String")], returnType := none }, accessFlags := 1, code := some k3c0 }
def k3 : Class := { plain "com/example/firm_duties/firmduties/BusinessContext$Pair" (some 2) with
  accessFlags := 49
  interfaces := #[]
  cf := some (fileOf pool3 18 #[.nestHost 10] #[{ accessFlags := 1, nameIndex := 5, descriptorIndex := 14, attributes := #[] }] 49 2 #[] #[{ accessFlags := 18, nameIndex := 8, descriptorIndex := 21, attributes := #[] }, { accessFlags := 18, nameIndex := 16, descriptorIndex := 21, attributes := #[] }])
  fields := #[{ name := "type", type := (.object "java/lang/String"), accessFlags := 18, slot := 0, constantValue := 0 }, { name := "value", type := (.object "java/lang/String"), accessFlags := 18, slot := 1, constantValue := 0 }]
  methods := #[k3m0]
  instanceTypes := #[(.object "java/lang/String"), (.object "java/lang/String")]
  staticTypes := #[]
  resolved := Array.replicate 74 none
  statics := none }

def pool4 : Array CpInfo := pool [(1, .class_ 2), (0, u "java/io/Serializable"), (0, .class_ 4), (0, u "java/lang/Object")] 2

def k4 : Class := { plain "java/io/Serializable" (some 0) with
  accessFlags := 1537
  interfaces := #[]
  cf := some (fileOf pool4 1 #[] #[] 1537 3 #[] #[])
  fields := #[]
  methods := #[]
  instanceTypes := #[]
  staticTypes := #[]
  resolved := Array.replicate 7 none
  statics := none }

def pool5 : Array CpInfo := pool [(1, .class_ 2), (0, u "java/lang/Comparable"), (0, .class_ 4), (0, u "java/lang/Object")] 7

def k5 : Class := { plain "java/lang/Comparable" (some 0) with
  accessFlags := 1537
  interfaces := #[]
  cf := some (fileOf pool5 1 #[] #[] 1537 3 #[] #[])
  fields := #[]
  methods := #[]
  instanceTypes := #[]
  staticTypes := #[]
  resolved := Array.replicate 12 none
  statics := none }

def pool6 : Array CpInfo := pool [(2, .class_ 4), (1, u "java/lang/CharSequence"), (42, .class_ 48), (0, u "java/lang/CharSequence$1CodePointIterator"), (10, .class_ 60), (0, u "java/lang/CharSequence$1CharIterator"), (5, .class_ 67), (0, u "java/lang/Object")] 63

def k6 : Class := { plain "java/lang/CharSequence" (some 0) with
  accessFlags := 1537
  interfaces := #[]
  cf := some (fileOf pool6 2 #[.nestMembers #[47, 59]] #[] 1537 66 #[] #[])
  fields := #[]
  methods := #[]
  instanceTypes := #[]
  staticTypes := #[]
  resolved := Array.replicate 131 none
  statics := none }

def pool7 : Array CpInfo := pool [(1, .class_ 2), (0, u "java/lang/constant/Constable"), (0, .class_ 4), (0, u "java/lang/Object")] 6

def k7 : Class := { plain "java/lang/constant/Constable" (some 0) with
  accessFlags := 1537
  interfaces := #[]
  cf := some (fileOf pool7 1 #[] #[] 1537 3 #[] #[])
  fields := #[]
  methods := #[]
  instanceTypes := #[]
  staticTypes := #[]
  resolved := Array.replicate 11 none
  statics := none }

def pool8 : Array CpInfo := pool [(1, .class_ 2), (0, u "java/lang/constant/ConstantDesc"), (0, .class_ 4), (0, u "java/lang/Object")] 32

def k8 : Class := { plain "java/lang/constant/ConstantDesc" (some 0) with
  accessFlags := 1537
  interfaces := #[]
  cf := some (fileOf pool8 1 #[] #[] 1537 3 #[] #[])
  fields := #[]
  methods := #[]
  instanceTypes := #[]
  staticTypes := #[]
  resolved := Array.replicate 37 none
  statics := none }

def pool9 : Array CpInfo := pool [(1, .methodref 2 3), (0, .class_ 4), (0, .nameAndType 5 6), (0, u "java/lang/Object"), (0, u "<init>"), (0, u "()V"), (2, .fieldref 10 11), (0, .class_ 12), (0, .nameAndType 13 14), (0, u "java/lang/String"), (0, u "value"), (0, u "[B"), (0, .fieldref 10 16), (0, .nameAndType 17 18), (0, u "coder"), (0, u "B"), (2, u "hash"), (0, u "I"), (2, u "hashIsZero"), (0, u "Z"), (0, .methodref 10 28), (0, .nameAndType 5 29), (0, u "([CIILjava/lang/Void;)V"), (8, .fieldref 10 39), (0, .nameAndType 40 26), (0, u "COMPACT_STRINGS"), (1, .class_ 44), (1, u "java/lang/StringUTF16"), (0, u "compress"), (1, .methodref 42 48), (0, .nameAndType 49 50), (0, u "coderFromArrayLen"), (0, u "([BI)B"), (2, u "toBytes"), (53, .class_ 109), (1, u "java/lang/StringLatin1"), (32, u "()Z"), (34, .methodref 42 178), (0, .nameAndType 45 179), (0, u "([CII)[B"), (29, .methodref 10 210), (0, .nameAndType 5 211), (0, u "([BB)V"), (122, u "()I"), (0, .methodref 10 336), (0, .nameAndType 17 337), (0, u "()B"), (31, u "(C)Z"), (94, u "()Ljava/lang/String;"), (27, .methodref 10 493), (0, .nameAndType 494 142), (0, u "isLatin1"), (10, .methodref 10 506), (0, .nameAndType 507 334), (0, u "length"), (33, .methodref 107 542), (0, .nameAndType 543 544), (0, u "equals"), (0, u "([B[B)Z"), (28, u "(Ljava/lang/Object;)Z"), (1, .class_ 576), (0, u "java/lang/CharSequence"), (22, u "CASE_INSENSITIVE_ORDER"), (0, u "Ljava/util/Comparator;"), (32, .methodref 10 634), (0, .nameAndType 635 636), (0, u "indexOf"), (0, u "(II)I"), (0, .methodref 107 638), (0, .nameAndType 635 639), (0, u "([BIII)I"), (52, u "isEmpty"), (72, u "(I)I"), (16, u "valueOf"), (0, u "(C)Ljava/lang/String;"), (78, u "([B)Ljava/lang/String;"), (1, .methodref 107 865), (0, .nameAndType 866 862), (0, u "strip"), (143, u "([C)V"), (4, .methodref 107 1016), (0, .nameAndType 1017 369), (0, u "canEncode"), (0, .methodref 107 1019), (0, .nameAndType 53 1020), (0, u "(C)[B"), (80, u "serialPersistentFields"), (0, u "[Ljava/io/ObjectStreamField;"), (0, .class_ 1104), (0, u "java/lang/String$CaseInsensitiveComparator"), (1, .class_ 1107), (0, u "java/io/Serializable"), (0, .class_ 1109), (0, u "java/lang/Comparable"), (0, .class_ 1111), (0, u "java/lang/constant/Constable"), (0, .class_ 1113), (0, u "java/lang/constant/ConstantDesc"), (2, u "serialVersionUID"), (0, u "J"), (3, u "REPL"), (0, u "C"), (2, u "LATIN1"), (1, u "UTF16")] 323

def k9m0 : Method := { name := "<init>", desc := "()V", sig := { parameters := [], returnType := none }, accessFlags := 1, code := none }
def k9c1 : Code := { maxStack := 5, maxLocals := 2, code := jdk_42_method_3_code, exceptionTable := #[], attributes := #[] }
def k9m1 : Method := { name := "<init>", desc := "([C)V", sig := { parameters := [(.array .char)], returnType := none }, accessFlags := 1, code := some k9c1 }
def k9c2 : Code := { maxStack := 2, maxLocals := 1, code := jdk_42_method_54_code, exceptionTable := #[], attributes := #[] }
def k9m2 : Method := { name := "length", desc := "()I", sig := { parameters := [], returnType := some .int }, accessFlags := 1, code := some k9c2 }
def k9c3 : Code := { maxStack := 1, maxLocals := 1, code := jdk_42_method_55_code, exceptionTable := #[], attributes := #[] }
def k9m3 : Method := { name := "isEmpty", desc := "()Z", sig := { parameters := [], returnType := some .boolean }, accessFlags := 1, code := some k9c3 }
def k9c4 : Code := { maxStack := 2, maxLocals := 3, code := jdk_42_method_66_code, exceptionTable := #[], attributes := #[] }
def k9m4 : Method := { name := "equals", desc := "(Ljava/lang/Object;)Z", sig := { parameters := [(.object "java/lang/Object")], returnType := some .boolean }, accessFlags := 1, code := some k9c4 }
def k9c5 : Code := { maxStack := 3, maxLocals := 2, code := jdk_42_method_79_code, exceptionTable := #[], attributes := #[] }
def k9m5 : Method := { name := "indexOf", desc := "(I)I", sig := { parameters := [.int], returnType := some .int }, accessFlags := 1, code := some k9c5 }
def k9c6 : Code := { maxStack := 4, maxLocals := 3, code := jdk_42_method_80_code, exceptionTable := #[], attributes := #[] }
def k9m6 : Method := { name := "indexOf", desc := "(II)I", sig := { parameters := [.int, .int], returnType := some .int }, accessFlags := 1, code := some k9c6 }
def k9c7 : Code := { maxStack := 1, maxLocals := 2, code := jdk_42_method_114_code, exceptionTable := #[], attributes := #[] }
def k9m7 : Method := { name := "strip", desc := "()Ljava/lang/String;", sig := { parameters := [], returnType := some (.object "java/lang/String") }, accessFlags := 1, code := some k9c7 }
def k9c8 : Code := { maxStack := 4, maxLocals := 1, code := jdk_42_method_139_code, exceptionTable := #[], attributes := #[] }
def k9m8 : Method := { name := "valueOf", desc := "(C)Ljava/lang/String;", sig := { parameters := [.char], returnType := some (.object "java/lang/String") }, accessFlags := 9, code := some k9c8 }
def k9c9 : Code := { maxStack := 4, maxLocals := 6, code := jdk_42_method_149_code, exceptionTable := #[], attributes := #[] }
def k9m9 : Method := { name := "<init>", desc := "([CIILjava/lang/Void;)V", sig := { parameters := [(.array .char), .int, .int, (.object "java/lang/Void")], returnType := none }, accessFlags := 2, code := some k9c9 }
def k9c10 : Code := { maxStack := 2, maxLocals := 3, code := jdk_42_method_151_code, exceptionTable := #[], attributes := #[] }
def k9m10 : Method := { name := "<init>", desc := "([BB)V", sig := { parameters := [(.array .byte), .byte], returnType := none }, accessFlags := 0, code := some k9c10 }
def k9c11 : Code := { maxStack := 1, maxLocals := 1, code := jdk_42_method_152_code, exceptionTable := #[], attributes := #[] }
def k9m11 : Method := { name := "coder", desc := "()B", sig := { parameters := [], returnType := some .byte }, accessFlags := 0, code := some k9c11 }
def k9c12 : Code := { maxStack := 1, maxLocals := 1, code := jdk_42_method_154_code, exceptionTable := #[], attributes := #[] }
def k9m12 : Method := { name := "isLatin1", desc := "()Z", sig := { parameters := [], returnType := some .boolean }, accessFlags := 0, code := some k9c12 }
def k9 : Class := { plain "java/lang/String" (some 0) with
  accessFlags := 49
  interfaces := #[4, 5, 6, 7, 8]
  cf := some (fileOf pool9 10 #[.nestMembers #[1103]] #[{ accessFlags := 1, nameIndex := 5, descriptorIndex := 6, attributes := #[] }, { accessFlags := 1, nameIndex := 5, descriptorIndex := 1010, attributes := #[] }, { accessFlags := 1, nameIndex := 507, descriptorIndex := 334, attributes := #[] }, { accessFlags := 1, nameIndex := 692, descriptorIndex := 142, attributes := #[] }, { accessFlags := 1, nameIndex := 543, descriptorIndex := 573, attributes := #[] }, { accessFlags := 1, nameIndex := 635, descriptorIndex := 765, attributes := #[] }, { accessFlags := 1, nameIndex := 635, descriptorIndex := 636, attributes := #[] }, { accessFlags := 1, nameIndex := 866, descriptorIndex := 464, attributes := #[] }, { accessFlags := 9, nameIndex := 782, descriptorIndex := 783, attributes := #[] }, { accessFlags := 2, nameIndex := 5, descriptorIndex := 29, attributes := #[] }, { accessFlags := 0, nameIndex := 5, descriptorIndex := 211, attributes := #[] }, { accessFlags := 0, nameIndex := 17, descriptorIndex := 337, attributes := #[] }, { accessFlags := 0, nameIndex := 494, descriptorIndex := 142, attributes := #[] }] 49 2 #[1106, 1108, 575, 1110, 1112] #[{ accessFlags := 18, nameIndex := 13, descriptorIndex := 14, attributes := #[] }, { accessFlags := 18, nameIndex := 17, descriptorIndex := 18, attributes := #[] }, { accessFlags := 2, nameIndex := 21, descriptorIndex := 22, attributes := #[] }, { accessFlags := 2, nameIndex := 25, descriptorIndex := 26, attributes := #[] }, { accessFlags := 26, nameIndex := 1116, descriptorIndex := 1117, attributes := #[] }, { accessFlags := 24, nameIndex := 40, descriptorIndex := 26, attributes := #[] }, { accessFlags := 26, nameIndex := 1101, descriptorIndex := 1102, attributes := #[] }, { accessFlags := 26, nameIndex := 1121, descriptorIndex := 1122, attributes := #[] }, { accessFlags := 25, nameIndex := 599, descriptorIndex := 600, attributes := #[] }, { accessFlags := 24, nameIndex := 1125, descriptorIndex := 18, attributes := #[] }, { accessFlags := 24, nameIndex := 1127, descriptorIndex := 18, attributes := #[] }])
  fields := #[{ name := "value", type := (.array .byte), accessFlags := 18, slot := 0, constantValue := 0 }, { name := "coder", type := .byte, accessFlags := 18, slot := 1, constantValue := 0 }, { name := "hash", type := .int, accessFlags := 2, slot := 2, constantValue := 0 }, { name := "hashIsZero", type := .boolean, accessFlags := 2, slot := 3, constantValue := 0 }, { name := "serialVersionUID", type := .long, accessFlags := 26, slot := 0, constantValue := 0 }, { name := "COMPACT_STRINGS", type := .boolean, accessFlags := 24, slot := 1, constantValue := 0 }, { name := "serialPersistentFields", type := (.array (.object "java/io/ObjectStreamField")), accessFlags := 26, slot := 2, constantValue := 0 }, { name := "REPL", type := .char, accessFlags := 26, slot := 3, constantValue := 0 }, { name := "CASE_INSENSITIVE_ORDER", type := (.object "java/util/Comparator"), accessFlags := 25, slot := 4, constantValue := 0 }, { name := "LATIN1", type := .byte, accessFlags := 24, slot := 5, constantValue := 0 }, { name := "UTF16", type := .byte, accessFlags := 24, slot := 6, constantValue := 0 }]
  methods := #[k9m0, k9m1, k9m2, k9m3, k9m4, k9m5, k9m6, k9m7, k9m8, k9m9, k9m10, k9m11, k9m12]
  instanceTypes := #[(.array .byte), .byte, .int, .boolean]
  staticTypes := #[.long, .boolean, (.array (.object "java/io/ObjectStreamField")), .char, (.object "java/util/Comparator"), .byte, .byte]
  resolved := Array.replicate 1451 none
  statics := some 0 }

def pool10 : Array CpInfo := pool [(4, .class_ 6), (1, u "java/lang/Object"), (0, u "<init>"), (0, u "()V"), (5, .class_ 16), (1, u "java/lang/StringLatin1"), (21, .methodref 39 40), (0, .class_ 41), (0, .nameAndType 42 43), (0, u "java/lang/Math"), (0, u "min"), (0, u "(II)I"), (6, .methodref 14 51), (0, .nameAndType 52 53), (0, u "getChar"), (0, u "([BI)C"), (3, u "([B)I"), (8, .fieldref 67 68), (0, .class_ 69), (0, .nameAndType 70 71), (0, u "java/lang/CharacterDataLatin1"), (0, u "instance"), (0, u "Ljava/lang/CharacterDataLatin1;"), (16, .methodref 14 89), (0, .nameAndType 90 91), (0, u "canEncode"), (0, u "(I)Z"), (0, .methodref 39 93), (0, .nameAndType 94 43), (0, u "max"), (0, .methodref 14 96), (0, .nameAndType 97 98), (0, u "indexOfChar"), (0, u "([BIII)I"), (2, u "indexOf"), (3, u "(C)Z"), (15, u "$assertionsDisabled"), (0, u "Z"), (88, .methodref 67 212), (0, .nameAndType 213 91), (0, u "isWhitespace"), (0, .methodref 14 215), (0, .nameAndType 216 57), (0, u "indexOfNonWhitespace"), (0, .methodref 14 218), (0, .nameAndType 219 57), (0, u "lastIndexOfNonWhitespace"), (1, .class_ 223), (1, u "java/lang/StringLatin1$LinesSpliterator"), (57, u "equals"), (0, u "([B[B)Z"), (84, u "([B)Ljava/lang/String;"), (3, u "strip"), (8, u "toBytes"), (1, u "(C)[B"), (7, .class_ 391), (0, u "java/lang/StringLatin1$CharsSpliterator")] 3

def k10m0 : Method := { name := "<init>", desc := "()V", sig := { parameters := [], returnType := none }, accessFlags := 0, code := none }
def k10c1 : Code := { maxStack := 2, maxLocals := 1, code := jdk_43_method_3_code, exceptionTable := #[], attributes := #[] }
def k10m1 : Method := { name := "canEncode", desc := "(C)Z", sig := { parameters := [.char], returnType := some .boolean }, accessFlags := 9, code := some k10c1 }
def k10c2 : Code := { maxStack := 2, maxLocals := 1, code := jdk_43_method_4_code, exceptionTable := #[], attributes := #[] }
def k10m2 : Method := { name := "canEncode", desc := "(I)Z", sig := { parameters := [.int], returnType := some .boolean }, accessFlags := 9, code := some k10c2 }
def k10c3 : Code := { maxStack := 3, maxLocals := 3, code := jdk_43_method_13_code, exceptionTable := #[], attributes := #[] }
def k10m3 : Method := { name := "equals", desc := "([B[B)Z", sig := { parameters := [(.array .byte), (.array .byte)], returnType := some .boolean }, accessFlags := 9, code := some k10c3 }
def k10c4 : Code := { maxStack := 4, maxLocals := 4, code := jdk_43_method_22_code, exceptionTable := #[], attributes := #[] }
def k10m4 : Method := { name := "indexOf", desc := "([BIII)I", sig := { parameters := [(.array .byte), .int, .int, .int], returnType := some .int }, accessFlags := 9, code := some k10c4 }
def k10c5 : Code := { maxStack := 2, maxLocals := 6, code := jdk_43_method_23_code, exceptionTable := #[], attributes := #[] }
def k10m5 : Method := { name := "indexOfChar", desc := "([BIII)I", sig := { parameters := [(.array .byte), .int, .int, .int], returnType := some .int }, accessFlags := 10, code := some k10c5 }
def k10c6 : Code := { maxStack := 2, maxLocals := 4, code := jdk_43_method_37_code, exceptionTable := #[], attributes := #[] }
def k10m6 : Method := { name := "indexOfNonWhitespace", desc := "([B)I", sig := { parameters := [(.array .byte)], returnType := some .int }, accessFlags := 9, code := some k10c6 }
def k10c7 : Code := { maxStack := 3, maxLocals := 4, code := jdk_43_method_38_code, exceptionTable := #[], attributes := #[] }
def k10m7 : Method := { name := "lastIndexOfNonWhitespace", desc := "([B)I", sig := { parameters := [(.array .byte)], returnType := some .int }, accessFlags := 9, code := some k10c7 }
def k10c8 : Code := { maxStack := 4, maxLocals := 4, code := jdk_43_method_39_code, exceptionTable := #[], attributes := #[] }
def k10m8 : Method := { name := "strip", desc := "([B)Ljava/lang/String;", sig := { parameters := [(.array .byte)], returnType := some (.object "java/lang/String") }, accessFlags := 9, code := some k10c8 }
def k10c9 : Code := { maxStack := 2, maxLocals := 2, code := jdk_43_method_44_code, exceptionTable := #[], attributes := #[] }
def k10m9 : Method := { name := "getChar", desc := "([BI)C", sig := { parameters := [(.array .byte), .int], returnType := some .char }, accessFlags := 9, code := some k10c9 }
def k10c10 : Code := { maxStack := 4, maxLocals := 1, code := jdk_43_method_46_code, exceptionTable := #[], attributes := #[] }
def k10m10 : Method := { name := "toBytes", desc := "(C)[B", sig := { parameters := [.char], returnType := some (.array .byte) }, accessFlags := 9, code := some k10c10 }
def k10 : Class := { plain "java/lang/StringLatin1" (some 0) with
  accessFlags := 48
  interfaces := #[]
  cf := some (fileOf pool10 14 #[.nestMembers #[390, 221]] #[{ accessFlags := 0, nameIndex := 7, descriptorIndex := 8, attributes := #[] }, { accessFlags := 9, nameIndex := 90, descriptorIndex := 105, attributes := #[] }, { accessFlags := 9, nameIndex := 90, descriptorIndex := 91, attributes := #[] }, { accessFlags := 9, nameIndex := 281, descriptorIndex := 282, attributes := #[] }, { accessFlags := 9, nameIndex := 101, descriptorIndex := 98, attributes := #[] }, { accessFlags := 10, nameIndex := 97, descriptorIndex := 98, attributes := #[] }, { accessFlags := 9, nameIndex := 216, descriptorIndex := 57, attributes := #[] }, { accessFlags := 9, nameIndex := 219, descriptorIndex := 57, attributes := #[] }, { accessFlags := 9, nameIndex := 371, descriptorIndex := 367, attributes := #[] }, { accessFlags := 9, nameIndex := 52, descriptorIndex := 53, attributes := #[] }, { accessFlags := 9, nameIndex := 380, descriptorIndex := 382, attributes := #[] }] 48 4 #[] #[{ accessFlags := 4120, nameIndex := 121, descriptorIndex := 122, attributes := #[] }])
  fields := #[{ name := "$assertionsDisabled", type := .boolean, accessFlags := 4120, slot := 0, constantValue := 0 }]
  methods := #[k10m0, k10m1, k10m2, k10m3, k10m4, k10m5, k10m6, k10m7, k10m8, k10m9, k10m10]
  instanceTypes := #[]
  staticTypes := #[.boolean]
  resolved := Array.replicate 395 none
  statics := none }

def pool11 : Array CpInfo := pool [(1, .methodref 2 3), (0, .class_ 4), (0, .nameAndType 5 6), (0, u "java/lang/Record"), (0, u "<init>"), (0, u "()V"), (0, .interfaceMethodref 8 9), (0, .class_ 10), (0, .nameAndType 11 12), (0, u "java/util/List"), (0, u "copyOf"), (0, u "(Ljava/util/Collection;)Ljava/util/List;"), (0, .interfaceMethodref 8 14), (0, .nameAndType 15 16), (0, u "isEmpty"), (0, u "()Z"), (7, .fieldref 25 26), (0, .class_ 27), (0, .nameAndType 28 29), (0, u "com/example/firm_duties/firmduties/BusinessContext"), (0, u "pairs"), (0, u "Ljava/util/List;"), (17, .class_ 48), (0, u "com/example/firm_duties/firmduties/BusinessContext$Pair"), (0, .fieldref 47 50), (0, .nameAndType 51 52), (0, u "value"), (0, u "Ljava/lang/String;"), (0, .string 54), (0, u "*"), (0, .methodref 56 57), (0, .class_ 58), (0, .nameAndType 59 60), (0, u "java/lang/String"), (0, u "equals"), (0, u "(Ljava/lang/Object;)Z"), (0, .string 62), (0, u "!"), (10, .methodref 74 75), (0, .class_ 76), (0, .nameAndType 77 78), (0, u "java/util/Objects"), (0, u "requireNonNull"), (0, u "(Ljava/lang/Object;Ljava/lang/String;)Ljava/lang/Object;"), (9, .methodref 56 89), (0, .nameAndType 90 91), (0, u "indexOf"), (0, u "(I)I"), (0, .methodref 56 93), (0, .nameAndType 94 95), (0, u "strip"), (0, u "()Ljava/lang/String;"), (10, u "(Ljava/lang/String;Ljava/lang/String;)V"), (8, u "(Ljava/util/List;)V"), (0, .interfaceMethodref 8 117), (0, .nameAndType 118 119), (0, u "size"), (0, u "()I"), (0, .interfaceMethodref 8 121), (0, .nameAndType 122 123), (0, u "get"), (0, u "(I)Ljava/lang/Object;"), (0, .fieldref 47 125), (0, .nameAndType 126 52), (0, u "type"), (2, u "matches"), (0, u "(Lcom/example/firm_duties/firmduties/BusinessContext;)Z"), (33, .methodref 56 14), (12, u "ANY"), (1, u "EACH"), (11, u "requireToken")] 55

def k11c0 : Code := { maxStack := 3, maxLocals := 2, code := prog_2_method_1_code, exceptionTable := #[], attributes := #[] }
def k11m0 : Method := { name := "<init>", desc := "(Ljava/util/List;)V", sig := { parameters := [(.object "java/util/List")], returnType := none }, accessFlags := 1, code := some k11c0 }
def k11c1 : Code := { maxStack := 2, maxLocals := 5, code := prog_2_method_4_code, exceptionTable := #[], attributes := #[] }
def k11m1 : Method := { name := "matches", desc := "(Lcom/example/firm_duties/firmduties/BusinessContext;)Z", sig := { parameters := [(.object "com/example/firm_duties/firmduties/BusinessContext")], returnType := some .boolean }, accessFlags := 1, code := some k11c1 }
def k11c2 : Code := { maxStack := 4, maxLocals := 2, code := prog_2_method_7_code, exceptionTable := #[], attributes := #[] }
def k11m2 : Method := { name := "requireToken", desc := "(Ljava/lang/String;Ljava/lang/String;)V", sig := { parameters := [(.object "java/lang/String"), (.object "java/lang/String")], returnType := none }, accessFlags := 10, code := some k11c2 }
def k11 : Class := { plain "com/example/firm_duties/firmduties/BusinessContext" (some 2) with
  accessFlags := 49
  interfaces := #[]
  cf := some (fileOf pool11 25 #[.nestMembers #[47]] #[{ accessFlags := 1, nameIndex := 5, descriptorIndex := 115, attributes := #[] }, { accessFlags := 1, nameIndex := 129, descriptorIndex := 130, attributes := #[] }, { accessFlags := 10, nameIndex := 191, descriptorIndex := 106, attributes := #[] }] 49 2 #[] #[{ accessFlags := 18, nameIndex := 28, descriptorIndex := 29, attributes := #[] }, { accessFlags := 25, nameIndex := 177, descriptorIndex := 52, attributes := #[] }, { accessFlags := 25, nameIndex := 179, descriptorIndex := 52, attributes := #[] }])
  fields := #[{ name := "pairs", type := (.object "java/util/List"), accessFlags := 18, slot := 0, constantValue := 0 }, { name := "ANY", type := (.object "java/lang/String"), accessFlags := 25, slot := 0, constantValue := 0 }, { name := "EACH", type := (.object "java/lang/String"), accessFlags := 25, slot := 1, constantValue := 0 }]
  methods := #[k11m0, k11m1, k11m2]
  instanceTypes := #[(.object "java/util/List")]
  staticTypes := #[(.object "java/lang/String"), (.object "java/lang/String")]
  resolved := ((Array.replicate 247 none).setIfInBounds 124 (some (.field 3 0))).setIfInBounds 49 (some (.field 3 1))
  statics := none }

def pool12 : Array CpInfo := pool [(2, .class_ 4), (1, u "java/lang/Object"), (0, u "<init>"), (0, u "()V"), (35, .class_ 44), (1, u "java/util/Objects"), (0, u "requireNonNull"), (0, u "(Ljava/lang/Object;)Ljava/lang/Object;"), (47, u "(Ljava/lang/Object;Ljava/lang/String;)Ljava/lang/Object;")] 89

def k12m0 : Method := { name := "<init>", desc := "()V", sig := { parameters := [], returnType := none }, accessFlags := 2, code := none }
def k12c1 : Code := { maxStack := 2, maxLocals := 1, code := jdk_31_method_10_code, exceptionTable := #[], attributes := #[] }
def k12m1 : Method := { name := "requireNonNull", desc := "(Ljava/lang/Object;)Ljava/lang/Object;", sig := { parameters := [(.object "java/lang/Object")], returnType := some (.object "java/lang/Object") }, accessFlags := 9, code := some k12c1 }
def k12c2 : Code := { maxStack := 3, maxLocals := 2, code := jdk_31_method_11_code, exceptionTable := #[], attributes := #[] }
def k12m2 : Method := { name := "requireNonNull", desc := "(Ljava/lang/Object;Ljava/lang/String;)Ljava/lang/Object;", sig := { parameters := [(.object "java/lang/Object"), (.object "java/lang/String")], returnType := some (.object "java/lang/Object") }, accessFlags := 9, code := some k12c2 }
def k12 : Class := { plain "java/util/Objects" (some 0) with
  accessFlags := 49
  interfaces := #[]
  cf := some (fileOf pool12 42 #[] #[{ accessFlags := 2, nameIndex := 5, descriptorIndex := 6, attributes := #[] }, { accessFlags := 9, nameIndex := 45, descriptorIndex := 46, attributes := #[] }, { accessFlags := 9, nameIndex := 45, descriptorIndex := 94, attributes := #[] }] 49 2 #[] #[])
  fields := #[]
  methods := #[k12m0, k12m1, k12m2]
  instanceTypes := #[]
  staticTypes := #[]
  resolved := Array.replicate 184 none
  statics := none }

def pool13 : Array CpInfo := pool [(2, .class_ 4), (1, u "java/lang/Object"), (0, u "<init>"), (0, u "()V"), (1, .class_ 10), (1, u "java/lang/CharacterData")] 75

def k13m0 : Method := { name := "<init>", desc := "()V", sig := { parameters := [], returnType := none }, accessFlags := 0, code := none }
def k13 : Class := { plain "java/lang/CharacterData" (some 0) with
  accessFlags := 1056
  interfaces := #[]
  cf := some (fileOf pool13 8 #[] #[{ accessFlags := 0, nameIndex := 5, descriptorIndex := 6, attributes := #[] }] 1056 2 #[] #[])
  fields := #[]
  methods := #[k13m0]
  instanceTypes := #[]
  staticTypes := #[]
  resolved := Array.replicate 86 none
  statics := none }

def pool14 : Array CpInfo := pool [(1, .fieldref 2 3), (0, .class_ 4), (0, .nameAndType 5 6), (0, u "java/lang/CharacterDataLatin1"), (0, u "A"), (0, u "[I"), (2, u "B"), (0, u "[C"), (3, u "(I)I"), (0, .methodref 2 16), (0, .nameAndType 17 14), (0, u "getProperties"), (3, u "(I)Z"), (5, u "DIGITS"), (0, u "[B"), (8, u "sharpsMap"), (1, .class_ 41), (1, u "java/lang/CharacterData"), (0, u "<init>"), (0, u "()V"), (3, u "instance"), (0, u "Ljava/lang/CharacterDataLatin1;"), (78, u "isWhitespace")] 13

def k14c0 : Code := { maxStack := 2, maxLocals := 4, code := jdk_116_method_1_code, exceptionTable := #[], attributes := #[] }
def k14m0 : Method := { name := "getProperties", desc := "(I)I", sig := { parameters := [.int], returnType := some .int }, accessFlags := 0, code := some k14c0 }
def k14c1 : Code := { maxStack := 2, maxLocals := 3, code := jdk_116_method_26_code, exceptionTable := #[], attributes := #[] }
def k14m1 : Method := { name := "isWhitespace", desc := "(I)Z", sig := { parameters := [.int], returnType := some .boolean }, accessFlags := 0, code := some k14c1 }
def k14m2 : Method := { name := "<init>", desc := "()V", sig := { parameters := [], returnType := none }, accessFlags := 2, code := none }
def k14 : Class := { plain "java/lang/CharacterDataLatin1" (some 13) with
  accessFlags := 32
  interfaces := #[]
  cf := some (fileOf pool14 2 #[] #[{ accessFlags := 0, nameIndex := 17, descriptorIndex := 14, attributes := #[] }, { accessFlags := 0, nameIndex := 127, descriptorIndex := 21, attributes := #[] }, { accessFlags := 2, nameIndex := 42, descriptorIndex := 43, attributes := #[] }] 32 39 #[] #[{ accessFlags := 26, nameIndex := 27, descriptorIndex := 28, attributes := #[] }, { accessFlags := 8, nameIndex := 37, descriptorIndex := 10, attributes := #[] }, { accessFlags := 24, nameIndex := 47, descriptorIndex := 48, attributes := #[] }, { accessFlags := 24, nameIndex := 5, descriptorIndex := 6, attributes := #[] }, { accessFlags := 24, nameIndex := 9, descriptorIndex := 10, attributes := #[] }])
  fields := #[{ name := "DIGITS", type := (.array .byte), accessFlags := 26, slot := 0, constantValue := 0 }, { name := "sharpsMap", type := (.array .char), accessFlags := 8, slot := 1, constantValue := 0 }, { name := "instance", type := (.object "java/lang/CharacterDataLatin1"), accessFlags := 24, slot := 2, constantValue := 0 }, { name := "A", type := (.array .int), accessFlags := 24, slot := 3, constantValue := 0 }, { name := "B", type := (.array .char), accessFlags := 24, slot := 4, constantValue := 0 }]
  methods := #[k14m0, k14m1, k14m2]
  instanceTypes := #[]
  staticTypes := #[(.array .byte), (.array .char), (.object "java/lang/CharacterDataLatin1"), (.array .int), (.array .char)]
  resolved := Array.replicate 141 none
  statics := some 1 }

def pool15 : Array CpInfo := pool [(1, .class_ 2), (0, u "java/lang/Math"), (1, .class_ 6), (1, u "java/lang/Object"), (0, u "<init>"), (0, u "()V"), (89, .class_ 100), (1, u "java/lang/Math$RandomNumberGeneratorHolder"), (71, u "negativeZeroFloatBits"), (0, u "J"), (2, u "negativeZeroDoubleBits"), (21, u "max"), (2, u "min"), (43, u "$assertionsDisabled"), (0, u "Z"), (88, u "(II)I"), (2, u "twoToTheDoubleScaleDown"), (0, u "D"), (4, u "twoToTheDoubleScaleUp"), (9, u "E"), (3, u "PI"), (2, u "TAU"), (2, u "DEGREES_TO_RADIANS"), (0, u "RADIANS_TO_DEGREES")] 94

def k15m0 : Method := { name := "<init>", desc := "()V", sig := { parameters := [], returnType := none }, accessFlags := 2, code := none }
def k15c1 : Code := { maxStack := 2, maxLocals := 2, code := jdk_29_method_65_code, exceptionTable := #[], attributes := #[] }
def k15m1 : Method := { name := "max", desc := "(II)I", sig := { parameters := [.int, .int], returnType := some .int }, accessFlags := 9, code := some k15c1 }
def k15c2 : Code := { maxStack := 2, maxLocals := 2, code := jdk_29_method_69_code, exceptionTable := #[], attributes := #[] }
def k15m2 : Method := { name := "min", desc := "(II)I", sig := { parameters := [.int, .int], returnType := some .int }, accessFlags := 9, code := some k15c2 }
def k15 : Class := { plain "java/lang/Math" (some 0) with
  accessFlags := 49
  interfaces := #[]
  cf := some (fileOf pool15 1 #[.nestMembers #[98]] #[{ accessFlags := 2, nameIndex := 7, descriptorIndex := 8, attributes := #[] }, { accessFlags := 9, nameIndex := 198, descriptorIndex := 335, attributes := #[] }, { accessFlags := 9, nameIndex := 201, descriptorIndex := 335, attributes := #[] }] 49 4 #[] #[{ accessFlags := 25, nameIndex := 354, descriptorIndex := 339, attributes := #[] }, { accessFlags := 25, nameIndex := 358, descriptorIndex := 339, attributes := #[] }, { accessFlags := 25, nameIndex := 361, descriptorIndex := 339, attributes := #[] }, { accessFlags := 26, nameIndex := 364, descriptorIndex := 339, attributes := #[] }, { accessFlags := 26, nameIndex := 365, descriptorIndex := 339, attributes := #[] }, { accessFlags := 26, nameIndex := 172, descriptorIndex := 173, attributes := #[] }, { accessFlags := 26, nameIndex := 176, descriptorIndex := 173, attributes := #[] }, { accessFlags := 8, nameIndex := 344, descriptorIndex := 339, attributes := #[] }, { accessFlags := 8, nameIndex := 338, descriptorIndex := 339, attributes := #[] }, { accessFlags := 4120, nameIndex := 245, descriptorIndex := 246, attributes := #[] }])
  fields := #[{ name := "E", type := .double, accessFlags := 25, slot := 0, constantValue := 0 }, { name := "PI", type := .double, accessFlags := 25, slot := 1, constantValue := 0 }, { name := "TAU", type := .double, accessFlags := 25, slot := 2, constantValue := 0 }, { name := "DEGREES_TO_RADIANS", type := .double, accessFlags := 26, slot := 3, constantValue := 0 }, { name := "RADIANS_TO_DEGREES", type := .double, accessFlags := 26, slot := 4, constantValue := 0 }, { name := "negativeZeroFloatBits", type := .long, accessFlags := 26, slot := 5, constantValue := 0 }, { name := "negativeZeroDoubleBits", type := .long, accessFlags := 26, slot := 6, constantValue := 0 }, { name := "twoToTheDoubleScaleUp", type := .double, accessFlags := 8, slot := 7, constantValue := 0 }, { name := "twoToTheDoubleScaleDown", type := .double, accessFlags := 8, slot := 8, constantValue := 0 }, { name := "$assertionsDisabled", type := .boolean, accessFlags := 4120, slot := 9, constantValue := 0 }]
  methods := #[k15m0, k15m1, k15m2]
  instanceTypes := #[]
  staticTypes := #[.double, .double, .double, .double, .double, .long, .long, .double, .double, .boolean]
  resolved := Array.replicate 460 none
  statics := none }

def pool16 : Array CpInfo := pool [(8, .class_ 10), (1, u "java/lang/Iterable"), (24, .class_ 36), (0, u "java/lang/Object")] 25

def k16 : Class := { plain "java/lang/Iterable" (some 0) with
  accessFlags := 1537
  interfaces := #[]
  cf := some (fileOf pool16 8 #[] #[] 1537 35 #[] #[])
  fields := #[]
  methods := #[]
  instanceTypes := #[]
  staticTypes := #[]
  resolved := Array.replicate 62 none
  statics := none }

def pool17 : Array CpInfo := pool [(10, .class_ 12), (1, u "java/util/Collection"), (0, u "toArray"), (16, u "()Z"), (29, .class_ 61), (0, u "java/lang/Object"), (0, .class_ 63), (0, u "java/lang/Iterable"), (2, u "isEmpty"), (3, u "()[Ljava/lang/Object;")] 44

def k17m0 : Method := { name := "isEmpty", desc := "()Z", sig := { parameters := [], returnType := some .boolean }, accessFlags := 1025, code := none }
def k17m1 : Method := { name := "toArray", desc := "()[Ljava/lang/Object;", sig := { parameters := [], returnType := some (.array (.object "java/lang/Object")) }, accessFlags := 1025, code := none }
def k17 : Class := { plain "java/util/Collection" (some 0) with
  accessFlags := 1537
  interfaces := #[16]
  cf := some (fileOf pool17 10 #[] #[{ accessFlags := 1025, nameIndex := 66, descriptorIndex := 30, attributes := #[] }, { accessFlags := 1025, nameIndex := 13, descriptorIndex := 70, attributes := #[] }] 1537 60 #[62] #[])
  fields := #[]
  methods := #[k17m0, k17m1]
  instanceTypes := #[]
  staticTypes := #[]
  resolved := Array.replicate 115 none
  statics := none }

def pool18 : Array CpInfo := pool [(1, .methodref 2 3), (0, .class_ 4), (0, .nameAndType 5 6), (0, u "java/lang/Object"), (0, u "<init>"), (0, u "()V"), (1, .class_ 10), (1, u "java/util/AbstractCollection"), (66, .class_ 78), (0, u "java/util/Collection")] 81

def k18c0 : Code := { maxStack := 1, maxLocals := 1, code := jdk_22_method_1_code, exceptionTable := #[], attributes := #[] }
def k18m0 : Method := { name := "<init>", desc := "()V", sig := { parameters := [], returnType := none }, accessFlags := 4, code := some k18c0 }
def k18 : Class := { plain "java/util/AbstractCollection" (some 0) with
  accessFlags := 1057
  interfaces := #[17]
  cf := some (fileOf pool18 8 #[] #[{ accessFlags := 4, nameIndex := 5, descriptorIndex := 6, attributes := #[] }] 1057 2 #[77] #[])
  fields := #[]
  methods := #[k18m0]
  instanceTypes := #[]
  staticTypes := #[]
  resolved := Array.replicate 160 none
  statics := none }

def pool19 : Array CpInfo := pool [(8, .class_ 10), (1, u "java/util/SequencedCollection"), (15, .class_ 27), (0, u "java/lang/Object"), (0, .class_ 29), (0, u "java/util/Collection")] 27

def k19 : Class := { plain "java/util/SequencedCollection" (some 0) with
  accessFlags := 1537
  interfaces := #[17]
  cf := some (fileOf pool19 8 #[] #[] 1537 26 #[28] #[])
  fields := #[]
  methods := #[]
  instanceTypes := #[]
  staticTypes := #[]
  resolved := Array.replicate 57 none
  statics := none }

def pool20 : Array CpInfo := pool [(8, .class_ 10), (1, u "java/util/List"), (7, u "()Z"), (12, u "(Ljava/lang/Object;)V"), (16, u "<init>"), (11, u "add"), (3, u "(Ljava/lang/Object;)Z"), (2, u "isEmpty"), (7, u "get"), (0, u "(I)Ljava/lang/Object;"), (2, u "size"), (0, u "()I"), (7, u "of"), (2, .class_ 93), (1, u "java/util/ImmutableCollections"), (2, .class_ 97), (0, u "java/util/ImmutableCollections$List12"), (0, .methodref 96 99), (0, .nameAndType 48 31), (0, .methodref 96 101), (0, .nameAndType 48 102), (0, u "(Ljava/lang/Object;Ljava/lang/Object;)V"), (0, .class_ 104), (0, u "java/lang/Object"), (3, u "([Ljava/lang/Object;)Ljava/util/List;"), (0, .methodref 91 110), (0, .nameAndType 111 108), (0, u "listFromArray"), (0, .methodref 91 113), (0, .nameAndType 114 115), (0, u "listCopy"), (0, u "(Ljava/util/Collection;)Ljava/util/List;"), (4, .class_ 121), (0, u "java/util/SequencedCollection"), (112, u "copyOf")] 16

def k20m0 : Method := { name := "size", desc := "()I", sig := { parameters := [], returnType := some .int }, accessFlags := 1025, code := none }
def k20m1 : Method := { name := "isEmpty", desc := "()Z", sig := { parameters := [], returnType := some .boolean }, accessFlags := 1025, code := none }
def k20m2 : Method := { name := "add", desc := "(Ljava/lang/Object;)Z", sig := { parameters := [(.object "java/lang/Object")], returnType := some .boolean }, accessFlags := 1025, code := none }
def k20m3 : Method := { name := "get", desc := "(I)Ljava/lang/Object;", sig := { parameters := [.int], returnType := some (.object "java/lang/Object") }, accessFlags := 1025, code := none }
def k20c4 : Code := { maxStack := 5, maxLocals := 2, code := jdk_40_method_47_code, exceptionTable := #[], attributes := #[] }
def k20m4 : Method := { name := "of", desc := "([Ljava/lang/Object;)Ljava/util/List;", sig := { parameters := [(.array (.object "java/lang/Object"))], returnType := some (.object "java/util/List") }, accessFlags := 137, code := some k20c4 }
def k20c5 : Code := { maxStack := 1, maxLocals := 1, code := jdk_40_method_48_code, exceptionTable := #[], attributes := #[] }
def k20m5 : Method := { name := "copyOf", desc := "(Ljava/util/Collection;)Ljava/util/List;", sig := { parameters := [(.object "java/util/Collection")], returnType := some (.object "java/util/List") }, accessFlags := 9, code := some k20c5 }
def k20 : Class := { plain "java/util/List" (some 0) with
  accessFlags := 1537
  interfaces := #[19]
  cf := some (fileOf pool20 8 #[] #[{ accessFlags := 1025, nameIndex := 79, descriptorIndex := 80, attributes := #[] }, { accessFlags := 1025, nameIndex := 67, descriptorIndex := 18, attributes := #[] }, { accessFlags := 1025, nameIndex := 60, descriptorIndex := 64, attributes := #[] }, { accessFlags := 1025, nameIndex := 75, descriptorIndex := 76, attributes := #[] }, { accessFlags := 137, nameIndex := 88, descriptorIndex := 108, attributes := #[] }, { accessFlags := 9, nameIndex := 234, descriptorIndex := 115, attributes := #[] }] 1537 103 #[120] #[])
  fields := #[]
  methods := #[k20m0, k20m1, k20m2, k20m3, k20m4, k20m5]
  instanceTypes := #[]
  staticTypes := #[]
  resolved := Array.replicate 251 none
  statics := none }

def pool21 : Array CpInfo := pool [(1, .methodref 2 3), (0, .class_ 4), (0, .nameAndType 5 6), (0, u "java/util/AbstractCollection"), (0, u "<init>"), (0, u "()V"), (0, .fieldref 8 9), (0, .class_ 10), (0, .nameAndType 11 12), (0, u "java/util/AbstractList"), (0, u "modCount"), (0, u "I"), (64, .class_ 78), (0, u "java/util/AbstractList$Itr"), (3, .class_ 83), (0, u "java/util/AbstractList$ListItr"), (9, .class_ 94), (0, u "java/util/AbstractList$RandomAccessSubList"), (3, .class_ 99), (0, u "java/util/AbstractList$SubList"), (33, .class_ 134), (0, u "java/util/List"), (73, .class_ 209), (0, u "java/util/AbstractList$SubList$1"), (0, .class_ 211), (0, u "java/util/AbstractList$RandomAccessSpliterator")] 6

def k21c0 : Code := { maxStack := 2, maxLocals := 1, code := jdk_39_method_1_code, exceptionTable := #[], attributes := #[] }
def k21m0 : Method := { name := "<init>", desc := "()V", sig := { parameters := [], returnType := none }, accessFlags := 4, code := some k21c0 }
def k21 : Class := { plain "java/util/AbstractList" (some 18) with
  accessFlags := 1057
  interfaces := #[20]
  cf := some (fileOf pool21 8 #[.nestMembers #[93, 98, 208, 210, 82, 77]] #[{ accessFlags := 4, nameIndex := 5, descriptorIndex := 6, attributes := #[] }] 1057 2 #[133] #[{ accessFlags := 132, nameIndex := 11, descriptorIndex := 12, attributes := #[] }])
  fields := #[{ name := "modCount", type := .int, accessFlags := 132, slot := 0, constantValue := 0 }]
  methods := #[k21m0]
  instanceTypes := #[.int]
  staticTypes := #[]
  resolved := Array.replicate 218 none
  statics := none }

def pool22 : Array CpInfo := pool [(1, .class_ 2), (0, u "java/util/RandomAccess"), (0, .class_ 4), (0, u "java/lang/Object")] 2

def k22 : Class := { plain "java/util/RandomAccess" (some 0) with
  accessFlags := 1537
  interfaces := #[]
  cf := some (fileOf pool22 1 #[] #[] 1537 3 #[] #[])
  fields := #[]
  methods := #[]
  instanceTypes := #[]
  staticTypes := #[]
  resolved := Array.replicate 7 none
  statics := none }

def pool23 : Array CpInfo := pool [(1, .class_ 2), (0, u "java/lang/Cloneable"), (0, .class_ 4), (0, u "java/lang/Object")] 2

def k23 : Class := { plain "java/lang/Cloneable" (some 0) with
  accessFlags := 1537
  interfaces := #[]
  cf := some (fileOf pool23 1 #[] #[] 1537 3 #[] #[])
  fields := #[]
  methods := #[]
  instanceTypes := #[]
  staticTypes := #[]
  resolved := Array.replicate 7 none
  statics := none }

def pool24 : Array CpInfo := pool [(1, .methodref 2 3), (0, .class_ 4), (0, .nameAndType 5 6), (0, u "java/util/AbstractList"), (0, u "<init>"), (0, u "()V"), (0, .class_ 8), (0, u "java/lang/Object"), (0, .fieldref 10 11), (0, .class_ 12), (0, .nameAndType 13 14), (0, u "java/util/ArrayList"), (0, u "elementData"), (0, u "[Ljava/lang/Object;"), (2, u "EMPTY_ELEMENTDATA"), (21, .fieldref 10 40), (0, .nameAndType 41 14), (0, u "DEFAULTCAPACITY_EMPTY_ELEMENTDATA"), (4, u "toArray"), (0, u "()[Ljava/lang/Object;"), (0, .fieldref 10 49), (0, .nameAndType 50 51), (0, u "size"), (0, u "I"), (6, .class_ 60), (1, u "java/util/Arrays"), (0, u "copyOf"), (1, .fieldref 10 64), (0, .nameAndType 65 51), (0, u "modCount"), (0, .methodref 58 67), (0, .nameAndType 61 68), (0, u "([Ljava/lang/Object;I)[Ljava/lang/Object;"), (0, .methodref 10 70), (0, .nameAndType 71 72), (0, u "grow"), (0, u "(I)[Ljava/lang/Object;"), (6, .methodref 80 81), (0, .class_ 82), (0, .nameAndType 83 84), (0, u "java/lang/Math"), (0, u "max"), (0, u "(II)I"), (11, u "(Ljava/lang/Object;)Z"), (32, .methodref 10 130), (0, .nameAndType 71 47), (0, .methodref 10 132), (0, .nameAndType 133 134), (0, u "add"), (0, u "(Ljava/lang/Object;[Ljava/lang/Object;I)V"), (13, .class_ 149), (0, u "java/util/List"), (23, u "()Z"), (88, .class_ 263), (0, u "java/util/ArrayList$ListItr"), (3, .class_ 268), (0, u "java/util/ArrayList$Itr"), (7, .class_ 277), (0, u "java/util/ArrayList$SubList"), (12, .class_ 291), (0, u "java/util/ArrayList$ArrayListSpliterator"), (37, .class_ 330), (0, u "java/util/RandomAccess"), (0, .class_ 332), (0, u "java/lang/Cloneable"), (0, .class_ 334), (0, u "java/io/Serializable"), (0, u "serialVersionUID"), (0, u "J"), (3, u "DEFAULT_CAPACITY"), (22, u "isEmpty"), (136, .class_ 501), (0, u "java/util/ArrayList$SubList$2"), (0, .class_ 503), (0, u "java/util/ArrayList$SubList$1")] 5

def k24c0 : Code := { maxStack := 2, maxLocals := 1, code := jdk_38_method_2_code, exceptionTable := #[], attributes := #[] }
def k24m0 : Method := { name := "<init>", desc := "()V", sig := { parameters := [], returnType := none }, accessFlags := 1, code := some k24c0 }
def k24c1 : Code := { maxStack := 4, maxLocals := 4, code := jdk_38_method_6_code, exceptionTable := #[], attributes := #[] }
def k24m1 : Method := { name := "grow", desc := "(I)[Ljava/lang/Object;", sig := { parameters := [.int], returnType := some (.array (.object "java/lang/Object")) }, accessFlags := 2, code := some k24c1 }
def k24c2 : Code := { maxStack := 3, maxLocals := 1, code := jdk_38_method_7_code, exceptionTable := #[], attributes := #[] }
def k24m2 : Method := { name := "grow", desc := "()[Ljava/lang/Object;", sig := { parameters := [], returnType := some (.array (.object "java/lang/Object")) }, accessFlags := 2, code := some k24c2 }
def k24c3 : Code := { maxStack := 1, maxLocals := 1, code := jdk_38_method_9_code, exceptionTable := #[], attributes := #[] }
def k24m3 : Method := { name := "isEmpty", desc := "()Z", sig := { parameters := [], returnType := some .boolean }, accessFlags := 1, code := some k24c3 }
def k24c4 : Code := { maxStack := 2, maxLocals := 1, code := jdk_38_method_16_code, exceptionTable := #[], attributes := #[] }
def k24m4 : Method := { name := "toArray", desc := "()[Ljava/lang/Object;", sig := { parameters := [], returnType := some (.array (.object "java/lang/Object")) }, accessFlags := 1, code := some k24c4 }
def k24c5 : Code := { maxStack := 3, maxLocals := 4, code := jdk_38_method_24_code, exceptionTable := #[], attributes := #[] }
def k24m5 : Method := { name := "add", desc := "(Ljava/lang/Object;[Ljava/lang/Object;I)V", sig := { parameters := [(.object "java/lang/Object"), (.array (.object "java/lang/Object")), .int], returnType := none }, accessFlags := 2, code := some k24c5 }
def k24c6 : Code := { maxStack := 4, maxLocals := 2, code := jdk_38_method_25_code, exceptionTable := #[], attributes := #[] }
def k24m6 : Method := { name := "add", desc := "(Ljava/lang/Object;)Z", sig := { parameters := [(.object "java/lang/Object")], returnType := some .boolean }, accessFlags := 1, code := some k24c6 }
def k24 : Class := { plain "java/util/ArrayList" (some 21) with
  accessFlags := 33
  interfaces := #[20, 22, 23, 4]
  cf := some (fileOf pool24 10 #[.nestMembers #[290, 276, 500, 502, 262, 267]] #[{ accessFlags := 1, nameIndex := 5, descriptorIndex := 6, attributes := #[] }, { accessFlags := 2, nameIndex := 71, descriptorIndex := 72, attributes := #[] }, { accessFlags := 2, nameIndex := 71, descriptorIndex := 47, attributes := #[] }, { accessFlags := 1, nameIndex := 363, descriptorIndex := 173, attributes := #[] }, { accessFlags := 1, nameIndex := 46, descriptorIndex := 47, attributes := #[] }, { accessFlags := 2, nameIndex := 133, descriptorIndex := 134, attributes := #[] }, { accessFlags := 1, nameIndex := 133, descriptorIndex := 96, attributes := #[] }] 33 2 #[148, 329, 331, 333] #[{ accessFlags := 26, nameIndex := 335, descriptorIndex := 336, attributes := #[] }, { accessFlags := 26, nameIndex := 340, descriptorIndex := 51, attributes := #[] }, { accessFlags := 26, nameIndex := 17, descriptorIndex := 14, attributes := #[] }, { accessFlags := 26, nameIndex := 41, descriptorIndex := 14, attributes := #[] }, { accessFlags := 128, nameIndex := 13, descriptorIndex := 14, attributes := #[] }, { accessFlags := 2, nameIndex := 50, descriptorIndex := 51, attributes := #[] }])
  fields := #[{ name := "serialVersionUID", type := .long, accessFlags := 26, slot := 0, constantValue := 0 }, { name := "DEFAULT_CAPACITY", type := .int, accessFlags := 26, slot := 1, constantValue := 0 }, { name := "EMPTY_ELEMENTDATA", type := (.array (.object "java/lang/Object")), accessFlags := 26, slot := 2, constantValue := 0 }, { name := "DEFAULTCAPACITY_EMPTY_ELEMENTDATA", type := (.array (.object "java/lang/Object")), accessFlags := 26, slot := 3, constantValue := 0 }, { name := "elementData", type := (.array (.object "java/lang/Object")), accessFlags := 128, slot := 1, constantValue := 0 }, { name := "size", type := .int, accessFlags := 2, slot := 2, constantValue := 0 }]
  methods := #[k24m0, k24m1, k24m2, k24m3, k24m4, k24m5, k24m6]
  instanceTypes := #[.int, (.array (.object "java/lang/Object")), .int]
  staticTypes := #[.long, .int, (.array (.object "java/lang/Object")), (.array (.object "java/lang/Object"))]
  resolved := Array.replicate 509 none
  statics := some 2 }

def pool25 : Array CpInfo := pool [(2, .class_ 4), (1, u "java/lang/Object"), (0, u "<init>"), (0, u "()V"), (3, .class_ 11), (0, u "java/util/ImmutableCollections$List12"), (0, .class_ 13), (0, u "java/util/ImmutableCollections$ListN"), (3, u "Z"), (0, .class_ 19), (0, u "java/util/List"), (0, .interfaceMethodref 21 22), (0, .class_ 23), (0, .nameAndType 24 25), (0, u "java/util/Collection"), (0, u "isEmpty"), (0, u "()Z"), (2, u "of"), (1, .interfaceMethodref 21 31), (0, .nameAndType 32 33), (0, u "toArray"), (0, u "()[Ljava/lang/Object;"), (0, .interfaceMethodref 18 35), (0, .nameAndType 28 36), (0, u "([Ljava/lang/Object;)Ljava/util/List;"), (0, .methodref 38 39), (0, .class_ 40), (0, .nameAndType 41 42), (0, u "java/util/Objects"), (0, u "requireNonNull"), (0, u "(Ljava/lang/Object;)Ljava/lang/Object;"), (0, .methodref 12 44), (0, .nameAndType 5 45), (0, u "([Ljava/lang/Object;Z)V"), (1, .class_ 49), (1, u "java/util/ImmutableCollections"), (0, u "$assertionsDisabled"), (5, u "[Ljava/lang/Object;"), (5, u "EMPTY_LIST"), (0, u "Ljava/util/ImmutableCollections$ListN;"), (8, u "EMPTY_LIST_NULLS"), (22, u "SALT32L"), (0, u "J"), (2, u "REVERSE"), (6, u "archivedObjects"), (2, u "EMPTY"), (0, u "Ljava/lang/Object;"), (0, .class_ 112), (0, u "java/util/ImmutableCollections$SetN"), (5, u "EMPTY_SET"), (0, u "Ljava/util/ImmutableCollections$SetN;"), (0, .class_ 121), (0, u "java/util/ImmutableCollections$MapN"), (3, u "EMPTY_MAP"), (0, u "Ljava/util/ImmutableCollections$MapN;"), (4, u "EXPAND_FACTOR"), (0, u "I"), (9, u "listCopy"), (0, u "(Ljava/util/Collection;)Ljava/util/List;"), (7, u "listFromArray"), (17, .class_ 170), (0, u "java/util/ImmutableCollections$MapN$MapNIterator"), (0, .class_ 172), (0, u "java/util/ImmutableCollections$MapN$1"), (0, .class_ 174), (0, u "java/util/ImmutableCollections$Map1"), (0, .class_ 176), (0, u "java/util/ImmutableCollections$AbstractImmutableMap"), (0, .class_ 178), (0, u "java/util/ImmutableCollections$SetN$SetNIterator"), (0, .class_ 180), (0, u "java/util/ImmutableCollections$Set12"), (0, .class_ 182), (0, u "java/util/ImmutableCollections$Set12$1"), (0, .class_ 184), (0, u "java/util/ImmutableCollections$AbstractImmutableSet"), (0, .class_ 186), (0, u "java/util/ImmutableCollections$SubList"), (0, .class_ 188), (0, u "java/util/ImmutableCollections$ListItr"), (0, .class_ 190), (0, u "java/util/ImmutableCollections$AbstractImmutableList"), (0, .class_ 192), (0, u "java/util/ImmutableCollections$AbstractImmutableCollection"), (0, .class_ 194), (0, u "java/util/ImmutableCollections$Access"), (0, .class_ 196), (0, u "java/util/ImmutableCollections$Access$1")] 16

def k25m0 : Method := { name := "<init>", desc := "()V", sig := { parameters := [], returnType := none }, accessFlags := 2, code := none }
def k25c1 : Code := { maxStack := 1, maxLocals := 2, code := jdk_56_method_3_code, exceptionTable := #[], attributes := #[] }
def k25m1 : Method := { name := "listCopy", desc := "(Ljava/util/Collection;)Ljava/util/List;", sig := { parameters := [(.object "java/util/Collection")], returnType := some (.object "java/util/List") }, accessFlags := 8, code := some k25c1 }
def k25c2 : Code := { maxStack := 4, maxLocals := 3, code := jdk_56_method_4_code, exceptionTable := #[], attributes := #[] }
def k25m2 : Method := { name := "listFromArray", desc := "([Ljava/lang/Object;)Ljava/util/List;", sig := { parameters := [(.array (.object "java/lang/Object"))], returnType := some (.object "java/util/List") }, accessFlags := 136, code := some k25c2 }
def k25 : Class := { plain "java/util/ImmutableCollections" (some 0) with
  accessFlags := 32
  interfaces := #[]
  cf := some (fileOf pool25 47 #[.nestMembers #[120, 169, 171, 173, 175, 111, 177, 179, 181, 183, 12, 10, 185, 187, 189, 191, 193, 195]] #[{ accessFlags := 2, nameIndex := 5, descriptorIndex := 6, attributes := #[] }, { accessFlags := 8, nameIndex := 142, descriptorIndex := 143, attributes := #[] }, { accessFlags := 136, nameIndex := 151, descriptorIndex := 36, attributes := #[] }] 32 2 #[] #[{ accessFlags := 26, nameIndex := 95, descriptorIndex := 96, attributes := #[] }, { accessFlags := 26, nameIndex := 99, descriptorIndex := 17, attributes := #[] }, { accessFlags := 10, nameIndex := 106, descriptorIndex := 56, attributes := #[] }, { accessFlags := 26, nameIndex := 109, descriptorIndex := 110, attributes := #[] }, { accessFlags := 24, nameIndex := 62, descriptorIndex := 63, attributes := #[] }, { accessFlags := 24, nameIndex := 72, descriptorIndex := 63, attributes := #[] }, { accessFlags := 24, nameIndex := 118, descriptorIndex := 119, attributes := #[] }, { accessFlags := 24, nameIndex := 125, descriptorIndex := 126, attributes := #[] }, { accessFlags := 24, nameIndex := 131, descriptorIndex := 132, attributes := #[] }, { accessFlags := 4120, nameIndex := 50, descriptorIndex := 17, attributes := #[] }])
  fields := #[{ name := "SALT32L", type := .long, accessFlags := 26, slot := 0, constantValue := 0 }, { name := "REVERSE", type := .boolean, accessFlags := 26, slot := 1, constantValue := 0 }, { name := "archivedObjects", type := (.array (.object "java/lang/Object")), accessFlags := 10, slot := 2, constantValue := 0 }, { name := "EMPTY", type := (.object "java/lang/Object"), accessFlags := 26, slot := 3, constantValue := 0 }, { name := "EMPTY_LIST", type := (.object "java/util/ImmutableCollections$ListN"), accessFlags := 24, slot := 4, constantValue := 0 }, { name := "EMPTY_LIST_NULLS", type := (.object "java/util/ImmutableCollections$ListN"), accessFlags := 24, slot := 5, constantValue := 0 }, { name := "EMPTY_SET", type := (.object "java/util/ImmutableCollections$SetN"), accessFlags := 24, slot := 6, constantValue := 0 }, { name := "EMPTY_MAP", type := (.object "java/util/ImmutableCollections$MapN"), accessFlags := 24, slot := 7, constantValue := 0 }, { name := "EXPAND_FACTOR", type := .int, accessFlags := 24, slot := 8, constantValue := 0 }, { name := "$assertionsDisabled", type := .boolean, accessFlags := 4120, slot := 9, constantValue := 0 }]
  methods := #[k25m0, k25m1, k25m2]
  instanceTypes := #[]
  staticTypes := #[.long, .boolean, (.array (.object "java/lang/Object")), (.object "java/lang/Object"), (.object "java/util/ImmutableCollections$ListN"), (.object "java/util/ImmutableCollections$ListN"), (.object "java/util/ImmutableCollections$SetN"), (.object "java/util/ImmutableCollections$MapN"), .int, .boolean]
  resolved := Array.replicate 213 none
  statics := some 3 }

def pool26 : Array CpInfo := pool [(1, .methodref 2 3), (0, .class_ 4), (0, .nameAndType 5 6), (0, u "java/util/AbstractCollection"), (0, u "<init>"), (0, u "()V"), (1, .class_ 10), (1, u "java/util/ImmutableCollections"), (2, .class_ 14), (0, u "java/util/ImmutableCollections$AbstractImmutableCollection")] 41

def k26c0 : Code := { maxStack := 1, maxLocals := 1, code := jdk_47_method_1_code, exceptionTable := #[], attributes := #[] }
def k26m0 : Method := { name := "<init>", desc := "()V", sig := { parameters := [], returnType := none }, accessFlags := 0, code := some k26c0 }
def k26 : Class := { plain "java/util/ImmutableCollections$AbstractImmutableCollection" (some 18) with
  accessFlags := 1056
  interfaces := #[]
  cf := some (fileOf pool26 13 #[.nestHost 8] #[{ accessFlags := 0, nameIndex := 5, descriptorIndex := 6, attributes := #[] }] 1056 2 #[] #[])
  fields := #[]
  methods := #[k26m0]
  instanceTypes := #[]
  staticTypes := #[]
  resolved := Array.replicate 56 none
  statics := none }

def pool27 : Array CpInfo := pool [(1, .methodref 2 3), (0, .class_ 4), (0, .nameAndType 5 6), (0, u "java/util/ImmutableCollections$AbstractImmutableCollection"), (0, u "<init>"), (0, u "()V"), (1, .class_ 10), (1, u "java/util/ImmutableCollections"), (3, .class_ 16), (1, u "java/util/ImmutableCollections$AbstractImmutableList"), (60, .class_ 78), (0, u "java/util/List"), (45, .class_ 125), (0, u "java/util/RandomAccess")] 70

def k27c0 : Code := { maxStack := 1, maxLocals := 1, code := jdk_46_method_1_code, exceptionTable := #[], attributes := #[] }
def k27m0 : Method := { name := "<init>", desc := "()V", sig := { parameters := [], returnType := none }, accessFlags := 0, code := some k27c0 }
def k27 : Class := { plain "java/util/ImmutableCollections$AbstractImmutableList" (some 26) with
  accessFlags := 1056
  interfaces := #[20, 22]
  cf := some (fileOf pool27 14 #[.nestHost 8] #[{ accessFlags := 0, nameIndex := 5, descriptorIndex := 6, attributes := #[] }] 1056 2 #[77, 124] #[])
  fields := #[]
  methods := #[k27m0]
  instanceTypes := #[]
  staticTypes := #[]
  resolved := Array.replicate 196 none
  statics := none }

def pool28 : Array CpInfo := pool [(1, .methodref 2 3), (0, .class_ 4), (0, .nameAndType 5 6), (0, u "java/util/ImmutableCollections$AbstractImmutableList"), (0, u "<init>"), (0, u "()V"), (0, .methodref 8 9), (0, .class_ 10), (0, .nameAndType 11 12), (0, u "java/util/Objects"), (0, u "requireNonNull"), (0, u "(Ljava/lang/Object;)Ljava/lang/Object;"), (0, .fieldref 14 15), (0, .class_ 16), (0, .nameAndType 17 18), (0, u "java/util/ImmutableCollections$List12"), (0, u "e0"), (0, u "Ljava/lang/Object;"), (0, .fieldref 20 21), (0, .class_ 22), (0, .nameAndType 23 18), (0, u "java/util/ImmutableCollections"), (0, u "EMPTY"), (0, .fieldref 14 25), (0, .nameAndType 26 18), (0, u "e1"), (24, u "size"), (0, u "()I"), (17, .class_ 71), (0, u "java/io/Serializable"), (4, u "(Ljava/lang/Object;)V"), (8, u "(Ljava/lang/Object;Ljava/lang/Object;)V"), (2, u "isEmpty"), (0, u "()Z"), (0, u "get"), (0, u "(I)Ljava/lang/Object;")] 33

def k28c0 : Code := { maxStack := 2, maxLocals := 2, code := jdk_44_method_1_code, exceptionTable := #[], attributes := #[] }
def k28m0 : Method := { name := "<init>", desc := "(Ljava/lang/Object;)V", sig := { parameters := [(.object "java/lang/Object")], returnType := none }, accessFlags := 0, code := some k28c0 }
def k28c1 : Code := { maxStack := 2, maxLocals := 3, code := jdk_44_method_2_code, exceptionTable := #[], attributes := #[] }
def k28m1 : Method := { name := "<init>", desc := "(Ljava/lang/Object;Ljava/lang/Object;)V", sig := { parameters := [(.object "java/lang/Object"), (.object "java/lang/Object")], returnType := none }, accessFlags := 0, code := some k28c1 }
def k28c2 : Code := { maxStack := 2, maxLocals := 1, code := jdk_44_method_3_code, exceptionTable := #[], attributes := #[] }
def k28m2 : Method := { name := "size", desc := "()I", sig := { parameters := [], returnType := some .int }, accessFlags := 1, code := some k28c2 }
def k28c3 : Code := { maxStack := 1, maxLocals := 1, code := jdk_44_method_4_code, exceptionTable := #[], attributes := #[] }
def k28m3 : Method := { name := "isEmpty", desc := "()Z", sig := { parameters := [], returnType := some .boolean }, accessFlags := 1, code := some k28c3 }
def k28c4 : Code := { maxStack := 2, maxLocals := 2, code := jdk_44_method_5_code, exceptionTable := #[], attributes := #[] }
def k28m4 : Method := { name := "get", desc := "(I)Ljava/lang/Object;", sig := { parameters := [.int], returnType := some (.object "java/lang/Object") }, accessFlags := 1, code := some k28c4 }
def k28 : Class := { plain "java/util/ImmutableCollections$List12" (some 27) with
  accessFlags := 48
  interfaces := #[4]
  cf := some (fileOf pool28 14 #[.nestHost 20] #[{ accessFlags := 0, nameIndex := 5, descriptorIndex := 76, attributes := #[] }, { accessFlags := 0, nameIndex := 5, descriptorIndex := 85, attributes := #[] }, { accessFlags := 1, nameIndex := 51, descriptorIndex := 52, attributes := #[] }, { accessFlags := 1, nameIndex := 88, descriptorIndex := 89, attributes := #[] }, { accessFlags := 1, nameIndex := 90, descriptorIndex := 91, attributes := #[] }] 48 2 #[70] #[{ accessFlags := 18, nameIndex := 17, descriptorIndex := 18, attributes := #[] }, { accessFlags := 18, nameIndex := 26, descriptorIndex := 18, attributes := #[] }])
  fields := #[{ name := "e0", type := (.object "java/lang/Object"), accessFlags := 18, slot := 0, constantValue := 0 }, { name := "e1", type := (.object "java/lang/Object"), accessFlags := 18, slot := 1, constantValue := 0 }]
  methods := #[k28m0, k28m1, k28m2, k28m3, k28m4]
  instanceTypes := #[(.object "java/lang/Object"), (.object "java/lang/Object")]
  staticTypes := #[]
  resolved := Array.replicate 125 none
  statics := none }

def pool29 : Array CpInfo := pool [(1, .methodref 2 3), (0, .class_ 4), (0, .nameAndType 5 6), (0, u "java/util/ImmutableCollections$AbstractImmutableList"), (0, u "<init>"), (0, u "()V"), (0, .fieldref 8 9), (0, .class_ 10), (0, .nameAndType 11 12), (0, u "java/util/ImmutableCollections$ListN"), (0, u "elements"), (0, u "[Ljava/lang/Object;"), (0, .fieldref 8 14), (0, .nameAndType 15 16), (0, u "allowNulls"), (0, u "Z"), (42, .class_ 60), (0, u "java/io/Serializable"), (4, u "([Ljava/lang/Object;Z)V"), (8, u "isEmpty"), (0, u "()Z"), (1, u "size"), (0, u "()I"), (0, u "get"), (0, u "(I)Ljava/lang/Object;"), (33, .class_ 115), (0, u "java/util/ImmutableCollections")] 3

def k29c0 : Code := { maxStack := 2, maxLocals := 3, code := jdk_45_method_1_code, exceptionTable := #[], attributes := #[] }
def k29m0 : Method := { name := "<init>", desc := "([Ljava/lang/Object;Z)V", sig := { parameters := [(.array (.object "java/lang/Object")), .boolean], returnType := none }, accessFlags := 2, code := some k29c0 }
def k29c1 : Code := { maxStack := 1, maxLocals := 1, code := jdk_45_method_2_code, exceptionTable := #[], attributes := #[] }
def k29m1 : Method := { name := "isEmpty", desc := "()Z", sig := { parameters := [], returnType := some .boolean }, accessFlags := 1, code := some k29c1 }
def k29c2 : Code := { maxStack := 1, maxLocals := 1, code := jdk_45_method_3_code, exceptionTable := #[], attributes := #[] }
def k29m2 : Method := { name := "size", desc := "()I", sig := { parameters := [], returnType := some .int }, accessFlags := 1, code := some k29c2 }
def k29c3 : Code := { maxStack := 2, maxLocals := 2, code := jdk_45_method_4_code, exceptionTable := #[], attributes := #[] }
def k29m3 : Method := { name := "get", desc := "(I)Ljava/lang/Object;", sig := { parameters := [.int], returnType := some (.object "java/lang/Object") }, accessFlags := 1, code := some k29c3 }
def k29 : Class := { plain "java/util/ImmutableCollections$ListN" (some 27) with
  accessFlags := 48
  interfaces := #[4]
  cf := some (fileOf pool29 8 #[.nestHost 114] #[{ accessFlags := 2, nameIndex := 5, descriptorIndex := 65, attributes := #[] }, { accessFlags := 1, nameIndex := 74, descriptorIndex := 75, attributes := #[] }, { accessFlags := 1, nameIndex := 77, descriptorIndex := 78, attributes := #[] }, { accessFlags := 1, nameIndex := 79, descriptorIndex := 80, attributes := #[] }] 48 2 #[59] #[{ accessFlags := 18, nameIndex := 11, descriptorIndex := 12, attributes := #[] }, { accessFlags := 18, nameIndex := 15, descriptorIndex := 16, attributes := #[] }])
  fields := #[{ name := "elements", type := (.array (.object "java/lang/Object")), accessFlags := 18, slot := 0, constantValue := 0 }, { name := "allowNulls", type := .boolean, accessFlags := 18, slot := 1, constantValue := 0 }]
  methods := #[k29m0, k29m1, k29m2, k29m3]
  instanceTypes := #[(.array (.object "java/lang/Object")), .boolean]
  staticTypes := #[]
  resolved := Array.replicate 119 none
  statics := none }

def pool30 : Array CpInfo := pool [(2, .class_ 4), (1, u "java/lang/Object"), (0, u "<init>"), (0, u "()V"), (7, .class_ 16), (1, u "java/util/Arrays"), (57, .class_ 76), (1, u "java/util/Arrays$NaturalOrder"), (9, .methodref 2 87), (0, .nameAndType 88 89), (0, u "getClass"), (0, u "()Ljava/lang/Class;"), (20, .class_ 111), (0, u "[Ljava/lang/Object;"), (1, .class_ 115), (1, u "java/util/Arrays$LegacyMergeSort"), (1, u "Z"), (32, .methodref 151 152), (0, .class_ 153), (0, .nameAndType 154 155), (0, u "java/lang/System"), (0, u "arraycopy"), (0, u "(Ljava/lang/Object;ILjava/lang/Object;II)V"), (144, .methodref 14 301), (0, .nameAndType 302 303), (0, u "copyOf"), (0, u "([Ljava/lang/Object;ILjava/lang/Class;)[Ljava/lang/Object;"), (0, .methodref 305 306), (0, .class_ 307), (0, .nameAndType 308 309), (0, u "java/lang/Math"), (0, u "min"), (0, u "(II)I"), (65, .class_ 376), (0, u "java/util/Arrays$ArrayList"), (68, u "$assertionsDisabled"), (269, u "MIN_ARRAY_SORT_GRAN"), (0, u "I"), (2, u "INSERTIONSORT_THRESHOLD"), (140, u "([Ljava/lang/Object;I)[Ljava/lang/Object;"), (114, .class_ 976), (0, u "java/util/Arrays$ArrayItr")] 52

def k30m0 : Method := { name := "<init>", desc := "()V", sig := { parameters := [], returnType := none }, accessFlags := 2, code := none }
def k30c1 : Code := { maxStack := 3, maxLocals := 2, code := jdk_65_method_119_code, exceptionTable := #[], attributes := #[] }
def k30m1 : Method := { name := "copyOf", desc := "([Ljava/lang/Object;I)[Ljava/lang/Object;", sig := { parameters := [(.array (.object "java/lang/Object")), .int], returnType := some (.array (.object "java/lang/Object")) }, accessFlags := 9, code := some k30c1 }
def k30c2 : Code := { maxStack := 6, maxLocals := 4, code := jdk_65_method_120_code, exceptionTable := #[], attributes := #[] }
def k30m2 : Method := { name := "copyOf", desc := "([Ljava/lang/Object;ILjava/lang/Class;)[Ljava/lang/Object;", sig := { parameters := [(.array (.object "java/lang/Object")), .int, (.object "java/lang/Class")], returnType := some (.array (.object "java/lang/Object")) }, accessFlags := 9, code := some k30c2 }
def k30 : Class := { plain "java/util/Arrays" (some 0) with
  accessFlags := 49
  interfaces := #[]
  cf := some (fileOf pool30 14 #[.nestMembers #[975, 375, 113, 74]] #[{ accessFlags := 2, nameIndex := 5, descriptorIndex := 6, attributes := #[] }, { accessFlags := 9, nameIndex := 302, descriptorIndex := 860, attributes := #[] }, { accessFlags := 9, nameIndex := 302, descriptorIndex := 303, attributes := #[] }] 49 2 #[] #[{ accessFlags := 26, nameIndex := 715, descriptorIndex := 716, attributes := #[] }, { accessFlags := 26, nameIndex := 719, descriptorIndex := 716, attributes := #[] }, { accessFlags := 4120, nameIndex := 445, descriptorIndex := 117, attributes := #[] }])
  fields := #[{ name := "MIN_ARRAY_SORT_GRAN", type := .int, accessFlags := 26, slot := 0, constantValue := 0 }, { name := "INSERTIONSORT_THRESHOLD", type := .int, accessFlags := 26, slot := 1, constantValue := 0 }, { name := "$assertionsDisabled", type := .boolean, accessFlags := 4120, slot := 2, constantValue := 0 }]
  methods := #[k30m0, k30m1, k30m2]
  instanceTypes := #[]
  staticTypes := #[.int, .int, .boolean]
  resolved := Array.replicate 1029 none
  statics := none }

def pool31 : Array CpInfo := pool [(2, .class_ 4), (1, u "java/lang/Object"), (0, u "<init>"), (0, u "()V"), (1, .class_ 10), (1, u "java/lang/System"), (0, u "allowSecurityManager"), (0, u "I"), (16, u "cons"), (0, u "Ljava/io/Console;"), (77, .class_ 110), (1, u "java/lang/System$CallersHolder"), (43, u "initialErrStream"), (0, u "Ljava/io/PrintStream;"), (19, u "security"), (0, u "Ljava/lang/SecurityManager;"), (31, .class_ 209), (0, u "java/lang/System$1"), (7, u "props"), (0, u "Ljava/util/Properties;"), (2, u "lineSeparator"), (0, u "Ljava/lang/String;"), (96, .class_ 321), (1, u "java/lang/System$LoggerFinder"), (5, .class_ 328), (0, u "java/lang/System$Logger"), (67, u "err"), (2, u "out"), (91, u "notSupportedJnuEncoding"), (15, u "in"), (17, u "initialIn"), (0, u "Ljava/io/InputStream;"), (35, u "bootLayer"), (0, u "Ljava/lang/ModuleLayer;"), (99, .class_ 664), (0, u "java/lang/System$2"), (9, u "NEVER"), (2, u "MAYBE"), (49, u "arraycopy"), (0, u "(Ljava/lang/Object;ILjava/lang/Object;II)V"), (72, .class_ 802), (0, u "java/lang/System$Logger$Level")] 31

def k31m0 : Method := { name := "<init>", desc := "()V", sig := { parameters := [], returnType := none }, accessFlags := 2, code := none }
def k31m1 : Method := { name := "arraycopy", desc := "(Ljava/lang/Object;ILjava/lang/Object;II)V", sig := { parameters := [(.object "java/lang/Object"), .int, (.object "java/lang/Object"), .int, .int], returnType := none }, accessFlags := 265, code := none }
def k31 : Class := { plain "java/lang/System" (some 0) with
  accessFlags := 49
  interfaces := #[]
  cf := some (fileOf pool31 8 #[.nestMembers #[319, 327, 801, 108, 663, 208]] #[{ accessFlags := 2, nameIndex := 5, descriptorIndex := 6, attributes := #[] }, { accessFlags := 265, nameIndex := 727, descriptorIndex := 728, attributes := #[] }] 49 2 #[] #[{ accessFlags := 25, nameIndex := 507, descriptorIndex := 526, attributes := #[] }, { accessFlags := 25, nameIndex := 399, descriptorIndex := 155, attributes := #[] }, { accessFlags := 25, nameIndex := 396, descriptorIndex := 155, attributes := #[] }, { accessFlags := 10, nameIndex := 525, descriptorIndex := 526, attributes := #[] }, { accessFlags := 26, nameIndex := 674, descriptorIndex := 12, attributes := #[] }, { accessFlags := 26, nameIndex := 677, descriptorIndex := 12, attributes := #[] }, { accessFlags := 10, nameIndex := 11, descriptorIndex := 12, attributes := #[] }, { accessFlags := 74, nameIndex := 175, descriptorIndex := 176, attributes := #[] }, { accessFlags := 10, nameIndex := 491, descriptorIndex := 222, attributes := #[] }, { accessFlags := 74, nameIndex := 29, descriptorIndex := 30, attributes := #[] }, { accessFlags := 74, nameIndex := 154, descriptorIndex := 155, attributes := #[] }, { accessFlags := 10, nameIndex := 217, descriptorIndex := 218, attributes := #[] }, { accessFlags := 10, nameIndex := 221, descriptorIndex := 222, attributes := #[] }, { accessFlags := 8, nameIndex := 562, descriptorIndex := 563, attributes := #[] }])
  fields := #[{ name := "in", type := (.object "java/io/InputStream"), accessFlags := 25, slot := 0, constantValue := 0 }, { name := "out", type := (.object "java/io/PrintStream"), accessFlags := 25, slot := 1, constantValue := 0 }, { name := "err", type := (.object "java/io/PrintStream"), accessFlags := 25, slot := 2, constantValue := 0 }, { name := "initialIn", type := (.object "java/io/InputStream"), accessFlags := 10, slot := 3, constantValue := 0 }, { name := "NEVER", type := .int, accessFlags := 26, slot := 4, constantValue := 0 }, { name := "MAYBE", type := .int, accessFlags := 26, slot := 5, constantValue := 0 }, { name := "allowSecurityManager", type := .int, accessFlags := 10, slot := 6, constantValue := 0 }, { name := "security", type := (.object "java/lang/SecurityManager"), accessFlags := 74, slot := 7, constantValue := 0 }, { name := "notSupportedJnuEncoding", type := (.object "java/lang/String"), accessFlags := 10, slot := 8, constantValue := 0 }, { name := "cons", type := (.object "java/io/Console"), accessFlags := 74, slot := 9, constantValue := 0 }, { name := "initialErrStream", type := (.object "java/io/PrintStream"), accessFlags := 74, slot := 10, constantValue := 0 }, { name := "props", type := (.object "java/util/Properties"), accessFlags := 10, slot := 11, constantValue := 0 }, { name := "lineSeparator", type := (.object "java/lang/String"), accessFlags := 10, slot := 12, constantValue := 0 }, { name := "bootLayer", type := (.object "java/lang/ModuleLayer"), accessFlags := 8, slot := 13, constantValue := 0 }]
  methods := #[k31m0, k31m1]
  instanceTypes := #[]
  staticTypes := #[(.object "java/io/InputStream"), (.object "java/io/PrintStream"), (.object "java/io/PrintStream"), (.object "java/io/InputStream"), .int, .int, .int, (.object "java/lang/SecurityManager"), (.object "java/lang/String"), (.object "java/io/Console"), (.object "java/io/PrintStream"), (.object "java/util/Properties"), (.object "java/lang/String"), (.object "java/lang/ModuleLayer")]
  resolved := Array.replicate 834 none
  statics := none }

def pool32 : Array CpInfo := pool [(6, .class_ 8), (1, u "java/lang/Object"), (0, u "<init>"), (0, u "()V"), (1, .class_ 14), (1, u "java/lang/StringUTF16"), (31, u "$assertionsDisabled"), (0, u "Z"), (13, u "HI_BYTE_SHIFT"), (0, u "I"), (2, u "LO_BYTE_SHIFT"), (49, .methodref 12 116), (0, .nameAndType 117 118), (0, u "compress"), (0, u "([CI[BII)I"), (3, u "([CII)[B"), (138, u "coderFromArrayLen"), (0, u "([BI)B"), (106, .class_ 371), (1, u "java/lang/StringUTF16$LinesSpliterator"), (58, u "MAX_LENGTH"), (196, .class_ 628), (0, u "java/lang/StringUTF16$CodePointsSpliterator"), (0, .class_ 630), (0, u "java/lang/StringUTF16$CharsSpliterator")] 4

def k32m0 : Method := { name := "<init>", desc := "()V", sig := { parameters := [], returnType := none }, accessFlags := 0, code := none }
def k32c1 : Code := { maxStack := 2, maxLocals := 2, code := jdk_52_method_15_code, exceptionTable := #[], attributes := #[] }
def k32m1 : Method := { name := "coderFromArrayLen", desc := "([BI)B", sig := { parameters := [(.array .byte), .int], returnType := some .byte }, accessFlags := 8, code := some k32c1 }
def k32c2 : Code := { maxStack := 5, maxLocals := 6, code := jdk_52_method_16_code, exceptionTable := #[], attributes := #[] }
def k32m2 : Method := { name := "compress", desc := "([CII)[B", sig := { parameters := [(.array .char), .int, .int], returnType := some (.array .byte) }, accessFlags := 9, code := some k32c2 }
def k32c3 : Code := { maxStack := 3, maxLocals := 7, code := jdk_52_method_21_code, exceptionTable := #[], attributes := #[] }
def k32m3 : Method := { name := "compress", desc := "([CI[BII)I", sig := { parameters := [(.array .char), .int, (.array .byte), .int, .int], returnType := some .int }, accessFlags := 9, code := some k32c3 }
def k32 : Class := { plain "java/lang/StringUTF16" (some 0) with
  accessFlags := 48
  interfaces := #[]
  cf := some (fileOf pool32 12 #[.nestMembers #[627, 629, 369]] #[{ accessFlags := 0, nameIndex := 9, descriptorIndex := 10, attributes := #[] }, { accessFlags := 8, nameIndex := 261, descriptorIndex := 262, attributes := #[] }, { accessFlags := 9, nameIndex := 117, descriptorIndex := 122, attributes := #[] }, { accessFlags := 9, nameIndex := 117, descriptorIndex := 118, attributes := #[] }] 48 6 #[] #[{ accessFlags := 26, nameIndex := 61, descriptorIndex := 62, attributes := #[] }, { accessFlags := 26, nameIndex := 65, descriptorIndex := 62, attributes := #[] }, { accessFlags := 24, nameIndex := 430, descriptorIndex := 62, attributes := #[] }, { accessFlags := 4120, nameIndex := 46, descriptorIndex := 47, attributes := #[] }])
  fields := #[{ name := "HI_BYTE_SHIFT", type := .int, accessFlags := 26, slot := 0, constantValue := 0 }, { name := "LO_BYTE_SHIFT", type := .int, accessFlags := 26, slot := 1, constantValue := 0 }, { name := "MAX_LENGTH", type := .int, accessFlags := 24, slot := 2, constantValue := 0 }, { name := "$assertionsDisabled", type := .boolean, accessFlags := 4120, slot := 3, constantValue := 0 }]
  methods := #[k32m0, k32m1, k32m2, k32m3]
  instanceTypes := #[]
  staticTypes := #[.int, .int, .int, .boolean]
  resolved := Array.replicate 635 none
  statics := none }

def pool33 : Array CpInfo := pool [(2, .class_ 4), (1, u "java/lang/Object"), (0, u "<init>"), (0, u "()V"), (17, .class_ 26), (1, u "jdk/internal/util/Preconditions"), (28, .class_ 56), (0, u "jdk/internal/util/Preconditions$4"), (57, .class_ 115), (0, u "jdk/internal/util/Preconditions$1"), (7, u "SIOOBE_FORMATTER"), (0, u "Ljava/util/function/BiFunction;"), (0, .class_ 126), (0, u "jdk/internal/util/Preconditions$2"), (3, u "AIOOBE_FORMATTER"), (0, .class_ 132), (0, u "jdk/internal/util/Preconditions$3"), (3, u "IOOBE_FORMATTER")] 57

def k33m0 : Method := { name := "<init>", desc := "()V", sig := { parameters := [], returnType := none }, accessFlags := 1, code := none }
def k33 : Class := { plain "jdk/internal/util/Preconditions" (some 0) with
  accessFlags := 33
  interfaces := #[]
  cf := some (fileOf pool33 24 #[.nestMembers #[55, 131, 125, 114]] #[{ accessFlags := 1, nameIndex := 5, descriptorIndex := 6, attributes := #[] }] 33 2 #[] #[{ accessFlags := 25, nameIndex := 123, descriptorIndex := 124, attributes := #[] }, { accessFlags := 25, nameIndex := 130, descriptorIndex := 124, attributes := #[] }, { accessFlags := 25, nameIndex := 136, descriptorIndex := 124, attributes := #[] }])
  fields := #[{ name := "SIOOBE_FORMATTER", type := (.object "java/util/function/BiFunction"), accessFlags := 25, slot := 0, constantValue := 0 }, { name := "AIOOBE_FORMATTER", type := (.object "java/util/function/BiFunction"), accessFlags := 25, slot := 1, constantValue := 0 }, { name := "IOOBE_FORMATTER", type := (.object "java/util/function/BiFunction"), accessFlags := 25, slot := 2, constantValue := 0 }]
  methods := #[k33m0]
  instanceTypes := #[]
  staticTypes := #[(.object "java/util/function/BiFunction"), (.object "java/util/function/BiFunction"), (.object "java/util/function/BiFunction")]
  resolved := Array.replicate 194 none
  statics := some 4 }

def pool34 : Array CpInfo := pool [(9, u "<init>"), (6, .class_ 18), (1, u "java/lang/Object"), (0, u "()V"), (1, .class_ 23), (1, u "jdk/internal/util/ArraysSupport"), (0, u "LOG2_ARRAY_LONG_INDEX_SCALE"), (0, u "I"), (2, u "U"), (0, u "Ljdk/internal/misc/Unsafe;"), (8, u "BIG_ENDIAN"), (0, u "Z"), (8, u "LOG2_BYTE_BIT_SIZE"), (4, u "LOG2_ARRAY_INT_INDEX_SCALE"), (54, u "JLA"), (0, u "Ljdk/internal/access/JavaLangAccess;"), (11, u "LOG2_ARRAY_BOOLEAN_INDEX_SCALE"), (9, u "LOG2_ARRAY_BYTE_INDEX_SCALE"), (5, u "LOG2_ARRAY_CHAR_INDEX_SCALE"), (5, u "LOG2_ARRAY_SHORT_INDEX_SCALE"), (18, u "LOG2_ARRAY_FLOAT_INDEX_SCALE"), (24, u "LOG2_ARRAY_DOUBLE_INDEX_SCALE"), (89, u "T_BOOLEAN"), (2, u "T_CHAR"), (1, u "T_FLOAT"), (1, u "T_DOUBLE"), (1, u "T_BYTE"), (1, u "T_SHORT"), (1, u "T_INT"), (1, u "T_LONG"), (1, u "SOFT_MAX_ARRAY_LENGTH")] 83

def k34m0 : Method := { name := "<init>", desc := "()V", sig := { parameters := [], returnType := none }, accessFlags := 2, code := none }
def k34 : Class := { plain "jdk/internal/util/ArraysSupport" (some 0) with
  accessFlags := 33
  interfaces := #[]
  cf := some (fileOf pool34 21 #[] #[{ accessFlags := 2, nameIndex := 9, descriptorIndex := 19, attributes := #[] }] 33 16 #[] #[{ accessFlags := 24, nameIndex := 28, descriptorIndex := 29, attributes := #[] }, { accessFlags := 26, nameIndex := 38, descriptorIndex := 39, attributes := #[] }, { accessFlags := 25, nameIndex := 121, descriptorIndex := 25, attributes := #[] }, { accessFlags := 25, nameIndex := 131, descriptorIndex := 25, attributes := #[] }, { accessFlags := 25, nameIndex := 137, descriptorIndex := 25, attributes := #[] }, { accessFlags := 25, nameIndex := 143, descriptorIndex := 25, attributes := #[] }, { accessFlags := 25, nameIndex := 53, descriptorIndex := 25, attributes := #[] }, { accessFlags := 25, nameIndex := 24, descriptorIndex := 25, attributes := #[] }, { accessFlags := 25, nameIndex := 162, descriptorIndex := 25, attributes := #[] }, { accessFlags := 25, nameIndex := 187, descriptorIndex := 25, attributes := #[] }, { accessFlags := 26, nameIndex := 48, descriptorIndex := 25, attributes := #[] }, { accessFlags := 25, nameIndex := 277, descriptorIndex := 25, attributes := #[] }, { accessFlags := 25, nameIndex := 280, descriptorIndex := 25, attributes := #[] }, { accessFlags := 25, nameIndex := 282, descriptorIndex := 25, attributes := #[] }, { accessFlags := 25, nameIndex := 284, descriptorIndex := 25, attributes := #[] }, { accessFlags := 25, nameIndex := 286, descriptorIndex := 25, attributes := #[] }, { accessFlags := 25, nameIndex := 288, descriptorIndex := 25, attributes := #[] }, { accessFlags := 25, nameIndex := 290, descriptorIndex := 25, attributes := #[] }, { accessFlags := 25, nameIndex := 292, descriptorIndex := 25, attributes := #[] }, { accessFlags := 26, nameIndex := 108, descriptorIndex := 109, attributes := #[] }, { accessFlags := 25, nameIndex := 294, descriptorIndex := 25, attributes := #[] }])
  fields := #[{ name := "U", type := (.object "jdk/internal/misc/Unsafe"), accessFlags := 24, slot := 0, constantValue := 0 }, { name := "BIG_ENDIAN", type := .boolean, accessFlags := 26, slot := 1, constantValue := 0 }, { name := "LOG2_ARRAY_BOOLEAN_INDEX_SCALE", type := .int, accessFlags := 25, slot := 2, constantValue := 0 }, { name := "LOG2_ARRAY_BYTE_INDEX_SCALE", type := .int, accessFlags := 25, slot := 3, constantValue := 0 }, { name := "LOG2_ARRAY_CHAR_INDEX_SCALE", type := .int, accessFlags := 25, slot := 4, constantValue := 0 }, { name := "LOG2_ARRAY_SHORT_INDEX_SCALE", type := .int, accessFlags := 25, slot := 5, constantValue := 0 }, { name := "LOG2_ARRAY_INT_INDEX_SCALE", type := .int, accessFlags := 25, slot := 6, constantValue := 0 }, { name := "LOG2_ARRAY_LONG_INDEX_SCALE", type := .int, accessFlags := 25, slot := 7, constantValue := 0 }, { name := "LOG2_ARRAY_FLOAT_INDEX_SCALE", type := .int, accessFlags := 25, slot := 8, constantValue := 0 }, { name := "LOG2_ARRAY_DOUBLE_INDEX_SCALE", type := .int, accessFlags := 25, slot := 9, constantValue := 0 }, { name := "LOG2_BYTE_BIT_SIZE", type := .int, accessFlags := 26, slot := 10, constantValue := 0 }, { name := "T_BOOLEAN", type := .int, accessFlags := 25, slot := 11, constantValue := 0 }, { name := "T_CHAR", type := .int, accessFlags := 25, slot := 12, constantValue := 0 }, { name := "T_FLOAT", type := .int, accessFlags := 25, slot := 13, constantValue := 0 }, { name := "T_DOUBLE", type := .int, accessFlags := 25, slot := 14, constantValue := 0 }, { name := "T_BYTE", type := .int, accessFlags := 25, slot := 15, constantValue := 0 }, { name := "T_SHORT", type := .int, accessFlags := 25, slot := 16, constantValue := 0 }, { name := "T_INT", type := .int, accessFlags := 25, slot := 17, constantValue := 0 }, { name := "T_LONG", type := .int, accessFlags := 25, slot := 18, constantValue := 0 }, { name := "JLA", type := (.object "jdk/internal/access/JavaLangAccess"), accessFlags := 26, slot := 19, constantValue := 0 }, { name := "SOFT_MAX_ARRAY_LENGTH", type := .int, accessFlags := 25, slot := 20, constantValue := 0 }]
  methods := #[k34m0]
  instanceTypes := #[]
  staticTypes := #[(.object "jdk/internal/misc/Unsafe"), .boolean, .int, .int, .int, .int, .int, .int, .int, .int, .int, .int, .int, .int, .int, .int, .int, .int, .int, (.object "jdk/internal/access/JavaLangAccess"), .int]
  resolved := Array.replicate 378 none
  statics := none }

def pool35 : Array CpInfo := pool [(1, u "java/lang/Class"), (0, .class_ 1), (0, u "java/lang/Object"), (0, .class_ 3)] 0

def k35 : Class := { plain "java/lang/Class" (some 0) with
  accessFlags := 49
  interfaces := #[]
  cf := some (fileOf pool35 2 #[] #[] 49 4 #[] #[])
  fields := #[]
  methods := #[]
  instanceTypes := #[]
  staticTypes := #[]
  resolved := Array.replicate 5 none
  statics := none }

def k36 : Class := { plain "byte" none with kind := .primitive 'B', accessFlags := 0x411 }
def k37 : Class := { plain "[B" (some 0) with kind := .array 36 .byte, interfaces := #[23, 4], accessFlags := 1041 }

def k38 : Class := { plain "char" none with kind := .primitive 'C', accessFlags := 0x411 }
def k39 : Class := { plain "[C" (some 0) with kind := .array 38 .char, interfaces := #[23, 4], accessFlags := 1041 }

def k40 : Class := { plain "int" none with kind := .primitive 'I', accessFlags := 0x411 }
def k41 : Class := { plain "[I" (some 0) with kind := .array 40 .int, interfaces := #[23, 4], accessFlags := 1041 }

def k42 : Class := { plain "[Ljava/lang/Object;" (some 0) with kind := .array 0 (.object "java/lang/Object"), interfaces := #[23, 4], accessFlags := 1041, mirror := some 5 }

def heap : Heap := #[{ cls := 9, slots := #[.long 0, .int 1, .null, .int 0, .null, .int 0, .int 0], vm := .statics 9 },
  { cls := 14, slots := #[.null, .null, .ref 7, .ref 8, .null], vm := .statics 14 },
  { cls := 24, slots := #[.long 0, .int 0, .ref 9, .ref 10], vm := .statics 24 },
  { cls := 25, slots := #[.long 0, .int 0, .null, .ref 11, .ref 12, .null, .null, .null, .int 0, .int 1], vm := .statics 25 },
  { cls := 33, slots := #[.null, .null, .null], vm := .statics 33 },
  { cls := 35, slots := #[], vm := .mirror 42 },
  { cls := 34, slots := #[], vm := .none },
  { cls := 14, slots := #[], vm := .none },
  { cls := 41, slots := #[.int 1207963663, .int 1207963663, .int 1207963663, .int 1207963663, .int 1207963663, .int 1207963663, .int 1207963663, .int 1207963663, .int 1207963663, .int 1476411407, .int 1342193679, .int 1476411407, .int 1610629135, .int 1342193679, .int 1207963663, .int 1207963663, .int 1207963663, .int 1207963663, .int 1207963663, .int 1207963663, .int 1207963663, .int 1207963663, .int 1207963663, .int 1207963663, .int 1207963663, .int 1207963663, .int 1207963663, .int 1207963663, .int 1342193679, .int 1342193679, .int 1342193679, .int 1476411407, .int 1610629132, .int 1744830488, .int 1744830488, .int 671088664, .int 671113242, .int 671088664, .int 1744830488, .int 1744830488, .int (-402653163), .int (-402653162), .int 1744830488, .int 536870937, .int 939524120, .int 536870932, .int 939524120, .int 939524120, .int 402667017, .int 402667017, .int 402667017, .int 402667017, .int 402667017, .int 402667017, .int 402667017, .int 402667017, .int 402667017, .int 402667017, .int 939524120, .int 1744830488, .int (-402653159), .int 1744830489, .int (-402653159), .int 1744830488, .int 1744830488, .int 8552417, .int 8552417, .int 8552417, .int 8552417, .int 8552417, .int 8552417, .int 8552417, .int 8552417, .int 8552417, .int 8552417, .int 8552417, .int 8552417, .int 8552417, .int 8552417, .int 8552417, .int 8552417, .int 8552417, .int 8552417, .int 8552417, .int 8552417, .int 8552417, .int 8552417, .int 8552417, .int 8552417, .int 8552417, .int 8552417, .int (-402653163), .int 1744830488, .int (-402653162), .int 1744830491, .int 1744850967, .int 1744830491, .int 8486882, .int 8486882, .int 8486882, .int 8486882, .int 8486882, .int 8486882, .int 8486882, .int 8486882, .int 8486882, .int 8486882, .int 8486882, .int 8486882, .int 8486882, .int 8486882, .int 8486882, .int 8486882, .int 8486882, .int 8486882, .int 8486882, .int 8486882, .int 8486882, .int 8486882, .int 8486882, .int 8486882, .int 8486882, .int 8486882, .int (-402653163), .int 1744830489, .int (-402653162), .int 1744830489, .int 1207963663, .int 1207963663, .int 1207963663, .int 1207963663, .int 1207963663, .int 1207963663, .int 1342181391, .int 1207963663, .int 1207963663, .int 1207963663, .int 1207963663, .int 1207963663, .int 1207963663, .int 1207963663, .int 1207963663, .int 1207963663, .int 1207963663, .int 1207963663, .int 1207963663, .int 1207963663, .int 1207963663, .int 1207963663, .int 1207963663, .int 1207963663, .int 1207963663, .int 1207963663, .int 1207963663, .int 1207963663, .int 1207963663, .int 1207963663, .int 1207963663, .int 1207963663, .int 1207963663, .int 939524108, .int 1744830488, .int 671113242, .int 671113242, .int 671113242, .int 671113242, .int 1744830492, .int 1744830488, .int 1744830491, .int 1744830492, .int 28677, .int (-402653155), .int 1744830489, .int 1207963664, .int 1744830492, .int 1744830491, .int 671088668, .int 671088665, .int 402654731, .int 402654731, .int 1744830491, .int 134049794, .int 1744830488, .int 1744830488, .int 1744830491, .int 402654475, .int 28677, .int (-402653154), .int 1744832523, .int 1744832523, .int 1744832523, .int 1744830488, .int 8548353, .int 8548353, .int 8548353, .int 8548353, .int 8548353, .int 8548353, .int 8548353, .int 8548353, .int 8548353, .int 8548353, .int 8548353, .int 8548353, .int 8548353, .int 8548353, .int 8548353, .int 8548353, .int 8548353, .int 8548353, .int 8548353, .int 8548353, .int 8548353, .int 8548353, .int 8548353, .int 1744830489, .int 8548353, .int 8548353, .int 8548353, .int 8548353, .int 8548353, .int 8548353, .int 8548353, .int 134049794, .int 8482818, .int 8482818, .int 8482818, .int 8482818, .int 8482818, .int 8482818, .int 8482818, .int 8482818, .int 8482818, .int 8482818, .int 8482818, .int 8482818, .int 8482818, .int 8482818, .int 8482818, .int 8482818, .int 8482818, .int 8482818, .int 8482818, .int 8482818, .int 8482818, .int 8482818, .int 8482818, .int 1744830489, .int 8482818, .int 8482818, .int 8482818, .int 8482818, .int 8482818, .int 8482818, .int 8482818, .int 102592514], vm := .none },
  { cls := 42, slots := #[], vm := .none },
  { cls := 42, slots := #[], vm := .none },
  { cls := 0, slots := #[], vm := .none },
  { cls := 29, slots := #[.null, .int 0], vm := .none }]
def classes : Array Class := #[k0, k1, k2, k3, k4, k5, k6, k7, k8, k9, k10, k11, k12, k13, k14, k15, k16, k17, k18, k19, k20, k21, k22, k23, k24, k25, k26, k27, k28, k29, k30, k31, k32, k33, k34, k35, k36, k37, k38, k39, k40, k41, k42]
def interned : List (Array UInt16 × Addr) := []
def slotsUsed : Nat := 287
def theMethod : MethodId := ⟨1, 6⟩
def args0 : Array Value := #[.int 1, .int 2, .int 3]
def aboutOver (below : List Frame) : State where
  vm := { classes := classes, interned := interned.toArray }
  heap := heap
  slotsUsed := slotsUsed
  threads := #[{ frames := .invoking theMethod args0 :: below }]
def below0 : List Frame := [.native { method := ⟨0, 0⟩, args := #[] }]
def about1 : State := aboutOver below0
def p0 : Program := .bare "" "" ""
def e0 : Env := launch0.env 0 0 0
theorem w_frames : about1.frames = Frame.invoking theMethod args0 :: below0 := rfl
set_option maxRecDepth 65536 in
theorem w_args : argsFit about1.vm theMethod args0 = true := by decide +kernel
set_option maxRecDepth 65536 in
theorem w_heap : heapFits about1 = true := by decide +kernel
set_option maxRecDepth 65536 in
theorem w_runnable : about1.curStatus? = some .runnable := by decide +kernel
set_option maxRecDepth 65536 in
theorem w_alone : about1.alone = true := by decide +kernel
set_option maxRecDepth 65536 in
theorem w_named : about1.methodNamed? x = some theMethod := by decide +kernel
set_option maxRecDepth 65536 in
theorem w_hears : about1.hears theMethod below0 = true := by decide +kernel
set_option maxRecDepth 65536 in
theorem w_ripe : about1.ripe theMethod args0 below0 = true := by decide +kernel
theorem w_running : about1.status = .running := rfl
set_option maxRecDepth 65536 in
theorem w_room : about1.hasRoom e0.platform room_1 = true :=
  launch0.hasRoom_least _ room_1 (by decide +kernel) (by decide +kernel) (by decide +kernel) (by decide +kernel) (by decide +kernel) (by decide +kernel)
theorem allAtoms_all (ts : List Jvm.Cond) (a : Array Jvm.Value) (st : Jvm.State) : (allAtoms ts).before a st = ts.all (fun c => c.before a st) := by
  induction ts with
  | nil => rfl
  | cons c t ih =>
    show (Jvm.Cond.and c (allAtoms t)).before a st = _
    rw [Jvm.Cond.before_and, ih, List.all_cons]
def words1 : List Jvm.Cond := Jvm.Cond.code x code maxLocals ret :: tables_1
theorem code_word {y : MethodName} {bytes : ByteArray} {mx : Nat} {rt : Option FieldType} {a : Array Value} {s : State} {m : MethodId} {meth : Method} {c : Code} (h1 : s.methodNamed? y = some m) (h2 : s.vm.method? m = some meth) (h3 : meth.code = some c) (h4 : c.code = bytes)
    (h5 : (c.maxLocals == mx && c.exceptionTable.isEmpty && decide (c.maxStack ≤ mostOperands) && decide (meth.sig.returnType = rt) && !meth.locks && decide (parseMethodDescriptor y.desc = some meth.sig)) = true) : (Jvm.Cond.code y bytes mx rt).before a s = true := by
  simp only [Bool.and_eq_true, beq_iff_eq, Bool.not_eq_true', decide_eq_true_eq] at h5
  obtain ⟨⟨⟨⟨⟨g1, g2⟩, g3⟩, g4⟩, g5⟩, g6⟩ := h5
  simp [Cond.before, Cond.holds, Cond.value, h1, h2, h3, h4, g1, g2, g3, g4, g5, g6]
def isCode : Jvm.Cond → Bool
  | .code _ _ _ _ => true
  | _ => false
theorem all_split {L : List Jvm.Cond} {P : Jvm.Cond → Bool} (h1 : L.all (fun c => isCode c || P c) = true) (h2 : ∀ c ∈ L.filter isCode, P c = true) : L.all P = true := by
  refine List.all_eq_true.mpr fun c hc => ?_
  have h := List.all_eq_true.mp h1 c hc
  rcases Bool.eq_false_or_eq_true (isCode c) with hi | hi
  · exact h2 c (List.mem_filter.mpr ⟨hc, hi⟩)
  · simpa [hi] using h
set_option maxRecDepth 65536 in
theorem w_c0 : (Jvm.Cond.code x code maxLocals ret).before args0 about1 = true := code_word (m := ⟨1, 6⟩) (meth := k1m6) (c := k1c6) (by decide +kernel) rfl rfl rfl (by decide +kernel)
set_option maxRecDepth 65536 in
theorem w_c1 : (Jvm.Cond.code yy31 method_3_code (4 : Nat) (some (FieldType.object "java/lang/String"))).before args0 about1 = true := code_word (m := ⟨1, 2⟩) (meth := k1m2) (c := k1c2) (by decide +kernel) rfl rfl rfl (by decide +kernel)
set_option maxRecDepth 65536 in
theorem w_c2 : (Jvm.Cond.code yy21 method_2_code (1 : Nat) (some FieldType.char)).before args0 about1 = true := code_word (m := ⟨1, 1⟩) (meth := k1m1) (c := k1c1) (by decide +kernel) rfl rfl rfl (by decide +kernel)
set_option maxRecDepth 65536 in
theorem w_c3 : (Jvm.Cond.code yy25 jdk_42_method_139_code (1 : Nat) (some (FieldType.object "java/lang/String"))).before args0 about1 = true := code_word (m := ⟨9, 8⟩) (meth := k9m8) (c := k9c8) (by decide +kernel) rfl rfl rfl (by decide +kernel)
set_option maxRecDepth 65536 in
theorem w_c4 : (Jvm.Cond.code yy22 jdk_43_method_3_code (1 : Nat) (some FieldType.boolean)).before args0 about1 = true := code_word (m := ⟨10, 1⟩) (meth := k10m1) (c := k10c1) (by decide +kernel) rfl rfl rfl (by decide +kernel)
set_option maxRecDepth 65536 in
theorem w_c5 : (Jvm.Cond.code yy23 jdk_43_method_46_code (1 : Nat) (some (FieldType.array FieldType.byte))).before args0 about1 = true := code_word (m := ⟨10, 10⟩) (meth := k10m10) (c := k10c10) (by decide +kernel) rfl rfl rfl (by decide +kernel)
set_option maxRecDepth 65536 in
theorem w_c6 : (Jvm.Cond.code yy24 jdk_42_method_151_code (3 : Nat) (Option.none : Option Jvm.ClassFile.FieldType)).before args0 about1 = true := code_word (m := ⟨9, 10⟩) (meth := k9m10) (c := k9c10) (by decide +kernel) rfl rfl rfl (by decide +kernel)
set_option maxRecDepth 65536 in
theorem w_c7 : (Jvm.Cond.code ({ cls := "java/lang/Object", name := "<init>", desc := "()V" } : Jvm.MethodName) object_method_1_code (1 : Nat) (Option.none : Option Jvm.ClassFile.FieldType)).before args0 about1 = true := code_word (m := ⟨0, 0⟩) (meth := k0m0) (c := k0c0) (by decide +kernel) rfl rfl rfl (by decide +kernel)
set_option maxRecDepth 65536 in
theorem w_c8 : (Jvm.Cond.code yy33 prog_3_method_1_code (3 : Nat) (Option.none : Option Jvm.ClassFile.FieldType)).before args0 about1 = true := code_word (m := ⟨3, 0⟩) (meth := k3m0) (c := k3c0) (by decide +kernel) rfl rfl rfl (by decide +kernel)
set_option maxRecDepth 65536 in
theorem w_c9 : (Jvm.Cond.code yy32 jdk_30_method_1_code (1 : Nat) (Option.none : Option Jvm.ClassFile.FieldType)).before args0 about1 = true := code_word (m := ⟨2, 0⟩) (meth := k2m0) (c := k2c0) (by decide +kernel) rfl rfl rfl (by decide +kernel)
set_option maxRecDepth 65536 in
theorem w_c10 : (Jvm.Cond.code yy20 prog_2_method_7_code (2 : Nat) (Option.none : Option Jvm.ClassFile.FieldType)).before args0 about1 = true := code_word (m := ⟨11, 2⟩) (meth := k11m2) (c := k11c2) (by decide +kernel) rfl rfl rfl (by decide +kernel)
set_option maxRecDepth 65536 in
theorem w_c11 : (Jvm.Cond.code yy14 jdk_31_method_11_code (2 : Nat) (some (FieldType.object "java/lang/Object"))).before args0 about1 = true := code_word (m := ⟨12, 2⟩) (meth := k12m2) (c := k12c2) (by decide +kernel) rfl rfl rfl (by decide +kernel)
set_option maxRecDepth 65536 in
theorem w_c12 : (Jvm.Cond.code yy19 jdk_42_method_55_code (1 : Nat) (some FieldType.boolean)).before args0 about1 = true := code_word (m := ⟨9, 3⟩) (meth := k9m3) (c := k9c3) (by decide +kernel) rfl rfl rfl (by decide +kernel)
set_option maxRecDepth 65536 in
theorem w_c13 : (Jvm.Cond.code yy11 jdk_42_method_114_code (2 : Nat) (some (FieldType.object "java/lang/String"))).before args0 about1 = true := code_word (m := ⟨9, 7⟩) (meth := k9m7) (c := k9c7) (by decide +kernel) rfl rfl rfl (by decide +kernel)
set_option maxRecDepth 65536 in
theorem w_c14 : (Jvm.Cond.code yy1 jdk_42_method_154_code (1 : Nat) (some FieldType.boolean)).before args0 about1 = true := code_word (m := ⟨9, 12⟩) (meth := k9m12) (c := k9c12) (by decide +kernel) rfl rfl rfl (by decide +kernel)
set_option maxRecDepth 65536 in
theorem w_c15 : (Jvm.Cond.code yy10 jdk_43_method_39_code (4 : Nat) (some (FieldType.object "java/lang/String"))).before args0 about1 = true := code_word (m := ⟨10, 8⟩) (meth := k10m8) (c := k10c8) (by decide +kernel) rfl rfl rfl (by decide +kernel)
set_option maxRecDepth 65536 in
theorem w_c16 : (Jvm.Cond.code yy8 jdk_43_method_37_code (4 : Nat) (some FieldType.int)).before args0 about1 = true := code_word (m := ⟨10, 6⟩) (meth := k10m6) (c := k10c6) (by decide +kernel) rfl rfl rfl (by decide +kernel)
set_option maxRecDepth 65536 in
theorem w_c17 : (Jvm.Cond.code yy5 jdk_43_method_44_code (2 : Nat) (some FieldType.char)).before args0 about1 = true := code_word (m := ⟨10, 9⟩) (meth := k10m9) (c := k10c9) (by decide +kernel) rfl rfl rfl (by decide +kernel)
set_option maxRecDepth 65536 in
theorem w_c18 : (Jvm.Cond.code yy7 jdk_116_method_26_code (3 : Nat) (some FieldType.boolean)).before args0 about1 = true := code_word (m := ⟨14, 1⟩) (meth := k14m1) (c := k14c1) (by decide +kernel) rfl rfl rfl (by decide +kernel)
set_option maxRecDepth 65536 in
theorem w_c19 : (Jvm.Cond.code yy6 jdk_116_method_1_code (4 : Nat) (some FieldType.int)).before args0 about1 = true := code_word (m := ⟨14, 0⟩) (meth := k14m0) (c := k14c0) (by decide +kernel) rfl rfl rfl (by decide +kernel)
set_option maxRecDepth 65536 in
theorem w_c20 : (Jvm.Cond.code yy9 jdk_43_method_38_code (4 : Nat) (some FieldType.int)).before args0 about1 = true := code_word (m := ⟨10, 7⟩) (meth := k10m7) (c := k10c7) (by decide +kernel) rfl rfl rfl (by decide +kernel)
set_option maxRecDepth 65536 in
theorem w_c21 : (Jvm.Cond.code yy12 jdk_42_method_66_code (3 : Nat) (some FieldType.boolean)).before args0 about1 = true := code_word (m := ⟨9, 4⟩) (meth := k9m4) (c := k9c4) (by decide +kernel) rfl rfl rfl (by decide +kernel)
set_option maxRecDepth 65536 in
theorem w_c22 : (Jvm.Cond.code yy18 jdk_42_method_79_code (2 : Nat) (some FieldType.int)).before args0 about1 = true := code_word (m := ⟨9, 5⟩) (meth := k9m5) (c := k9c5) (by decide +kernel) rfl rfl rfl (by decide +kernel)
set_option maxRecDepth 65536 in
theorem w_c23 : (Jvm.Cond.code yy17 jdk_42_method_80_code (3 : Nat) (some FieldType.int)).before args0 about1 = true := code_word (m := ⟨9, 6⟩) (meth := k9m6) (c := k9c6) (by decide +kernel) rfl rfl rfl (by decide +kernel)
set_option maxRecDepth 65536 in
theorem w_c24 : (Jvm.Cond.code yy2 jdk_42_method_54_code (1 : Nat) (some FieldType.int)).before args0 about1 = true := code_word (m := ⟨9, 2⟩) (meth := k9m2) (c := k9c2) (by decide +kernel) rfl rfl rfl (by decide +kernel)
set_option maxRecDepth 65536 in
theorem w_c25 : (Jvm.Cond.code yy0 jdk_42_method_152_code (1 : Nat) (some FieldType.byte)).before args0 about1 = true := code_word (m := ⟨9, 11⟩) (meth := k9m11) (c := k9c11) (by decide +kernel) rfl rfl rfl (by decide +kernel)
set_option maxRecDepth 65536 in
theorem w_c26 : (Jvm.Cond.code yy16 jdk_43_method_22_code (4 : Nat) (some FieldType.int)).before args0 about1 = true := code_word (m := ⟨10, 4⟩) (meth := k10m4) (c := k10c4) (by decide +kernel) rfl rfl rfl (by decide +kernel)
set_option maxRecDepth 65536 in
theorem w_c27 : (Jvm.Cond.code yy13 jdk_43_method_4_code (1 : Nat) (some FieldType.boolean)).before args0 about1 = true := code_word (m := ⟨10, 2⟩) (meth := k10m2) (c := k10c2) (by decide +kernel) rfl rfl rfl (by decide +kernel)
set_option maxRecDepth 65536 in
theorem w_c28 : (Jvm.Cond.code yy3 jdk_29_method_65_code (2 : Nat) (some FieldType.int)).before args0 about1 = true := code_word (m := ⟨15, 1⟩) (meth := k15m1) (c := k15c1) (by decide +kernel) rfl rfl rfl (by decide +kernel)
set_option maxRecDepth 65536 in
theorem w_c29 : (Jvm.Cond.code yy4 jdk_29_method_69_code (2 : Nat) (some FieldType.int)).before args0 about1 = true := code_word (m := ⟨15, 2⟩) (meth := k15m2) (c := k15c2) (by decide +kernel) rfl rfl rfl (by decide +kernel)
set_option maxRecDepth 65536 in
theorem w_c30 : (Jvm.Cond.code yy15 jdk_43_method_23_code (6 : Nat) (some FieldType.int)).before args0 about1 = true := code_word (m := ⟨10, 5⟩) (meth := k10m5) (c := k10c5) (by decide +kernel) rfl rfl rfl (by decide +kernel)
set_option maxRecDepth 65536 in
theorem w_c31 : (Jvm.Cond.code yy38 jdk_38_method_2_code (1 : Nat) (Option.none : Option Jvm.ClassFile.FieldType)).before args0 about1 = true := code_word (m := ⟨24, 0⟩) (meth := k24m0) (c := k24c0) (by decide +kernel) rfl rfl rfl (by decide +kernel)
set_option maxRecDepth 65536 in
theorem w_c32 : (Jvm.Cond.code yy37 jdk_39_method_1_code (1 : Nat) (Option.none : Option Jvm.ClassFile.FieldType)).before args0 about1 = true := code_word (m := ⟨21, 0⟩) (meth := k21m0) (c := k21c0) (by decide +kernel) rfl rfl rfl (by decide +kernel)
set_option maxRecDepth 65536 in
theorem w_c33 : (Jvm.Cond.code yy34 jdk_22_method_1_code (1 : Nat) (Option.none : Option Jvm.ClassFile.FieldType)).before args0 about1 = true := code_word (m := ⟨18, 0⟩) (meth := k18m0) (c := k18c0) (by decide +kernel) rfl rfl rfl (by decide +kernel)
set_option maxRecDepth 65536 in
theorem w_c34 : (Jvm.Cond.code yy42 jdk_38_method_25_code (2 : Nat) (some FieldType.boolean)).before args0 about1 = true := code_word (m := ⟨24, 6⟩) (meth := k24m6) (c := k24c6) (by decide +kernel) rfl rfl rfl (by decide +kernel)
set_option maxRecDepth 65536 in
theorem w_c35 : (Jvm.Cond.code yy41 jdk_38_method_24_code (4 : Nat) (Option.none : Option Jvm.ClassFile.FieldType)).before args0 about1 = true := code_word (m := ⟨24, 5⟩) (meth := k24m5) (c := k24c5) (by decide +kernel) rfl rfl rfl (by decide +kernel)
set_option maxRecDepth 65536 in
theorem w_c36 : (Jvm.Cond.code yy40 jdk_38_method_7_code (1 : Nat) (some (FieldType.array (FieldType.object "java/lang/Object")))).before args0 about1 = true := code_word (m := ⟨24, 2⟩) (meth := k24m2) (c := k24c2) (by decide +kernel) rfl rfl rfl (by decide +kernel)
set_option maxRecDepth 65536 in
theorem w_c37 : (Jvm.Cond.code yy39 jdk_38_method_6_code (4 : Nat) (some (FieldType.array (FieldType.object "java/lang/Object")))).before args0 about1 = true := code_word (m := ⟨24, 1⟩) (meth := k24m1) (c := k24c1) (by decide +kernel) rfl rfl rfl (by decide +kernel)
set_option maxRecDepth 65536 in
theorem w_c38 : (Jvm.Cond.code yy60 prog_2_method_1_code (2 : Nat) (Option.none : Option Jvm.ClassFile.FieldType)).before args0 about1 = true := code_word (m := ⟨11, 0⟩) (meth := k11m0) (c := k11c0) (by decide +kernel) rfl rfl rfl (by decide +kernel)
set_option maxRecDepth 65536 in
theorem w_c39 : (Jvm.Cond.code yy58 jdk_40_method_48_code (1 : Nat) (some (FieldType.object "java/util/List"))).before args0 about1 = true := code_word (m := ⟨20, 5⟩) (meth := k20m5) (c := k20c5) (by decide +kernel) rfl rfl rfl (by decide +kernel)
set_option maxRecDepth 65536 in
theorem w_c40 : (Jvm.Cond.code yy57 jdk_56_method_3_code (2 : Nat) (some (FieldType.object "java/util/List"))).before args0 about1 = true := code_word (m := ⟨25, 1⟩) (meth := k25m1) (c := k25c1) (by decide +kernel) rfl rfl rfl (by decide +kernel)
set_option maxRecDepth 65536 in
theorem w_c41 : (Jvm.Cond.code yy48 jdk_38_method_9_code (1 : Nat) (some FieldType.boolean)).before args0 about1 = true := code_word (m := ⟨24, 3⟩) (meth := k24m3) (c := k24c3) (by decide +kernel) rfl rfl rfl (by decide +kernel)
set_option maxRecDepth 65536 in
theorem w_c42 : (Jvm.Cond.code yy47 jdk_38_method_16_code (1 : Nat) (some (FieldType.array (FieldType.object "java/lang/Object")))).before args0 about1 = true := code_word (m := ⟨24, 4⟩) (meth := k24m4) (c := k24c4) (by decide +kernel) rfl rfl rfl (by decide +kernel)
set_option maxRecDepth 65536 in
theorem w_c43 : (Jvm.Cond.code yy46 jdk_65_method_119_code (2 : Nat) (some (FieldType.array (FieldType.object "java/lang/Object")))).before args0 about1 = true := code_word (m := ⟨30, 1⟩) (meth := k30m1) (c := k30c1) (by decide +kernel) rfl rfl rfl (by decide +kernel)
set_option maxRecDepth 65536 in
theorem w_c44 : (Jvm.Cond.code yy45 jdk_65_method_120_code (4 : Nat) (some (FieldType.array (FieldType.object "java/lang/Object")))).before args0 about1 = true := code_word (m := ⟨30, 2⟩) (meth := k30m2) (c := k30c2) (by decide +kernel) rfl rfl rfl (by decide +kernel)
set_option maxRecDepth 65536 in
theorem w_c45 : (Jvm.Cond.code yy53 jdk_40_method_47_code (2 : Nat) (some (FieldType.object "java/util/List"))).before args0 about1 = true := code_word (m := ⟨20, 4⟩) (meth := k20m4) (c := k20c4) (by decide +kernel) rfl rfl rfl (by decide +kernel)
set_option maxRecDepth 65536 in
theorem w_c46 : (Jvm.Cond.code yy49 jdk_44_method_1_code (2 : Nat) (Option.none : Option Jvm.ClassFile.FieldType)).before args0 about1 = true := code_word (m := ⟨28, 0⟩) (meth := k28m0) (c := k28c0) (by decide +kernel) rfl rfl rfl (by decide +kernel)
set_option maxRecDepth 65536 in
theorem w_c47 : (Jvm.Cond.code yy36 jdk_46_method_1_code (1 : Nat) (Option.none : Option Jvm.ClassFile.FieldType)).before args0 about1 = true := code_word (m := ⟨27, 0⟩) (meth := k27m0) (c := k27c0) (by decide +kernel) rfl rfl rfl (by decide +kernel)
set_option maxRecDepth 65536 in
theorem w_c48 : (Jvm.Cond.code yy35 jdk_47_method_1_code (1 : Nat) (Option.none : Option Jvm.ClassFile.FieldType)).before args0 about1 = true := code_word (m := ⟨26, 0⟩) (meth := k26m0) (c := k26c0) (by decide +kernel) rfl rfl rfl (by decide +kernel)
set_option maxRecDepth 65536 in
theorem w_c49 : (Jvm.Cond.code yy43 jdk_31_method_10_code (1 : Nat) (some (FieldType.object "java/lang/Object"))).before args0 about1 = true := code_word (m := ⟨12, 1⟩) (meth := k12m1) (c := k12c1) (by decide +kernel) rfl rfl rfl (by decide +kernel)
set_option maxRecDepth 65536 in
theorem w_c50 : (Jvm.Cond.code yy44 jdk_44_method_4_code (1 : Nat) (some FieldType.boolean)).before args0 about1 = true := code_word (m := ⟨28, 3⟩) (meth := k28m3) (c := k28c3) (by decide +kernel) rfl rfl rfl (by decide +kernel)
set_option maxRecDepth 65536 in
theorem w_c51 : (Jvm.Cond.code yy50 jdk_44_method_2_code (3 : Nat) (Option.none : Option Jvm.ClassFile.FieldType)).before args0 about1 = true := code_word (m := ⟨28, 1⟩) (meth := k28m1) (c := k28c1) (by decide +kernel) rfl rfl rfl (by decide +kernel)
set_option maxRecDepth 65536 in
theorem w_c52 : (Jvm.Cond.code yy63 method_6_code (4 : Nat) (some FieldType.boolean)).before args0 about1 = true := code_word (m := ⟨1, 5⟩) (meth := k1m5) (c := k1c5) (by decide +kernel) rfl rfl rfl (by decide +kernel)
set_option maxRecDepth 65536 in
theorem w_c53 : (Jvm.Cond.code yy61 method_4_code (4 : Nat) (some FieldType.boolean)).before args0 about1 = true := code_word (m := ⟨1, 3⟩) (meth := k1m3) (c := k1c3) (by decide +kernel) rfl rfl rfl (by decide +kernel)
set_option maxRecDepth 65536 in
theorem w_c54 : (Jvm.Cond.code yy70 prog_2_method_4_code (5 : Nat) (some FieldType.boolean)).before args0 about1 = true := code_word (m := ⟨11, 1⟩) (meth := k11m1) (c := k11c1) (by decide +kernel) rfl rfl rfl (by decide +kernel)
set_option maxRecDepth 65536 in
theorem w_c55 : (Jvm.Cond.code yy64 jdk_44_method_3_code (1 : Nat) (some FieldType.int)).before args0 about1 = true := code_word (m := ⟨28, 2⟩) (meth := k28m2) (c := k28c2) (by decide +kernel) rfl rfl rfl (by decide +kernel)
set_option maxRecDepth 65536 in
theorem w_c56 : (Jvm.Cond.code yy65 jdk_44_method_5_code (2 : Nat) (some (FieldType.object "java/lang/Object"))).before args0 about1 = true := code_word (m := ⟨28, 4⟩) (meth := k28m4) (c := k28c4) (by decide +kernel) rfl rfl rfl (by decide +kernel)
set_option maxRecDepth 65536 in
theorem w_c57 : (Jvm.Cond.code ({ cls := "java/lang/StringLatin1", name := "equals", desc := "([B[B)Z" } : Jvm.MethodName) jdk_43_method_13_code (3 : Nat) (some FieldType.boolean)).before args0 about1 = true := code_word (m := ⟨10, 3⟩) (meth := k10m3) (c := k10c3) (by decide +kernel) rfl rfl rfl (by decide +kernel)
set_option maxRecDepth 65536 in
theorem w_c58 : (Jvm.Cond.code yy30 jdk_42_method_3_code (2 : Nat) (Option.none : Option Jvm.ClassFile.FieldType)).before args0 about1 = true := code_word (m := ⟨9, 1⟩) (meth := k9m1) (c := k9c1) (by decide +kernel) rfl rfl rfl (by decide +kernel)
set_option maxRecDepth 65536 in
theorem w_c59 : (Jvm.Cond.code yy29 jdk_42_method_149_code (6 : Nat) (Option.none : Option Jvm.ClassFile.FieldType)).before args0 about1 = true := code_word (m := ⟨9, 9⟩) (meth := k9m9) (c := k9c9) (by decide +kernel) rfl rfl rfl (by decide +kernel)
set_option maxRecDepth 65536 in
theorem w_c60 : (Jvm.Cond.code yy27 jdk_52_method_16_code (6 : Nat) (some (FieldType.array FieldType.byte))).before args0 about1 = true := code_word (m := ⟨32, 2⟩) (meth := k32m2) (c := k32c2) (by decide +kernel) rfl rfl rfl (by decide +kernel)
set_option maxRecDepth 65536 in
theorem w_c61 : (Jvm.Cond.code yy26 jdk_52_method_21_code (7 : Nat) (some FieldType.int)).before args0 about1 = true := code_word (m := ⟨32, 3⟩) (meth := k32m3) (c := k32c3) (by decide +kernel) rfl rfl rfl (by decide +kernel)
set_option maxRecDepth 65536 in
theorem w_c62 : (Jvm.Cond.code yy28 jdk_52_method_15_code (2 : Nat) (some FieldType.byte)).before args0 about1 = true := code_word (m := ⟨32, 1⟩) (meth := k32m1) (c := k32c1) (by decide +kernel) rfl rfl rfl (by decide +kernel)
set_option maxRecDepth 65536 in
theorem w_c63 : (Jvm.Cond.code yy52 jdk_56_method_4_code (3 : Nat) (some (FieldType.object "java/util/List"))).before args0 about1 = true := code_word (m := ⟨25, 2⟩) (meth := k25m2) (c := k25c2) (by decide +kernel) rfl rfl rfl (by decide +kernel)
set_option maxRecDepth 65536 in
theorem w_c64 : (Jvm.Cond.code yy51 jdk_45_method_1_code (3 : Nat) (Option.none : Option Jvm.ClassFile.FieldType)).before args0 about1 = true := code_word (m := ⟨29, 0⟩) (meth := k29m0) (c := k29c0) (by decide +kernel) rfl rfl rfl (by decide +kernel)
set_option maxRecDepth 65536 in
theorem w_c65 : (Jvm.Cond.code yy54 jdk_45_method_2_code (1 : Nat) (some FieldType.boolean)).before args0 about1 = true := code_word (m := ⟨29, 1⟩) (meth := k29m1) (c := k29c1) (by decide +kernel) rfl rfl rfl (by decide +kernel)
set_option maxRecDepth 65536 in
theorem w_c66 : (Jvm.Cond.code yy66 jdk_45_method_3_code (1 : Nat) (some FieldType.int)).before args0 about1 = true := code_word (m := ⟨29, 2⟩) (meth := k29m2) (c := k29c2) (by decide +kernel) rfl rfl rfl (by decide +kernel)
set_option maxRecDepth 65536 in
theorem w_c67 : (Jvm.Cond.code yy67 jdk_45_method_4_code (2 : Nat) (some (FieldType.object "java/lang/Object"))).before args0 about1 = true := code_word (m := ⟨29, 3⟩) (meth := k29m3) (c := k29c3) (by decide +kernel) rfl rfl rfl (by decide +kernel)
set_option maxRecDepth 65536 in
theorem w_c68 : (Jvm.Cond.code yy62 method_5_code (1 : Nat) (some FieldType.boolean)).before args0 about1 = true := code_word (m := ⟨1, 4⟩) (meth := k1m4) (c := k1c4) (by decide +kernel) rfl rfl rfl (by decide +kernel)
def codes1 : List Jvm.Cond := [Jvm.Cond.code x code maxLocals ret, Jvm.Cond.code yy31 method_3_code (4 : Nat) (some (FieldType.object "java/lang/String")), Jvm.Cond.code yy21 method_2_code (1 : Nat) (some FieldType.char), Jvm.Cond.code yy25 jdk_42_method_139_code (1 : Nat) (some (FieldType.object "java/lang/String")), Jvm.Cond.code yy22 jdk_43_method_3_code (1 : Nat) (some FieldType.boolean), Jvm.Cond.code yy23 jdk_43_method_46_code (1 : Nat) (some (FieldType.array FieldType.byte)), Jvm.Cond.code yy24 jdk_42_method_151_code (3 : Nat) (Option.none : Option Jvm.ClassFile.FieldType), Jvm.Cond.code ({ cls := "java/lang/Object", name := "<init>", desc := "()V" } : Jvm.MethodName) object_method_1_code (1 : Nat) (Option.none : Option Jvm.ClassFile.FieldType), Jvm.Cond.code yy33 prog_3_method_1_code (3 : Nat) (Option.none : Option Jvm.ClassFile.FieldType), Jvm.Cond.code yy32 jdk_30_method_1_code (1 : Nat) (Option.none : Option Jvm.ClassFile.FieldType), Jvm.Cond.code yy20 prog_2_method_7_code (2 : Nat) (Option.none : Option Jvm.ClassFile.FieldType), Jvm.Cond.code yy14 jdk_31_method_11_code (2 : Nat) (some (FieldType.object "java/lang/Object")), Jvm.Cond.code yy19 jdk_42_method_55_code (1 : Nat) (some FieldType.boolean), Jvm.Cond.code yy11 jdk_42_method_114_code (2 : Nat) (some (FieldType.object "java/lang/String")), Jvm.Cond.code yy1 jdk_42_method_154_code (1 : Nat) (some FieldType.boolean), Jvm.Cond.code yy10 jdk_43_method_39_code (4 : Nat) (some (FieldType.object "java/lang/String")), Jvm.Cond.code yy8 jdk_43_method_37_code (4 : Nat) (some FieldType.int), Jvm.Cond.code yy5 jdk_43_method_44_code (2 : Nat) (some FieldType.char), Jvm.Cond.code yy7 jdk_116_method_26_code (3 : Nat) (some FieldType.boolean), Jvm.Cond.code yy6 jdk_116_method_1_code (4 : Nat) (some FieldType.int), Jvm.Cond.code yy9 jdk_43_method_38_code (4 : Nat) (some FieldType.int), Jvm.Cond.code yy12 jdk_42_method_66_code (3 : Nat) (some FieldType.boolean), Jvm.Cond.code yy18 jdk_42_method_79_code (2 : Nat) (some FieldType.int), Jvm.Cond.code yy17 jdk_42_method_80_code (3 : Nat) (some FieldType.int), Jvm.Cond.code yy2 jdk_42_method_54_code (1 : Nat) (some FieldType.int), Jvm.Cond.code yy0 jdk_42_method_152_code (1 : Nat) (some FieldType.byte), Jvm.Cond.code yy16 jdk_43_method_22_code (4 : Nat) (some FieldType.int), Jvm.Cond.code yy13 jdk_43_method_4_code (1 : Nat) (some FieldType.boolean), Jvm.Cond.code yy3 jdk_29_method_65_code (2 : Nat) (some FieldType.int), Jvm.Cond.code yy4 jdk_29_method_69_code (2 : Nat) (some FieldType.int), Jvm.Cond.code yy15 jdk_43_method_23_code (6 : Nat) (some FieldType.int), Jvm.Cond.code yy38 jdk_38_method_2_code (1 : Nat) (Option.none : Option Jvm.ClassFile.FieldType), Jvm.Cond.code yy37 jdk_39_method_1_code (1 : Nat) (Option.none : Option Jvm.ClassFile.FieldType), Jvm.Cond.code yy34 jdk_22_method_1_code (1 : Nat) (Option.none : Option Jvm.ClassFile.FieldType), Jvm.Cond.code yy42 jdk_38_method_25_code (2 : Nat) (some FieldType.boolean), Jvm.Cond.code yy41 jdk_38_method_24_code (4 : Nat) (Option.none : Option Jvm.ClassFile.FieldType), Jvm.Cond.code yy40 jdk_38_method_7_code (1 : Nat) (some (FieldType.array (FieldType.object "java/lang/Object"))), Jvm.Cond.code yy39 jdk_38_method_6_code (4 : Nat) (some (FieldType.array (FieldType.object "java/lang/Object"))), Jvm.Cond.code yy60 prog_2_method_1_code (2 : Nat) (Option.none : Option Jvm.ClassFile.FieldType), Jvm.Cond.code yy58 jdk_40_method_48_code (1 : Nat) (some (FieldType.object "java/util/List")), Jvm.Cond.code yy57 jdk_56_method_3_code (2 : Nat) (some (FieldType.object "java/util/List")), Jvm.Cond.code yy48 jdk_38_method_9_code (1 : Nat) (some FieldType.boolean), Jvm.Cond.code yy47 jdk_38_method_16_code (1 : Nat) (some (FieldType.array (FieldType.object "java/lang/Object"))), Jvm.Cond.code yy46 jdk_65_method_119_code (2 : Nat) (some (FieldType.array (FieldType.object "java/lang/Object"))), Jvm.Cond.code yy45 jdk_65_method_120_code (4 : Nat) (some (FieldType.array (FieldType.object "java/lang/Object"))), Jvm.Cond.code yy53 jdk_40_method_47_code (2 : Nat) (some (FieldType.object "java/util/List")), Jvm.Cond.code yy49 jdk_44_method_1_code (2 : Nat) (Option.none : Option Jvm.ClassFile.FieldType), Jvm.Cond.code yy36 jdk_46_method_1_code (1 : Nat) (Option.none : Option Jvm.ClassFile.FieldType), Jvm.Cond.code yy35 jdk_47_method_1_code (1 : Nat) (Option.none : Option Jvm.ClassFile.FieldType), Jvm.Cond.code yy43 jdk_31_method_10_code (1 : Nat) (some (FieldType.object "java/lang/Object")), Jvm.Cond.code yy44 jdk_44_method_4_code (1 : Nat) (some FieldType.boolean), Jvm.Cond.code yy50 jdk_44_method_2_code (3 : Nat) (Option.none : Option Jvm.ClassFile.FieldType), Jvm.Cond.code yy63 method_6_code (4 : Nat) (some FieldType.boolean), Jvm.Cond.code yy61 method_4_code (4 : Nat) (some FieldType.boolean), Jvm.Cond.code yy70 prog_2_method_4_code (5 : Nat) (some FieldType.boolean), Jvm.Cond.code yy64 jdk_44_method_3_code (1 : Nat) (some FieldType.int), Jvm.Cond.code yy65 jdk_44_method_5_code (2 : Nat) (some (FieldType.object "java/lang/Object")), Jvm.Cond.code ({ cls := "java/lang/StringLatin1", name := "equals", desc := "([B[B)Z" } : Jvm.MethodName) jdk_43_method_13_code (3 : Nat) (some FieldType.boolean), Jvm.Cond.code yy30 jdk_42_method_3_code (2 : Nat) (Option.none : Option Jvm.ClassFile.FieldType), Jvm.Cond.code yy29 jdk_42_method_149_code (6 : Nat) (Option.none : Option Jvm.ClassFile.FieldType), Jvm.Cond.code yy27 jdk_52_method_16_code (6 : Nat) (some (FieldType.array FieldType.byte)), Jvm.Cond.code yy26 jdk_52_method_21_code (7 : Nat) (some FieldType.int), Jvm.Cond.code yy28 jdk_52_method_15_code (2 : Nat) (some FieldType.byte), Jvm.Cond.code yy52 jdk_56_method_4_code (3 : Nat) (some (FieldType.object "java/util/List")), Jvm.Cond.code yy51 jdk_45_method_1_code (3 : Nat) (Option.none : Option Jvm.ClassFile.FieldType), Jvm.Cond.code yy54 jdk_45_method_2_code (1 : Nat) (some FieldType.boolean), Jvm.Cond.code yy66 jdk_45_method_3_code (1 : Nat) (some FieldType.int), Jvm.Cond.code yy67 jdk_45_method_4_code (2 : Nat) (some (FieldType.object "java/lang/Object")), Jvm.Cond.code yy62 method_5_code (1 : Nat) (some FieldType.boolean)]
set_option maxRecDepth 65536 in
theorem codes_eq : words1.filter isCode = codes1 := rfl
theorem w_codes : ∀ c ∈ words1.filter isCode, c.before args0 about1 = true := by
  rw [codes_eq]
  intro c hc
  simp only [codes1, List.mem_cons, List.not_mem_nil, or_false] at hc
  rcases hc with rfl | rfl | rfl | rfl | rfl | rfl | rfl | rfl | rfl | rfl | rfl | rfl | rfl | rfl | rfl | rfl | rfl | rfl | rfl | rfl | rfl | rfl | rfl | rfl | rfl | rfl | rfl | rfl | rfl | rfl | rfl | rfl | rfl | rfl | rfl | rfl | rfl | rfl | rfl | rfl | rfl | rfl | rfl | rfl | rfl | rfl | rfl | rfl | rfl | rfl | rfl | rfl | rfl | rfl | rfl | rfl | rfl | rfl | rfl | rfl | rfl | rfl | rfl | rfl | rfl | rfl | rfl | rfl | rfl
  · exact w_c0
  · exact w_c1
  · exact w_c2
  · exact w_c3
  · exact w_c4
  · exact w_c5
  · exact w_c6
  · exact w_c7
  · exact w_c8
  · exact w_c9
  · exact w_c10
  · exact w_c11
  · exact w_c12
  · exact w_c13
  · exact w_c14
  · exact w_c15
  · exact w_c16
  · exact w_c17
  · exact w_c18
  · exact w_c19
  · exact w_c20
  · exact w_c21
  · exact w_c22
  · exact w_c23
  · exact w_c24
  · exact w_c25
  · exact w_c26
  · exact w_c27
  · exact w_c28
  · exact w_c29
  · exact w_c30
  · exact w_c31
  · exact w_c32
  · exact w_c33
  · exact w_c34
  · exact w_c35
  · exact w_c36
  · exact w_c37
  · exact w_c38
  · exact w_c39
  · exact w_c40
  · exact w_c41
  · exact w_c42
  · exact w_c43
  · exact w_c44
  · exact w_c45
  · exact w_c46
  · exact w_c47
  · exact w_c48
  · exact w_c49
  · exact w_c50
  · exact w_c51
  · exact w_c52
  · exact w_c53
  · exact w_c54
  · exact w_c55
  · exact w_c56
  · exact w_c57
  · exact w_c58
  · exact w_c59
  · exact w_c60
  · exact w_c61
  · exact w_c62
  · exact w_c63
  · exact w_c64
  · exact w_c65
  · exact w_c66
  · exact w_c67
  · exact w_c68
set_option maxRecDepth 65536 in
theorem w_t1 : (words1.take 24).all (fun c => isCode c || c.before args0 about1) = true := by decide +kernel
set_option maxRecDepth 65536 in
theorem w_t2 : ((words1.drop 24).take 24).all (fun c => isCode c || c.before args0 about1) = true := by decide +kernel
set_option maxRecDepth 65536 in
theorem w_t3 : (((words1.drop 24).drop 24).take 24).all (fun c => isCode c || c.before args0 about1) = true := by decide +kernel
set_option maxRecDepth 65536 in
theorem w_t4 : ((((words1.drop 24).drop 24).drop 24).take 24).all (fun c => isCode c || c.before args0 about1) = true := by decide +kernel
set_option maxRecDepth 65536 in
theorem w_t5 : (((((words1.drop 24).drop 24).drop 24).drop 24).take 24).all (fun c => isCode c || c.before args0 about1) = true := by decide +kernel
set_option maxRecDepth 65536 in
theorem w_t6 : ((((((words1.drop 24).drop 24).drop 24).drop 24).drop 24).take 24).all (fun c => isCode c || c.before args0 about1) = true := by decide +kernel
set_option maxRecDepth 65536 in
theorem w_t7 : (((((((words1.drop 24).drop 24).drop 24).drop 24).drop 24).drop 24).take 24).all (fun c => isCode c || c.before args0 about1) = true := by decide +kernel
set_option maxRecDepth 65536 in
theorem w_t8 : ((((((((words1.drop 24).drop 24).drop 24).drop 24).drop 24).drop 24).drop 24).take 24).all (fun c => isCode c || c.before args0 about1) = true := by decide +kernel
set_option maxRecDepth 65536 in
theorem w_t9 : (((((((((words1.drop 24).drop 24).drop 24).drop 24).drop 24).drop 24).drop 24).drop 24).take 24).all (fun c => isCode c || c.before args0 about1) = true := by decide +kernel
set_option maxRecDepth 65536 in
theorem w_t10 : ((((((((((words1.drop 24).drop 24).drop 24).drop 24).drop 24).drop 24).drop 24).drop 24).drop 24).take 24).all (fun c => isCode c || c.before args0 about1) = true := by decide +kernel
set_option maxRecDepth 65536 in
theorem w_t11 : (((((((((((words1.drop 24).drop 24).drop 24).drop 24).drop 24).drop 24).drop 24).drop 24).drop 24).drop 24).take 24).all (fun c => isCode c || c.before args0 about1) = true := by decide +kernel
set_option maxRecDepth 65536 in
theorem w_t12 : ((((((((((((words1.drop 24).drop 24).drop 24).drop 24).drop 24).drop 24).drop 24).drop 24).drop 24).drop 24).drop 24).take 24).all (fun c => isCode c || c.before args0 about1) = true := by decide +kernel
set_option maxRecDepth 65536 in
theorem w_t13 : (((((((((((((words1.drop 24).drop 24).drop 24).drop 24).drop 24).drop 24).drop 24).drop 24).drop 24).drop 24).drop 24).drop 24).take 24).all (fun c => isCode c || c.before args0 about1) = true := by decide +kernel
set_option maxRecDepth 65536 in
theorem w_t14 : ((((((((((((((words1.drop 24).drop 24).drop 24).drop 24).drop 24).drop 24).drop 24).drop 24).drop 24).drop 24).drop 24).drop 24).drop 24).take 24).all (fun c => isCode c || c.before args0 about1) = true := by decide +kernel
set_option maxRecDepth 65536 in
theorem w_t15 : (((((((((((((((words1.drop 24).drop 24).drop 24).drop 24).drop 24).drop 24).drop 24).drop 24).drop 24).drop 24).drop 24).drop 24).drop 24).drop 24).take 24).all (fun c => isCode c || c.before args0 about1) = true := by decide +kernel
set_option maxRecDepth 65536 in
theorem w_t16 : ((((((((((((((((words1.drop 24).drop 24).drop 24).drop 24).drop 24).drop 24).drop 24).drop 24).drop 24).drop 24).drop 24).drop 24).drop 24).drop 24).drop 24).take 24).all (fun c => isCode c || c.before args0 about1) = true := by decide +kernel
set_option maxRecDepth 65536 in
theorem w_t17 : ((((((((((((((((words1.drop 24).drop 24).drop 24).drop 24).drop 24).drop 24).drop 24).drop 24).drop 24).drop 24).drop 24).drop 24).drop 24).drop 24).drop 24).drop 24).all (fun c => isCode c || c.before args0 about1) = true := by decide +kernel
theorem w_tables : (allAtoms (Jvm.Cond.code x code maxLocals ret :: tables_1)).before args0 about1 = true := by
  rw [allAtoms_all]
  show words1.all (fun c => c.before args0 about1) = true
  refine all_split ?_ w_codes
  rw [← List.take_append_drop 24 words1, List.all_append, w_t1, ← List.take_append_drop 24 (words1.drop 24), List.all_append, w_t2, ← List.take_append_drop 24 ((words1.drop 24).drop 24), List.all_append, w_t3, ← List.take_append_drop 24 (((words1.drop 24).drop 24).drop 24), List.all_append, w_t4, ← List.take_append_drop 24 ((((words1.drop 24).drop 24).drop 24).drop 24), List.all_append, w_t5, ← List.take_append_drop 24 (((((words1.drop 24).drop 24).drop 24).drop 24).drop 24), List.all_append, w_t6, ← List.take_append_drop 24 ((((((words1.drop 24).drop 24).drop 24).drop 24).drop 24).drop 24), List.all_append, w_t7, ← List.take_append_drop 24 (((((((words1.drop 24).drop 24).drop 24).drop 24).drop 24).drop 24).drop 24), List.all_append, w_t8, ← List.take_append_drop 24 ((((((((words1.drop 24).drop 24).drop 24).drop 24).drop 24).drop 24).drop 24).drop 24), List.all_append, w_t9, ← List.take_append_drop 24 (((((((((words1.drop 24).drop 24).drop 24).drop 24).drop 24).drop 24).drop 24).drop 24).drop 24), List.all_append, w_t10, ← List.take_append_drop 24 ((((((((((words1.drop 24).drop 24).drop 24).drop 24).drop 24).drop 24).drop 24).drop 24).drop 24).drop 24), List.all_append, w_t11, ← List.take_append_drop 24 (((((((((((words1.drop 24).drop 24).drop 24).drop 24).drop 24).drop 24).drop 24).drop 24).drop 24).drop 24).drop 24), List.all_append, w_t12, ← List.take_append_drop 24 ((((((((((((words1.drop 24).drop 24).drop 24).drop 24).drop 24).drop 24).drop 24).drop 24).drop 24).drop 24).drop 24).drop 24), List.all_append, w_t13, ← List.take_append_drop 24 (((((((((((((words1.drop 24).drop 24).drop 24).drop 24).drop 24).drop 24).drop 24).drop 24).drop 24).drop 24).drop 24).drop 24).drop 24), List.all_append, w_t14, ← List.take_append_drop 24 ((((((((((((((words1.drop 24).drop 24).drop 24).drop 24).drop 24).drop 24).drop 24).drop 24).drop 24).drop 24).drop 24).drop 24).drop 24).drop 24), List.all_append, w_t15, ← List.take_append_drop 24 (((((((((((((((words1.drop 24).drop 24).drop 24).drop 24).drop 24).drop 24).drop 24).drop 24).drop 24).drop 24).drop 24).drop 24).drop 24).drop 24).drop 24), List.all_append, w_t16, w_t17]
  rfl
set_option maxRecDepth 65536 in
theorem w_rest : rest_1_c.before args0 about1 = true := by decide +kernel
set_option maxRecDepth 65536 in
theorem w_case : (Jvm.Cond.and given_1 narrow_1).before args0 about1 = true := by decide +kernel
set_option maxRecDepth 65536 in
theorem w_consts : constsHeld consts_1 about1 := Jvm.Lit.constsHeldB_iff.mp (by decide +kernel)
theorem w_applies : (headSpec (Jvm.Cond.code x code maxLocals ret :: tables_1) room_1).applies x e0.platform about1 = true :=
  (Spec.applies_iff w_frames).mpr ⟨w_running, w_runnable, w_alone, w_named, w_hears, w_ripe, w_room, w_tables⟩
theorem atStart : AtStart classFile x code maxLocals ret World_1 tables_1 room_1 Calls_1 rest_1 Pre_1 launch0 p0 e0 about1 theMethod args0 below0 :=
  ⟨lists_1, trivial, launch0.admits_env _ _ _, launch0.least_env, fairChoices_fair.cas, fairChoices_fair.clock, w_frames, w_args, w_heap, w_applies, ⟨⟨42, k42, 5, by decide +kernel, rfl, rfl, _, rfl, rfl⟩, ⟨w_consts, trivial⟩⟩, w_rest, w_case⟩
end start1
theorem witness_1 : WitnessClaimed_1 := ⟨start1.p0, start1.e0, start1.about1, start1.theMethod, start1.args0, start1.below0, start1.atStart⟩
end Jvm.Pilot.@@N@@
