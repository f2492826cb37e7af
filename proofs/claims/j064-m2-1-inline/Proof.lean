import JvmDerived
import JvmDerived.Pilot.@@N@@Statement
import JvmDerived.Pilot.@@N@@Code
set_option linter.unusedVariables false
set_option linter.unusedSimpArgs false
namespace Jvm.RoadKit
open Sem ClassFile Op Lib Jvm.Stand Jvm.Free Jvm.LawKit
section New
variable {p : Program} {l : Launch} {e : Env} {R : Room} {s : State} {m : MethodId} {args : Array Value} {below : List Frame} {meth : Method} {c : Code} {T T' : State} {locs : List Loc} {cells slots : Nat} {Q : Option Value → Heap → List Loc → Prop} {cc ss : Nat} {g g' : JFrame} {pc : Nat} {Ls : Array Slot}
/-- from here the body comes to an end that meets Q -/
def own_Goes (p : Program) (e : Env) (below : List Frame) (s : State) (Q : Option Value → Heap → List Loc → Prop) (cc ss : Nat) (T : State) (g : JFrame) : Prop :=
  ∃ s₂ o, Steps p.tables e below (T.setTop g) s₂ ∧ s₂.status = .running ∧ Ended s₂ below o ∧ ∃ v L, o = .returned v ∧ Q v s₂.heap L ∧ FrameEnd s o s₂ L cc ss
theorem own_st (h : ∀ t, Steps p.tables e below (T'.setTop g') t → Steps p.tables e below (T.setTop g) t) (k : own_Goes p e below s Q cc ss T' g') : own_Goes p e below s Q cc ss T g := by
  obtain ⟨s₂, o, h1, r⟩ := k; exact ⟨s₂, o, h _ h1, r⟩
theorem own_end {v : Option Value} (X : Stand p l e R s m args below meth c T locs cells slots) (hlk : meth.locks = false) (hv : meth.sig.returnType = none → v = none) (hc : cells ≤ cc) (hs : slots ≤ ss) (hQ : Q v T.heap locs)
    (st : ∀ fs, (∀ (f : JFrame) (acts : List Action), f.method = m → f.locked = none → f.entered = [] → (doReturn e (T.setTop f) acts v).1 = T.setFrames fs) → Steps p.tables e below (T.setTop g) (T.setFrames fs)) : own_Goes p e below s Q cc ss T g := by
  obtain ⟨fs, hr, hrun, hended, hW, hsame⟩ := X.leave (v := v) hv hlk
  exact ⟨_, _, st fs hr, hrun, hended, _, _, rfl, hQ, ⟨_, rfl⟩, hW, hsame.mono hc hs⟩
theorem own_retN (X : Stand p l e R s m args below meth c T locs cells slots) (hx : p.tables.exec = Jvm.exec) (hlk : meth.locks = false) {t : FieldType} {z : Int32} {rest : List Value} (hret : meth.sig.returnType = some t) (ht : t = .boolean ∨ t = .byte ∨ t = .char ∨ t = .short) (hd : decode c.code pc = .ok (.ireturn, 1)) (hc : cells ≤ cc) (hs : slots ≤ ss) (hQ : Q (some (.int (nar t z))) T.heap locs) : own_Goes p e below s Q cc ss T (mkF m pc Ls (.int z :: rest)) :=
  own_end X hlk (fun h => by rw [hret] at h; cases h) hc hs hQ fun fs hr => retN X hx hret ht hd hr
theorem own_retI (X : Stand p l e R s m args below meth c T locs cells slots) (hx : p.tables.exec = Jvm.exec) (hlk : meth.locks = false) {z : Int32} {rest : List Value} (hret : meth.sig.returnType = some .int) (hd : decode c.code pc = .ok (.ireturn, 1)) (hc : cells ≤ cc) (hs : slots ≤ ss) (hQ : Q (some (.int z)) T.heap locs) : own_Goes p e below s Q cc ss T (mkF m pc Ls (.int z :: rest)) :=
  own_end X hlk (fun h => by rw [hret] at h; cases h) hc hs hQ fun fs hr => retOut X hx hret rfl (Or.inl ⟨rfl, Or.inl rfl, _, rfl⟩) hd hr
theorem own_retL (X : Stand p l e R s m args below meth c T locs cells slots) (hx : p.tables.exec = Jvm.exec) (hlk : meth.locks = false) {z : Int64} {rest : List Value} (hret : meth.sig.returnType = some .long) (hd : decode c.code pc = .ok (.lreturn, 1)) (hc : cells ≤ cc) (hs : slots ≤ ss) (hQ : Q (some (.long z)) T.heap locs) : own_Goes p e below s Q cc ss T (mkF m pc Ls (.long z :: rest)) :=
  own_end X hlk (fun h => by rw [hret] at h; cases h) hc hs hQ fun fs hr => retOut X hx hret rfl (Or.inr (Or.inl ⟨rfl, rfl, _, rfl⟩)) hd hr
theorem own_narR {t : FieldType} {w : Value} (hw : w.isRef = true) : narrow t w = w := by rcases ref_cases hw with rfl | ⟨a, rfl⟩ <;> cases t <;> rfl
theorem own_fitR {n : String} {w : Value} (hw : w.isRef = true) : fits (.object n) w = true := by rcases ref_cases hw with rfl | ⟨a, rfl⟩ <;> rfl
theorem own_retA (X : Stand p l e R s m args below meth c T locs cells slots) (hx : p.tables.exec = Jvm.exec) (hlk : meth.locks = false) {w : Value} {t : FieldType} {rest : List Value} (hw : w.isRef = true) (hret : meth.sig.returnType = some t) (ht : t.isReference = true) (hd : decode c.code pc = .ok (.areturn, 1)) (hc : cells ≤ cc) (hs : slots ≤ ss) (hQ : Q (some w) T.heap locs) : own_Goes p e below s Q cc ss T (mkF m pc Ls (w :: rest)) :=
  own_end X hlk (fun h => by rw [hret] at h; cases h) hc hs hQ fun fs hr => retOut X hx hret (own_narR hw) (Or.inr (Or.inr (Or.inr (Or.inr ⟨rfl, ht, hw⟩)))) hd hr
theorem own_ret0 (X : Stand p l e R s m args below meth c T locs cells slots) (hx : p.tables.exec = Jvm.exec) (hlk : meth.locks = false) (hret : meth.sig.returnType = none) (hd : decode c.code pc = .ok (.return_, 1)) (hc : cells ≤ cc) (hs : slots ≤ ss) (hQ : Q none T.heap locs) : own_Goes p e below s Q cc ss T (mkF m pc Ls []) :=
  own_end X hlk (fun _ => rfl) hc hs hQ fun fs hr => X.returnOut hx hret hd hr
def own_GoesW (p : Program) (e : Env) (below : List Frame) (s : State) (Q : Option Value → Heap → List Loc → Prop) (cc ss : Nat) (T : State) (g : JFrame) : Prop :=
  ∃ s₂ o, Steps p.tables e below (T.setTop g) s₂ ∧ s₂.status = .running ∧ Ended s₂ below o ∧ ∃ v L, o = .returned v ∧ Q v s₂.heap L ∧ ReturnedEndW s o s₂ L cc ss
theorem own_stW (h : ∀ t, Steps p.tables e below (T'.setTop g') t → Steps p.tables e below (T.setTop g) t) (k : own_GoesW p e below s Q cc ss T' g') : own_GoesW p e below s Q cc ss T g := by
  obtain ⟨s₂, o, h1, r⟩ := k; exact ⟨s₂, o, h _ h1, r⟩
theorem own_endW {v : Option Value} {vm₁ : Vm} {k0 : Nat} (X : Stand p l e R (s.setVm vm₁) m args below meth c T locs cells slots) (hlk : meth.locks = false) (hS : s.Since vm₁ k0) (hk : k0 ≤ T.heap.size) (hv : meth.sig.returnType = none → v = none) (hc : cells ≤ cc) (hs : slots ≤ ss) (hQ : Q v T.heap locs)
    (st : ∀ fs, (∀ (f : JFrame) (acts : List Action), f.method = m → f.locked = none → f.entered = [] → (doReturn e (T.setTop f) acts v).1 = T.setFrames fs) → Steps p.tables e below (T.setTop g) (T.setFrames fs)) : own_GoesW p e below s Q cc ss T g := by
  obtain ⟨fs, hr, hrun, hended, h1, h2, h3, h4⟩ := X.leaveW hS hk (v := v) hv hlk
  exact ⟨_, _, st fs hr, hrun, hended, _, _, rfl, hQ, h1, h2, h3, h4.mono hc hs⟩
theorem own_retNW {vm₁ : Vm} {k0 : Nat} (X : Stand p l e R (s.setVm vm₁) m args below meth c T locs cells slots) (hx : p.tables.exec = Jvm.exec) (hlk : meth.locks = false) (hS : s.Since vm₁ k0) (hk : k0 ≤ T.heap.size) {t : FieldType} {z : Int32} {rest : List Value} (hret : meth.sig.returnType = some t) (ht : t = .boolean ∨ t = .byte ∨ t = .char ∨ t = .short) (hd : decode c.code pc = .ok (.ireturn, 1)) (hc : cells ≤ cc) (hs : slots ≤ ss) (hQ : Q (some (.int (nar t z))) T.heap locs) : own_GoesW p e below s Q cc ss T (mkF m pc Ls (.int z :: rest)) :=
  own_endW X hlk hS hk (fun h => by rw [hret] at h; cases h) hc hs hQ fun fs hr => retN X hx hret ht hd hr
theorem own_nsr {Z : State} {a0 : Array Value} {O K : String} {n : Nat} (w : (Cond.noSuperclass O).before a0 Z = true) (wk : (Cond.instantiable K n).before a0 Z = true) (hn : O ≠ K) : NS Z O K := by
  obtain ⟨c, k, h1, h2, h3, -, -⟩ := Cond.noSuperclass_spec w
  obtain ⟨t, kt, g1, -⟩ := Cond.instantiable_spec wk
  have ne := ids_ne h1 g1 hn
  refine ⟨c, t, h1, g1, fun fuel => ?_⟩
  cases fuel with
  | zero => rfl
  | succ f => simp [Vm.isSubclassAux, ne, h2, h3]
theorem own_nsn {Z : State} {a0 : Array Value} {C S K : String} {n : Nat} (w : (Cond.superclass C S).before a0 Z = true) (wk : (Cond.instantiable K n).before a0 Z = true) (q : NS Z C K) (hn : C ≠ K) : ∃ c t, Z.vm.findClass C = some c ∧ Z.vm.findClass K = some t ∧ Z.vm.assignable c t = false := by
  obtain ⟨c, t, h0, g0, n3⟩ := q
  obtain ⟨p, k, kp, h1, h2, h3, h4, h5, -, h7⟩ := Cond.superclass_spec h0 w
  obtain ⟨t', kt, g1, g2, g5, g6, -⟩ := Cond.instantiable_spec wk
  cases g0.symm.trans g1
  have g7 : kt.isInterface = false := by simp only [Bool.or_eq_false_iff] at g6; exact g6.1
  have ne := ids_ne h0 g0 hn
  refine ⟨c, t, h0, g0, ?_⟩
  show Z.vm.assignableAux (255 + 1) c t = false
  simp [Vm.assignableAux, ne, h2, g2, h5, g5, g7, Vm.isSubclass, n3]
theorem own_Sta_keep {Z : State} {h h' : Heap} {ws : List Addr} {C n d : String} {w : Value} (F : Sta Z h C n d w) (K : Keep h h' ws) (q : ∀ x ∈ ws, ∀ cell : Cell, h[x]? = some cell → cell.vm.isStatics = false) : Sta Z h' C n d w := by
  obtain ⟨cf, i, k, f, st, cell, h1, h2, h3, h4, h5, h6, h7⟩ := F
  exact ⟨cf, i, k, f, st, cell, h1, h2, h3, h4, K.2.1 st cell h5 (fun z => by rw [q st z cell h5] at h6; cases h6), h6, h7⟩
end New
end Jvm.RoadKit
/- laws to paste: Road.backV (cut by pick.py; bodies as the Statement names them) -/
namespace Jvm.Pilot.@@N@@
namespace StrChars
open Jvm Sem ClassFile Op Lib Jvm.Stand Jvm.Free.XT Jvm.Free.ALB Jvm.Free.JM Jvm.Free
open Jvm.Lib.Cold (StaticIs)
/-- a char array whose places are chars -/
def Ch (a : Addr) (A : Cell) (U : State) : Prop := Arr .char a A U ∧ Typed .char A
theorem Ch.mv {a : Addr} {A : Cell} {U U' : State} (h : Ch a A U) (hal : U.vm.Alike U'.vm) (hh : U'.heap = U.heap) : Ch a A U' := ⟨h.1.mv hal hh, h.2⟩
theorem Ch.keep {a : Addr} {A : Cell} {U U' : State} (h : Ch a A U) (hal : U.vm.Alike U'.vm) (hk : U'.heap[a]? = some A) : Ch a A U' := ⟨h.1.keep hal hk, h.2⟩
/-- what place i of a char[]'s cell holds -/
def cv (A : Cell) (i : Nat) : Int32 := match A.slots[i]? with | some (.int x) => x | _ => 0
theorem Ch.get {a : Addr} {A : Cell} {U : State} (h : Ch a A U) {i : Nat} (hi : i < A.slots.size) : A.slots[i]? = some (.int (cv A i)) := by
  have e := Array.getElem?_eq_getElem hi
  have f := h.2 i _ e
  unfold cv; rw [e]
  generalize A.slots[i] = v at f
  cases v <;> simp [fits] at f ⊢
/-- the byte that i2b leaves of a char -/
def lo8 (x : Int32) : Int32 := x.toInt8.toInt32
theorem fits_lo8 (y : Int32) : fits .byte (.int (lo8 y)) = true := by
  have h1 := y.toInt8.le_toInt
  have h2 := y.toInt8.toInt_lt
  simp only [lo8, fits, Bool.and_eq_true, decide_eq_true_eq, Int32.le_iff_toInt_le, Int8.toInt_toInt32, show (-128 : Int32).toInt = -128 from by decide, show (127 : Int32).toInt = 127 from by decide]
  omega
/-- A' is A but that each place j of lo .. hi - 1 holds f j -/
def Laid (A A' : Cell) (lo hi : Nat) (f : Nat → Value) : Prop := A'.cls = A.cls ∧ A'.vm = A.vm ∧ A'.slots.size = A.slots.size ∧ ∀ i, A'.slots[i]? = if lo ≤ i ∧ i < hi then some (f i) else A.slots[i]?
theorem Laid.zero (A : Cell) (lo : Nat) (f : Nat → Value) : Laid A A lo (lo + 0) f := ⟨rfl, rfl, rfl, fun i => by rw [if_neg (by omega)]⟩
theorem Laid.step {A Ak : Cell} {lo k : Nat} {f : Nat → Value} {v : Value} (h : Laid A Ak lo k f) (hlo : lo ≤ k) (hk : k < Ak.slots.size) (hv : v = f k) : Laid A (Ak.setSlot k v) lo (k + 1) f := by
  refine ⟨h.1, h.2.1, by simpa [Cell.setSlot] using h.2.2.1, fun i => ?_⟩
  by_cases e : k = i
  · subst e; rw [Cell.slots_setSlot_self v hk, if_pos (by omega), hv]
  · rw [Cell.slots_setSlot_ne v e, h.2.2.2 i]
    by_cases q : lo ≤ i ∧ i < k
    · rw [if_pos q, if_pos (by omega)]
    · rw [if_neg q, if_neg (by omega)]
def U16 : String := "java/lang/StringUTF16"
namespace Cmp5
def yN : MethodName := ⟨"java/lang/StringUTF16", "compress", "([CI[BII)I"⟩
abbrev yB : ByteArray := jdk_52_method_21_code
theorem d0 : decode yB 0 = .ok (.iconst 0, 1) := by decide +kernel
theorem d1 : decode yB 1 = .ok (.istore 5, 2) := by decide +kernel
theorem d3 : decode yB 3 = .ok (.iload 5, 2) := by decide +kernel
theorem d5 : decode yB 5 = .ok (.iload 4, 2) := by decide +kernel
theorem d7 : decode yB 7 = .ok (.if_icmp (.ge) 37, 3) := by decide +kernel
theorem d10 : decode yB 10 = .ok (.aload_n 0, 1) := by decide +kernel
theorem d11 : decode yB 11 = .ok (.iload_n 1, 1) := by decide +kernel
theorem d12 : decode yB 12 = .ok (.caload, 1) := by decide +kernel
theorem d13 : decode yB 13 = .ok (.istore 6, 2) := by decide +kernel
theorem d15 : decode yB 15 = .ok (.iload 6, 2) := by decide +kernel
theorem d17 : decode yB 17 = .ok (.sipush 255, 3) := by decide +kernel
theorem d20 : decode yB 20 = .ok (.if_icmp (.le) 6, 3) := by decide +kernel
theorem d26 : decode yB 26 = .ok (.aload_n 2, 1) := by decide +kernel
theorem d27 : decode yB 27 = .ok (.iload_n 3, 1) := by decide +kernel
theorem d28 : decode yB 28 = .ok (.iload 6, 2) := by decide +kernel
theorem d30 : decode yB 30 = .ok (.i2b, 1) := by decide +kernel
theorem d31 : decode yB 31 = .ok (.bastore, 1) := by decide +kernel
theorem d32 : decode yB 32 = .ok (.iinc 1 1, 3) := by decide +kernel
theorem d35 : decode yB 35 = .ok (.iinc 3 1, 3) := by decide +kernel
theorem d38 : decode yB 38 = .ok (.iinc 5 1, 3) := by decide +kernel
theorem d41 : decode yB 41 = .ok (.goto (-38), 3) := by decide +kernel
theorem d44 : decode yB 44 = .ok (.iload 4, 2) := by decide +kernel
theorem d46 : decode yB 46 = .ok (.ireturn, 1) := by decide +kernel
def site : List Cond := []
def tab : Cond := tabOf yN yB 7 (some .int) site
def P (b : Addr) (A : Cell) (d : Addr) (B : Cell) (o q len : Nat) (args : Array Value) (s : State) : Prop := args = #[.ref b, .int (Int32.ofNat o), .ref d, .int (Int32.ofNat q), .int (Int32.ofNat len)] ∧ Ch b A s ∧ Arr .byte d B s ∧ b ≠ d ∧ o + len ≤ A.slots.size ∧ q + len ≤ B.slots.size ∧ ∀ i, i < len → ¬ 255 < cv A (o + i)
def E (b : Addr) (A : Cell) (d : Addr) (B : Cell) (o q len : Nat) (r : Option Value) (s u : State) : Prop := r = some (.int (Int32.ofNat len)) ∧ ∃ B', Put d B' s u ∧ Laid B B' q (q + len) (fun j => Value.int (lo8 (cv A (o + (j - q)))))
/-- no char of the range above 255: len; the places written hold each char's low byte -/
theorem law (l : Launch) (b : Addr) (A : Cell) (d : Addr) (B : Cell) (o q len : Nat) : Law l yN 5 5 0 0 yB 7 (some .int) site (P b A d B o q len) (E b A d B o q len) (copyLocs d q len) 0 0 := by
  refine Law.of_walk (plainFor_of_name (by decide +kernel)) (by decide +kernel) (by decide +kernel) (by decide) (fun _ _ h => by rw [h.1]; rfl) (fun _ U U' hal hh h => ⟨h.1, h.2.1.mv hal hh, h.2.2.1.mv hal hh, h.2.2.2⟩) (fun r U U' V V' h1 hal h2 h => ⟨h.1, h.2.elim fun B' q => ⟨B', q.1.mv h1 h2, q.2⟩⟩) ?_
  intro p e s m args below meth c s₁ X0 hexec hbytes hml hret hlk hnm hown hh0 W hP
  obtain ⟨rfl, hA, hB, hne, l1, l2, hp⟩ := hP
  have c1 : Steps p.tables e below (s₁.setTop (entryFrame m #[.ref b, .int (Int32.ofNat o), .ref d, .int (Int32.ofNat q), .int (Int32.ofNat len)] 7)) (s₁.setTop (mkF m 0 #[.val (.ref b), .val (.int (Int32.ofNat o)), .val (.ref d), .val (.int (Int32.ofNat q)), .val (.int (Int32.ofNat len)), .unset, .unset] [])) := entry rfl
  have hA0 := hA.1.mv X0.warmed.alike hh0
  have hB0 := hB.mv X0.warmed.alike hh0
  have a31 := hA.1.2.2.2
  have c2 : Steps p.tables e below (s₁.setTop (entryFrame m #[.ref b, .int (Int32.ofNat o), .ref d, .int (Int32.ofNat q), .int (Int32.ofNat len)] 7)) (s₁.setTop (mkF m 3 #[.val (.ref b), .val (.int (Int32.ofNat o)), .val (.ref d), .val (.int (Int32.ofNat q)), .val (.int (Int32.ofNat len)), .val (.int 0), .unset] [])) := c1.trans (by
    refine iconstV X0.here hexec rfl 0 (hb hbytes d0) (by decide) ?_
    refine XS.istore X0.here hexec rfl (hb hbytes d1) rfl rfl ?_
    exact Steps.refl _)
  have loop : ∀ (r i : Nat), i + r = len → ∀ (z : Slot), (z = .unset ∨ ∃ w, z = .val w ∧ w.category = 1) → ∀ (Tl : State) (Bk : Cell), Stand p l e { frames := 0, locals := 0, cells := 0, slots := 0 } s m #[.ref b, .int (Int32.ofNat o), .ref d, .int (Int32.ofNat q), .int (Int32.ofNat len)] below meth c Tl ([] ++ copyLocs d q i) 0 0 → Put d Bk s₁ Tl → Laid B Bk q (q + i) (fun j => Value.int (lo8 (cv A (o + (j - q))))) →
      Steps p.tables e below (s₁.setTop (entryFrame m #[.ref b, .int (Int32.ofNat o), .ref d, .int (Int32.ofNat q), .int (Int32.ofNat len)] 7)) (Tl.setTop (mkF m 3 #[.val (.ref b), .val (.int (Int32.ofNat (o + i))), .val (.ref d), .val (.int (Int32.ofNat (q + i))), .val (.int (Int32.ofNat len)), .val (.int (Int32.ofNat i)), z] [])) → ∃ (T' : State) (B' : Cell) (z' : Slot), Stand p l e { frames := 0, locals := 0, cells := 0, slots := 0 } s m #[.ref b, .int (Int32.ofNat o), .ref d, .int (Int32.ofNat q), .int (Int32.ofNat len)] below meth c T' ([] ++ copyLocs d q len) 0 0 ∧ Put d B' s₁ T' ∧ Laid B B' q (q + len) (fun j => Value.int (lo8 (cv A (o + (j - q))))) ∧
      Steps p.tables e below (s₁.setTop (entryFrame m #[.ref b, .int (Int32.ofNat o), .ref d, .int (Int32.ofNat q), .int (Int32.ofNat len)] 7)) (T'.setTop (mkF m 3 #[.val (.ref b), .val (.int (Int32.ofNat (o + len))), .val (.ref d), .val (.int (Int32.ofNat (q + len))), .val (.int (Int32.ofNat len)), .val (.int (Int32.ofNat len)), z'] [])) := by
    intro r
    induction r with
    | zero =>
      intro i hi z hz Tl Bk Xl pl fl cl
      have hil : i = len := by omega
      rw [hil] at Xl fl cl
      exact ⟨Tl, Bk, z, Xl, pl, fl, cl⟩
    | succ r ih =>
      intro i hi z hz Tl Bk Xl pl fl cl
      have all := X0.warmed.alike.symm.trans Xl.warmed.alike
      have hAl := hA0.keep all (pl.other hne hA0.1)
      have hBk := hB0.like all pl.1 fl.1 fl.2.1 fl.2.2.1
      have hlt : q + i < Bk.slots.size := by rw [fl.2.2.1]; omega
      have c3 : Steps p.tables e below (s₁.setTop (entryFrame m #[.ref b, .int (Int32.ofNat o), .ref d, .int (Int32.ofNat q), .int (Int32.ofNat len)] 7)) (Tl.setTop (mkF m 12 #[.val (.ref b), .val (.int (Int32.ofNat (o + i))), .val (.ref d), .val (.int (Int32.ofNat (q + i))), .val (.int (Int32.ofNat len)), .val (.int (Int32.ofNat i)), z] [.int (Int32.ofNat (o + i)), .ref b])) := cl.trans (by
        refine XS.iload Xl.here hexec rfl (hb hbytes d3) rfl ?_
        refine XS.iload Xl.here hexec rfl (hb hbytes d5) rfl ?_
        refine XS.icmpNo Xl.here hexec rfl (hb hbytes d7) rfl (ii_ge_f (lt32 (by omega) (by omega))) ?_
        refine XS.aloadN Xl.here hexec rfl (hb hbytes d10) rfl rfl ?_
        refine XS.iloadN Xl.here hexec rfl (hb hbytes d11) rfl ?_
        exact Steps.refl _)
      have c4 : Steps p.tables e below (s₁.setTop (entryFrame m #[.ref b, .int (Int32.ofNat o), .ref d, .int (Int32.ofNat q), .int (Int32.ofNat len)] 7)) (Tl.setTop (mkF m 13 #[.val (.ref b), .val (.int (Int32.ofNat (o + i))), .val (.ref d), .val (.int (Int32.ofNat (q + i))), .val (.int (Int32.ofNat len)), .val (.int (Int32.ofNat i)), z] [.int (cv A (o + i))])) := c3.trans (by
        refine Xl.aget hexec hAl rfl (hA.get (i := o + i) (by omega)) rfl rfl (hb hbytes d12) ?_
        exact Steps.refl _)
      have c5 : Steps p.tables e below (s₁.setTop (entryFrame m #[.ref b, .int (Int32.ofNat o), .ref d, .int (Int32.ofNat q), .int (Int32.ofNat len)] 7)) (Tl.setTop (mkF m 15 #[.val (.ref b), .val (.int (Int32.ofNat (o + i))), .val (.ref d), .val (.int (Int32.ofNat (q + i))), .val (.int (Int32.ofNat len)), .val (.int (Int32.ofNat i)), .val (.int (cv A (o + i)))] [])) := c4.trans (by
        refine XS.istoreS Xl.here hexec rfl (hb hbytes d13) rfl rfl hz ?_
        exact Steps.refl _)
      have c6 : Steps p.tables e below (s₁.setTop (entryFrame m #[.ref b, .int (Int32.ofNat o), .ref d, .int (Int32.ofNat q), .int (Int32.ofNat len)] 7)) (Tl.setTop (mkF m 31 #[.val (.ref b), .val (.int (Int32.ofNat (o + i))), .val (.ref d), .val (.int (Int32.ofNat (q + i))), .val (.int (Int32.ofNat len)), .val (.int (Int32.ofNat i)), .val (.int (cv A (o + i)))] [.int (lo8 (cv A (o + i))), .int (Int32.ofNat (q + i)), .ref d])) := c5.trans (by
        refine XS.iload Xl.here hexec rfl (hb hbytes d15) rfl ?_
        refine sipushV Xl.here hexec rfl 255 (hb hbytes d17) (by decide) ?_
        refine XS.icmpYes Xl.here hexec rfl (pc0 := 20) rfl (hb hbytes d20) rfl (ii_le_t (hp i (by omega))) (by decide) rfl ?_
        refine XS.aloadN Xl.here hexec rfl (hb hbytes d26) rfl rfl ?_
        refine XS.iloadN Xl.here hexec rfl (hb hbytes d27) rfl ?_
        refine XS.iload Xl.here hexec rfl (hb hbytes d28) rfl ?_
        refine i2b Xl.here hexec rfl (hb hbytes d30) rfl ?_
        exact Steps.refl _)
      obtain ⟨T7, X7, p7, st7⟩ := Xl.aput hexec hBk rfl hlt rfl (fits_lo8 (cv A (o + i))) (g := (mkF m 31 #[.val (.ref b), .val (.int (Int32.ofNat (o + i))), .val (.ref d), .val (.int (Int32.ofNat (q + i))), .val (.int (Int32.ofNat len)), .val (.int (Int32.ofNat i)), .val (.int (cv A (o + i)))] [.int (lo8 (cv A (o + i))), .int (Int32.ofNat (q + i)), .ref d])) rfl (rest := []) rfl (hb hbytes d31)
      have c8 : Steps p.tables e below (s₁.setTop (entryFrame m #[.ref b, .int (Int32.ofNat o), .ref d, .int (Int32.ofNat q), .int (Int32.ofNat len)] 7)) (T7.setTop (mkF m 32 #[.val (.ref b), .val (.int (Int32.ofNat (o + i))), .val (.ref d), .val (.int (Int32.ofNat (q + i))), .val (.int (Int32.ofNat len)), .val (.int (Int32.ofNat i)), .val (.int (cv A (o + i)))] [])) := c6.trans (st7 _ (Steps.refl _))
      have c9 : Steps p.tables e below (s₁.setTop (entryFrame m #[.ref b, .int (Int32.ofNat o), .ref d, .int (Int32.ofNat q), .int (Int32.ofNat len)] 7)) (T7.setTop (mkF m 3 #[.val (.ref b), .val (.int (Int32.ofNat (o + i) + 1)), .val (.ref d), .val (.int (Int32.ofNat (q + i) + 1)), .val (.int (Int32.ofNat len)), .val (.int (Int32.ofNat i + 1)), .val (.int (cv A (o + i)))] [])) := c8.trans (by
        refine iincV X7.here hexec rfl 1 (hb hbytes d32) (by decide) rfl rfl ?_
        refine iincV X7.here hexec rfl 1 (hb hbytes d35) (by decide) rfl rfl ?_
        refine iincV X7.here hexec rfl 1 (hb hbytes d38) (by decide) rfl rfl ?_
        refine XS.goto X7.here hexec rfl (pc0 := 41) rfl (hb hbytes d41) (by decide) rfl ?_
        exact Steps.refl _)
      have c10 : Steps p.tables e below (s₁.setTop (entryFrame m #[.ref b, .int (Int32.ofNat o), .ref d, .int (Int32.ofNat q), .int (Int32.ofNat len)] 7)) (T7.setTop (mkF m 3 #[.val (.ref b), .val (.int (Int32.ofNat (o + (i + 1)))), .val (.ref d), .val (.int (Int32.ofNat (q + (i + 1)))), .val (.int (Int32.ofNat len)), .val (.int (Int32.ofNat (i + 1))), .val (.int (cv A (o + i)))] [])) := by
        have := c9
        rw [succ32, succ32, succ32] at this
        exact this
      exact ih (i + 1) (by omega) _ (Or.inr ⟨_, rfl, rfl⟩) T7 _ (by rw [copyLocs_step, ← List.append_assoc]; exact X7) (pl.trans p7) (fl.step (by omega) hlt (by simp)) c10
  obtain ⟨T9, B9, z9, X9, p9, f9, g9⟩ := loop len 0 (by omega) .unset (Or.inl rfl) s₁ B (by simpa [copyLocs] using X0) ⟨hB0.1, fun _ _ => rfl, rfl⟩ (Laid.zero _ _ _) c2
  have c11 : Steps p.tables e below (s₁.setTop (entryFrame m #[.ref b, .int (Int32.ofNat o), .ref d, .int (Int32.ofNat q), .int (Int32.ofNat len)] 7)) (T9.setTop (mkF m 46 #[.val (.ref b), .val (.int (Int32.ofNat (o + len))), .val (.ref d), .val (.int (Int32.ofNat (q + len))), .val (.int (Int32.ofNat len)), .val (.int (Int32.ofNat len)), z9] [.int (Int32.ofNat len)])) := g9.trans (by
    refine XS.iload X9.here hexec rfl (hb hbytes d3) rfl ?_
    refine XS.iload X9.here hexec rfl (hb hbytes d5) rfl ?_
    refine XS.icmpYes X9.here hexec rfl (pc0 := 7) rfl (hb hbytes d7) rfl (ii_ge_t (nlt32 (by omega) (Nat.le_refl _))) (by decide) rfl ?_
    refine XS.iload X9.here hexec rfl (hb hbytes d44) rfl ?_
    exact Steps.refl _)
  exact ⟨T9, some (.int (Int32.ofNat len)), _, _, _, X9, by simp, rfl, rfl, (fun h => by cases h), ⟨rfl, B9, p9.from hh0, f9⟩, fun fs hl => c11.trans (X9.ireturnOut hexec hret rfl (Or.inl rfl) (hb hbytes d46) hl)⟩
end Cmp5
namespace Cmp3
def yN : MethodName := ⟨"java/lang/StringUTF16", "compress", "([CII)[B"⟩
abbrev yB : ByteArray := jdk_52_method_16_code
theorem d0 : decode yB 0 = .ok (.iload_n 2, 1) := by decide +kernel
theorem d1 : decode yB 1 = .ok (.newarray .byte, 2) := by decide +kernel
theorem d3 : decode yB 3 = .ok (.astore_n 3, 1) := by decide +kernel
theorem d4 : decode yB 4 = .ok (.aload_n 0, 1) := by decide +kernel
theorem d5 : decode yB 5 = .ok (.iload_n 1, 1) := by decide +kernel
theorem d6 : decode yB 6 = .ok (.aload_n 3, 1) := by decide +kernel
theorem d7 : decode yB 7 = .ok (.iconst 0, 1) := by decide +kernel
theorem d8 : decode yB 8 = .ok (.iload_n 2, 1) := by decide +kernel
theorem d9 : decode yB 9 = .ok (.invokestatic 115, 3) := by decide +kernel
theorem d12 : decode yB 12 = .ok (.istore 4, 2) := by decide +kernel
theorem d14 : decode yB 14 = .ok (.iload 4, 2) := by decide +kernel
theorem d16 : decode yB 16 = .ok (.iload_n 2, 1) := by decide +kernel
theorem d17 : decode yB 17 = .ok (.if_icmp (.eq) 40, 3) := by decide +kernel
theorem d57 : decode yB 57 = .ok (.aload_n 3, 1) := by decide +kernel
theorem d58 : decode yB 58 = .ok (.areturn, 1) := by decide +kernel
def site : List Cond := [.arrayClass .byte, Cmp5.tab] ++ staticW U16 115 Cmp5.yN
def tab : Cond := tabOf yN yB 6 (some (.array .byte)) site
def P (b : Addr) (A : Cell) (o len : Nat) (args : Array Value) (s : State) : Prop := args = #[.ref b, .int (Int32.ofNat o), .int (Int32.ofNat len)] ∧ Ch b A s ∧ o + len ≤ A.slots.size ∧ len ≤ 536870912 ∧ ∀ i, i < len → ¬ 255 < cv A (o + i)
def E (b : Addr) (A : Cell) (o len : Nat) (r : Option Value) (s u : State) : Prop := NewArr .byte "[B" len (fun j => .int (lo8 (cv A (o + j)))) r s u ∧ u.heap.size = s.heap.size + 1
/-- no char of the range above 255: a new byte[] of their low bytes -/
theorem law (l : Launch) (b : Addr) (A : Cell) (o len : Nat) : Law l yN 3 3 1 18 yB 6 (some (.array .byte)) site (P b A o len) (E b A o len) [] 1 len := by
  refine Law.of_walk (plainFor_of_name (by decide +kernel)) (by decide +kernel) (by decide +kernel) (by decide) (fun _ _ h => by rw [h.1]; rfl) (fun _ U U' hal hh h => ⟨h.1, h.2.1.mv hal hh, h.2.2⟩) (fun r U U' V V' h1 hal h2 h => ⟨NewArr.mv r U U' V V' h1 hal h2 h.1, by rw [h1, h2]; exact h.2⟩) ?_
  intro p e s m args below meth c s₁ X0 hexec hbytes hml hret hlk hnm hown hh0 W hP
  obtain ⟨rfl, hA, l1, l2, hp⟩ := hP
  have a31 := hA.1.2.2.2
  have c1 : Steps p.tables e below (s₁.setTop (entryFrame m #[.ref b, .int (Int32.ofNat o), .int (Int32.ofNat len)] 6)) (s₁.setTop (mkF m 0 #[.val (.ref b), .val (.int (Int32.ofNat o)), .val (.int (Int32.ofNat len)), .unset, .unset, .unset] [])) := entry rfl
  have c2 : Steps p.tables e below (s₁.setTop (entryFrame m #[.ref b, .int (Int32.ofNat o), .int (Int32.ofNat len)] 6)) (s₁.setTop (mkF m 1 #[.val (.ref b), .val (.int (Int32.ofNat o)), .val (.int (Int32.ofNat len)), .unset, .unset, .unset] [.int (Int32.ofNat len)])) := c1.trans (by
    refine XS.iloadN X0.here hexec rfl (hb hbytes d0) rfl ?_
    exact Steps.refl _)
  obtain ⟨T3, B3, X3, ba3, bs3, bv3, bh3, bf3, st3⟩ := X0.anew hexec (atype := .byte) (wk W (.arrayClass .byte)) rfl (by show len * 1 ≤ _; omega) (by omega) (g := (mkF m 1 #[.val (.ref b), .val (.int (Int32.ofNat o)), .val (.int (Int32.ofNat len)), .unset, .unset, .unset] [.int (Int32.ofNat len)])) rfl (hb hbytes d1) (rest := []) rfl (Nat.le_refl _) (by show 0 + len ≤ len; omega)
  rw [hh0] at ba3 st3
  have kp3 : XT.Kept s T3 := (XT.Kept.of_eq hh0).push bh3
  have hA3 := hA.keep X3.warmed.alike (kp3 _ _ hA.1.1)
  have hne : b ≠ s.heap.size := hA.1.ne
  have c4 : Steps p.tables e below (s₁.setTop (entryFrame m #[.ref b, .int (Int32.ofNat o), .int (Int32.ofNat len)] 6)) (T3.setTop (mkF m 3 #[.val (.ref b), .val (.int (Int32.ofNat o)), .val (.int (Int32.ofNat len)), .unset, .unset, .unset] [.ref s.heap.size])) := c2.trans (st3 _ (Steps.refl _))
  have c5 : Steps p.tables e below (s₁.setTop (entryFrame m #[.ref b, .int (Int32.ofNat o), .int (Int32.ofNat len)] 6)) (T3.setTop (mkF m 9 #[.val (.ref b), .val (.int (Int32.ofNat o)), .val (.int (Int32.ofNat len)), .val (.ref s.heap.size), .unset, .unset] [.int (Int32.ofNat len), .int 0, .ref s.heap.size, .int (Int32.ofNat o), .ref b])) := c4.trans (by
    refine XS.astoreN X3.here hexec rfl (hb hbytes d3) rfl rfl rfl ?_
    refine XS.aloadN X3.here hexec rfl (hb hbytes d4) rfl rfl ?_
    refine XS.iloadN X3.here hexec rfl (hb hbytes d5) rfl ?_
    refine XS.aloadN X3.here hexec rfl (hb hbytes d6) rfl rfl ?_
    refine iconstV X3.here hexec rfl 0 (hb hbytes d7) (by decide) ?_
    refine XS.iloadN X3.here hexec rfl (hb hbytes d8) rfl ?_
    exact Steps.refl _)
  obtain ⟨v6, T6, X6, E6, g6⟩ := X3.callS hexec (Cmp5.law l b A s.heap.size B3 o 0 len) hown (wks W (staticW U16 115 Cmp5.yN)) (wk W Cmp5.tab) (W := 0) (Nat.le_of_ble_eq_true rfl) (Nat.le_of_ble_eq_true rfl) (Nat.le_refl _) (by show 0 + len + 0 ≤ len; omega) (g := (mkF m 9 #[.val (.ref b), .val (.int (Int32.ofNat o)), .val (.int (Int32.ofNat len)), .val (.ref s.heap.size), .unset, .unset] [.int (Int32.ofNat len), .int (Int32.ofNat 0), .ref s.heap.size, .int (Int32.ofNat o), .ref b])) rfl (by rw [hml]; rfl) c5 (argsL := [.ref b, .int (Int32.ofNat o), .ref s.heap.size, .int (Int32.ofNat 0), .int (Int32.ofNat len)]) (rest := []) rfl rfl (by show 2 * 0 + 0 ≤ _; decide) (hb hbytes d9) (⟨rfl, hA3, ba3, hne, l1, by rw [bs3]; simp, hp⟩)
  obtain ⟨rfl, B6, p6, f6⟩ := E6
  have c7 : Steps p.tables e below (s₁.setTop (entryFrame m #[.ref b, .int (Int32.ofNat o), .int (Int32.ofNat len)] 6)) (T6.setTop (mkF m 12 #[.val (.ref b), .val (.int (Int32.ofNat o)), .val (.int (Int32.ofNat len)), .val (.ref s.heap.size), .unset, .unset] [.int (Int32.ofNat len)])) := g6
  have c8 : Steps p.tables e below (s₁.setTop (entryFrame m #[.ref b, .int (Int32.ofNat o), .int (Int32.ofNat len)] 6)) (T6.setTop (mkF m 58 #[.val (.ref b), .val (.int (Int32.ofNat o)), .val (.int (Int32.ofNat len)), .val (.ref s.heap.size), .val (.int (Int32.ofNat len)), .unset] [.ref s.heap.size])) := c7.trans (by
    refine XS.istore X6.here hexec rfl (hb hbytes d12) rfl rfl ?_
    refine XS.iload X6.here hexec rfl (hb hbytes d14) rfl ?_
    refine XS.iloadN X6.here hexec rfl (hb hbytes d16) rfl ?_
    refine XS.icmpYes X6.here hexec rfl (pc0 := 17) rfl (hb hbytes d17) rfl (ii_eq_t rfl) (by decide) rfl ?_
    refine XS.aloadN X6.here hexec rfl (hb hbytes d57) rfl rfl ?_
    exact Steps.refl _)
  have X8 := X6.wide (L' := []) (cells' := 1) (slots' := len) (fun x hx hlt => by
    simp only [List.nil_append, copyLocs, List.mem_map, List.mem_range] at hx
    obtain ⟨i, -, rfl⟩ := hx
    exact absurd hlt (Nat.lt_irrefl _)) (Nat.le_refl _) (by omega)
  exact ⟨T6, some (.ref s.heap.size), _, _, _, X8, rfl, rfl, rfl, (fun h => by cases h), ⟨⟨rfl, B6, ba3.like (X3.warmed.alike.symm.trans X6.warmed.alike) p6.1 f6.1 f6.2.1 f6.2.2.1, f6.2.1.trans bv3, by rw [X6.warmed.alike.findClass, f6.1]; exact bf3, by rw [f6.2.2.1, bs3]; simp, fun j hj => by rw [f6.2.2.2 j, if_pos (by omega)]; rfl, kp3.put p6 (Nat.le_refl _)⟩, by rw [p6.2.2, bh3, hh0]; simp⟩, fun fs hl => c8.trans (X8.areturnOut hexec rfl hret rfl (hb hbytes d58) hl)⟩
end Cmp3
namespace CodL
def yN : MethodName := ⟨"java/lang/StringUTF16", "coderFromArrayLen", "([BI)B"⟩
abbrev yB : ByteArray := jdk_52_method_15_code
theorem d0 : decode yB 0 = .ok (.iload_n 1, 1) := by decide +kernel
theorem d1 : decode yB 1 = .ok (.aload_n 0, 1) := by decide +kernel
theorem d2 : decode yB 2 = .ok (.arraylength, 1) := by decide +kernel
theorem d3 : decode yB 3 = .ok (.isub, 1) := by decide +kernel
theorem d4 : decode yB 4 = .ok (.bipush 31, 2) := by decide +kernel
theorem d6 : decode yB 6 = .ok (.iushr, 1) := by decide +kernel
theorem d7 : decode yB 7 = .ok (.i2b, 1) := by decide +kernel
theorem d8 : decode yB 8 = .ok (.ireturn, 1) := by decide +kernel
def site : List Cond := []
def tab : Cond := tabOf yN yB 2 (some .byte) site
def P (d : Addr) (B : Cell) (args : Array Value) (s : State) : Prop := args = #[.ref d, .int (Int32.ofNat B.slots.size)] ∧ Arr .byte d B s
def E (r : Option Value) (s u : State) : Prop := XT.PureE (some (.int 0)) r s u
/-- an array as long as the number of chars: LATIN1 -/
theorem law (l : Launch) (d : Addr) (B : Cell) : Law l yN 2 2 0 0 yB 2 (some .byte) site (P d B) E [] 0 0 := by
  refine Law.of_walk (plainFor_of_name (by decide +kernel)) (by decide +kernel) (by decide +kernel) (by decide) (fun _ _ h => by rw [h.1]; rfl) (fun _ U U' hal hh h => ⟨h.1, h.2.mv hal hh⟩) (fun r U U' V V' h1 hal h2 h => XT.PureE.mv r U U' V V' h1 hal h2 h) ?_
  intro p e s m args below meth c s₁ X0 hexec hbytes hml hret hlk hnm hown hh0 W hP
  obtain ⟨rfl, hB⟩ := hP
  have hB0 := hB.mv X0.warmed.alike hh0
  have c1 : Steps p.tables e below (s₁.setTop (entryFrame m #[.ref d, .int (Int32.ofNat B.slots.size)] 2)) (s₁.setTop (mkF m 0 #[.val (.ref d), .val (.int (Int32.ofNat B.slots.size))] [])) := entry rfl
  have c2 : Steps p.tables e below (s₁.setTop (entryFrame m #[.ref d, .int (Int32.ofNat B.slots.size)] 2)) (s₁.setTop (mkF m 2 #[.val (.ref d), .val (.int (Int32.ofNat B.slots.size))] [.ref d, .int (Int32.ofNat B.slots.size)])) := c1.trans (by
    refine XS.iloadN X0.here hexec rfl (hb hbytes d0) rfl ?_
    refine XS.aloadN X0.here hexec rfl (hb hbytes d1) rfl rfl ?_
    exact Steps.refl _)
  have c3 : Steps p.tables e below (s₁.setTop (entryFrame m #[.ref d, .int (Int32.ofNat B.slots.size)] 2)) (s₁.setTop (mkF m 8 #[.val (.ref d), .val (.int (Int32.ofNat B.slots.size))] [.int (lo8 (ushr (Int32.ofNat B.slots.size - Int32.ofNat B.slots.size) 31))])) := c2.trans (by
    refine X0.alen hexec hB0 rfl rfl (hb hbytes d2) ?_
    refine XS.isub X0.here hexec rfl (hb hbytes d3) rfl ?_
    refine bipushV X0.here hexec rfl 31 (hb hbytes d4) (by decide) ?_
    refine iushr X0.here hexec rfl (hb hbytes d6) rfl ?_
    refine i2b X0.here hexec rfl (hb hbytes d7) rfl ?_
    exact Steps.refl _)
  have e0 : lo8 (ushr (Int32.ofNat B.slots.size - Int32.ofNat B.slots.size) 31) = 0 := by rw [Int32.sub_self]; decide
  rw [e0] at c3
  exact ⟨s₁, some (.int 0), _, _, _, X0, rfl, rfl, rfl, (fun h => by cases h), ⟨rfl, hh0⟩, fun fs hl => c3.trans (X0.ireturnOut hexec hret rfl (Or.inr (Or.inr (Or.inl rfl))) (hb hbytes d8) hl)⟩
end CodL
/-- the String at a is Latin-1 over a new byte[] (the heap's one new cell): the low bytes of the len chars of A from o on; every cell but a is kept -/
def Got (a : Addr) (D : Cell) (fV fC : Field) (A : Cell) (o len : Nat) (r : Option Value) (s u : State) : Prop := r = none ∧ ∃ D' V : Cell, Blank "java/lang/String" a D' u ∧ Same D D' [fV.slot, fC.slot] ∧ D'.slots[fV.slot]? = some (.ref s.heap.size) ∧ D'.slots[fC.slot]? = some (.int 0) ∧ Arr .byte s.heap.size V u ∧ V.vm = .none ∧ u.vm.findClass "[B" = some V.cls ∧ V.slots.size = len ∧ (∀ j, j < len → V.slots[j]? = some (.int (lo8 (cv A (o + j))))) ∧ (∀ (y : Addr) (c : Cell), y ≠ a → s.heap[y]? = some c → u.heap[y]? = some c) ∧ u.heap.size = s.heap.size + 1
theorem Got.mv {a : Addr} {D A : Cell} {fV fC : Field} {o len : Nat} : ∀ r (U U' V V' : State), U'.heap = U.heap → V.vm.Alike V'.vm → V'.heap = V.heap → Got a D fV fC A o len r U V → Got a D fV fC A o len r U' V' :=
  fun r U U' V V' h1 hal h2 ⟨e0, D', X, a1, a2, a3, a4, a5, a6, a7, a8, a9, a10, a11⟩ => ⟨e0, D', X, a1.mv hal h2, a2, by rw [h1]; exact a3, a4, by rw [h1]; exact a5.mv hal h2, a6, by rw [hal.findClass]; exact a7, a8, a9, by rw [h1, h2]; exact a10, by rw [h1, h2]; exact a11⟩
namespace New4
def yN : MethodName := ⟨"java/lang/String", "<init>", "([CIILjava/lang/Void;)V"⟩
abbrev yB : ByteArray := jdk_42_method_149_code
theorem d0 : decode yB 0 = .ok (.aload_n 0, 1) := by decide +kernel
theorem d1 : decode yB 1 = .ok (.invokespecial 1, 3) := by decide +kernel
theorem d4 : decode yB 4 = .ok (.iload_n 3, 1) := by decide +kernel
theorem d5 : decode yB 5 = .ok (.ifCond (.ne) 22, 3) := by decide +kernel
theorem d27 : decode yB 27 = .ok (.getstatic 38, 3) := by decide +kernel
theorem d30 : decode yB 30 = .ok (.ifCond (.eq) 28, 3) := by decide +kernel
theorem d33 : decode yB 33 = .ok (.aload_n 1, 1) := by decide +kernel
theorem d34 : decode yB 34 = .ok (.iload_n 2, 1) := by decide +kernel
theorem d35 : decode yB 35 = .ok (.iload_n 3, 1) := by decide +kernel
theorem d36 : decode yB 36 = .ok (.invokestatic 177, 3) := by decide +kernel
theorem d39 : decode yB 39 = .ok (.astore 5, 2) := by decide +kernel
theorem d41 : decode yB 41 = .ok (.aload_n 0, 1) := by decide +kernel
theorem d42 : decode yB 42 = .ok (.aload 5, 2) := by decide +kernel
theorem d44 : decode yB 44 = .ok (.iload_n 3, 1) := by decide +kernel
theorem d45 : decode yB 45 = .ok (.invokestatic 47, 3) := by decide +kernel
theorem d48 : decode yB 48 = .ok (.putfield 15, 3) := by decide +kernel
theorem d51 : decode yB 51 = .ok (.aload_n 0, 1) := by decide +kernel
theorem d52 : decode yB 52 = .ok (.aload 5, 2) := by decide +kernel
theorem d54 : decode yB 54 = .ok (.putfield 9, 3) := by decide +kernel
theorem d57 : decode yB 57 = .ok (.return_, 1) := by decide +kernel
def site : List Cond := [.fieldLink "java/lang/String" 38 "java/lang/String" "COMPACT_STRINGS" "Z", Cmp3.tab, CodL.tab, .laysFinal "java/lang/String" "java/lang/String" "value" "[B", .fieldLink "java/lang/String" 9 "java/lang/String" "value" "[B", .laysFinal "java/lang/String" "java/lang/String" "coder" "B", .fieldLink "java/lang/String" 15 "java/lang/String" "coder" "B"] ++ objW "java/lang/String" 1 ++ staticW "java/lang/String" 177 Cmp3.yN ++ staticW "java/lang/String" 47 CodL.yN
def tab : Cond := tabOf yN yB 6 none site
def P (a : Addr) (D : Cell) (fV fC : Field) (b : Addr) (A : Cell) (z : Int32) (o len : Nat) (args : Array Value) (s : State) : Prop := args = #[.ref a, .ref b, .int (Int32.ofNat o), .int (Int32.ofNat len), .null] ∧ Blank "java/lang/String" a D s ∧ Found "java/lang/String" "value" "[B" fV s ∧ Found "java/lang/String" "coder" "B" fC s ∧ Ch b A s ∧ StaticIs s "java/lang/String" "COMPACT_STRINGS" "Z" (.int z) ∧ ¬ z = 0 ∧ 0 < len ∧ o + len ≤ A.slots.size ∧ len ≤ 536870912 ∧ ∀ i, i < len → ¬ 255 < cv A (o + i)
def E (a : Addr) (D : Cell) (fV fC : Field) (A : Cell) (o len : Nat) (r : Option Value) (s u : State) : Prop := Got a D fV fC A o len r s u
/-- len > 0, no char of the range above 255: a Latin-1 String of their low bytes -/
theorem law (l : Launch) (a : Addr) (D : Cell) (fV fC : Field) (b : Addr) (A : Cell) (z : Int32) (o len : Nat) : Law l yN 5 4 2 35 yB 6 none site (P a D fV fC b A z o len) (E a D fV fC A o len) [⟨a, fC.slot⟩, ⟨a, fV.slot⟩] 1 len := by
  refine Law.of_walk (plainFor_of_name (by decide +kernel)) (by decide +kernel) (by decide +kernel) (by decide) (fun _ _ h => by rw [h.1]; rfl) (fun _ U U' hal hh h => ⟨h.1, h.2.1.mv hal hh, h.2.2.1.al hal, h.2.2.2.1.al hal, h.2.2.2.2.1.mv hal hh, h.2.2.2.2.2.1.there hal hh, h.2.2.2.2.2.2⟩) (fun r U U' V V' h1 hal h2 h => Got.mv r U U' V V' h1 hal h2 h) ?_
  intro p e s m args below meth c s₁ X0 hexec hbytes hml hret hlk hnm hown hh0 W hP
  obtain ⟨rfl, hB, f1, f2, hA, s1, hz, l0, l1, l2, hp⟩ := hP
  have a31 := hA.1.2.2.2
  have c1 : Steps p.tables e below (s₁.setTop (entryFrame m #[.ref a, .ref b, .int (Int32.ofNat o), .int (Int32.ofNat len), .null] 6)) (s₁.setTop (mkF m 0 #[.val (.ref a), .val (.ref b), .val (.int (Int32.ofNat o)), .val (.int (Int32.ofNat len)), .val .null, .unset] [])) := entry rfl
  have c2 : Steps p.tables e below (s₁.setTop (entryFrame m #[.ref a, .ref b, .int (Int32.ofNat o), .int (Int32.ofNat len), .null] 6)) (s₁.setTop (mkF m 1 #[.val (.ref a), .val (.ref b), .val (.int (Int32.ofNat o)), .val (.int (Int32.ofNat len)), .val .null, .unset] [.ref a])) := c1.trans (by
    refine XS.aloadN X0.here hexec rfl (hb hbytes d0) rfl rfl ?_
    exact Steps.refl _)
  obtain ⟨T3, X3, q3, st3⟩ := X0.oinit hexec hown (wks W (objW "java/lang/String" 1)) (g := (mkF m 1 #[.val (.ref a), .val (.ref b), .val (.int (Int32.ofNat o)), .val (.int (Int32.ofNat len)), .val .null, .unset] [.ref a])) rfl (by rw [hml]; rfl) (rest := []) rfl (hb hbytes d1) (W := 0) (by show 2 * 0 + 0 ≤ _; decide) (Nat.le_of_ble_eq_true rfl) (Nat.le_of_ble_eq_true rfl)
  have hh3 := q3.trans hh0
  have c4 : Steps p.tables e below (s₁.setTop (entryFrame m #[.ref a, .ref b, .int (Int32.ofNat o), .int (Int32.ofNat len), .null] 6)) (T3.setTop (mkF m 27 #[.val (.ref a), .val (.ref b), .val (.int (Int32.ofNat o)), .val (.int (Int32.ofNat len)), .val .null, .unset] [])) := (c2.trans (st3 _ (Steps.refl _))).trans (by
    refine XS.iloadN X3.here hexec rfl (hb hbytes d4) rfl ?_
    refine XS.ifYes X3.here hexec rfl (pc0 := 5) rfl (hb hbytes d5) rfl (i0_ne_t (nz32 (by omega) l0)) (by decide) rfl ?_
    exact Steps.refl _)
  obtain ⟨T5, X5, q5, st5⟩ := X3.sget hexec hown (wk W (.fieldLink "java/lang/String" 38 "java/lang/String" "COMPACT_STRINGS" "Z")) s1 (fun _ _ h => by rw [hh3]; exact h) (g := (mkF m 27 #[.val (.ref a), .val (.ref b), .val (.int (Int32.ofNat o)), .val (.int (Int32.ofNat len)), .val .null, .unset] [])) rfl (hb hbytes d27)
  have hh5 := q5.trans hh3
  have c6 : Steps p.tables e below (s₁.setTop (entryFrame m #[.ref a, .ref b, .int (Int32.ofNat o), .int (Int32.ofNat len), .null] 6)) (T5.setTop (mkF m 30 #[.val (.ref a), .val (.ref b), .val (.int (Int32.ofNat o)), .val (.int (Int32.ofNat len)), .val .null, .unset] [.int z])) := c4.trans (st5 _ (Steps.refl _))
  have c7 : Steps p.tables e below (s₁.setTop (entryFrame m #[.ref a, .ref b, .int (Int32.ofNat o), .int (Int32.ofNat len), .null] 6)) (T5.setTop (mkF m 36 #[.val (.ref a), .val (.ref b), .val (.int (Int32.ofNat o)), .val (.int (Int32.ofNat len)), .val .null, .unset] [.int (Int32.ofNat len), .int (Int32.ofNat o), .ref b])) := c6.trans (by
    refine XS.ifNo X5.here hexec rfl (hb hbytes d30) rfl (i0_eq_f hz) ?_
    refine XS.aloadN X5.here hexec rfl (hb hbytes d33) rfl rfl ?_
    refine XS.iloadN X5.here hexec rfl (hb hbytes d34) rfl ?_
    refine XS.iloadN X5.here hexec rfl (hb hbytes d35) rfl ?_
    exact Steps.refl _)
  obtain ⟨v8, T8, X8, E8, g8⟩ := X5.callS hexec (Cmp3.law l b A o len) hown (wks W (staticW "java/lang/String" 177 Cmp3.yN)) (wk W Cmp3.tab) (W := 0) (Nat.le_of_ble_eq_true rfl) (Nat.le_of_ble_eq_true rfl) (Nat.le_refl _) (by show 0 + len ≤ len; omega) (g := (mkF m 36 #[.val (.ref a), .val (.ref b), .val (.int (Int32.ofNat o)), .val (.int (Int32.ofNat len)), .val .null, .unset] [.int (Int32.ofNat len), .int (Int32.ofNat o), .ref b])) rfl (by rw [hml]; rfl) c7 (argsL := [.ref b, .int (Int32.ofNat o), .int (Int32.ofNat len)]) (rest := []) rfl rfl (by show 2 * 0 + 0 ≤ _; decide) (hb hbytes d36) (⟨rfl, hA.mv X5.warmed.alike hh5, l1, l2, hp⟩)
  obtain ⟨e8, z8⟩ := E8
  obtain ⟨rfl, N, n1, n2, n3, n4, n5, n6⟩ := NewArr.mv _ T5 s _ _ hh5.symm (Vm.Alike.refl _) rfl e8
  rw [hh5] at z8
  have hB1 := hB.keep X8.warmed.alike (n6 _ _ hB.1)
  have hne : s.heap.size ≠ a := (Nat.ne_of_lt (Array.getElem?_eq_some_iff.mp hB.1).1).symm
  have c9 : Steps p.tables e below (s₁.setTop (entryFrame m #[.ref a, .ref b, .int (Int32.ofNat o), .int (Int32.ofNat len), .null] 6)) (T8.setTop (mkF m 39 #[.val (.ref a), .val (.ref b), .val (.int (Int32.ofNat o)), .val (.int (Int32.ofNat len)), .val .null, .unset] [.ref s.heap.size])) := g8
  have c10 : Steps p.tables e below (s₁.setTop (entryFrame m #[.ref a, .ref b, .int (Int32.ofNat o), .int (Int32.ofNat len), .null] 6)) (T8.setTop (mkF m 45 #[.val (.ref a), .val (.ref b), .val (.int (Int32.ofNat o)), .val (.int (Int32.ofNat len)), .val .null, .val (.ref s.heap.size)] [.int (Int32.ofNat N.slots.size), .ref s.heap.size, .ref a])) := by
    have hc : Steps p.tables e below (s₁.setTop (entryFrame m #[.ref a, .ref b, .int (Int32.ofNat o), .int (Int32.ofNat len), .null] 6)) (T8.setTop (mkF m 45 #[.val (.ref a), .val (.ref b), .val (.int (Int32.ofNat o)), .val (.int (Int32.ofNat len)), .val .null, .val (.ref s.heap.size)] [.int (Int32.ofNat len), .ref s.heap.size, .ref a])) := c9.trans (by
      refine XS.astore X8.here hexec rfl (hb hbytes d39) rfl rfl rfl ?_
      refine XS.aloadN X8.here hexec rfl (hb hbytes d41) rfl rfl ?_
      refine XS.aload X8.here hexec rfl (hb hbytes d42) rfl rfl ?_
      refine XS.iloadN X8.here hexec rfl (hb hbytes d44) rfl ?_
      exact Steps.refl _)
    rw [n4]; exact hc
  obtain ⟨v11, T11, X11, E11, g11⟩ := X8.callS hexec (CodL.law l s.heap.size N) hown (wks W (staticW "java/lang/String" 47 CodL.yN)) (wk W CodL.tab) (W := 1) (Nat.le_of_ble_eq_true rfl) (Nat.le_of_ble_eq_true rfl) (Nat.le_refl _) (by show 0 + len + 0 ≤ len; omega) (g := (mkF m 45 #[.val (.ref a), .val (.ref b), .val (.int (Int32.ofNat o)), .val (.int (Int32.ofNat len)), .val .null, .val (.ref s.heap.size)] [.int (Int32.ofNat N.slots.size), .ref s.heap.size, .ref a])) rfl (by rw [hml]; rfl) c10 (argsL := [.ref s.heap.size, .int (Int32.ofNat N.slots.size)]) (rest := [.ref a]) rfl rfl (by show 2 * 0 + (1 + 0) ≤ _; decide) (hb hbytes d45) (⟨rfl, n1⟩)
  obtain ⟨rfl, q11⟩ := E11
  have hB11 := hB1.mv (X8.warmed.alike.symm.trans X11.warmed.alike) q11
  have c12 : Steps p.tables e below (s₁.setTop (entryFrame m #[.ref a, .ref b, .int (Int32.ofNat o), .int (Int32.ofNat len), .null] 6)) (T11.setTop (mkF m 48 #[.val (.ref a), .val (.ref b), .val (.int (Int32.ofNat o)), .val (.int (Int32.ofNat len)), .val .null, .val (.ref s.heap.size)] [.int 0, .ref a])) := g11
  obtain ⟨T13, X13, p13, bl13, sl13, st13⟩ := X11.finit hexec hown (wk W (.fieldLink "java/lang/String" 15 "java/lang/String" "coder" "B")) (Or.inr ⟨_, (wk W (.laysFinal "java/lang/String" "java/lang/String" "coder" "B"))⟩) (Or.inl ⟨rfl, hnm⟩) f2 (Or.inl rfl) hB11 (t := .byte) (by decide +kernel) rfl (g := (mkF m 48 #[.val (.ref a), .val (.ref b), .val (.int (Int32.ofNat o)), .val (.int (Int32.ofNat len)), .val .null, .val (.ref s.heap.size)] [.int 0, .ref a])) rfl (rest := []) rfl (hb hbytes d48)
  have c14 : Steps p.tables e below (s₁.setTop (entryFrame m #[.ref a, .ref b, .int (Int32.ofNat o), .int (Int32.ofNat len), .null] 6)) (T13.setTop (mkF m 54 #[.val (.ref a), .val (.ref b), .val (.int (Int32.ofNat o)), .val (.int (Int32.ofNat len)), .val .null, .val (.ref s.heap.size)] [.ref s.heap.size, .ref a])) := (c12.trans (st13 _ (Steps.refl _))).trans (by
    refine XS.aloadN X13.here hexec rfl (hb hbytes d51) rfl rfl ?_
    refine XS.aload X13.here hexec rfl (hb hbytes d52) rfl rfl ?_
    exact Steps.refl _)
  obtain ⟨T15, X15, p15, bl15, sl15, st15⟩ := X13.finit hexec hown (wk W (.fieldLink "java/lang/String" 9 "java/lang/String" "value" "[B")) (Or.inr ⟨_, (wk W (.laysFinal "java/lang/String" "java/lang/String" "value" "[B"))⟩) (Or.inl ⟨rfl, hnm⟩) f1 (Or.inl rfl) bl13 (t := (.array .byte)) (by decide +kernel) rfl (g := (mkF m 54 #[.val (.ref a), .val (.ref b), .val (.int (Int32.ofNat o)), .val (.int (Int32.ofNat len)), .val .null, .val (.ref s.heap.size)] [.ref s.heap.size, .ref a])) rfl (rest := []) rfl (hb hbytes d54)
  have c16 : Steps p.tables e below (s₁.setTop (entryFrame m #[.ref a, .ref b, .int (Int32.ofNat o), .int (Int32.ofNat len), .null] 6)) (T15.setTop (mkF m 57 #[.val (.ref a), .val (.ref b), .val (.int (Int32.ofNat o)), .val (.int (Int32.ofNat len)), .val .null, .val (.ref s.heap.size)] [])) := c14.trans (st15 _ (Steps.refl _))
  have ap := apart (Or.inr ⟨_, (wk W (.laysFinal "java/lang/String" "java/lang/String" "value" "[B"))⟩) (Or.inr ⟨_, (wk W (.laysFinal "java/lang/String" "java/lang/String" "coder" "B"))⟩) f1 f2 (t₁ := .array .byte) (t₂ := .byte) (by decide +kernel) (by decide +kernel) (by decide)
  have al := X8.warmed.alike.symm.trans X15.warmed.alike
  have n7 : T11.heap[s.heap.size]? = some N := by rw [q11]; exact n1.1
  exact ⟨T15, none, _, _, _, X15, by simp, rfl, by omega, (fun _ => rfl), ⟨rfl, _, N, bl15, ((Same.refl D _).set _ (by simp)).set _ (by simp), sl15, (Cell.slots_setSlot_ne _ ap).trans sl13, n1.keep al (p15.other hne (p13.other hne n7)), n2, by rw [al.findClass]; exact n3, n4, n5, fun y c h1 h2 => p15.other h1 (p13.other h1 (by rw [q11]; exact n6 y c h2)), by rw [p15.2.2, p13.2.2, q11]; exact z8⟩, fun fs hl => c16.trans (X15.returnOut hexec hret (hb hbytes d57) hl)⟩
end New4
namespace New1
def yN : MethodName := ⟨"java/lang/String", "<init>", "([C)V"⟩
abbrev yB : ByteArray := jdk_42_method_3_code
theorem d0 : decode yB 0 = .ok (.aload_n 0, 1) := by decide +kernel
theorem d1 : decode yB 1 = .ok (.aload_n 1, 1) := by decide +kernel
theorem d2 : decode yB 2 = .ok (.iconst 0, 1) := by decide +kernel
theorem d3 : decode yB 3 = .ok (.aload_n 1, 1) := by decide +kernel
theorem d4 : decode yB 4 = .ok (.arraylength, 1) := by decide +kernel
theorem d5 : decode yB 5 = .ok (.aconst_null, 1) := by decide +kernel
theorem d6 : decode yB 6 = .ok (.invokespecial 27, 3) := by decide +kernel
theorem d9 : decode yB 9 = .ok (.return_, 1) := by decide +kernel
def site : List Cond := [New4.tab] ++ initW "java/lang/String" 27 New4.yN
def tab : Cond := tabOf yN yB 2 none site
def P (a : Addr) (D : Cell) (fV fC : Field) (b : Addr) (A : Cell) (z : Int32) (args : Array Value) (s : State) : Prop := args = #[.ref a, .ref b] ∧ Blank "java/lang/String" a D s ∧ Found "java/lang/String" "value" "[B" fV s ∧ Found "java/lang/String" "coder" "B" fC s ∧ Ch b A s ∧ StaticIs s "java/lang/String" "COMPACT_STRINGS" "Z" (.int z) ∧ ¬ z = 0 ∧ 0 < A.slots.size ∧ A.slots.size ≤ 536870912 ∧ ∀ i, i < A.slots.size → ¬ 255 < cv A i
def E (a : Addr) (D : Cell) (fV fC : Field) (A : Cell) (r : Option Value) (s u : State) : Prop := Got a D fV fC A 0 A.slots.size r s u
/-- new String(chars), not empty, no char above 255: a Latin-1 String of their low bytes -/
theorem law (l : Launch) (a : Addr) (D : Cell) (fV fC : Field) (b : Addr) (A : Cell) (z : Int32) : Law l yN 2 1 3 52 yB 2 none site (P a D fV fC b A z) (E a D fV fC A) [⟨a, fC.slot⟩, ⟨a, fV.slot⟩] 1 A.slots.size := by
  refine Law.of_walk (plainFor_of_name (by decide +kernel)) (by decide +kernel) (by decide +kernel) (by decide) (fun _ _ h => by rw [h.1]; rfl) (fun _ U U' hal hh h => ⟨h.1, h.2.1.mv hal hh, h.2.2.1.al hal, h.2.2.2.1.al hal, h.2.2.2.2.1.mv hal hh, h.2.2.2.2.2.1.there hal hh, h.2.2.2.2.2.2⟩) (fun r U U' V V' h1 hal h2 h => Got.mv r U U' V V' h1 hal h2 h) ?_
  intro p e s m args below meth c s₁ X0 hexec hbytes hml hret hlk hnm hown hh0 W hP
  obtain ⟨rfl, hB, f1, f2, hA, s1, hz, l0, l2, hp⟩ := hP
  have c1 : Steps p.tables e below (s₁.setTop (entryFrame m #[.ref a, .ref b] 2)) (s₁.setTop (mkF m 0 #[.val (.ref a), .val (.ref b)] [])) := entry rfl
  have c2 : Steps p.tables e below (s₁.setTop (entryFrame m #[.ref a, .ref b] 2)) (s₁.setTop (mkF m 6 #[.val (.ref a), .val (.ref b)] [.null, .int (Int32.ofNat A.slots.size), .int 0, .ref b, .ref a])) := c1.trans (by
    refine XS.aloadN X0.here hexec rfl (hb hbytes d0) rfl rfl ?_
    refine XS.aloadN X0.here hexec rfl (hb hbytes d1) rfl rfl ?_
    refine iconstV X0.here hexec rfl 0 (hb hbytes d2) (by decide) ?_
    refine XS.aloadN X0.here hexec rfl (hb hbytes d3) rfl rfl ?_
    refine X0.alen hexec (hA.1.mv X0.warmed.alike hh0) rfl rfl (hb hbytes d4) ?_
    refine XS.aconstNull X0.here hexec rfl (hb hbytes d5) ?_
    exact Steps.refl _)
  obtain ⟨v3, T3, X3, E3, g3⟩ := X0.callN hexec (New4.law l a D fV fC b A z 0 A.slots.size) rfl hown (wks W (initW "java/lang/String" 27 New4.yN)) (W New4.tab (by simp only [site, List.mem_cons, List.mem_append, true_or, or_true])) (W := 0) (Nat.le_of_ble_eq_true rfl) (Nat.le_of_ble_eq_true rfl) (Nat.le_refl _) (by show 0 + A.slots.size ≤ A.slots.size; omega) (g := (mkF m 6 #[.val (.ref a), .val (.ref b)] [.null, .int (Int32.ofNat A.slots.size), .int (Int32.ofNat 0), .ref b, .ref a])) rfl (by rw [hml]; rfl) c2 (argsL := [.ref b, .int (Int32.ofNat 0), .int (Int32.ofNat A.slots.size), .null]) (rest := []) rfl rfl (by show 2 * 0 + 0 ≤ _; decide) (hb hbytes d6) (⟨rfl, hB.mv X0.warmed.alike hh0, f1.al X0.warmed.alike, f2.al X0.warmed.alike, hA.mv X0.warmed.alike hh0, s1.there X0.warmed.alike hh0, hz, l0, by omega, l2, fun i hi => by rw [Nat.zero_add]; exact hp i hi⟩)
  have e0 := Got.mv _ s₁ s _ _ hh0.symm (Vm.Alike.refl _) rfl E3
  obtain rfl := e0.1
  have c4 : Steps p.tables e below (s₁.setTop (entryFrame m #[.ref a, .ref b] 2)) (T3.setTop (mkF m 9 #[.val (.ref a), .val (.ref b)] [])) := g3
  exact ⟨T3, none, _, _, _, X3, by simp, rfl, by omega, (fun _ => rfl), e0, fun fs hl => c4.trans (X3.returnOut hexec hret (hb hbytes d9) hl)⟩
theorem pays {l : Launch} {R : Room} {p : Program} {e : Env} {below : List Frame} {s : State} {sargs : Array Value} {len W : Nat} (a : Addr) (D : Cell) (fV fC : Field) (b : Addr) (A : Cell) (z : Int32) (htab : tab.before sargs s = true) (hfr : 4 ≤ R.frames) (hlo : W + 65 ≤ R.locals) :
    Back l R p e below s sargs yN len W (fun A₁ a₁ => A₁.cells + 1 ≤ R.cells ∧ A₁.slots + A.slots.size ≤ R.slots ∧ P a D fV fC b A z a₁ A₁.U) (fun A₁ _ v₁ B₁ => E a D fV fC A v₁ A₁.U B₁.U ∧ B₁.locs = A₁.locs ++ [⟨a, fC.slot⟩, ⟨a, fV.slot⟩] ∧ B₁.cells = A₁.cells + 1 ∧ B₁.slots = A₁.slots + A.slots.size) :=
  (law l a D fV fC b A z).pays htab hfr (by omega)
end New1
end StrChars
namespace StrChars.Road
open Jvm Sem ClassFile Op Lib Jvm.Stand Jvm.Free Jvm.Free.XT
open Jvm.Lib.Cold (StaticIs)
abbrev ST : String := "java/lang/String"
/-- every table word that New1's law asks, flat -/
abbrev words : List Jvm.Cond := [.code New1.yN New1.yB 2 none, .initialized ST, .methodLink ST 27 New4.yN, .instanceMethod New4.yN,
  .code New4.yN New4.yB 6 none, .fieldLink ST 38 ST "COMPACT_STRINGS" "Z", .laysFinal ST ST "value" "[B", .fieldLink ST 9 ST "value" "[B", .laysFinal ST ST "coder" "B", .fieldLink ST 15 ST "coder" "B",
  .methodLink ST 1 Lib.objectInit, .instanceMethod Lib.objectInit, .code Lib.objectInit ⟨#[0xb1]⟩ 1 none, .methodLink ST 177 Cmp3.yN, .static Cmp3.yN, .methodLink ST 47 CodL.yN, .static CodL.yN,
  .code Cmp3.yN Cmp3.yB 6 (some (.array .byte)), .initialized U16, .arrayClass .byte, .methodLink U16 115 Cmp5.yN, .static Cmp5.yN, .code Cmp5.yN Cmp5.yB 7 (some .int), .code CodL.yN CodL.yB 2 (some .byte)]
theorem tab_of {a : Array Value} {s : State} (h : ∀ w ∈ words, w.before a s = true) : New1.tab.before a s = true := by
  have h5 : Cmp5.tab.before a s = true := unparts (wk h (.code Cmp5.yN Cmp5.yB 7 (some .int))) (wks h (.initialized Cmp5.yN.cls :: Cmp5.site))
  have hc : CodL.tab.before a s = true := unparts (wk h (.code CodL.yN CodL.yB 2 (some .byte))) (wks h (.initialized CodL.yN.cls :: CodL.site))
  have q5 : ∀ w ∈ Cmp5.tab :: words, w.before a s = true := fun w hw => (List.mem_cons.mp hw).elim (fun e => e ▸ h5) (h w)
  have h3 : Cmp3.tab.before a s = true := unparts (wk q5 (.code Cmp3.yN Cmp3.yB 6 (some (.array .byte)))) (wks q5 (.initialized Cmp3.yN.cls :: Cmp3.site))
  have q3 : ∀ w ∈ Cmp3.tab :: CodL.tab :: words, w.before a s = true := fun w hw => (List.mem_cons.mp hw).elim (fun e => e ▸ h3) fun hw => (List.mem_cons.mp hw).elim (fun e => e ▸ hc) (h w)
  have h4 : New4.tab.before a s = true := unparts (wk q3 (.code New4.yN New4.yB 6 none)) (wks q3 (.initialized New4.yN.cls :: New4.site))
  have q4 : ∀ w ∈ New4.tab :: words, w.before a s = true := fun w hw => (List.mem_cons.mp hw).elim (fun e => e ▸ h4) (h w)
  exact unparts (wk q4 (.code New1.yN New1.yB 2 none)) (wks q4 (.initialized New1.yN.cls :: New1.site))
/-- the words ride from the start Z to the walk's own state -/
theorem moved {Z s : State} {a0 args : Array Value} (hZ : Z.Warmed39 s.vm) (hw : ∀ d ∈ words, d.before a0 Z = true) : ∀ d ∈ words, d.before args s = true := fun d hd => by
  have q := hw d hd
  have t : ∀ d ∈ words, d = .arrayClass .byte ∨ (d.onTables && d.keepsFace) = true := by decide +kernel
  rcases t d hd with rfl | t
  · exact RoadKit.mvA hZ q
  · exact RoadKit.mv hZ q t
/-- WHAT COMES BACK, over the tables of the start Z: h the heap at the call, h' behind it -/
def Q (Z : State) (x : Addr) (A : Cell) (h : Heap) (v : Option Value) (h' : Heap) (L : List Loc) : Prop := v = none ∧ (∀ y ∈ L, y.base = x) ∧ RoadKit.Keep h h' [x] ∧ h'.size = h.size + 1 ∧ RoadKit.Exa Z h' x ST ∧ RoadKit.Fld Z h' x ST "value" "[B" (.ref h.size) ∧ RoadKit.Fld Z h' x ST "coder" "B" (.int 0) ∧
  (∃ V : Cell, RoadKit.Arr Z h' h.size V .byte ∧ V.vm = .none ∧ Z.vm.findClass "[B" = some V.cls ∧ V.slots.size = A.slots.size ∧ ∀ j, j < A.slots.size → V.slots[j]? = some (.int (lo8 (cv A j)))) ∧
  ∀ (O n d : String) (w : Value), RoadKit.Fld Z h x O n d w → RoadKit.slotOf Z O n d ≠ RoadKit.slotOf Z ST "value" "[B" → RoadKit.slotOf Z O n d ≠ RoadKit.slotOf Z ST "coder" "B" → RoadKit.Fld Z h' x O n d w
/-- **new String(chars) AT A CALL, IN THE ROAD'S FORM**: for specialBack behind newO: x the fresh String, b the char[] with the cell A -/
theorem back {p : Program} {l : Launch} {e : Env} {R : Room} {s : State} {args : Array Value} {below : List Frame} {len W : Nat} {Z : State} {a0 : Array Value} {h : Heap} (hZ : Z.Warmed39 s.vm) (hw : ∀ d ∈ words, d.before a0 Z = true) {kI : Nat} (wi : (Jvm.Cond.instantiable ST kI).before a0 Z = true)
    {x b : Addr} {A : Cell} {z : Int32} {v0 c0 : Value} (E : RoadKit.Exa Z h x ST) (V : RoadKit.Fld Z h x ST "value" "[B" v0) (C : RoadKit.Fld Z h x ST "coder" "B" c0) (K : RoadKit.Arr Z h b A .char) (hty : Typed .char A) (S : RoadKit.Sta Z h ST "COMPACT_STRINGS" "Z" (.int z)) (hz : ¬ z = 0)
    (l0 : 0 < A.slots.size) (l2 : A.slots.size ≤ 536870912) (hp : ∀ i, i < A.slots.size → ¬ 255 < cv A i) (hfr : 4 ≤ R.frames) (hlo : W + 65 ≤ R.locals) :
    Back l R p e below s args New1.yN len W (fun P a => a = #[.ref x, .ref b] ∧ P.U.heap = h ∧ P.cells + 1 ≤ R.cells ∧ P.slots + A.slots.size ≤ R.slots)
      (fun P _ v B => ∃ L, Q Z x A h v B.U.heap L ∧ B.locs = P.locs ++ L ∧ B.cells = P.cells + 1 ∧ B.slots = P.slots + A.slots.size) := by
  intro m meth c P g ig mk a X hg hsize hdg hW hn hp'
  obtain ⟨rfl, rfl, r1, r2⟩ := hp'
  have al : Z.vm.Alike P.U.vm := hZ.alike.trans X.warmed.alike
  obtain ⟨D, cfV, kV, iV, fV, hD, gV, stV, knV, obV, asV, slV⟩ := id V
  obtain ⟨D', cfC, kC, iC, fC, hD', gC, stC, -, -, asC, slC⟩ := id C
  cases hD.symm.trans hD'
  obtain ⟨D2, kD, e1, e2, e3, e4, e5⟩ := id E
  cases hD.symm.trans e1
  obtain ⟨c2, k2, i1, i2, i3, -⟩ := Cond.instantiable_spec wi
  cases e2.symm.trans i1
  cases e3.symm.trans i2
  obtain ⟨kU, u1, u2⟩ := al.2.2 _ _ e3
  have hB : Blank ST x D P.U := ⟨hD, ⟨knV, fun q hq => by rw [hq] at obV; cases obV⟩, by rw [al.findClass]; exact e2, kU, u1, by rw [u2]; exact i3, by rw [u2]; exact e5 i3⟩
  have F1 : Found ST "value" "[B" fV P.U := ⟨SBG.found_only al ⟨cfV, kV, iV, gV⟩, stV⟩
  have F2 : Found ST "coder" "B" fC P.U := ⟨SBG.found_only al ⟨cfC, kC, iC, gC⟩, stC⟩
  have hA : Ch b A P.U := ⟨⟨K.1, State.isArrayOf_alike al K.2.1, K.2.2, by omega⟩, hty⟩
  have hS : StaticIs P.U ST "COMPACT_STRINGS" "Z" (.int z) := by
    obtain ⟨cfS, iS, kS, fS, st, cS, t1, t2, t3, t4, t5, t6, t7⟩ := S
    exact StaticIs.there (s := { Z with heap := P.U.heap }) ⟨cfS, iS, kS, fS, st, cS, t1, t2, t3, t4, t5, (fun q => by rw [q] at t6; cases t6), t7⟩ al rfl
  obtain ⟨v, B, X', ⟨⟨hv, E', V', q1, q2, q3, q4, q5, q6, q7, q8, q9, q10, q11⟩, hl, hc, hs⟩, st⟩ := New1.pays x D fV fC b A z (tab_of (moved hZ hw)) hfr hlo m meth c P g ig mk _ X hg hsize hdg hW hn ⟨r1, r2, rfl, hB, F1, F2, hA, hS, hz, l0, l2, hp⟩
  have al' : Z.vm.Alike B.U.vm := hZ.alike.trans X'.warmed.alike
  have hsz : E'.slots.size = D.slots.size := by
    obtain ⟨-, -, -, kB, w1, w2, w3⟩ := q1
    obtain ⟨kB', y1, y2⟩ := al'.2.2 _ _ e3
    rw [q2.2.1] at w1
    cases w1.symm.trans y1
    rw [w3, e5 i3, y2]
  refine ⟨v, B, X', ⟨_, ⟨hv, ?_, ⟨by omega, fun y cy hy hn' => q10 y cy (by simpa using hn') hy, fun y cy hy => ?_⟩, q11, ⟨E', _, q1.1, by rw [q2.2.1]; exact e2, by rw [q2.2.1]; exact e3, by rw [q2.1]; exact obV, fun _ => by rw [hsz]; exact e5 i3⟩,
    ⟨E', cfV, kV, iV, fV, q1.1, gV, stV, by rw [q2.1]; exact knV, by rw [q2.1]; exact obV, by rw [q2.2.1]; exact asV, q3⟩, ⟨E', cfC, kC, iC, fC, q1.1, gC, stC, by rw [q2.1]; exact knV, by rw [q2.1]; exact obV, by rw [q2.2.1]; exact asC, q4⟩,
    ⟨V', ⟨q5.1, State.isArrayOf_alike al'.symm q5.2.1, q5.2.2.1⟩, q6, by rw [← al'.findClass]; exact q7, q8, fun j hj => by have := q9 j hj; rwa [Nat.zero_add] at this⟩, fun O n d w F n1 n2 => ?_⟩, hl, hc, hs⟩, st⟩
  · intro y hy
    simp only [List.mem_cons, List.not_mem_nil, or_false] at hy
    rcases hy with rfl | rfl <;> rfl
  · by_cases q : y = x
    · subst q
      cases hD.symm.trans hy
      exact ⟨E', q1.1, q2.2.1, q2.1, hsz⟩
    · exact ⟨cy, q10 y cy q hy, rfl, rfl, rfl⟩
  · obtain ⟨D3, cf, k, i, f, g1, g2, g3, g4, g5, g6, g7⟩ := F
    cases hD.symm.trans g1
    simp only [RoadKit.slotOf, g2, gV, gC, Option.map_some, Option.getD_some] at n1 n2
    exact ⟨E', cf, k, i, f, q1.1, g2, g3, by rw [q2.1]; exact g4, by rw [q2.1]; exact g5, by rw [q2.2.1]; exact g6, by rw [q2.2.2 f.slot (by simp [n1, n2])]; exact g7⟩
end StrChars.Road
namespace StrChars.Road
open Jvm Sem ClassFile Op Lib Jvm.Stand Jvm.Free Jvm.Free.XT
/-- WHAT COMES BACK, the byte[] as a list of values -/
def QA (Z : State) (x : Addr) (zn : Int32) (cs : List Int32) (h : Heap) (v : Option Value) (h' : Heap) (L : List Loc) : Prop := v = none ∧ (∀ y ∈ L, y.base = x) ∧ RoadKit.Keep h h' [x] ∧ h'.size = h.size + 1 ∧ RoadKit.Exa Z h' x ST ∧ RoadKit.Fld Z h' x ST "value" "[B" (.ref h.size) ∧ RoadKit.Fld Z h' x ST "coder" "B" (.int 0) ∧
  (∃ kb, Z.vm.findClass "[B" = some kb ∧ RoadKit.Arv Z h' h.size kb .byte zn (cs.map fun c => .int (lo8 c)) (.int 0)) ∧
  ∀ (O n d : String) (w : Value), RoadKit.Fld Z h x O n d w → RoadKit.slotOf Z O n d ≠ RoadKit.slotOf Z ST "value" "[B" → RoadKit.slotOf Z O n d ≠ RoadKit.slotOf Z ST "coder" "B" → RoadKit.Fld Z h' x O n d w
/-- **new String(chars) AT A CALL, THE ARRAYS AS LISTS**: the char[] at b holds cs, not empty, no char above 255 -/
theorem backArv {p : Program} {l : Launch} {e : Env} {R : Room} {s : State} {args : Array Value} {below : List Frame} {len W : Nat} {Z : State} {a0 : Array Value} {h : Heap} (hZ : Z.Warmed39 s.vm) (hw : ∀ d ∈ words, d.before a0 Z = true) {kI : Nat} (wi : (Jvm.Cond.instantiable ST kI).before a0 Z = true)
    {x b : Addr} {k : ClassId} {zn z : Int32} {cs : List Int32} {dv v0 c0 : Value} (E : RoadKit.Exa Z h x ST) (V : RoadKit.Fld Z h x ST "value" "[B" v0) (C : RoadKit.Fld Z h x ST "coder" "B" c0) (K : RoadKit.Arv Z h b k .char zn (cs.map Value.int) dv) (S : RoadKit.Sta Z h ST "COMPACT_STRINGS" "Z" (.int z)) (hz : ¬ z = 0)
    (hlen : zn.toNatClampNeg = cs.length) (h0 : 0 < cs.length) (hbig : cs.length ≤ 536870912) (hall : ∀ c ∈ cs, ¬ 255 < c) (hfr : 4 ≤ R.frames) (hlo : W + 65 ≤ R.locals) :
    Back l R p e below s args New1.yN len W (fun P a => a = #[.ref x, .ref b] ∧ P.U.heap = h ∧ P.cells + 1 ≤ R.cells ∧ P.slots + cs.length ≤ R.slots)
      (fun P _ v B => ∃ L, QA Z x zn cs h v B.U.heap L ∧ B.locs = P.locs ++ L ∧ B.cells = P.cells + 1 ∧ B.slots = P.slots + cs.length) := by
  obtain ⟨A, K1, K2, K3, K4, K5, K6⟩ := K
  have e : A.slots.size = cs.length := K3.trans hlen
  have hat : ∀ (i : Nat) (hi : i < cs.length), A.slots[i]? = some (.int cs[i]) := fun i hi => by rw [K5 i (by omega)]; simp [List.getD_eq_getElem?_getD, hi]
  have hcv : ∀ (i : Nat) (hi : i < cs.length), cv A i = cs[i] := fun i hi => by unfold cv; rw [hat i hi]
  have hty : Typed .char A := fun i v hv => by
    have hi : i < A.slots.size := (Array.getElem?_eq_some_iff.mp hv).1
    have q := K5 i hi
    rw [hv] at q
    rw [Option.some.inj q]
    exact K6 i hi
  refine Back.mono (back hZ hw wi E V C K1 hty S hz (by omega) (by omega) (fun i hi => by rw [hcv i (by omega)]; exact hall _ (List.getElem_mem _)) hfr hlo) (fun P a hp => ⟨hp.1, hp.2.1, hp.2.2.1, by rw [e]; exact hp.2.2.2⟩) (fun P a v B hp hq => ?_)
  obtain ⟨L, ⟨q1, q2, q3, q4, q5, q6, q7, ⟨V', v1, v2, v3, v4, v5⟩, q9⟩, hl, hc, hs⟩ := hq
  refine ⟨L, ⟨q1, q2, q3, q4, q5, q6, q7, ⟨V'.cls, v3, V', v1, rfl, by rw [v4, e, hlen], K4, fun i hi => ?_, fun i hi => ?_⟩, q9⟩, hl, hc, by rw [hs, e]⟩
  · have hi' : i < cs.length := by omega
    rw [v5 i (by omega), hcv i hi']; simp [List.getD_eq_getElem?_getD, hi']
  · have hi' : i < cs.length := by omega
    simp only [List.getD_eq_getElem?_getD, List.getElem?_map, List.getElem?_eq_getElem hi', Option.map_some, Option.getD_some]
    exact fits_lo8 _
end StrChars.Road
namespace StrChars.Road
open Jvm Sem ClassFile Op Lib Jvm.Stand Jvm.Free Jvm.Free.XT
/-- WHAT COMES BACK, in the writer's own shape -/
def QV (Z : State) (x : Addr) (N : Int32) (bs : List Int32) (h : Heap) (n0 : Nat) (v : Option Value) (h' : Heap) (L : List Loc) : Prop := v = none ∧ RoadKit.Fr n0 L ∧ RoadKit.Keep h h' [x] ∧ RoadKit.Exa Z h' x ST ∧ RoadKit.Fld Z h' x ST "coder" "B" (.int 0) ∧
  ∃ (t : Addr) (kb : ClassId), n0 ≤ t ∧ h.size ≤ t ∧ ¬ t = x ∧ RoadKit.Fld Z h' x ST "value" "[B" (.ref t) ∧ RoadKit.Arv Z h' t kb .byte N (bs.map Value.int) (.int 0)
/-- **new String(chars) AT A CALL, FOR THE WRITER**: a char[] of n known ints, each 0 to 255 -/
theorem backV {p : Program} {l : Launch} {e : Env} {R : Room} {s : State} {args : Array Value} {below : List Frame} {len W : Nat} {Z : State} {a0 : Array Value} {h : Heap} (hZ : Z.Warmed39 s.vm) (hw : ∀ d ∈ words, d.before a0 Z = true) {kI : Nat} (wi : (Jvm.Cond.instantiable ST kI).before a0 Z = true)
    {x b : Addr} {kC : ClassId} {cs bs : List Int32} {d v0 c0 : Value} {z N : Int32} {n n0 : Nat} (hx0 : n0 ≤ x) (hh0 : n0 ≤ h.size) (E : RoadKit.Exa Z h x ST) (V : RoadKit.Fld Z h x ST "value" "[B" v0) (C : RoadKit.Fld Z h x ST "coder" "B" c0) (K : RoadKit.Arv Z h b kC .char N (cs.map Value.int) d) (S : RoadKit.Sta Z h ST "COMPACT_STRINGS" "Z" (.int z)) (hz : ¬ z = 0)
    (hn : cs.length = n) (hN : N = Int32.ofNat n) (l0 : 0 < n) (l2 : n ≤ 4000) (hp : ∀ c ∈ cs, ¬ c < 0 ∧ ¬ (255 : Int32) < c) (hb : bs = cs.map (fun c => c.toInt8.toInt32)) (hfr : 4 ≤ R.frames) (hlo : W + 65 ≤ R.locals) :
    Back l R p e below s args (⟨"java/lang/String", "<init>", "([C)V"⟩ : MethodName) len W (fun P a => a = #[.ref x, .ref b] ∧ P.U.heap = h ∧ P.cells + 1 ≤ R.cells ∧ P.slots + n ≤ R.slots)
      (fun P _ v B => ∃ L, QV Z x N bs h n0 v B.U.heap L ∧ B.locs = P.locs ++ L ∧ B.cells = P.cells + 1 ∧ B.slots = P.slots + n) := by
  subst hn hN hb
  refine Back.mono (backArv hZ hw wi E V C K S hz (n32 (by omega)) l0 (by omega) (fun c hc => (hp c hc).2) hfr hlo) (fun P a hp => hp) (fun P a v B hp hq => ?_)
  obtain ⟨L, ⟨q1, q2, q3, q4, q5, q6, q7, ⟨kb, v1, v2⟩, q9⟩, hl, hc, hs⟩ := hq
  exact ⟨L, ⟨q1, fun y hy => by rw [q2 y hy]; exact hx0, q3, q5, q7, h.size, kb, hh0, Nat.le_refl _, Nat.ne_of_gt E.lt, q6, by rw [List.map_map]; exact v2⟩, hl, hc, hs⟩
end StrChars.Road
end Jvm.Pilot.@@N@@
namespace Jvm.Pilot.@@N@@
open Jvm Jvm.ClassFile Sem Op Lib Jvm.Free Jvm.Stand Jvm.LawKit Jvm.RoadKit Bundle Jvm.Pilot.@@N@@.Jvm.D
theorem own_w {a0 : Array Value} {Z : State} (hw : ∀ d ∈ tables_1, d.before a0 Z = true) (i : Nat) {d : Jvm.Cond} (h : tables_1[i]? = some d) : d.before a0 Z = true := hw _ (List.mem_of_getElem? h)
abbrev yy0 : MethodName := ⟨"com/example/firm_duties/firmduties/PairToStringPinLaw", "endChar", "(I)C"⟩
abbrev yy1 : MethodName := ⟨"com/example/firm_duties/firmduties/PairToStringPinLaw", "midChar", "(I)C"⟩
abbrev yy2 : MethodName := ⟨"java/lang/String", "<init>", "([C)V"⟩
abbrev yy3 : MethodName := ⟨"com/example/firm_duties/firmduties/PairToStringPinLaw", "mk", "(ICCC)Ljava/lang/String;"⟩
abbrev yy4 : MethodName := ⟨"java/lang/String", "coder", "()B"⟩
abbrev yy5 : MethodName := ⟨"java/lang/String", "isLatin1", "()Z"⟩
abbrev yy6 : MethodName := ⟨"java/lang/String", "length", "()I"⟩
abbrev yy7 : MethodName := ⟨"java/lang/Math", "max", "(II)I"⟩
abbrev yy8 : MethodName := ⟨"java/lang/Math", "min", "(II)I"⟩
abbrev yy9 : MethodName := ⟨"java/lang/StringLatin1", "getChar", "([BI)C"⟩
abbrev yy10 : MethodName := ⟨"java/lang/CharacterDataLatin1", "getProperties", "(I)I"⟩
abbrev yy11 : MethodName := ⟨"java/lang/CharacterDataLatin1", "isWhitespace", "(I)Z"⟩
abbrev yy12 : MethodName := ⟨"java/lang/StringLatin1", "indexOfNonWhitespace", "([B)I"⟩
abbrev yy13 : MethodName := ⟨"java/lang/StringLatin1", "lastIndexOfNonWhitespace", "([B)I"⟩
abbrev yy14 : MethodName := ⟨"java/lang/StringLatin1", "strip", "([B)Ljava/lang/String;"⟩
abbrev yy15 : MethodName := ⟨"java/lang/String", "strip", "()Ljava/lang/String;"⟩
abbrev yy16 : MethodName := ⟨"java/lang/String", "equals", "(Ljava/lang/Object;)Z"⟩
abbrev yy17 : MethodName := ⟨"java/lang/StringLatin1", "canEncode", "(I)Z"⟩
abbrev yy18 : MethodName := ⟨"java/util/Objects", "requireNonNull", "(Ljava/lang/Object;Ljava/lang/String;)Ljava/lang/Object;"⟩
abbrev yy19 : MethodName := ⟨"java/lang/StringLatin1", "indexOfChar", "([BIII)I"⟩
abbrev yy20 : MethodName := ⟨"java/lang/StringLatin1", "indexOf", "([BIII)I"⟩
abbrev yy21 : MethodName := ⟨"java/lang/String", "indexOf", "(II)I"⟩
abbrev yy22 : MethodName := ⟨"java/lang/String", "indexOf", "(I)I"⟩
abbrev yy23 : MethodName := ⟨"java/lang/String", "isEmpty", "()Z"⟩
abbrev yy24 : MethodName := ⟨"com/example/firm_duties/firmduties/BusinessContext", "requireToken", "(Ljava/lang/String;Ljava/lang/String;)V"⟩
abbrev yy25 : MethodName := ⟨"java/lang/AbstractStringBuilder", "ensureCapacityInternal", "(I)V"⟩
abbrev yy26 : MethodName := ⟨"java/lang/AbstractStringBuilder", "inflateIfNeededFor", "(Ljava/lang/String;)V"⟩
abbrev yy27 : MethodName := ⟨"java/lang/String", "getBytes", "([BIB)V"⟩
abbrev yy28 : MethodName := ⟨"java/lang/AbstractStringBuilder", "putStringAt", "(ILjava/lang/String;)V"⟩
abbrev yy29 : MethodName := ⟨"java/lang/AbstractStringBuilder", "append", "(Ljava/lang/String;)Ljava/lang/AbstractStringBuilder;"⟩
abbrev yy30 : MethodName := ⟨"java/lang/StringBuilder", "append", "(Ljava/lang/String;)Ljava/lang/StringBuilder;"⟩
abbrev yy31 : MethodName := ⟨"java/lang/AbstractStringBuilder", "isLatin1", "()Z"⟩
abbrev yy32 : MethodName := ⟨"java/lang/StringLatin1", "canEncode", "(C)Z"⟩
abbrev yy33 : MethodName := ⟨"java/lang/AbstractStringBuilder", "append", "(C)Ljava/lang/AbstractStringBuilder;"⟩
abbrev yy34 : MethodName := ⟨"java/lang/StringBuilder", "append", "(C)Ljava/lang/StringBuilder;"⟩
abbrev yy35 : MethodName := ⟨"java/lang/AbstractStringBuilder", "<init>", "(I)V"⟩
abbrev yy36 : MethodName := ⟨"java/lang/StringBuilder", "<init>", "()V"⟩
abbrev yy37 : MethodName := ⟨"java/util/Arrays", "checkLength", "(II)V"⟩
abbrev yy38 : MethodName := ⟨"java/util/Arrays", "copyOfRangeByte", "([BII)[B"⟩
abbrev yy39 : MethodName := ⟨"java/util/Arrays", "copyOfRange", "([BII)[B"⟩
abbrev yy40 : MethodName := ⟨"java/lang/AbstractStringBuilder", "getValue", "()[B"⟩
abbrev yy41 : MethodName := ⟨"java/lang/AbstractStringBuilder", "length", "()I"⟩
abbrev yy42 : MethodName := ⟨"java/lang/StringBuilder", "length", "()I"⟩
abbrev yy43 : MethodName := ⟨"java/lang/String", "<init>", "(Ljava/lang/AbstractStringBuilder;Ljava/lang/Void;)V"⟩
abbrev yy44 : MethodName := ⟨"java/lang/String", "<init>", "(Ljava/lang/StringBuilder;)V"⟩
abbrev yy45 : MethodName := ⟨"java/lang/StringBuilder", "toString", "()Ljava/lang/String;"⟩
abbrev yy46 : MethodName := ⟨"com/example/firm_duties/firmduties/BusinessContext$Pair", "toString", "()Ljava/lang/String;"⟩
abbrev yy47 : MethodName := ⟨"jdk/internal/util/Preconditions", "checkIndex", "(IILjava/util/function/BiFunction;)I"⟩
abbrev yy48 : MethodName := ⟨"java/lang/String", "checkIndex", "(II)V"⟩
abbrev yy49 : MethodName := ⟨"java/lang/StringLatin1", "charAt", "([BI)C"⟩
abbrev yy50 : MethodName := ⟨"java/lang/String", "charAt", "(I)C"⟩
abbrev yy51 : MethodName := ⟨"com/example/firm_duties/firmduties/PairToStringPinLaw", "has", "(Ljava/lang/String;ILjava/lang/String;)Z"⟩
abbrev yy52 : MethodName := ⟨"java/lang/Record", "<init>", "()V"⟩
abbrev yy53 : MethodName := ⟨"com/example/firm_duties/firmduties/BusinessContext$Pair", "<init>", "(Ljava/lang/String;Ljava/lang/String;)V"⟩
def own_b (P : Prop) [Decidable P] : Int32 := if P then 1 else 0
theorem own_bt {P : Prop} [Decidable P] (h : P) : (some (Value.int (nar .boolean 1)) : Option Value) = some (.int (own_b P)) := by rw [own_b, if_pos h]; rfl
theorem own_bf {P : Prop} [Decidable P] (h : ¬ P) : (some (Value.int (nar .boolean 0)) : Option Value) = some (.int (own_b P)) := by rw [own_b, if_neg h]; rfl
theorem own_b1 {P : Prop} [Decidable P] (h : P) : own_b P = 1 := if_pos h
theorem own_b0 {P : Prop} [Decidable P] (h : ¬ P) : own_b P = 0 := if_neg h
theorem own_bc {P P' : Prop} [Decidable P] [Decidable P'] (h : P ↔ P') : own_b P = own_b P' := by simp only [own_b, h]
def own_by (c : Int32) : Int32 := c.toInt8.toInt32
def own_in (c : Int32) : Prop := 0 ≤ c.toInt ∧ c.toInt ≤ 255
theorem own_narc {c : Int32} (h : own_in c) : nar .char c = c := by
  have h2 := c_i2c c; unfold own_in at h
  refine Int32.toInt_inj.mp ?_
  show (c.toUInt32.toUInt16.toUInt32.toInt32).toInt = _
  omega
theorem own_narb (c : Int32) : nar .byte (own_by c) = own_by c := by
  have h := c_i2b c; have h2 := c_i2b (c.toInt8.toInt32)
  refine Int32.toInt_inj.mp ?_
  show ((c.toInt8.toInt32).toInt8.toInt32).toInt = (c.toInt8.toInt32).toInt
  omega
theorem own_byc {c : Int32} (h : own_in c) : nar .byte ((nar .char c).toInt8.toInt32) = own_by c := by rw [own_narc h]; exact own_narb c
theorem own_byi {a b : Int32} (ha : own_in a) (hb : own_in b) : own_by a = own_by b ↔ a = b := by
  have h1 := c_i2b a; have h2 := c_i2b b; unfold own_in at ha hb
  refine ⟨fun q => Int32.toInt_inj.mp ?_, fun q => by rw [q]⟩
  have q2 := congrArg Int32.toInt q; unfold own_by at q2; omega
theorem own_255 {c : Int32} (h : own_in c) : ¬ (255 : Int32) < nar .char c := by
  rw [own_narc h]; unfold own_in at h; simp only [Int32.lt_iff_toInt_lt, Int32.reduceToInt]; omega
theorem own_fldeq {Z : State} {h : Heap} {a : Addr} {C n d : String} {v w : Value} (F : Fld Z h a C n d v) (G : Fld Z h a C n d w) : v = w := Classical.byContradiction fun q => Fld.ne F G q rfl
theorem own_arveq {Z : State} {h : Heap} {a : Addr} {k1 k2 : ClassId} {t1 t2 : FieldType} {z1 z2 : Int32} {v1 v2 : List Value} {d1 d2 : Value} (A : Arv Z h a k1 t1 z1 v1 d1) (B : Arv Z h a k2 t2 z2 v2 d2) : z1.toNatClampNeg = z2.toNatClampNeg ∧ ∀ i, i < z1.toNatClampNeg → v1.getD i d1 = v2.getD i d2 :=
  ⟨Classical.byContradiction fun q => arv_ne A B (Or.inl q) rfl, fun i hi => Classical.byContradiction fun q => arv_ne A B (Or.inr ⟨i, hi, q⟩) rfl⟩
theorem own_arvnn {Z : State} {h : Heap} {a : Addr} {k : ClassId} {t : FieldType} {z : Int32} {v : List Value} {d : Value} (A : Arv Z h a k t z v d) : ¬ z < 0 := by obtain ⟨_, _, _, _, q, _⟩ := A; exact q
theorem own_zeq {z1 z2 : Int32} (h1 : ¬ z1 < 0) (h2 : ¬ z2 < 0) (e : z1.toNatClampNeg = z2.toNatClampNeg) : z1 = z2 := by rw [← (back32 h1).1, ← (back32 h2).1, e]
def own_Ai : List Int32 := [(1207963663 : Int32), (1207963663 : Int32), (1207963663 : Int32), (1207963663 : Int32), (1207963663 : Int32), (1207963663 : Int32), (1207963663 : Int32), (1207963663 : Int32), (1207963663 : Int32), (1476411407 : Int32), (1342193679 : Int32), (1476411407 : Int32), (1610629135 : Int32), (1342193679 : Int32), (1207963663 : Int32), (1207963663 : Int32), (1207963663 : Int32), (1207963663 : Int32), (1207963663 : Int32), (1207963663 : Int32), (1207963663 : Int32), (1207963663 : Int32), (1207963663 : Int32), (1207963663 : Int32), (1207963663 : Int32), (1207963663 : Int32), (1207963663 : Int32), (1207963663 : Int32), (1342193679 : Int32), (1342193679 : Int32), (1342193679 : Int32), (1476411407 : Int32), (1610629132 : Int32), (1744830488 : Int32), (1744830488 : Int32), (671088664 : Int32), (671113242 : Int32), (671088664 : Int32), (1744830488 : Int32), (1744830488 : Int32), (-402653163 : Int32), (-402653162 : Int32), (1744830488 : Int32), (536870937 : Int32), (939524120 : Int32), (536870932 : Int32), (939524120 : Int32), (939524120 : Int32), (402667017 : Int32), (402667017 : Int32), (402667017 : Int32), (402667017 : Int32), (402667017 : Int32), (402667017 : Int32), (402667017 : Int32), (402667017 : Int32), (402667017 : Int32), (402667017 : Int32), (939524120 : Int32), (1744830488 : Int32), (-402653159 : Int32), (1744830489 : Int32), (-402653159 : Int32), (1744830488 : Int32), (1744830488 : Int32), (8552417 : Int32), (8552417 : Int32), (8552417 : Int32), (8552417 : Int32), (8552417 : Int32), (8552417 : Int32), (8552417 : Int32), (8552417 : Int32), (8552417 : Int32), (8552417 : Int32), (8552417 : Int32), (8552417 : Int32), (8552417 : Int32), (8552417 : Int32), (8552417 : Int32), (8552417 : Int32), (8552417 : Int32), (8552417 : Int32), (8552417 : Int32), (8552417 : Int32), (8552417 : Int32), (8552417 : Int32), (8552417 : Int32), (8552417 : Int32), (8552417 : Int32), (8552417 : Int32), (-402653163 : Int32), (1744830488 : Int32), (-402653162 : Int32), (1744830491 : Int32), (1744850967 : Int32), (1744830491 : Int32), (8486882 : Int32), (8486882 : Int32), (8486882 : Int32), (8486882 : Int32), (8486882 : Int32), (8486882 : Int32), (8486882 : Int32), (8486882 : Int32), (8486882 : Int32), (8486882 : Int32), (8486882 : Int32), (8486882 : Int32), (8486882 : Int32), (8486882 : Int32), (8486882 : Int32), (8486882 : Int32), (8486882 : Int32), (8486882 : Int32), (8486882 : Int32), (8486882 : Int32), (8486882 : Int32), (8486882 : Int32), (8486882 : Int32), (8486882 : Int32), (8486882 : Int32), (8486882 : Int32), (-402653163 : Int32), (1744830489 : Int32), (-402653162 : Int32), (1744830489 : Int32), (1207963663 : Int32), (1207963663 : Int32), (1207963663 : Int32), (1207963663 : Int32), (1207963663 : Int32), (1207963663 : Int32), (1342181391 : Int32), (1207963663 : Int32), (1207963663 : Int32), (1207963663 : Int32), (1207963663 : Int32), (1207963663 : Int32), (1207963663 : Int32), (1207963663 : Int32), (1207963663 : Int32), (1207963663 : Int32), (1207963663 : Int32), (1207963663 : Int32), (1207963663 : Int32), (1207963663 : Int32), (1207963663 : Int32), (1207963663 : Int32), (1207963663 : Int32), (1207963663 : Int32), (1207963663 : Int32), (1207963663 : Int32), (1207963663 : Int32), (1207963663 : Int32), (1207963663 : Int32), (1207963663 : Int32), (1207963663 : Int32), (1207963663 : Int32), (1207963663 : Int32), (939524108 : Int32), (1744830488 : Int32), (671113242 : Int32), (671113242 : Int32), (671113242 : Int32), (671113242 : Int32), (1744830492 : Int32), (1744830488 : Int32), (1744830491 : Int32), (1744830492 : Int32), (28677 : Int32), (-402653155 : Int32), (1744830489 : Int32), (1207963664 : Int32), (1744830492 : Int32), (1744830491 : Int32), (671088668 : Int32), (671088665 : Int32), (402654731 : Int32), (402654731 : Int32), (1744830491 : Int32), (134049794 : Int32), (1744830488 : Int32), (1744830488 : Int32), (1744830491 : Int32), (402654475 : Int32), (28677 : Int32), (-402653154 : Int32), (1744832523 : Int32), (1744832523 : Int32), (1744832523 : Int32), (1744830488 : Int32), (8548353 : Int32), (8548353 : Int32), (8548353 : Int32), (8548353 : Int32), (8548353 : Int32), (8548353 : Int32), (8548353 : Int32), (8548353 : Int32), (8548353 : Int32), (8548353 : Int32), (8548353 : Int32), (8548353 : Int32), (8548353 : Int32), (8548353 : Int32), (8548353 : Int32), (8548353 : Int32), (8548353 : Int32), (8548353 : Int32), (8548353 : Int32), (8548353 : Int32), (8548353 : Int32), (8548353 : Int32), (8548353 : Int32), (1744830489 : Int32), (8548353 : Int32), (8548353 : Int32), (8548353 : Int32), (8548353 : Int32), (8548353 : Int32), (8548353 : Int32), (8548353 : Int32), (134049794 : Int32), (8482818 : Int32), (8482818 : Int32), (8482818 : Int32), (8482818 : Int32), (8482818 : Int32), (8482818 : Int32), (8482818 : Int32), (8482818 : Int32), (8482818 : Int32), (8482818 : Int32), (8482818 : Int32), (8482818 : Int32), (8482818 : Int32), (8482818 : Int32), (8482818 : Int32), (8482818 : Int32), (8482818 : Int32), (8482818 : Int32), (8482818 : Int32), (8482818 : Int32), (8482818 : Int32), (8482818 : Int32), (8482818 : Int32), (1744830489 : Int32), (8482818 : Int32), (8482818 : Int32), (8482818 : Int32), (8482818 : Int32), (8482818 : Int32), (8482818 : Int32), (8482818 : Int32), (102592514 : Int32)]
def own_A : List Value := own_Ai.map Value.int
def own_ec (c : Int32) : Prop := 32 < c.toInt ∧ c.toInt ≤ 255 ∧ c.toInt ≠ 44 ∧ c.toInt ≠ 61
def own_mc (c : Int32) : Prop := 0 ≤ c.toInt ∧ c.toInt ≤ 255 ∧ c.toInt ≠ 44 ∧ c.toInt ≠ 61
theorem own_ec.m {c : Int32} (h : own_ec c) : own_mc c := by unfold own_ec at h; unfold own_mc; omega
theorem own_mc.i {c : Int32} (h : own_mc c) : own_in c := by unfold own_mc at h; unfold own_in; omega
theorem own_nc (v : Int32) (h : 0 ≤ v.toInt ∧ v.toInt ≤ 65535) : (nar .char (v.toUInt32.toUInt16.toUInt32.toInt32)).toInt = v.toInt := by
  have h1 := c_i2c v; have h2 := c_i2c (v.toUInt32.toUInt16.toUInt32.toInt32)
  show ((v.toUInt32.toUInt16.toUInt32.toInt32).toUInt32.toUInt16.toUInt32.toInt32).toInt = v.toInt
  omega
abbrev rRrm1 : Room := { frames := 0, cells := 0, slots := 0, locals := 0 }
theorem d1_0 : decode method_3_code 0 = .ok (.iload_n 0, 1) := by decide +kernel
theorem d1_1 : decode method_3_code 1 = .ok (.sipush 255, 3) := by decide +kernel
theorem d1_4 : decode method_3_code 4 = .ok (.iand, 1) := by decide +kernel
theorem d1_5 : decode method_3_code 5 = .ok (.istore_n 1, 1) := by decide +kernel
theorem d1_6 : decode method_3_code 6 = .ok (.iload_n 1, 1) := by decide +kernel
theorem d1_7 : decode method_3_code 7 = .ok (.bipush 32, 2) := by decide +kernel
theorem d1_9 : decode method_3_code 9 = .ok (.if_icmp .le 15, 3) := by decide +kernel
theorem d1_12 : decode method_3_code 12 = .ok (.iload_n 1, 1) := by decide +kernel
theorem d1_13 : decode method_3_code 13 = .ok (.bipush 44, 2) := by decide +kernel
theorem d1_15 : decode method_3_code 15 = .ok (.if_icmp .eq 9, 3) := by decide +kernel
theorem d1_18 : decode method_3_code 18 = .ok (.iload_n 1, 1) := by decide +kernel
theorem d1_19 : decode method_3_code 19 = .ok (.bipush 61, 2) := by decide +kernel
theorem d1_21 : decode method_3_code 21 = .ok (.if_icmp .ne 8, 3) := by decide +kernel
theorem d1_24 : decode method_3_code 24 = .ok (.iload_n 1, 1) := by decide +kernel
theorem d1_25 : decode method_3_code 25 = .ok (.bipush 65, 2) := by decide +kernel
theorem d1_27 : decode method_3_code 27 = .ok (.iadd, 1) := by decide +kernel
theorem d1_28 : decode method_3_code 28 = .ok (.istore_n 1, 1) := by decide +kernel
theorem d1_29 : decode method_3_code 29 = .ok (.iload_n 1, 1) := by decide +kernel
theorem d1_30 : decode method_3_code 30 = .ok (.i2c, 1) := by decide +kernel
theorem d1_31 : decode method_3_code 31 = .ok (.ireturn, 1) := by decide +kernel
theorem pn_rm1 : plainFor yy0 = true := by first | exact plainFor_of_name (by first | (simp [plainName, overriddenIn]; done) | decide +kernel) | decide +kernel
theorem ef_rm1 (m : MethodId) (x9 : Int32) : entryFrame m #[(.int x9)] 2 = (mkF m 0 #[iv x9, .unset] []) := by first | (simp [entryFrame, mkF, argsToLocals, Value.category]; done) | rfl
def Q1 (Z : State) (x9 : Int32) (h0 : Heap) (n0 : Nat) (v_ : Option Value) (h_ : Heap) (L_ : List Loc) : Prop := ∃ r9 : Int32, (v_ = some (.int r9)) ∧ (Fr n0 L_) ∧ (h_ = h0) ∧ (own_ec r9)
set_option maxRecDepth 65536 in
set_option maxHeartbeats 40000000 in
theorem rm1 (l : Launch) (Z : State) (a0 : Array Value) (hw : ∀ d ∈ tables_1, d.before a0 Z = true) (ws : List Jvm.Cond) (x9 : Int32) (h0 : Heap) (n0 : Nat) (Z0 : n0 ≤ h0.size) :
    MetFree l yy0 (head1 (Jvm.Cond.code yy0 method_3_code 2 (some .char) :: ws) rRrm1) (fun a_ U_ => a_ = #[(.int x9)] ∧ Z.Warmed39 U_.vm ∧ U_.heap = h0) (fun _ _ _ _ _ => True) (fun _ U_ o_ U1_ => ∃ v_ L_, o_ = .returned v_ ∧ Q1 Z x9 h0 n0 v_ U1_.heap L_ ∧ FrameEnd U_ o_ U1_ L_ rRrm1.cells rRrm1.slots) := by
  refine MetFree.of_bodySF pn_rm1 hisR ?_
  intro p e s m args below meth c s₁ Bd hml0 hP hK
  obtain ⟨rfl, hZ, hh⟩ := hP
  have hx := Bd.exec
  have hby := Bd.bytes
  have hlk : meth.locks = false := Bd.notSynchronized
  have hml : c.maxLocals = 2 := hml0
  have hown : s.vm.findClass "com/example/firm_duties/firmduties/PairToStringPinLaw" = some m.cls := findClass_of_methodNamed Bd.named
  have hnm := (name_of_methodNamed Bd.named Bd.method).1
  have X0 : Stand p l e rRrm1 s m #[(.int x9)] below meth c s₁ [] 0 0 := Stand.of_body Bd
  have e0 : s₁.heap = h0 := by rw [← hh, Bd.state]; rfl
  have N0 := Fr.nil n0
  show own_Goes p e below s (Q1 Z x9 h0 n0) rRrm1.cells rRrm1.slots s₁ (entryFrame m #[(.int x9)] 2)
  rw [ef_rm1 m x9]
  show own_Goes p e below s (Q1 Z x9 h0 n0) rRrm1.cells rRrm1.slots s₁ (mkF m 0 #[iv x9, .unset] [])
  refine own_st (fun _ kk_ => XS.iloadN X0.here hx rfl (hb hby d1_0) rfl (XS.sipush X0.here hx rfl (hb hby d1_1) (XS.iand X0.here hx rfl (hb hby d1_4) rfl (XS.istoreN X0.here hx rfl (hb hby d1_5) rfl (l' := #[iv x9, iv (x9 &&& (255 : Int32))]) rfl (XS.iloadN X0.here hx rfl (hb hby d1_6) rfl (XS.bipush X0.here hx rfl (hb hby d1_7) kk_)))))) ?_
  show own_Goes _ _ _ _ _ _ _ s₁ (mkF m 9 #[iv x9, iv (x9 &&& (255 : Int32))] [(.int (32 : Int32)), (.int (x9 &&& (255 : Int32)))])
  rcases Classical.em ((32 : Int32) < (x9 &&& (255 : Int32))) with q0 | q0
  · refine own_st (fun _ kk_ => XS.icmpNo X0.here hx rfl (hb hby d1_9) rfl (XT.ii_le_f q0) (XS.iloadN X0.here hx rfl (hb hby d1_12) rfl (XS.bipush X0.here hx rfl (hb hby d1_13) kk_))) ?_
    show own_Goes _ _ _ _ _ _ _ s₁ (mkF m 15 #[iv x9, iv (x9 &&& (255 : Int32))] [(.int (44 : Int32)), (.int (x9 &&& (255 : Int32)))])
    rcases Classical.em ((x9 &&& (255 : Int32)) = (44 : Int32)) with q1 | q1
    · refine own_st (fun _ kk_ => XS.icmpYes X0.here hx rfl (pc0 := 15) (pc' := 24) rfl (hb hby d1_15) rfl (XT.ii_eq_t q1) (by decide) (by decide) (XS.iloadN X0.here hx rfl (hb hby d1_24) rfl (XS.bipush X0.here hx rfl (hb hby d1_25) (XS.iadd X0.here hx rfl (hb hby d1_27) rfl (XS.istoreN X0.here hx rfl (hb hby d1_28) rfl (l' := #[iv x9, iv ((x9 &&& (255 : Int32)) + (65 : Int32))]) rfl (XS.iloadN X0.here hx rfl (hb hby d1_29) rfl (XS.i2c X0.here hx rfl (hb hby d1_30) rfl kk_))))))) ?_
      show own_Goes _ _ _ _ _ _ _ s₁ (mkF m 31 #[iv x9, iv ((x9 &&& (255 : Int32)) + (65 : Int32))] [(.int (((x9 &&& (255 : Int32)) + (65 : Int32)).toUInt32.toUInt16.toUInt32.toInt32))])
      have ha := c_and x9 255 (by decide)
      have hbx := c_iadd (x9 &&& 255) 65
      have hcx := c_iadd (x9 &&& 255) 1
      have hd1 := ((x9 &&& 255) + 65).le_toInt
      have hd2 := ((x9 &&& 255) + 65).toInt_lt
      have hd3 := ((x9 &&& 255) + 1).le_toInt
      have hd4 := ((x9 &&& 255) + 1).toInt_lt
      simp only [Int32.reduceToInt] at ha hbx hcx
      simp only [Int32.lt_iff_toInt_lt, ← Int32.toInt_inj, Int32.reduceToInt] at q0 q1
      have hz : own_ec (nar .char (((x9 &&& (255 : Int32)) + (65 : Int32)).toUInt32.toUInt16.toUInt32.toInt32)) := by
        unfold own_ec; rw [own_nc _ (by omega)]; omega
      refine own_retN X0 hx hlk (t := .char) Bd.returns (by simp) (hb hby d1_31) (by decide) (by decide) ?_
      show Q1 Z x9 h0 n0 (some (.int (nar .char (((x9 &&& (255 : Int32)) + (65 : Int32)).toUInt32.toUInt16.toUInt32.toInt32)))) s₁.heap _
      rw [e0]
      exact ⟨_, rfl, N0, rfl, hz⟩
    · refine own_st (fun _ kk_ => XS.icmpNo X0.here hx rfl (hb hby d1_15) rfl (XT.ii_eq_f q1) (XS.iloadN X0.here hx rfl (hb hby d1_18) rfl (XS.bipush X0.here hx rfl (hb hby d1_19) kk_))) ?_
      show own_Goes _ _ _ _ _ _ _ s₁ (mkF m 21 #[iv x9, iv (x9 &&& (255 : Int32))] [(.int (61 : Int32)), (.int (x9 &&& (255 : Int32)))])
      rcases Classical.em ((x9 &&& (255 : Int32)) = (61 : Int32)) with q2 | q2
      · refine own_st (fun _ kk_ => XS.icmpNo X0.here hx rfl (hb hby d1_21) rfl (XT.ii_ne_f q2) (XS.iloadN X0.here hx rfl (hb hby d1_24) rfl (XS.bipush X0.here hx rfl (hb hby d1_25) (XS.iadd X0.here hx rfl (hb hby d1_27) rfl (XS.istoreN X0.here hx rfl (hb hby d1_28) rfl (l' := #[iv x9, iv ((x9 &&& (255 : Int32)) + (65 : Int32))]) rfl (XS.iloadN X0.here hx rfl (hb hby d1_29) rfl (XS.i2c X0.here hx rfl (hb hby d1_30) rfl kk_))))))) ?_
        show own_Goes _ _ _ _ _ _ _ s₁ (mkF m 31 #[iv x9, iv ((x9 &&& (255 : Int32)) + (65 : Int32))] [(.int (((x9 &&& (255 : Int32)) + (65 : Int32)).toUInt32.toUInt16.toUInt32.toInt32))])
        have ha := c_and x9 255 (by decide)
        have hbx := c_iadd (x9 &&& 255) 65
        have hcx := c_iadd (x9 &&& 255) 1
        have hd1 := ((x9 &&& 255) + 65).le_toInt
        have hd2 := ((x9 &&& 255) + 65).toInt_lt
        have hd3 := ((x9 &&& 255) + 1).le_toInt
        have hd4 := ((x9 &&& 255) + 1).toInt_lt
        simp only [Int32.reduceToInt] at ha hbx hcx
        simp only [Int32.lt_iff_toInt_lt, ← Int32.toInt_inj, Int32.reduceToInt] at q0 q1 q2
        have hz : own_ec (nar .char (((x9 &&& (255 : Int32)) + (65 : Int32)).toUInt32.toUInt16.toUInt32.toInt32)) := by
          unfold own_ec; rw [own_nc _ (by omega)]; omega
        refine own_retN X0 hx hlk (t := .char) Bd.returns (by simp) (hb hby d1_31) (by decide) (by decide) ?_
        show Q1 Z x9 h0 n0 (some (.int (nar .char (((x9 &&& (255 : Int32)) + (65 : Int32)).toUInt32.toUInt16.toUInt32.toInt32)))) s₁.heap _
        rw [e0]
        exact ⟨_, rfl, N0, rfl, hz⟩
      · refine own_st (fun _ kk_ => XS.icmpYes X0.here hx rfl (pc0 := 21) (pc' := 29) rfl (hb hby d1_21) rfl (XT.ii_ne_t q2) (by decide) (by decide) (XS.iloadN X0.here hx rfl (hb hby d1_29) rfl (XS.i2c X0.here hx rfl (hb hby d1_30) rfl kk_))) ?_
        show own_Goes _ _ _ _ _ _ _ s₁ (mkF m 31 #[iv x9, iv (x9 &&& (255 : Int32))] [(.int ((x9 &&& (255 : Int32)).toUInt32.toUInt16.toUInt32.toInt32))])
        have ha := c_and x9 255 (by decide)
        have hbx := c_iadd (x9 &&& 255) 65
        have hcx := c_iadd (x9 &&& 255) 1
        have hd1 := ((x9 &&& 255) + 65).le_toInt
        have hd2 := ((x9 &&& 255) + 65).toInt_lt
        have hd3 := ((x9 &&& 255) + 1).le_toInt
        have hd4 := ((x9 &&& 255) + 1).toInt_lt
        simp only [Int32.reduceToInt] at ha hbx hcx
        simp only [Int32.lt_iff_toInt_lt, ← Int32.toInt_inj, Int32.reduceToInt] at q0 q1 q2
        have hz : own_ec (nar .char ((x9 &&& (255 : Int32)).toUInt32.toUInt16.toUInt32.toInt32)) := by
          unfold own_ec; rw [own_nc _ (by omega)]; omega
        refine own_retN X0 hx hlk (t := .char) Bd.returns (by simp) (hb hby d1_31) (by decide) (by decide) ?_
        show Q1 Z x9 h0 n0 (some (.int (nar .char ((x9 &&& (255 : Int32)).toUInt32.toUInt16.toUInt32.toInt32)))) s₁.heap _
        rw [e0]
        exact ⟨_, rfl, N0, rfl, hz⟩
  · refine own_st (fun _ kk_ => XS.icmpYes X0.here hx rfl (pc0 := 9) (pc' := 24) rfl (hb hby d1_9) rfl (XT.ii_le_t q0) (by decide) (by decide) (XS.iloadN X0.here hx rfl (hb hby d1_24) rfl (XS.bipush X0.here hx rfl (hb hby d1_25) (XS.iadd X0.here hx rfl (hb hby d1_27) rfl (XS.istoreN X0.here hx rfl (hb hby d1_28) rfl (l' := #[iv x9, iv ((x9 &&& (255 : Int32)) + (65 : Int32))]) rfl (XS.iloadN X0.here hx rfl (hb hby d1_29) rfl (XS.i2c X0.here hx rfl (hb hby d1_30) rfl kk_))))))) ?_
    show own_Goes _ _ _ _ _ _ _ s₁ (mkF m 31 #[iv x9, iv ((x9 &&& (255 : Int32)) + (65 : Int32))] [(.int (((x9 &&& (255 : Int32)) + (65 : Int32)).toUInt32.toUInt16.toUInt32.toInt32))])
    have ha := c_and x9 255 (by decide)
    have hbx := c_iadd (x9 &&& 255) 65
    have hcx := c_iadd (x9 &&& 255) 1
    have hd1 := ((x9 &&& 255) + 65).le_toInt
    have hd2 := ((x9 &&& 255) + 65).toInt_lt
    have hd3 := ((x9 &&& 255) + 1).le_toInt
    have hd4 := ((x9 &&& 255) + 1).toInt_lt
    simp only [Int32.reduceToInt] at ha hbx hcx
    simp only [Int32.lt_iff_toInt_lt, ← Int32.toInt_inj, Int32.reduceToInt] at q0
    have hz : own_ec (nar .char (((x9 &&& (255 : Int32)) + (65 : Int32)).toUInt32.toUInt16.toUInt32.toInt32)) := by
      unfold own_ec; rw [own_nc _ (by omega)]; omega
    refine own_retN X0 hx hlk (t := .char) Bd.returns (by simp) (hb hby d1_31) (by decide) (by decide) ?_
    show Q1 Z x9 h0 n0 (some (.int (nar .char (((x9 &&& (255 : Int32)) + (65 : Int32)).toUInt32.toUInt16.toUInt32.toInt32)))) s₁.heap _
    rw [e0]
    exact ⟨_, rfl, N0, rfl, hz⟩
abbrev rRrm2 : Room := { frames := 0, cells := 0, slots := 0, locals := 0 }
theorem d2_0 : decode method_4_code 0 = .ok (.iload_n 0, 1) := by decide +kernel
theorem d2_1 : decode method_4_code 1 = .ok (.sipush 255, 3) := by decide +kernel
theorem d2_4 : decode method_4_code 4 = .ok (.iand, 1) := by decide +kernel
theorem d2_5 : decode method_4_code 5 = .ok (.istore_n 1, 1) := by decide +kernel
theorem d2_6 : decode method_4_code 6 = .ok (.iload_n 1, 1) := by decide +kernel
theorem d2_7 : decode method_4_code 7 = .ok (.bipush 44, 2) := by decide +kernel
theorem d2_9 : decode method_4_code 9 = .ok (.if_icmp .eq 9, 3) := by decide +kernel
theorem d2_12 : decode method_4_code 12 = .ok (.iload_n 1, 1) := by decide +kernel
theorem d2_13 : decode method_4_code 13 = .ok (.bipush 61, 2) := by decide +kernel
theorem d2_15 : decode method_4_code 15 = .ok (.if_icmp .ne 7, 3) := by decide +kernel
theorem d2_18 : decode method_4_code 18 = .ok (.iload_n 1, 1) := by decide +kernel
theorem d2_19 : decode method_4_code 19 = .ok (.iconst 1, 1) := by decide +kernel
theorem d2_20 : decode method_4_code 20 = .ok (.iadd, 1) := by decide +kernel
theorem d2_21 : decode method_4_code 21 = .ok (.istore_n 1, 1) := by decide +kernel
theorem d2_22 : decode method_4_code 22 = .ok (.iload_n 1, 1) := by decide +kernel
theorem d2_23 : decode method_4_code 23 = .ok (.i2c, 1) := by decide +kernel
theorem d2_24 : decode method_4_code 24 = .ok (.ireturn, 1) := by decide +kernel
theorem pn_rm2 : plainFor yy1 = true := by first | exact plainFor_of_name (by first | (simp [plainName, overriddenIn]; done) | decide +kernel) | decide +kernel
theorem ef_rm2 (m : MethodId) (x9 : Int32) : entryFrame m #[(.int x9)] 2 = (mkF m 0 #[iv x9, .unset] []) := by first | (simp [entryFrame, mkF, argsToLocals, Value.category]; done) | rfl
def Q2 (Z : State) (x9 : Int32) (h0 : Heap) (n0 : Nat) (v_ : Option Value) (h_ : Heap) (L_ : List Loc) : Prop := ∃ r9 : Int32, (v_ = some (.int r9)) ∧ (Fr n0 L_) ∧ (h_ = h0) ∧ (own_mc r9)
set_option maxRecDepth 65536 in
set_option maxHeartbeats 40000000 in
theorem rm2 (l : Launch) (Z : State) (a0 : Array Value) (hw : ∀ d ∈ tables_1, d.before a0 Z = true) (ws : List Jvm.Cond) (x9 : Int32) (h0 : Heap) (n0 : Nat) (Z0 : n0 ≤ h0.size) :
    MetFree l yy1 (head1 (Jvm.Cond.code yy1 method_4_code 2 (some .char) :: ws) rRrm2) (fun a_ U_ => a_ = #[(.int x9)] ∧ Z.Warmed39 U_.vm ∧ U_.heap = h0) (fun _ _ _ _ _ => True) (fun _ U_ o_ U1_ => ∃ v_ L_, o_ = .returned v_ ∧ Q2 Z x9 h0 n0 v_ U1_.heap L_ ∧ FrameEnd U_ o_ U1_ L_ rRrm2.cells rRrm2.slots) := by
  refine MetFree.of_bodySF pn_rm2 hisR ?_
  intro p e s m args below meth c s₁ Bd hml0 hP hK
  obtain ⟨rfl, hZ, hh⟩ := hP
  have hx := Bd.exec
  have hby := Bd.bytes
  have hlk : meth.locks = false := Bd.notSynchronized
  have hml : c.maxLocals = 2 := hml0
  have hown : s.vm.findClass "com/example/firm_duties/firmduties/PairToStringPinLaw" = some m.cls := findClass_of_methodNamed Bd.named
  have hnm := (name_of_methodNamed Bd.named Bd.method).1
  have X0 : Stand p l e rRrm2 s m #[(.int x9)] below meth c s₁ [] 0 0 := Stand.of_body Bd
  have e0 : s₁.heap = h0 := by rw [← hh, Bd.state]; rfl
  have N0 := Fr.nil n0
  show own_Goes p e below s (Q2 Z x9 h0 n0) rRrm2.cells rRrm2.slots s₁ (entryFrame m #[(.int x9)] 2)
  rw [ef_rm2 m x9]
  show own_Goes p e below s (Q2 Z x9 h0 n0) rRrm2.cells rRrm2.slots s₁ (mkF m 0 #[iv x9, .unset] [])
  refine own_st (fun _ kk_ => XS.iloadN X0.here hx rfl (hb hby d2_0) rfl (XS.sipush X0.here hx rfl (hb hby d2_1) (XS.iand X0.here hx rfl (hb hby d2_4) rfl (XS.istoreN X0.here hx rfl (hb hby d2_5) rfl (l' := #[iv x9, iv (x9 &&& (255 : Int32))]) rfl (XS.iloadN X0.here hx rfl (hb hby d2_6) rfl (XS.bipush X0.here hx rfl (hb hby d2_7) kk_)))))) ?_
  show own_Goes _ _ _ _ _ _ _ s₁ (mkF m 9 #[iv x9, iv (x9 &&& (255 : Int32))] [(.int (44 : Int32)), (.int (x9 &&& (255 : Int32)))])
  rcases Classical.em ((x9 &&& (255 : Int32)) = (44 : Int32)) with q0 | q0
  · refine own_st (fun _ kk_ => XS.icmpYes X0.here hx rfl (pc0 := 9) (pc' := 18) rfl (hb hby d2_9) rfl (XT.ii_eq_t q0) (by decide) (by decide) (XS.iloadN X0.here hx rfl (hb hby d2_18) rfl (XS.iconst X0.here hx rfl (hb hby d2_19) (XS.iadd X0.here hx rfl (hb hby d2_20) rfl (XS.istoreN X0.here hx rfl (hb hby d2_21) rfl (l' := #[iv x9, iv ((x9 &&& (255 : Int32)) + (1 : Int32))]) rfl (XS.iloadN X0.here hx rfl (hb hby d2_22) rfl (XS.i2c X0.here hx rfl (hb hby d2_23) rfl kk_))))))) ?_
    show own_Goes _ _ _ _ _ _ _ s₁ (mkF m 24 #[iv x9, iv ((x9 &&& (255 : Int32)) + (1 : Int32))] [(.int (((x9 &&& (255 : Int32)) + (1 : Int32)).toUInt32.toUInt16.toUInt32.toInt32))])
    have ha := c_and x9 255 (by decide)
    have hbx := c_iadd (x9 &&& 255) 65
    have hcx := c_iadd (x9 &&& 255) 1
    have hd1 := ((x9 &&& 255) + 65).le_toInt
    have hd2 := ((x9 &&& 255) + 65).toInt_lt
    have hd3 := ((x9 &&& 255) + 1).le_toInt
    have hd4 := ((x9 &&& 255) + 1).toInt_lt
    simp only [Int32.reduceToInt] at ha hbx hcx
    simp only [Int32.lt_iff_toInt_lt, ← Int32.toInt_inj, Int32.reduceToInt] at q0
    have hz : own_mc (nar .char (((x9 &&& (255 : Int32)) + (1 : Int32)).toUInt32.toUInt16.toUInt32.toInt32)) := by
      unfold own_mc; rw [own_nc _ (by omega)]; omega
    refine own_retN X0 hx hlk (t := .char) Bd.returns (by simp) (hb hby d2_24) (by decide) (by decide) ?_
    show Q2 Z x9 h0 n0 (some (.int (nar .char (((x9 &&& (255 : Int32)) + (1 : Int32)).toUInt32.toUInt16.toUInt32.toInt32)))) s₁.heap _
    rw [e0]
    exact ⟨_, rfl, N0, rfl, hz⟩
  · refine own_st (fun _ kk_ => XS.icmpNo X0.here hx rfl (hb hby d2_9) rfl (XT.ii_eq_f q0) (XS.iloadN X0.here hx rfl (hb hby d2_12) rfl (XS.bipush X0.here hx rfl (hb hby d2_13) kk_))) ?_
    show own_Goes _ _ _ _ _ _ _ s₁ (mkF m 15 #[iv x9, iv (x9 &&& (255 : Int32))] [(.int (61 : Int32)), (.int (x9 &&& (255 : Int32)))])
    rcases Classical.em ((x9 &&& (255 : Int32)) = (61 : Int32)) with q1 | q1
    · refine own_st (fun _ kk_ => XS.icmpNo X0.here hx rfl (hb hby d2_15) rfl (XT.ii_ne_f q1) (XS.iloadN X0.here hx rfl (hb hby d2_18) rfl (XS.iconst X0.here hx rfl (hb hby d2_19) (XS.iadd X0.here hx rfl (hb hby d2_20) rfl (XS.istoreN X0.here hx rfl (hb hby d2_21) rfl (l' := #[iv x9, iv ((x9 &&& (255 : Int32)) + (1 : Int32))]) rfl (XS.iloadN X0.here hx rfl (hb hby d2_22) rfl (XS.i2c X0.here hx rfl (hb hby d2_23) rfl kk_))))))) ?_
      show own_Goes _ _ _ _ _ _ _ s₁ (mkF m 24 #[iv x9, iv ((x9 &&& (255 : Int32)) + (1 : Int32))] [(.int (((x9 &&& (255 : Int32)) + (1 : Int32)).toUInt32.toUInt16.toUInt32.toInt32))])
      have ha := c_and x9 255 (by decide)
      have hbx := c_iadd (x9 &&& 255) 65
      have hcx := c_iadd (x9 &&& 255) 1
      have hd1 := ((x9 &&& 255) + 65).le_toInt
      have hd2 := ((x9 &&& 255) + 65).toInt_lt
      have hd3 := ((x9 &&& 255) + 1).le_toInt
      have hd4 := ((x9 &&& 255) + 1).toInt_lt
      simp only [Int32.reduceToInt] at ha hbx hcx
      simp only [Int32.lt_iff_toInt_lt, ← Int32.toInt_inj, Int32.reduceToInt] at q0 q1
      have hz : own_mc (nar .char (((x9 &&& (255 : Int32)) + (1 : Int32)).toUInt32.toUInt16.toUInt32.toInt32)) := by
        unfold own_mc; rw [own_nc _ (by omega)]; omega
      refine own_retN X0 hx hlk (t := .char) Bd.returns (by simp) (hb hby d2_24) (by decide) (by decide) ?_
      show Q2 Z x9 h0 n0 (some (.int (nar .char (((x9 &&& (255 : Int32)) + (1 : Int32)).toUInt32.toUInt16.toUInt32.toInt32)))) s₁.heap _
      rw [e0]
      exact ⟨_, rfl, N0, rfl, hz⟩
    · refine own_st (fun _ kk_ => XS.icmpYes X0.here hx rfl (pc0 := 15) (pc' := 22) rfl (hb hby d2_15) rfl (XT.ii_ne_t q1) (by decide) (by decide) (XS.iloadN X0.here hx rfl (hb hby d2_22) rfl (XS.i2c X0.here hx rfl (hb hby d2_23) rfl kk_))) ?_
      show own_Goes _ _ _ _ _ _ _ s₁ (mkF m 24 #[iv x9, iv (x9 &&& (255 : Int32))] [(.int ((x9 &&& (255 : Int32)).toUInt32.toUInt16.toUInt32.toInt32))])
      have ha := c_and x9 255 (by decide)
      have hbx := c_iadd (x9 &&& 255) 65
      have hcx := c_iadd (x9 &&& 255) 1
      have hd1 := ((x9 &&& 255) + 65).le_toInt
      have hd2 := ((x9 &&& 255) + 65).toInt_lt
      have hd3 := ((x9 &&& 255) + 1).le_toInt
      have hd4 := ((x9 &&& 255) + 1).toInt_lt
      simp only [Int32.reduceToInt] at ha hbx hcx
      simp only [Int32.lt_iff_toInt_lt, ← Int32.toInt_inj, Int32.reduceToInt] at q0 q1
      have hz : own_mc (nar .char ((x9 &&& (255 : Int32)).toUInt32.toUInt16.toUInt32.toInt32)) := by
        unfold own_mc; rw [own_nc _ (by omega)]; omega
      refine own_retN X0 hx hlk (t := .char) Bd.returns (by simp) (hb hby d2_24) (by decide) (by decide) ?_
      show Q2 Z x9 h0 n0 (some (.int (nar .char ((x9 &&& (255 : Int32)).toUInt32.toUInt16.toUInt32.toInt32)))) s₁.heap _
      rw [e0]
      exact ⟨_, rfl, N0, rfl, hz⟩
theorem own_hws {a0 : Array Value} {Z : State} (hw : ∀ d ∈ tables_1, d.before a0 Z = true) : ∀ d ∈ StrChars.Road.words, d.before a0 Z = true := fun d hd => hw d ((by decide +kernel : ∀ d ∈ StrChars.Road.words, d ∈ tables_1) d hd)
theorem own_hp {c : Int32} (h : own_in c) : ¬ nar .char c < 0 ∧ ¬ (255 : Int32) < nar .char c := by
  refine ⟨?_, own_255 h⟩
  rw [own_narc h]; unfold own_in at h; simp only [Int32.lt_iff_toInt_lt, Int32.reduceToInt]; omega
def own_t3 (n : Int32) : Prop := n = 1 ∨ n = 2 ∨ n = 3
def own_tok (z : Int32) (vs : List Value) : Prop := (∃ c0, z = 1 ∧ vs = [.int (own_by c0)] ∧ own_ec c0) ∨ (∃ c0 c1, z = 2 ∧ vs = [.int (own_by c0), .int (own_by c1)] ∧ own_ec c0 ∧ own_ec c1) ∨ (∃ c0 c1 c2, z = 3 ∧ vs = [.int (own_by c0), .int (own_by c1), .int (own_by c2)] ∧ own_ec c0 ∧ own_mc c1 ∧ own_ec c2)
abbrev rRrm3 : Room := { frames := 4, cells := 3, slots := 10, locals := 66 }
theorem d3_0 : decode method_5_code 0 = .ok (.iload_n 0, 1) := by decide +kernel
theorem d3_1 : decode method_5_code 1 = .ok (.iconst 1, 1) := by decide +kernel
theorem d3_2 : decode method_5_code 2 = .ok (.if_icmp .ne 18, 3) := by decide +kernel
theorem d3_5 : decode method_5_code 5 = .ok (.new 30, 3) := by decide +kernel
theorem d3_8 : decode method_5_code 8 = .ok (.dup, 1) := by decide +kernel
theorem d3_9 : decode method_5_code 9 = .ok (.iconst 1, 1) := by decide +kernel
theorem d3_10 : decode method_5_code 10 = .ok (.newarray .char, 2) := by decide +kernel
theorem d3_12 : decode method_5_code 12 = .ok (.dup, 1) := by decide +kernel
theorem d3_13 : decode method_5_code 13 = .ok (.iconst 0, 1) := by decide +kernel
theorem d3_14 : decode method_5_code 14 = .ok (.iload_n 1, 1) := by decide +kernel
theorem d3_15 : decode method_5_code 15 = .ok (.castore, 1) := by decide +kernel
theorem d3_16 : decode method_5_code 16 = .ok (.invokespecial 42, 3) := by decide +kernel
theorem d3_19 : decode method_5_code 19 = .ok (.areturn, 1) := by decide +kernel
theorem d3_20 : decode method_5_code 20 = .ok (.iload_n 0, 1) := by decide +kernel
theorem d3_21 : decode method_5_code 21 = .ok (.iconst 2, 1) := by decide +kernel
theorem d3_22 : decode method_5_code 22 = .ok (.if_icmp .ne 22, 3) := by decide +kernel
theorem d3_25 : decode method_5_code 25 = .ok (.new 30, 3) := by decide +kernel
theorem d3_28 : decode method_5_code 28 = .ok (.dup, 1) := by decide +kernel
theorem d3_29 : decode method_5_code 29 = .ok (.iconst 2, 1) := by decide +kernel
theorem d3_30 : decode method_5_code 30 = .ok (.newarray .char, 2) := by decide +kernel
theorem d3_32 : decode method_5_code 32 = .ok (.dup, 1) := by decide +kernel
theorem d3_33 : decode method_5_code 33 = .ok (.iconst 0, 1) := by decide +kernel
theorem d3_34 : decode method_5_code 34 = .ok (.iload_n 1, 1) := by decide +kernel
theorem d3_35 : decode method_5_code 35 = .ok (.castore, 1) := by decide +kernel
theorem d3_36 : decode method_5_code 36 = .ok (.dup, 1) := by decide +kernel
theorem d3_37 : decode method_5_code 37 = .ok (.iconst 1, 1) := by decide +kernel
theorem d3_38 : decode method_5_code 38 = .ok (.iload_n 3, 1) := by decide +kernel
theorem d3_39 : decode method_5_code 39 = .ok (.castore, 1) := by decide +kernel
theorem d3_40 : decode method_5_code 40 = .ok (.invokespecial 42, 3) := by decide +kernel
theorem d3_43 : decode method_5_code 43 = .ok (.areturn, 1) := by decide +kernel
theorem d3_44 : decode method_5_code 44 = .ok (.new 30, 3) := by decide +kernel
theorem d3_47 : decode method_5_code 47 = .ok (.dup, 1) := by decide +kernel
theorem d3_48 : decode method_5_code 48 = .ok (.iconst 3, 1) := by decide +kernel
theorem d3_49 : decode method_5_code 49 = .ok (.newarray .char, 2) := by decide +kernel
theorem d3_51 : decode method_5_code 51 = .ok (.dup, 1) := by decide +kernel
theorem d3_52 : decode method_5_code 52 = .ok (.iconst 0, 1) := by decide +kernel
theorem d3_53 : decode method_5_code 53 = .ok (.iload_n 1, 1) := by decide +kernel
theorem d3_54 : decode method_5_code 54 = .ok (.castore, 1) := by decide +kernel
theorem d3_55 : decode method_5_code 55 = .ok (.dup, 1) := by decide +kernel
theorem d3_56 : decode method_5_code 56 = .ok (.iconst 1, 1) := by decide +kernel
theorem d3_57 : decode method_5_code 57 = .ok (.iload_n 2, 1) := by decide +kernel
theorem d3_58 : decode method_5_code 58 = .ok (.castore, 1) := by decide +kernel
theorem d3_59 : decode method_5_code 59 = .ok (.dup, 1) := by decide +kernel
theorem d3_60 : decode method_5_code 60 = .ok (.iconst 2, 1) := by decide +kernel
theorem d3_61 : decode method_5_code 61 = .ok (.iload_n 3, 1) := by decide +kernel
theorem d3_62 : decode method_5_code 62 = .ok (.castore, 1) := by decide +kernel
theorem d3_63 : decode method_5_code 63 = .ok (.invokespecial 42, 3) := by decide +kernel
theorem d3_66 : decode method_5_code 66 = .ok (.areturn, 1) := by decide +kernel
theorem pd_0 : parseMethodDescriptor "([C)V" = some ⟨[(.array .char)], none⟩ := by decide +kernel
theorem pn_rm3 : plainFor yy3 = true := by first | exact plainFor_of_name (by first | (simp [plainName, overriddenIn]; done) | decide +kernel) | decide +kernel
theorem ef_rm3 (m : MethodId) (n9 : Int32) (c0 : Int32) (c1 : Int32) (c2 : Int32) : entryFrame m #[(.int n9), (.int c0), (.int c1), (.int c2)] 4 = (mkF m 0 #[iv n9, iv c0, iv c1, iv c2] []) := by first | (simp [entryFrame, mkF, argsToLocals, Value.category]; done) | rfl
def Q3 (Z : State) (n9 : Int32) (c0 : Int32) (c1 : Int32) (c2 : Int32) (cs : Int32) (h0 : Heap) (n0 : Nat) (v_ : Option Value) (h_ : Heap) (L_ : List Loc) : Prop := ∃ y : Addr, ∃ d : Addr, ∃ kd : ClassId, ∃ vs9 : List Value, (v_ = some (.ref y)) ∧ (Fr n0 L_) ∧ (Keep h0 h_ []) ∧ (h0.size ≤ y) ∧ (Exa Z h_ y "java/lang/String") ∧ (Fld Z h_ y "java/lang/String" "coder" "B" (.int (0 : Int32))) ∧ (Fld Z h_ y "java/lang/String" "value" "[B" (.ref d)) ∧ (Arv Z h_ d kd .byte n9 vs9 (.int (0 : Int32))) ∧ (own_tok n9 vs9)
set_option maxRecDepth 65536 in
set_option maxHeartbeats 40000000 in
theorem rm3 (l : Launch) (Z : State) (a0 : Array Value) (hw : ∀ d ∈ tables_1, d.before a0 Z = true) (ws : List Jvm.Cond) (n9 : Int32) (c0 : Int32) (c1 : Int32) (c2 : Int32) (cs : Int32) (h0 : Heap) (n0 : Nat) (Z0 : n0 ≤ h0.size) (p_0 : Sta Z h0 "java/lang/String" "COMPACT_STRINGS" "Z" (.int cs)) (hcs : ¬ cs = (0 : Int32)) (hn : own_t3 n9) (he0 : own_ec c0) (hm1 : own_mc c1) (he2 : own_ec c2) :
    MetFree l yy3 (head1 (Jvm.Cond.code yy3 method_5_code 4 (some (.object "java/lang/String")) :: ws) rRrm3) (fun a_ U_ => a_ = #[(.int n9), (.int c0), (.int c1), (.int c2)] ∧ Z.Warmed39 U_.vm ∧ U_.heap = h0) (fun _ _ _ _ _ => True) (fun _ U_ o_ U1_ => ∃ v_ L_, o_ = .returned v_ ∧ Q3 Z n9 c0 c1 c2 cs h0 n0 v_ U1_.heap L_ ∧ FrameEnd U_ o_ U1_ L_ rRrm3.cells rRrm3.slots) := by
  refine MetFree.of_bodySF pn_rm3 hisR ?_
  intro p e s m args below meth c s₁ Bd hml0 hP hK
  obtain ⟨rfl, hZ, hh⟩ := hP
  have hx := Bd.exec
  have hby := Bd.bytes
  have hlk : meth.locks = false := Bd.notSynchronized
  have hml : c.maxLocals = 4 := hml0
  have hown : s.vm.findClass "com/example/firm_duties/firmduties/PairToStringPinLaw" = some m.cls := findClass_of_methodNamed Bd.named
  have hnm := (name_of_methodNamed Bd.named Bd.method).1
  have X0 : Stand p l e rRrm3 s m #[(.int n9), (.int c0), (.int c1), (.int c2)] below meth c s₁ [] 0 0 := Stand.of_body Bd
  have e0 : s₁.heap = h0 := by rw [← hh, Bd.state]; rfl
  have N0 := Fr.nil n0
  show own_Goes p e below s (Q3 Z n9 c0 c1 c2 cs h0 n0) rRrm3.cells rRrm3.slots s₁ (entryFrame m #[(.int n9), (.int c0), (.int c1), (.int c2)] 4)
  rw [ef_rm3 m n9 c0 c1 c2]
  show own_Goes p e below s (Q3 Z n9 c0 c1 c2 cs h0 n0) rRrm3.cells rRrm3.slots s₁ (mkF m 0 #[iv n9, iv c0, iv c1, iv c2] [])
  rcases hn with rfl | rfl | rfl
  · show own_Goes _ _ _ _ _ _ _ s₁ (mkF m 0 #[iv (1 : Int32), iv c0, iv c1, iv c2] [])
    refine own_st (fun _ kk_ => XS.iloadN X0.here hx rfl (hb hby d3_0) rfl (XS.iconst X0.here hx rfl (hb hby d3_1) (XS.icmpNo X0.here hx rfl (hb hby d3_2) rfl (XT.ii_ne_f (by decide)) kk_))) ?_
    show own_Goes _ _ _ _ _ _ _ s₁ (mkF m 5 #[iv (1 : Int32), iv c0, iv c1, iv c2] [])
    obtain ⟨T1, h1, X1, e1, E1, A1, D1, -, st1⟩ := newO X0 hx hZ hown (own_w hw 10 rfl) (own_w hw 11 rfl) (own_w hw 12 rfl) e0 (g := (mkF m 5 #[iv (1 : Int32), iv c0, iv c1, iv c2] [])) rfl (hb hby d3_5) (by decide) (by decide)
    obtain ⟨b1, gx1⟩ : ∃ z, z = h0.size := ⟨_, rfl⟩
    rw [← gx1] at A1 D1 st1
    have gg1 : n0 ≤ b1 := Nat.le_trans Z0 (Nat.le_of_eq gx1.symm)
    have sz1 : h0.size ≤ b1 := Nat.le_trans (Keep.refl h0 []).1 (Nat.le_of_eq gx1.symm)
    have f1_0 := p_0.ext E1
    have Zs1 : n0 ≤ h1.size := Nat.le_trans Z0 E1.1
    have K1 := (Keep.refl h0 []).ext E1
    have fn1_coder : Fld Z h1 b1 "java/lang/String" "coder" "B" (.int (0 : Int32)) := D1 (Or.inr (own_w hw 37 rfl)) (ty := .byte) (by decide)
    have fn1_value : Fld Z h1 b1 "java/lang/String" "value" "[B" .null := D1 (Or.inr (own_w hw 39 rfl)) (ty := (.array .byte)) (by decide)
    refine own_st st1 ?_
    show own_Goes _ _ _ _ _ _ _ T1 (mkF m 8 #[iv (1 : Int32), iv c0, iv c1, iv c2] [(.ref b1)])
    refine own_st (fun _ kk_ => XS.dup X1.here hx rfl (hb hby d3_8) rfl rfl (XS.iconst X1.here hx rfl (hb hby d3_9) kk_)) ?_
    show own_Goes _ _ _ _ _ _ _ T1 (mkF m 10 #[iv (1 : Int32), iv c0, iv c1, iv c2] [(.int (1 : Int32)), (.ref b1), (.ref b1)])
    obtain ⟨T2, h2, k2, X2, e2, E2, A2, st2⟩ := newP X1 hx hZ (own_w hw 13 rfl) e1 (g := (mkF m 10 #[iv (1 : Int32), iv c0, iv c1, iv c2] [(.int (1 : Int32)), (.ref b1), (.ref b1)])) rfl (hb hby d3_10) rfl (by decide) (cap := 1) (by decide) (by decide) (by decide) (by decide)
    obtain ⟨b2, gx2⟩ : ∃ z, z = h1.size := ⟨_, rfl⟩
    rw [← gx2] at A2 st2
    have ne2_b1 : b1 ≠ b2 := Nat.ne_of_lt (Nat.lt_of_lt_of_eq A1.lt gx2.symm)
    have gg2 : n0 ≤ b2 := Nat.le_trans Zs1 (Nat.le_of_eq gx2.symm)
    have sz2 : h0.size ≤ b2 := Nat.le_trans K1.1 (Nat.le_of_eq gx2.symm)
    have f2_0 := f1_0.ext E2
    have f2_1 := A1.ext E2
    have f2_2 := fn1_coder.ext E2
    have f2_3 := fn1_value.ext E2
    have Zs2 : n0 ≤ h2.size := Nat.le_trans Zs1 E2.1
    have K2 := K1.ext E2
    have V2 : Arv Z h2 b2 k2 .char (1 : Int32) [(.int (0 : Int32))] (.int (0 : Int32)) := (Arv.new A2 (by decide)).pad (pad_rep [] (.int (0 : Int32)) 1)
    refine own_st st2 ?_
    show own_Goes _ _ _ _ _ _ _ T2 (mkF m 12 #[iv (1 : Int32), iv c0, iv c1, iv c2] [(.ref b2), (.ref b1), (.ref b1)])
    refine own_st (fun _ kk_ => XS.dup X2.here hx rfl (hb hby d3_12) rfl rfl (XS.iconst X2.here hx rfl (hb hby d3_13) (XS.iloadN X2.here hx rfl (hb hby d3_14) rfl kk_))) ?_
    show own_Goes _ _ _ _ _ _ _ T2 (mkF m 15 #[iv (1 : Int32), iv c0, iv c1, iv c2] [(.int c0), (.int (0 : Int32)), (.ref b2), (.ref b2), (.ref b1), (.ref b1)])
    obtain ⟨cl3, Ar3, q3, Sz3, Nn3, Hh3, Gg3⟩ := id V2
    obtain ⟨T3, h3, X3, e3, W3, st3⟩ := stC X2 hx hZ e2 Ar3 (j := (0 : Int32)) (inb_of Sz3 ⟨by decide, by decide⟩) (g := (mkF m 15 #[iv (1 : Int32), iv c0, iv c1, iv c2] [(.int c0), (.int (0 : Int32)), (.ref b2), (.ref b2), (.ref b1), (.ref b1)])) rfl rfl (hb hby d3_15)
    have V3 : Arv Z h3 b2 k2 .char (1 : Int32) [(.int (nar .char c0))] (.int (0 : Int32)) := Arv.set Ar3 q3 Sz3 Nn3 Hh3 Gg3 (fits_nar_char _) W3 0 rfl (Nat.le_of_ble_eq_true rfl)
    have f3_0 := f2_0.wr W3
    have f3_1 := f2_1.wr W3
    have f3_2 := f2_2.other W3 (Or.inl ne2_b1)
    have f3_3 := f2_3.other W3 (Or.inl ne2_b1)
    have Zs3 : n0 ≤ h3.size := Nat.le_trans Zs2 (Nat.le_of_eq W3.size.symm)
    have K3 := K2.wr W3 (Or.inr sz2)
    have N3 := Fr.snoc X3 N0 gg2
    refine own_st st3 ?_
    show own_Goes _ _ _ _ _ _ _ T3 (mkF m 16 #[iv (1 : Int32), iv c0, iv c1, iv c2] [(.ref b2), (.ref b1), (.ref b1)])
    obtain ⟨_, _, ⟨T4, L4, k4, n4⟩, -, X4, ⟨Lc4, hQ4, l4, y4, z4⟩, st4⟩ := X3.specialBack hx (y := yy2) rfl hown (mvT hZ (own_w hw 14 rfl)) (mvT hZ (own_w hw 15 rfl)) (mvT hZ (own_w hw 16 rfl)) (by decide) (StrChars.Road.backV (W := 1) hZ (own_hws hw) (kI := 4) (own_w hw 11 rfl) (cs := [(nar .char c0)]) (bs := [(own_by c0)]) (n := 1) gg1 Zs3 f3_1 f3_3 f3_2 V3 f3_0 (by assumption) rfl rfl (by decide) (by decide) (List.forall_mem_cons.mpr ⟨own_hp he0.m.i, (fun _ q => nomatch q)⟩) (by rw [own_narc he0.m.i]; rfl) (by decide) (by decide)) (g := (mkF m 16 #[iv (1 : Int32), iv c0, iv c1, iv c2] [(.ref b2), (.ref b1), (.ref b1)])) rfl (by rw [hml]; rfl) (Steps.refl _) (a := b1) (argsL := [(.ref b2)]) (rest := [(.ref b1)]) (lenOf pd_0 rfl) rfl (by show 2 * 0 + _ ≤ _; exact Nat.le_of_eq rfl) (hb hby d3_16) (fun _ _ => ⟨rfl, e3, (by decide : 2 + 1 ≤ _), (by decide : 5 + 1 ≤ _)⟩)
    dsimp only [Pt.U, Pt.locs, Pt.cells, Pt.slots] at X4 l4 y4 z4 st4 hQ4
    subst l4 y4 z4
    obtain ⟨rfl, Nq4, Kq4, u4_0, u4_1, x4_d, x4_kd, u4_2, u4_3, u4_4, u4_5, u4_6⟩ := hQ4
    have N4 := Fr.app N3 Nq4
    have f4_0 := own_Sta_keep f3_0 Kq4 (nsS f3_1.nostat ns0)
    have f4_1 := f3_1.keep Kq4
    have f4_4 := V3.keep Kq4 (ninS (Ne.symm ne2_b1) nin0)
    have Zs4 : n0 ≤ T4.heap.size := Nat.le_trans Zs3 Kq4.1
    have K4 := K3.trans Kq4 (allS (Or.inr sz1) all0)
    have ne4_b1 : b1 ≠ x4_d := Nat.ne_of_lt (Nat.lt_of_lt_of_le f3_1.lt u4_3)
    have ne4_b2 : b2 ≠ x4_d := Nat.ne_of_lt (Nat.lt_of_lt_of_le V3.lt u4_3)
    have sz4_d : h0.size ≤ x4_d := Nat.le_trans K3.1 u4_3
    have gg4_d : n0 ≤ x4_d := Nat.le_trans Zs3 u4_3
    refine own_st (fun _ kk_ => st4.trans kk_) ?_
    show own_Goes _ _ _ _ _ _ _ T4 (mkF m 19 #[iv (1 : Int32), iv c0, iv c1, iv c2] [(.ref b1)])
    refine own_retA X4 hx hlk rfl Bd.returns rfl (hb hby d3_19) (by decide) (by decide) ?_
    show Q3 Z (1 : Int32) c0 c1 c2 cs h0 n0 (some (.ref b1)) T4.heap _
    exact ⟨b1, x4_d, x4_kd, [(.int (own_by c0))], rfl, N4, K4, sz1, u4_0, u4_1, u4_5, u4_6, (Or.inl ⟨_, rfl, rfl, he0⟩)⟩
  · show own_Goes _ _ _ _ _ _ _ s₁ (mkF m 0 #[iv (2 : Int32), iv c0, iv c1, iv c2] [])
    refine own_st (fun _ kk_ => XS.iloadN X0.here hx rfl (hb hby d3_0) rfl (XS.iconst X0.here hx rfl (hb hby d3_1) (XS.icmpYes X0.here hx rfl (pc0 := 2) (pc' := 20) rfl (hb hby d3_2) rfl (XT.ii_ne_t (by decide)) (by decide) (by decide) (XS.iloadN X0.here hx rfl (hb hby d3_20) rfl (XS.iconst X0.here hx rfl (hb hby d3_21) (XS.icmpNo X0.here hx rfl (hb hby d3_22) rfl (XT.ii_ne_f (by decide)) kk_)))))) ?_
    show own_Goes _ _ _ _ _ _ _ s₁ (mkF m 25 #[iv (2 : Int32), iv c0, iv c1, iv c2] [])
    obtain ⟨T5, h5, X5, e5, E5, A5, D5, -, st5⟩ := newO X0 hx hZ hown (own_w hw 10 rfl) (own_w hw 11 rfl) (own_w hw 12 rfl) e0 (g := (mkF m 25 #[iv (2 : Int32), iv c0, iv c1, iv c2] [])) rfl (hb hby d3_25) (by decide) (by decide)
    obtain ⟨b5, gx5⟩ : ∃ z, z = h0.size := ⟨_, rfl⟩
    rw [← gx5] at A5 D5 st5
    have gg5 : n0 ≤ b5 := Nat.le_trans Z0 (Nat.le_of_eq gx5.symm)
    have sz5 : h0.size ≤ b5 := Nat.le_trans (Keep.refl h0 []).1 (Nat.le_of_eq gx5.symm)
    have f5_0 := p_0.ext E5
    have Zs5 : n0 ≤ h5.size := Nat.le_trans Z0 E5.1
    have K5 := (Keep.refl h0 []).ext E5
    have fn5_coder : Fld Z h5 b5 "java/lang/String" "coder" "B" (.int (0 : Int32)) := D5 (Or.inr (own_w hw 37 rfl)) (ty := .byte) (by decide)
    have fn5_value : Fld Z h5 b5 "java/lang/String" "value" "[B" .null := D5 (Or.inr (own_w hw 39 rfl)) (ty := (.array .byte)) (by decide)
    refine own_st st5 ?_
    show own_Goes _ _ _ _ _ _ _ T5 (mkF m 28 #[iv (2 : Int32), iv c0, iv c1, iv c2] [(.ref b5)])
    refine own_st (fun _ kk_ => XS.dup X5.here hx rfl (hb hby d3_28) rfl rfl (XS.iconst X5.here hx rfl (hb hby d3_29) kk_)) ?_
    show own_Goes _ _ _ _ _ _ _ T5 (mkF m 30 #[iv (2 : Int32), iv c0, iv c1, iv c2] [(.int (2 : Int32)), (.ref b5), (.ref b5)])
    obtain ⟨T6, h6, k6, X6, e6, E6, A6, st6⟩ := newP X5 hx hZ (own_w hw 13 rfl) e5 (g := (mkF m 30 #[iv (2 : Int32), iv c0, iv c1, iv c2] [(.int (2 : Int32)), (.ref b5), (.ref b5)])) rfl (hb hby d3_30) rfl (by decide) (cap := 2) (by decide) (by decide) (by decide) (by decide)
    obtain ⟨b6, gx6⟩ : ∃ z, z = h5.size := ⟨_, rfl⟩
    rw [← gx6] at A6 st6
    have ne6_b5 : b5 ≠ b6 := Nat.ne_of_lt (Nat.lt_of_lt_of_eq A5.lt gx6.symm)
    have gg6 : n0 ≤ b6 := Nat.le_trans Zs5 (Nat.le_of_eq gx6.symm)
    have sz6 : h0.size ≤ b6 := Nat.le_trans K5.1 (Nat.le_of_eq gx6.symm)
    have f6_0 := f5_0.ext E6
    have f6_1 := A5.ext E6
    have f6_2 := fn5_coder.ext E6
    have f6_3 := fn5_value.ext E6
    have Zs6 : n0 ≤ h6.size := Nat.le_trans Zs5 E6.1
    have K6 := K5.ext E6
    have V6 : Arv Z h6 b6 k6 .char (2 : Int32) [(.int (0 : Int32)), (.int (0 : Int32))] (.int (0 : Int32)) := (Arv.new A6 (by decide)).pad (pad_rep [] (.int (0 : Int32)) 2)
    refine own_st st6 ?_
    show own_Goes _ _ _ _ _ _ _ T6 (mkF m 32 #[iv (2 : Int32), iv c0, iv c1, iv c2] [(.ref b6), (.ref b5), (.ref b5)])
    refine own_st (fun _ kk_ => XS.dup X6.here hx rfl (hb hby d3_32) rfl rfl (XS.iconst X6.here hx rfl (hb hby d3_33) (XS.iloadN X6.here hx rfl (hb hby d3_34) rfl kk_))) ?_
    show own_Goes _ _ _ _ _ _ _ T6 (mkF m 35 #[iv (2 : Int32), iv c0, iv c1, iv c2] [(.int c0), (.int (0 : Int32)), (.ref b6), (.ref b6), (.ref b5), (.ref b5)])
    obtain ⟨cl7, Ar7, q7, Sz7, Nn7, Hh7, Gg7⟩ := id V6
    obtain ⟨T7, h7, X7, e7, W7, st7⟩ := stC X6 hx hZ e6 Ar7 (j := (0 : Int32)) (inb_of Sz7 ⟨by decide, by decide⟩) (g := (mkF m 35 #[iv (2 : Int32), iv c0, iv c1, iv c2] [(.int c0), (.int (0 : Int32)), (.ref b6), (.ref b6), (.ref b5), (.ref b5)])) rfl rfl (hb hby d3_35)
    have V7 : Arv Z h7 b6 k6 .char (2 : Int32) [(.int (nar .char c0)), (.int (0 : Int32))] (.int (0 : Int32)) := Arv.set Ar7 q7 Sz7 Nn7 Hh7 Gg7 (fits_nar_char _) W7 0 rfl (Nat.le_of_ble_eq_true rfl)
    have f7_0 := f6_0.wr W7
    have f7_1 := f6_1.wr W7
    have f7_2 := f6_2.other W7 (Or.inl ne6_b5)
    have f7_3 := f6_3.other W7 (Or.inl ne6_b5)
    have Zs7 : n0 ≤ h7.size := Nat.le_trans Zs6 (Nat.le_of_eq W7.size.symm)
    have K7 := K6.wr W7 (Or.inr sz6)
    have N7 := Fr.snoc X7 N0 gg6
    refine own_st st7 ?_
    show own_Goes _ _ _ _ _ _ _ T7 (mkF m 36 #[iv (2 : Int32), iv c0, iv c1, iv c2] [(.ref b6), (.ref b5), (.ref b5)])
    refine own_st (fun _ kk_ => XS.dup X7.here hx rfl (hb hby d3_36) rfl rfl (XS.iconst X7.here hx rfl (hb hby d3_37) (XS.iloadN X7.here hx rfl (hb hby d3_38) rfl kk_))) ?_
    show own_Goes _ _ _ _ _ _ _ T7 (mkF m 39 #[iv (2 : Int32), iv c0, iv c1, iv c2] [(.int c2), (.int (1 : Int32)), (.ref b6), (.ref b6), (.ref b5), (.ref b5)])
    obtain ⟨cl8, Ar8, q8, Sz8, Nn8, Hh8, Gg8⟩ := id V7
    obtain ⟨T8, h8, X8, e8, W8, st8⟩ := stC X7 hx hZ e7 Ar8 (j := (1 : Int32)) (inb_of Sz8 ⟨by decide, by decide⟩) (g := (mkF m 39 #[iv (2 : Int32), iv c0, iv c1, iv c2] [(.int c2), (.int (1 : Int32)), (.ref b6), (.ref b6), (.ref b5), (.ref b5)])) rfl rfl (hb hby d3_39)
    have V8 : Arv Z h8 b6 k6 .char (2 : Int32) [(.int (nar .char c0)), (.int (nar .char c2))] (.int (0 : Int32)) := Arv.set Ar8 q8 Sz8 Nn8 Hh8 Gg8 (fits_nar_char _) W8 1 rfl (Nat.le_of_ble_eq_true rfl)
    have f8_0 := f7_0.wr W8
    have f8_1 := f7_1.wr W8
    have f8_2 := f7_2.other W8 (Or.inl ne6_b5)
    have f8_3 := f7_3.other W8 (Or.inl ne6_b5)
    have Zs8 : n0 ≤ h8.size := Nat.le_trans Zs7 (Nat.le_of_eq W8.size.symm)
    have K8 := K7.wr W8 (Or.inr sz6)
    have N8 := Fr.snoc X8 N7 gg6
    refine own_st st8 ?_
    show own_Goes _ _ _ _ _ _ _ T8 (mkF m 40 #[iv (2 : Int32), iv c0, iv c1, iv c2] [(.ref b6), (.ref b5), (.ref b5)])
    obtain ⟨_, _, ⟨T9, L9, k9, n9⟩, -, X9, ⟨Lc9, hQ9, l9, y9, z9⟩, st9⟩ := X8.specialBack hx (y := yy2) rfl hown (mvT hZ (own_w hw 14 rfl)) (mvT hZ (own_w hw 15 rfl)) (mvT hZ (own_w hw 16 rfl)) (by decide) (StrChars.Road.backV (W := 1) hZ (own_hws hw) (kI := 4) (own_w hw 11 rfl) (cs := [(nar .char c0), (nar .char c2)]) (bs := [(own_by c0), (own_by c2)]) (n := 2) gg5 Zs8 f8_1 f8_3 f8_2 V8 f8_0 (by assumption) rfl rfl (by decide) (by decide) (List.forall_mem_cons.mpr ⟨own_hp he0.m.i, (List.forall_mem_cons.mpr ⟨own_hp he2.m.i, (fun _ q => nomatch q)⟩)⟩) (by rw [own_narc he0.m.i, own_narc he2.m.i]; rfl) (by decide) (by decide)) (g := (mkF m 40 #[iv (2 : Int32), iv c0, iv c1, iv c2] [(.ref b6), (.ref b5), (.ref b5)])) rfl (by rw [hml]; rfl) (Steps.refl _) (a := b5) (argsL := [(.ref b6)]) (rest := [(.ref b5)]) (lenOf pd_0 rfl) rfl (by show 2 * 0 + _ ≤ _; exact Nat.le_of_eq rfl) (hb hby d3_40) (fun _ _ => ⟨rfl, e8, (by decide : 2 + 1 ≤ _), (by decide : 6 + 2 ≤ _)⟩)
    dsimp only [Pt.U, Pt.locs, Pt.cells, Pt.slots] at X9 l9 y9 z9 st9 hQ9
    subst l9 y9 z9
    obtain ⟨rfl, Nq9, Kq9, u9_0, u9_1, x9_d, x9_kd, u9_2, u9_3, u9_4, u9_5, u9_6⟩ := hQ9
    have N9 := Fr.app N8 Nq9
    have f9_0 := own_Sta_keep f8_0 Kq9 (nsS f8_1.nostat ns0)
    have f9_1 := f8_1.keep Kq9
    have f9_4 := V8.keep Kq9 (ninS (Ne.symm ne6_b5) nin0)
    have Zs9 : n0 ≤ T9.heap.size := Nat.le_trans Zs8 Kq9.1
    have K9 := K8.trans Kq9 (allS (Or.inr sz5) all0)
    have ne9_b5 : b5 ≠ x9_d := Nat.ne_of_lt (Nat.lt_of_lt_of_le f8_1.lt u9_3)
    have ne9_b6 : b6 ≠ x9_d := Nat.ne_of_lt (Nat.lt_of_lt_of_le V8.lt u9_3)
    have sz9_d : h0.size ≤ x9_d := Nat.le_trans K8.1 u9_3
    have gg9_d : n0 ≤ x9_d := Nat.le_trans Zs8 u9_3
    refine own_st (fun _ kk_ => st9.trans kk_) ?_
    show own_Goes _ _ _ _ _ _ _ T9 (mkF m 43 #[iv (2 : Int32), iv c0, iv c1, iv c2] [(.ref b5)])
    refine own_retA X9 hx hlk rfl Bd.returns rfl (hb hby d3_43) (by decide) (by decide) ?_
    show Q3 Z (2 : Int32) c0 c1 c2 cs h0 n0 (some (.ref b5)) T9.heap _
    exact ⟨b5, x9_d, x9_kd, [(.int (own_by c0)), (.int (own_by c2))], rfl, N9, K9, sz5, u9_0, u9_1, u9_5, u9_6, (Or.inr (Or.inl ⟨_, _, rfl, rfl, he0, he2⟩))⟩
  · show own_Goes _ _ _ _ _ _ _ s₁ (mkF m 0 #[iv (3 : Int32), iv c0, iv c1, iv c2] [])
    refine own_st (fun _ kk_ => XS.iloadN X0.here hx rfl (hb hby d3_0) rfl (XS.iconst X0.here hx rfl (hb hby d3_1) (XS.icmpYes X0.here hx rfl (pc0 := 2) (pc' := 20) rfl (hb hby d3_2) rfl (XT.ii_ne_t (by decide)) (by decide) (by decide) (XS.iloadN X0.here hx rfl (hb hby d3_20) rfl (XS.iconst X0.here hx rfl (hb hby d3_21) (XS.icmpYes X0.here hx rfl (pc0 := 22) (pc' := 44) rfl (hb hby d3_22) rfl (XT.ii_ne_t (by decide)) (by decide) (by decide) kk_)))))) ?_
    show own_Goes _ _ _ _ _ _ _ s₁ (mkF m 44 #[iv (3 : Int32), iv c0, iv c1, iv c2] [])
    obtain ⟨T10, h10, X10, e10, E10, A10, D10, -, st10⟩ := newO X0 hx hZ hown (own_w hw 10 rfl) (own_w hw 11 rfl) (own_w hw 12 rfl) e0 (g := (mkF m 44 #[iv (3 : Int32), iv c0, iv c1, iv c2] [])) rfl (hb hby d3_44) (by decide) (by decide)
    obtain ⟨b10, gx10⟩ : ∃ z, z = h0.size := ⟨_, rfl⟩
    rw [← gx10] at A10 D10 st10
    have gg10 : n0 ≤ b10 := Nat.le_trans Z0 (Nat.le_of_eq gx10.symm)
    have sz10 : h0.size ≤ b10 := Nat.le_trans (Keep.refl h0 []).1 (Nat.le_of_eq gx10.symm)
    have f10_0 := p_0.ext E10
    have Zs10 : n0 ≤ h10.size := Nat.le_trans Z0 E10.1
    have K10 := (Keep.refl h0 []).ext E10
    have fn10_coder : Fld Z h10 b10 "java/lang/String" "coder" "B" (.int (0 : Int32)) := D10 (Or.inr (own_w hw 37 rfl)) (ty := .byte) (by decide)
    have fn10_value : Fld Z h10 b10 "java/lang/String" "value" "[B" .null := D10 (Or.inr (own_w hw 39 rfl)) (ty := (.array .byte)) (by decide)
    refine own_st st10 ?_
    show own_Goes _ _ _ _ _ _ _ T10 (mkF m 47 #[iv (3 : Int32), iv c0, iv c1, iv c2] [(.ref b10)])
    refine own_st (fun _ kk_ => XS.dup X10.here hx rfl (hb hby d3_47) rfl rfl (XS.iconst X10.here hx rfl (hb hby d3_48) kk_)) ?_
    show own_Goes _ _ _ _ _ _ _ T10 (mkF m 49 #[iv (3 : Int32), iv c0, iv c1, iv c2] [(.int (3 : Int32)), (.ref b10), (.ref b10)])
    obtain ⟨T11, h11, k11, X11, e11, E11, A11, st11⟩ := newP X10 hx hZ (own_w hw 13 rfl) e10 (g := (mkF m 49 #[iv (3 : Int32), iv c0, iv c1, iv c2] [(.int (3 : Int32)), (.ref b10), (.ref b10)])) rfl (hb hby d3_49) rfl (by decide) (cap := 3) (by decide) (by decide) (by decide) (by decide)
    obtain ⟨b11, gx11⟩ : ∃ z, z = h10.size := ⟨_, rfl⟩
    rw [← gx11] at A11 st11
    have ne11_b10 : b10 ≠ b11 := Nat.ne_of_lt (Nat.lt_of_lt_of_eq A10.lt gx11.symm)
    have gg11 : n0 ≤ b11 := Nat.le_trans Zs10 (Nat.le_of_eq gx11.symm)
    have sz11 : h0.size ≤ b11 := Nat.le_trans K10.1 (Nat.le_of_eq gx11.symm)
    have f11_0 := f10_0.ext E11
    have f11_1 := A10.ext E11
    have f11_2 := fn10_coder.ext E11
    have f11_3 := fn10_value.ext E11
    have Zs11 : n0 ≤ h11.size := Nat.le_trans Zs10 E11.1
    have K11 := K10.ext E11
    have V11 : Arv Z h11 b11 k11 .char (3 : Int32) [(.int (0 : Int32)), (.int (0 : Int32)), (.int (0 : Int32))] (.int (0 : Int32)) := (Arv.new A11 (by decide)).pad (pad_rep [] (.int (0 : Int32)) 3)
    refine own_st st11 ?_
    show own_Goes _ _ _ _ _ _ _ T11 (mkF m 51 #[iv (3 : Int32), iv c0, iv c1, iv c2] [(.ref b11), (.ref b10), (.ref b10)])
    refine own_st (fun _ kk_ => XS.dup X11.here hx rfl (hb hby d3_51) rfl rfl (XS.iconst X11.here hx rfl (hb hby d3_52) (XS.iloadN X11.here hx rfl (hb hby d3_53) rfl kk_))) ?_
    show own_Goes _ _ _ _ _ _ _ T11 (mkF m 54 #[iv (3 : Int32), iv c0, iv c1, iv c2] [(.int c0), (.int (0 : Int32)), (.ref b11), (.ref b11), (.ref b10), (.ref b10)])
    obtain ⟨cl12, Ar12, q12, Sz12, Nn12, Hh12, Gg12⟩ := id V11
    obtain ⟨T12, h12, X12, e12, W12, st12⟩ := stC X11 hx hZ e11 Ar12 (j := (0 : Int32)) (inb_of Sz12 ⟨by decide, by decide⟩) (g := (mkF m 54 #[iv (3 : Int32), iv c0, iv c1, iv c2] [(.int c0), (.int (0 : Int32)), (.ref b11), (.ref b11), (.ref b10), (.ref b10)])) rfl rfl (hb hby d3_54)
    have V12 : Arv Z h12 b11 k11 .char (3 : Int32) [(.int (nar .char c0)), (.int (0 : Int32)), (.int (0 : Int32))] (.int (0 : Int32)) := Arv.set Ar12 q12 Sz12 Nn12 Hh12 Gg12 (fits_nar_char _) W12 0 rfl (Nat.le_of_ble_eq_true rfl)
    have f12_0 := f11_0.wr W12
    have f12_1 := f11_1.wr W12
    have f12_2 := f11_2.other W12 (Or.inl ne11_b10)
    have f12_3 := f11_3.other W12 (Or.inl ne11_b10)
    have Zs12 : n0 ≤ h12.size := Nat.le_trans Zs11 (Nat.le_of_eq W12.size.symm)
    have K12 := K11.wr W12 (Or.inr sz11)
    have N12 := Fr.snoc X12 N0 gg11
    refine own_st st12 ?_
    show own_Goes _ _ _ _ _ _ _ T12 (mkF m 55 #[iv (3 : Int32), iv c0, iv c1, iv c2] [(.ref b11), (.ref b10), (.ref b10)])
    refine own_st (fun _ kk_ => XS.dup X12.here hx rfl (hb hby d3_55) rfl rfl (XS.iconst X12.here hx rfl (hb hby d3_56) (XS.iloadN X12.here hx rfl (hb hby d3_57) rfl kk_))) ?_
    show own_Goes _ _ _ _ _ _ _ T12 (mkF m 58 #[iv (3 : Int32), iv c0, iv c1, iv c2] [(.int c1), (.int (1 : Int32)), (.ref b11), (.ref b11), (.ref b10), (.ref b10)])
    obtain ⟨cl13, Ar13, q13, Sz13, Nn13, Hh13, Gg13⟩ := id V12
    obtain ⟨T13, h13, X13, e13, W13, st13⟩ := stC X12 hx hZ e12 Ar13 (j := (1 : Int32)) (inb_of Sz13 ⟨by decide, by decide⟩) (g := (mkF m 58 #[iv (3 : Int32), iv c0, iv c1, iv c2] [(.int c1), (.int (1 : Int32)), (.ref b11), (.ref b11), (.ref b10), (.ref b10)])) rfl rfl (hb hby d3_58)
    have V13 : Arv Z h13 b11 k11 .char (3 : Int32) [(.int (nar .char c0)), (.int (nar .char c1)), (.int (0 : Int32))] (.int (0 : Int32)) := Arv.set Ar13 q13 Sz13 Nn13 Hh13 Gg13 (fits_nar_char _) W13 1 rfl (Nat.le_of_ble_eq_true rfl)
    have f13_0 := f12_0.wr W13
    have f13_1 := f12_1.wr W13
    have f13_2 := f12_2.other W13 (Or.inl ne11_b10)
    have f13_3 := f12_3.other W13 (Or.inl ne11_b10)
    have Zs13 : n0 ≤ h13.size := Nat.le_trans Zs12 (Nat.le_of_eq W13.size.symm)
    have K13 := K12.wr W13 (Or.inr sz11)
    have N13 := Fr.snoc X13 N12 gg11
    refine own_st st13 ?_
    show own_Goes _ _ _ _ _ _ _ T13 (mkF m 59 #[iv (3 : Int32), iv c0, iv c1, iv c2] [(.ref b11), (.ref b10), (.ref b10)])
    refine own_st (fun _ kk_ => XS.dup X13.here hx rfl (hb hby d3_59) rfl rfl (XS.iconst X13.here hx rfl (hb hby d3_60) (XS.iloadN X13.here hx rfl (hb hby d3_61) rfl kk_))) ?_
    show own_Goes _ _ _ _ _ _ _ T13 (mkF m 62 #[iv (3 : Int32), iv c0, iv c1, iv c2] [(.int c2), (.int (2 : Int32)), (.ref b11), (.ref b11), (.ref b10), (.ref b10)])
    obtain ⟨cl14, Ar14, q14, Sz14, Nn14, Hh14, Gg14⟩ := id V13
    obtain ⟨T14, h14, X14, e14, W14, st14⟩ := stC X13 hx hZ e13 Ar14 (j := (2 : Int32)) (inb_of Sz14 ⟨by decide, by decide⟩) (g := (mkF m 62 #[iv (3 : Int32), iv c0, iv c1, iv c2] [(.int c2), (.int (2 : Int32)), (.ref b11), (.ref b11), (.ref b10), (.ref b10)])) rfl rfl (hb hby d3_62)
    have V14 : Arv Z h14 b11 k11 .char (3 : Int32) [(.int (nar .char c0)), (.int (nar .char c1)), (.int (nar .char c2))] (.int (0 : Int32)) := Arv.set Ar14 q14 Sz14 Nn14 Hh14 Gg14 (fits_nar_char _) W14 2 rfl (Nat.le_of_ble_eq_true rfl)
    have f14_0 := f13_0.wr W14
    have f14_1 := f13_1.wr W14
    have f14_2 := f13_2.other W14 (Or.inl ne11_b10)
    have f14_3 := f13_3.other W14 (Or.inl ne11_b10)
    have Zs14 : n0 ≤ h14.size := Nat.le_trans Zs13 (Nat.le_of_eq W14.size.symm)
    have K14 := K13.wr W14 (Or.inr sz11)
    have N14 := Fr.snoc X14 N13 gg11
    refine own_st st14 ?_
    show own_Goes _ _ _ _ _ _ _ T14 (mkF m 63 #[iv (3 : Int32), iv c0, iv c1, iv c2] [(.ref b11), (.ref b10), (.ref b10)])
    obtain ⟨_, _, ⟨T15, L15, k15, n15⟩, -, X15, ⟨Lc15, hQ15, l15, y15, z15⟩, st15⟩ := X14.specialBack hx (y := yy2) rfl hown (mvT hZ (own_w hw 14 rfl)) (mvT hZ (own_w hw 15 rfl)) (mvT hZ (own_w hw 16 rfl)) (by decide) (StrChars.Road.backV (W := 1) hZ (own_hws hw) (kI := 4) (own_w hw 11 rfl) (cs := [(nar .char c0), (nar .char c1), (nar .char c2)]) (bs := [(own_by c0), (own_by c1), (own_by c2)]) (n := 3) gg10 Zs14 f14_1 f14_3 f14_2 V14 f14_0 (by assumption) rfl rfl (by decide) (by decide) (List.forall_mem_cons.mpr ⟨own_hp he0.m.i, (List.forall_mem_cons.mpr ⟨own_hp hm1.i, (List.forall_mem_cons.mpr ⟨own_hp he2.m.i, (fun _ q => nomatch q)⟩)⟩)⟩) (by rw [own_narc he0.m.i, own_narc hm1.i, own_narc he2.m.i]; rfl) (by decide) (by decide)) (g := (mkF m 63 #[iv (3 : Int32), iv c0, iv c1, iv c2] [(.ref b11), (.ref b10), (.ref b10)])) rfl (by rw [hml]; rfl) (Steps.refl _) (a := b10) (argsL := [(.ref b11)]) (rest := [(.ref b10)]) (lenOf pd_0 rfl) rfl (by show 2 * 0 + _ ≤ _; exact Nat.le_of_eq rfl) (hb hby d3_63) (fun _ _ => ⟨rfl, e14, (by decide : 2 + 1 ≤ _), (by decide : 7 + 3 ≤ _)⟩)
    dsimp only [Pt.U, Pt.locs, Pt.cells, Pt.slots] at X15 l15 y15 z15 st15 hQ15
    subst l15 y15 z15
    obtain ⟨rfl, Nq15, Kq15, u15_0, u15_1, x15_d, x15_kd, u15_2, u15_3, u15_4, u15_5, u15_6⟩ := hQ15
    have N15 := Fr.app N14 Nq15
    have f15_0 := own_Sta_keep f14_0 Kq15 (nsS f14_1.nostat ns0)
    have f15_1 := f14_1.keep Kq15
    have f15_4 := V14.keep Kq15 (ninS (Ne.symm ne11_b10) nin0)
    have Zs15 : n0 ≤ T15.heap.size := Nat.le_trans Zs14 Kq15.1
    have K15 := K14.trans Kq15 (allS (Or.inr sz10) all0)
    have ne15_b10 : b10 ≠ x15_d := Nat.ne_of_lt (Nat.lt_of_lt_of_le f14_1.lt u15_3)
    have ne15_b11 : b11 ≠ x15_d := Nat.ne_of_lt (Nat.lt_of_lt_of_le V14.lt u15_3)
    have sz15_d : h0.size ≤ x15_d := Nat.le_trans K14.1 u15_3
    have gg15_d : n0 ≤ x15_d := Nat.le_trans Zs14 u15_3
    refine own_st (fun _ kk_ => st15.trans kk_) ?_
    show own_Goes _ _ _ _ _ _ _ T15 (mkF m 66 #[iv (3 : Int32), iv c0, iv c1, iv c2] [(.ref b10)])
    refine own_retA X15 hx hlk rfl Bd.returns rfl (hb hby d3_66) (by decide) (by decide) ?_
    show Q3 Z (3 : Int32) c0 c1 c2 cs h0 n0 (some (.ref b10)) T15.heap _
    exact ⟨b10, x15_d, x15_kd, [(.int (own_by c0)), (.int (own_by c1)), (.int (own_by c2))], rfl, N15, K15, sz10, u15_0, u15_1, u15_5, u15_6, (Or.inr (Or.inr ⟨_, _, _, rfl, rfl, he0, hm1, he2⟩))⟩
theorem own_irr (z : Int32) : ¬ z < z := by rw [Int32.lt_iff_toInt_lt]; omega
theorem own_pz2 {z : Int32} (h : (0 : Int32) < z) : ¬ (0 : Int32) = z := fun q => by rw [← q] at h; exact own_irr _ h
theorem own_sh0 (z : Int32) : z >>> ((0 : Int32) &&& 31) = z := by
  have e := c_ishr z 0 0 (by decide)
  refine Int32.toInt_inj.mp ?_; rw [e]; omega
theorem own_gc {c : Int32} (h : own_in c) : nar .char ((own_by c &&& 255).toUInt32.toUInt16.toUInt32.toInt32) = c := by
  have h1 := c_mask (own_by c) 255 8 (by decide) (by decide); have h2 := c_i2b c; have h3 := own_nc (own_by c &&& 255)
  unfold own_in at h; unfold own_by at h1 h3 ⊢
  refine Int32.toInt_inj.mp ?_
  rw [h3 (by omega)]; omega
theorem own_ic {c : Int32} (h : own_in c) : c.toUInt32.toUInt16.toUInt32.toInt32 = c := by
  have h1 := c_i2c c; unfold own_in at h; refine Int32.toInt_inj.mp ?_; omega
theorem own_Aat (i : Nat) : own_A.getD i (.int (0 : Int32)) = .int (own_Ai.getD i 0) := by
  simp only [own_A, List.getD_eq_getElem?_getD, List.getElem?_map]; cases own_Ai[i]? <;> rfl
theorem own_tc {c : Int32} (h : own_in c) : c.toNatClampNeg < 256 ∧ ¬ c < 0 ∧ c < 256 ∧ (c.toNatClampNeg : Int) = c.toInt := by
  unfold own_in at h; simp only [Int32.toNatClampNeg, Int32.lt_iff_toInt_lt, Int32.reduceToInt]; omega
theorem own_nw {c : Int32} (h : own_ec c) : ¬ (own_Ai.getD c.toNatClampNeg 0 &&& (28672 : Int32)) = (16384 : Int32) := by
  have q := own_tc h.m.i; unfold own_ec at h
  exact (by decide +kernel : ∀ i : Fin 256, 32 < i.val → ¬ (own_Ai.getD i.val 0 &&& (28672 : Int32)) = (16384 : Int32)) ⟨c.toNatClampNeg, q.1⟩ (by show 32 < c.toNatClampNeg; omega)
theorem own_ne {c k : Int32} (h : own_ec c) (q : k.toInt ≤ 32) : ¬ c = k := by unfold own_ec at h; rw [← Int32.toInt_inj]; omega
theorem own_nbi {c k : Int32} (h : own_in c) (hk : own_in k) (q : ¬ c = k) : ¬ own_by c = k.toInt8.toInt32 := fun e => q ((own_byi h hk).mp e)
abbrev rRrm27 : Room := { frames := 0, cells := 0, slots := 0, locals := 0 }
theorem d27_0 : decode jdk_42_method_152_code 0 = .ok (.getstatic 38, 3) := by decide +kernel
theorem d27_3 : decode jdk_42_method_152_code 3 = .ok (.ifCond .eq 10, 3) := by decide +kernel
theorem d27_6 : decode jdk_42_method_152_code 6 = .ok (.aload_n 0, 1) := by decide +kernel
theorem d27_7 : decode jdk_42_method_152_code 7 = .ok (.getfield 15, 3) := by decide +kernel
theorem d27_10 : decode jdk_42_method_152_code 10 = .ok (.goto 4, 3) := by decide +kernel
theorem d27_14 : decode jdk_42_method_152_code 14 = .ok (.ireturn, 1) := by decide +kernel
theorem pn_rm27 : plainFor yy4 = true := by first | exact plainFor_of_name (by first | (simp [plainName, overriddenIn]; done) | decide +kernel) | decide +kernel
theorem ef_rm27 (m : MethodId) (a : Addr) : entryFrame m #[(.ref a)] 1 = (mkF m 0 #[rv a] []) := by first | (simp [entryFrame, mkF, argsToLocals, Value.category]; done) | rfl
def Q27 (Z : State) (a : Addr) (cs : Int32) (h0 : Heap) (n0 : Nat) (v_ : Option Value) (h_ : Heap) (L_ : List Loc) : Prop := (v_ = some (.int (0 : Int32))) ∧ (Fr n0 L_) ∧ (h_ = h0)
set_option maxRecDepth 65536 in
set_option maxHeartbeats 40000000 in
theorem rm27 (l : Launch) (Z : State) (a0 : Array Value) (hw : ∀ d ∈ tables_1, d.before a0 Z = true) (ws : List Jvm.Cond) (a : Addr) (cs : Int32) (h0 : Heap) (n0 : Nat) (Z0 : n0 ≤ h0.size) (p_0 : Fld Z h0 a "java/lang/String" "coder" "B" (.int (0 : Int32))) (p_1 : Sta Z h0 "java/lang/String" "COMPACT_STRINGS" "Z" (.int cs)) (hcs : ¬ cs = (0 : Int32)) :
    MetFree l yy4 (head1 (Jvm.Cond.code yy4 jdk_42_method_152_code 1 (some .byte) :: ws) rRrm27) (fun a_ U_ => a_ = #[(.ref a)] ∧ Z.Warmed39 U_.vm ∧ U_.heap = h0) (fun _ _ _ _ _ => True) (fun _ U_ o_ U1_ => ∃ v_ L_, o_ = .returned v_ ∧ Q27 Z a cs h0 n0 v_ U1_.heap L_ ∧ FrameEnd U_ o_ U1_ L_ rRrm27.cells rRrm27.slots) := by
  refine MetFree.of_bodySF pn_rm27 hisR ?_
  intro p e s m args below meth c s₁ Bd hml0 hP hK
  obtain ⟨rfl, hZ, hh⟩ := hP
  have hx := Bd.exec
  have hby := Bd.bytes
  have hlk : meth.locks = false := Bd.notSynchronized
  have hml : c.maxLocals = 1 := hml0
  have hown : s.vm.findClass "java/lang/String" = some m.cls := findClass_of_methodNamed Bd.named
  have hnm := (name_of_methodNamed Bd.named Bd.method).1
  have X0 : Stand p l e rRrm27 s m #[(.ref a)] below meth c s₁ [] 0 0 := Stand.of_body Bd
  have e0 : s₁.heap = h0 := by rw [← hh, Bd.state]; rfl
  have N0 := Fr.nil n0
  show own_Goes p e below s (Q27 Z a cs h0 n0) rRrm27.cells rRrm27.slots s₁ (entryFrame m #[(.ref a)] 1)
  rw [ef_rm27 m a]
  show own_Goes p e below s (Q27 Z a cs h0 n0) rRrm27.cells rRrm27.slots s₁ (mkF m 0 #[rv a] [])
  obtain ⟨T1, X1, e1, st1⟩ := getS2 X0 hx hZ hown (host := "") (Or.inl (own_w hw 24 rfl)) Via.refl e0 p_1 (g := (mkF m 0 #[rv a] [])) rfl (hb hby d27_0)
  refine own_st st1 ?_
  show own_Goes _ _ _ _ _ _ _ T1 (mkF m 3 #[rv a] [(.int cs)])
  refine own_st (fun _ kk_ => XS.ifNo X1.here hx rfl (hb hby d27_3) rfl (XT.i0_eq_f hcs) (XS.aloadN X1.here hx rfl (hb hby d27_6) rfl rfl kk_)) ?_
  show own_Goes _ _ _ _ _ _ _ T1 (mkF m 7 #[rv a] [(.ref a)])
  obtain ⟨T2, X2, e2, st2⟩ := getF X1 hx hZ hown (host := "") (Or.inl (own_w hw 36 rfl)) Via.refl e1 p_0 (g := (mkF m 7 #[rv a] [(.ref a)])) rfl rfl (hb hby d27_7)
  refine own_st st2 ?_
  show own_Goes _ _ _ _ _ _ _ T2 (mkF m 10 #[rv a] [(.int (0 : Int32))])
  refine own_st (fun _ kk_ => XS.goto X2.here hx rfl (pc0 := 10) (pc' := 14) rfl (hb hby d27_10) (by decide) (by decide) kk_) ?_
  show own_Goes _ _ _ _ _ _ _ T2 (mkF m 14 #[rv a] [(.int (0 : Int32))])
  refine own_retN X2 hx hlk (t := .byte) Bd.returns (by simp) (hb hby d27_14) (by decide) (by decide) ?_
  show Q27 Z a cs h0 n0 (some (.int (nar .byte (0 : Int32)))) T2.heap _
  rw [e2]
  exact ⟨rfl, N0, rfl⟩
abbrev rRrm16 : Room := { frames := 0, cells := 0, slots := 0, locals := 0 }
theorem d16_0 : decode jdk_42_method_154_code 0 = .ok (.getstatic 38, 3) := by decide +kernel
theorem d16_3 : decode jdk_42_method_154_code 3 = .ok (.ifCond .eq 14, 3) := by decide +kernel
theorem d16_6 : decode jdk_42_method_154_code 6 = .ok (.aload_n 0, 1) := by decide +kernel
theorem d16_7 : decode jdk_42_method_154_code 7 = .ok (.getfield 15, 3) := by decide +kernel
theorem d16_10 : decode jdk_42_method_154_code 10 = .ok (.ifCond .ne 7, 3) := by decide +kernel
theorem d16_13 : decode jdk_42_method_154_code 13 = .ok (.iconst 1, 1) := by decide +kernel
theorem d16_14 : decode jdk_42_method_154_code 14 = .ok (.goto 4, 3) := by decide +kernel
theorem d16_18 : decode jdk_42_method_154_code 18 = .ok (.ireturn, 1) := by decide +kernel
theorem pn_rm16 : plainFor yy5 = true := by first | exact plainFor_of_name (by first | (simp [plainName, overriddenIn]; done) | decide +kernel) | decide +kernel
theorem ef_rm16 (m : MethodId) (a : Addr) : entryFrame m #[(.ref a)] 1 = (mkF m 0 #[rv a] []) := by first | (simp [entryFrame, mkF, argsToLocals, Value.category]; done) | rfl
def Q16 (Z : State) (a : Addr) (cs : Int32) (h0 : Heap) (n0 : Nat) (v_ : Option Value) (h_ : Heap) (L_ : List Loc) : Prop := (v_ = some (.int (1 : Int32))) ∧ (Fr n0 L_) ∧ (h_ = h0)
set_option maxRecDepth 65536 in
set_option maxHeartbeats 40000000 in
theorem rm16 (l : Launch) (Z : State) (a0 : Array Value) (hw : ∀ d ∈ tables_1, d.before a0 Z = true) (ws : List Jvm.Cond) (a : Addr) (cs : Int32) (h0 : Heap) (n0 : Nat) (Z0 : n0 ≤ h0.size) (p_0 : Fld Z h0 a "java/lang/String" "coder" "B" (.int (0 : Int32))) (p_1 : Sta Z h0 "java/lang/String" "COMPACT_STRINGS" "Z" (.int cs)) (hcs : ¬ cs = (0 : Int32)) :
    MetFree l yy5 (head1 (Jvm.Cond.code yy5 jdk_42_method_154_code 1 (some .boolean) :: ws) rRrm16) (fun a_ U_ => a_ = #[(.ref a)] ∧ Z.Warmed39 U_.vm ∧ U_.heap = h0) (fun _ _ _ _ _ => True) (fun _ U_ o_ U1_ => ∃ v_ L_, o_ = .returned v_ ∧ Q16 Z a cs h0 n0 v_ U1_.heap L_ ∧ FrameEnd U_ o_ U1_ L_ rRrm16.cells rRrm16.slots) := by
  refine MetFree.of_bodySF pn_rm16 hisR ?_
  intro p e s m args below meth c s₁ Bd hml0 hP hK
  obtain ⟨rfl, hZ, hh⟩ := hP
  have hx := Bd.exec
  have hby := Bd.bytes
  have hlk : meth.locks = false := Bd.notSynchronized
  have hml : c.maxLocals = 1 := hml0
  have hown : s.vm.findClass "java/lang/String" = some m.cls := findClass_of_methodNamed Bd.named
  have hnm := (name_of_methodNamed Bd.named Bd.method).1
  have X0 : Stand p l e rRrm16 s m #[(.ref a)] below meth c s₁ [] 0 0 := Stand.of_body Bd
  have e0 : s₁.heap = h0 := by rw [← hh, Bd.state]; rfl
  have N0 := Fr.nil n0
  show own_Goes p e below s (Q16 Z a cs h0 n0) rRrm16.cells rRrm16.slots s₁ (entryFrame m #[(.ref a)] 1)
  rw [ef_rm16 m a]
  show own_Goes p e below s (Q16 Z a cs h0 n0) rRrm16.cells rRrm16.slots s₁ (mkF m 0 #[rv a] [])
  obtain ⟨T1, X1, e1, st1⟩ := getS2 X0 hx hZ hown (host := "") (Or.inl (own_w hw 24 rfl)) Via.refl e0 p_1 (g := (mkF m 0 #[rv a] [])) rfl (hb hby d16_0)
  refine own_st st1 ?_
  show own_Goes _ _ _ _ _ _ _ T1 (mkF m 3 #[rv a] [(.int cs)])
  refine own_st (fun _ kk_ => XS.ifNo X1.here hx rfl (hb hby d16_3) rfl (XT.i0_eq_f hcs) (XS.aloadN X1.here hx rfl (hb hby d16_6) rfl rfl kk_)) ?_
  show own_Goes _ _ _ _ _ _ _ T1 (mkF m 7 #[rv a] [(.ref a)])
  obtain ⟨T2, X2, e2, st2⟩ := getF X1 hx hZ hown (host := "") (Or.inl (own_w hw 36 rfl)) Via.refl e1 p_0 (g := (mkF m 7 #[rv a] [(.ref a)])) rfl rfl (hb hby d16_7)
  refine own_st st2 ?_
  show own_Goes _ _ _ _ _ _ _ T2 (mkF m 10 #[rv a] [(.int (0 : Int32))])
  refine own_st (fun _ kk_ => XS.ifNo X2.here hx rfl (hb hby d16_10) rfl (XT.i0_ne_f (by decide)) (XS.iconst X2.here hx rfl (hb hby d16_13) (XS.goto X2.here hx rfl (pc0 := 14) (pc' := 18) rfl (hb hby d16_14) (by decide) (by decide) kk_))) ?_
  show own_Goes _ _ _ _ _ _ _ T2 (mkF m 18 #[rv a] [(.int (1 : Int32))])
  refine own_retN X2 hx hlk (t := .boolean) Bd.returns (by simp) (hb hby d16_18) (by decide) (by decide) ?_
  show Q16 Z a cs h0 n0 (some (.int (nar .boolean (1 : Int32)))) T2.heap _
  rw [e2]
  exact ⟨rfl, N0, rfl⟩
abbrev rRrm26 : Room := { frames := 1, cells := 0, slots := 0, locals := 13 }
theorem d26_0 : decode jdk_42_method_54_code 0 = .ok (.aload_n 0, 1) := by decide +kernel
theorem d26_1 : decode jdk_42_method_54_code 1 = .ok (.getfield 9, 3) := by decide +kernel
theorem d26_4 : decode jdk_42_method_54_code 4 = .ok (.arraylength, 1) := by decide +kernel
theorem d26_5 : decode jdk_42_method_54_code 5 = .ok (.aload_n 0, 1) := by decide +kernel
theorem d26_6 : decode jdk_42_method_54_code 6 = .ok (.invokevirtual 335, 3) := by decide +kernel
theorem d26_9 : decode jdk_42_method_54_code 9 = .ok (.ishr, 1) := by decide +kernel
theorem d26_10 : decode jdk_42_method_54_code 10 = .ok (.ireturn, 1) := by decide +kernel
theorem pd_1 : parseMethodDescriptor "()B" = some ⟨[], some .byte⟩ := by decide +kernel
theorem pn_rm26 : plainFor yy6 = true := by first | exact plainFor_of_name (by first | (simp [plainName, overriddenIn]; done) | decide +kernel) | decide +kernel
theorem ef_rm26 (m : MethodId) (a : Addr) : entryFrame m #[(.ref a)] 1 = (mkF m 0 #[rv a] []) := by first | (simp [entryFrame, mkF, argsToLocals, Value.category]; done) | rfl
def Q26 (Z : State) (a : Addr) (d : Addr) (kd : ClassId) (z1 : Int32) (vs1 : List Value) (cs : Int32) (h0 : Heap) (n0 : Nat) (v_ : Option Value) (h_ : Heap) (L_ : List Loc) : Prop := (v_ = some (.int z1)) ∧ (Fr n0 L_) ∧ (h_ = h0)
set_option maxRecDepth 65536 in
set_option maxHeartbeats 40000000 in
theorem rm26 (l : Launch) (Z : State) (a0 : Array Value) (hw : ∀ d ∈ tables_1, d.before a0 Z = true) (ws : List Jvm.Cond) (a : Addr) (d : Addr) (kd : ClassId) (z1 : Int32) (vs1 : List Value) (cs : Int32) (h0 : Heap) (n0 : Nat) (Z0 : n0 ≤ h0.size) (p_0 : Exa Z h0 a "java/lang/String") (p_1 : Fld Z h0 a "java/lang/String" "coder" "B" (.int (0 : Int32))) (p_2 : Fld Z h0 a "java/lang/String" "value" "[B" (.ref d)) (p_3 : Arv Z h0 d kd .byte z1 vs1 (.int (0 : Int32))) (p_4 : Sta Z h0 "java/lang/String" "COMPACT_STRINGS" "Z" (.int cs)) (hcs : ¬ cs = (0 : Int32)) :
    MetFree l yy6 (head1 (Jvm.Cond.code yy6 jdk_42_method_54_code 1 (some .int) :: ws) rRrm26) (fun a_ U_ => a_ = #[(.ref a)] ∧ Z.Warmed39 U_.vm ∧ U_.heap = h0) (fun _ _ _ _ _ => True) (fun _ U_ o_ U1_ => ∃ v_ L_, o_ = .returned v_ ∧ Q26 Z a d kd z1 vs1 cs h0 n0 v_ U1_.heap L_ ∧ FrameEnd U_ o_ U1_ L_ rRrm26.cells rRrm26.slots) := by
  refine MetFree.of_bodySF pn_rm26 hisR ?_
  intro p e s m args below meth c s₁ Bd hml0 hP hK
  obtain ⟨rfl, hZ, hh⟩ := hP
  have hx := Bd.exec
  have hby := Bd.bytes
  have hlk : meth.locks = false := Bd.notSynchronized
  have hml : c.maxLocals = 1 := hml0
  have hown : s.vm.findClass "java/lang/String" = some m.cls := findClass_of_methodNamed Bd.named
  have hnm := (name_of_methodNamed Bd.named Bd.method).1
  have X0 : Stand p l e rRrm26 s m #[(.ref a)] below meth c s₁ [] 0 0 := Stand.of_body Bd
  have e0 : s₁.heap = h0 := by rw [← hh, Bd.state]; rfl
  have N0 := Fr.nil n0
  show own_Goes p e below s (Q26 Z a d kd z1 vs1 cs h0 n0) rRrm26.cells rRrm26.slots s₁ (entryFrame m #[(.ref a)] 1)
  rw [ef_rm26 m a]
  show own_Goes p e below s (Q26 Z a d kd z1 vs1 cs h0 n0) rRrm26.cells rRrm26.slots s₁ (mkF m 0 #[rv a] [])
  refine own_st (fun _ kk_ => XS.aloadN X0.here hx rfl (hb hby d26_0) rfl rfl kk_) ?_
  show own_Goes _ _ _ _ _ _ _ s₁ (mkF m 1 #[rv a] [(.ref a)])
  obtain ⟨T1, X1, e1, st1⟩ := getF X0 hx hZ hown (host := "") (Or.inl (own_w hw 38 rfl)) Via.refl e0 p_2 (g := (mkF m 1 #[rv a] [(.ref a)])) rfl rfl (hb hby d26_1)
  refine own_st st1 ?_
  show own_Goes _ _ _ _ _ _ _ T1 (mkF m 4 #[rv a] [(.ref d)])
  obtain ⟨cl2, Ar2, -, Sz2, Nn2, -, -⟩ := id p_3
  refine own_st (fun _ kk_ => X1.arraylength hx (by rw [e1]; exact Ar2.1) (State.isArrayOf_alike hZ.alike Ar2.2.1) (g := (mkF m 4 #[rv a] [(.ref d)])) rfl rfl (hb hby d26_4) _ kk_) ?_
  rw [len_of Sz2 Nn2]
  show own_Goes _ _ _ _ _ _ _ T1 (mkF m 5 #[rv a] [(.int z1)])
  refine own_st (fun _ kk_ => XS.aloadN X1.here hx rfl (hb hby d26_5) rfl rfl kk_) ?_
  show own_Goes _ _ _ _ _ _ _ T1 (mkF m 6 #[rv a] [(.ref a), (.int z1)])
  obtain ⟨cq3, kq3, q3a, q3b, q3c⟩ := isOf hZ e1 p_0
  obtain ⟨_, _, ⟨T3, L3, k3, n3⟩, -, X3, ⟨Lc3, hQ3, l3, y3, z3⟩, st3⟩ := X1.virtualBack hx (y := yy4) (z := yy4) hown (mvT hZ (own_w hw 124 rfl)) (mvT hZ (own_w hw 125 rfl)) (notFace_of_selects (args := #[]) (mvT hZ (own_w hw 127 rfl))) (mvT hZ (own_w hw 127 rfl)) (mvT hZ (own_w hw 126 rfl)) (by decide) (backOf (W := 1) (rm27 l Z a0 hw [] (a) (cs) h0 n0 Z0 p_1 p_4 (by assumption)) hZ (own_w hw 128 rfl) (own_w hw 12 rfl) (by decide) (by decide)) q3a q3c (g := (mkF m 6 #[rv a] [(.ref a), (.int z1)])) rfl (by rw [hml]; rfl) (Steps.refl _) (argsL := []) (rest := [(.int z1)]) (lenOf pd_1 rfl) rfl (by show 2 * 0 + _ ≤ _; exact Nat.le_of_eq rfl) (hb hby d26_6) (fun _ _ => ⟨rfl, e1, (by decide : 0 + 0 ≤ _), (by decide : 0 + 0 ≤ _)⟩)
  dsimp only [Pt.U, Pt.locs, Pt.cells, Pt.slots] at X3 l3 y3 z3 st3 hQ3
  subst l3 y3 z3
  obtain ⟨rfl, Nq3, eq3⟩ := hQ3
  have N3 := Fr.app N0 Nq3
  refine own_st (fun _ kk_ => st3.trans kk_) ?_
  show own_Goes _ _ _ _ _ _ _ T3 (mkF m 9 #[rv a] [(.int (0 : Int32)), (.int z1)])
  refine own_st (fun _ kk_ => XS.ishr X3.here hx rfl (hb hby d26_9) rfl kk_) ?_
  show own_Goes _ _ _ _ _ _ _ T3 (mkF m 10 #[rv a] [(.int (z1 >>> ((0 : Int32) &&& 31)))])
  refine own_retI X3 hx hlk Bd.returns (hb hby d26_10) (by decide) (by decide) ?_
  show Q26 Z a d kd z1 vs1 cs h0 n0 (some (.int (z1 >>> ((0 : Int32) &&& 31)))) T3.heap _
  rw [eq3]
  exact ⟨by exact congrArg (fun z => some (Value.int z)) (own_sh0 z1), N3, rfl⟩
abbrev rRrmxA : Room := { frames := 0, cells := 0, slots := 0, locals := 0 }
theorem d30_0 : decode jdk_29_method_65_code 0 = .ok (.iload_n 0, 1) := by decide +kernel
theorem d30_1 : decode jdk_29_method_65_code 1 = .ok (.iload_n 1, 1) := by decide +kernel
theorem d30_2 : decode jdk_29_method_65_code 2 = .ok (.if_icmp .lt 7, 3) := by decide +kernel
theorem d30_5 : decode jdk_29_method_65_code 5 = .ok (.iload_n 0, 1) := by decide +kernel
theorem d30_6 : decode jdk_29_method_65_code 6 = .ok (.goto 4, 3) := by decide +kernel
theorem d30_10 : decode jdk_29_method_65_code 10 = .ok (.ireturn, 1) := by decide +kernel
theorem pn_rmxA : plainFor yy7 = true := by first | exact plainFor_of_name (by first | (simp [plainName, overriddenIn]; done) | decide +kernel) | decide +kernel
theorem ef_rmxA (m : MethodId) (x1 : Int32) (y1 : Int32) : entryFrame m #[(.int x1), (.int y1)] 2 = (mkF m 0 #[iv x1, iv y1] []) := by first | (simp [entryFrame, mkF, argsToLocals, Value.category]; done) | rfl
def QxA (Z : State) (x1 : Int32) (y1 : Int32) (h0 : Heap) (n0 : Nat) (v_ : Option Value) (h_ : Heap) (L_ : List Loc) : Prop := (v_ = some (.int x1)) ∧ (Fr n0 L_) ∧ (h_ = h0)
set_option maxRecDepth 65536 in
set_option maxHeartbeats 40000000 in
theorem rmxA (l : Launch) (Z : State) (a0 : Array Value) (hw : ∀ d ∈ tables_1, d.before a0 Z = true) (ws : List Jvm.Cond) (x1 : Int32) (y1 : Int32) (h0 : Heap) (n0 : Nat) (Z0 : n0 ≤ h0.size) (h : ¬ x1 < y1) :
    MetFree l yy7 (head1 (Jvm.Cond.code yy7 jdk_29_method_65_code 2 (some .int) :: ws) rRrmxA) (fun a_ U_ => a_ = #[(.int x1), (.int y1)] ∧ Z.Warmed39 U_.vm ∧ U_.heap = h0) (fun _ _ _ _ _ => True) (fun _ U_ o_ U1_ => ∃ v_ L_, o_ = .returned v_ ∧ QxA Z x1 y1 h0 n0 v_ U1_.heap L_ ∧ FrameEnd U_ o_ U1_ L_ rRrmxA.cells rRrmxA.slots) := by
  refine MetFree.of_bodySF pn_rmxA hisR ?_
  intro p e s m args below meth c s₁ Bd hml0 hP hK
  obtain ⟨rfl, hZ, hh⟩ := hP
  have hx := Bd.exec
  have hby := Bd.bytes
  have hlk : meth.locks = false := Bd.notSynchronized
  have hml : c.maxLocals = 2 := hml0
  have hown : s.vm.findClass "java/lang/Math" = some m.cls := findClass_of_methodNamed Bd.named
  have hnm := (name_of_methodNamed Bd.named Bd.method).1
  have X0 : Stand p l e rRrmxA s m #[(.int x1), (.int y1)] below meth c s₁ [] 0 0 := Stand.of_body Bd
  have e0 : s₁.heap = h0 := by rw [← hh, Bd.state]; rfl
  have N0 := Fr.nil n0
  show own_Goes p e below s (QxA Z x1 y1 h0 n0) rRrmxA.cells rRrmxA.slots s₁ (entryFrame m #[(.int x1), (.int y1)] 2)
  rw [ef_rmxA m x1 y1]
  show own_Goes p e below s (QxA Z x1 y1 h0 n0) rRrmxA.cells rRrmxA.slots s₁ (mkF m 0 #[iv x1, iv y1] [])
  refine own_st (fun _ kk_ => XS.iloadN X0.here hx rfl (hb hby d30_0) rfl (XS.iloadN X0.here hx rfl (hb hby d30_1) rfl (XS.icmpNo X0.here hx rfl (hb hby d30_2) rfl (XT.ii_lt_f h) (XS.iloadN X0.here hx rfl (hb hby d30_5) rfl (XS.goto X0.here hx rfl (pc0 := 6) (pc' := 10) rfl (hb hby d30_6) (by decide) (by decide) kk_))))) ?_
  show own_Goes _ _ _ _ _ _ _ s₁ (mkF m 10 #[iv x1, iv y1] [(.int x1)])
  refine own_retI X0 hx hlk Bd.returns (hb hby d30_10) (by decide) (by decide) ?_
  show QxA Z x1 y1 h0 n0 (some (.int x1)) s₁.heap _
  rw [e0]
  exact ⟨rfl, N0, rfl⟩
abbrev rRrmnA : Room := { frames := 0, cells := 0, slots := 0, locals := 0 }
theorem d31_0 : decode jdk_29_method_69_code 0 = .ok (.iload_n 0, 1) := by decide +kernel
theorem d31_1 : decode jdk_29_method_69_code 1 = .ok (.iload_n 1, 1) := by decide +kernel
theorem d31_2 : decode jdk_29_method_69_code 2 = .ok (.if_icmp .gt 7, 3) := by decide +kernel
theorem d31_5 : decode jdk_29_method_69_code 5 = .ok (.iload_n 0, 1) := by decide +kernel
theorem d31_6 : decode jdk_29_method_69_code 6 = .ok (.goto 4, 3) := by decide +kernel
theorem d31_10 : decode jdk_29_method_69_code 10 = .ok (.ireturn, 1) := by decide +kernel
theorem pn_rmnA : plainFor yy8 = true := by first | exact plainFor_of_name (by first | (simp [plainName, overriddenIn]; done) | decide +kernel) | decide +kernel
theorem ef_rmnA (m : MethodId) (x1 : Int32) (y1 : Int32) : entryFrame m #[(.int x1), (.int y1)] 2 = (mkF m 0 #[iv x1, iv y1] []) := by first | (simp [entryFrame, mkF, argsToLocals, Value.category]; done) | rfl
def QnA (Z : State) (x1 : Int32) (y1 : Int32) (h0 : Heap) (n0 : Nat) (v_ : Option Value) (h_ : Heap) (L_ : List Loc) : Prop := (v_ = some (.int x1)) ∧ (Fr n0 L_) ∧ (h_ = h0)
set_option maxRecDepth 65536 in
set_option maxHeartbeats 40000000 in
theorem rmnA (l : Launch) (Z : State) (a0 : Array Value) (hw : ∀ d ∈ tables_1, d.before a0 Z = true) (ws : List Jvm.Cond) (x1 : Int32) (y1 : Int32) (h0 : Heap) (n0 : Nat) (Z0 : n0 ≤ h0.size) (h : ¬ y1 < x1) :
    MetFree l yy8 (head1 (Jvm.Cond.code yy8 jdk_29_method_69_code 2 (some .int) :: ws) rRrmnA) (fun a_ U_ => a_ = #[(.int x1), (.int y1)] ∧ Z.Warmed39 U_.vm ∧ U_.heap = h0) (fun _ _ _ _ _ => True) (fun _ U_ o_ U1_ => ∃ v_ L_, o_ = .returned v_ ∧ QnA Z x1 y1 h0 n0 v_ U1_.heap L_ ∧ FrameEnd U_ o_ U1_ L_ rRrmnA.cells rRrmnA.slots) := by
  refine MetFree.of_bodySF pn_rmnA hisR ?_
  intro p e s m args below meth c s₁ Bd hml0 hP hK
  obtain ⟨rfl, hZ, hh⟩ := hP
  have hx := Bd.exec
  have hby := Bd.bytes
  have hlk : meth.locks = false := Bd.notSynchronized
  have hml : c.maxLocals = 2 := hml0
  have hown : s.vm.findClass "java/lang/Math" = some m.cls := findClass_of_methodNamed Bd.named
  have hnm := (name_of_methodNamed Bd.named Bd.method).1
  have X0 : Stand p l e rRrmnA s m #[(.int x1), (.int y1)] below meth c s₁ [] 0 0 := Stand.of_body Bd
  have e0 : s₁.heap = h0 := by rw [← hh, Bd.state]; rfl
  have N0 := Fr.nil n0
  show own_Goes p e below s (QnA Z x1 y1 h0 n0) rRrmnA.cells rRrmnA.slots s₁ (entryFrame m #[(.int x1), (.int y1)] 2)
  rw [ef_rmnA m x1 y1]
  show own_Goes p e below s (QnA Z x1 y1 h0 n0) rRrmnA.cells rRrmnA.slots s₁ (mkF m 0 #[iv x1, iv y1] [])
  refine own_st (fun _ kk_ => XS.iloadN X0.here hx rfl (hb hby d31_0) rfl (XS.iloadN X0.here hx rfl (hb hby d31_1) rfl (XS.icmpNo X0.here hx rfl (hb hby d31_2) rfl (XT.ii_gt_f h) (XS.iloadN X0.here hx rfl (hb hby d31_5) rfl (XS.goto X0.here hx rfl (pc0 := 6) (pc' := 10) rfl (hb hby d31_6) (by decide) (by decide) kk_))))) ?_
  show own_Goes _ _ _ _ _ _ _ s₁ (mkF m 10 #[iv x1, iv y1] [(.int x1)])
  refine own_retI X0 hx hlk Bd.returns (hb hby d31_10) (by decide) (by decide) ?_
  show QnA Z x1 y1 h0 n0 (some (.int x1)) s₁.heap _
  rw [e0]
  exact ⟨rfl, N0, rfl⟩
abbrev rRrmnB : Room := { frames := 0, cells := 0, slots := 0, locals := 0 }
theorem d31_9 : decode jdk_29_method_69_code 9 = .ok (.iload_n 1, 1) := by decide +kernel
theorem pn_rmnB : plainFor yy8 = true := by first | exact plainFor_of_name (by first | (simp [plainName, overriddenIn]; done) | decide +kernel) | decide +kernel
theorem ef_rmnB (m : MethodId) (x1 : Int32) (y1 : Int32) : entryFrame m #[(.int x1), (.int y1)] 2 = (mkF m 0 #[iv x1, iv y1] []) := by first | (simp [entryFrame, mkF, argsToLocals, Value.category]; done) | rfl
def QnB (Z : State) (x1 : Int32) (y1 : Int32) (h0 : Heap) (n0 : Nat) (v_ : Option Value) (h_ : Heap) (L_ : List Loc) : Prop := (v_ = some (.int y1)) ∧ (Fr n0 L_) ∧ (h_ = h0)
set_option maxRecDepth 65536 in
set_option maxHeartbeats 40000000 in
theorem rmnB (l : Launch) (Z : State) (a0 : Array Value) (hw : ∀ d ∈ tables_1, d.before a0 Z = true) (ws : List Jvm.Cond) (x1 : Int32) (y1 : Int32) (h0 : Heap) (n0 : Nat) (Z0 : n0 ≤ h0.size) (h : y1 < x1) :
    MetFree l yy8 (head1 (Jvm.Cond.code yy8 jdk_29_method_69_code 2 (some .int) :: ws) rRrmnB) (fun a_ U_ => a_ = #[(.int x1), (.int y1)] ∧ Z.Warmed39 U_.vm ∧ U_.heap = h0) (fun _ _ _ _ _ => True) (fun _ U_ o_ U1_ => ∃ v_ L_, o_ = .returned v_ ∧ QnB Z x1 y1 h0 n0 v_ U1_.heap L_ ∧ FrameEnd U_ o_ U1_ L_ rRrmnB.cells rRrmnB.slots) := by
  refine MetFree.of_bodySF pn_rmnB hisR ?_
  intro p e s m args below meth c s₁ Bd hml0 hP hK
  obtain ⟨rfl, hZ, hh⟩ := hP
  have hx := Bd.exec
  have hby := Bd.bytes
  have hlk : meth.locks = false := Bd.notSynchronized
  have hml : c.maxLocals = 2 := hml0
  have hown : s.vm.findClass "java/lang/Math" = some m.cls := findClass_of_methodNamed Bd.named
  have hnm := (name_of_methodNamed Bd.named Bd.method).1
  have X0 : Stand p l e rRrmnB s m #[(.int x1), (.int y1)] below meth c s₁ [] 0 0 := Stand.of_body Bd
  have e0 : s₁.heap = h0 := by rw [← hh, Bd.state]; rfl
  have N0 := Fr.nil n0
  show own_Goes p e below s (QnB Z x1 y1 h0 n0) rRrmnB.cells rRrmnB.slots s₁ (entryFrame m #[(.int x1), (.int y1)] 2)
  rw [ef_rmnB m x1 y1]
  show own_Goes p e below s (QnB Z x1 y1 h0 n0) rRrmnB.cells rRrmnB.slots s₁ (mkF m 0 #[iv x1, iv y1] [])
  refine own_st (fun _ kk_ => XS.iloadN X0.here hx rfl (hb hby d31_0) rfl (XS.iloadN X0.here hx rfl (hb hby d31_1) rfl (XS.icmpYes X0.here hx rfl (pc0 := 2) (pc' := 9) rfl (hb hby d31_2) rfl (XT.ii_gt_t h) (by decide) (by decide) (XS.iloadN X0.here hx rfl (hb hby d31_9) rfl kk_)))) ?_
  show own_Goes _ _ _ _ _ _ _ s₁ (mkF m 10 #[iv x1, iv y1] [(.int y1)])
  refine own_retI X0 hx hlk Bd.returns (hb hby d31_10) (by decide) (by decide) ?_
  show QnB Z x1 y1 h0 n0 (some (.int y1)) s₁.heap _
  rw [e0]
  exact ⟨rfl, N0, rfl⟩
abbrev rRrm19 : Room := { frames := 0, cells := 0, slots := 0, locals := 0 }
theorem d19_0 : decode jdk_43_method_44_code 0 = .ok (.aload_n 0, 1) := by decide +kernel
theorem d19_1 : decode jdk_43_method_44_code 1 = .ok (.iload_n 1, 1) := by decide +kernel
theorem d19_2 : decode jdk_43_method_44_code 2 = .ok (.baload, 1) := by decide +kernel
theorem d19_3 : decode jdk_43_method_44_code 3 = .ok (.sipush 255, 3) := by decide +kernel
theorem d19_6 : decode jdk_43_method_44_code 6 = .ok (.iand, 1) := by decide +kernel
theorem d19_7 : decode jdk_43_method_44_code 7 = .ok (.i2c, 1) := by decide +kernel
theorem d19_8 : decode jdk_43_method_44_code 8 = .ok (.ireturn, 1) := by decide +kernel
theorem pn_rm19 : plainFor yy9 = true := by first | exact plainFor_of_name (by first | (simp [plainName, overriddenIn]; done) | decide +kernel) | decide +kernel
theorem ef_rm19 (m : MethodId) (d : Addr) (i9 : Int32) : entryFrame m #[(.ref d), (.int i9)] 2 = (mkF m 0 #[rv d, iv i9] []) := by first | (simp [entryFrame, mkF, argsToLocals, Value.category]; done) | rfl
def Q19 (Z : State) (d : Addr) (i9 : Int32) (kd : ClassId) (z1 : Int32) (vs1 : List Value) (c9 : Int32) (h0 : Heap) (n0 : Nat) (v_ : Option Value) (h_ : Heap) (L_ : List Loc) : Prop := (v_ = some (.int c9)) ∧ (Fr n0 L_) ∧ (h_ = h0)
set_option maxRecDepth 65536 in
set_option maxHeartbeats 40000000 in
theorem rm19 (l : Launch) (Z : State) (a0 : Array Value) (hw : ∀ d ∈ tables_1, d.before a0 Z = true) (ws : List Jvm.Cond) (d : Addr) (i9 : Int32) (kd : ClassId) (z1 : Int32) (vs1 : List Value) (c9 : Int32) (h0 : Heap) (n0 : Nat) (Z0 : n0 ≤ h0.size) (p_0 : Arv Z h0 d kd .byte z1 vs1 (.int (0 : Int32))) (h1 : ¬ i9 < (0 : Int32)) (h2 : i9 < z1) (hv : vs1.getD (i9).toNatClampNeg (.int (0 : Int32)) = .int (own_by c9)) (hi : own_in c9) :
    MetFree l yy9 (head1 (Jvm.Cond.code yy9 jdk_43_method_44_code 2 (some .char) :: ws) rRrm19) (fun a_ U_ => a_ = #[(.ref d), (.int i9)] ∧ Z.Warmed39 U_.vm ∧ U_.heap = h0) (fun _ _ _ _ _ => True) (fun _ U_ o_ U1_ => ∃ v_ L_, o_ = .returned v_ ∧ Q19 Z d i9 kd z1 vs1 c9 h0 n0 v_ U1_.heap L_ ∧ FrameEnd U_ o_ U1_ L_ rRrm19.cells rRrm19.slots) := by
  refine MetFree.of_bodySF pn_rm19 hisR ?_
  intro p e s m args below meth c s₁ Bd hml0 hP hK
  obtain ⟨rfl, hZ, hh⟩ := hP
  have hx := Bd.exec
  have hby := Bd.bytes
  have hlk : meth.locks = false := Bd.notSynchronized
  have hml : c.maxLocals = 2 := hml0
  have hown : s.vm.findClass "java/lang/StringLatin1" = some m.cls := findClass_of_methodNamed Bd.named
  have hnm := (name_of_methodNamed Bd.named Bd.method).1
  have X0 : Stand p l e rRrm19 s m #[(.ref d), (.int i9)] below meth c s₁ [] 0 0 := Stand.of_body Bd
  have e0 : s₁.heap = h0 := by rw [← hh, Bd.state]; rfl
  have N0 := Fr.nil n0
  show own_Goes p e below s (Q19 Z d i9 kd z1 vs1 c9 h0 n0) rRrm19.cells rRrm19.slots s₁ (entryFrame m #[(.ref d), (.int i9)] 2)
  rw [ef_rm19 m d i9]
  show own_Goes p e below s (Q19 Z d i9 kd z1 vs1 c9 h0 n0) rRrm19.cells rRrm19.slots s₁ (mkF m 0 #[rv d, iv i9] [])
  refine own_st (fun _ kk_ => XS.aloadN X0.here hx rfl (hb hby d19_0) rfl rfl (XS.iloadN X0.here hx rfl (hb hby d19_1) rfl kk_)) ?_
  show own_Goes _ _ _ _ _ _ _ s₁ (mkF m 2 #[rv d, iv i9] [(.int i9), (.ref d)])
  obtain ⟨cl1, Ar1, q1, Sz1, Nn1, Hh1, Gg1⟩ := id p_0
  refine own_st (fun _ kk_ => X0.baloadBytes hx (j := i9) (v := (.int (own_by c9))) (by rw [e0]; exact Ar1.1) (State.isArrayOf_alike hZ.alike Ar1.2.1) Ar1.2.2 (inb_of Sz1 ⟨h1, h2⟩) (Hh1.at (inb_of Sz1 ⟨h1, h2⟩) hv) (g := (mkF m 2 #[rv d, iv i9] [(.int i9), (.ref d)])) rfl rfl (hb hby d19_2) _ kk_) ?_
  show own_Goes _ _ _ _ _ _ _ s₁ (mkF m 3 #[rv d, iv i9] [(.int (own_by c9))])
  refine own_st (fun _ kk_ => XS.sipush X0.here hx rfl (hb hby d19_3) (XS.iand X0.here hx rfl (hb hby d19_6) rfl (XS.i2c X0.here hx rfl (hb hby d19_7) rfl kk_))) ?_
  show own_Goes _ _ _ _ _ _ _ s₁ (mkF m 8 #[rv d, iv i9] [(.int (((own_by c9) &&& (255 : Int32)).toUInt32.toUInt16.toUInt32.toInt32))])
  refine own_retN X0 hx hlk (t := .char) Bd.returns (by simp) (hb hby d19_8) (by decide) (by decide) ?_
  show Q19 Z d i9 kd z1 vs1 c9 h0 n0 (some (.int (nar .char (((own_by c9) &&& (255 : Int32)).toUInt32.toUInt16.toUInt32.toInt32)))) s₁.heap _
  rw [e0]
  exact ⟨by exact congrArg (fun z => some (Value.int z)) (own_gc hi), N0, rfl⟩
abbrev rRrm21 : Room := { frames := 0, cells := 0, slots := 0, locals := 0 }
theorem d21_0 : decode jdk_116_method_1_code 0 = .ok (.iload_n 1, 1) := by decide +kernel
theorem d21_1 : decode jdk_116_method_1_code 1 = .ok (.i2c, 1) := by decide +kernel
theorem d21_2 : decode jdk_116_method_1_code 2 = .ok (.istore_n 2, 1) := by decide +kernel
theorem d21_3 : decode jdk_116_method_1_code 3 = .ok (.getstatic 1, 3) := by decide +kernel
theorem d21_6 : decode jdk_116_method_1_code 6 = .ok (.iload_n 2, 1) := by decide +kernel
theorem d21_7 : decode jdk_116_method_1_code 7 = .ok (.iaload, 1) := by decide +kernel
theorem d21_8 : decode jdk_116_method_1_code 8 = .ok (.istore_n 3, 1) := by decide +kernel
theorem d21_9 : decode jdk_116_method_1_code 9 = .ok (.iload_n 3, 1) := by decide +kernel
theorem d21_10 : decode jdk_116_method_1_code 10 = .ok (.ireturn, 1) := by decide +kernel
theorem pn_rm21 : plainFor yy10 = true := by first | exact plainFor_of_name (by first | (simp [plainName, overriddenIn]; done) | decide +kernel) | decide +kernel
theorem ef_rm21 (m : MethodId) (ci : Addr) (c9 : Int32) : entryFrame m #[(.ref ci), (.int c9)] 4 = (mkF m 0 #[rv ci, iv c9, .unset, .unset] []) := by first | (simp [entryFrame, mkF, argsToLocals, Value.category]; done) | rfl
def Q21 (Z : State) (ci : Addr) (c9 : Int32) (ca : Addr) (ka : ClassId) (h0 : Heap) (n0 : Nat) (v_ : Option Value) (h_ : Heap) (L_ : List Loc) : Prop := (v_ = some (.int (own_Ai.getD c9.toNatClampNeg 0))) ∧ (Fr n0 L_) ∧ (h_ = h0)
set_option maxRecDepth 65536 in
set_option maxHeartbeats 40000000 in
theorem rm21 (l : Launch) (Z : State) (a0 : Array Value) (hw : ∀ d ∈ tables_1, d.before a0 Z = true) (ws : List Jvm.Cond) (ci : Addr) (c9 : Int32) (ca : Addr) (ka : ClassId) (h0 : Heap) (n0 : Nat) (Z0 : n0 ≤ h0.size) (p_0 : Exa Z h0 ci "java/lang/CharacterDataLatin1") (p_1 : Sta Z h0 "java/lang/CharacterDataLatin1" "A" "[I" (.ref ca)) (p_2 : Arv Z h0 ca ka .int (256 : Int32) own_A (.int (0 : Int32))) (hi : own_in c9) :
    MetFree l yy10 (head1 (Jvm.Cond.code yy10 jdk_116_method_1_code 4 (some .int) :: ws) rRrm21) (fun a_ U_ => a_ = #[(.ref ci), (.int c9)] ∧ Z.Warmed39 U_.vm ∧ U_.heap = h0) (fun _ _ _ _ _ => True) (fun _ U_ o_ U1_ => ∃ v_ L_, o_ = .returned v_ ∧ Q21 Z ci c9 ca ka h0 n0 v_ U1_.heap L_ ∧ FrameEnd U_ o_ U1_ L_ rRrm21.cells rRrm21.slots) := by
  refine MetFree.of_bodySF pn_rm21 hisR ?_
  intro p e s m args below meth c s₁ Bd hml0 hP hK
  obtain ⟨rfl, hZ, hh⟩ := hP
  have hx := Bd.exec
  have hby := Bd.bytes
  have hlk : meth.locks = false := Bd.notSynchronized
  have hml : c.maxLocals = 4 := hml0
  have hown : s.vm.findClass "java/lang/CharacterDataLatin1" = some m.cls := findClass_of_methodNamed Bd.named
  have hnm := (name_of_methodNamed Bd.named Bd.method).1
  have X0 : Stand p l e rRrm21 s m #[(.ref ci), (.int c9)] below meth c s₁ [] 0 0 := Stand.of_body Bd
  have e0 : s₁.heap = h0 := by rw [← hh, Bd.state]; rfl
  have N0 := Fr.nil n0
  show own_Goes p e below s (Q21 Z ci c9 ca ka h0 n0) rRrm21.cells rRrm21.slots s₁ (entryFrame m #[(.ref ci), (.int c9)] 4)
  rw [ef_rm21 m ci c9]
  show own_Goes p e below s (Q21 Z ci c9 ca ka h0 n0) rRrm21.cells rRrm21.slots s₁ (mkF m 0 #[rv ci, iv c9, .unset, .unset] [])
  refine own_st (fun _ kk_ => XS.iloadN X0.here hx rfl (hb hby d21_0) rfl (XS.i2c X0.here hx rfl (hb hby d21_1) rfl kk_)) ?_
  show own_Goes _ _ _ _ _ _ _ s₁ (mkF m 2 #[rv ci, iv c9, .unset, .unset] [(.int (c9.toUInt32.toUInt16.toUInt32.toInt32))])
  rw [own_ic hi]
  show own_Goes _ _ _ _ _ _ _ s₁ (mkF m 2 #[rv ci, iv c9, .unset, .unset] [(.int c9)])
  refine own_st (fun _ kk_ => XS.istoreN X0.here hx rfl (hb hby d21_2) rfl (l' := #[rv ci, iv c9, iv c9, .unset]) rfl kk_) ?_
  show own_Goes _ _ _ _ _ _ _ s₁ (mkF m 3 #[rv ci, iv c9, iv c9, .unset] [])
  obtain ⟨T1, X1, e1, st1⟩ := getS2 X0 hx hZ hown (host := "") (Or.inl (own_w hw 100 rfl)) Via.refl e0 p_1 (g := (mkF m 3 #[rv ci, iv c9, iv c9, .unset] [])) rfl (hb hby d21_3)
  refine own_st st1 ?_
  show own_Goes _ _ _ _ _ _ _ T1 (mkF m 6 #[rv ci, iv c9, iv c9, .unset] [(.ref ca)])
  refine own_st (fun _ kk_ => XS.iloadN X1.here hx rfl (hb hby d21_6) rfl kk_) ?_
  show own_Goes _ _ _ _ _ _ _ T1 (mkF m 7 #[rv ci, iv c9, iv c9, .unset] [(.int c9), (.ref ca)])
  obtain ⟨cl2, Ar2, q2, Sz2, Nn2, Hh2, Gg2⟩ := id p_2
  refine own_st (fun _ kk_ => X1.iaload hx (j := c9) (v := (.int (own_Ai.getD c9.toNatClampNeg 0))) (by rw [e1]; exact Ar2.1) (State.isArrayOf_alike hZ.alike Ar2.2.1) Ar2.2.2 (inb_of Sz2 ⟨(own_tc hi).2.1, (own_tc hi).2.2.1⟩) (Hh2.at (inb_of Sz2 ⟨(own_tc hi).2.1, (own_tc hi).2.2.1⟩) (own_Aat _)) (g := (mkF m 7 #[rv ci, iv c9, iv c9, .unset] [(.int c9), (.ref ca)])) rfl rfl (hb hby d21_7) _ kk_) ?_
  show own_Goes _ _ _ _ _ _ _ T1 (mkF m 8 #[rv ci, iv c9, iv c9, .unset] [(.int (own_Ai.getD c9.toNatClampNeg 0))])
  refine own_st (fun _ kk_ => XS.istoreN X1.here hx rfl (hb hby d21_8) rfl (l' := #[rv ci, iv c9, iv c9, iv (own_Ai.getD c9.toNatClampNeg 0)]) rfl (XS.iloadN X1.here hx rfl (hb hby d21_9) rfl kk_)) ?_
  show own_Goes _ _ _ _ _ _ _ T1 (mkF m 10 #[rv ci, iv c9, iv c9, iv (own_Ai.getD c9.toNatClampNeg 0)] [(.int (own_Ai.getD c9.toNatClampNeg 0))])
  refine own_retI X1 hx hlk Bd.returns (hb hby d21_10) (by decide) (by decide) ?_
  show Q21 Z ci c9 ca ka h0 n0 (some (.int (own_Ai.getD c9.toNatClampNeg 0))) T1.heap _
  rw [e1]
  exact ⟨rfl, N0, rfl⟩
abbrev rRrm20 : Room := { frames := 1, cells := 0, slots := 0, locals := 15 }
theorem d20_0 : decode jdk_116_method_26_code 0 = .ok (.aload_n 0, 1) := by decide +kernel
theorem d20_1 : decode jdk_116_method_26_code 1 = .ok (.iload_n 1, 1) := by decide +kernel
theorem d20_2 : decode jdk_116_method_26_code 2 = .ok (.invokevirtual 15, 3) := by decide +kernel
theorem d20_5 : decode jdk_116_method_26_code 5 = .ok (.istore_n 2, 1) := by decide +kernel
theorem d20_6 : decode jdk_116_method_26_code 6 = .ok (.iload_n 2, 1) := by decide +kernel
theorem d20_7 : decode jdk_116_method_26_code 7 = .ok (.sipush 28672, 3) := by decide +kernel
theorem d20_10 : decode jdk_116_method_26_code 10 = .ok (.iand, 1) := by decide +kernel
theorem d20_11 : decode jdk_116_method_26_code 11 = .ok (.sipush 16384, 3) := by decide +kernel
theorem d20_14 : decode jdk_116_method_26_code 14 = .ok (.if_icmp .ne 7, 3) := by decide +kernel
theorem d20_21 : decode jdk_116_method_26_code 21 = .ok (.iconst 0, 1) := by decide +kernel
theorem d20_22 : decode jdk_116_method_26_code 22 = .ok (.ireturn, 1) := by decide +kernel
theorem pd_2 : parseMethodDescriptor "(I)I" = some ⟨[.int], some .int⟩ := by decide +kernel
theorem pn_rm20 : plainFor yy11 = true := by first | exact plainFor_of_name (by first | (simp [plainName, overriddenIn]; done) | decide +kernel) | decide +kernel
theorem ef_rm20 (m : MethodId) (ci : Addr) (c9 : Int32) : entryFrame m #[(.ref ci), (.int c9)] 3 = (mkF m 0 #[rv ci, iv c9, .unset] []) := by first | (simp [entryFrame, mkF, argsToLocals, Value.category]; done) | rfl
def Q20 (Z : State) (ci : Addr) (c9 : Int32) (ca : Addr) (ka : ClassId) (h0 : Heap) (n0 : Nat) (v_ : Option Value) (h_ : Heap) (L_ : List Loc) : Prop := (v_ = some (.int (0 : Int32))) ∧ (Fr n0 L_) ∧ (h_ = h0)
set_option maxRecDepth 65536 in
set_option maxHeartbeats 40000000 in
theorem rm20 (l : Launch) (Z : State) (a0 : Array Value) (hw : ∀ d ∈ tables_1, d.before a0 Z = true) (ws : List Jvm.Cond) (ci : Addr) (c9 : Int32) (ca : Addr) (ka : ClassId) (h0 : Heap) (n0 : Nat) (Z0 : n0 ≤ h0.size) (p_0 : Exa Z h0 ci "java/lang/CharacterDataLatin1") (p_1 : Sta Z h0 "java/lang/CharacterDataLatin1" "A" "[I" (.ref ca)) (p_2 : Arv Z h0 ca ka .int (256 : Int32) own_A (.int (0 : Int32))) (he : own_ec c9) :
    MetFree l yy11 (head1 (Jvm.Cond.code yy11 jdk_116_method_26_code 3 (some .boolean) :: ws) rRrm20) (fun a_ U_ => a_ = #[(.ref ci), (.int c9)] ∧ Z.Warmed39 U_.vm ∧ U_.heap = h0) (fun _ _ _ _ _ => True) (fun _ U_ o_ U1_ => ∃ v_ L_, o_ = .returned v_ ∧ Q20 Z ci c9 ca ka h0 n0 v_ U1_.heap L_ ∧ FrameEnd U_ o_ U1_ L_ rRrm20.cells rRrm20.slots) := by
  refine MetFree.of_bodySF pn_rm20 hisR ?_
  intro p e s m args below meth c s₁ Bd hml0 hP hK
  obtain ⟨rfl, hZ, hh⟩ := hP
  have hx := Bd.exec
  have hby := Bd.bytes
  have hlk : meth.locks = false := Bd.notSynchronized
  have hml : c.maxLocals = 3 := hml0
  have hown : s.vm.findClass "java/lang/CharacterDataLatin1" = some m.cls := findClass_of_methodNamed Bd.named
  have hnm := (name_of_methodNamed Bd.named Bd.method).1
  have X0 : Stand p l e rRrm20 s m #[(.ref ci), (.int c9)] below meth c s₁ [] 0 0 := Stand.of_body Bd
  have e0 : s₁.heap = h0 := by rw [← hh, Bd.state]; rfl
  have N0 := Fr.nil n0
  show own_Goes p e below s (Q20 Z ci c9 ca ka h0 n0) rRrm20.cells rRrm20.slots s₁ (entryFrame m #[(.ref ci), (.int c9)] 3)
  rw [ef_rm20 m ci c9]
  show own_Goes p e below s (Q20 Z ci c9 ca ka h0 n0) rRrm20.cells rRrm20.slots s₁ (mkF m 0 #[rv ci, iv c9, .unset] [])
  refine own_st (fun _ kk_ => XS.aloadN X0.here hx rfl (hb hby d20_0) rfl rfl (XS.iloadN X0.here hx rfl (hb hby d20_1) rfl kk_)) ?_
  show own_Goes _ _ _ _ _ _ _ s₁ (mkF m 2 #[rv ci, iv c9, .unset] [(.int c9), (.ref ci)])
  obtain ⟨cq1, kq1, q1a, q1b, q1c⟩ := isOf hZ e0 p_0
  obtain ⟨_, _, ⟨T1, L1, k1, n1⟩, -, X1, ⟨Lc1, hQ1, l1, y1, z1⟩, st1⟩ := X0.virtualBack hx (y := yy10) (z := yy10) hown (mvT hZ (own_w hw 95 rfl)) (mvT hZ (own_w hw 96 rfl)) (notFace_of_selects (args := #[]) (mvT hZ (own_w hw 98 rfl))) (mvT hZ (own_w hw 98 rfl)) (mvT hZ (own_w hw 97 rfl)) (by decide) (backOf (W := 0) (rm21 l Z a0 hw [] (ci) (c9) (ca) (ka) h0 n0 Z0 p_0 p_1 p_2 he.m.i) hZ (own_w hw 99 rfl) (own_w hw 89 rfl) (by decide) (by decide)) q1a q1c (g := (mkF m 2 #[rv ci, iv c9, .unset] [(.int c9), (.ref ci)])) rfl (by rw [hml]; rfl) (Steps.refl _) (argsL := [(.int c9)]) (rest := []) (lenOf pd_2 rfl) rfl (by show 2 * 0 + _ ≤ _; exact Nat.le_of_eq rfl) (hb hby d20_2) (fun _ _ => ⟨rfl, e0, (by decide : 0 + 0 ≤ _), (by decide : 0 + 0 ≤ _)⟩)
  dsimp only [Pt.U, Pt.locs, Pt.cells, Pt.slots] at X1 l1 y1 z1 st1 hQ1
  subst l1 y1 z1
  obtain ⟨rfl, Nq1, eq1⟩ := hQ1
  have N1 := Fr.app N0 Nq1
  refine own_st (fun _ kk_ => st1.trans kk_) ?_
  show own_Goes _ _ _ _ _ _ _ T1 (mkF m 5 #[rv ci, iv c9, .unset] [(.int (own_Ai.getD c9.toNatClampNeg 0))])
  refine own_st (fun _ kk_ => XS.istoreN X1.here hx rfl (hb hby d20_5) rfl (l' := #[rv ci, iv c9, iv (own_Ai.getD c9.toNatClampNeg 0)]) rfl (XS.iloadN X1.here hx rfl (hb hby d20_6) rfl (XS.sipush X1.here hx rfl (hb hby d20_7) (XS.iand X1.here hx rfl (hb hby d20_10) rfl (XS.sipush X1.here hx rfl (hb hby d20_11) (XS.icmpYes X1.here hx rfl (pc0 := 14) (pc' := 21) rfl (hb hby d20_14) rfl (XT.ii_ne_t (own_nw he)) (by decide) (by decide) (XS.iconst X1.here hx rfl (hb hby d20_21) kk_))))))) ?_
  show own_Goes _ _ _ _ _ _ _ T1 (mkF m 22 #[rv ci, iv c9, iv (own_Ai.getD c9.toNatClampNeg 0)] [(.int (0 : Int32))])
  refine own_retN X1 hx hlk (t := .boolean) Bd.returns (by simp) (hb hby d20_22) (by decide) (by decide) ?_
  show Q20 Z ci c9 ca ka h0 n0 (some (.int (nar .boolean (0 : Int32)))) T1.heap _
  rw [eq1]
  exact ⟨rfl, N1, rfl⟩
theorem own_z1 {z : Int32} (h : (0 : Int32) < z) : ¬ z - 1 < (0 : Int32) ∧ z - 1 < z := by
  have q := c_isub z 1; have r := z.toInt_lt; simp only [Int32.lt_iff_toInt_lt, Int32.reduceToInt] at h q ⊢; have := (z - 1).le_toInt; have := (z - 1).toInt_lt; omega
abbrev rRrm18 : Room := { frames := 2, cells := 0, slots := 0, locals := 29 }
theorem d18_0 : decode jdk_43_method_37_code 0 = .ok (.aload_n 0, 1) := by decide +kernel
theorem d18_1 : decode jdk_43_method_37_code 1 = .ok (.arraylength, 1) := by decide +kernel
theorem d18_2 : decode jdk_43_method_37_code 2 = .ok (.istore_n 1, 1) := by decide +kernel
theorem d18_3 : decode jdk_43_method_37_code 3 = .ok (.iconst 0, 1) := by decide +kernel
theorem d18_4 : decode jdk_43_method_37_code 4 = .ok (.istore_n 2, 1) := by decide +kernel
theorem d18_5 : decode jdk_43_method_37_code 5 = .ok (.iload_n 2, 1) := by decide +kernel
theorem d18_6 : decode jdk_43_method_37_code 6 = .ok (.iload_n 1, 1) := by decide +kernel
theorem d18_7 : decode jdk_43_method_37_code 7 = .ok (.if_icmp .ge 40, 3) := by decide +kernel
theorem d18_10 : decode jdk_43_method_37_code 10 = .ok (.aload_n 0, 1) := by decide +kernel
theorem d18_11 : decode jdk_43_method_37_code 11 = .ok (.iload_n 2, 1) := by decide +kernel
theorem d18_12 : decode jdk_43_method_37_code 12 = .ok (.invokestatic 50, 3) := by decide +kernel
theorem d18_15 : decode jdk_43_method_37_code 15 = .ok (.istore_n 3, 1) := by decide +kernel
theorem d18_16 : decode jdk_43_method_37_code 16 = .ok (.iload_n 3, 1) := by decide +kernel
theorem d18_17 : decode jdk_43_method_37_code 17 = .ok (.bipush 32, 2) := by decide +kernel
theorem d18_19 : decode jdk_43_method_37_code 19 = .ok (.if_icmp .eq 22, 3) := by decide +kernel
theorem d18_22 : decode jdk_43_method_37_code 22 = .ok (.iload_n 3, 1) := by decide +kernel
theorem d18_23 : decode jdk_43_method_37_code 23 = .ok (.bipush 9, 2) := by decide +kernel
theorem d18_25 : decode jdk_43_method_37_code 25 = .ok (.if_icmp .eq 16, 3) := by decide +kernel
theorem d18_28 : decode jdk_43_method_37_code 28 = .ok (.getstatic 66, 3) := by decide +kernel
theorem d18_31 : decode jdk_43_method_37_code 31 = .ok (.iload_n 3, 1) := by decide +kernel
theorem d18_32 : decode jdk_43_method_37_code 32 = .ok (.invokevirtual 211, 3) := by decide +kernel
theorem d18_35 : decode jdk_43_method_37_code 35 = .ok (.ifCond .ne 6, 3) := by decide +kernel
theorem d18_38 : decode jdk_43_method_37_code 38 = .ok (.goto 9, 3) := by decide +kernel
theorem d18_47 : decode jdk_43_method_37_code 47 = .ok (.iload_n 2, 1) := by decide +kernel
theorem d18_48 : decode jdk_43_method_37_code 48 = .ok (.ireturn, 1) := by decide +kernel
theorem pd_3 : parseMethodDescriptor "([BI)C" = some ⟨[(.array .byte), .int], some .char⟩ := by decide +kernel
theorem pd_4 : parseMethodDescriptor "(I)Z" = some ⟨[.int], some .boolean⟩ := by decide +kernel
theorem pn_rm18 : plainFor yy12 = true := by first | exact plainFor_of_name (by first | (simp [plainName, overriddenIn]; done) | decide +kernel) | decide +kernel
theorem ef_rm18 (m : MethodId) (d : Addr) : entryFrame m #[(.ref d)] 4 = (mkF m 0 #[rv d, .unset, .unset, .unset] []) := by first | (simp [entryFrame, mkF, argsToLocals, Value.category]; done) | rfl
def Q18 (Z : State) (d : Addr) (kd : ClassId) (z1 : Int32) (vs1 : List Value) (ci : Addr) (ca : Addr) (ka : ClassId) (c9 : Int32) (h0 : Heap) (n0 : Nat) (v_ : Option Value) (h_ : Heap) (L_ : List Loc) : Prop := (v_ = some (.int (0 : Int32))) ∧ (Fr n0 L_) ∧ (h_ = h0)
set_option maxRecDepth 65536 in
set_option maxHeartbeats 40000000 in
theorem rm18 (l : Launch) (Z : State) (a0 : Array Value) (hw : ∀ d ∈ tables_1, d.before a0 Z = true) (ws : List Jvm.Cond) (d : Addr) (kd : ClassId) (z1 : Int32) (vs1 : List Value) (ci : Addr) (ca : Addr) (ka : ClassId) (c9 : Int32) (h0 : Heap) (n0 : Nat) (Z0 : n0 ≤ h0.size) (p_0 : Arv Z h0 d kd .byte z1 vs1 (.int (0 : Int32))) (p_1 : Sta Z h0 "java/lang/CharacterDataLatin1" "instance" "Ljava/lang/CharacterDataLatin1;" (.ref ci)) (p_2 : Exa Z h0 ci "java/lang/CharacterDataLatin1") (p_3 : Sta Z h0 "java/lang/CharacterDataLatin1" "A" "[I" (.ref ca)) (p_4 : Arv Z h0 ca ka .int (256 : Int32) own_A (.int (0 : Int32))) (hp0 : (0 : Int32) < z1) (hv : vs1.getD ((0 : Int32)).toNatClampNeg (.int (0 : Int32)) = .int (own_by c9)) (he : own_ec c9) :
    MetFree l yy12 (head1 (Jvm.Cond.code yy12 jdk_43_method_37_code 4 (some .int) :: ws) rRrm18) (fun a_ U_ => a_ = #[(.ref d)] ∧ Z.Warmed39 U_.vm ∧ U_.heap = h0) (fun _ _ _ _ _ => True) (fun _ U_ o_ U1_ => ∃ v_ L_, o_ = .returned v_ ∧ Q18 Z d kd z1 vs1 ci ca ka c9 h0 n0 v_ U1_.heap L_ ∧ FrameEnd U_ o_ U1_ L_ rRrm18.cells rRrm18.slots) := by
  refine MetFree.of_bodySF pn_rm18 hisR ?_
  intro p e s m args below meth c s₁ Bd hml0 hP hK
  obtain ⟨rfl, hZ, hh⟩ := hP
  have hx := Bd.exec
  have hby := Bd.bytes
  have hlk : meth.locks = false := Bd.notSynchronized
  have hml : c.maxLocals = 4 := hml0
  have hown : s.vm.findClass "java/lang/StringLatin1" = some m.cls := findClass_of_methodNamed Bd.named
  have hnm := (name_of_methodNamed Bd.named Bd.method).1
  have X0 : Stand p l e rRrm18 s m #[(.ref d)] below meth c s₁ [] 0 0 := Stand.of_body Bd
  have e0 : s₁.heap = h0 := by rw [← hh, Bd.state]; rfl
  have N0 := Fr.nil n0
  show own_Goes p e below s (Q18 Z d kd z1 vs1 ci ca ka c9 h0 n0) rRrm18.cells rRrm18.slots s₁ (entryFrame m #[(.ref d)] 4)
  rw [ef_rm18 m d]
  show own_Goes p e below s (Q18 Z d kd z1 vs1 ci ca ka c9 h0 n0) rRrm18.cells rRrm18.slots s₁ (mkF m 0 #[rv d, .unset, .unset, .unset] [])
  refine own_st (fun _ kk_ => XS.aloadN X0.here hx rfl (hb hby d18_0) rfl rfl kk_) ?_
  show own_Goes _ _ _ _ _ _ _ s₁ (mkF m 1 #[rv d, .unset, .unset, .unset] [(.ref d)])
  obtain ⟨cl1, Ar1, -, Sz1, Nn1, -, -⟩ := id p_0
  refine own_st (fun _ kk_ => X0.arraylength hx (by rw [e0]; exact Ar1.1) (State.isArrayOf_alike hZ.alike Ar1.2.1) (g := (mkF m 1 #[rv d, .unset, .unset, .unset] [(.ref d)])) rfl rfl (hb hby d18_1) _ kk_) ?_
  rw [len_of Sz1 Nn1]
  show own_Goes _ _ _ _ _ _ _ s₁ (mkF m 2 #[rv d, .unset, .unset, .unset] [(.int z1)])
  refine own_st (fun _ kk_ => XS.istoreN X0.here hx rfl (hb hby d18_2) rfl (l' := #[rv d, iv z1, .unset, .unset]) rfl (XS.iconst X0.here hx rfl (hb hby d18_3) (XS.istoreN X0.here hx rfl (hb hby d18_4) rfl (l' := #[rv d, iv z1, iv (0 : Int32), .unset]) rfl (XS.iloadN X0.here hx rfl (hb hby d18_5) rfl (XS.iloadN X0.here hx rfl (hb hby d18_6) rfl (XS.icmpNo X0.here hx rfl (hb hby d18_7) rfl (XT.ii_ge_f hp0) (XS.aloadN X0.here hx rfl (hb hby d18_10) rfl rfl (XS.iloadN X0.here hx rfl (hb hby d18_11) rfl kk_)))))))) ?_
  show own_Goes _ _ _ _ _ _ _ s₁ (mkF m 12 #[rv d, iv z1, iv (0 : Int32), .unset] [(.int (0 : Int32)), (.ref d)])
  obtain ⟨_, _, ⟨T2, L2, k2, n2⟩, -, X2, ⟨Lc2, hQ2, l2, y2, z2⟩, st2⟩ := Jvm.LawKit.callS X0 hx (y := yy9) hown (mvT hZ (own_w hw 85 rfl)) (mvT hZ (own_w hw 86 rfl)) (mvT hZ (own_w hw 80 rfl)) (mvT hZ (own_w hw 87 rfl)) (by decide) (backOf (W := 0) (rm19 l Z a0 hw [] (d) ((0 : Int32)) (kd) (z1) (vs1) (c9) h0 n0 Z0 p_0 (by decide) hp0 hv he.m.i) hZ (own_w hw 87 rfl) (own_w hw 80 rfl) (by decide) (by decide)) (g := (mkF m 12 #[rv d, iv z1, iv (0 : Int32), .unset] [(.int (0 : Int32)), (.ref d)])) rfl (by rw [hml]; rfl) (argsL := [(.ref d), (.int (0 : Int32))]) (rest := []) (lenOf pd_3 rfl) rfl (by show 2 * 0 + _ ≤ _; exact Nat.le_of_eq rfl) (hb hby d18_12) (fun _ _ => ⟨rfl, e0, (by decide : 0 + 0 ≤ _), (by decide : 0 + 0 ≤ _)⟩)
  dsimp only [Pt.U, Pt.locs, Pt.cells, Pt.slots] at X2 l2 y2 z2 st2 hQ2
  subst l2 y2 z2
  obtain ⟨rfl, Nq2, eq2⟩ := hQ2
  have N2 := Fr.app N0 Nq2
  refine own_st st2 ?_
  show own_Goes _ _ _ _ _ _ _ T2 (mkF m 15 #[rv d, iv z1, iv (0 : Int32), .unset] [(.int c9)])
  refine own_st (fun _ kk_ => XS.istoreN X2.here hx rfl (hb hby d18_15) rfl (l' := #[rv d, iv z1, iv (0 : Int32), iv c9]) rfl (XS.iloadN X2.here hx rfl (hb hby d18_16) rfl (XS.bipush X2.here hx rfl (hb hby d18_17) (XS.icmpNo X2.here hx rfl (hb hby d18_19) rfl (XT.ii_eq_f (own_ne he (by decide))) (XS.iloadN X2.here hx rfl (hb hby d18_22) rfl (XS.bipush X2.here hx rfl (hb hby d18_23) (XS.icmpNo X2.here hx rfl (hb hby d18_25) rfl (XT.ii_eq_f (own_ne he (by decide))) kk_))))))) ?_
  show own_Goes _ _ _ _ _ _ _ T2 (mkF m 28 #[rv d, iv z1, iv (0 : Int32), iv c9] [])
  obtain ⟨T3, X3, e3, st3⟩ := getS2 X2 hx hZ hown (host := "") (Or.inl (own_w hw 88 rfl)) Via.refl eq2 p_1 (g := (mkF m 28 #[rv d, iv z1, iv (0 : Int32), iv c9] [])) rfl (hb hby d18_28)
  refine own_st st3 ?_
  show own_Goes _ _ _ _ _ _ _ T3 (mkF m 31 #[rv d, iv z1, iv (0 : Int32), iv c9] [(.ref ci)])
  refine own_st (fun _ kk_ => XS.iloadN X3.here hx rfl (hb hby d18_31) rfl kk_) ?_
  show own_Goes _ _ _ _ _ _ _ T3 (mkF m 32 #[rv d, iv z1, iv (0 : Int32), iv c9] [(.int c9), (.ref ci)])
  obtain ⟨cq4, kq4, q4a, q4b, q4c⟩ := isOf hZ e3 p_2
  obtain ⟨_, _, ⟨T4, L4, k4, n4⟩, -, X4, ⟨Lc4, hQ4, l4, y4, z4⟩, st4⟩ := X3.virtualBack hx (y := yy11) (z := yy11) hown (mvT hZ (own_w hw 90 rfl)) (mvT hZ (own_w hw 91 rfl)) (notFace_of_selects (args := #[]) (mvT hZ (own_w hw 93 rfl))) (mvT hZ (own_w hw 93 rfl)) (mvT hZ (own_w hw 92 rfl)) (by decide) (backOf (W := 0) (rm20 l Z a0 hw [] (ci) (c9) (ca) (ka) h0 n0 Z0 p_2 p_3 p_4 he) hZ (own_w hw 94 rfl) (own_w hw 89 rfl) (by decide) (by decide)) q4a q4c (g := (mkF m 32 #[rv d, iv z1, iv (0 : Int32), iv c9] [(.int c9), (.ref ci)])) rfl (by rw [hml]; rfl) (Steps.refl _) (argsL := [(.int c9)]) (rest := []) (lenOf pd_4 rfl) rfl (by show 2 * 0 + _ ≤ _; exact Nat.le_of_eq rfl) (hb hby d18_32) (fun _ _ => ⟨rfl, e3, (by decide : 0 + 0 ≤ _), (by decide : 0 + 0 ≤ _)⟩)
  dsimp only [Pt.U, Pt.locs, Pt.cells, Pt.slots] at X4 l4 y4 z4 st4 hQ4
  subst l4 y4 z4
  obtain ⟨rfl, Nq4, eq4⟩ := hQ4
  have N4 := Fr.app N2 Nq4
  refine own_st (fun _ kk_ => st4.trans kk_) ?_
  show own_Goes _ _ _ _ _ _ _ T4 (mkF m 35 #[rv d, iv z1, iv (0 : Int32), iv c9] [(.int (0 : Int32))])
  refine own_st (fun _ kk_ => XS.ifNo X4.here hx rfl (hb hby d18_35) rfl (XT.i0_ne_f (by decide)) (XS.goto X4.here hx rfl (pc0 := 38) (pc' := 47) rfl (hb hby d18_38) (by decide) (by decide) (XS.iloadN X4.here hx rfl (hb hby d18_47) rfl kk_))) ?_
  show own_Goes _ _ _ _ _ _ _ T4 (mkF m 48 #[rv d, iv z1, iv (0 : Int32), iv c9] [(.int (0 : Int32))])
  refine own_retI X4 hx hlk Bd.returns (hb hby d18_48) (by decide) (by decide) ?_
  show Q18 Z d kd z1 vs1 ci ca ka c9 h0 n0 (some (.int (0 : Int32))) T4.heap _
  rw [eq4]
  exact ⟨rfl, N4, rfl⟩
abbrev rRrm22 : Room := { frames := 2, cells := 0, slots := 0, locals := 29 }
theorem d22_0 : decode jdk_43_method_38_code 0 = .ok (.aload_n 0, 1) := by decide +kernel
theorem d22_1 : decode jdk_43_method_38_code 1 = .ok (.arraylength, 1) := by decide +kernel
theorem d22_2 : decode jdk_43_method_38_code 2 = .ok (.istore_n 1, 1) := by decide +kernel
theorem d22_3 : decode jdk_43_method_38_code 3 = .ok (.iload_n 1, 1) := by decide +kernel
theorem d22_4 : decode jdk_43_method_38_code 4 = .ok (.istore_n 2, 1) := by decide +kernel
theorem d22_5 : decode jdk_43_method_38_code 5 = .ok (.iconst 0, 1) := by decide +kernel
theorem d22_6 : decode jdk_43_method_38_code 6 = .ok (.iload_n 2, 1) := by decide +kernel
theorem d22_7 : decode jdk_43_method_38_code 7 = .ok (.if_icmp .ge 42, 3) := by decide +kernel
theorem d22_10 : decode jdk_43_method_38_code 10 = .ok (.aload_n 0, 1) := by decide +kernel
theorem d22_11 : decode jdk_43_method_38_code 11 = .ok (.iload_n 2, 1) := by decide +kernel
theorem d22_12 : decode jdk_43_method_38_code 12 = .ok (.iconst 1, 1) := by decide +kernel
theorem d22_13 : decode jdk_43_method_38_code 13 = .ok (.isub, 1) := by decide +kernel
theorem d22_14 : decode jdk_43_method_38_code 14 = .ok (.invokestatic 50, 3) := by decide +kernel
theorem d22_17 : decode jdk_43_method_38_code 17 = .ok (.istore_n 3, 1) := by decide +kernel
theorem d22_18 : decode jdk_43_method_38_code 18 = .ok (.iload_n 3, 1) := by decide +kernel
theorem d22_19 : decode jdk_43_method_38_code 19 = .ok (.bipush 32, 2) := by decide +kernel
theorem d22_21 : decode jdk_43_method_38_code 21 = .ok (.if_icmp .eq 22, 3) := by decide +kernel
theorem d22_24 : decode jdk_43_method_38_code 24 = .ok (.iload_n 3, 1) := by decide +kernel
theorem d22_25 : decode jdk_43_method_38_code 25 = .ok (.bipush 9, 2) := by decide +kernel
theorem d22_27 : decode jdk_43_method_38_code 27 = .ok (.if_icmp .eq 16, 3) := by decide +kernel
theorem d22_30 : decode jdk_43_method_38_code 30 = .ok (.getstatic 66, 3) := by decide +kernel
theorem d22_33 : decode jdk_43_method_38_code 33 = .ok (.iload_n 3, 1) := by decide +kernel
theorem d22_34 : decode jdk_43_method_38_code 34 = .ok (.invokevirtual 211, 3) := by decide +kernel
theorem d22_37 : decode jdk_43_method_38_code 37 = .ok (.ifCond .ne 6, 3) := by decide +kernel
theorem d22_40 : decode jdk_43_method_38_code 40 = .ok (.goto 9, 3) := by decide +kernel
theorem d22_49 : decode jdk_43_method_38_code 49 = .ok (.iload_n 2, 1) := by decide +kernel
theorem d22_50 : decode jdk_43_method_38_code 50 = .ok (.ireturn, 1) := by decide +kernel
theorem pn_rm22 : plainFor yy13 = true := by first | exact plainFor_of_name (by first | (simp [plainName, overriddenIn]; done) | decide +kernel) | decide +kernel
theorem ef_rm22 (m : MethodId) (d : Addr) : entryFrame m #[(.ref d)] 4 = (mkF m 0 #[rv d, .unset, .unset, .unset] []) := by first | (simp [entryFrame, mkF, argsToLocals, Value.category]; done) | rfl
def Q22 (Z : State) (d : Addr) (kd : ClassId) (z1 : Int32) (vs1 : List Value) (ci : Addr) (ca : Addr) (ka : ClassId) (c9 : Int32) (h0 : Heap) (n0 : Nat) (v_ : Option Value) (h_ : Heap) (L_ : List Loc) : Prop := (v_ = some (.int z1)) ∧ (Fr n0 L_) ∧ (h_ = h0)
set_option maxRecDepth 65536 in
set_option maxHeartbeats 40000000 in
theorem rm22 (l : Launch) (Z : State) (a0 : Array Value) (hw : ∀ d ∈ tables_1, d.before a0 Z = true) (ws : List Jvm.Cond) (d : Addr) (kd : ClassId) (z1 : Int32) (vs1 : List Value) (ci : Addr) (ca : Addr) (ka : ClassId) (c9 : Int32) (h0 : Heap) (n0 : Nat) (Z0 : n0 ≤ h0.size) (p_0 : Arv Z h0 d kd .byte z1 vs1 (.int (0 : Int32))) (p_1 : Sta Z h0 "java/lang/CharacterDataLatin1" "instance" "Ljava/lang/CharacterDataLatin1;" (.ref ci)) (p_2 : Exa Z h0 ci "java/lang/CharacterDataLatin1") (p_3 : Sta Z h0 "java/lang/CharacterDataLatin1" "A" "[I" (.ref ca)) (p_4 : Arv Z h0 ca ka .int (256 : Int32) own_A (.int (0 : Int32))) (hp0 : (0 : Int32) < z1) (hv : vs1.getD ((z1 - (1 : Int32))).toNatClampNeg (.int (0 : Int32)) = .int (own_by c9)) (he : own_ec c9) :
    MetFree l yy13 (head1 (Jvm.Cond.code yy13 jdk_43_method_38_code 4 (some .int) :: ws) rRrm22) (fun a_ U_ => a_ = #[(.ref d)] ∧ Z.Warmed39 U_.vm ∧ U_.heap = h0) (fun _ _ _ _ _ => True) (fun _ U_ o_ U1_ => ∃ v_ L_, o_ = .returned v_ ∧ Q22 Z d kd z1 vs1 ci ca ka c9 h0 n0 v_ U1_.heap L_ ∧ FrameEnd U_ o_ U1_ L_ rRrm22.cells rRrm22.slots) := by
  refine MetFree.of_bodySF pn_rm22 hisR ?_
  intro p e s m args below meth c s₁ Bd hml0 hP hK
  obtain ⟨rfl, hZ, hh⟩ := hP
  have hx := Bd.exec
  have hby := Bd.bytes
  have hlk : meth.locks = false := Bd.notSynchronized
  have hml : c.maxLocals = 4 := hml0
  have hown : s.vm.findClass "java/lang/StringLatin1" = some m.cls := findClass_of_methodNamed Bd.named
  have hnm := (name_of_methodNamed Bd.named Bd.method).1
  have X0 : Stand p l e rRrm22 s m #[(.ref d)] below meth c s₁ [] 0 0 := Stand.of_body Bd
  have e0 : s₁.heap = h0 := by rw [← hh, Bd.state]; rfl
  have N0 := Fr.nil n0
  show own_Goes p e below s (Q22 Z d kd z1 vs1 ci ca ka c9 h0 n0) rRrm22.cells rRrm22.slots s₁ (entryFrame m #[(.ref d)] 4)
  rw [ef_rm22 m d]
  show own_Goes p e below s (Q22 Z d kd z1 vs1 ci ca ka c9 h0 n0) rRrm22.cells rRrm22.slots s₁ (mkF m 0 #[rv d, .unset, .unset, .unset] [])
  refine own_st (fun _ kk_ => XS.aloadN X0.here hx rfl (hb hby d22_0) rfl rfl kk_) ?_
  show own_Goes _ _ _ _ _ _ _ s₁ (mkF m 1 #[rv d, .unset, .unset, .unset] [(.ref d)])
  obtain ⟨cl1, Ar1, -, Sz1, Nn1, -, -⟩ := id p_0
  refine own_st (fun _ kk_ => X0.arraylength hx (by rw [e0]; exact Ar1.1) (State.isArrayOf_alike hZ.alike Ar1.2.1) (g := (mkF m 1 #[rv d, .unset, .unset, .unset] [(.ref d)])) rfl rfl (hb hby d22_1) _ kk_) ?_
  rw [len_of Sz1 Nn1]
  show own_Goes _ _ _ _ _ _ _ s₁ (mkF m 2 #[rv d, .unset, .unset, .unset] [(.int z1)])
  refine own_st (fun _ kk_ => XS.istoreN X0.here hx rfl (hb hby d22_2) rfl (l' := #[rv d, iv z1, .unset, .unset]) rfl (XS.iloadN X0.here hx rfl (hb hby d22_3) rfl (XS.istoreN X0.here hx rfl (hb hby d22_4) rfl (l' := #[rv d, iv z1, iv z1, .unset]) rfl (XS.iconst X0.here hx rfl (hb hby d22_5) (XS.iloadN X0.here hx rfl (hb hby d22_6) rfl (XS.icmpNo X0.here hx rfl (hb hby d22_7) rfl (XT.ii_ge_f hp0) (XS.aloadN X0.here hx rfl (hb hby d22_10) rfl rfl (XS.iloadN X0.here hx rfl (hb hby d22_11) rfl (XS.iconst X0.here hx rfl (hb hby d22_12) (XS.isub X0.here hx rfl (hb hby d22_13) rfl kk_)))))))))) ?_
  show own_Goes _ _ _ _ _ _ _ s₁ (mkF m 14 #[rv d, iv z1, iv z1, .unset] [(.int (z1 - (1 : Int32))), (.ref d)])
  obtain ⟨_, _, ⟨T2, L2, k2, n2⟩, -, X2, ⟨Lc2, hQ2, l2, y2, z2⟩, st2⟩ := Jvm.LawKit.callS X0 hx (y := yy9) hown (mvT hZ (own_w hw 85 rfl)) (mvT hZ (own_w hw 86 rfl)) (mvT hZ (own_w hw 80 rfl)) (mvT hZ (own_w hw 87 rfl)) (by decide) (backOf (W := 0) (rm19 l Z a0 hw [] (d) ((z1 - (1 : Int32))) (kd) (z1) (vs1) (c9) h0 n0 Z0 p_0 (own_z1 hp0).1 (own_z1 hp0).2 hv he.m.i) hZ (own_w hw 87 rfl) (own_w hw 80 rfl) (by decide) (by decide)) (g := (mkF m 14 #[rv d, iv z1, iv z1, .unset] [(.int (z1 - (1 : Int32))), (.ref d)])) rfl (by rw [hml]; rfl) (argsL := [(.ref d), (.int (z1 - (1 : Int32)))]) (rest := []) (lenOf pd_3 rfl) rfl (by show 2 * 0 + _ ≤ _; exact Nat.le_of_eq rfl) (hb hby d22_14) (fun _ _ => ⟨rfl, e0, (by decide : 0 + 0 ≤ _), (by decide : 0 + 0 ≤ _)⟩)
  dsimp only [Pt.U, Pt.locs, Pt.cells, Pt.slots] at X2 l2 y2 z2 st2 hQ2
  subst l2 y2 z2
  obtain ⟨rfl, Nq2, eq2⟩ := hQ2
  have N2 := Fr.app N0 Nq2
  refine own_st st2 ?_
  show own_Goes _ _ _ _ _ _ _ T2 (mkF m 17 #[rv d, iv z1, iv z1, .unset] [(.int c9)])
  refine own_st (fun _ kk_ => XS.istoreN X2.here hx rfl (hb hby d22_17) rfl (l' := #[rv d, iv z1, iv z1, iv c9]) rfl (XS.iloadN X2.here hx rfl (hb hby d22_18) rfl (XS.bipush X2.here hx rfl (hb hby d22_19) (XS.icmpNo X2.here hx rfl (hb hby d22_21) rfl (XT.ii_eq_f (own_ne he (by decide))) (XS.iloadN X2.here hx rfl (hb hby d22_24) rfl (XS.bipush X2.here hx rfl (hb hby d22_25) (XS.icmpNo X2.here hx rfl (hb hby d22_27) rfl (XT.ii_eq_f (own_ne he (by decide))) kk_))))))) ?_
  show own_Goes _ _ _ _ _ _ _ T2 (mkF m 30 #[rv d, iv z1, iv z1, iv c9] [])
  obtain ⟨T3, X3, e3, st3⟩ := getS2 X2 hx hZ hown (host := "") (Or.inl (own_w hw 88 rfl)) Via.refl eq2 p_1 (g := (mkF m 30 #[rv d, iv z1, iv z1, iv c9] [])) rfl (hb hby d22_30)
  refine own_st st3 ?_
  show own_Goes _ _ _ _ _ _ _ T3 (mkF m 33 #[rv d, iv z1, iv z1, iv c9] [(.ref ci)])
  refine own_st (fun _ kk_ => XS.iloadN X3.here hx rfl (hb hby d22_33) rfl kk_) ?_
  show own_Goes _ _ _ _ _ _ _ T3 (mkF m 34 #[rv d, iv z1, iv z1, iv c9] [(.int c9), (.ref ci)])
  obtain ⟨cq4, kq4, q4a, q4b, q4c⟩ := isOf hZ e3 p_2
  obtain ⟨_, _, ⟨T4, L4, k4, n4⟩, -, X4, ⟨Lc4, hQ4, l4, y4, z4⟩, st4⟩ := X3.virtualBack hx (y := yy11) (z := yy11) hown (mvT hZ (own_w hw 90 rfl)) (mvT hZ (own_w hw 91 rfl)) (notFace_of_selects (args := #[]) (mvT hZ (own_w hw 93 rfl))) (mvT hZ (own_w hw 93 rfl)) (mvT hZ (own_w hw 92 rfl)) (by decide) (backOf (W := 0) (rm20 l Z a0 hw [] (ci) (c9) (ca) (ka) h0 n0 Z0 p_2 p_3 p_4 he) hZ (own_w hw 94 rfl) (own_w hw 89 rfl) (by decide) (by decide)) q4a q4c (g := (mkF m 34 #[rv d, iv z1, iv z1, iv c9] [(.int c9), (.ref ci)])) rfl (by rw [hml]; rfl) (Steps.refl _) (argsL := [(.int c9)]) (rest := []) (lenOf pd_4 rfl) rfl (by show 2 * 0 + _ ≤ _; exact Nat.le_of_eq rfl) (hb hby d22_34) (fun _ _ => ⟨rfl, e3, (by decide : 0 + 0 ≤ _), (by decide : 0 + 0 ≤ _)⟩)
  dsimp only [Pt.U, Pt.locs, Pt.cells, Pt.slots] at X4 l4 y4 z4 st4 hQ4
  subst l4 y4 z4
  obtain ⟨rfl, Nq4, eq4⟩ := hQ4
  have N4 := Fr.app N2 Nq4
  refine own_st (fun _ kk_ => st4.trans kk_) ?_
  show own_Goes _ _ _ _ _ _ _ T4 (mkF m 37 #[rv d, iv z1, iv z1, iv c9] [(.int (0 : Int32))])
  refine own_st (fun _ kk_ => XS.ifNo X4.here hx rfl (hb hby d22_37) rfl (XT.i0_ne_f (by decide)) (XS.goto X4.here hx rfl (pc0 := 40) (pc' := 49) rfl (hb hby d22_40) (by decide) (by decide) (XS.iloadN X4.here hx rfl (hb hby d22_49) rfl kk_))) ?_
  show own_Goes _ _ _ _ _ _ _ T4 (mkF m 50 #[rv d, iv z1, iv z1, iv c9] [(.int z1)])
  refine own_retI X4 hx hlk Bd.returns (hb hby d22_50) (by decide) (by decide) ?_
  show Q22 Z d kd z1 vs1 ci ca ka c9 h0 n0 (some (.int z1)) T4.heap _
  rw [eq4]
  exact ⟨rfl, N4, rfl⟩
abbrev rRrm17 : Room := { frames := 3, cells := 0, slots := 0, locals := 44 }
theorem d17_0 : decode jdk_43_method_39_code 0 = .ok (.aload_n 0, 1) := by decide +kernel
theorem d17_1 : decode jdk_43_method_39_code 1 = .ok (.invokestatic 214, 3) := by decide +kernel
theorem d17_4 : decode jdk_43_method_39_code 4 = .ok (.istore_n 1, 1) := by decide +kernel
theorem d17_5 : decode jdk_43_method_39_code 5 = .ok (.iload_n 1, 1) := by decide +kernel
theorem d17_6 : decode jdk_43_method_39_code 6 = .ok (.aload_n 0, 1) := by decide +kernel
theorem d17_7 : decode jdk_43_method_39_code 7 = .ok (.arraylength, 1) := by decide +kernel
theorem d17_8 : decode jdk_43_method_39_code 8 = .ok (.if_icmp .ne 6, 3) := by decide +kernel
theorem d17_14 : decode jdk_43_method_39_code 14 = .ok (.aload_n 0, 1) := by decide +kernel
theorem d17_15 : decode jdk_43_method_39_code 15 = .ok (.invokestatic 217, 3) := by decide +kernel
theorem d17_18 : decode jdk_43_method_39_code 18 = .ok (.istore_n 2, 1) := by decide +kernel
theorem d17_19 : decode jdk_43_method_39_code 19 = .ok (.iload_n 1, 1) := by decide +kernel
theorem d17_20 : decode jdk_43_method_39_code 20 = .ok (.ifCond .gt 9, 3) := by decide +kernel
theorem d17_23 : decode jdk_43_method_39_code 23 = .ok (.iload_n 2, 1) := by decide +kernel
theorem d17_24 : decode jdk_43_method_39_code 24 = .ok (.aload_n 0, 1) := by decide +kernel
theorem d17_25 : decode jdk_43_method_39_code 25 = .ok (.arraylength, 1) := by decide +kernel
theorem d17_26 : decode jdk_43_method_39_code 26 = .ok (.if_icmp .ge 7, 3) := by decide +kernel
theorem d17_33 : decode jdk_43_method_39_code 33 = .ok (.iconst 0, 1) := by decide +kernel
theorem d17_34 : decode jdk_43_method_39_code 34 = .ok (.istore_n 3, 1) := by decide +kernel
theorem d17_35 : decode jdk_43_method_39_code 35 = .ok (.iload_n 3, 1) := by decide +kernel
theorem d17_36 : decode jdk_43_method_39_code 36 = .ok (.ifCond .eq 14, 3) := by decide +kernel
theorem d17_50 : decode jdk_43_method_39_code 50 = .ok (.aconst_null, 1) := by decide +kernel
theorem d17_51 : decode jdk_43_method_39_code 51 = .ok (.areturn, 1) := by decide +kernel
theorem pd_5 : parseMethodDescriptor "([B)I" = some ⟨[(.array .byte)], some .int⟩ := by decide +kernel
theorem pn_rm17 : plainFor yy14 = true := by first | exact plainFor_of_name (by first | (simp [plainName, overriddenIn]; done) | decide +kernel) | decide +kernel
theorem ef_rm17 (m : MethodId) (d : Addr) : entryFrame m #[(.ref d)] 4 = (mkF m 0 #[rv d, .unset, .unset, .unset] []) := by first | (simp [entryFrame, mkF, argsToLocals, Value.category]; done) | rfl
def Q17 (Z : State) (d : Addr) (kd : ClassId) (z1 : Int32) (vs1 : List Value) (ci : Addr) (ca : Addr) (ka : ClassId) (c9 : Int32) (c8 : Int32) (h0 : Heap) (n0 : Nat) (v_ : Option Value) (h_ : Heap) (L_ : List Loc) : Prop := (v_ = some .null) ∧ (Fr n0 L_) ∧ (h_ = h0)
set_option maxRecDepth 65536 in
set_option maxHeartbeats 40000000 in
theorem rm17 (l : Launch) (Z : State) (a0 : Array Value) (hw : ∀ d ∈ tables_1, d.before a0 Z = true) (ws : List Jvm.Cond) (d : Addr) (kd : ClassId) (z1 : Int32) (vs1 : List Value) (ci : Addr) (ca : Addr) (ka : ClassId) (c9 : Int32) (c8 : Int32) (h0 : Heap) (n0 : Nat) (Z0 : n0 ≤ h0.size) (p_0 : Arv Z h0 d kd .byte z1 vs1 (.int (0 : Int32))) (p_1 : Sta Z h0 "java/lang/CharacterDataLatin1" "instance" "Ljava/lang/CharacterDataLatin1;" (.ref ci)) (p_2 : Exa Z h0 ci "java/lang/CharacterDataLatin1") (p_3 : Sta Z h0 "java/lang/CharacterDataLatin1" "A" "[I" (.ref ca)) (p_4 : Arv Z h0 ca ka .int (256 : Int32) own_A (.int (0 : Int32))) (hp0 : (0 : Int32) < z1) (hv0 : vs1.getD (0 : Int32).toNatClampNeg (.int (0 : Int32)) = .int (own_by c9)) (he0 : own_ec c9) (hv1 : vs1.getD (z1 - (1 : Int32)).toNatClampNeg (.int (0 : Int32)) = .int (own_by c8)) (he1 : own_ec c8) :
    MetFree l yy14 (head1 (Jvm.Cond.code yy14 jdk_43_method_39_code 4 (some (.object "java/lang/String")) :: ws) rRrm17) (fun a_ U_ => a_ = #[(.ref d)] ∧ Z.Warmed39 U_.vm ∧ U_.heap = h0) (fun _ _ _ _ _ => True) (fun _ U_ o_ U1_ => ∃ v_ L_, o_ = .returned v_ ∧ Q17 Z d kd z1 vs1 ci ca ka c9 c8 h0 n0 v_ U1_.heap L_ ∧ FrameEnd U_ o_ U1_ L_ rRrm17.cells rRrm17.slots) := by
  refine MetFree.of_bodySF pn_rm17 hisR ?_
  intro p e s m args below meth c s₁ Bd hml0 hP hK
  obtain ⟨rfl, hZ, hh⟩ := hP
  have hx := Bd.exec
  have hby := Bd.bytes
  have hlk : meth.locks = false := Bd.notSynchronized
  have hml : c.maxLocals = 4 := hml0
  have hown : s.vm.findClass "java/lang/StringLatin1" = some m.cls := findClass_of_methodNamed Bd.named
  have hnm := (name_of_methodNamed Bd.named Bd.method).1
  have X0 : Stand p l e rRrm17 s m #[(.ref d)] below meth c s₁ [] 0 0 := Stand.of_body Bd
  have e0 : s₁.heap = h0 := by rw [← hh, Bd.state]; rfl
  have N0 := Fr.nil n0
  show own_Goes p e below s (Q17 Z d kd z1 vs1 ci ca ka c9 c8 h0 n0) rRrm17.cells rRrm17.slots s₁ (entryFrame m #[(.ref d)] 4)
  rw [ef_rm17 m d]
  show own_Goes p e below s (Q17 Z d kd z1 vs1 ci ca ka c9 c8 h0 n0) rRrm17.cells rRrm17.slots s₁ (mkF m 0 #[rv d, .unset, .unset, .unset] [])
  refine own_st (fun _ kk_ => XS.aloadN X0.here hx rfl (hb hby d17_0) rfl rfl kk_) ?_
  show own_Goes _ _ _ _ _ _ _ s₁ (mkF m 1 #[rv d, .unset, .unset, .unset] [(.ref d)])
  obtain ⟨_, _, ⟨T1, L1, k1, n1⟩, -, X1, ⟨Lc1, hQ1, l1, y1, z1⟩, st1⟩ := Jvm.LawKit.callS X0 hx (y := yy12) hown (mvT hZ (own_w hw 82 rfl)) (mvT hZ (own_w hw 83 rfl)) (mvT hZ (own_w hw 80 rfl)) (mvT hZ (own_w hw 84 rfl)) (by decide) (backOf (W := 0) (rm18 l Z a0 hw [] (d) (kd) (z1) (vs1) (ci) (ca) (ka) (c9) h0 n0 Z0 p_0 p_1 p_2 p_3 p_4 hp0 hv0 he0) hZ (own_w hw 84 rfl) (own_w hw 80 rfl) (by decide) (by decide)) (g := (mkF m 1 #[rv d, .unset, .unset, .unset] [(.ref d)])) rfl (by rw [hml]; rfl) (argsL := [(.ref d)]) (rest := []) (lenOf pd_5 rfl) rfl (by show 2 * 0 + _ ≤ _; exact Nat.le_of_eq rfl) (hb hby d17_1) (fun _ _ => ⟨rfl, e0, (by decide : 0 + 0 ≤ _), (by decide : 0 + 0 ≤ _)⟩)
  dsimp only [Pt.U, Pt.locs, Pt.cells, Pt.slots] at X1 l1 y1 z1 st1 hQ1
  subst l1 y1 z1
  obtain ⟨rfl, Nq1, eq1⟩ := hQ1
  have N1 := Fr.app N0 Nq1
  refine own_st st1 ?_
  show own_Goes _ _ _ _ _ _ _ T1 (mkF m 4 #[rv d, .unset, .unset, .unset] [(.int (0 : Int32))])
  refine own_st (fun _ kk_ => XS.istoreN X1.here hx rfl (hb hby d17_4) rfl (l' := #[rv d, iv (0 : Int32), .unset, .unset]) rfl (XS.iloadN X1.here hx rfl (hb hby d17_5) rfl (XS.aloadN X1.here hx rfl (hb hby d17_6) rfl rfl kk_))) ?_
  show own_Goes _ _ _ _ _ _ _ T1 (mkF m 7 #[rv d, iv (0 : Int32), .unset, .unset] [(.ref d), (.int (0 : Int32))])
  obtain ⟨cl2, Ar2, -, Sz2, Nn2, -, -⟩ := id p_0
  refine own_st (fun _ kk_ => X1.arraylength hx (by rw [eq1]; exact Ar2.1) (State.isArrayOf_alike hZ.alike Ar2.2.1) (g := (mkF m 7 #[rv d, iv (0 : Int32), .unset, .unset] [(.ref d), (.int (0 : Int32))])) rfl rfl (hb hby d17_7) _ kk_) ?_
  rw [len_of Sz2 Nn2]
  show own_Goes _ _ _ _ _ _ _ T1 (mkF m 8 #[rv d, iv (0 : Int32), .unset, .unset] [(.int z1), (.int (0 : Int32))])
  refine own_st (fun _ kk_ => XS.icmpYes X1.here hx rfl (pc0 := 8) (pc' := 14) rfl (hb hby d17_8) rfl (XT.ii_ne_t (own_pz2 hp0)) (by decide) (by decide) (XS.aloadN X1.here hx rfl (hb hby d17_14) rfl rfl kk_)) ?_
  show own_Goes _ _ _ _ _ _ _ T1 (mkF m 15 #[rv d, iv (0 : Int32), .unset, .unset] [(.ref d)])
  obtain ⟨_, _, ⟨T3, L3, k3, n3⟩, -, X3, ⟨Lc3, hQ3, l3, y3, z3⟩, st3⟩ := Jvm.LawKit.callS X1 hx (y := yy13) hown (mvT hZ (own_w hw 101 rfl)) (mvT hZ (own_w hw 102 rfl)) (mvT hZ (own_w hw 80 rfl)) (mvT hZ (own_w hw 103 rfl)) (by decide) (backOf (W := 0) (rm22 l Z a0 hw [] (d) (kd) (z1) (vs1) (ci) (ca) (ka) (c8) h0 n0 Z0 p_0 p_1 p_2 p_3 p_4 hp0 hv1 he1) hZ (own_w hw 103 rfl) (own_w hw 80 rfl) (by decide) (by decide)) (g := (mkF m 15 #[rv d, iv (0 : Int32), .unset, .unset] [(.ref d)])) rfl (by rw [hml]; rfl) (argsL := [(.ref d)]) (rest := []) (lenOf pd_5 rfl) rfl (by show 2 * 0 + _ ≤ _; exact Nat.le_of_eq rfl) (hb hby d17_15) (fun _ _ => ⟨rfl, eq1, (by decide : 0 + 0 ≤ _), (by decide : 0 + 0 ≤ _)⟩)
  dsimp only [Pt.U, Pt.locs, Pt.cells, Pt.slots] at X3 l3 y3 z3 st3 hQ3
  subst l3 y3 z3
  obtain ⟨rfl, Nq3, eq3⟩ := hQ3
  have N3 := Fr.app N1 Nq3
  refine own_st st3 ?_
  show own_Goes _ _ _ _ _ _ _ T3 (mkF m 18 #[rv d, iv (0 : Int32), .unset, .unset] [(.int z1)])
  refine own_st (fun _ kk_ => XS.istoreN X3.here hx rfl (hb hby d17_18) rfl (l' := #[rv d, iv (0 : Int32), iv z1, .unset]) rfl (XS.iloadN X3.here hx rfl (hb hby d17_19) rfl (XS.ifNo X3.here hx rfl (hb hby d17_20) rfl (XT.i0_gt_f (by decide)) (XS.iloadN X3.here hx rfl (hb hby d17_23) rfl (XS.aloadN X3.here hx rfl (hb hby d17_24) rfl rfl kk_))))) ?_
  show own_Goes _ _ _ _ _ _ _ T3 (mkF m 25 #[rv d, iv (0 : Int32), iv z1, .unset] [(.ref d), (.int z1)])
  obtain ⟨cl4, Ar4, -, Sz4, Nn4, -, -⟩ := id p_0
  refine own_st (fun _ kk_ => X3.arraylength hx (by rw [eq3]; exact Ar4.1) (State.isArrayOf_alike hZ.alike Ar4.2.1) (g := (mkF m 25 #[rv d, iv (0 : Int32), iv z1, .unset] [(.ref d), (.int z1)])) rfl rfl (hb hby d17_25) _ kk_) ?_
  rw [len_of Sz4 Nn4]
  show own_Goes _ _ _ _ _ _ _ T3 (mkF m 26 #[rv d, iv (0 : Int32), iv z1, .unset] [(.int z1), (.int z1)])
  refine own_st (fun _ kk_ => XS.icmpYes X3.here hx rfl (pc0 := 26) (pc' := 33) rfl (hb hby d17_26) rfl (XT.ii_ge_t (own_irr z1)) (by decide) (by decide) (XS.iconst X3.here hx rfl (hb hby d17_33) (XS.istoreN X3.here hx rfl (hb hby d17_34) rfl (l' := #[rv d, iv (0 : Int32), iv z1, iv (0 : Int32)]) rfl (XS.iloadN X3.here hx rfl (hb hby d17_35) rfl (XS.ifYes X3.here hx rfl (pc0 := 36) (pc' := 50) rfl (hb hby d17_36) rfl (XT.i0_eq_t (by decide)) (by decide) (by decide) (XS.aconstNull X3.here hx rfl (hb hby d17_50) kk_)))))) ?_
  show own_Goes _ _ _ _ _ _ _ T3 (mkF m 51 #[rv d, iv (0 : Int32), iv z1, iv (0 : Int32)] [.null])
  refine own_retA X3 hx hlk rfl Bd.returns rfl (hb hby d17_51) (by decide) (by decide) ?_
  show Q17 Z d kd z1 vs1 ci ca ka c9 c8 h0 n0 (some .null) T3.heap _
  rw [eq3]
  exact ⟨rfl, N3, rfl⟩
abbrev rRrm15 : Room := { frames := 4, cells := 0, slots := 0, locals := 59 }
theorem d15_0 : decode jdk_42_method_114_code 0 = .ok (.aload_n 0, 1) := by decide +kernel
theorem d15_1 : decode jdk_42_method_114_code 1 = .ok (.invokevirtual 492, 3) := by decide +kernel
theorem d15_4 : decode jdk_42_method_114_code 4 = .ok (.ifCond .eq 13, 3) := by decide +kernel
theorem d15_7 : decode jdk_42_method_114_code 7 = .ok (.aload_n 0, 1) := by decide +kernel
theorem d15_8 : decode jdk_42_method_114_code 8 = .ok (.getfield 9, 3) := by decide +kernel
theorem d15_11 : decode jdk_42_method_114_code 11 = .ok (.invokestatic 864, 3) := by decide +kernel
theorem d15_14 : decode jdk_42_method_114_code 14 = .ok (.goto 10, 3) := by decide +kernel
theorem d15_24 : decode jdk_42_method_114_code 24 = .ok (.astore_n 1, 1) := by decide +kernel
theorem d15_25 : decode jdk_42_method_114_code 25 = .ok (.aload_n 1, 1) := by decide +kernel
theorem d15_26 : decode jdk_42_method_114_code 26 = .ok (.ifnonnull 7, 3) := by decide +kernel
theorem d15_29 : decode jdk_42_method_114_code 29 = .ok (.aload_n 0, 1) := by decide +kernel
theorem d15_30 : decode jdk_42_method_114_code 30 = .ok (.goto 4, 3) := by decide +kernel
theorem d15_34 : decode jdk_42_method_114_code 34 = .ok (.areturn, 1) := by decide +kernel
theorem pd_6 : parseMethodDescriptor "()Z" = some ⟨[], some .boolean⟩ := by decide +kernel
theorem pd_7 : parseMethodDescriptor "([B)Ljava/lang/String;" = some ⟨[(.array .byte)], some (.object "java/lang/String")⟩ := by decide +kernel
theorem pn_rm15 : plainFor yy15 = true := by first | exact plainFor_of_name (by first | (simp [plainName, overriddenIn]; done) | decide +kernel) | decide +kernel
theorem ef_rm15 (m : MethodId) (a : Addr) : entryFrame m #[(.ref a)] 2 = (mkF m 0 #[rv a, .unset] []) := by first | (simp [entryFrame, mkF, argsToLocals, Value.category]; done) | rfl
def Q15 (Z : State) (a : Addr) (d : Addr) (kd : ClassId) (z1 : Int32) (vs1 : List Value) (ci : Addr) (ca : Addr) (ka : ClassId) (c9 : Int32) (c8 : Int32) (cs : Int32) (h0 : Heap) (n0 : Nat) (v_ : Option Value) (h_ : Heap) (L_ : List Loc) : Prop := (v_ = some (.ref a)) ∧ (Fr n0 L_) ∧ (h_ = h0)
set_option maxRecDepth 65536 in
set_option maxHeartbeats 40000000 in
theorem rm15 (l : Launch) (Z : State) (a0 : Array Value) (hw : ∀ d ∈ tables_1, d.before a0 Z = true) (ws : List Jvm.Cond) (a : Addr) (d : Addr) (kd : ClassId) (z1 : Int32) (vs1 : List Value) (ci : Addr) (ca : Addr) (ka : ClassId) (c9 : Int32) (c8 : Int32) (cs : Int32) (h0 : Heap) (n0 : Nat) (Z0 : n0 ≤ h0.size) (p_0 : Exa Z h0 a "java/lang/String") (p_1 : Fld Z h0 a "java/lang/String" "coder" "B" (.int (0 : Int32))) (p_2 : Fld Z h0 a "java/lang/String" "value" "[B" (.ref d)) (p_3 : Arv Z h0 d kd .byte z1 vs1 (.int (0 : Int32))) (p_4 : Sta Z h0 "java/lang/CharacterDataLatin1" "instance" "Ljava/lang/CharacterDataLatin1;" (.ref ci)) (p_5 : Exa Z h0 ci "java/lang/CharacterDataLatin1") (p_6 : Sta Z h0 "java/lang/CharacterDataLatin1" "A" "[I" (.ref ca)) (p_7 : Arv Z h0 ca ka .int (256 : Int32) own_A (.int (0 : Int32))) (hp0 : (0 : Int32) < z1) (hv0 : vs1.getD (0 : Int32).toNatClampNeg (.int (0 : Int32)) = .int (own_by c9)) (he0 : own_ec c9) (hv1 : vs1.getD (z1 - (1 : Int32)).toNatClampNeg (.int (0 : Int32)) = .int (own_by c8)) (he1 : own_ec c8) (p_13 : Sta Z h0 "java/lang/String" "COMPACT_STRINGS" "Z" (.int cs)) (hcs : ¬ cs = (0 : Int32)) :
    MetFree l yy15 (head1 (Jvm.Cond.code yy15 jdk_42_method_114_code 2 (some (.object "java/lang/String")) :: ws) rRrm15) (fun a_ U_ => a_ = #[(.ref a)] ∧ Z.Warmed39 U_.vm ∧ U_.heap = h0) (fun _ _ _ _ _ => True) (fun _ U_ o_ U1_ => ∃ v_ L_, o_ = .returned v_ ∧ Q15 Z a d kd z1 vs1 ci ca ka c9 c8 cs h0 n0 v_ U1_.heap L_ ∧ FrameEnd U_ o_ U1_ L_ rRrm15.cells rRrm15.slots) := by
  refine MetFree.of_bodySF pn_rm15 hisR ?_
  intro p e s m args below meth c s₁ Bd hml0 hP hK
  obtain ⟨rfl, hZ, hh⟩ := hP
  have hx := Bd.exec
  have hby := Bd.bytes
  have hlk : meth.locks = false := Bd.notSynchronized
  have hml : c.maxLocals = 2 := hml0
  have hown : s.vm.findClass "java/lang/String" = some m.cls := findClass_of_methodNamed Bd.named
  have hnm := (name_of_methodNamed Bd.named Bd.method).1
  have X0 : Stand p l e rRrm15 s m #[(.ref a)] below meth c s₁ [] 0 0 := Stand.of_body Bd
  have e0 : s₁.heap = h0 := by rw [← hh, Bd.state]; rfl
  have N0 := Fr.nil n0
  show own_Goes p e below s (Q15 Z a d kd z1 vs1 ci ca ka c9 c8 cs h0 n0) rRrm15.cells rRrm15.slots s₁ (entryFrame m #[(.ref a)] 2)
  rw [ef_rm15 m a]
  show own_Goes p e below s (Q15 Z a d kd z1 vs1 ci ca ka c9 c8 cs h0 n0) rRrm15.cells rRrm15.slots s₁ (mkF m 0 #[rv a, .unset] [])
  refine own_st (fun _ kk_ => XS.aloadN X0.here hx rfl (hb hby d15_0) rfl rfl kk_) ?_
  show own_Goes _ _ _ _ _ _ _ s₁ (mkF m 1 #[rv a, .unset] [(.ref a)])
  obtain ⟨cq1, kq1, q1a, q1b, q1c⟩ := isOf hZ e0 p_0
  obtain ⟨_, _, ⟨T1, L1, k1, n1⟩, -, X1, ⟨Lc1, hQ1, l1, y1, z1⟩, st1⟩ := X0.virtualBack hx (y := yy5) (z := yy5) hown (mvT hZ (own_w hw 73 rfl)) (mvT hZ (own_w hw 74 rfl)) (notFace_of_selects (args := #[]) (mvT hZ (own_w hw 76 rfl))) (mvT hZ (own_w hw 76 rfl)) (mvT hZ (own_w hw 75 rfl)) (by decide) (backOf (W := 0) (rm16 l Z a0 hw [] (a) (cs) h0 n0 Z0 p_1 p_13 (by assumption)) hZ (own_w hw 77 rfl) (own_w hw 12 rfl) (by decide) (by decide)) q1a q1c (g := (mkF m 1 #[rv a, .unset] [(.ref a)])) rfl (by rw [hml]; rfl) (Steps.refl _) (argsL := []) (rest := []) (lenOf pd_6 rfl) rfl (by show 2 * 0 + _ ≤ _; exact Nat.le_of_eq rfl) (hb hby d15_1) (fun _ _ => ⟨rfl, e0, (by decide : 0 + 0 ≤ _), (by decide : 0 + 0 ≤ _)⟩)
  dsimp only [Pt.U, Pt.locs, Pt.cells, Pt.slots] at X1 l1 y1 z1 st1 hQ1
  subst l1 y1 z1
  obtain ⟨rfl, Nq1, eq1⟩ := hQ1
  have N1 := Fr.app N0 Nq1
  refine own_st (fun _ kk_ => st1.trans kk_) ?_
  show own_Goes _ _ _ _ _ _ _ T1 (mkF m 4 #[rv a, .unset] [(.int (1 : Int32))])
  refine own_st (fun _ kk_ => XS.ifNo X1.here hx rfl (hb hby d15_4) rfl (XT.i0_eq_f (by decide)) (XS.aloadN X1.here hx rfl (hb hby d15_7) rfl rfl kk_)) ?_
  show own_Goes _ _ _ _ _ _ _ T1 (mkF m 8 #[rv a, .unset] [(.ref a)])
  obtain ⟨T2, X2, e2, st2⟩ := getF X1 hx hZ hown (host := "") (Or.inl (own_w hw 38 rfl)) Via.refl eq1 p_2 (g := (mkF m 8 #[rv a, .unset] [(.ref a)])) rfl rfl (hb hby d15_8)
  refine own_st st2 ?_
  show own_Goes _ _ _ _ _ _ _ T2 (mkF m 11 #[rv a, .unset] [(.ref d)])
  obtain ⟨_, _, ⟨T3, L3, k3, n3⟩, -, X3, ⟨Lc3, hQ3, l3, y3, z3⟩, st3⟩ := Jvm.LawKit.callS X2 hx (y := yy14) hown (mvT hZ (own_w hw 78 rfl)) (mvT hZ (own_w hw 79 rfl)) (mvT hZ (own_w hw 80 rfl)) (mvT hZ (own_w hw 81 rfl)) (by decide) (backOf (W := 0) (rm17 l Z a0 hw [] (d) (kd) (z1) (vs1) (ci) (ca) (ka) (c9) (c8) h0 n0 Z0 p_3 p_4 p_5 p_6 p_7 hp0 hv0 he0 hv1 he1) hZ (own_w hw 81 rfl) (own_w hw 80 rfl) (by decide) (by decide)) (g := (mkF m 11 #[rv a, .unset] [(.ref d)])) rfl (by rw [hml]; rfl) (argsL := [(.ref d)]) (rest := []) (lenOf pd_7 rfl) rfl (by show 2 * 0 + _ ≤ _; exact Nat.le_of_eq rfl) (hb hby d15_11) (fun _ _ => ⟨rfl, e2, (by decide : 0 + 0 ≤ _), (by decide : 0 + 0 ≤ _)⟩)
  dsimp only [Pt.U, Pt.locs, Pt.cells, Pt.slots] at X3 l3 y3 z3 st3 hQ3
  subst l3 y3 z3
  obtain ⟨rfl, Nq3, eq3⟩ := hQ3
  have N3 := Fr.app N1 Nq3
  refine own_st st3 ?_
  show own_Goes _ _ _ _ _ _ _ T3 (mkF m 14 #[rv a, .unset] [.null])
  refine own_st (fun _ kk_ => XS.goto X3.here hx rfl (pc0 := 14) (pc' := 24) rfl (hb hby d15_14) (by decide) (by decide) (XS.astoreN X3.here hx rfl (hb hby d15_24) rfl rfl (l' := #[rv a, .val .null]) rfl (XS.aloadN X3.here hx rfl (hb hby d15_25) rfl rfl (XS.ifnonnullNo X3.here hx rfl (hb hby d15_26) rfl (XS.aloadN X3.here hx rfl (hb hby d15_29) rfl rfl (XS.goto X3.here hx rfl (pc0 := 30) (pc' := 34) rfl (hb hby d15_30) (by decide) (by decide) kk_)))))) ?_
  show own_Goes _ _ _ _ _ _ _ T3 (mkF m 34 #[rv a, .val .null] [(.ref a)])
  refine own_retA X3 hx hlk rfl Bd.returns rfl (hb hby d15_34) (by decide) (by decide) ?_
  show Q15 Z a d kd z1 vs1 ci ca ka c9 c8 cs h0 n0 (some (.ref a)) T3.heap _
  rw [eq3]
  exact ⟨rfl, N3, rfl⟩
abbrev rRrm23 : Room := { frames := 0, cells := 0, slots := 0, locals := 0 }
theorem d23_0 : decode jdk_42_method_66_code 0 = .ok (.aload_n 0, 1) := by decide +kernel
theorem d23_1 : decode jdk_42_method_66_code 1 = .ok (.aload_n 1, 1) := by decide +kernel
theorem d23_2 : decode jdk_42_method_66_code 2 = .ok (.if_acmp .ne 5, 3) := by decide +kernel
theorem d23_5 : decode jdk_42_method_66_code 5 = .ok (.iconst 1, 1) := by decide +kernel
theorem d23_6 : decode jdk_42_method_66_code 6 = .ok (.ireturn, 1) := by decide +kernel
theorem pn_rm23 : plainFor yy16 = true := by first | exact plainFor_of_name (by first | (simp [plainName, overriddenIn]; done) | decide +kernel) | decide +kernel
theorem ef_rm23 (m : MethodId) (a : Addr) : entryFrame m #[(.ref a), (.ref a)] 3 = (mkF m 0 #[rv a, rv a, .unset] []) := by first | (simp [entryFrame, mkF, argsToLocals, Value.category]; done) | rfl
def Q23 (Z : State) (a : Addr) (h0 : Heap) (n0 : Nat) (v_ : Option Value) (h_ : Heap) (L_ : List Loc) : Prop := (v_ = some (.int (1 : Int32))) ∧ (Fr n0 L_) ∧ (h_ = h0)
set_option maxRecDepth 65536 in
set_option maxHeartbeats 40000000 in
theorem rm23 (l : Launch) (Z : State) (a0 : Array Value) (hw : ∀ d ∈ tables_1, d.before a0 Z = true) (ws : List Jvm.Cond) (a : Addr) (h0 : Heap) (n0 : Nat) (Z0 : n0 ≤ h0.size) :
    MetFree l yy16 (head1 (Jvm.Cond.code yy16 jdk_42_method_66_code 3 (some .boolean) :: ws) rRrm23) (fun a_ U_ => a_ = #[(.ref a), (.ref a)] ∧ Z.Warmed39 U_.vm ∧ U_.heap = h0) (fun _ _ _ _ _ => True) (fun _ U_ o_ U1_ => ∃ v_ L_, o_ = .returned v_ ∧ Q23 Z a h0 n0 v_ U1_.heap L_ ∧ FrameEnd U_ o_ U1_ L_ rRrm23.cells rRrm23.slots) := by
  refine MetFree.of_bodySF pn_rm23 hisR ?_
  intro p e s m args below meth c s₁ Bd hml0 hP hK
  obtain ⟨rfl, hZ, hh⟩ := hP
  have hx := Bd.exec
  have hby := Bd.bytes
  have hlk : meth.locks = false := Bd.notSynchronized
  have hml : c.maxLocals = 3 := hml0
  have hown : s.vm.findClass "java/lang/String" = some m.cls := findClass_of_methodNamed Bd.named
  have hnm := (name_of_methodNamed Bd.named Bd.method).1
  have X0 : Stand p l e rRrm23 s m #[(.ref a), (.ref a)] below meth c s₁ [] 0 0 := Stand.of_body Bd
  have e0 : s₁.heap = h0 := by rw [← hh, Bd.state]; rfl
  have N0 := Fr.nil n0
  show own_Goes p e below s (Q23 Z a h0 n0) rRrm23.cells rRrm23.slots s₁ (entryFrame m #[(.ref a), (.ref a)] 3)
  rw [ef_rm23 m a]
  show own_Goes p e below s (Q23 Z a h0 n0) rRrm23.cells rRrm23.slots s₁ (mkF m 0 #[rv a, rv a, .unset] [])
  refine own_st (fun _ kk_ => XS.aloadN X0.here hx rfl (hb hby d23_0) rfl rfl (XS.aloadN X0.here hx rfl (hb hby d23_1) rfl rfl (XT.acmpNo X0.here hx rfl (hb hby d23_2) rfl rfl rfl (XT.aa_ne_f rfl) (XS.iconst X0.here hx rfl (hb hby d23_5) kk_)))) ?_
  show own_Goes _ _ _ _ _ _ _ s₁ (mkF m 6 #[rv a, rv a, .unset] [(.int (1 : Int32))])
  refine own_retN X0 hx hlk (t := .boolean) Bd.returns (by simp) (hb hby d23_6) (by decide) (by decide) ?_
  show Q23 Z a h0 n0 (some (.int (nar .boolean (1 : Int32)))) s₁.heap _
  rw [e0]
  exact ⟨rfl, N0, rfl⟩
theorem own_255b {c : Int32} (h : own_in c) : ¬ (255 : Int32) < c := by unfold own_in at h; simp only [Int32.lt_iff_toInt_lt, Int32.reduceToInt]; omega
abbrev rRrm29 : Room := { frames := 0, cells := 0, slots := 0, locals := 0 }
theorem d29_0 : decode jdk_43_method_4_code 0 = .ok (.iload_n 0, 1) := by decide +kernel
theorem d29_1 : decode jdk_43_method_4_code 1 = .ok (.ifCond .lt 14, 3) := by decide +kernel
theorem d29_4 : decode jdk_43_method_4_code 4 = .ok (.iload_n 0, 1) := by decide +kernel
theorem d29_5 : decode jdk_43_method_4_code 5 = .ok (.sipush 255, 3) := by decide +kernel
theorem d29_8 : decode jdk_43_method_4_code 8 = .ok (.if_icmp .gt 7, 3) := by decide +kernel
theorem d29_11 : decode jdk_43_method_4_code 11 = .ok (.iconst 1, 1) := by decide +kernel
theorem d29_12 : decode jdk_43_method_4_code 12 = .ok (.goto 4, 3) := by decide +kernel
theorem d29_16 : decode jdk_43_method_4_code 16 = .ok (.ireturn, 1) := by decide +kernel
theorem pn_rm29 : plainFor yy17 = true := by first | exact plainFor_of_name (by first | (simp [plainName, overriddenIn]; done) | decide +kernel) | decide +kernel
theorem ef_rm29 (m : MethodId) (k9 : Int32) : entryFrame m #[(.int k9)] 1 = (mkF m 0 #[iv k9] []) := by first | (simp [entryFrame, mkF, argsToLocals, Value.category]; done) | rfl
def Q29 (Z : State) (k9 : Int32) (h0 : Heap) (n0 : Nat) (v_ : Option Value) (h_ : Heap) (L_ : List Loc) : Prop := (v_ = some (.int (1 : Int32))) ∧ (Fr n0 L_) ∧ (h_ = h0)
set_option maxRecDepth 65536 in
set_option maxHeartbeats 40000000 in
theorem rm29 (l : Launch) (Z : State) (a0 : Array Value) (hw : ∀ d ∈ tables_1, d.before a0 Z = true) (ws : List Jvm.Cond) (k9 : Int32) (h0 : Heap) (n0 : Nat) (Z0 : n0 ≤ h0.size) (hk : own_in k9) :
    MetFree l yy17 (head1 (Jvm.Cond.code yy17 jdk_43_method_4_code 1 (some .boolean) :: ws) rRrm29) (fun a_ U_ => a_ = #[(.int k9)] ∧ Z.Warmed39 U_.vm ∧ U_.heap = h0) (fun _ _ _ _ _ => True) (fun _ U_ o_ U1_ => ∃ v_ L_, o_ = .returned v_ ∧ Q29 Z k9 h0 n0 v_ U1_.heap L_ ∧ FrameEnd U_ o_ U1_ L_ rRrm29.cells rRrm29.slots) := by
  refine MetFree.of_bodySF pn_rm29 hisR ?_
  intro p e s m args below meth c s₁ Bd hml0 hP hK
  obtain ⟨rfl, hZ, hh⟩ := hP
  have hx := Bd.exec
  have hby := Bd.bytes
  have hlk : meth.locks = false := Bd.notSynchronized
  have hml : c.maxLocals = 1 := hml0
  have hown : s.vm.findClass "java/lang/StringLatin1" = some m.cls := findClass_of_methodNamed Bd.named
  have hnm := (name_of_methodNamed Bd.named Bd.method).1
  have X0 : Stand p l e rRrm29 s m #[(.int k9)] below meth c s₁ [] 0 0 := Stand.of_body Bd
  have e0 : s₁.heap = h0 := by rw [← hh, Bd.state]; rfl
  have N0 := Fr.nil n0
  show own_Goes p e below s (Q29 Z k9 h0 n0) rRrm29.cells rRrm29.slots s₁ (entryFrame m #[(.int k9)] 1)
  rw [ef_rm29 m k9]
  show own_Goes p e below s (Q29 Z k9 h0 n0) rRrm29.cells rRrm29.slots s₁ (mkF m 0 #[iv k9] [])
  refine own_st (fun _ kk_ => XS.iloadN X0.here hx rfl (hb hby d29_0) rfl (XS.ifNo X0.here hx rfl (hb hby d29_1) rfl (XT.i0_lt_f (own_tc hk).2.1) (XS.iloadN X0.here hx rfl (hb hby d29_4) rfl (XS.sipush X0.here hx rfl (hb hby d29_5) (XS.icmpNo X0.here hx rfl (hb hby d29_8) rfl (XT.ii_gt_f (own_255b hk)) (XS.iconst X0.here hx rfl (hb hby d29_11) (XS.goto X0.here hx rfl (pc0 := 12) (pc' := 16) rfl (hb hby d29_12) (by decide) (by decide) kk_))))))) ?_
  show own_Goes _ _ _ _ _ _ _ s₁ (mkF m 16 #[iv k9] [(.int (1 : Int32))])
  refine own_retN X0 hx hlk (t := .boolean) Bd.returns (by simp) (hb hby d29_16) (by decide) (by decide) ?_
  show Q29 Z k9 h0 n0 (some (.int (nar .boolean (1 : Int32)))) s₁.heap _
  rw [e0]
  exact ⟨rfl, N0, rfl⟩
abbrev rRrm13 : Room := { frames := 0, cells := 0, slots := 0, locals := 0 }
theorem d13_0 : decode jdk_31_method_11_code 0 = .ok (.aload_n 0, 1) := by decide +kernel
theorem d13_1 : decode jdk_31_method_11_code 1 = .ok (.ifnonnull 12, 3) := by decide +kernel
theorem d13_13 : decode jdk_31_method_11_code 13 = .ok (.aload_n 0, 1) := by decide +kernel
theorem d13_14 : decode jdk_31_method_11_code 14 = .ok (.areturn, 1) := by decide +kernel
theorem pn_rm13 : plainFor yy18 = true := by first | exact plainFor_of_name (by first | (simp [plainName, overriddenIn]; done) | decide +kernel) | decide +kernel
theorem ef_rm13 (m : MethodId) (a : Addr) (nm : Addr) : entryFrame m #[(.ref a), (.ref nm)] 2 = (mkF m 0 #[rv a, rv nm] []) := by first | (simp [entryFrame, mkF, argsToLocals, Value.category]; done) | rfl
def Q13 (Z : State) (a : Addr) (nm : Addr) (h0 : Heap) (n0 : Nat) (v_ : Option Value) (h_ : Heap) (L_ : List Loc) : Prop := (v_ = some (.ref a)) ∧ (Fr n0 L_) ∧ (h_ = h0)
set_option maxRecDepth 65536 in
set_option maxHeartbeats 40000000 in
theorem rm13 (l : Launch) (Z : State) (a0 : Array Value) (hw : ∀ d ∈ tables_1, d.before a0 Z = true) (ws : List Jvm.Cond) (a : Addr) (nm : Addr) (h0 : Heap) (n0 : Nat) (Z0 : n0 ≤ h0.size) :
    MetFree l yy18 (head1 (Jvm.Cond.code yy18 jdk_31_method_11_code 2 (some (.object "java/lang/Object")) :: ws) rRrm13) (fun a_ U_ => a_ = #[(.ref a), (.ref nm)] ∧ Z.Warmed39 U_.vm ∧ U_.heap = h0) (fun _ _ _ _ _ => True) (fun _ U_ o_ U1_ => ∃ v_ L_, o_ = .returned v_ ∧ Q13 Z a nm h0 n0 v_ U1_.heap L_ ∧ FrameEnd U_ o_ U1_ L_ rRrm13.cells rRrm13.slots) := by
  refine MetFree.of_bodySF pn_rm13 hisR ?_
  intro p e s m args below meth c s₁ Bd hml0 hP hK
  obtain ⟨rfl, hZ, hh⟩ := hP
  have hx := Bd.exec
  have hby := Bd.bytes
  have hlk : meth.locks = false := Bd.notSynchronized
  have hml : c.maxLocals = 2 := hml0
  have hown : s.vm.findClass "java/util/Objects" = some m.cls := findClass_of_methodNamed Bd.named
  have hnm := (name_of_methodNamed Bd.named Bd.method).1
  have X0 : Stand p l e rRrm13 s m #[(.ref a), (.ref nm)] below meth c s₁ [] 0 0 := Stand.of_body Bd
  have e0 : s₁.heap = h0 := by rw [← hh, Bd.state]; rfl
  have N0 := Fr.nil n0
  show own_Goes p e below s (Q13 Z a nm h0 n0) rRrm13.cells rRrm13.slots s₁ (entryFrame m #[(.ref a), (.ref nm)] 2)
  rw [ef_rm13 m a nm]
  show own_Goes p e below s (Q13 Z a nm h0 n0) rRrm13.cells rRrm13.slots s₁ (mkF m 0 #[rv a, rv nm] [])
  refine own_st (fun _ kk_ => XS.aloadN X0.here hx rfl (hb hby d13_0) rfl rfl (XS.ifnonnullYes X0.here hx rfl (pc0 := 1) (pc' := 13) rfl (hb hby d13_1) rfl (by decide) (by decide) (XS.aloadN X0.here hx rfl (hb hby d13_13) rfl rfl kk_))) ?_
  show own_Goes _ _ _ _ _ _ _ s₁ (mkF m 14 #[rv a, rv nm] [(.ref a)])
  refine own_retA X0 hx hlk rfl Bd.returns rfl (hb hby d13_14) (by decide) (by decide) ?_
  show Q13 Z a nm h0 n0 (some (.ref a)) s₁.heap _
  rw [e0]
  exact ⟨rfl, N0, rfl⟩
theorem own_n44 {c : Int32} (h : own_mc c) : ¬ c = (44 : Int32) := by unfold own_mc at h; rw [← Int32.toInt_inj]; simp only [Int32.reduceToInt]; omega
theorem own_n61 {c : Int32} (h : own_mc c) : ¬ c = (61 : Int32) := by unfold own_mc at h; rw [← Int32.toInt_inj]; simp only [Int32.reduceToInt]; omega
abbrev rRrmIC1 : Room := { frames := 0, cells := 0, slots := 0, locals := 0 }
theorem d32_0 : decode jdk_43_method_23_code 0 = .ok (.iload_n 1, 1) := by decide +kernel
theorem d32_1 : decode jdk_43_method_23_code 1 = .ok (.i2b, 1) := by decide +kernel
theorem d32_2 : decode jdk_43_method_23_code 2 = .ok (.istore 4, 2) := by decide +kernel
theorem d32_4 : decode jdk_43_method_23_code 4 = .ok (.iload_n 2, 1) := by decide +kernel
theorem d32_5 : decode jdk_43_method_23_code 5 = .ok (.istore 5, 2) := by decide +kernel
theorem d32_7 : decode jdk_43_method_23_code 7 = .ok (.iload 5, 2) := by decide +kernel
theorem d32_9 : decode jdk_43_method_23_code 9 = .ok (.iload_n 3, 1) := by decide +kernel
theorem d32_10 : decode jdk_43_method_23_code 10 = .ok (.if_icmp .ge 21, 3) := by decide +kernel
theorem d32_13 : decode jdk_43_method_23_code 13 = .ok (.aload_n 0, 1) := by decide +kernel
theorem d32_14 : decode jdk_43_method_23_code 14 = .ok (.iload 5, 2) := by decide +kernel
theorem d32_16 : decode jdk_43_method_23_code 16 = .ok (.baload, 1) := by decide +kernel
theorem d32_17 : decode jdk_43_method_23_code 17 = .ok (.iload 4, 2) := by decide +kernel
theorem d32_19 : decode jdk_43_method_23_code 19 = .ok (.if_icmp .ne 6, 3) := by decide +kernel
theorem d32_25 : decode jdk_43_method_23_code 25 = .ok (.iinc 5 1, 3) := by decide +kernel
theorem d32_28 : decode jdk_43_method_23_code 28 = .ok (.goto (-21), 3) := by decide +kernel
theorem d32_31 : decode jdk_43_method_23_code 31 = .ok (.iconst (-1), 1) := by decide +kernel
theorem d32_32 : decode jdk_43_method_23_code 32 = .ok (.ireturn, 1) := by decide +kernel
theorem pn_rmIC1 : plainFor yy19 = true := by first | exact plainFor_of_name (by first | (simp [plainName, overriddenIn]; done) | decide +kernel) | decide +kernel
theorem ef_rmIC1 (m : MethodId) (d : Addr) (k9 : Int32) : entryFrame m #[(.ref d), (.int k9), (.int (0 : Int32)), (.int (1 : Int32))] 6 = (mkF m 0 #[rv d, iv k9, iv (0 : Int32), iv (1 : Int32), .unset, .unset] []) := by first | (simp [entryFrame, mkF, argsToLocals, Value.category]; done) | rfl
def QIC1 (Z : State) (d : Addr) (k9 : Int32) (kd : ClassId) (c0 : Int32) (h0 : Heap) (n0 : Nat) (v_ : Option Value) (h_ : Heap) (L_ : List Loc) : Prop := (v_ = some (.int (-1 : Int32))) ∧ (Fr n0 L_) ∧ (h_ = h0)
set_option maxRecDepth 65536 in
set_option maxHeartbeats 40000000 in
theorem rmIC1 (l : Launch) (Z : State) (a0 : Array Value) (hw : ∀ d ∈ tables_1, d.before a0 Z = true) (ws : List Jvm.Cond) (d : Addr) (k9 : Int32) (kd : ClassId) (c0 : Int32) (h0 : Heap) (n0 : Nat) (Z0 : n0 ≤ h0.size) (p_0 : Arv Z h0 d kd .byte (1 : Int32) [(.int (own_by c0))] (.int (0 : Int32))) (hk : own_in k9) (hi0 : own_in c0) (hn0 : ¬ c0 = k9) :
    MetFree l yy19 (head1 (Jvm.Cond.code yy19 jdk_43_method_23_code 6 (some .int) :: ws) rRrmIC1) (fun a_ U_ => a_ = #[(.ref d), (.int k9), (.int (0 : Int32)), (.int (1 : Int32))] ∧ Z.Warmed39 U_.vm ∧ U_.heap = h0) (fun _ _ _ _ _ => True) (fun _ U_ o_ U1_ => ∃ v_ L_, o_ = .returned v_ ∧ QIC1 Z d k9 kd c0 h0 n0 v_ U1_.heap L_ ∧ FrameEnd U_ o_ U1_ L_ rRrmIC1.cells rRrmIC1.slots) := by
  refine MetFree.of_bodySF pn_rmIC1 hisR ?_
  intro p e s m args below meth c s₁ Bd hml0 hP hK
  obtain ⟨rfl, hZ, hh⟩ := hP
  have hx := Bd.exec
  have hby := Bd.bytes
  have hlk : meth.locks = false := Bd.notSynchronized
  have hml : c.maxLocals = 6 := hml0
  have hown : s.vm.findClass "java/lang/StringLatin1" = some m.cls := findClass_of_methodNamed Bd.named
  have hnm := (name_of_methodNamed Bd.named Bd.method).1
  have X0 : Stand p l e rRrmIC1 s m #[(.ref d), (.int k9), (.int (0 : Int32)), (.int (1 : Int32))] below meth c s₁ [] 0 0 := Stand.of_body Bd
  have e0 : s₁.heap = h0 := by rw [← hh, Bd.state]; rfl
  have N0 := Fr.nil n0
  show own_Goes p e below s (QIC1 Z d k9 kd c0 h0 n0) rRrmIC1.cells rRrmIC1.slots s₁ (entryFrame m #[(.ref d), (.int k9), (.int (0 : Int32)), (.int (1 : Int32))] 6)
  rw [ef_rmIC1 m d k9]
  show own_Goes p e below s (QIC1 Z d k9 kd c0 h0 n0) rRrmIC1.cells rRrmIC1.slots s₁ (mkF m 0 #[rv d, iv k9, iv (0 : Int32), iv (1 : Int32), .unset, .unset] [])
  refine own_st (fun _ kk_ => XS.iloadN X0.here hx rfl (hb hby d32_0) rfl (XS.i2b X0.here hx rfl (hb hby d32_1) rfl (XS.istore X0.here hx rfl (hb hby d32_2) rfl (l' := #[rv d, iv k9, iv (0 : Int32), iv (1 : Int32), iv (k9.toInt8.toInt32), .unset]) rfl (XS.iloadN X0.here hx rfl (hb hby d32_4) rfl (XS.istore X0.here hx rfl (hb hby d32_5) rfl (l' := #[rv d, iv k9, iv (0 : Int32), iv (1 : Int32), iv (k9.toInt8.toInt32), iv (0 : Int32)]) rfl (XS.iload X0.here hx rfl (hb hby d32_7) rfl (XS.iloadN X0.here hx rfl (hb hby d32_9) rfl (XS.icmpNo X0.here hx rfl (hb hby d32_10) rfl (XT.ii_ge_f (by decide)) (XS.aloadN X0.here hx rfl (hb hby d32_13) rfl rfl (XS.iload X0.here hx rfl (hb hby d32_14) rfl kk_)))))))))) ?_
  show own_Goes _ _ _ _ _ _ _ s₁ (mkF m 16 #[rv d, iv k9, iv (0 : Int32), iv (1 : Int32), iv (k9.toInt8.toInt32), iv (0 : Int32)] [(.int (0 : Int32)), (.ref d)])
  obtain ⟨cl1, Ar1, q1, Sz1, Nn1, Hh1, Gg1⟩ := id p_0
  refine own_st (fun _ kk_ => X0.baloadBytes hx (j := (0 : Int32)) (v := (.int (own_by c0))) (by rw [e0]; exact Ar1.1) (State.isArrayOf_alike hZ.alike Ar1.2.1) Ar1.2.2 (inb_of Sz1 ⟨by decide, by decide⟩) (Hh1.at (inb_of Sz1 ⟨by decide, by decide⟩) rfl) (g := (mkF m 16 #[rv d, iv k9, iv (0 : Int32), iv (1 : Int32), iv (k9.toInt8.toInt32), iv (0 : Int32)] [(.int (0 : Int32)), (.ref d)])) rfl rfl (hb hby d32_16) _ kk_) ?_
  show own_Goes _ _ _ _ _ _ _ s₁ (mkF m 17 #[rv d, iv k9, iv (0 : Int32), iv (1 : Int32), iv (k9.toInt8.toInt32), iv (0 : Int32)] [(.int (own_by c0))])
  refine own_st (fun _ kk_ => XS.iload X0.here hx rfl (hb hby d32_17) rfl (XS.icmpYes X0.here hx rfl (pc0 := 19) (pc' := 25) rfl (hb hby d32_19) rfl (XT.ii_ne_t (own_nbi hi0 hk hn0)) (by decide) (by decide) (XS.iinc X0.here hx rfl (hb hby d32_25) rfl (l' := #[rv d, iv k9, iv (0 : Int32), iv (1 : Int32), iv (k9.toInt8.toInt32), iv (1 : Int32)]) rfl (XS.goto X0.here hx rfl (pc0 := 28) (pc' := 7) rfl (hb hby d32_28) (by decide) (by decide) (XS.iload X0.here hx rfl (hb hby d32_7) rfl (XS.iloadN X0.here hx rfl (hb hby d32_9) rfl (XS.icmpYes X0.here hx rfl (pc0 := 10) (pc' := 31) rfl (hb hby d32_10) rfl (XT.ii_ge_t (by decide)) (by decide) (by decide) (XS.iconst X0.here hx rfl (hb hby d32_31) kk_)))))))) ?_
  show own_Goes _ _ _ _ _ _ _ s₁ (mkF m 32 #[rv d, iv k9, iv (0 : Int32), iv (1 : Int32), iv (k9.toInt8.toInt32), iv (1 : Int32)] [(.int (-1 : Int32))])
  refine own_retI X0 hx hlk Bd.returns (hb hby d32_32) (by decide) (by decide) ?_
  show QIC1 Z d k9 kd c0 h0 n0 (some (.int (-1 : Int32))) s₁.heap _
  rw [e0]
  exact ⟨rfl, N0, rfl⟩
abbrev rRrmIX1 : Room := { frames := 1, cells := 0, slots := 0, locals := 17 }
theorem d28_0 : decode jdk_43_method_22_code 0 = .ok (.iload_n 1, 1) := by decide +kernel
theorem d28_1 : decode jdk_43_method_22_code 1 = .ok (.invokestatic 88, 3) := by decide +kernel
theorem d28_4 : decode jdk_43_method_22_code 4 = .ok (.ifCond .ne 5, 3) := by decide +kernel
theorem d28_9 : decode jdk_43_method_22_code 9 = .ok (.iload_n 2, 1) := by decide +kernel
theorem d28_10 : decode jdk_43_method_22_code 10 = .ok (.iconst 0, 1) := by decide +kernel
theorem d28_11 : decode jdk_43_method_22_code 11 = .ok (.invokestatic 92, 3) := by decide +kernel
theorem d28_14 : decode jdk_43_method_22_code 14 = .ok (.istore_n 2, 1) := by decide +kernel
theorem d28_15 : decode jdk_43_method_22_code 15 = .ok (.iload_n 3, 1) := by decide +kernel
theorem d28_16 : decode jdk_43_method_22_code 16 = .ok (.aload_n 0, 1) := by decide +kernel
theorem d28_17 : decode jdk_43_method_22_code 17 = .ok (.arraylength, 1) := by decide +kernel
theorem d28_18 : decode jdk_43_method_22_code 18 = .ok (.invokestatic 38, 3) := by decide +kernel
theorem d28_21 : decode jdk_43_method_22_code 21 = .ok (.istore_n 3, 1) := by decide +kernel
theorem d28_22 : decode jdk_43_method_22_code 22 = .ok (.iload_n 2, 1) := by decide +kernel
theorem d28_23 : decode jdk_43_method_22_code 23 = .ok (.iload_n 3, 1) := by decide +kernel
theorem d28_24 : decode jdk_43_method_22_code 24 = .ok (.if_icmp .lt 5, 3) := by decide +kernel
theorem d28_29 : decode jdk_43_method_22_code 29 = .ok (.aload_n 0, 1) := by decide +kernel
theorem d28_30 : decode jdk_43_method_22_code 30 = .ok (.iload_n 1, 1) := by decide +kernel
theorem d28_31 : decode jdk_43_method_22_code 31 = .ok (.iload_n 2, 1) := by decide +kernel
theorem d28_32 : decode jdk_43_method_22_code 32 = .ok (.iload_n 3, 1) := by decide +kernel
theorem d28_33 : decode jdk_43_method_22_code 33 = .ok (.invokestatic 95, 3) := by decide +kernel
theorem d28_36 : decode jdk_43_method_22_code 36 = .ok (.ireturn, 1) := by decide +kernel
theorem pd_8 : parseMethodDescriptor "(II)I" = some ⟨[.int, .int], some .int⟩ := by decide +kernel
theorem pd_9 : parseMethodDescriptor "([BIII)I" = some ⟨[(.array .byte), .int, .int, .int], some .int⟩ := by decide +kernel
theorem pn_rmIX1 : plainFor yy20 = true := by first | exact plainFor_of_name (by first | (simp [plainName, overriddenIn]; done) | decide +kernel) | decide +kernel
theorem ef_rmIX1 (m : MethodId) (d : Addr) (k9 : Int32) : entryFrame m #[(.ref d), (.int k9), (.int (0 : Int32)), (.int (1 : Int32))] 4 = (mkF m 0 #[rv d, iv k9, iv (0 : Int32), iv (1 : Int32)] []) := by first | (simp [entryFrame, mkF, argsToLocals, Value.category]; done) | rfl
def QIX1 (Z : State) (d : Addr) (k9 : Int32) (kd : ClassId) (c0 : Int32) (h0 : Heap) (n0 : Nat) (v_ : Option Value) (h_ : Heap) (L_ : List Loc) : Prop := (v_ = some (.int (-1 : Int32))) ∧ (Fr n0 L_) ∧ (h_ = h0)
set_option maxRecDepth 65536 in
set_option maxHeartbeats 40000000 in
theorem rmIX1 (l : Launch) (Z : State) (a0 : Array Value) (hw : ∀ d ∈ tables_1, d.before a0 Z = true) (ws : List Jvm.Cond) (d : Addr) (k9 : Int32) (kd : ClassId) (c0 : Int32) (h0 : Heap) (n0 : Nat) (Z0 : n0 ≤ h0.size) (p_0 : Arv Z h0 d kd .byte (1 : Int32) [(.int (own_by c0))] (.int (0 : Int32))) (hk : own_in k9) (hi0 : own_in c0) (hn0 : ¬ c0 = k9) :
    MetFree l yy20 (head1 (Jvm.Cond.code yy20 jdk_43_method_22_code 4 (some .int) :: ws) rRrmIX1) (fun a_ U_ => a_ = #[(.ref d), (.int k9), (.int (0 : Int32)), (.int (1 : Int32))] ∧ Z.Warmed39 U_.vm ∧ U_.heap = h0) (fun _ _ _ _ _ => True) (fun _ U_ o_ U1_ => ∃ v_ L_, o_ = .returned v_ ∧ QIX1 Z d k9 kd c0 h0 n0 v_ U1_.heap L_ ∧ FrameEnd U_ o_ U1_ L_ rRrmIX1.cells rRrmIX1.slots) := by
  refine MetFree.of_bodySF pn_rmIX1 hisR ?_
  intro p e s m args below meth c s₁ Bd hml0 hP hK
  obtain ⟨rfl, hZ, hh⟩ := hP
  have hx := Bd.exec
  have hby := Bd.bytes
  have hlk : meth.locks = false := Bd.notSynchronized
  have hml : c.maxLocals = 4 := hml0
  have hown : s.vm.findClass "java/lang/StringLatin1" = some m.cls := findClass_of_methodNamed Bd.named
  have hnm := (name_of_methodNamed Bd.named Bd.method).1
  have X0 : Stand p l e rRrmIX1 s m #[(.ref d), (.int k9), (.int (0 : Int32)), (.int (1 : Int32))] below meth c s₁ [] 0 0 := Stand.of_body Bd
  have e0 : s₁.heap = h0 := by rw [← hh, Bd.state]; rfl
  have N0 := Fr.nil n0
  show own_Goes p e below s (QIX1 Z d k9 kd c0 h0 n0) rRrmIX1.cells rRrmIX1.slots s₁ (entryFrame m #[(.ref d), (.int k9), (.int (0 : Int32)), (.int (1 : Int32))] 4)
  rw [ef_rmIX1 m d k9]
  show own_Goes p e below s (QIX1 Z d k9 kd c0 h0 n0) rRrmIX1.cells rRrmIX1.slots s₁ (mkF m 0 #[rv d, iv k9, iv (0 : Int32), iv (1 : Int32)] [])
  refine own_st (fun _ kk_ => XS.iloadN X0.here hx rfl (hb hby d28_0) rfl kk_) ?_
  show own_Goes _ _ _ _ _ _ _ s₁ (mkF m 1 #[rv d, iv k9, iv (0 : Int32), iv (1 : Int32)] [(.int k9)])
  obtain ⟨_, _, ⟨T1, L1, k1, n1⟩, -, X1, ⟨Lc1, hQ1, l1, y1, z1⟩, st1⟩ := Jvm.LawKit.callS X0 hx (y := yy17) hown (mvT hZ (own_w hw 132 rfl)) (mvT hZ (own_w hw 133 rfl)) (mvT hZ (own_w hw 80 rfl)) (mvT hZ (own_w hw 134 rfl)) (by decide) (backOf (W := 0) (rm29 l Z a0 hw [] (k9) h0 n0 Z0 hk) hZ (own_w hw 134 rfl) (own_w hw 80 rfl) (by decide) (by decide)) (g := (mkF m 1 #[rv d, iv k9, iv (0 : Int32), iv (1 : Int32)] [(.int k9)])) rfl (by rw [hml]; rfl) (argsL := [(.int k9)]) (rest := []) (lenOf pd_4 rfl) rfl (by show 2 * 0 + _ ≤ _; exact Nat.le_of_eq rfl) (hb hby d28_1) (fun _ _ => ⟨rfl, e0, (by decide : 0 + 0 ≤ _), (by decide : 0 + 0 ≤ _)⟩)
  dsimp only [Pt.U, Pt.locs, Pt.cells, Pt.slots] at X1 l1 y1 z1 st1 hQ1
  subst l1 y1 z1
  obtain ⟨rfl, Nq1, eq1⟩ := hQ1
  have N1 := Fr.app N0 Nq1
  refine own_st st1 ?_
  show own_Goes _ _ _ _ _ _ _ T1 (mkF m 4 #[rv d, iv k9, iv (0 : Int32), iv (1 : Int32)] [(.int (1 : Int32))])
  refine own_st (fun _ kk_ => XS.ifYes X1.here hx rfl (pc0 := 4) (pc' := 9) rfl (hb hby d28_4) rfl (XT.i0_ne_t (by decide)) (by decide) (by decide) (XS.iloadN X1.here hx rfl (hb hby d28_9) rfl (XS.iconst X1.here hx rfl (hb hby d28_10) kk_))) ?_
  show own_Goes _ _ _ _ _ _ _ T1 (mkF m 11 #[rv d, iv k9, iv (0 : Int32), iv (1 : Int32)] [(.int (0 : Int32)), (.int (0 : Int32))])
  obtain ⟨_, _, ⟨T2, L2, k2, n2⟩, -, X2, ⟨Lc2, hQ2, l2, y2, z2⟩, st2⟩ := Jvm.LawKit.callS X1 hx (y := yy7) hown (mvT hZ (own_w hw 135 rfl)) (mvT hZ (own_w hw 136 rfl)) (mvT hZ (own_w hw 137 rfl)) (mvT hZ (own_w hw 138 rfl)) (by decide) (backOf (W := 0) (rmxA l Z a0 hw [] ((0 : Int32)) ((0 : Int32)) h0 n0 Z0 (by decide)) hZ (own_w hw 138 rfl) (own_w hw 137 rfl) (by decide) (by decide)) (g := (mkF m 11 #[rv d, iv k9, iv (0 : Int32), iv (1 : Int32)] [(.int (0 : Int32)), (.int (0 : Int32))])) rfl (by rw [hml]; rfl) (argsL := [(.int (0 : Int32)), (.int (0 : Int32))]) (rest := []) (lenOf pd_8 rfl) rfl (by show 2 * 0 + _ ≤ _; exact Nat.le_of_eq rfl) (hb hby d28_11) (fun _ _ => ⟨rfl, eq1, (by decide : 0 + 0 ≤ _), (by decide : 0 + 0 ≤ _)⟩)
  dsimp only [Pt.U, Pt.locs, Pt.cells, Pt.slots] at X2 l2 y2 z2 st2 hQ2
  subst l2 y2 z2
  obtain ⟨rfl, Nq2, eq2⟩ := hQ2
  have N2 := Fr.app N1 Nq2
  refine own_st st2 ?_
  show own_Goes _ _ _ _ _ _ _ T2 (mkF m 14 #[rv d, iv k9, iv (0 : Int32), iv (1 : Int32)] [(.int (0 : Int32))])
  refine own_st (fun _ kk_ => XS.istoreN X2.here hx rfl (hb hby d28_14) rfl (l' := #[rv d, iv k9, iv (0 : Int32), iv (1 : Int32)]) rfl (XS.iloadN X2.here hx rfl (hb hby d28_15) rfl (XS.aloadN X2.here hx rfl (hb hby d28_16) rfl rfl kk_))) ?_
  show own_Goes _ _ _ _ _ _ _ T2 (mkF m 17 #[rv d, iv k9, iv (0 : Int32), iv (1 : Int32)] [(.ref d), (.int (1 : Int32))])
  obtain ⟨cl3, Ar3, -, Sz3, Nn3, -, -⟩ := id p_0
  refine own_st (fun _ kk_ => X2.arraylength hx (by rw [eq2]; exact Ar3.1) (State.isArrayOf_alike hZ.alike Ar3.2.1) (g := (mkF m 17 #[rv d, iv k9, iv (0 : Int32), iv (1 : Int32)] [(.ref d), (.int (1 : Int32))])) rfl rfl (hb hby d28_17) _ kk_) ?_
  rw [len_of Sz3 Nn3]
  show own_Goes _ _ _ _ _ _ _ T2 (mkF m 18 #[rv d, iv k9, iv (0 : Int32), iv (1 : Int32)] [(.int (1 : Int32)), (.int (1 : Int32))])
  obtain ⟨_, _, ⟨T4, L4, k4, n4⟩, -, X4, ⟨Lc4, hQ4, l4, y4, z4⟩, st4⟩ := Jvm.LawKit.callS X2 hx (y := yy8) hown (mvT hZ (own_w hw 139 rfl)) (mvT hZ (own_w hw 140 rfl)) (mvT hZ (own_w hw 137 rfl)) (mvT hZ (own_w hw 141 rfl)) (by decide) (backOf (W := 0) (rmnA l Z a0 hw [] ((1 : Int32)) ((1 : Int32)) h0 n0 Z0 (by decide)) hZ (own_w hw 141 rfl) (own_w hw 137 rfl) (by decide) (by decide)) (g := (mkF m 18 #[rv d, iv k9, iv (0 : Int32), iv (1 : Int32)] [(.int (1 : Int32)), (.int (1 : Int32))])) rfl (by rw [hml]; rfl) (argsL := [(.int (1 : Int32)), (.int (1 : Int32))]) (rest := []) (lenOf pd_8 rfl) rfl (by show 2 * 0 + _ ≤ _; exact Nat.le_of_eq rfl) (hb hby d28_18) (fun _ _ => ⟨rfl, eq2, (by decide : 0 + 0 ≤ _), (by decide : 0 + 0 ≤ _)⟩)
  dsimp only [Pt.U, Pt.locs, Pt.cells, Pt.slots] at X4 l4 y4 z4 st4 hQ4
  subst l4 y4 z4
  obtain ⟨rfl, Nq4, eq4⟩ := hQ4
  have N4 := Fr.app N2 Nq4
  refine own_st st4 ?_
  show own_Goes _ _ _ _ _ _ _ T4 (mkF m 21 #[rv d, iv k9, iv (0 : Int32), iv (1 : Int32)] [(.int (1 : Int32))])
  refine own_st (fun _ kk_ => XS.istoreN X4.here hx rfl (hb hby d28_21) rfl (l' := #[rv d, iv k9, iv (0 : Int32), iv (1 : Int32)]) rfl (XS.iloadN X4.here hx rfl (hb hby d28_22) rfl (XS.iloadN X4.here hx rfl (hb hby d28_23) rfl (XS.icmpYes X4.here hx rfl (pc0 := 24) (pc' := 29) rfl (hb hby d28_24) rfl (XT.ii_lt_t (by decide)) (by decide) (by decide) (XS.aloadN X4.here hx rfl (hb hby d28_29) rfl rfl (XS.iloadN X4.here hx rfl (hb hby d28_30) rfl (XS.iloadN X4.here hx rfl (hb hby d28_31) rfl (XS.iloadN X4.here hx rfl (hb hby d28_32) rfl kk_)))))))) ?_
  show own_Goes _ _ _ _ _ _ _ T4 (mkF m 33 #[rv d, iv k9, iv (0 : Int32), iv (1 : Int32)] [(.int (1 : Int32)), (.int (0 : Int32)), (.int k9), (.ref d)])
  obtain ⟨_, _, ⟨T5, L5, k5, n5⟩, -, X5, ⟨Lc5, hQ5, l5, y5, z5⟩, st5⟩ := Jvm.LawKit.callS X4 hx (y := yy19) hown (mvT hZ (own_w hw 142 rfl)) (mvT hZ (own_w hw 143 rfl)) (mvT hZ (own_w hw 80 rfl)) (mvT hZ (own_w hw 144 rfl)) (by decide) (backOf (W := 0) (rmIC1 l Z a0 hw [] (d) (k9) (kd) (c0) h0 n0 Z0 p_0 hk hi0 hn0) hZ (own_w hw 144 rfl) (own_w hw 80 rfl) (by decide) (by decide)) (g := (mkF m 33 #[rv d, iv k9, iv (0 : Int32), iv (1 : Int32)] [(.int (1 : Int32)), (.int (0 : Int32)), (.int k9), (.ref d)])) rfl (by rw [hml]; rfl) (argsL := [(.ref d), (.int k9), (.int (0 : Int32)), (.int (1 : Int32))]) (rest := []) (lenOf pd_9 rfl) rfl (by show 2 * 0 + _ ≤ _; exact Nat.le_of_eq rfl) (hb hby d28_33) (fun _ _ => ⟨rfl, eq4, (by decide : 0 + 0 ≤ _), (by decide : 0 + 0 ≤ _)⟩)
  dsimp only [Pt.U, Pt.locs, Pt.cells, Pt.slots] at X5 l5 y5 z5 st5 hQ5
  subst l5 y5 z5
  obtain ⟨rfl, Nq5, eq5⟩ := hQ5
  have N5 := Fr.app N4 Nq5
  refine own_st st5 ?_
  show own_Goes _ _ _ _ _ _ _ T5 (mkF m 36 #[rv d, iv k9, iv (0 : Int32), iv (1 : Int32)] [(.int (-1 : Int32))])
  refine own_retI X5 hx hlk Bd.returns (hb hby d28_36) (by decide) (by decide) ?_
  show QIX1 Z d k9 kd c0 h0 n0 (some (.int (-1 : Int32))) T5.heap _
  rw [eq5]
  exact ⟨rfl, N5, rfl⟩
abbrev rRrmI21 : Room := { frames := 2, cells := 0, slots := 0, locals := 32 }
theorem d25_0 : decode jdk_42_method_80_code 0 = .ok (.aload_n 0, 1) := by decide +kernel
theorem d25_1 : decode jdk_42_method_80_code 1 = .ok (.invokevirtual 492, 3) := by decide +kernel
theorem d25_4 : decode jdk_42_method_80_code 4 = .ok (.ifCond .eq 19, 3) := by decide +kernel
theorem d25_7 : decode jdk_42_method_80_code 7 = .ok (.aload_n 0, 1) := by decide +kernel
theorem d25_8 : decode jdk_42_method_80_code 8 = .ok (.getfield 9, 3) := by decide +kernel
theorem d25_11 : decode jdk_42_method_80_code 11 = .ok (.iload_n 1, 1) := by decide +kernel
theorem d25_12 : decode jdk_42_method_80_code 12 = .ok (.iload_n 2, 1) := by decide +kernel
theorem d25_13 : decode jdk_42_method_80_code 13 = .ok (.aload_n 0, 1) := by decide +kernel
theorem d25_14 : decode jdk_42_method_80_code 14 = .ok (.invokevirtual 505, 3) := by decide +kernel
theorem d25_17 : decode jdk_42_method_80_code 17 = .ok (.invokestatic 637, 3) := by decide +kernel
theorem d25_20 : decode jdk_42_method_80_code 20 = .ok (.goto 16, 3) := by decide +kernel
theorem d25_36 : decode jdk_42_method_80_code 36 = .ok (.ireturn, 1) := by decide +kernel
theorem pd_10 : parseMethodDescriptor "()I" = some ⟨[], some .int⟩ := by decide +kernel
theorem pn_rmI21 : plainFor yy21 = true := by first | exact plainFor_of_name (by first | (simp [plainName, overriddenIn]; done) | decide +kernel) | decide +kernel
theorem ef_rmI21 (m : MethodId) (a : Addr) (k9 : Int32) : entryFrame m #[(.ref a), (.int k9), (.int (0 : Int32))] 3 = (mkF m 0 #[rv a, iv k9, iv (0 : Int32)] []) := by first | (simp [entryFrame, mkF, argsToLocals, Value.category]; done) | rfl
def QI21 (Z : State) (a : Addr) (k9 : Int32) (d : Addr) (kd : ClassId) (c0 : Int32) (cs : Int32) (h0 : Heap) (n0 : Nat) (v_ : Option Value) (h_ : Heap) (L_ : List Loc) : Prop := (v_ = some (.int (-1 : Int32))) ∧ (Fr n0 L_) ∧ (h_ = h0)
set_option maxRecDepth 65536 in
set_option maxHeartbeats 40000000 in
theorem rmI21 (l : Launch) (Z : State) (a0 : Array Value) (hw : ∀ d ∈ tables_1, d.before a0 Z = true) (ws : List Jvm.Cond) (a : Addr) (k9 : Int32) (d : Addr) (kd : ClassId) (c0 : Int32) (cs : Int32) (h0 : Heap) (n0 : Nat) (Z0 : n0 ≤ h0.size) (p_0 : Exa Z h0 a "java/lang/String") (p_1 : Fld Z h0 a "java/lang/String" "coder" "B" (.int (0 : Int32))) (p_2 : Fld Z h0 a "java/lang/String" "value" "[B" (.ref d)) (p_3 : Arv Z h0 d kd .byte (1 : Int32) [(.int (own_by c0))] (.int (0 : Int32))) (hk : own_in k9) (hi0 : own_in c0) (hn0 : ¬ c0 = k9) (p_7 : Sta Z h0 "java/lang/String" "COMPACT_STRINGS" "Z" (.int cs)) (hcs : ¬ cs = (0 : Int32)) :
    MetFree l yy21 (head1 (Jvm.Cond.code yy21 jdk_42_method_80_code 3 (some .int) :: ws) rRrmI21) (fun a_ U_ => a_ = #[(.ref a), (.int k9), (.int (0 : Int32))] ∧ Z.Warmed39 U_.vm ∧ U_.heap = h0) (fun _ _ _ _ _ => True) (fun _ U_ o_ U1_ => ∃ v_ L_, o_ = .returned v_ ∧ QI21 Z a k9 d kd c0 cs h0 n0 v_ U1_.heap L_ ∧ FrameEnd U_ o_ U1_ L_ rRrmI21.cells rRrmI21.slots) := by
  refine MetFree.of_bodySF pn_rmI21 hisR ?_
  intro p e s m args below meth c s₁ Bd hml0 hP hK
  obtain ⟨rfl, hZ, hh⟩ := hP
  have hx := Bd.exec
  have hby := Bd.bytes
  have hlk : meth.locks = false := Bd.notSynchronized
  have hml : c.maxLocals = 3 := hml0
  have hown : s.vm.findClass "java/lang/String" = some m.cls := findClass_of_methodNamed Bd.named
  have hnm := (name_of_methodNamed Bd.named Bd.method).1
  have X0 : Stand p l e rRrmI21 s m #[(.ref a), (.int k9), (.int (0 : Int32))] below meth c s₁ [] 0 0 := Stand.of_body Bd
  have e0 : s₁.heap = h0 := by rw [← hh, Bd.state]; rfl
  have N0 := Fr.nil n0
  show own_Goes p e below s (QI21 Z a k9 d kd c0 cs h0 n0) rRrmI21.cells rRrmI21.slots s₁ (entryFrame m #[(.ref a), (.int k9), (.int (0 : Int32))] 3)
  rw [ef_rmI21 m a k9]
  show own_Goes p e below s (QI21 Z a k9 d kd c0 cs h0 n0) rRrmI21.cells rRrmI21.slots s₁ (mkF m 0 #[rv a, iv k9, iv (0 : Int32)] [])
  refine own_st (fun _ kk_ => XS.aloadN X0.here hx rfl (hb hby d25_0) rfl rfl kk_) ?_
  show own_Goes _ _ _ _ _ _ _ s₁ (mkF m 1 #[rv a, iv k9, iv (0 : Int32)] [(.ref a)])
  obtain ⟨cq1, kq1, q1a, q1b, q1c⟩ := isOf hZ e0 p_0
  obtain ⟨_, _, ⟨T1, L1, k1, n1⟩, -, X1, ⟨Lc1, hQ1, l1, y1, z1⟩, st1⟩ := X0.virtualBack hx (y := yy5) (z := yy5) hown (mvT hZ (own_w hw 73 rfl)) (mvT hZ (own_w hw 74 rfl)) (notFace_of_selects (args := #[]) (mvT hZ (own_w hw 76 rfl))) (mvT hZ (own_w hw 76 rfl)) (mvT hZ (own_w hw 75 rfl)) (by decide) (backOf (W := 0) (rm16 l Z a0 hw [] (a) (cs) h0 n0 Z0 p_1 p_7 (by assumption)) hZ (own_w hw 77 rfl) (own_w hw 12 rfl) (by decide) (by decide)) q1a q1c (g := (mkF m 1 #[rv a, iv k9, iv (0 : Int32)] [(.ref a)])) rfl (by rw [hml]; rfl) (Steps.refl _) (argsL := []) (rest := []) (lenOf pd_6 rfl) rfl (by show 2 * 0 + _ ≤ _; exact Nat.le_of_eq rfl) (hb hby d25_1) (fun _ _ => ⟨rfl, e0, (by decide : 0 + 0 ≤ _), (by decide : 0 + 0 ≤ _)⟩)
  dsimp only [Pt.U, Pt.locs, Pt.cells, Pt.slots] at X1 l1 y1 z1 st1 hQ1
  subst l1 y1 z1
  obtain ⟨rfl, Nq1, eq1⟩ := hQ1
  have N1 := Fr.app N0 Nq1
  refine own_st (fun _ kk_ => st1.trans kk_) ?_
  show own_Goes _ _ _ _ _ _ _ T1 (mkF m 4 #[rv a, iv k9, iv (0 : Int32)] [(.int (1 : Int32))])
  refine own_st (fun _ kk_ => XS.ifNo X1.here hx rfl (hb hby d25_4) rfl (XT.i0_eq_f (by decide)) (XS.aloadN X1.here hx rfl (hb hby d25_7) rfl rfl kk_)) ?_
  show own_Goes _ _ _ _ _ _ _ T1 (mkF m 8 #[rv a, iv k9, iv (0 : Int32)] [(.ref a)])
  obtain ⟨T2, X2, e2, st2⟩ := getF X1 hx hZ hown (host := "") (Or.inl (own_w hw 38 rfl)) Via.refl eq1 p_2 (g := (mkF m 8 #[rv a, iv k9, iv (0 : Int32)] [(.ref a)])) rfl rfl (hb hby d25_8)
  refine own_st st2 ?_
  show own_Goes _ _ _ _ _ _ _ T2 (mkF m 11 #[rv a, iv k9, iv (0 : Int32)] [(.ref d)])
  refine own_st (fun _ kk_ => XS.iloadN X2.here hx rfl (hb hby d25_11) rfl (XS.iloadN X2.here hx rfl (hb hby d25_12) rfl (XS.aloadN X2.here hx rfl (hb hby d25_13) rfl rfl kk_))) ?_
  show own_Goes _ _ _ _ _ _ _ T2 (mkF m 14 #[rv a, iv k9, iv (0 : Int32)] [(.ref a), (.int (0 : Int32)), (.int k9), (.ref d)])
  obtain ⟨cq3, kq3, q3a, q3b, q3c⟩ := isOf hZ e2 p_0
  obtain ⟨_, _, ⟨T3, L3, k3, n3⟩, -, X3, ⟨Lc3, hQ3, l3, y3, z3⟩, st3⟩ := X2.virtualBack hx (y := yy6) (z := yy6) hown (mvT hZ (own_w hw 119 rfl)) (mvT hZ (own_w hw 120 rfl)) (notFace_of_selects (args := #[]) (mvT hZ (own_w hw 122 rfl))) (mvT hZ (own_w hw 122 rfl)) (mvT hZ (own_w hw 121 rfl)) (by decide) (backOf (W := 3) (rm26 l Z a0 hw [] (a) (d) (kd) ((1 : Int32)) ([(.int (own_by c0))]) (cs) h0 n0 Z0 p_0 p_1 p_2 p_3 p_7 (by assumption)) hZ (own_w hw 123 rfl) (own_w hw 12 rfl) (by decide) (by decide)) q3a q3c (g := (mkF m 14 #[rv a, iv k9, iv (0 : Int32)] [(.ref a), (.int (0 : Int32)), (.int k9), (.ref d)])) rfl (by rw [hml]; rfl) (Steps.refl _) (argsL := []) (rest := [(.int (0 : Int32)), (.int k9), (.ref d)]) (lenOf pd_10 rfl) rfl (by show 2 * 0 + _ ≤ _; exact Nat.le_of_eq rfl) (hb hby d25_14) (fun _ _ => ⟨rfl, e2, (by decide : 0 + 0 ≤ _), (by decide : 0 + 0 ≤ _)⟩)
  dsimp only [Pt.U, Pt.locs, Pt.cells, Pt.slots] at X3 l3 y3 z3 st3 hQ3
  subst l3 y3 z3
  obtain ⟨rfl, Nq3, eq3⟩ := hQ3
  have N3 := Fr.app N1 Nq3
  refine own_st (fun _ kk_ => st3.trans kk_) ?_
  show own_Goes _ _ _ _ _ _ _ T3 (mkF m 17 #[rv a, iv k9, iv (0 : Int32)] [(.int (1 : Int32)), (.int (0 : Int32)), (.int k9), (.ref d)])
  obtain ⟨_, _, ⟨T4, L4, k4, n4⟩, -, X4, ⟨Lc4, hQ4, l4, y4, z4⟩, st4⟩ := Jvm.LawKit.callS X3 hx (y := yy20) hown (mvT hZ (own_w hw 129 rfl)) (mvT hZ (own_w hw 130 rfl)) (mvT hZ (own_w hw 80 rfl)) (mvT hZ (own_w hw 131 rfl)) (by decide) (backOf (W := 0) (rmIX1 l Z a0 hw [] (d) (k9) (kd) (c0) h0 n0 Z0 p_3 hk hi0 hn0) hZ (own_w hw 131 rfl) (own_w hw 80 rfl) (by decide) (by decide)) (g := (mkF m 17 #[rv a, iv k9, iv (0 : Int32)] [(.int (1 : Int32)), (.int (0 : Int32)), (.int k9), (.ref d)])) rfl (by rw [hml]; rfl) (argsL := [(.ref d), (.int k9), (.int (0 : Int32)), (.int (1 : Int32))]) (rest := []) (lenOf pd_9 rfl) rfl (by show 2 * 0 + _ ≤ _; exact Nat.le_of_eq rfl) (hb hby d25_17) (fun _ _ => ⟨rfl, eq3, (by decide : 0 + 0 ≤ _), (by decide : 0 + 0 ≤ _)⟩)
  dsimp only [Pt.U, Pt.locs, Pt.cells, Pt.slots] at X4 l4 y4 z4 st4 hQ4
  subst l4 y4 z4
  obtain ⟨rfl, Nq4, eq4⟩ := hQ4
  have N4 := Fr.app N3 Nq4
  refine own_st st4 ?_
  show own_Goes _ _ _ _ _ _ _ T4 (mkF m 20 #[rv a, iv k9, iv (0 : Int32)] [(.int (-1 : Int32))])
  refine own_st (fun _ kk_ => XS.goto X4.here hx rfl (pc0 := 20) (pc' := 36) rfl (hb hby d25_20) (by decide) (by decide) kk_) ?_
  show own_Goes _ _ _ _ _ _ _ T4 (mkF m 36 #[rv a, iv k9, iv (0 : Int32)] [(.int (-1 : Int32))])
  refine own_retI X4 hx hlk Bd.returns (hb hby d25_36) (by decide) (by decide) ?_
  show QI21 Z a k9 d kd c0 cs h0 n0 (some (.int (-1 : Int32))) T4.heap _
  rw [eq4]
  exact ⟨rfl, N4, rfl⟩
abbrev rRrmI11 : Room := { frames := 3, cells := 0, slots := 0, locals := 46 }
theorem d24_0 : decode jdk_42_method_79_code 0 = .ok (.aload_n 0, 1) := by decide +kernel
theorem d24_1 : decode jdk_42_method_79_code 1 = .ok (.iload_n 1, 1) := by decide +kernel
theorem d24_2 : decode jdk_42_method_79_code 2 = .ok (.iconst 0, 1) := by decide +kernel
theorem d24_3 : decode jdk_42_method_79_code 3 = .ok (.invokevirtual 633, 3) := by decide +kernel
theorem d24_6 : decode jdk_42_method_79_code 6 = .ok (.ireturn, 1) := by decide +kernel
theorem pn_rmI11 : plainFor yy22 = true := by first | exact plainFor_of_name (by first | (simp [plainName, overriddenIn]; done) | decide +kernel) | decide +kernel
theorem ef_rmI11 (m : MethodId) (a : Addr) (k9 : Int32) : entryFrame m #[(.ref a), (.int k9)] 2 = (mkF m 0 #[rv a, iv k9] []) := by first | (simp [entryFrame, mkF, argsToLocals, Value.category]; done) | rfl
def QI11 (Z : State) (a : Addr) (k9 : Int32) (d : Addr) (kd : ClassId) (c0 : Int32) (cs : Int32) (h0 : Heap) (n0 : Nat) (v_ : Option Value) (h_ : Heap) (L_ : List Loc) : Prop := (v_ = some (.int (-1 : Int32))) ∧ (Fr n0 L_) ∧ (h_ = h0)
set_option maxRecDepth 65536 in
set_option maxHeartbeats 40000000 in
theorem rmI11 (l : Launch) (Z : State) (a0 : Array Value) (hw : ∀ d ∈ tables_1, d.before a0 Z = true) (ws : List Jvm.Cond) (a : Addr) (k9 : Int32) (d : Addr) (kd : ClassId) (c0 : Int32) (cs : Int32) (h0 : Heap) (n0 : Nat) (Z0 : n0 ≤ h0.size) (p_0 : Exa Z h0 a "java/lang/String") (p_1 : Fld Z h0 a "java/lang/String" "coder" "B" (.int (0 : Int32))) (p_2 : Fld Z h0 a "java/lang/String" "value" "[B" (.ref d)) (p_3 : Arv Z h0 d kd .byte (1 : Int32) [(.int (own_by c0))] (.int (0 : Int32))) (hk : own_in k9) (hi0 : own_in c0) (hn0 : ¬ c0 = k9) (p_7 : Sta Z h0 "java/lang/String" "COMPACT_STRINGS" "Z" (.int cs)) (hcs : ¬ cs = (0 : Int32)) :
    MetFree l yy22 (head1 (Jvm.Cond.code yy22 jdk_42_method_79_code 2 (some .int) :: ws) rRrmI11) (fun a_ U_ => a_ = #[(.ref a), (.int k9)] ∧ Z.Warmed39 U_.vm ∧ U_.heap = h0) (fun _ _ _ _ _ => True) (fun _ U_ o_ U1_ => ∃ v_ L_, o_ = .returned v_ ∧ QI11 Z a k9 d kd c0 cs h0 n0 v_ U1_.heap L_ ∧ FrameEnd U_ o_ U1_ L_ rRrmI11.cells rRrmI11.slots) := by
  refine MetFree.of_bodySF pn_rmI11 hisR ?_
  intro p e s m args below meth c s₁ Bd hml0 hP hK
  obtain ⟨rfl, hZ, hh⟩ := hP
  have hx := Bd.exec
  have hby := Bd.bytes
  have hlk : meth.locks = false := Bd.notSynchronized
  have hml : c.maxLocals = 2 := hml0
  have hown : s.vm.findClass "java/lang/String" = some m.cls := findClass_of_methodNamed Bd.named
  have hnm := (name_of_methodNamed Bd.named Bd.method).1
  have X0 : Stand p l e rRrmI11 s m #[(.ref a), (.int k9)] below meth c s₁ [] 0 0 := Stand.of_body Bd
  have e0 : s₁.heap = h0 := by rw [← hh, Bd.state]; rfl
  have N0 := Fr.nil n0
  show own_Goes p e below s (QI11 Z a k9 d kd c0 cs h0 n0) rRrmI11.cells rRrmI11.slots s₁ (entryFrame m #[(.ref a), (.int k9)] 2)
  rw [ef_rmI11 m a k9]
  show own_Goes p e below s (QI11 Z a k9 d kd c0 cs h0 n0) rRrmI11.cells rRrmI11.slots s₁ (mkF m 0 #[rv a, iv k9] [])
  refine own_st (fun _ kk_ => XS.aloadN X0.here hx rfl (hb hby d24_0) rfl rfl (XS.iloadN X0.here hx rfl (hb hby d24_1) rfl (XS.iconst X0.here hx rfl (hb hby d24_2) kk_))) ?_
  show own_Goes _ _ _ _ _ _ _ s₁ (mkF m 3 #[rv a, iv k9] [(.int (0 : Int32)), (.int k9), (.ref a)])
  obtain ⟨cq1, kq1, q1a, q1b, q1c⟩ := isOf hZ e0 p_0
  obtain ⟨_, _, ⟨T1, L1, k1, n1⟩, -, X1, ⟨Lc1, hQ1, l1, y1, z1⟩, st1⟩ := X0.virtualBack hx (y := yy21) (z := yy21) hown (mvT hZ (own_w hw 114 rfl)) (mvT hZ (own_w hw 115 rfl)) (notFace_of_selects (args := #[]) (mvT hZ (own_w hw 117 rfl))) (mvT hZ (own_w hw 117 rfl)) (mvT hZ (own_w hw 116 rfl)) (by decide) (backOf (W := 0) (rmI21 l Z a0 hw [] (a) (k9) (d) (kd) (c0) (cs) h0 n0 Z0 p_0 p_1 p_2 p_3 hk hi0 hn0 p_7 (by assumption)) hZ (own_w hw 118 rfl) (own_w hw 12 rfl) (by decide) (by decide)) q1a q1c (g := (mkF m 3 #[rv a, iv k9] [(.int (0 : Int32)), (.int k9), (.ref a)])) rfl (by rw [hml]; rfl) (Steps.refl _) (argsL := [(.int k9), (.int (0 : Int32))]) (rest := []) (lenOf pd_8 rfl) rfl (by show 2 * 0 + _ ≤ _; exact Nat.le_of_eq rfl) (hb hby d24_3) (fun _ _ => ⟨rfl, e0, (by decide : 0 + 0 ≤ _), (by decide : 0 + 0 ≤ _)⟩)
  dsimp only [Pt.U, Pt.locs, Pt.cells, Pt.slots] at X1 l1 y1 z1 st1 hQ1
  subst l1 y1 z1
  obtain ⟨rfl, Nq1, eq1⟩ := hQ1
  have N1 := Fr.app N0 Nq1
  refine own_st (fun _ kk_ => st1.trans kk_) ?_
  show own_Goes _ _ _ _ _ _ _ T1 (mkF m 6 #[rv a, iv k9] [(.int (-1 : Int32))])
  refine own_retI X1 hx hlk Bd.returns (hb hby d24_6) (by decide) (by decide) ?_
  show QI11 Z a k9 d kd c0 cs h0 n0 (some (.int (-1 : Int32))) T1.heap _
  rw [eq1]
  exact ⟨rfl, N1, rfl⟩
abbrev rRrmEM1 : Room := { frames := 0, cells := 0, slots := 0, locals := 0 }
theorem d14_0 : decode jdk_42_method_55_code 0 = .ok (.aload_n 0, 1) := by decide +kernel
theorem d14_1 : decode jdk_42_method_55_code 1 = .ok (.getfield 9, 3) := by decide +kernel
theorem d14_4 : decode jdk_42_method_55_code 4 = .ok (.arraylength, 1) := by decide +kernel
theorem d14_5 : decode jdk_42_method_55_code 5 = .ok (.ifCond .ne 7, 3) := by decide +kernel
theorem d14_12 : decode jdk_42_method_55_code 12 = .ok (.iconst 0, 1) := by decide +kernel
theorem d14_13 : decode jdk_42_method_55_code 13 = .ok (.ireturn, 1) := by decide +kernel
theorem pn_rmEM1 : plainFor yy23 = true := by first | exact plainFor_of_name (by first | (simp [plainName, overriddenIn]; done) | decide +kernel) | decide +kernel
theorem ef_rmEM1 (m : MethodId) (a : Addr) : entryFrame m #[(.ref a)] 1 = (mkF m 0 #[rv a] []) := by first | (simp [entryFrame, mkF, argsToLocals, Value.category]; done) | rfl
def QEM1 (Z : State) (a : Addr) (d : Addr) (kd : ClassId) (c0 : Int32) (h0 : Heap) (n0 : Nat) (v_ : Option Value) (h_ : Heap) (L_ : List Loc) : Prop := (v_ = some (.int (0 : Int32))) ∧ (Fr n0 L_) ∧ (h_ = h0)
set_option maxRecDepth 65536 in
set_option maxHeartbeats 40000000 in
theorem rmEM1 (l : Launch) (Z : State) (a0 : Array Value) (hw : ∀ d ∈ tables_1, d.before a0 Z = true) (ws : List Jvm.Cond) (a : Addr) (d : Addr) (kd : ClassId) (c0 : Int32) (h0 : Heap) (n0 : Nat) (Z0 : n0 ≤ h0.size) (p_0 : Exa Z h0 a "java/lang/String") (p_1 : Fld Z h0 a "java/lang/String" "coder" "B" (.int (0 : Int32))) (p_2 : Fld Z h0 a "java/lang/String" "value" "[B" (.ref d)) (p_3 : Arv Z h0 d kd .byte (1 : Int32) [(.int (own_by c0))] (.int (0 : Int32))) :
    MetFree l yy23 (head1 (Jvm.Cond.code yy23 jdk_42_method_55_code 1 (some .boolean) :: ws) rRrmEM1) (fun a_ U_ => a_ = #[(.ref a)] ∧ Z.Warmed39 U_.vm ∧ U_.heap = h0) (fun _ _ _ _ _ => True) (fun _ U_ o_ U1_ => ∃ v_ L_, o_ = .returned v_ ∧ QEM1 Z a d kd c0 h0 n0 v_ U1_.heap L_ ∧ FrameEnd U_ o_ U1_ L_ rRrmEM1.cells rRrmEM1.slots) := by
  refine MetFree.of_bodySF pn_rmEM1 hisR ?_
  intro p e s m args below meth c s₁ Bd hml0 hP hK
  obtain ⟨rfl, hZ, hh⟩ := hP
  have hx := Bd.exec
  have hby := Bd.bytes
  have hlk : meth.locks = false := Bd.notSynchronized
  have hml : c.maxLocals = 1 := hml0
  have hown : s.vm.findClass "java/lang/String" = some m.cls := findClass_of_methodNamed Bd.named
  have hnm := (name_of_methodNamed Bd.named Bd.method).1
  have X0 : Stand p l e rRrmEM1 s m #[(.ref a)] below meth c s₁ [] 0 0 := Stand.of_body Bd
  have e0 : s₁.heap = h0 := by rw [← hh, Bd.state]; rfl
  have N0 := Fr.nil n0
  show own_Goes p e below s (QEM1 Z a d kd c0 h0 n0) rRrmEM1.cells rRrmEM1.slots s₁ (entryFrame m #[(.ref a)] 1)
  rw [ef_rmEM1 m a]
  show own_Goes p e below s (QEM1 Z a d kd c0 h0 n0) rRrmEM1.cells rRrmEM1.slots s₁ (mkF m 0 #[rv a] [])
  refine own_st (fun _ kk_ => XS.aloadN X0.here hx rfl (hb hby d14_0) rfl rfl kk_) ?_
  show own_Goes _ _ _ _ _ _ _ s₁ (mkF m 1 #[rv a] [(.ref a)])
  obtain ⟨T1, X1, e1, st1⟩ := getF X0 hx hZ hown (host := "") (Or.inl (own_w hw 38 rfl)) Via.refl e0 p_2 (g := (mkF m 1 #[rv a] [(.ref a)])) rfl rfl (hb hby d14_1)
  refine own_st st1 ?_
  show own_Goes _ _ _ _ _ _ _ T1 (mkF m 4 #[rv a] [(.ref d)])
  obtain ⟨cl2, Ar2, -, Sz2, Nn2, -, -⟩ := id p_3
  refine own_st (fun _ kk_ => X1.arraylength hx (by rw [e1]; exact Ar2.1) (State.isArrayOf_alike hZ.alike Ar2.2.1) (g := (mkF m 4 #[rv a] [(.ref d)])) rfl rfl (hb hby d14_4) _ kk_) ?_
  rw [len_of Sz2 Nn2]
  show own_Goes _ _ _ _ _ _ _ T1 (mkF m 5 #[rv a] [(.int (1 : Int32))])
  refine own_st (fun _ kk_ => XS.ifYes X1.here hx rfl (pc0 := 5) (pc' := 12) rfl (hb hby d14_5) rfl (XT.i0_ne_t (by decide)) (by decide) (by decide) (XS.iconst X1.here hx rfl (hb hby d14_12) kk_)) ?_
  show own_Goes _ _ _ _ _ _ _ T1 (mkF m 13 #[rv a] [(.int (0 : Int32))])
  refine own_retN X1 hx hlk (t := .boolean) Bd.returns (by simp) (hb hby d14_13) (by decide) (by decide) ?_
  show QEM1 Z a d kd c0 h0 n0 (some (.int (nar .boolean (0 : Int32)))) T1.heap _
  rw [e1]
  exact ⟨rfl, N0, rfl⟩
abbrev rRrmIC2 : Room := { frames := 0, cells := 0, slots := 0, locals := 0 }
theorem pn_rmIC2 : plainFor yy19 = true := by first | exact plainFor_of_name (by first | (simp [plainName, overriddenIn]; done) | decide +kernel) | decide +kernel
theorem ef_rmIC2 (m : MethodId) (d : Addr) (k9 : Int32) : entryFrame m #[(.ref d), (.int k9), (.int (0 : Int32)), (.int (2 : Int32))] 6 = (mkF m 0 #[rv d, iv k9, iv (0 : Int32), iv (2 : Int32), .unset, .unset] []) := by first | (simp [entryFrame, mkF, argsToLocals, Value.category]; done) | rfl
def QIC2 (Z : State) (d : Addr) (k9 : Int32) (kd : ClassId) (c0 : Int32) (c1 : Int32) (h0 : Heap) (n0 : Nat) (v_ : Option Value) (h_ : Heap) (L_ : List Loc) : Prop := (v_ = some (.int (-1 : Int32))) ∧ (Fr n0 L_) ∧ (h_ = h0)
set_option maxRecDepth 65536 in
set_option maxHeartbeats 40000000 in
theorem rmIC2 (l : Launch) (Z : State) (a0 : Array Value) (hw : ∀ d ∈ tables_1, d.before a0 Z = true) (ws : List Jvm.Cond) (d : Addr) (k9 : Int32) (kd : ClassId) (c0 : Int32) (c1 : Int32) (h0 : Heap) (n0 : Nat) (Z0 : n0 ≤ h0.size) (p_0 : Arv Z h0 d kd .byte (2 : Int32) [(.int (own_by c0)), (.int (own_by c1))] (.int (0 : Int32))) (hk : own_in k9) (hi0 : own_in c0) (hi1 : own_in c1) (hn0 : ¬ c0 = k9) (hn1 : ¬ c1 = k9) :
    MetFree l yy19 (head1 (Jvm.Cond.code yy19 jdk_43_method_23_code 6 (some .int) :: ws) rRrmIC2) (fun a_ U_ => a_ = #[(.ref d), (.int k9), (.int (0 : Int32)), (.int (2 : Int32))] ∧ Z.Warmed39 U_.vm ∧ U_.heap = h0) (fun _ _ _ _ _ => True) (fun _ U_ o_ U1_ => ∃ v_ L_, o_ = .returned v_ ∧ QIC2 Z d k9 kd c0 c1 h0 n0 v_ U1_.heap L_ ∧ FrameEnd U_ o_ U1_ L_ rRrmIC2.cells rRrmIC2.slots) := by
  refine MetFree.of_bodySF pn_rmIC2 hisR ?_
  intro p e s m args below meth c s₁ Bd hml0 hP hK
  obtain ⟨rfl, hZ, hh⟩ := hP
  have hx := Bd.exec
  have hby := Bd.bytes
  have hlk : meth.locks = false := Bd.notSynchronized
  have hml : c.maxLocals = 6 := hml0
  have hown : s.vm.findClass "java/lang/StringLatin1" = some m.cls := findClass_of_methodNamed Bd.named
  have hnm := (name_of_methodNamed Bd.named Bd.method).1
  have X0 : Stand p l e rRrmIC2 s m #[(.ref d), (.int k9), (.int (0 : Int32)), (.int (2 : Int32))] below meth c s₁ [] 0 0 := Stand.of_body Bd
  have e0 : s₁.heap = h0 := by rw [← hh, Bd.state]; rfl
  have N0 := Fr.nil n0
  show own_Goes p e below s (QIC2 Z d k9 kd c0 c1 h0 n0) rRrmIC2.cells rRrmIC2.slots s₁ (entryFrame m #[(.ref d), (.int k9), (.int (0 : Int32)), (.int (2 : Int32))] 6)
  rw [ef_rmIC2 m d k9]
  show own_Goes p e below s (QIC2 Z d k9 kd c0 c1 h0 n0) rRrmIC2.cells rRrmIC2.slots s₁ (mkF m 0 #[rv d, iv k9, iv (0 : Int32), iv (2 : Int32), .unset, .unset] [])
  refine own_st (fun _ kk_ => XS.iloadN X0.here hx rfl (hb hby d32_0) rfl (XS.i2b X0.here hx rfl (hb hby d32_1) rfl (XS.istore X0.here hx rfl (hb hby d32_2) rfl (l' := #[rv d, iv k9, iv (0 : Int32), iv (2 : Int32), iv (k9.toInt8.toInt32), .unset]) rfl (XS.iloadN X0.here hx rfl (hb hby d32_4) rfl (XS.istore X0.here hx rfl (hb hby d32_5) rfl (l' := #[rv d, iv k9, iv (0 : Int32), iv (2 : Int32), iv (k9.toInt8.toInt32), iv (0 : Int32)]) rfl (XS.iload X0.here hx rfl (hb hby d32_7) rfl (XS.iloadN X0.here hx rfl (hb hby d32_9) rfl (XS.icmpNo X0.here hx rfl (hb hby d32_10) rfl (XT.ii_ge_f (by decide)) (XS.aloadN X0.here hx rfl (hb hby d32_13) rfl rfl (XS.iload X0.here hx rfl (hb hby d32_14) rfl kk_)))))))))) ?_
  show own_Goes _ _ _ _ _ _ _ s₁ (mkF m 16 #[rv d, iv k9, iv (0 : Int32), iv (2 : Int32), iv (k9.toInt8.toInt32), iv (0 : Int32)] [(.int (0 : Int32)), (.ref d)])
  obtain ⟨cl1, Ar1, q1, Sz1, Nn1, Hh1, Gg1⟩ := id p_0
  refine own_st (fun _ kk_ => X0.baloadBytes hx (j := (0 : Int32)) (v := (.int (own_by c0))) (by rw [e0]; exact Ar1.1) (State.isArrayOf_alike hZ.alike Ar1.2.1) Ar1.2.2 (inb_of Sz1 ⟨by decide, by decide⟩) (Hh1.at (inb_of Sz1 ⟨by decide, by decide⟩) rfl) (g := (mkF m 16 #[rv d, iv k9, iv (0 : Int32), iv (2 : Int32), iv (k9.toInt8.toInt32), iv (0 : Int32)] [(.int (0 : Int32)), (.ref d)])) rfl rfl (hb hby d32_16) _ kk_) ?_
  show own_Goes _ _ _ _ _ _ _ s₁ (mkF m 17 #[rv d, iv k9, iv (0 : Int32), iv (2 : Int32), iv (k9.toInt8.toInt32), iv (0 : Int32)] [(.int (own_by c0))])
  refine own_st (fun _ kk_ => XS.iload X0.here hx rfl (hb hby d32_17) rfl (XS.icmpYes X0.here hx rfl (pc0 := 19) (pc' := 25) rfl (hb hby d32_19) rfl (XT.ii_ne_t (own_nbi hi0 hk hn0)) (by decide) (by decide) (XS.iinc X0.here hx rfl (hb hby d32_25) rfl (l' := #[rv d, iv k9, iv (0 : Int32), iv (2 : Int32), iv (k9.toInt8.toInt32), iv (1 : Int32)]) rfl (XS.goto X0.here hx rfl (pc0 := 28) (pc' := 7) rfl (hb hby d32_28) (by decide) (by decide) (XS.iload X0.here hx rfl (hb hby d32_7) rfl (XS.iloadN X0.here hx rfl (hb hby d32_9) rfl (XS.icmpNo X0.here hx rfl (hb hby d32_10) rfl (XT.ii_ge_f (by decide)) (XS.aloadN X0.here hx rfl (hb hby d32_13) rfl rfl (XS.iload X0.here hx rfl (hb hby d32_14) rfl kk_))))))))) ?_
  show own_Goes _ _ _ _ _ _ _ s₁ (mkF m 16 #[rv d, iv k9, iv (0 : Int32), iv (2 : Int32), iv (k9.toInt8.toInt32), iv (1 : Int32)] [(.int (1 : Int32)), (.ref d)])
  obtain ⟨cl2, Ar2, q2, Sz2, Nn2, Hh2, Gg2⟩ := id p_0
  refine own_st (fun _ kk_ => X0.baloadBytes hx (j := (1 : Int32)) (v := (.int (own_by c1))) (by rw [e0]; exact Ar2.1) (State.isArrayOf_alike hZ.alike Ar2.2.1) Ar2.2.2 (inb_of Sz2 ⟨by decide, by decide⟩) (Hh2.at (inb_of Sz2 ⟨by decide, by decide⟩) rfl) (g := (mkF m 16 #[rv d, iv k9, iv (0 : Int32), iv (2 : Int32), iv (k9.toInt8.toInt32), iv (1 : Int32)] [(.int (1 : Int32)), (.ref d)])) rfl rfl (hb hby d32_16) _ kk_) ?_
  show own_Goes _ _ _ _ _ _ _ s₁ (mkF m 17 #[rv d, iv k9, iv (0 : Int32), iv (2 : Int32), iv (k9.toInt8.toInt32), iv (1 : Int32)] [(.int (own_by c1))])
  refine own_st (fun _ kk_ => XS.iload X0.here hx rfl (hb hby d32_17) rfl (XS.icmpYes X0.here hx rfl (pc0 := 19) (pc' := 25) rfl (hb hby d32_19) rfl (XT.ii_ne_t (own_nbi hi1 hk hn1)) (by decide) (by decide) (XS.iinc X0.here hx rfl (hb hby d32_25) rfl (l' := #[rv d, iv k9, iv (0 : Int32), iv (2 : Int32), iv (k9.toInt8.toInt32), iv (2 : Int32)]) rfl (XS.goto X0.here hx rfl (pc0 := 28) (pc' := 7) rfl (hb hby d32_28) (by decide) (by decide) (XS.iload X0.here hx rfl (hb hby d32_7) rfl (XS.iloadN X0.here hx rfl (hb hby d32_9) rfl (XS.icmpYes X0.here hx rfl (pc0 := 10) (pc' := 31) rfl (hb hby d32_10) rfl (XT.ii_ge_t (by decide)) (by decide) (by decide) (XS.iconst X0.here hx rfl (hb hby d32_31) kk_)))))))) ?_
  show own_Goes _ _ _ _ _ _ _ s₁ (mkF m 32 #[rv d, iv k9, iv (0 : Int32), iv (2 : Int32), iv (k9.toInt8.toInt32), iv (2 : Int32)] [(.int (-1 : Int32))])
  refine own_retI X0 hx hlk Bd.returns (hb hby d32_32) (by decide) (by decide) ?_
  show QIC2 Z d k9 kd c0 c1 h0 n0 (some (.int (-1 : Int32))) s₁.heap _
  rw [e0]
  exact ⟨rfl, N0, rfl⟩
abbrev rRrmIX2 : Room := { frames := 1, cells := 0, slots := 0, locals := 17 }
theorem pn_rmIX2 : plainFor yy20 = true := by first | exact plainFor_of_name (by first | (simp [plainName, overriddenIn]; done) | decide +kernel) | decide +kernel
theorem ef_rmIX2 (m : MethodId) (d : Addr) (k9 : Int32) : entryFrame m #[(.ref d), (.int k9), (.int (0 : Int32)), (.int (2 : Int32))] 4 = (mkF m 0 #[rv d, iv k9, iv (0 : Int32), iv (2 : Int32)] []) := by first | (simp [entryFrame, mkF, argsToLocals, Value.category]; done) | rfl
def QIX2 (Z : State) (d : Addr) (k9 : Int32) (kd : ClassId) (c0 : Int32) (c1 : Int32) (h0 : Heap) (n0 : Nat) (v_ : Option Value) (h_ : Heap) (L_ : List Loc) : Prop := (v_ = some (.int (-1 : Int32))) ∧ (Fr n0 L_) ∧ (h_ = h0)
set_option maxRecDepth 65536 in
set_option maxHeartbeats 40000000 in
theorem rmIX2 (l : Launch) (Z : State) (a0 : Array Value) (hw : ∀ d ∈ tables_1, d.before a0 Z = true) (ws : List Jvm.Cond) (d : Addr) (k9 : Int32) (kd : ClassId) (c0 : Int32) (c1 : Int32) (h0 : Heap) (n0 : Nat) (Z0 : n0 ≤ h0.size) (p_0 : Arv Z h0 d kd .byte (2 : Int32) [(.int (own_by c0)), (.int (own_by c1))] (.int (0 : Int32))) (hk : own_in k9) (hi0 : own_in c0) (hi1 : own_in c1) (hn0 : ¬ c0 = k9) (hn1 : ¬ c1 = k9) :
    MetFree l yy20 (head1 (Jvm.Cond.code yy20 jdk_43_method_22_code 4 (some .int) :: ws) rRrmIX2) (fun a_ U_ => a_ = #[(.ref d), (.int k9), (.int (0 : Int32)), (.int (2 : Int32))] ∧ Z.Warmed39 U_.vm ∧ U_.heap = h0) (fun _ _ _ _ _ => True) (fun _ U_ o_ U1_ => ∃ v_ L_, o_ = .returned v_ ∧ QIX2 Z d k9 kd c0 c1 h0 n0 v_ U1_.heap L_ ∧ FrameEnd U_ o_ U1_ L_ rRrmIX2.cells rRrmIX2.slots) := by
  refine MetFree.of_bodySF pn_rmIX2 hisR ?_
  intro p e s m args below meth c s₁ Bd hml0 hP hK
  obtain ⟨rfl, hZ, hh⟩ := hP
  have hx := Bd.exec
  have hby := Bd.bytes
  have hlk : meth.locks = false := Bd.notSynchronized
  have hml : c.maxLocals = 4 := hml0
  have hown : s.vm.findClass "java/lang/StringLatin1" = some m.cls := findClass_of_methodNamed Bd.named
  have hnm := (name_of_methodNamed Bd.named Bd.method).1
  have X0 : Stand p l e rRrmIX2 s m #[(.ref d), (.int k9), (.int (0 : Int32)), (.int (2 : Int32))] below meth c s₁ [] 0 0 := Stand.of_body Bd
  have e0 : s₁.heap = h0 := by rw [← hh, Bd.state]; rfl
  have N0 := Fr.nil n0
  show own_Goes p e below s (QIX2 Z d k9 kd c0 c1 h0 n0) rRrmIX2.cells rRrmIX2.slots s₁ (entryFrame m #[(.ref d), (.int k9), (.int (0 : Int32)), (.int (2 : Int32))] 4)
  rw [ef_rmIX2 m d k9]
  show own_Goes p e below s (QIX2 Z d k9 kd c0 c1 h0 n0) rRrmIX2.cells rRrmIX2.slots s₁ (mkF m 0 #[rv d, iv k9, iv (0 : Int32), iv (2 : Int32)] [])
  refine own_st (fun _ kk_ => XS.iloadN X0.here hx rfl (hb hby d28_0) rfl kk_) ?_
  show own_Goes _ _ _ _ _ _ _ s₁ (mkF m 1 #[rv d, iv k9, iv (0 : Int32), iv (2 : Int32)] [(.int k9)])
  obtain ⟨_, _, ⟨T1, L1, k1, n1⟩, -, X1, ⟨Lc1, hQ1, l1, y1, z1⟩, st1⟩ := Jvm.LawKit.callS X0 hx (y := yy17) hown (mvT hZ (own_w hw 132 rfl)) (mvT hZ (own_w hw 133 rfl)) (mvT hZ (own_w hw 80 rfl)) (mvT hZ (own_w hw 134 rfl)) (by decide) (backOf (W := 0) (rm29 l Z a0 hw [] (k9) h0 n0 Z0 hk) hZ (own_w hw 134 rfl) (own_w hw 80 rfl) (by decide) (by decide)) (g := (mkF m 1 #[rv d, iv k9, iv (0 : Int32), iv (2 : Int32)] [(.int k9)])) rfl (by rw [hml]; rfl) (argsL := [(.int k9)]) (rest := []) (lenOf pd_4 rfl) rfl (by show 2 * 0 + _ ≤ _; exact Nat.le_of_eq rfl) (hb hby d28_1) (fun _ _ => ⟨rfl, e0, (by decide : 0 + 0 ≤ _), (by decide : 0 + 0 ≤ _)⟩)
  dsimp only [Pt.U, Pt.locs, Pt.cells, Pt.slots] at X1 l1 y1 z1 st1 hQ1
  subst l1 y1 z1
  obtain ⟨rfl, Nq1, eq1⟩ := hQ1
  have N1 := Fr.app N0 Nq1
  refine own_st st1 ?_
  show own_Goes _ _ _ _ _ _ _ T1 (mkF m 4 #[rv d, iv k9, iv (0 : Int32), iv (2 : Int32)] [(.int (1 : Int32))])
  refine own_st (fun _ kk_ => XS.ifYes X1.here hx rfl (pc0 := 4) (pc' := 9) rfl (hb hby d28_4) rfl (XT.i0_ne_t (by decide)) (by decide) (by decide) (XS.iloadN X1.here hx rfl (hb hby d28_9) rfl (XS.iconst X1.here hx rfl (hb hby d28_10) kk_))) ?_
  show own_Goes _ _ _ _ _ _ _ T1 (mkF m 11 #[rv d, iv k9, iv (0 : Int32), iv (2 : Int32)] [(.int (0 : Int32)), (.int (0 : Int32))])
  obtain ⟨_, _, ⟨T2, L2, k2, n2⟩, -, X2, ⟨Lc2, hQ2, l2, y2, z2⟩, st2⟩ := Jvm.LawKit.callS X1 hx (y := yy7) hown (mvT hZ (own_w hw 135 rfl)) (mvT hZ (own_w hw 136 rfl)) (mvT hZ (own_w hw 137 rfl)) (mvT hZ (own_w hw 138 rfl)) (by decide) (backOf (W := 0) (rmxA l Z a0 hw [] ((0 : Int32)) ((0 : Int32)) h0 n0 Z0 (by decide)) hZ (own_w hw 138 rfl) (own_w hw 137 rfl) (by decide) (by decide)) (g := (mkF m 11 #[rv d, iv k9, iv (0 : Int32), iv (2 : Int32)] [(.int (0 : Int32)), (.int (0 : Int32))])) rfl (by rw [hml]; rfl) (argsL := [(.int (0 : Int32)), (.int (0 : Int32))]) (rest := []) (lenOf pd_8 rfl) rfl (by show 2 * 0 + _ ≤ _; exact Nat.le_of_eq rfl) (hb hby d28_11) (fun _ _ => ⟨rfl, eq1, (by decide : 0 + 0 ≤ _), (by decide : 0 + 0 ≤ _)⟩)
  dsimp only [Pt.U, Pt.locs, Pt.cells, Pt.slots] at X2 l2 y2 z2 st2 hQ2
  subst l2 y2 z2
  obtain ⟨rfl, Nq2, eq2⟩ := hQ2
  have N2 := Fr.app N1 Nq2
  refine own_st st2 ?_
  show own_Goes _ _ _ _ _ _ _ T2 (mkF m 14 #[rv d, iv k9, iv (0 : Int32), iv (2 : Int32)] [(.int (0 : Int32))])
  refine own_st (fun _ kk_ => XS.istoreN X2.here hx rfl (hb hby d28_14) rfl (l' := #[rv d, iv k9, iv (0 : Int32), iv (2 : Int32)]) rfl (XS.iloadN X2.here hx rfl (hb hby d28_15) rfl (XS.aloadN X2.here hx rfl (hb hby d28_16) rfl rfl kk_))) ?_
  show own_Goes _ _ _ _ _ _ _ T2 (mkF m 17 #[rv d, iv k9, iv (0 : Int32), iv (2 : Int32)] [(.ref d), (.int (2 : Int32))])
  obtain ⟨cl3, Ar3, -, Sz3, Nn3, -, -⟩ := id p_0
  refine own_st (fun _ kk_ => X2.arraylength hx (by rw [eq2]; exact Ar3.1) (State.isArrayOf_alike hZ.alike Ar3.2.1) (g := (mkF m 17 #[rv d, iv k9, iv (0 : Int32), iv (2 : Int32)] [(.ref d), (.int (2 : Int32))])) rfl rfl (hb hby d28_17) _ kk_) ?_
  rw [len_of Sz3 Nn3]
  show own_Goes _ _ _ _ _ _ _ T2 (mkF m 18 #[rv d, iv k9, iv (0 : Int32), iv (2 : Int32)] [(.int (2 : Int32)), (.int (2 : Int32))])
  obtain ⟨_, _, ⟨T4, L4, k4, n4⟩, -, X4, ⟨Lc4, hQ4, l4, y4, z4⟩, st4⟩ := Jvm.LawKit.callS X2 hx (y := yy8) hown (mvT hZ (own_w hw 139 rfl)) (mvT hZ (own_w hw 140 rfl)) (mvT hZ (own_w hw 137 rfl)) (mvT hZ (own_w hw 141 rfl)) (by decide) (backOf (W := 0) (rmnA l Z a0 hw [] ((2 : Int32)) ((2 : Int32)) h0 n0 Z0 (by decide)) hZ (own_w hw 141 rfl) (own_w hw 137 rfl) (by decide) (by decide)) (g := (mkF m 18 #[rv d, iv k9, iv (0 : Int32), iv (2 : Int32)] [(.int (2 : Int32)), (.int (2 : Int32))])) rfl (by rw [hml]; rfl) (argsL := [(.int (2 : Int32)), (.int (2 : Int32))]) (rest := []) (lenOf pd_8 rfl) rfl (by show 2 * 0 + _ ≤ _; exact Nat.le_of_eq rfl) (hb hby d28_18) (fun _ _ => ⟨rfl, eq2, (by decide : 0 + 0 ≤ _), (by decide : 0 + 0 ≤ _)⟩)
  dsimp only [Pt.U, Pt.locs, Pt.cells, Pt.slots] at X4 l4 y4 z4 st4 hQ4
  subst l4 y4 z4
  obtain ⟨rfl, Nq4, eq4⟩ := hQ4
  have N4 := Fr.app N2 Nq4
  refine own_st st4 ?_
  show own_Goes _ _ _ _ _ _ _ T4 (mkF m 21 #[rv d, iv k9, iv (0 : Int32), iv (2 : Int32)] [(.int (2 : Int32))])
  refine own_st (fun _ kk_ => XS.istoreN X4.here hx rfl (hb hby d28_21) rfl (l' := #[rv d, iv k9, iv (0 : Int32), iv (2 : Int32)]) rfl (XS.iloadN X4.here hx rfl (hb hby d28_22) rfl (XS.iloadN X4.here hx rfl (hb hby d28_23) rfl (XS.icmpYes X4.here hx rfl (pc0 := 24) (pc' := 29) rfl (hb hby d28_24) rfl (XT.ii_lt_t (by decide)) (by decide) (by decide) (XS.aloadN X4.here hx rfl (hb hby d28_29) rfl rfl (XS.iloadN X4.here hx rfl (hb hby d28_30) rfl (XS.iloadN X4.here hx rfl (hb hby d28_31) rfl (XS.iloadN X4.here hx rfl (hb hby d28_32) rfl kk_)))))))) ?_
  show own_Goes _ _ _ _ _ _ _ T4 (mkF m 33 #[rv d, iv k9, iv (0 : Int32), iv (2 : Int32)] [(.int (2 : Int32)), (.int (0 : Int32)), (.int k9), (.ref d)])
  obtain ⟨_, _, ⟨T5, L5, k5, n5⟩, -, X5, ⟨Lc5, hQ5, l5, y5, z5⟩, st5⟩ := Jvm.LawKit.callS X4 hx (y := yy19) hown (mvT hZ (own_w hw 142 rfl)) (mvT hZ (own_w hw 143 rfl)) (mvT hZ (own_w hw 80 rfl)) (mvT hZ (own_w hw 144 rfl)) (by decide) (backOf (W := 0) (rmIC2 l Z a0 hw [] (d) (k9) (kd) (c0) (c1) h0 n0 Z0 p_0 hk hi0 hi1 hn0 hn1) hZ (own_w hw 144 rfl) (own_w hw 80 rfl) (by decide) (by decide)) (g := (mkF m 33 #[rv d, iv k9, iv (0 : Int32), iv (2 : Int32)] [(.int (2 : Int32)), (.int (0 : Int32)), (.int k9), (.ref d)])) rfl (by rw [hml]; rfl) (argsL := [(.ref d), (.int k9), (.int (0 : Int32)), (.int (2 : Int32))]) (rest := []) (lenOf pd_9 rfl) rfl (by show 2 * 0 + _ ≤ _; exact Nat.le_of_eq rfl) (hb hby d28_33) (fun _ _ => ⟨rfl, eq4, (by decide : 0 + 0 ≤ _), (by decide : 0 + 0 ≤ _)⟩)
  dsimp only [Pt.U, Pt.locs, Pt.cells, Pt.slots] at X5 l5 y5 z5 st5 hQ5
  subst l5 y5 z5
  obtain ⟨rfl, Nq5, eq5⟩ := hQ5
  have N5 := Fr.app N4 Nq5
  refine own_st st5 ?_
  show own_Goes _ _ _ _ _ _ _ T5 (mkF m 36 #[rv d, iv k9, iv (0 : Int32), iv (2 : Int32)] [(.int (-1 : Int32))])
  refine own_retI X5 hx hlk Bd.returns (hb hby d28_36) (by decide) (by decide) ?_
  show QIX2 Z d k9 kd c0 c1 h0 n0 (some (.int (-1 : Int32))) T5.heap _
  rw [eq5]
  exact ⟨rfl, N5, rfl⟩
abbrev rRrmI22 : Room := { frames := 2, cells := 0, slots := 0, locals := 32 }
theorem pn_rmI22 : plainFor yy21 = true := by first | exact plainFor_of_name (by first | (simp [plainName, overriddenIn]; done) | decide +kernel) | decide +kernel
theorem ef_rmI22 (m : MethodId) (a : Addr) (k9 : Int32) : entryFrame m #[(.ref a), (.int k9), (.int (0 : Int32))] 3 = (mkF m 0 #[rv a, iv k9, iv (0 : Int32)] []) := by first | (simp [entryFrame, mkF, argsToLocals, Value.category]; done) | rfl
def QI22 (Z : State) (a : Addr) (k9 : Int32) (d : Addr) (kd : ClassId) (c0 : Int32) (c1 : Int32) (cs : Int32) (h0 : Heap) (n0 : Nat) (v_ : Option Value) (h_ : Heap) (L_ : List Loc) : Prop := (v_ = some (.int (-1 : Int32))) ∧ (Fr n0 L_) ∧ (h_ = h0)
set_option maxRecDepth 65536 in
set_option maxHeartbeats 40000000 in
theorem rmI22 (l : Launch) (Z : State) (a0 : Array Value) (hw : ∀ d ∈ tables_1, d.before a0 Z = true) (ws : List Jvm.Cond) (a : Addr) (k9 : Int32) (d : Addr) (kd : ClassId) (c0 : Int32) (c1 : Int32) (cs : Int32) (h0 : Heap) (n0 : Nat) (Z0 : n0 ≤ h0.size) (p_0 : Exa Z h0 a "java/lang/String") (p_1 : Fld Z h0 a "java/lang/String" "coder" "B" (.int (0 : Int32))) (p_2 : Fld Z h0 a "java/lang/String" "value" "[B" (.ref d)) (p_3 : Arv Z h0 d kd .byte (2 : Int32) [(.int (own_by c0)), (.int (own_by c1))] (.int (0 : Int32))) (hk : own_in k9) (hi0 : own_in c0) (hi1 : own_in c1) (hn0 : ¬ c0 = k9) (hn1 : ¬ c1 = k9) (p_9 : Sta Z h0 "java/lang/String" "COMPACT_STRINGS" "Z" (.int cs)) (hcs : ¬ cs = (0 : Int32)) :
    MetFree l yy21 (head1 (Jvm.Cond.code yy21 jdk_42_method_80_code 3 (some .int) :: ws) rRrmI22) (fun a_ U_ => a_ = #[(.ref a), (.int k9), (.int (0 : Int32))] ∧ Z.Warmed39 U_.vm ∧ U_.heap = h0) (fun _ _ _ _ _ => True) (fun _ U_ o_ U1_ => ∃ v_ L_, o_ = .returned v_ ∧ QI22 Z a k9 d kd c0 c1 cs h0 n0 v_ U1_.heap L_ ∧ FrameEnd U_ o_ U1_ L_ rRrmI22.cells rRrmI22.slots) := by
  refine MetFree.of_bodySF pn_rmI22 hisR ?_
  intro p e s m args below meth c s₁ Bd hml0 hP hK
  obtain ⟨rfl, hZ, hh⟩ := hP
  have hx := Bd.exec
  have hby := Bd.bytes
  have hlk : meth.locks = false := Bd.notSynchronized
  have hml : c.maxLocals = 3 := hml0
  have hown : s.vm.findClass "java/lang/String" = some m.cls := findClass_of_methodNamed Bd.named
  have hnm := (name_of_methodNamed Bd.named Bd.method).1
  have X0 : Stand p l e rRrmI22 s m #[(.ref a), (.int k9), (.int (0 : Int32))] below meth c s₁ [] 0 0 := Stand.of_body Bd
  have e0 : s₁.heap = h0 := by rw [← hh, Bd.state]; rfl
  have N0 := Fr.nil n0
  show own_Goes p e below s (QI22 Z a k9 d kd c0 c1 cs h0 n0) rRrmI22.cells rRrmI22.slots s₁ (entryFrame m #[(.ref a), (.int k9), (.int (0 : Int32))] 3)
  rw [ef_rmI22 m a k9]
  show own_Goes p e below s (QI22 Z a k9 d kd c0 c1 cs h0 n0) rRrmI22.cells rRrmI22.slots s₁ (mkF m 0 #[rv a, iv k9, iv (0 : Int32)] [])
  refine own_st (fun _ kk_ => XS.aloadN X0.here hx rfl (hb hby d25_0) rfl rfl kk_) ?_
  show own_Goes _ _ _ _ _ _ _ s₁ (mkF m 1 #[rv a, iv k9, iv (0 : Int32)] [(.ref a)])
  obtain ⟨cq1, kq1, q1a, q1b, q1c⟩ := isOf hZ e0 p_0
  obtain ⟨_, _, ⟨T1, L1, k1, n1⟩, -, X1, ⟨Lc1, hQ1, l1, y1, z1⟩, st1⟩ := X0.virtualBack hx (y := yy5) (z := yy5) hown (mvT hZ (own_w hw 73 rfl)) (mvT hZ (own_w hw 74 rfl)) (notFace_of_selects (args := #[]) (mvT hZ (own_w hw 76 rfl))) (mvT hZ (own_w hw 76 rfl)) (mvT hZ (own_w hw 75 rfl)) (by decide) (backOf (W := 0) (rm16 l Z a0 hw [] (a) (cs) h0 n0 Z0 p_1 p_9 (by assumption)) hZ (own_w hw 77 rfl) (own_w hw 12 rfl) (by decide) (by decide)) q1a q1c (g := (mkF m 1 #[rv a, iv k9, iv (0 : Int32)] [(.ref a)])) rfl (by rw [hml]; rfl) (Steps.refl _) (argsL := []) (rest := []) (lenOf pd_6 rfl) rfl (by show 2 * 0 + _ ≤ _; exact Nat.le_of_eq rfl) (hb hby d25_1) (fun _ _ => ⟨rfl, e0, (by decide : 0 + 0 ≤ _), (by decide : 0 + 0 ≤ _)⟩)
  dsimp only [Pt.U, Pt.locs, Pt.cells, Pt.slots] at X1 l1 y1 z1 st1 hQ1
  subst l1 y1 z1
  obtain ⟨rfl, Nq1, eq1⟩ := hQ1
  have N1 := Fr.app N0 Nq1
  refine own_st (fun _ kk_ => st1.trans kk_) ?_
  show own_Goes _ _ _ _ _ _ _ T1 (mkF m 4 #[rv a, iv k9, iv (0 : Int32)] [(.int (1 : Int32))])
  refine own_st (fun _ kk_ => XS.ifNo X1.here hx rfl (hb hby d25_4) rfl (XT.i0_eq_f (by decide)) (XS.aloadN X1.here hx rfl (hb hby d25_7) rfl rfl kk_)) ?_
  show own_Goes _ _ _ _ _ _ _ T1 (mkF m 8 #[rv a, iv k9, iv (0 : Int32)] [(.ref a)])
  obtain ⟨T2, X2, e2, st2⟩ := getF X1 hx hZ hown (host := "") (Or.inl (own_w hw 38 rfl)) Via.refl eq1 p_2 (g := (mkF m 8 #[rv a, iv k9, iv (0 : Int32)] [(.ref a)])) rfl rfl (hb hby d25_8)
  refine own_st st2 ?_
  show own_Goes _ _ _ _ _ _ _ T2 (mkF m 11 #[rv a, iv k9, iv (0 : Int32)] [(.ref d)])
  refine own_st (fun _ kk_ => XS.iloadN X2.here hx rfl (hb hby d25_11) rfl (XS.iloadN X2.here hx rfl (hb hby d25_12) rfl (XS.aloadN X2.here hx rfl (hb hby d25_13) rfl rfl kk_))) ?_
  show own_Goes _ _ _ _ _ _ _ T2 (mkF m 14 #[rv a, iv k9, iv (0 : Int32)] [(.ref a), (.int (0 : Int32)), (.int k9), (.ref d)])
  obtain ⟨cq3, kq3, q3a, q3b, q3c⟩ := isOf hZ e2 p_0
  obtain ⟨_, _, ⟨T3, L3, k3, n3⟩, -, X3, ⟨Lc3, hQ3, l3, y3, z3⟩, st3⟩ := X2.virtualBack hx (y := yy6) (z := yy6) hown (mvT hZ (own_w hw 119 rfl)) (mvT hZ (own_w hw 120 rfl)) (notFace_of_selects (args := #[]) (mvT hZ (own_w hw 122 rfl))) (mvT hZ (own_w hw 122 rfl)) (mvT hZ (own_w hw 121 rfl)) (by decide) (backOf (W := 3) (rm26 l Z a0 hw [] (a) (d) (kd) ((2 : Int32)) ([(.int (own_by c0)), (.int (own_by c1))]) (cs) h0 n0 Z0 p_0 p_1 p_2 p_3 p_9 (by assumption)) hZ (own_w hw 123 rfl) (own_w hw 12 rfl) (by decide) (by decide)) q3a q3c (g := (mkF m 14 #[rv a, iv k9, iv (0 : Int32)] [(.ref a), (.int (0 : Int32)), (.int k9), (.ref d)])) rfl (by rw [hml]; rfl) (Steps.refl _) (argsL := []) (rest := [(.int (0 : Int32)), (.int k9), (.ref d)]) (lenOf pd_10 rfl) rfl (by show 2 * 0 + _ ≤ _; exact Nat.le_of_eq rfl) (hb hby d25_14) (fun _ _ => ⟨rfl, e2, (by decide : 0 + 0 ≤ _), (by decide : 0 + 0 ≤ _)⟩)
  dsimp only [Pt.U, Pt.locs, Pt.cells, Pt.slots] at X3 l3 y3 z3 st3 hQ3
  subst l3 y3 z3
  obtain ⟨rfl, Nq3, eq3⟩ := hQ3
  have N3 := Fr.app N1 Nq3
  refine own_st (fun _ kk_ => st3.trans kk_) ?_
  show own_Goes _ _ _ _ _ _ _ T3 (mkF m 17 #[rv a, iv k9, iv (0 : Int32)] [(.int (2 : Int32)), (.int (0 : Int32)), (.int k9), (.ref d)])
  obtain ⟨_, _, ⟨T4, L4, k4, n4⟩, -, X4, ⟨Lc4, hQ4, l4, y4, z4⟩, st4⟩ := Jvm.LawKit.callS X3 hx (y := yy20) hown (mvT hZ (own_w hw 129 rfl)) (mvT hZ (own_w hw 130 rfl)) (mvT hZ (own_w hw 80 rfl)) (mvT hZ (own_w hw 131 rfl)) (by decide) (backOf (W := 0) (rmIX2 l Z a0 hw [] (d) (k9) (kd) (c0) (c1) h0 n0 Z0 p_3 hk hi0 hi1 hn0 hn1) hZ (own_w hw 131 rfl) (own_w hw 80 rfl) (by decide) (by decide)) (g := (mkF m 17 #[rv a, iv k9, iv (0 : Int32)] [(.int (2 : Int32)), (.int (0 : Int32)), (.int k9), (.ref d)])) rfl (by rw [hml]; rfl) (argsL := [(.ref d), (.int k9), (.int (0 : Int32)), (.int (2 : Int32))]) (rest := []) (lenOf pd_9 rfl) rfl (by show 2 * 0 + _ ≤ _; exact Nat.le_of_eq rfl) (hb hby d25_17) (fun _ _ => ⟨rfl, eq3, (by decide : 0 + 0 ≤ _), (by decide : 0 + 0 ≤ _)⟩)
  dsimp only [Pt.U, Pt.locs, Pt.cells, Pt.slots] at X4 l4 y4 z4 st4 hQ4
  subst l4 y4 z4
  obtain ⟨rfl, Nq4, eq4⟩ := hQ4
  have N4 := Fr.app N3 Nq4
  refine own_st st4 ?_
  show own_Goes _ _ _ _ _ _ _ T4 (mkF m 20 #[rv a, iv k9, iv (0 : Int32)] [(.int (-1 : Int32))])
  refine own_st (fun _ kk_ => XS.goto X4.here hx rfl (pc0 := 20) (pc' := 36) rfl (hb hby d25_20) (by decide) (by decide) kk_) ?_
  show own_Goes _ _ _ _ _ _ _ T4 (mkF m 36 #[rv a, iv k9, iv (0 : Int32)] [(.int (-1 : Int32))])
  refine own_retI X4 hx hlk Bd.returns (hb hby d25_36) (by decide) (by decide) ?_
  show QI22 Z a k9 d kd c0 c1 cs h0 n0 (some (.int (-1 : Int32))) T4.heap _
  rw [eq4]
  exact ⟨rfl, N4, rfl⟩
abbrev rRrmI12 : Room := { frames := 3, cells := 0, slots := 0, locals := 46 }
theorem pn_rmI12 : plainFor yy22 = true := by first | exact plainFor_of_name (by first | (simp [plainName, overriddenIn]; done) | decide +kernel) | decide +kernel
theorem ef_rmI12 (m : MethodId) (a : Addr) (k9 : Int32) : entryFrame m #[(.ref a), (.int k9)] 2 = (mkF m 0 #[rv a, iv k9] []) := by first | (simp [entryFrame, mkF, argsToLocals, Value.category]; done) | rfl
def QI12 (Z : State) (a : Addr) (k9 : Int32) (d : Addr) (kd : ClassId) (c0 : Int32) (c1 : Int32) (cs : Int32) (h0 : Heap) (n0 : Nat) (v_ : Option Value) (h_ : Heap) (L_ : List Loc) : Prop := (v_ = some (.int (-1 : Int32))) ∧ (Fr n0 L_) ∧ (h_ = h0)
set_option maxRecDepth 65536 in
set_option maxHeartbeats 40000000 in
theorem rmI12 (l : Launch) (Z : State) (a0 : Array Value) (hw : ∀ d ∈ tables_1, d.before a0 Z = true) (ws : List Jvm.Cond) (a : Addr) (k9 : Int32) (d : Addr) (kd : ClassId) (c0 : Int32) (c1 : Int32) (cs : Int32) (h0 : Heap) (n0 : Nat) (Z0 : n0 ≤ h0.size) (p_0 : Exa Z h0 a "java/lang/String") (p_1 : Fld Z h0 a "java/lang/String" "coder" "B" (.int (0 : Int32))) (p_2 : Fld Z h0 a "java/lang/String" "value" "[B" (.ref d)) (p_3 : Arv Z h0 d kd .byte (2 : Int32) [(.int (own_by c0)), (.int (own_by c1))] (.int (0 : Int32))) (hk : own_in k9) (hi0 : own_in c0) (hi1 : own_in c1) (hn0 : ¬ c0 = k9) (hn1 : ¬ c1 = k9) (p_9 : Sta Z h0 "java/lang/String" "COMPACT_STRINGS" "Z" (.int cs)) (hcs : ¬ cs = (0 : Int32)) :
    MetFree l yy22 (head1 (Jvm.Cond.code yy22 jdk_42_method_79_code 2 (some .int) :: ws) rRrmI12) (fun a_ U_ => a_ = #[(.ref a), (.int k9)] ∧ Z.Warmed39 U_.vm ∧ U_.heap = h0) (fun _ _ _ _ _ => True) (fun _ U_ o_ U1_ => ∃ v_ L_, o_ = .returned v_ ∧ QI12 Z a k9 d kd c0 c1 cs h0 n0 v_ U1_.heap L_ ∧ FrameEnd U_ o_ U1_ L_ rRrmI12.cells rRrmI12.slots) := by
  refine MetFree.of_bodySF pn_rmI12 hisR ?_
  intro p e s m args below meth c s₁ Bd hml0 hP hK
  obtain ⟨rfl, hZ, hh⟩ := hP
  have hx := Bd.exec
  have hby := Bd.bytes
  have hlk : meth.locks = false := Bd.notSynchronized
  have hml : c.maxLocals = 2 := hml0
  have hown : s.vm.findClass "java/lang/String" = some m.cls := findClass_of_methodNamed Bd.named
  have hnm := (name_of_methodNamed Bd.named Bd.method).1
  have X0 : Stand p l e rRrmI12 s m #[(.ref a), (.int k9)] below meth c s₁ [] 0 0 := Stand.of_body Bd
  have e0 : s₁.heap = h0 := by rw [← hh, Bd.state]; rfl
  have N0 := Fr.nil n0
  show own_Goes p e below s (QI12 Z a k9 d kd c0 c1 cs h0 n0) rRrmI12.cells rRrmI12.slots s₁ (entryFrame m #[(.ref a), (.int k9)] 2)
  rw [ef_rmI12 m a k9]
  show own_Goes p e below s (QI12 Z a k9 d kd c0 c1 cs h0 n0) rRrmI12.cells rRrmI12.slots s₁ (mkF m 0 #[rv a, iv k9] [])
  refine own_st (fun _ kk_ => XS.aloadN X0.here hx rfl (hb hby d24_0) rfl rfl (XS.iloadN X0.here hx rfl (hb hby d24_1) rfl (XS.iconst X0.here hx rfl (hb hby d24_2) kk_))) ?_
  show own_Goes _ _ _ _ _ _ _ s₁ (mkF m 3 #[rv a, iv k9] [(.int (0 : Int32)), (.int k9), (.ref a)])
  obtain ⟨cq1, kq1, q1a, q1b, q1c⟩ := isOf hZ e0 p_0
  obtain ⟨_, _, ⟨T1, L1, k1, n1⟩, -, X1, ⟨Lc1, hQ1, l1, y1, z1⟩, st1⟩ := X0.virtualBack hx (y := yy21) (z := yy21) hown (mvT hZ (own_w hw 114 rfl)) (mvT hZ (own_w hw 115 rfl)) (notFace_of_selects (args := #[]) (mvT hZ (own_w hw 117 rfl))) (mvT hZ (own_w hw 117 rfl)) (mvT hZ (own_w hw 116 rfl)) (by decide) (backOf (W := 0) (rmI22 l Z a0 hw [] (a) (k9) (d) (kd) (c0) (c1) (cs) h0 n0 Z0 p_0 p_1 p_2 p_3 hk hi0 hi1 hn0 hn1 p_9 (by assumption)) hZ (own_w hw 118 rfl) (own_w hw 12 rfl) (by decide) (by decide)) q1a q1c (g := (mkF m 3 #[rv a, iv k9] [(.int (0 : Int32)), (.int k9), (.ref a)])) rfl (by rw [hml]; rfl) (Steps.refl _) (argsL := [(.int k9), (.int (0 : Int32))]) (rest := []) (lenOf pd_8 rfl) rfl (by show 2 * 0 + _ ≤ _; exact Nat.le_of_eq rfl) (hb hby d24_3) (fun _ _ => ⟨rfl, e0, (by decide : 0 + 0 ≤ _), (by decide : 0 + 0 ≤ _)⟩)
  dsimp only [Pt.U, Pt.locs, Pt.cells, Pt.slots] at X1 l1 y1 z1 st1 hQ1
  subst l1 y1 z1
  obtain ⟨rfl, Nq1, eq1⟩ := hQ1
  have N1 := Fr.app N0 Nq1
  refine own_st (fun _ kk_ => st1.trans kk_) ?_
  show own_Goes _ _ _ _ _ _ _ T1 (mkF m 6 #[rv a, iv k9] [(.int (-1 : Int32))])
  refine own_retI X1 hx hlk Bd.returns (hb hby d24_6) (by decide) (by decide) ?_
  show QI12 Z a k9 d kd c0 c1 cs h0 n0 (some (.int (-1 : Int32))) T1.heap _
  rw [eq1]
  exact ⟨rfl, N1, rfl⟩
abbrev rRrmEM2 : Room := { frames := 0, cells := 0, slots := 0, locals := 0 }
theorem pn_rmEM2 : plainFor yy23 = true := by first | exact plainFor_of_name (by first | (simp [plainName, overriddenIn]; done) | decide +kernel) | decide +kernel
theorem ef_rmEM2 (m : MethodId) (a : Addr) : entryFrame m #[(.ref a)] 1 = (mkF m 0 #[rv a] []) := by first | (simp [entryFrame, mkF, argsToLocals, Value.category]; done) | rfl
def QEM2 (Z : State) (a : Addr) (d : Addr) (kd : ClassId) (c0 : Int32) (c1 : Int32) (h0 : Heap) (n0 : Nat) (v_ : Option Value) (h_ : Heap) (L_ : List Loc) : Prop := (v_ = some (.int (0 : Int32))) ∧ (Fr n0 L_) ∧ (h_ = h0)
set_option maxRecDepth 65536 in
set_option maxHeartbeats 40000000 in
theorem rmEM2 (l : Launch) (Z : State) (a0 : Array Value) (hw : ∀ d ∈ tables_1, d.before a0 Z = true) (ws : List Jvm.Cond) (a : Addr) (d : Addr) (kd : ClassId) (c0 : Int32) (c1 : Int32) (h0 : Heap) (n0 : Nat) (Z0 : n0 ≤ h0.size) (p_0 : Exa Z h0 a "java/lang/String") (p_1 : Fld Z h0 a "java/lang/String" "coder" "B" (.int (0 : Int32))) (p_2 : Fld Z h0 a "java/lang/String" "value" "[B" (.ref d)) (p_3 : Arv Z h0 d kd .byte (2 : Int32) [(.int (own_by c0)), (.int (own_by c1))] (.int (0 : Int32))) :
    MetFree l yy23 (head1 (Jvm.Cond.code yy23 jdk_42_method_55_code 1 (some .boolean) :: ws) rRrmEM2) (fun a_ U_ => a_ = #[(.ref a)] ∧ Z.Warmed39 U_.vm ∧ U_.heap = h0) (fun _ _ _ _ _ => True) (fun _ U_ o_ U1_ => ∃ v_ L_, o_ = .returned v_ ∧ QEM2 Z a d kd c0 c1 h0 n0 v_ U1_.heap L_ ∧ FrameEnd U_ o_ U1_ L_ rRrmEM2.cells rRrmEM2.slots) := by
  refine MetFree.of_bodySF pn_rmEM2 hisR ?_
  intro p e s m args below meth c s₁ Bd hml0 hP hK
  obtain ⟨rfl, hZ, hh⟩ := hP
  have hx := Bd.exec
  have hby := Bd.bytes
  have hlk : meth.locks = false := Bd.notSynchronized
  have hml : c.maxLocals = 1 := hml0
  have hown : s.vm.findClass "java/lang/String" = some m.cls := findClass_of_methodNamed Bd.named
  have hnm := (name_of_methodNamed Bd.named Bd.method).1
  have X0 : Stand p l e rRrmEM2 s m #[(.ref a)] below meth c s₁ [] 0 0 := Stand.of_body Bd
  have e0 : s₁.heap = h0 := by rw [← hh, Bd.state]; rfl
  have N0 := Fr.nil n0
  show own_Goes p e below s (QEM2 Z a d kd c0 c1 h0 n0) rRrmEM2.cells rRrmEM2.slots s₁ (entryFrame m #[(.ref a)] 1)
  rw [ef_rmEM2 m a]
  show own_Goes p e below s (QEM2 Z a d kd c0 c1 h0 n0) rRrmEM2.cells rRrmEM2.slots s₁ (mkF m 0 #[rv a] [])
  refine own_st (fun _ kk_ => XS.aloadN X0.here hx rfl (hb hby d14_0) rfl rfl kk_) ?_
  show own_Goes _ _ _ _ _ _ _ s₁ (mkF m 1 #[rv a] [(.ref a)])
  obtain ⟨T1, X1, e1, st1⟩ := getF X0 hx hZ hown (host := "") (Or.inl (own_w hw 38 rfl)) Via.refl e0 p_2 (g := (mkF m 1 #[rv a] [(.ref a)])) rfl rfl (hb hby d14_1)
  refine own_st st1 ?_
  show own_Goes _ _ _ _ _ _ _ T1 (mkF m 4 #[rv a] [(.ref d)])
  obtain ⟨cl2, Ar2, -, Sz2, Nn2, -, -⟩ := id p_3
  refine own_st (fun _ kk_ => X1.arraylength hx (by rw [e1]; exact Ar2.1) (State.isArrayOf_alike hZ.alike Ar2.2.1) (g := (mkF m 4 #[rv a] [(.ref d)])) rfl rfl (hb hby d14_4) _ kk_) ?_
  rw [len_of Sz2 Nn2]
  show own_Goes _ _ _ _ _ _ _ T1 (mkF m 5 #[rv a] [(.int (2 : Int32))])
  refine own_st (fun _ kk_ => XS.ifYes X1.here hx rfl (pc0 := 5) (pc' := 12) rfl (hb hby d14_5) rfl (XT.i0_ne_t (by decide)) (by decide) (by decide) (XS.iconst X1.here hx rfl (hb hby d14_12) kk_)) ?_
  show own_Goes _ _ _ _ _ _ _ T1 (mkF m 13 #[rv a] [(.int (0 : Int32))])
  refine own_retN X1 hx hlk (t := .boolean) Bd.returns (by simp) (hb hby d14_13) (by decide) (by decide) ?_
  show QEM2 Z a d kd c0 c1 h0 n0 (some (.int (nar .boolean (0 : Int32)))) T1.heap _
  rw [e1]
  exact ⟨rfl, N0, rfl⟩
abbrev rRrmIC3 : Room := { frames := 0, cells := 0, slots := 0, locals := 0 }
theorem pn_rmIC3 : plainFor yy19 = true := by first | exact plainFor_of_name (by first | (simp [plainName, overriddenIn]; done) | decide +kernel) | decide +kernel
theorem ef_rmIC3 (m : MethodId) (d : Addr) (k9 : Int32) : entryFrame m #[(.ref d), (.int k9), (.int (0 : Int32)), (.int (3 : Int32))] 6 = (mkF m 0 #[rv d, iv k9, iv (0 : Int32), iv (3 : Int32), .unset, .unset] []) := by first | (simp [entryFrame, mkF, argsToLocals, Value.category]; done) | rfl
def QIC3 (Z : State) (d : Addr) (k9 : Int32) (kd : ClassId) (c0 : Int32) (c1 : Int32) (c2 : Int32) (h0 : Heap) (n0 : Nat) (v_ : Option Value) (h_ : Heap) (L_ : List Loc) : Prop := (v_ = some (.int (-1 : Int32))) ∧ (Fr n0 L_) ∧ (h_ = h0)
set_option maxRecDepth 65536 in
set_option maxHeartbeats 40000000 in
theorem rmIC3 (l : Launch) (Z : State) (a0 : Array Value) (hw : ∀ d ∈ tables_1, d.before a0 Z = true) (ws : List Jvm.Cond) (d : Addr) (k9 : Int32) (kd : ClassId) (c0 : Int32) (c1 : Int32) (c2 : Int32) (h0 : Heap) (n0 : Nat) (Z0 : n0 ≤ h0.size) (p_0 : Arv Z h0 d kd .byte (3 : Int32) [(.int (own_by c0)), (.int (own_by c1)), (.int (own_by c2))] (.int (0 : Int32))) (hk : own_in k9) (hi0 : own_in c0) (hi1 : own_in c1) (hi2 : own_in c2) (hn0 : ¬ c0 = k9) (hn1 : ¬ c1 = k9) (hn2 : ¬ c2 = k9) :
    MetFree l yy19 (head1 (Jvm.Cond.code yy19 jdk_43_method_23_code 6 (some .int) :: ws) rRrmIC3) (fun a_ U_ => a_ = #[(.ref d), (.int k9), (.int (0 : Int32)), (.int (3 : Int32))] ∧ Z.Warmed39 U_.vm ∧ U_.heap = h0) (fun _ _ _ _ _ => True) (fun _ U_ o_ U1_ => ∃ v_ L_, o_ = .returned v_ ∧ QIC3 Z d k9 kd c0 c1 c2 h0 n0 v_ U1_.heap L_ ∧ FrameEnd U_ o_ U1_ L_ rRrmIC3.cells rRrmIC3.slots) := by
  refine MetFree.of_bodySF pn_rmIC3 hisR ?_
  intro p e s m args below meth c s₁ Bd hml0 hP hK
  obtain ⟨rfl, hZ, hh⟩ := hP
  have hx := Bd.exec
  have hby := Bd.bytes
  have hlk : meth.locks = false := Bd.notSynchronized
  have hml : c.maxLocals = 6 := hml0
  have hown : s.vm.findClass "java/lang/StringLatin1" = some m.cls := findClass_of_methodNamed Bd.named
  have hnm := (name_of_methodNamed Bd.named Bd.method).1
  have X0 : Stand p l e rRrmIC3 s m #[(.ref d), (.int k9), (.int (0 : Int32)), (.int (3 : Int32))] below meth c s₁ [] 0 0 := Stand.of_body Bd
  have e0 : s₁.heap = h0 := by rw [← hh, Bd.state]; rfl
  have N0 := Fr.nil n0
  show own_Goes p e below s (QIC3 Z d k9 kd c0 c1 c2 h0 n0) rRrmIC3.cells rRrmIC3.slots s₁ (entryFrame m #[(.ref d), (.int k9), (.int (0 : Int32)), (.int (3 : Int32))] 6)
  rw [ef_rmIC3 m d k9]
  show own_Goes p e below s (QIC3 Z d k9 kd c0 c1 c2 h0 n0) rRrmIC3.cells rRrmIC3.slots s₁ (mkF m 0 #[rv d, iv k9, iv (0 : Int32), iv (3 : Int32), .unset, .unset] [])
  refine own_st (fun _ kk_ => XS.iloadN X0.here hx rfl (hb hby d32_0) rfl (XS.i2b X0.here hx rfl (hb hby d32_1) rfl (XS.istore X0.here hx rfl (hb hby d32_2) rfl (l' := #[rv d, iv k9, iv (0 : Int32), iv (3 : Int32), iv (k9.toInt8.toInt32), .unset]) rfl (XS.iloadN X0.here hx rfl (hb hby d32_4) rfl (XS.istore X0.here hx rfl (hb hby d32_5) rfl (l' := #[rv d, iv k9, iv (0 : Int32), iv (3 : Int32), iv (k9.toInt8.toInt32), iv (0 : Int32)]) rfl (XS.iload X0.here hx rfl (hb hby d32_7) rfl (XS.iloadN X0.here hx rfl (hb hby d32_9) rfl (XS.icmpNo X0.here hx rfl (hb hby d32_10) rfl (XT.ii_ge_f (by decide)) (XS.aloadN X0.here hx rfl (hb hby d32_13) rfl rfl (XS.iload X0.here hx rfl (hb hby d32_14) rfl kk_)))))))))) ?_
  show own_Goes _ _ _ _ _ _ _ s₁ (mkF m 16 #[rv d, iv k9, iv (0 : Int32), iv (3 : Int32), iv (k9.toInt8.toInt32), iv (0 : Int32)] [(.int (0 : Int32)), (.ref d)])
  obtain ⟨cl1, Ar1, q1, Sz1, Nn1, Hh1, Gg1⟩ := id p_0
  refine own_st (fun _ kk_ => X0.baloadBytes hx (j := (0 : Int32)) (v := (.int (own_by c0))) (by rw [e0]; exact Ar1.1) (State.isArrayOf_alike hZ.alike Ar1.2.1) Ar1.2.2 (inb_of Sz1 ⟨by decide, by decide⟩) (Hh1.at (inb_of Sz1 ⟨by decide, by decide⟩) rfl) (g := (mkF m 16 #[rv d, iv k9, iv (0 : Int32), iv (3 : Int32), iv (k9.toInt8.toInt32), iv (0 : Int32)] [(.int (0 : Int32)), (.ref d)])) rfl rfl (hb hby d32_16) _ kk_) ?_
  show own_Goes _ _ _ _ _ _ _ s₁ (mkF m 17 #[rv d, iv k9, iv (0 : Int32), iv (3 : Int32), iv (k9.toInt8.toInt32), iv (0 : Int32)] [(.int (own_by c0))])
  refine own_st (fun _ kk_ => XS.iload X0.here hx rfl (hb hby d32_17) rfl (XS.icmpYes X0.here hx rfl (pc0 := 19) (pc' := 25) rfl (hb hby d32_19) rfl (XT.ii_ne_t (own_nbi hi0 hk hn0)) (by decide) (by decide) (XS.iinc X0.here hx rfl (hb hby d32_25) rfl (l' := #[rv d, iv k9, iv (0 : Int32), iv (3 : Int32), iv (k9.toInt8.toInt32), iv (1 : Int32)]) rfl (XS.goto X0.here hx rfl (pc0 := 28) (pc' := 7) rfl (hb hby d32_28) (by decide) (by decide) (XS.iload X0.here hx rfl (hb hby d32_7) rfl (XS.iloadN X0.here hx rfl (hb hby d32_9) rfl (XS.icmpNo X0.here hx rfl (hb hby d32_10) rfl (XT.ii_ge_f (by decide)) (XS.aloadN X0.here hx rfl (hb hby d32_13) rfl rfl (XS.iload X0.here hx rfl (hb hby d32_14) rfl kk_))))))))) ?_
  show own_Goes _ _ _ _ _ _ _ s₁ (mkF m 16 #[rv d, iv k9, iv (0 : Int32), iv (3 : Int32), iv (k9.toInt8.toInt32), iv (1 : Int32)] [(.int (1 : Int32)), (.ref d)])
  obtain ⟨cl2, Ar2, q2, Sz2, Nn2, Hh2, Gg2⟩ := id p_0
  refine own_st (fun _ kk_ => X0.baloadBytes hx (j := (1 : Int32)) (v := (.int (own_by c1))) (by rw [e0]; exact Ar2.1) (State.isArrayOf_alike hZ.alike Ar2.2.1) Ar2.2.2 (inb_of Sz2 ⟨by decide, by decide⟩) (Hh2.at (inb_of Sz2 ⟨by decide, by decide⟩) rfl) (g := (mkF m 16 #[rv d, iv k9, iv (0 : Int32), iv (3 : Int32), iv (k9.toInt8.toInt32), iv (1 : Int32)] [(.int (1 : Int32)), (.ref d)])) rfl rfl (hb hby d32_16) _ kk_) ?_
  show own_Goes _ _ _ _ _ _ _ s₁ (mkF m 17 #[rv d, iv k9, iv (0 : Int32), iv (3 : Int32), iv (k9.toInt8.toInt32), iv (1 : Int32)] [(.int (own_by c1))])
  refine own_st (fun _ kk_ => XS.iload X0.here hx rfl (hb hby d32_17) rfl (XS.icmpYes X0.here hx rfl (pc0 := 19) (pc' := 25) rfl (hb hby d32_19) rfl (XT.ii_ne_t (own_nbi hi1 hk hn1)) (by decide) (by decide) (XS.iinc X0.here hx rfl (hb hby d32_25) rfl (l' := #[rv d, iv k9, iv (0 : Int32), iv (3 : Int32), iv (k9.toInt8.toInt32), iv (2 : Int32)]) rfl (XS.goto X0.here hx rfl (pc0 := 28) (pc' := 7) rfl (hb hby d32_28) (by decide) (by decide) (XS.iload X0.here hx rfl (hb hby d32_7) rfl (XS.iloadN X0.here hx rfl (hb hby d32_9) rfl (XS.icmpNo X0.here hx rfl (hb hby d32_10) rfl (XT.ii_ge_f (by decide)) (XS.aloadN X0.here hx rfl (hb hby d32_13) rfl rfl (XS.iload X0.here hx rfl (hb hby d32_14) rfl kk_))))))))) ?_
  show own_Goes _ _ _ _ _ _ _ s₁ (mkF m 16 #[rv d, iv k9, iv (0 : Int32), iv (3 : Int32), iv (k9.toInt8.toInt32), iv (2 : Int32)] [(.int (2 : Int32)), (.ref d)])
  obtain ⟨cl3, Ar3, q3, Sz3, Nn3, Hh3, Gg3⟩ := id p_0
  refine own_st (fun _ kk_ => X0.baloadBytes hx (j := (2 : Int32)) (v := (.int (own_by c2))) (by rw [e0]; exact Ar3.1) (State.isArrayOf_alike hZ.alike Ar3.2.1) Ar3.2.2 (inb_of Sz3 ⟨by decide, by decide⟩) (Hh3.at (inb_of Sz3 ⟨by decide, by decide⟩) rfl) (g := (mkF m 16 #[rv d, iv k9, iv (0 : Int32), iv (3 : Int32), iv (k9.toInt8.toInt32), iv (2 : Int32)] [(.int (2 : Int32)), (.ref d)])) rfl rfl (hb hby d32_16) _ kk_) ?_
  show own_Goes _ _ _ _ _ _ _ s₁ (mkF m 17 #[rv d, iv k9, iv (0 : Int32), iv (3 : Int32), iv (k9.toInt8.toInt32), iv (2 : Int32)] [(.int (own_by c2))])
  refine own_st (fun _ kk_ => XS.iload X0.here hx rfl (hb hby d32_17) rfl (XS.icmpYes X0.here hx rfl (pc0 := 19) (pc' := 25) rfl (hb hby d32_19) rfl (XT.ii_ne_t (own_nbi hi2 hk hn2)) (by decide) (by decide) (XS.iinc X0.here hx rfl (hb hby d32_25) rfl (l' := #[rv d, iv k9, iv (0 : Int32), iv (3 : Int32), iv (k9.toInt8.toInt32), iv (3 : Int32)]) rfl (XS.goto X0.here hx rfl (pc0 := 28) (pc' := 7) rfl (hb hby d32_28) (by decide) (by decide) (XS.iload X0.here hx rfl (hb hby d32_7) rfl (XS.iloadN X0.here hx rfl (hb hby d32_9) rfl (XS.icmpYes X0.here hx rfl (pc0 := 10) (pc' := 31) rfl (hb hby d32_10) rfl (XT.ii_ge_t (by decide)) (by decide) (by decide) (XS.iconst X0.here hx rfl (hb hby d32_31) kk_)))))))) ?_
  show own_Goes _ _ _ _ _ _ _ s₁ (mkF m 32 #[rv d, iv k9, iv (0 : Int32), iv (3 : Int32), iv (k9.toInt8.toInt32), iv (3 : Int32)] [(.int (-1 : Int32))])
  refine own_retI X0 hx hlk Bd.returns (hb hby d32_32) (by decide) (by decide) ?_
  show QIC3 Z d k9 kd c0 c1 c2 h0 n0 (some (.int (-1 : Int32))) s₁.heap _
  rw [e0]
  exact ⟨rfl, N0, rfl⟩
abbrev rRrmIX3 : Room := { frames := 1, cells := 0, slots := 0, locals := 17 }
theorem pn_rmIX3 : plainFor yy20 = true := by first | exact plainFor_of_name (by first | (simp [plainName, overriddenIn]; done) | decide +kernel) | decide +kernel
theorem ef_rmIX3 (m : MethodId) (d : Addr) (k9 : Int32) : entryFrame m #[(.ref d), (.int k9), (.int (0 : Int32)), (.int (3 : Int32))] 4 = (mkF m 0 #[rv d, iv k9, iv (0 : Int32), iv (3 : Int32)] []) := by first | (simp [entryFrame, mkF, argsToLocals, Value.category]; done) | rfl
def QIX3 (Z : State) (d : Addr) (k9 : Int32) (kd : ClassId) (c0 : Int32) (c1 : Int32) (c2 : Int32) (h0 : Heap) (n0 : Nat) (v_ : Option Value) (h_ : Heap) (L_ : List Loc) : Prop := (v_ = some (.int (-1 : Int32))) ∧ (Fr n0 L_) ∧ (h_ = h0)
set_option maxRecDepth 65536 in
set_option maxHeartbeats 40000000 in
theorem rmIX3 (l : Launch) (Z : State) (a0 : Array Value) (hw : ∀ d ∈ tables_1, d.before a0 Z = true) (ws : List Jvm.Cond) (d : Addr) (k9 : Int32) (kd : ClassId) (c0 : Int32) (c1 : Int32) (c2 : Int32) (h0 : Heap) (n0 : Nat) (Z0 : n0 ≤ h0.size) (p_0 : Arv Z h0 d kd .byte (3 : Int32) [(.int (own_by c0)), (.int (own_by c1)), (.int (own_by c2))] (.int (0 : Int32))) (hk : own_in k9) (hi0 : own_in c0) (hi1 : own_in c1) (hi2 : own_in c2) (hn0 : ¬ c0 = k9) (hn1 : ¬ c1 = k9) (hn2 : ¬ c2 = k9) :
    MetFree l yy20 (head1 (Jvm.Cond.code yy20 jdk_43_method_22_code 4 (some .int) :: ws) rRrmIX3) (fun a_ U_ => a_ = #[(.ref d), (.int k9), (.int (0 : Int32)), (.int (3 : Int32))] ∧ Z.Warmed39 U_.vm ∧ U_.heap = h0) (fun _ _ _ _ _ => True) (fun _ U_ o_ U1_ => ∃ v_ L_, o_ = .returned v_ ∧ QIX3 Z d k9 kd c0 c1 c2 h0 n0 v_ U1_.heap L_ ∧ FrameEnd U_ o_ U1_ L_ rRrmIX3.cells rRrmIX3.slots) := by
  refine MetFree.of_bodySF pn_rmIX3 hisR ?_
  intro p e s m args below meth c s₁ Bd hml0 hP hK
  obtain ⟨rfl, hZ, hh⟩ := hP
  have hx := Bd.exec
  have hby := Bd.bytes
  have hlk : meth.locks = false := Bd.notSynchronized
  have hml : c.maxLocals = 4 := hml0
  have hown : s.vm.findClass "java/lang/StringLatin1" = some m.cls := findClass_of_methodNamed Bd.named
  have hnm := (name_of_methodNamed Bd.named Bd.method).1
  have X0 : Stand p l e rRrmIX3 s m #[(.ref d), (.int k9), (.int (0 : Int32)), (.int (3 : Int32))] below meth c s₁ [] 0 0 := Stand.of_body Bd
  have e0 : s₁.heap = h0 := by rw [← hh, Bd.state]; rfl
  have N0 := Fr.nil n0
  show own_Goes p e below s (QIX3 Z d k9 kd c0 c1 c2 h0 n0) rRrmIX3.cells rRrmIX3.slots s₁ (entryFrame m #[(.ref d), (.int k9), (.int (0 : Int32)), (.int (3 : Int32))] 4)
  rw [ef_rmIX3 m d k9]
  show own_Goes p e below s (QIX3 Z d k9 kd c0 c1 c2 h0 n0) rRrmIX3.cells rRrmIX3.slots s₁ (mkF m 0 #[rv d, iv k9, iv (0 : Int32), iv (3 : Int32)] [])
  refine own_st (fun _ kk_ => XS.iloadN X0.here hx rfl (hb hby d28_0) rfl kk_) ?_
  show own_Goes _ _ _ _ _ _ _ s₁ (mkF m 1 #[rv d, iv k9, iv (0 : Int32), iv (3 : Int32)] [(.int k9)])
  obtain ⟨_, _, ⟨T1, L1, k1, n1⟩, -, X1, ⟨Lc1, hQ1, l1, y1, z1⟩, st1⟩ := Jvm.LawKit.callS X0 hx (y := yy17) hown (mvT hZ (own_w hw 132 rfl)) (mvT hZ (own_w hw 133 rfl)) (mvT hZ (own_w hw 80 rfl)) (mvT hZ (own_w hw 134 rfl)) (by decide) (backOf (W := 0) (rm29 l Z a0 hw [] (k9) h0 n0 Z0 hk) hZ (own_w hw 134 rfl) (own_w hw 80 rfl) (by decide) (by decide)) (g := (mkF m 1 #[rv d, iv k9, iv (0 : Int32), iv (3 : Int32)] [(.int k9)])) rfl (by rw [hml]; rfl) (argsL := [(.int k9)]) (rest := []) (lenOf pd_4 rfl) rfl (by show 2 * 0 + _ ≤ _; exact Nat.le_of_eq rfl) (hb hby d28_1) (fun _ _ => ⟨rfl, e0, (by decide : 0 + 0 ≤ _), (by decide : 0 + 0 ≤ _)⟩)
  dsimp only [Pt.U, Pt.locs, Pt.cells, Pt.slots] at X1 l1 y1 z1 st1 hQ1
  subst l1 y1 z1
  obtain ⟨rfl, Nq1, eq1⟩ := hQ1
  have N1 := Fr.app N0 Nq1
  refine own_st st1 ?_
  show own_Goes _ _ _ _ _ _ _ T1 (mkF m 4 #[rv d, iv k9, iv (0 : Int32), iv (3 : Int32)] [(.int (1 : Int32))])
  refine own_st (fun _ kk_ => XS.ifYes X1.here hx rfl (pc0 := 4) (pc' := 9) rfl (hb hby d28_4) rfl (XT.i0_ne_t (by decide)) (by decide) (by decide) (XS.iloadN X1.here hx rfl (hb hby d28_9) rfl (XS.iconst X1.here hx rfl (hb hby d28_10) kk_))) ?_
  show own_Goes _ _ _ _ _ _ _ T1 (mkF m 11 #[rv d, iv k9, iv (0 : Int32), iv (3 : Int32)] [(.int (0 : Int32)), (.int (0 : Int32))])
  obtain ⟨_, _, ⟨T2, L2, k2, n2⟩, -, X2, ⟨Lc2, hQ2, l2, y2, z2⟩, st2⟩ := Jvm.LawKit.callS X1 hx (y := yy7) hown (mvT hZ (own_w hw 135 rfl)) (mvT hZ (own_w hw 136 rfl)) (mvT hZ (own_w hw 137 rfl)) (mvT hZ (own_w hw 138 rfl)) (by decide) (backOf (W := 0) (rmxA l Z a0 hw [] ((0 : Int32)) ((0 : Int32)) h0 n0 Z0 (by decide)) hZ (own_w hw 138 rfl) (own_w hw 137 rfl) (by decide) (by decide)) (g := (mkF m 11 #[rv d, iv k9, iv (0 : Int32), iv (3 : Int32)] [(.int (0 : Int32)), (.int (0 : Int32))])) rfl (by rw [hml]; rfl) (argsL := [(.int (0 : Int32)), (.int (0 : Int32))]) (rest := []) (lenOf pd_8 rfl) rfl (by show 2 * 0 + _ ≤ _; exact Nat.le_of_eq rfl) (hb hby d28_11) (fun _ _ => ⟨rfl, eq1, (by decide : 0 + 0 ≤ _), (by decide : 0 + 0 ≤ _)⟩)
  dsimp only [Pt.U, Pt.locs, Pt.cells, Pt.slots] at X2 l2 y2 z2 st2 hQ2
  subst l2 y2 z2
  obtain ⟨rfl, Nq2, eq2⟩ := hQ2
  have N2 := Fr.app N1 Nq2
  refine own_st st2 ?_
  show own_Goes _ _ _ _ _ _ _ T2 (mkF m 14 #[rv d, iv k9, iv (0 : Int32), iv (3 : Int32)] [(.int (0 : Int32))])
  refine own_st (fun _ kk_ => XS.istoreN X2.here hx rfl (hb hby d28_14) rfl (l' := #[rv d, iv k9, iv (0 : Int32), iv (3 : Int32)]) rfl (XS.iloadN X2.here hx rfl (hb hby d28_15) rfl (XS.aloadN X2.here hx rfl (hb hby d28_16) rfl rfl kk_))) ?_
  show own_Goes _ _ _ _ _ _ _ T2 (mkF m 17 #[rv d, iv k9, iv (0 : Int32), iv (3 : Int32)] [(.ref d), (.int (3 : Int32))])
  obtain ⟨cl3, Ar3, -, Sz3, Nn3, -, -⟩ := id p_0
  refine own_st (fun _ kk_ => X2.arraylength hx (by rw [eq2]; exact Ar3.1) (State.isArrayOf_alike hZ.alike Ar3.2.1) (g := (mkF m 17 #[rv d, iv k9, iv (0 : Int32), iv (3 : Int32)] [(.ref d), (.int (3 : Int32))])) rfl rfl (hb hby d28_17) _ kk_) ?_
  rw [len_of Sz3 Nn3]
  show own_Goes _ _ _ _ _ _ _ T2 (mkF m 18 #[rv d, iv k9, iv (0 : Int32), iv (3 : Int32)] [(.int (3 : Int32)), (.int (3 : Int32))])
  obtain ⟨_, _, ⟨T4, L4, k4, n4⟩, -, X4, ⟨Lc4, hQ4, l4, y4, z4⟩, st4⟩ := Jvm.LawKit.callS X2 hx (y := yy8) hown (mvT hZ (own_w hw 139 rfl)) (mvT hZ (own_w hw 140 rfl)) (mvT hZ (own_w hw 137 rfl)) (mvT hZ (own_w hw 141 rfl)) (by decide) (backOf (W := 0) (rmnA l Z a0 hw [] ((3 : Int32)) ((3 : Int32)) h0 n0 Z0 (by decide)) hZ (own_w hw 141 rfl) (own_w hw 137 rfl) (by decide) (by decide)) (g := (mkF m 18 #[rv d, iv k9, iv (0 : Int32), iv (3 : Int32)] [(.int (3 : Int32)), (.int (3 : Int32))])) rfl (by rw [hml]; rfl) (argsL := [(.int (3 : Int32)), (.int (3 : Int32))]) (rest := []) (lenOf pd_8 rfl) rfl (by show 2 * 0 + _ ≤ _; exact Nat.le_of_eq rfl) (hb hby d28_18) (fun _ _ => ⟨rfl, eq2, (by decide : 0 + 0 ≤ _), (by decide : 0 + 0 ≤ _)⟩)
  dsimp only [Pt.U, Pt.locs, Pt.cells, Pt.slots] at X4 l4 y4 z4 st4 hQ4
  subst l4 y4 z4
  obtain ⟨rfl, Nq4, eq4⟩ := hQ4
  have N4 := Fr.app N2 Nq4
  refine own_st st4 ?_
  show own_Goes _ _ _ _ _ _ _ T4 (mkF m 21 #[rv d, iv k9, iv (0 : Int32), iv (3 : Int32)] [(.int (3 : Int32))])
  refine own_st (fun _ kk_ => XS.istoreN X4.here hx rfl (hb hby d28_21) rfl (l' := #[rv d, iv k9, iv (0 : Int32), iv (3 : Int32)]) rfl (XS.iloadN X4.here hx rfl (hb hby d28_22) rfl (XS.iloadN X4.here hx rfl (hb hby d28_23) rfl (XS.icmpYes X4.here hx rfl (pc0 := 24) (pc' := 29) rfl (hb hby d28_24) rfl (XT.ii_lt_t (by decide)) (by decide) (by decide) (XS.aloadN X4.here hx rfl (hb hby d28_29) rfl rfl (XS.iloadN X4.here hx rfl (hb hby d28_30) rfl (XS.iloadN X4.here hx rfl (hb hby d28_31) rfl (XS.iloadN X4.here hx rfl (hb hby d28_32) rfl kk_)))))))) ?_
  show own_Goes _ _ _ _ _ _ _ T4 (mkF m 33 #[rv d, iv k9, iv (0 : Int32), iv (3 : Int32)] [(.int (3 : Int32)), (.int (0 : Int32)), (.int k9), (.ref d)])
  obtain ⟨_, _, ⟨T5, L5, k5, n5⟩, -, X5, ⟨Lc5, hQ5, l5, y5, z5⟩, st5⟩ := Jvm.LawKit.callS X4 hx (y := yy19) hown (mvT hZ (own_w hw 142 rfl)) (mvT hZ (own_w hw 143 rfl)) (mvT hZ (own_w hw 80 rfl)) (mvT hZ (own_w hw 144 rfl)) (by decide) (backOf (W := 0) (rmIC3 l Z a0 hw [] (d) (k9) (kd) (c0) (c1) (c2) h0 n0 Z0 p_0 hk hi0 hi1 hi2 hn0 hn1 hn2) hZ (own_w hw 144 rfl) (own_w hw 80 rfl) (by decide) (by decide)) (g := (mkF m 33 #[rv d, iv k9, iv (0 : Int32), iv (3 : Int32)] [(.int (3 : Int32)), (.int (0 : Int32)), (.int k9), (.ref d)])) rfl (by rw [hml]; rfl) (argsL := [(.ref d), (.int k9), (.int (0 : Int32)), (.int (3 : Int32))]) (rest := []) (lenOf pd_9 rfl) rfl (by show 2 * 0 + _ ≤ _; exact Nat.le_of_eq rfl) (hb hby d28_33) (fun _ _ => ⟨rfl, eq4, (by decide : 0 + 0 ≤ _), (by decide : 0 + 0 ≤ _)⟩)
  dsimp only [Pt.U, Pt.locs, Pt.cells, Pt.slots] at X5 l5 y5 z5 st5 hQ5
  subst l5 y5 z5
  obtain ⟨rfl, Nq5, eq5⟩ := hQ5
  have N5 := Fr.app N4 Nq5
  refine own_st st5 ?_
  show own_Goes _ _ _ _ _ _ _ T5 (mkF m 36 #[rv d, iv k9, iv (0 : Int32), iv (3 : Int32)] [(.int (-1 : Int32))])
  refine own_retI X5 hx hlk Bd.returns (hb hby d28_36) (by decide) (by decide) ?_
  show QIX3 Z d k9 kd c0 c1 c2 h0 n0 (some (.int (-1 : Int32))) T5.heap _
  rw [eq5]
  exact ⟨rfl, N5, rfl⟩
abbrev rRrmI23 : Room := { frames := 2, cells := 0, slots := 0, locals := 32 }
theorem pn_rmI23 : plainFor yy21 = true := by first | exact plainFor_of_name (by first | (simp [plainName, overriddenIn]; done) | decide +kernel) | decide +kernel
theorem ef_rmI23 (m : MethodId) (a : Addr) (k9 : Int32) : entryFrame m #[(.ref a), (.int k9), (.int (0 : Int32))] 3 = (mkF m 0 #[rv a, iv k9, iv (0 : Int32)] []) := by first | (simp [entryFrame, mkF, argsToLocals, Value.category]; done) | rfl
def QI23 (Z : State) (a : Addr) (k9 : Int32) (d : Addr) (kd : ClassId) (c0 : Int32) (c1 : Int32) (c2 : Int32) (cs : Int32) (h0 : Heap) (n0 : Nat) (v_ : Option Value) (h_ : Heap) (L_ : List Loc) : Prop := (v_ = some (.int (-1 : Int32))) ∧ (Fr n0 L_) ∧ (h_ = h0)
set_option maxRecDepth 65536 in
set_option maxHeartbeats 40000000 in
theorem rmI23 (l : Launch) (Z : State) (a0 : Array Value) (hw : ∀ d ∈ tables_1, d.before a0 Z = true) (ws : List Jvm.Cond) (a : Addr) (k9 : Int32) (d : Addr) (kd : ClassId) (c0 : Int32) (c1 : Int32) (c2 : Int32) (cs : Int32) (h0 : Heap) (n0 : Nat) (Z0 : n0 ≤ h0.size) (p_0 : Exa Z h0 a "java/lang/String") (p_1 : Fld Z h0 a "java/lang/String" "coder" "B" (.int (0 : Int32))) (p_2 : Fld Z h0 a "java/lang/String" "value" "[B" (.ref d)) (p_3 : Arv Z h0 d kd .byte (3 : Int32) [(.int (own_by c0)), (.int (own_by c1)), (.int (own_by c2))] (.int (0 : Int32))) (hk : own_in k9) (hi0 : own_in c0) (hi1 : own_in c1) (hi2 : own_in c2) (hn0 : ¬ c0 = k9) (hn1 : ¬ c1 = k9) (hn2 : ¬ c2 = k9) (p_11 : Sta Z h0 "java/lang/String" "COMPACT_STRINGS" "Z" (.int cs)) (hcs : ¬ cs = (0 : Int32)) :
    MetFree l yy21 (head1 (Jvm.Cond.code yy21 jdk_42_method_80_code 3 (some .int) :: ws) rRrmI23) (fun a_ U_ => a_ = #[(.ref a), (.int k9), (.int (0 : Int32))] ∧ Z.Warmed39 U_.vm ∧ U_.heap = h0) (fun _ _ _ _ _ => True) (fun _ U_ o_ U1_ => ∃ v_ L_, o_ = .returned v_ ∧ QI23 Z a k9 d kd c0 c1 c2 cs h0 n0 v_ U1_.heap L_ ∧ FrameEnd U_ o_ U1_ L_ rRrmI23.cells rRrmI23.slots) := by
  refine MetFree.of_bodySF pn_rmI23 hisR ?_
  intro p e s m args below meth c s₁ Bd hml0 hP hK
  obtain ⟨rfl, hZ, hh⟩ := hP
  have hx := Bd.exec
  have hby := Bd.bytes
  have hlk : meth.locks = false := Bd.notSynchronized
  have hml : c.maxLocals = 3 := hml0
  have hown : s.vm.findClass "java/lang/String" = some m.cls := findClass_of_methodNamed Bd.named
  have hnm := (name_of_methodNamed Bd.named Bd.method).1
  have X0 : Stand p l e rRrmI23 s m #[(.ref a), (.int k9), (.int (0 : Int32))] below meth c s₁ [] 0 0 := Stand.of_body Bd
  have e0 : s₁.heap = h0 := by rw [← hh, Bd.state]; rfl
  have N0 := Fr.nil n0
  show own_Goes p e below s (QI23 Z a k9 d kd c0 c1 c2 cs h0 n0) rRrmI23.cells rRrmI23.slots s₁ (entryFrame m #[(.ref a), (.int k9), (.int (0 : Int32))] 3)
  rw [ef_rmI23 m a k9]
  show own_Goes p e below s (QI23 Z a k9 d kd c0 c1 c2 cs h0 n0) rRrmI23.cells rRrmI23.slots s₁ (mkF m 0 #[rv a, iv k9, iv (0 : Int32)] [])
  refine own_st (fun _ kk_ => XS.aloadN X0.here hx rfl (hb hby d25_0) rfl rfl kk_) ?_
  show own_Goes _ _ _ _ _ _ _ s₁ (mkF m 1 #[rv a, iv k9, iv (0 : Int32)] [(.ref a)])
  obtain ⟨cq1, kq1, q1a, q1b, q1c⟩ := isOf hZ e0 p_0
  obtain ⟨_, _, ⟨T1, L1, k1, n1⟩, -, X1, ⟨Lc1, hQ1, l1, y1, z1⟩, st1⟩ := X0.virtualBack hx (y := yy5) (z := yy5) hown (mvT hZ (own_w hw 73 rfl)) (mvT hZ (own_w hw 74 rfl)) (notFace_of_selects (args := #[]) (mvT hZ (own_w hw 76 rfl))) (mvT hZ (own_w hw 76 rfl)) (mvT hZ (own_w hw 75 rfl)) (by decide) (backOf (W := 0) (rm16 l Z a0 hw [] (a) (cs) h0 n0 Z0 p_1 p_11 (by assumption)) hZ (own_w hw 77 rfl) (own_w hw 12 rfl) (by decide) (by decide)) q1a q1c (g := (mkF m 1 #[rv a, iv k9, iv (0 : Int32)] [(.ref a)])) rfl (by rw [hml]; rfl) (Steps.refl _) (argsL := []) (rest := []) (lenOf pd_6 rfl) rfl (by show 2 * 0 + _ ≤ _; exact Nat.le_of_eq rfl) (hb hby d25_1) (fun _ _ => ⟨rfl, e0, (by decide : 0 + 0 ≤ _), (by decide : 0 + 0 ≤ _)⟩)
  dsimp only [Pt.U, Pt.locs, Pt.cells, Pt.slots] at X1 l1 y1 z1 st1 hQ1
  subst l1 y1 z1
  obtain ⟨rfl, Nq1, eq1⟩ := hQ1
  have N1 := Fr.app N0 Nq1
  refine own_st (fun _ kk_ => st1.trans kk_) ?_
  show own_Goes _ _ _ _ _ _ _ T1 (mkF m 4 #[rv a, iv k9, iv (0 : Int32)] [(.int (1 : Int32))])
  refine own_st (fun _ kk_ => XS.ifNo X1.here hx rfl (hb hby d25_4) rfl (XT.i0_eq_f (by decide)) (XS.aloadN X1.here hx rfl (hb hby d25_7) rfl rfl kk_)) ?_
  show own_Goes _ _ _ _ _ _ _ T1 (mkF m 8 #[rv a, iv k9, iv (0 : Int32)] [(.ref a)])
  obtain ⟨T2, X2, e2, st2⟩ := getF X1 hx hZ hown (host := "") (Or.inl (own_w hw 38 rfl)) Via.refl eq1 p_2 (g := (mkF m 8 #[rv a, iv k9, iv (0 : Int32)] [(.ref a)])) rfl rfl (hb hby d25_8)
  refine own_st st2 ?_
  show own_Goes _ _ _ _ _ _ _ T2 (mkF m 11 #[rv a, iv k9, iv (0 : Int32)] [(.ref d)])
  refine own_st (fun _ kk_ => XS.iloadN X2.here hx rfl (hb hby d25_11) rfl (XS.iloadN X2.here hx rfl (hb hby d25_12) rfl (XS.aloadN X2.here hx rfl (hb hby d25_13) rfl rfl kk_))) ?_
  show own_Goes _ _ _ _ _ _ _ T2 (mkF m 14 #[rv a, iv k9, iv (0 : Int32)] [(.ref a), (.int (0 : Int32)), (.int k9), (.ref d)])
  obtain ⟨cq3, kq3, q3a, q3b, q3c⟩ := isOf hZ e2 p_0
  obtain ⟨_, _, ⟨T3, L3, k3, n3⟩, -, X3, ⟨Lc3, hQ3, l3, y3, z3⟩, st3⟩ := X2.virtualBack hx (y := yy6) (z := yy6) hown (mvT hZ (own_w hw 119 rfl)) (mvT hZ (own_w hw 120 rfl)) (notFace_of_selects (args := #[]) (mvT hZ (own_w hw 122 rfl))) (mvT hZ (own_w hw 122 rfl)) (mvT hZ (own_w hw 121 rfl)) (by decide) (backOf (W := 3) (rm26 l Z a0 hw [] (a) (d) (kd) ((3 : Int32)) ([(.int (own_by c0)), (.int (own_by c1)), (.int (own_by c2))]) (cs) h0 n0 Z0 p_0 p_1 p_2 p_3 p_11 (by assumption)) hZ (own_w hw 123 rfl) (own_w hw 12 rfl) (by decide) (by decide)) q3a q3c (g := (mkF m 14 #[rv a, iv k9, iv (0 : Int32)] [(.ref a), (.int (0 : Int32)), (.int k9), (.ref d)])) rfl (by rw [hml]; rfl) (Steps.refl _) (argsL := []) (rest := [(.int (0 : Int32)), (.int k9), (.ref d)]) (lenOf pd_10 rfl) rfl (by show 2 * 0 + _ ≤ _; exact Nat.le_of_eq rfl) (hb hby d25_14) (fun _ _ => ⟨rfl, e2, (by decide : 0 + 0 ≤ _), (by decide : 0 + 0 ≤ _)⟩)
  dsimp only [Pt.U, Pt.locs, Pt.cells, Pt.slots] at X3 l3 y3 z3 st3 hQ3
  subst l3 y3 z3
  obtain ⟨rfl, Nq3, eq3⟩ := hQ3
  have N3 := Fr.app N1 Nq3
  refine own_st (fun _ kk_ => st3.trans kk_) ?_
  show own_Goes _ _ _ _ _ _ _ T3 (mkF m 17 #[rv a, iv k9, iv (0 : Int32)] [(.int (3 : Int32)), (.int (0 : Int32)), (.int k9), (.ref d)])
  obtain ⟨_, _, ⟨T4, L4, k4, n4⟩, -, X4, ⟨Lc4, hQ4, l4, y4, z4⟩, st4⟩ := Jvm.LawKit.callS X3 hx (y := yy20) hown (mvT hZ (own_w hw 129 rfl)) (mvT hZ (own_w hw 130 rfl)) (mvT hZ (own_w hw 80 rfl)) (mvT hZ (own_w hw 131 rfl)) (by decide) (backOf (W := 0) (rmIX3 l Z a0 hw [] (d) (k9) (kd) (c0) (c1) (c2) h0 n0 Z0 p_3 hk hi0 hi1 hi2 hn0 hn1 hn2) hZ (own_w hw 131 rfl) (own_w hw 80 rfl) (by decide) (by decide)) (g := (mkF m 17 #[rv a, iv k9, iv (0 : Int32)] [(.int (3 : Int32)), (.int (0 : Int32)), (.int k9), (.ref d)])) rfl (by rw [hml]; rfl) (argsL := [(.ref d), (.int k9), (.int (0 : Int32)), (.int (3 : Int32))]) (rest := []) (lenOf pd_9 rfl) rfl (by show 2 * 0 + _ ≤ _; exact Nat.le_of_eq rfl) (hb hby d25_17) (fun _ _ => ⟨rfl, eq3, (by decide : 0 + 0 ≤ _), (by decide : 0 + 0 ≤ _)⟩)
  dsimp only [Pt.U, Pt.locs, Pt.cells, Pt.slots] at X4 l4 y4 z4 st4 hQ4
  subst l4 y4 z4
  obtain ⟨rfl, Nq4, eq4⟩ := hQ4
  have N4 := Fr.app N3 Nq4
  refine own_st st4 ?_
  show own_Goes _ _ _ _ _ _ _ T4 (mkF m 20 #[rv a, iv k9, iv (0 : Int32)] [(.int (-1 : Int32))])
  refine own_st (fun _ kk_ => XS.goto X4.here hx rfl (pc0 := 20) (pc' := 36) rfl (hb hby d25_20) (by decide) (by decide) kk_) ?_
  show own_Goes _ _ _ _ _ _ _ T4 (mkF m 36 #[rv a, iv k9, iv (0 : Int32)] [(.int (-1 : Int32))])
  refine own_retI X4 hx hlk Bd.returns (hb hby d25_36) (by decide) (by decide) ?_
  show QI23 Z a k9 d kd c0 c1 c2 cs h0 n0 (some (.int (-1 : Int32))) T4.heap _
  rw [eq4]
  exact ⟨rfl, N4, rfl⟩
abbrev rRrmI13 : Room := { frames := 3, cells := 0, slots := 0, locals := 46 }
theorem pn_rmI13 : plainFor yy22 = true := by first | exact plainFor_of_name (by first | (simp [plainName, overriddenIn]; done) | decide +kernel) | decide +kernel
theorem ef_rmI13 (m : MethodId) (a : Addr) (k9 : Int32) : entryFrame m #[(.ref a), (.int k9)] 2 = (mkF m 0 #[rv a, iv k9] []) := by first | (simp [entryFrame, mkF, argsToLocals, Value.category]; done) | rfl
def QI13 (Z : State) (a : Addr) (k9 : Int32) (d : Addr) (kd : ClassId) (c0 : Int32) (c1 : Int32) (c2 : Int32) (cs : Int32) (h0 : Heap) (n0 : Nat) (v_ : Option Value) (h_ : Heap) (L_ : List Loc) : Prop := (v_ = some (.int (-1 : Int32))) ∧ (Fr n0 L_) ∧ (h_ = h0)
set_option maxRecDepth 65536 in
set_option maxHeartbeats 40000000 in
theorem rmI13 (l : Launch) (Z : State) (a0 : Array Value) (hw : ∀ d ∈ tables_1, d.before a0 Z = true) (ws : List Jvm.Cond) (a : Addr) (k9 : Int32) (d : Addr) (kd : ClassId) (c0 : Int32) (c1 : Int32) (c2 : Int32) (cs : Int32) (h0 : Heap) (n0 : Nat) (Z0 : n0 ≤ h0.size) (p_0 : Exa Z h0 a "java/lang/String") (p_1 : Fld Z h0 a "java/lang/String" "coder" "B" (.int (0 : Int32))) (p_2 : Fld Z h0 a "java/lang/String" "value" "[B" (.ref d)) (p_3 : Arv Z h0 d kd .byte (3 : Int32) [(.int (own_by c0)), (.int (own_by c1)), (.int (own_by c2))] (.int (0 : Int32))) (hk : own_in k9) (hi0 : own_in c0) (hi1 : own_in c1) (hi2 : own_in c2) (hn0 : ¬ c0 = k9) (hn1 : ¬ c1 = k9) (hn2 : ¬ c2 = k9) (p_11 : Sta Z h0 "java/lang/String" "COMPACT_STRINGS" "Z" (.int cs)) (hcs : ¬ cs = (0 : Int32)) :
    MetFree l yy22 (head1 (Jvm.Cond.code yy22 jdk_42_method_79_code 2 (some .int) :: ws) rRrmI13) (fun a_ U_ => a_ = #[(.ref a), (.int k9)] ∧ Z.Warmed39 U_.vm ∧ U_.heap = h0) (fun _ _ _ _ _ => True) (fun _ U_ o_ U1_ => ∃ v_ L_, o_ = .returned v_ ∧ QI13 Z a k9 d kd c0 c1 c2 cs h0 n0 v_ U1_.heap L_ ∧ FrameEnd U_ o_ U1_ L_ rRrmI13.cells rRrmI13.slots) := by
  refine MetFree.of_bodySF pn_rmI13 hisR ?_
  intro p e s m args below meth c s₁ Bd hml0 hP hK
  obtain ⟨rfl, hZ, hh⟩ := hP
  have hx := Bd.exec
  have hby := Bd.bytes
  have hlk : meth.locks = false := Bd.notSynchronized
  have hml : c.maxLocals = 2 := hml0
  have hown : s.vm.findClass "java/lang/String" = some m.cls := findClass_of_methodNamed Bd.named
  have hnm := (name_of_methodNamed Bd.named Bd.method).1
  have X0 : Stand p l e rRrmI13 s m #[(.ref a), (.int k9)] below meth c s₁ [] 0 0 := Stand.of_body Bd
  have e0 : s₁.heap = h0 := by rw [← hh, Bd.state]; rfl
  have N0 := Fr.nil n0
  show own_Goes p e below s (QI13 Z a k9 d kd c0 c1 c2 cs h0 n0) rRrmI13.cells rRrmI13.slots s₁ (entryFrame m #[(.ref a), (.int k9)] 2)
  rw [ef_rmI13 m a k9]
  show own_Goes p e below s (QI13 Z a k9 d kd c0 c1 c2 cs h0 n0) rRrmI13.cells rRrmI13.slots s₁ (mkF m 0 #[rv a, iv k9] [])
  refine own_st (fun _ kk_ => XS.aloadN X0.here hx rfl (hb hby d24_0) rfl rfl (XS.iloadN X0.here hx rfl (hb hby d24_1) rfl (XS.iconst X0.here hx rfl (hb hby d24_2) kk_))) ?_
  show own_Goes _ _ _ _ _ _ _ s₁ (mkF m 3 #[rv a, iv k9] [(.int (0 : Int32)), (.int k9), (.ref a)])
  obtain ⟨cq1, kq1, q1a, q1b, q1c⟩ := isOf hZ e0 p_0
  obtain ⟨_, _, ⟨T1, L1, k1, n1⟩, -, X1, ⟨Lc1, hQ1, l1, y1, z1⟩, st1⟩ := X0.virtualBack hx (y := yy21) (z := yy21) hown (mvT hZ (own_w hw 114 rfl)) (mvT hZ (own_w hw 115 rfl)) (notFace_of_selects (args := #[]) (mvT hZ (own_w hw 117 rfl))) (mvT hZ (own_w hw 117 rfl)) (mvT hZ (own_w hw 116 rfl)) (by decide) (backOf (W := 0) (rmI23 l Z a0 hw [] (a) (k9) (d) (kd) (c0) (c1) (c2) (cs) h0 n0 Z0 p_0 p_1 p_2 p_3 hk hi0 hi1 hi2 hn0 hn1 hn2 p_11 (by assumption)) hZ (own_w hw 118 rfl) (own_w hw 12 rfl) (by decide) (by decide)) q1a q1c (g := (mkF m 3 #[rv a, iv k9] [(.int (0 : Int32)), (.int k9), (.ref a)])) rfl (by rw [hml]; rfl) (Steps.refl _) (argsL := [(.int k9), (.int (0 : Int32))]) (rest := []) (lenOf pd_8 rfl) rfl (by show 2 * 0 + _ ≤ _; exact Nat.le_of_eq rfl) (hb hby d24_3) (fun _ _ => ⟨rfl, e0, (by decide : 0 + 0 ≤ _), (by decide : 0 + 0 ≤ _)⟩)
  dsimp only [Pt.U, Pt.locs, Pt.cells, Pt.slots] at X1 l1 y1 z1 st1 hQ1
  subst l1 y1 z1
  obtain ⟨rfl, Nq1, eq1⟩ := hQ1
  have N1 := Fr.app N0 Nq1
  refine own_st (fun _ kk_ => st1.trans kk_) ?_
  show own_Goes _ _ _ _ _ _ _ T1 (mkF m 6 #[rv a, iv k9] [(.int (-1 : Int32))])
  refine own_retI X1 hx hlk Bd.returns (hb hby d24_6) (by decide) (by decide) ?_
  show QI13 Z a k9 d kd c0 c1 c2 cs h0 n0 (some (.int (-1 : Int32))) T1.heap _
  rw [eq1]
  exact ⟨rfl, N1, rfl⟩
abbrev rRrmEM3 : Room := { frames := 0, cells := 0, slots := 0, locals := 0 }
theorem pn_rmEM3 : plainFor yy23 = true := by first | exact plainFor_of_name (by first | (simp [plainName, overriddenIn]; done) | decide +kernel) | decide +kernel
theorem ef_rmEM3 (m : MethodId) (a : Addr) : entryFrame m #[(.ref a)] 1 = (mkF m 0 #[rv a] []) := by first | (simp [entryFrame, mkF, argsToLocals, Value.category]; done) | rfl
def QEM3 (Z : State) (a : Addr) (d : Addr) (kd : ClassId) (c0 : Int32) (c1 : Int32) (c2 : Int32) (h0 : Heap) (n0 : Nat) (v_ : Option Value) (h_ : Heap) (L_ : List Loc) : Prop := (v_ = some (.int (0 : Int32))) ∧ (Fr n0 L_) ∧ (h_ = h0)
set_option maxRecDepth 65536 in
set_option maxHeartbeats 40000000 in
theorem rmEM3 (l : Launch) (Z : State) (a0 : Array Value) (hw : ∀ d ∈ tables_1, d.before a0 Z = true) (ws : List Jvm.Cond) (a : Addr) (d : Addr) (kd : ClassId) (c0 : Int32) (c1 : Int32) (c2 : Int32) (h0 : Heap) (n0 : Nat) (Z0 : n0 ≤ h0.size) (p_0 : Exa Z h0 a "java/lang/String") (p_1 : Fld Z h0 a "java/lang/String" "coder" "B" (.int (0 : Int32))) (p_2 : Fld Z h0 a "java/lang/String" "value" "[B" (.ref d)) (p_3 : Arv Z h0 d kd .byte (3 : Int32) [(.int (own_by c0)), (.int (own_by c1)), (.int (own_by c2))] (.int (0 : Int32))) :
    MetFree l yy23 (head1 (Jvm.Cond.code yy23 jdk_42_method_55_code 1 (some .boolean) :: ws) rRrmEM3) (fun a_ U_ => a_ = #[(.ref a)] ∧ Z.Warmed39 U_.vm ∧ U_.heap = h0) (fun _ _ _ _ _ => True) (fun _ U_ o_ U1_ => ∃ v_ L_, o_ = .returned v_ ∧ QEM3 Z a d kd c0 c1 c2 h0 n0 v_ U1_.heap L_ ∧ FrameEnd U_ o_ U1_ L_ rRrmEM3.cells rRrmEM3.slots) := by
  refine MetFree.of_bodySF pn_rmEM3 hisR ?_
  intro p e s m args below meth c s₁ Bd hml0 hP hK
  obtain ⟨rfl, hZ, hh⟩ := hP
  have hx := Bd.exec
  have hby := Bd.bytes
  have hlk : meth.locks = false := Bd.notSynchronized
  have hml : c.maxLocals = 1 := hml0
  have hown : s.vm.findClass "java/lang/String" = some m.cls := findClass_of_methodNamed Bd.named
  have hnm := (name_of_methodNamed Bd.named Bd.method).1
  have X0 : Stand p l e rRrmEM3 s m #[(.ref a)] below meth c s₁ [] 0 0 := Stand.of_body Bd
  have e0 : s₁.heap = h0 := by rw [← hh, Bd.state]; rfl
  have N0 := Fr.nil n0
  show own_Goes p e below s (QEM3 Z a d kd c0 c1 c2 h0 n0) rRrmEM3.cells rRrmEM3.slots s₁ (entryFrame m #[(.ref a)] 1)
  rw [ef_rmEM3 m a]
  show own_Goes p e below s (QEM3 Z a d kd c0 c1 c2 h0 n0) rRrmEM3.cells rRrmEM3.slots s₁ (mkF m 0 #[rv a] [])
  refine own_st (fun _ kk_ => XS.aloadN X0.here hx rfl (hb hby d14_0) rfl rfl kk_) ?_
  show own_Goes _ _ _ _ _ _ _ s₁ (mkF m 1 #[rv a] [(.ref a)])
  obtain ⟨T1, X1, e1, st1⟩ := getF X0 hx hZ hown (host := "") (Or.inl (own_w hw 38 rfl)) Via.refl e0 p_2 (g := (mkF m 1 #[rv a] [(.ref a)])) rfl rfl (hb hby d14_1)
  refine own_st st1 ?_
  show own_Goes _ _ _ _ _ _ _ T1 (mkF m 4 #[rv a] [(.ref d)])
  obtain ⟨cl2, Ar2, -, Sz2, Nn2, -, -⟩ := id p_3
  refine own_st (fun _ kk_ => X1.arraylength hx (by rw [e1]; exact Ar2.1) (State.isArrayOf_alike hZ.alike Ar2.2.1) (g := (mkF m 4 #[rv a] [(.ref d)])) rfl rfl (hb hby d14_4) _ kk_) ?_
  rw [len_of Sz2 Nn2]
  show own_Goes _ _ _ _ _ _ _ T1 (mkF m 5 #[rv a] [(.int (3 : Int32))])
  refine own_st (fun _ kk_ => XS.ifYes X1.here hx rfl (pc0 := 5) (pc' := 12) rfl (hb hby d14_5) rfl (XT.i0_ne_t (by decide)) (by decide) (by decide) (XS.iconst X1.here hx rfl (hb hby d14_12) kk_)) ?_
  show own_Goes _ _ _ _ _ _ _ T1 (mkF m 13 #[rv a] [(.int (0 : Int32))])
  refine own_retN X1 hx hlk (t := .boolean) Bd.returns (by simp) (hb hby d14_13) (by decide) (by decide) ?_
  show QEM3 Z a d kd c0 c1 c2 h0 n0 (some (.int (nar .boolean (0 : Int32)))) T1.heap _
  rw [e1]
  exact ⟨rfl, N0, rfl⟩
abbrev rRrm12 : Room := { frames := 5, cells := 0, slots := 0, locals := 72 }
theorem d12_0 : decode prog_2_method_7_code 0 = .ok (.aload_n 1, 1) := by decide +kernel
theorem d12_1 : decode prog_2_method_7_code 1 = .ok (.aload_n 0, 1) := by decide +kernel
theorem d12_2 : decode prog_2_method_7_code 2 = .ok (.invokestatic 84, 3) := by decide +kernel
theorem d12_5 : decode prog_2_method_7_code 5 = .ok (.pop, 1) := by decide +kernel
theorem d12_6 : decode prog_2_method_7_code 6 = .ok (.aload_n 1, 1) := by decide +kernel
theorem d12_7 : decode prog_2_method_7_code 7 = .ok (.invokevirtual 175, 3) := by decide +kernel
theorem d12_10 : decode prog_2_method_7_code 10 = .ok (.ifCond .eq 35, 3) := by decide +kernel
theorem d12_45 : decode prog_2_method_7_code 45 = .ok (.aload_n 1, 1) := by decide +kernel
theorem d12_46 : decode prog_2_method_7_code 46 = .ok (.invokevirtual 103, 3) := by decide +kernel
theorem d12_49 : decode prog_2_method_7_code 49 = .ok (.aload_n 1, 1) := by decide +kernel
theorem d12_50 : decode prog_2_method_7_code 50 = .ok (.invokevirtual 55, 3) := by decide +kernel
theorem d12_53 : decode prog_2_method_7_code 53 = .ok (.ifCond .eq 21, 3) := by decide +kernel
theorem d12_56 : decode prog_2_method_7_code 56 = .ok (.aload_n 1, 1) := by decide +kernel
theorem d12_57 : decode prog_2_method_7_code 57 = .ok (.bipush 44, 2) := by decide +kernel
theorem d12_59 : decode prog_2_method_7_code 59 = .ok (.invokevirtual 99, 3) := by decide +kernel
theorem d12_62 : decode prog_2_method_7_code 62 = .ok (.ifCond .ge 12, 3) := by decide +kernel
theorem d12_65 : decode prog_2_method_7_code 65 = .ok (.aload_n 1, 1) := by decide +kernel
theorem d12_66 : decode prog_2_method_7_code 66 = .ok (.bipush 61, 2) := by decide +kernel
theorem d12_68 : decode prog_2_method_7_code 68 = .ok (.invokevirtual 99, 3) := by decide +kernel
theorem d12_71 : decode prog_2_method_7_code 71 = .ok (.ifCond .lt 39, 3) := by decide +kernel
theorem d12_110 : decode prog_2_method_7_code 110 = .ok (.return_, 1) := by decide +kernel
theorem pd_11 : parseMethodDescriptor "(Ljava/lang/Object;Ljava/lang/String;)Ljava/lang/Object;" = some ⟨[(.object "java/lang/Object"), (.object "java/lang/String")], some (.object "java/lang/Object")⟩ := by decide +kernel
theorem pd_12 : parseMethodDescriptor "()Ljava/lang/String;" = some ⟨[], some (.object "java/lang/String")⟩ := by decide +kernel
theorem pd_13 : parseMethodDescriptor "(Ljava/lang/Object;)Z" = some ⟨[(.object "java/lang/Object")], some .boolean⟩ := by decide +kernel
theorem pn_rm12 : plainFor yy24 = true := by first | exact plainFor_of_name (by first | (simp [plainName, overriddenIn]; done) | decide +kernel) | decide +kernel
theorem ef_rm12 (m : MethodId) (nm : Addr) (a : Addr) : entryFrame m #[(.ref nm), (.ref a)] 2 = (mkF m 0 #[rv nm, rv a] []) := by first | (simp [entryFrame, mkF, argsToLocals, Value.category]; done) | rfl
def Q12 (Z : State) (nm : Addr) (a : Addr) (d : Addr) (kd : ClassId) (z1 : Int32) (vs1 : List Value) (ci : Addr) (ca : Addr) (ka : ClassId) (cs : Int32) (h0 : Heap) (n0 : Nat) (v_ : Option Value) (h_ : Heap) (L_ : List Loc) : Prop := (v_ = none) ∧ (Fr n0 L_) ∧ (h_ = h0)
set_option maxRecDepth 65536 in
set_option maxHeartbeats 40000000 in
theorem rm12 (l : Launch) (Z : State) (a0 : Array Value) (hw : ∀ d ∈ tables_1, d.before a0 Z = true) (ws : List Jvm.Cond) (nm : Addr) (a : Addr) (d : Addr) (kd : ClassId) (z1 : Int32) (vs1 : List Value) (ci : Addr) (ca : Addr) (ka : ClassId) (cs : Int32) (h0 : Heap) (n0 : Nat) (Z0 : n0 ≤ h0.size) (p_0 : Exa Z h0 a "java/lang/String") (p_1 : Fld Z h0 a "java/lang/String" "coder" "B" (.int (0 : Int32))) (p_2 : Fld Z h0 a "java/lang/String" "value" "[B" (.ref d)) (p_3 : Arv Z h0 d kd .byte z1 vs1 (.int (0 : Int32))) (p_4 : Sta Z h0 "java/lang/CharacterDataLatin1" "instance" "Ljava/lang/CharacterDataLatin1;" (.ref ci)) (p_5 : Exa Z h0 ci "java/lang/CharacterDataLatin1") (p_6 : Sta Z h0 "java/lang/CharacterDataLatin1" "A" "[I" (.ref ca)) (p_7 : Arv Z h0 ca ka .int (256 : Int32) own_A (.int (0 : Int32))) (htk : own_tok z1 vs1) (p_9 : Sta Z h0 "java/lang/String" "COMPACT_STRINGS" "Z" (.int cs)) (hcs : ¬ cs = (0 : Int32)) :
    MetFree l yy24 (head1 (Jvm.Cond.code yy24 prog_2_method_7_code 2 none :: ws) rRrm12) (fun a_ U_ => a_ = #[(.ref nm), (.ref a)] ∧ Z.Warmed39 U_.vm ∧ U_.heap = h0) (fun _ _ _ _ _ => True) (fun _ U_ o_ U1_ => ∃ v_ L_, o_ = .returned v_ ∧ Q12 Z nm a d kd z1 vs1 ci ca ka cs h0 n0 v_ U1_.heap L_ ∧ FrameEnd U_ o_ U1_ L_ rRrm12.cells rRrm12.slots) := by
  refine MetFree.of_bodySF pn_rm12 hisR ?_
  intro p e s m args below meth c s₁ Bd hml0 hP hK
  obtain ⟨rfl, hZ, hh⟩ := hP
  have hx := Bd.exec
  have hby := Bd.bytes
  have hlk : meth.locks = false := Bd.notSynchronized
  have hml : c.maxLocals = 2 := hml0
  have hown : s.vm.findClass "com/example/firm_duties/firmduties/BusinessContext" = some m.cls := findClass_of_methodNamed Bd.named
  have hnm := (name_of_methodNamed Bd.named Bd.method).1
  have X0 : Stand p l e rRrm12 s m #[(.ref nm), (.ref a)] below meth c s₁ [] 0 0 := Stand.of_body Bd
  have e0 : s₁.heap = h0 := by rw [← hh, Bd.state]; rfl
  have N0 := Fr.nil n0
  show own_Goes p e below s (Q12 Z nm a d kd z1 vs1 ci ca ka cs h0 n0) rRrm12.cells rRrm12.slots s₁ (entryFrame m #[(.ref nm), (.ref a)] 2)
  rw [ef_rm12 m nm a]
  show own_Goes p e below s (Q12 Z nm a d kd z1 vs1 ci ca ka cs h0 n0) rRrm12.cells rRrm12.slots s₁ (mkF m 0 #[rv nm, rv a] [])
  rcases htk with ⟨c0, rfl, rfl, hm0⟩ | ⟨c0, c1, rfl, rfl, hm0, hm1⟩ | ⟨c0, c1, c2, rfl, rfl, hm0, hm1, hm2⟩
  · show own_Goes _ _ _ _ _ _ _ s₁ (mkF m 0 #[rv nm, rv a] [])
    refine own_st (fun _ kk_ => XS.aloadN X0.here hx rfl (hb hby d12_0) rfl rfl (XS.aloadN X0.here hx rfl (hb hby d12_1) rfl rfl kk_)) ?_
    show own_Goes _ _ _ _ _ _ _ s₁ (mkF m 2 #[rv nm, rv a] [(.ref nm), (.ref a)])
    obtain ⟨_, _, ⟨T1, L1, k1, n1⟩, -, X1, ⟨Lc1, hQ1, l1, y1, z1⟩, st1⟩ := Jvm.LawKit.callS X0 hx (y := yy18) hown (mvT hZ (own_w hw 59 rfl)) (mvT hZ (own_w hw 60 rfl)) (mvT hZ (own_w hw 61 rfl)) (mvT hZ (own_w hw 62 rfl)) (by decide) (backOf (W := 0) (rm13 l Z a0 hw [] (a) (nm) h0 n0 Z0) hZ (own_w hw 62 rfl) (own_w hw 61 rfl) (by decide) (by decide)) (g := (mkF m 2 #[rv nm, rv a] [(.ref nm), (.ref a)])) rfl (by rw [hml]; rfl) (argsL := [(.ref a), (.ref nm)]) (rest := []) (lenOf pd_11 rfl) rfl (by show 2 * 0 + _ ≤ _; exact Nat.le_of_eq rfl) (hb hby d12_2) (fun _ _ => ⟨rfl, e0, (by decide : 0 + 0 ≤ _), (by decide : 0 + 0 ≤ _)⟩)
    dsimp only [Pt.U, Pt.locs, Pt.cells, Pt.slots] at X1 l1 y1 z1 st1 hQ1
    subst l1 y1 z1
    obtain ⟨rfl, Nq1, eq1⟩ := hQ1
    have N1 := Fr.app N0 Nq1
    refine own_st st1 ?_
    show own_Goes _ _ _ _ _ _ _ T1 (mkF m 5 #[rv nm, rv a] [(.ref a)])
    refine own_st (fun _ kk_ => XS.pop X1.here hx rfl (hb hby d12_5) rfl rfl (XS.aloadN X1.here hx rfl (hb hby d12_6) rfl rfl kk_)) ?_
    show own_Goes _ _ _ _ _ _ _ T1 (mkF m 7 #[rv nm, rv a] [(.ref a)])
    obtain ⟨cq2, kq2, q2a, q2b, q2c⟩ := isOf hZ eq1 p_0
    obtain ⟨_, _, ⟨T2, L2, k2, n2⟩, -, X2, ⟨Lc2, hQ2, l2, y2, z2⟩, st2⟩ := X1.virtualBack hx (y := yy23) (z := yy23) hown (mvT hZ (own_w hw 63 rfl)) (mvT hZ (own_w hw 64 rfl)) (notFace_of_selects (args := #[]) (mvT hZ (own_w hw 66 rfl))) (mvT hZ (own_w hw 66 rfl)) (mvT hZ (own_w hw 65 rfl)) (by decide) (backOf (W := 0) (rmEM1 l Z a0 hw [] (a) (d) (kd) (c0) h0 n0 Z0 p_0 p_1 p_2 p_3) hZ (own_w hw 67 rfl) (own_w hw 12 rfl) (by decide) (by decide)) q2a q2c (g := (mkF m 7 #[rv nm, rv a] [(.ref a)])) rfl (by rw [hml]; rfl) (Steps.refl _) (argsL := []) (rest := []) (lenOf pd_6 rfl) rfl (by show 2 * 0 + _ ≤ _; exact Nat.le_of_eq rfl) (hb hby d12_7) (fun _ _ => ⟨rfl, eq1, (by decide : 0 + 0 ≤ _), (by decide : 0 + 0 ≤ _)⟩)
    dsimp only [Pt.U, Pt.locs, Pt.cells, Pt.slots] at X2 l2 y2 z2 st2 hQ2
    subst l2 y2 z2
    obtain ⟨rfl, Nq2, eq2⟩ := hQ2
    have N2 := Fr.app N1 Nq2
    refine own_st (fun _ kk_ => st2.trans kk_) ?_
    show own_Goes _ _ _ _ _ _ _ T2 (mkF m 10 #[rv nm, rv a] [(.int (0 : Int32))])
    refine own_st (fun _ kk_ => XS.ifYes X2.here hx rfl (pc0 := 10) (pc' := 45) rfl (hb hby d12_10) rfl (XT.i0_eq_t (by decide)) (by decide) (by decide) (XS.aloadN X2.here hx rfl (hb hby d12_45) rfl rfl kk_)) ?_
    show own_Goes _ _ _ _ _ _ _ T2 (mkF m 46 #[rv nm, rv a] [(.ref a)])
    obtain ⟨cq3, kq3, q3a, q3b, q3c⟩ := isOf hZ eq2 p_0
    obtain ⟨_, _, ⟨T3, L3, k3, n3⟩, -, X3, ⟨Lc3, hQ3, l3, y3, z3⟩, st3⟩ := X2.virtualBack hx (y := yy15) (z := yy15) hown (mvT hZ (own_w hw 68 rfl)) (mvT hZ (own_w hw 69 rfl)) (notFace_of_selects (args := #[]) (mvT hZ (own_w hw 71 rfl))) (mvT hZ (own_w hw 71 rfl)) (mvT hZ (own_w hw 70 rfl)) (by decide) (backOf (W := 0) (rm15 l Z a0 hw [] (a) (d) (kd) ((1 : Int32)) ([(.int (own_by c0))]) (ci) (ca) (ka) (c0) (c0) (cs) h0 n0 Z0 p_0 p_1 p_2 p_3 p_4 p_5 p_6 p_7 (by decide) rfl hm0 rfl hm0 p_9 (by assumption)) hZ (own_w hw 72 rfl) (own_w hw 12 rfl) (by decide) (by decide)) q3a q3c (g := (mkF m 46 #[rv nm, rv a] [(.ref a)])) rfl (by rw [hml]; rfl) (Steps.refl _) (argsL := []) (rest := []) (lenOf pd_12 rfl) rfl (by show 2 * 0 + _ ≤ _; exact Nat.le_of_eq rfl) (hb hby d12_46) (fun _ _ => ⟨rfl, eq2, (by decide : 0 + 0 ≤ _), (by decide : 0 + 0 ≤ _)⟩)
    dsimp only [Pt.U, Pt.locs, Pt.cells, Pt.slots] at X3 l3 y3 z3 st3 hQ3
    subst l3 y3 z3
    obtain ⟨rfl, Nq3, eq3⟩ := hQ3
    have N3 := Fr.app N2 Nq3
    refine own_st (fun _ kk_ => st3.trans kk_) ?_
    show own_Goes _ _ _ _ _ _ _ T3 (mkF m 49 #[rv nm, rv a] [(.ref a)])
    refine own_st (fun _ kk_ => XS.aloadN X3.here hx rfl (hb hby d12_49) rfl rfl kk_) ?_
    show own_Goes _ _ _ _ _ _ _ T3 (mkF m 50 #[rv nm, rv a] [(.ref a), (.ref a)])
    obtain ⟨cq4, kq4, q4a, q4b, q4c⟩ := isOf hZ eq3 p_0
    obtain ⟨_, _, ⟨T4, L4, k4, n4⟩, -, X4, ⟨Lc4, hQ4, l4, y4, z4⟩, st4⟩ := X3.virtualBack hx (y := yy16) (z := yy16) hown (mvT hZ (own_w hw 104 rfl)) (mvT hZ (own_w hw 105 rfl)) (notFace_of_selects (args := #[]) (mvT hZ (own_w hw 107 rfl))) (mvT hZ (own_w hw 107 rfl)) (mvT hZ (own_w hw 106 rfl)) (by decide) (backOf (W := 0) (rm23 l Z a0 hw [] (a) h0 n0 Z0) hZ (own_w hw 108 rfl) (own_w hw 12 rfl) (by decide) (by decide)) q4a q4c (g := (mkF m 50 #[rv nm, rv a] [(.ref a), (.ref a)])) rfl (by rw [hml]; rfl) (Steps.refl _) (argsL := [(.ref a)]) (rest := []) (lenOf pd_13 rfl) rfl (by show 2 * 0 + _ ≤ _; exact Nat.le_of_eq rfl) (hb hby d12_50) (fun _ _ => ⟨rfl, eq3, (by decide : 0 + 0 ≤ _), (by decide : 0 + 0 ≤ _)⟩)
    dsimp only [Pt.U, Pt.locs, Pt.cells, Pt.slots] at X4 l4 y4 z4 st4 hQ4
    subst l4 y4 z4
    obtain ⟨rfl, Nq4, eq4⟩ := hQ4
    have N4 := Fr.app N3 Nq4
    refine own_st (fun _ kk_ => st4.trans kk_) ?_
    show own_Goes _ _ _ _ _ _ _ T4 (mkF m 53 #[rv nm, rv a] [(.int (1 : Int32))])
    refine own_st (fun _ kk_ => XS.ifNo X4.here hx rfl (hb hby d12_53) rfl (XT.i0_eq_f (by decide)) (XS.aloadN X4.here hx rfl (hb hby d12_56) rfl rfl (XS.bipush X4.here hx rfl (hb hby d12_57) kk_))) ?_
    show own_Goes _ _ _ _ _ _ _ T4 (mkF m 59 #[rv nm, rv a] [(.int (44 : Int32)), (.ref a)])
    obtain ⟨cq5, kq5, q5a, q5b, q5c⟩ := isOf hZ eq4 p_0
    obtain ⟨_, _, ⟨T5, L5, k5, n5⟩, -, X5, ⟨Lc5, hQ5, l5, y5, z5⟩, st5⟩ := X4.virtualBack hx (y := yy22) (z := yy22) hown (mvT hZ (own_w hw 109 rfl)) (mvT hZ (own_w hw 110 rfl)) (notFace_of_selects (args := #[]) (mvT hZ (own_w hw 112 rfl))) (mvT hZ (own_w hw 112 rfl)) (mvT hZ (own_w hw 111 rfl)) (by decide) (backOf (W := 0) (rmI11 l Z a0 hw [] (a) ((44 : Int32)) (d) (kd) (c0) (cs) h0 n0 Z0 p_0 p_1 p_2 p_3 ⟨by decide, by decide⟩ hm0.m.i (own_n44 hm0.m) p_9 (by assumption)) hZ (own_w hw 113 rfl) (own_w hw 12 rfl) (by decide) (by decide)) q5a q5c (g := (mkF m 59 #[rv nm, rv a] [(.int (44 : Int32)), (.ref a)])) rfl (by rw [hml]; rfl) (Steps.refl _) (argsL := [(.int (44 : Int32))]) (rest := []) (lenOf pd_2 rfl) rfl (by show 2 * 0 + _ ≤ _; exact Nat.le_of_eq rfl) (hb hby d12_59) (fun _ _ => ⟨rfl, eq4, (by decide : 0 + 0 ≤ _), (by decide : 0 + 0 ≤ _)⟩)
    dsimp only [Pt.U, Pt.locs, Pt.cells, Pt.slots] at X5 l5 y5 z5 st5 hQ5
    subst l5 y5 z5
    obtain ⟨rfl, Nq5, eq5⟩ := hQ5
    have N5 := Fr.app N4 Nq5
    refine own_st (fun _ kk_ => st5.trans kk_) ?_
    show own_Goes _ _ _ _ _ _ _ T5 (mkF m 62 #[rv nm, rv a] [(.int (-1 : Int32))])
    refine own_st (fun _ kk_ => XS.ifNo X5.here hx rfl (hb hby d12_62) rfl (XT.i0_ge_f (by decide)) (XS.aloadN X5.here hx rfl (hb hby d12_65) rfl rfl (XS.bipush X5.here hx rfl (hb hby d12_66) kk_))) ?_
    show own_Goes _ _ _ _ _ _ _ T5 (mkF m 68 #[rv nm, rv a] [(.int (61 : Int32)), (.ref a)])
    obtain ⟨cq6, kq6, q6a, q6b, q6c⟩ := isOf hZ eq5 p_0
    obtain ⟨_, _, ⟨T6, L6, k6, n6⟩, -, X6, ⟨Lc6, hQ6, l6, y6, z6⟩, st6⟩ := X5.virtualBack hx (y := yy22) (z := yy22) hown (mvT hZ (own_w hw 109 rfl)) (mvT hZ (own_w hw 110 rfl)) (notFace_of_selects (args := #[]) (mvT hZ (own_w hw 112 rfl))) (mvT hZ (own_w hw 112 rfl)) (mvT hZ (own_w hw 111 rfl)) (by decide) (backOf (W := 0) (rmI11 l Z a0 hw [] (a) ((61 : Int32)) (d) (kd) (c0) (cs) h0 n0 Z0 p_0 p_1 p_2 p_3 ⟨by decide, by decide⟩ hm0.m.i (own_n61 hm0.m) p_9 (by assumption)) hZ (own_w hw 113 rfl) (own_w hw 12 rfl) (by decide) (by decide)) q6a q6c (g := (mkF m 68 #[rv nm, rv a] [(.int (61 : Int32)), (.ref a)])) rfl (by rw [hml]; rfl) (Steps.refl _) (argsL := [(.int (61 : Int32))]) (rest := []) (lenOf pd_2 rfl) rfl (by show 2 * 0 + _ ≤ _; exact Nat.le_of_eq rfl) (hb hby d12_68) (fun _ _ => ⟨rfl, eq5, (by decide : 0 + 0 ≤ _), (by decide : 0 + 0 ≤ _)⟩)
    dsimp only [Pt.U, Pt.locs, Pt.cells, Pt.slots] at X6 l6 y6 z6 st6 hQ6
    subst l6 y6 z6
    obtain ⟨rfl, Nq6, eq6⟩ := hQ6
    have N6 := Fr.app N5 Nq6
    refine own_st (fun _ kk_ => st6.trans kk_) ?_
    show own_Goes _ _ _ _ _ _ _ T6 (mkF m 71 #[rv nm, rv a] [(.int (-1 : Int32))])
    refine own_st (fun _ kk_ => XS.ifYes X6.here hx rfl (pc0 := 71) (pc' := 110) rfl (hb hby d12_71) rfl (XT.i0_lt_t (by decide)) (by decide) (by decide) kk_) ?_
    show own_Goes _ _ _ _ _ _ _ T6 (mkF m 110 #[rv nm, rv a] [])
    refine own_ret0 X6 hx hlk Bd.returns (hb hby d12_110) (by decide) (by decide) ?_
    show Q12 Z nm a d kd (1 : Int32) [(.int (own_by c0))] ci ca ka cs h0 n0 none T6.heap _
    rw [eq6]
    exact ⟨rfl, N6, rfl⟩
  · show own_Goes _ _ _ _ _ _ _ s₁ (mkF m 0 #[rv nm, rv a] [])
    refine own_st (fun _ kk_ => XS.aloadN X0.here hx rfl (hb hby d12_0) rfl rfl (XS.aloadN X0.here hx rfl (hb hby d12_1) rfl rfl kk_)) ?_
    show own_Goes _ _ _ _ _ _ _ s₁ (mkF m 2 #[rv nm, rv a] [(.ref nm), (.ref a)])
    obtain ⟨_, _, ⟨T7, L7, k7, n7⟩, -, X7, ⟨Lc7, hQ7, l7, y7, z7⟩, st7⟩ := Jvm.LawKit.callS X0 hx (y := yy18) hown (mvT hZ (own_w hw 59 rfl)) (mvT hZ (own_w hw 60 rfl)) (mvT hZ (own_w hw 61 rfl)) (mvT hZ (own_w hw 62 rfl)) (by decide) (backOf (W := 0) (rm13 l Z a0 hw [] (a) (nm) h0 n0 Z0) hZ (own_w hw 62 rfl) (own_w hw 61 rfl) (by decide) (by decide)) (g := (mkF m 2 #[rv nm, rv a] [(.ref nm), (.ref a)])) rfl (by rw [hml]; rfl) (argsL := [(.ref a), (.ref nm)]) (rest := []) (lenOf pd_11 rfl) rfl (by show 2 * 0 + _ ≤ _; exact Nat.le_of_eq rfl) (hb hby d12_2) (fun _ _ => ⟨rfl, e0, (by decide : 0 + 0 ≤ _), (by decide : 0 + 0 ≤ _)⟩)
    dsimp only [Pt.U, Pt.locs, Pt.cells, Pt.slots] at X7 l7 y7 z7 st7 hQ7
    subst l7 y7 z7
    obtain ⟨rfl, Nq7, eq7⟩ := hQ7
    have N7 := Fr.app N0 Nq7
    refine own_st st7 ?_
    show own_Goes _ _ _ _ _ _ _ T7 (mkF m 5 #[rv nm, rv a] [(.ref a)])
    refine own_st (fun _ kk_ => XS.pop X7.here hx rfl (hb hby d12_5) rfl rfl (XS.aloadN X7.here hx rfl (hb hby d12_6) rfl rfl kk_)) ?_
    show own_Goes _ _ _ _ _ _ _ T7 (mkF m 7 #[rv nm, rv a] [(.ref a)])
    obtain ⟨cq8, kq8, q8a, q8b, q8c⟩ := isOf hZ eq7 p_0
    obtain ⟨_, _, ⟨T8, L8, k8, n8⟩, -, X8, ⟨Lc8, hQ8, l8, y8, z8⟩, st8⟩ := X7.virtualBack hx (y := yy23) (z := yy23) hown (mvT hZ (own_w hw 63 rfl)) (mvT hZ (own_w hw 64 rfl)) (notFace_of_selects (args := #[]) (mvT hZ (own_w hw 66 rfl))) (mvT hZ (own_w hw 66 rfl)) (mvT hZ (own_w hw 65 rfl)) (by decide) (backOf (W := 0) (rmEM2 l Z a0 hw [] (a) (d) (kd) (c0) (c1) h0 n0 Z0 p_0 p_1 p_2 p_3) hZ (own_w hw 67 rfl) (own_w hw 12 rfl) (by decide) (by decide)) q8a q8c (g := (mkF m 7 #[rv nm, rv a] [(.ref a)])) rfl (by rw [hml]; rfl) (Steps.refl _) (argsL := []) (rest := []) (lenOf pd_6 rfl) rfl (by show 2 * 0 + _ ≤ _; exact Nat.le_of_eq rfl) (hb hby d12_7) (fun _ _ => ⟨rfl, eq7, (by decide : 0 + 0 ≤ _), (by decide : 0 + 0 ≤ _)⟩)
    dsimp only [Pt.U, Pt.locs, Pt.cells, Pt.slots] at X8 l8 y8 z8 st8 hQ8
    subst l8 y8 z8
    obtain ⟨rfl, Nq8, eq8⟩ := hQ8
    have N8 := Fr.app N7 Nq8
    refine own_st (fun _ kk_ => st8.trans kk_) ?_
    show own_Goes _ _ _ _ _ _ _ T8 (mkF m 10 #[rv nm, rv a] [(.int (0 : Int32))])
    refine own_st (fun _ kk_ => XS.ifYes X8.here hx rfl (pc0 := 10) (pc' := 45) rfl (hb hby d12_10) rfl (XT.i0_eq_t (by decide)) (by decide) (by decide) (XS.aloadN X8.here hx rfl (hb hby d12_45) rfl rfl kk_)) ?_
    show own_Goes _ _ _ _ _ _ _ T8 (mkF m 46 #[rv nm, rv a] [(.ref a)])
    obtain ⟨cq9, kq9, q9a, q9b, q9c⟩ := isOf hZ eq8 p_0
    obtain ⟨_, _, ⟨T9, L9, k9, n9⟩, -, X9, ⟨Lc9, hQ9, l9, y9, z9⟩, st9⟩ := X8.virtualBack hx (y := yy15) (z := yy15) hown (mvT hZ (own_w hw 68 rfl)) (mvT hZ (own_w hw 69 rfl)) (notFace_of_selects (args := #[]) (mvT hZ (own_w hw 71 rfl))) (mvT hZ (own_w hw 71 rfl)) (mvT hZ (own_w hw 70 rfl)) (by decide) (backOf (W := 0) (rm15 l Z a0 hw [] (a) (d) (kd) ((2 : Int32)) ([(.int (own_by c0)), (.int (own_by c1))]) (ci) (ca) (ka) (c0) (c1) (cs) h0 n0 Z0 p_0 p_1 p_2 p_3 p_4 p_5 p_6 p_7 (by decide) rfl hm0 rfl hm1 p_9 (by assumption)) hZ (own_w hw 72 rfl) (own_w hw 12 rfl) (by decide) (by decide)) q9a q9c (g := (mkF m 46 #[rv nm, rv a] [(.ref a)])) rfl (by rw [hml]; rfl) (Steps.refl _) (argsL := []) (rest := []) (lenOf pd_12 rfl) rfl (by show 2 * 0 + _ ≤ _; exact Nat.le_of_eq rfl) (hb hby d12_46) (fun _ _ => ⟨rfl, eq8, (by decide : 0 + 0 ≤ _), (by decide : 0 + 0 ≤ _)⟩)
    dsimp only [Pt.U, Pt.locs, Pt.cells, Pt.slots] at X9 l9 y9 z9 st9 hQ9
    subst l9 y9 z9
    obtain ⟨rfl, Nq9, eq9⟩ := hQ9
    have N9 := Fr.app N8 Nq9
    refine own_st (fun _ kk_ => st9.trans kk_) ?_
    show own_Goes _ _ _ _ _ _ _ T9 (mkF m 49 #[rv nm, rv a] [(.ref a)])
    refine own_st (fun _ kk_ => XS.aloadN X9.here hx rfl (hb hby d12_49) rfl rfl kk_) ?_
    show own_Goes _ _ _ _ _ _ _ T9 (mkF m 50 #[rv nm, rv a] [(.ref a), (.ref a)])
    obtain ⟨cq10, kq10, q10a, q10b, q10c⟩ := isOf hZ eq9 p_0
    obtain ⟨_, _, ⟨T10, L10, k10, n10⟩, -, X10, ⟨Lc10, hQ10, l10, y10, z10⟩, st10⟩ := X9.virtualBack hx (y := yy16) (z := yy16) hown (mvT hZ (own_w hw 104 rfl)) (mvT hZ (own_w hw 105 rfl)) (notFace_of_selects (args := #[]) (mvT hZ (own_w hw 107 rfl))) (mvT hZ (own_w hw 107 rfl)) (mvT hZ (own_w hw 106 rfl)) (by decide) (backOf (W := 0) (rm23 l Z a0 hw [] (a) h0 n0 Z0) hZ (own_w hw 108 rfl) (own_w hw 12 rfl) (by decide) (by decide)) q10a q10c (g := (mkF m 50 #[rv nm, rv a] [(.ref a), (.ref a)])) rfl (by rw [hml]; rfl) (Steps.refl _) (argsL := [(.ref a)]) (rest := []) (lenOf pd_13 rfl) rfl (by show 2 * 0 + _ ≤ _; exact Nat.le_of_eq rfl) (hb hby d12_50) (fun _ _ => ⟨rfl, eq9, (by decide : 0 + 0 ≤ _), (by decide : 0 + 0 ≤ _)⟩)
    dsimp only [Pt.U, Pt.locs, Pt.cells, Pt.slots] at X10 l10 y10 z10 st10 hQ10
    subst l10 y10 z10
    obtain ⟨rfl, Nq10, eq10⟩ := hQ10
    have N10 := Fr.app N9 Nq10
    refine own_st (fun _ kk_ => st10.trans kk_) ?_
    show own_Goes _ _ _ _ _ _ _ T10 (mkF m 53 #[rv nm, rv a] [(.int (1 : Int32))])
    refine own_st (fun _ kk_ => XS.ifNo X10.here hx rfl (hb hby d12_53) rfl (XT.i0_eq_f (by decide)) (XS.aloadN X10.here hx rfl (hb hby d12_56) rfl rfl (XS.bipush X10.here hx rfl (hb hby d12_57) kk_))) ?_
    show own_Goes _ _ _ _ _ _ _ T10 (mkF m 59 #[rv nm, rv a] [(.int (44 : Int32)), (.ref a)])
    obtain ⟨cq11, kq11, q11a, q11b, q11c⟩ := isOf hZ eq10 p_0
    obtain ⟨_, _, ⟨T11, L11, k11, n11⟩, -, X11, ⟨Lc11, hQ11, l11, y11, z11⟩, st11⟩ := X10.virtualBack hx (y := yy22) (z := yy22) hown (mvT hZ (own_w hw 109 rfl)) (mvT hZ (own_w hw 110 rfl)) (notFace_of_selects (args := #[]) (mvT hZ (own_w hw 112 rfl))) (mvT hZ (own_w hw 112 rfl)) (mvT hZ (own_w hw 111 rfl)) (by decide) (backOf (W := 0) (rmI12 l Z a0 hw [] (a) ((44 : Int32)) (d) (kd) (c0) (c1) (cs) h0 n0 Z0 p_0 p_1 p_2 p_3 ⟨by decide, by decide⟩ hm0.m.i hm1.m.i (own_n44 hm0.m) (own_n44 hm1.m) p_9 (by assumption)) hZ (own_w hw 113 rfl) (own_w hw 12 rfl) (by decide) (by decide)) q11a q11c (g := (mkF m 59 #[rv nm, rv a] [(.int (44 : Int32)), (.ref a)])) rfl (by rw [hml]; rfl) (Steps.refl _) (argsL := [(.int (44 : Int32))]) (rest := []) (lenOf pd_2 rfl) rfl (by show 2 * 0 + _ ≤ _; exact Nat.le_of_eq rfl) (hb hby d12_59) (fun _ _ => ⟨rfl, eq10, (by decide : 0 + 0 ≤ _), (by decide : 0 + 0 ≤ _)⟩)
    dsimp only [Pt.U, Pt.locs, Pt.cells, Pt.slots] at X11 l11 y11 z11 st11 hQ11
    subst l11 y11 z11
    obtain ⟨rfl, Nq11, eq11⟩ := hQ11
    have N11 := Fr.app N10 Nq11
    refine own_st (fun _ kk_ => st11.trans kk_) ?_
    show own_Goes _ _ _ _ _ _ _ T11 (mkF m 62 #[rv nm, rv a] [(.int (-1 : Int32))])
    refine own_st (fun _ kk_ => XS.ifNo X11.here hx rfl (hb hby d12_62) rfl (XT.i0_ge_f (by decide)) (XS.aloadN X11.here hx rfl (hb hby d12_65) rfl rfl (XS.bipush X11.here hx rfl (hb hby d12_66) kk_))) ?_
    show own_Goes _ _ _ _ _ _ _ T11 (mkF m 68 #[rv nm, rv a] [(.int (61 : Int32)), (.ref a)])
    obtain ⟨cq12, kq12, q12a, q12b, q12c⟩ := isOf hZ eq11 p_0
    obtain ⟨_, _, ⟨T12, L12, k12, n12⟩, -, X12, ⟨Lc12, hQ12, l12, y12, z12⟩, st12⟩ := X11.virtualBack hx (y := yy22) (z := yy22) hown (mvT hZ (own_w hw 109 rfl)) (mvT hZ (own_w hw 110 rfl)) (notFace_of_selects (args := #[]) (mvT hZ (own_w hw 112 rfl))) (mvT hZ (own_w hw 112 rfl)) (mvT hZ (own_w hw 111 rfl)) (by decide) (backOf (W := 0) (rmI12 l Z a0 hw [] (a) ((61 : Int32)) (d) (kd) (c0) (c1) (cs) h0 n0 Z0 p_0 p_1 p_2 p_3 ⟨by decide, by decide⟩ hm0.m.i hm1.m.i (own_n61 hm0.m) (own_n61 hm1.m) p_9 (by assumption)) hZ (own_w hw 113 rfl) (own_w hw 12 rfl) (by decide) (by decide)) q12a q12c (g := (mkF m 68 #[rv nm, rv a] [(.int (61 : Int32)), (.ref a)])) rfl (by rw [hml]; rfl) (Steps.refl _) (argsL := [(.int (61 : Int32))]) (rest := []) (lenOf pd_2 rfl) rfl (by show 2 * 0 + _ ≤ _; exact Nat.le_of_eq rfl) (hb hby d12_68) (fun _ _ => ⟨rfl, eq11, (by decide : 0 + 0 ≤ _), (by decide : 0 + 0 ≤ _)⟩)
    dsimp only [Pt.U, Pt.locs, Pt.cells, Pt.slots] at X12 l12 y12 z12 st12 hQ12
    subst l12 y12 z12
    obtain ⟨rfl, Nq12, eq12⟩ := hQ12
    have N12 := Fr.app N11 Nq12
    refine own_st (fun _ kk_ => st12.trans kk_) ?_
    show own_Goes _ _ _ _ _ _ _ T12 (mkF m 71 #[rv nm, rv a] [(.int (-1 : Int32))])
    refine own_st (fun _ kk_ => XS.ifYes X12.here hx rfl (pc0 := 71) (pc' := 110) rfl (hb hby d12_71) rfl (XT.i0_lt_t (by decide)) (by decide) (by decide) kk_) ?_
    show own_Goes _ _ _ _ _ _ _ T12 (mkF m 110 #[rv nm, rv a] [])
    refine own_ret0 X12 hx hlk Bd.returns (hb hby d12_110) (by decide) (by decide) ?_
    show Q12 Z nm a d kd (2 : Int32) [(.int (own_by c0)), (.int (own_by c1))] ci ca ka cs h0 n0 none T12.heap _
    rw [eq12]
    exact ⟨rfl, N12, rfl⟩
  · show own_Goes _ _ _ _ _ _ _ s₁ (mkF m 0 #[rv nm, rv a] [])
    refine own_st (fun _ kk_ => XS.aloadN X0.here hx rfl (hb hby d12_0) rfl rfl (XS.aloadN X0.here hx rfl (hb hby d12_1) rfl rfl kk_)) ?_
    show own_Goes _ _ _ _ _ _ _ s₁ (mkF m 2 #[rv nm, rv a] [(.ref nm), (.ref a)])
    obtain ⟨_, _, ⟨T13, L13, k13, n13⟩, -, X13, ⟨Lc13, hQ13, l13, y13, z13⟩, st13⟩ := Jvm.LawKit.callS X0 hx (y := yy18) hown (mvT hZ (own_w hw 59 rfl)) (mvT hZ (own_w hw 60 rfl)) (mvT hZ (own_w hw 61 rfl)) (mvT hZ (own_w hw 62 rfl)) (by decide) (backOf (W := 0) (rm13 l Z a0 hw [] (a) (nm) h0 n0 Z0) hZ (own_w hw 62 rfl) (own_w hw 61 rfl) (by decide) (by decide)) (g := (mkF m 2 #[rv nm, rv a] [(.ref nm), (.ref a)])) rfl (by rw [hml]; rfl) (argsL := [(.ref a), (.ref nm)]) (rest := []) (lenOf pd_11 rfl) rfl (by show 2 * 0 + _ ≤ _; exact Nat.le_of_eq rfl) (hb hby d12_2) (fun _ _ => ⟨rfl, e0, (by decide : 0 + 0 ≤ _), (by decide : 0 + 0 ≤ _)⟩)
    dsimp only [Pt.U, Pt.locs, Pt.cells, Pt.slots] at X13 l13 y13 z13 st13 hQ13
    subst l13 y13 z13
    obtain ⟨rfl, Nq13, eq13⟩ := hQ13
    have N13 := Fr.app N0 Nq13
    refine own_st st13 ?_
    show own_Goes _ _ _ _ _ _ _ T13 (mkF m 5 #[rv nm, rv a] [(.ref a)])
    refine own_st (fun _ kk_ => XS.pop X13.here hx rfl (hb hby d12_5) rfl rfl (XS.aloadN X13.here hx rfl (hb hby d12_6) rfl rfl kk_)) ?_
    show own_Goes _ _ _ _ _ _ _ T13 (mkF m 7 #[rv nm, rv a] [(.ref a)])
    obtain ⟨cq14, kq14, q14a, q14b, q14c⟩ := isOf hZ eq13 p_0
    obtain ⟨_, _, ⟨T14, L14, k14, n14⟩, -, X14, ⟨Lc14, hQ14, l14, y14, z14⟩, st14⟩ := X13.virtualBack hx (y := yy23) (z := yy23) hown (mvT hZ (own_w hw 63 rfl)) (mvT hZ (own_w hw 64 rfl)) (notFace_of_selects (args := #[]) (mvT hZ (own_w hw 66 rfl))) (mvT hZ (own_w hw 66 rfl)) (mvT hZ (own_w hw 65 rfl)) (by decide) (backOf (W := 0) (rmEM3 l Z a0 hw [] (a) (d) (kd) (c0) (c1) (c2) h0 n0 Z0 p_0 p_1 p_2 p_3) hZ (own_w hw 67 rfl) (own_w hw 12 rfl) (by decide) (by decide)) q14a q14c (g := (mkF m 7 #[rv nm, rv a] [(.ref a)])) rfl (by rw [hml]; rfl) (Steps.refl _) (argsL := []) (rest := []) (lenOf pd_6 rfl) rfl (by show 2 * 0 + _ ≤ _; exact Nat.le_of_eq rfl) (hb hby d12_7) (fun _ _ => ⟨rfl, eq13, (by decide : 0 + 0 ≤ _), (by decide : 0 + 0 ≤ _)⟩)
    dsimp only [Pt.U, Pt.locs, Pt.cells, Pt.slots] at X14 l14 y14 z14 st14 hQ14
    subst l14 y14 z14
    obtain ⟨rfl, Nq14, eq14⟩ := hQ14
    have N14 := Fr.app N13 Nq14
    refine own_st (fun _ kk_ => st14.trans kk_) ?_
    show own_Goes _ _ _ _ _ _ _ T14 (mkF m 10 #[rv nm, rv a] [(.int (0 : Int32))])
    refine own_st (fun _ kk_ => XS.ifYes X14.here hx rfl (pc0 := 10) (pc' := 45) rfl (hb hby d12_10) rfl (XT.i0_eq_t (by decide)) (by decide) (by decide) (XS.aloadN X14.here hx rfl (hb hby d12_45) rfl rfl kk_)) ?_
    show own_Goes _ _ _ _ _ _ _ T14 (mkF m 46 #[rv nm, rv a] [(.ref a)])
    obtain ⟨cq15, kq15, q15a, q15b, q15c⟩ := isOf hZ eq14 p_0
    obtain ⟨_, _, ⟨T15, L15, k15, n15⟩, -, X15, ⟨Lc15, hQ15, l15, y15, z15⟩, st15⟩ := X14.virtualBack hx (y := yy15) (z := yy15) hown (mvT hZ (own_w hw 68 rfl)) (mvT hZ (own_w hw 69 rfl)) (notFace_of_selects (args := #[]) (mvT hZ (own_w hw 71 rfl))) (mvT hZ (own_w hw 71 rfl)) (mvT hZ (own_w hw 70 rfl)) (by decide) (backOf (W := 0) (rm15 l Z a0 hw [] (a) (d) (kd) ((3 : Int32)) ([(.int (own_by c0)), (.int (own_by c1)), (.int (own_by c2))]) (ci) (ca) (ka) (c0) (c2) (cs) h0 n0 Z0 p_0 p_1 p_2 p_3 p_4 p_5 p_6 p_7 (by decide) rfl hm0 rfl hm2 p_9 (by assumption)) hZ (own_w hw 72 rfl) (own_w hw 12 rfl) (by decide) (by decide)) q15a q15c (g := (mkF m 46 #[rv nm, rv a] [(.ref a)])) rfl (by rw [hml]; rfl) (Steps.refl _) (argsL := []) (rest := []) (lenOf pd_12 rfl) rfl (by show 2 * 0 + _ ≤ _; exact Nat.le_of_eq rfl) (hb hby d12_46) (fun _ _ => ⟨rfl, eq14, (by decide : 0 + 0 ≤ _), (by decide : 0 + 0 ≤ _)⟩)
    dsimp only [Pt.U, Pt.locs, Pt.cells, Pt.slots] at X15 l15 y15 z15 st15 hQ15
    subst l15 y15 z15
    obtain ⟨rfl, Nq15, eq15⟩ := hQ15
    have N15 := Fr.app N14 Nq15
    refine own_st (fun _ kk_ => st15.trans kk_) ?_
    show own_Goes _ _ _ _ _ _ _ T15 (mkF m 49 #[rv nm, rv a] [(.ref a)])
    refine own_st (fun _ kk_ => XS.aloadN X15.here hx rfl (hb hby d12_49) rfl rfl kk_) ?_
    show own_Goes _ _ _ _ _ _ _ T15 (mkF m 50 #[rv nm, rv a] [(.ref a), (.ref a)])
    obtain ⟨cq16, kq16, q16a, q16b, q16c⟩ := isOf hZ eq15 p_0
    obtain ⟨_, _, ⟨T16, L16, k16, n16⟩, -, X16, ⟨Lc16, hQ16, l16, y16, z16⟩, st16⟩ := X15.virtualBack hx (y := yy16) (z := yy16) hown (mvT hZ (own_w hw 104 rfl)) (mvT hZ (own_w hw 105 rfl)) (notFace_of_selects (args := #[]) (mvT hZ (own_w hw 107 rfl))) (mvT hZ (own_w hw 107 rfl)) (mvT hZ (own_w hw 106 rfl)) (by decide) (backOf (W := 0) (rm23 l Z a0 hw [] (a) h0 n0 Z0) hZ (own_w hw 108 rfl) (own_w hw 12 rfl) (by decide) (by decide)) q16a q16c (g := (mkF m 50 #[rv nm, rv a] [(.ref a), (.ref a)])) rfl (by rw [hml]; rfl) (Steps.refl _) (argsL := [(.ref a)]) (rest := []) (lenOf pd_13 rfl) rfl (by show 2 * 0 + _ ≤ _; exact Nat.le_of_eq rfl) (hb hby d12_50) (fun _ _ => ⟨rfl, eq15, (by decide : 0 + 0 ≤ _), (by decide : 0 + 0 ≤ _)⟩)
    dsimp only [Pt.U, Pt.locs, Pt.cells, Pt.slots] at X16 l16 y16 z16 st16 hQ16
    subst l16 y16 z16
    obtain ⟨rfl, Nq16, eq16⟩ := hQ16
    have N16 := Fr.app N15 Nq16
    refine own_st (fun _ kk_ => st16.trans kk_) ?_
    show own_Goes _ _ _ _ _ _ _ T16 (mkF m 53 #[rv nm, rv a] [(.int (1 : Int32))])
    refine own_st (fun _ kk_ => XS.ifNo X16.here hx rfl (hb hby d12_53) rfl (XT.i0_eq_f (by decide)) (XS.aloadN X16.here hx rfl (hb hby d12_56) rfl rfl (XS.bipush X16.here hx rfl (hb hby d12_57) kk_))) ?_
    show own_Goes _ _ _ _ _ _ _ T16 (mkF m 59 #[rv nm, rv a] [(.int (44 : Int32)), (.ref a)])
    obtain ⟨cq17, kq17, q17a, q17b, q17c⟩ := isOf hZ eq16 p_0
    obtain ⟨_, _, ⟨T17, L17, k17, n17⟩, -, X17, ⟨Lc17, hQ17, l17, y17, z17⟩, st17⟩ := X16.virtualBack hx (y := yy22) (z := yy22) hown (mvT hZ (own_w hw 109 rfl)) (mvT hZ (own_w hw 110 rfl)) (notFace_of_selects (args := #[]) (mvT hZ (own_w hw 112 rfl))) (mvT hZ (own_w hw 112 rfl)) (mvT hZ (own_w hw 111 rfl)) (by decide) (backOf (W := 0) (rmI13 l Z a0 hw [] (a) ((44 : Int32)) (d) (kd) (c0) (c1) (c2) (cs) h0 n0 Z0 p_0 p_1 p_2 p_3 ⟨by decide, by decide⟩ hm0.m.i hm1.i hm2.m.i (own_n44 hm0.m) (own_n44 hm1) (own_n44 hm2.m) p_9 (by assumption)) hZ (own_w hw 113 rfl) (own_w hw 12 rfl) (by decide) (by decide)) q17a q17c (g := (mkF m 59 #[rv nm, rv a] [(.int (44 : Int32)), (.ref a)])) rfl (by rw [hml]; rfl) (Steps.refl _) (argsL := [(.int (44 : Int32))]) (rest := []) (lenOf pd_2 rfl) rfl (by show 2 * 0 + _ ≤ _; exact Nat.le_of_eq rfl) (hb hby d12_59) (fun _ _ => ⟨rfl, eq16, (by decide : 0 + 0 ≤ _), (by decide : 0 + 0 ≤ _)⟩)
    dsimp only [Pt.U, Pt.locs, Pt.cells, Pt.slots] at X17 l17 y17 z17 st17 hQ17
    subst l17 y17 z17
    obtain ⟨rfl, Nq17, eq17⟩ := hQ17
    have N17 := Fr.app N16 Nq17
    refine own_st (fun _ kk_ => st17.trans kk_) ?_
    show own_Goes _ _ _ _ _ _ _ T17 (mkF m 62 #[rv nm, rv a] [(.int (-1 : Int32))])
    refine own_st (fun _ kk_ => XS.ifNo X17.here hx rfl (hb hby d12_62) rfl (XT.i0_ge_f (by decide)) (XS.aloadN X17.here hx rfl (hb hby d12_65) rfl rfl (XS.bipush X17.here hx rfl (hb hby d12_66) kk_))) ?_
    show own_Goes _ _ _ _ _ _ _ T17 (mkF m 68 #[rv nm, rv a] [(.int (61 : Int32)), (.ref a)])
    obtain ⟨cq18, kq18, q18a, q18b, q18c⟩ := isOf hZ eq17 p_0
    obtain ⟨_, _, ⟨T18, L18, k18, n18⟩, -, X18, ⟨Lc18, hQ18, l18, y18, z18⟩, st18⟩ := X17.virtualBack hx (y := yy22) (z := yy22) hown (mvT hZ (own_w hw 109 rfl)) (mvT hZ (own_w hw 110 rfl)) (notFace_of_selects (args := #[]) (mvT hZ (own_w hw 112 rfl))) (mvT hZ (own_w hw 112 rfl)) (mvT hZ (own_w hw 111 rfl)) (by decide) (backOf (W := 0) (rmI13 l Z a0 hw [] (a) ((61 : Int32)) (d) (kd) (c0) (c1) (c2) (cs) h0 n0 Z0 p_0 p_1 p_2 p_3 ⟨by decide, by decide⟩ hm0.m.i hm1.i hm2.m.i (own_n61 hm0.m) (own_n61 hm1) (own_n61 hm2.m) p_9 (by assumption)) hZ (own_w hw 113 rfl) (own_w hw 12 rfl) (by decide) (by decide)) q18a q18c (g := (mkF m 68 #[rv nm, rv a] [(.int (61 : Int32)), (.ref a)])) rfl (by rw [hml]; rfl) (Steps.refl _) (argsL := [(.int (61 : Int32))]) (rest := []) (lenOf pd_2 rfl) rfl (by show 2 * 0 + _ ≤ _; exact Nat.le_of_eq rfl) (hb hby d12_68) (fun _ _ => ⟨rfl, eq17, (by decide : 0 + 0 ≤ _), (by decide : 0 + 0 ≤ _)⟩)
    dsimp only [Pt.U, Pt.locs, Pt.cells, Pt.slots] at X18 l18 y18 z18 st18 hQ18
    subst l18 y18 z18
    obtain ⟨rfl, Nq18, eq18⟩ := hQ18
    have N18 := Fr.app N17 Nq18
    refine own_st (fun _ kk_ => st18.trans kk_) ?_
    show own_Goes _ _ _ _ _ _ _ T18 (mkF m 71 #[rv nm, rv a] [(.int (-1 : Int32))])
    refine own_st (fun _ kk_ => XS.ifYes X18.here hx rfl (pc0 := 71) (pc' := 110) rfl (hb hby d12_71) rfl (XT.i0_lt_t (by decide)) (by decide) (by decide) kk_) ?_
    show own_Goes _ _ _ _ _ _ _ T18 (mkF m 110 #[rv nm, rv a] [])
    refine own_ret0 X18 hx hlk Bd.returns (hb hby d12_110) (by decide) (by decide) ?_
    show Q12 Z nm a d kd (3 : Int32) [(.int (own_by c0)), (.int (own_by c1)), (.int (own_by c2))] ci ca ka cs h0 n0 none T18.heap _
    rw [eq18]
    exact ⟨rfl, N18, rfl⟩
theorem own_smo {args : Array Value} {s : State} {C : String} {x y0 y : MethodName} (hsel : (Jvm.Cond.selects C x y0).before args s = true) (e : y0.cls = y.cls) (hinst : (Jvm.Cond.instanceMethod y).before args s = true) (hy : y.cls ≠ "java/lang/invoke/MethodHandle" ∧ y.cls ≠ "java/lang/invoke/VarHandle") : (Jvm.Cond.sameMethod y.cls y.cls y.name y.desc).before args s = true := by
  obtain ⟨mk, methM, hnamed, -, -, -⟩ := Cond.instanceMethod_spec hinst
  obtain ⟨c2, r2, m2, -, -, q3, -, kP, hkP, hkPi⟩ := Cond.selects_spec hsel
  have hf := State.methodFound?_of_named hnamed hy
  have hc := findClass_of_methodNamed hnamed
  have hc2 := findClass_of_methodNamed q3
  rw [e, hc] at hc2
  have q := Option.some.inj hc2
  have hn' : s.methodNamed? ⟨y.cls, y.name, y.desc⟩ = some mk := hnamed
  simp only [Cond.before, Cond.holds, Cond.value, hc, hf, hn']
  rw [q, hkP]; simp [hkPi]
theorem own_nf {args : Array Value} {s : State} {C : String} {x y0 y : MethodName} (hsel : (Jvm.Cond.selects C x y0).before args s = true) (e : y0.cls = y.cls) : NotFace s y := fun r0 h0 => by
  obtain ⟨c2, r2, m2, -, -, q3, -, kP, hkP, hkPi⟩ := Cond.selects_spec hsel
  have h1 := findClass_of_methodNamed h0
  have h2 := findClass_of_methodNamed q3
  rw [e, h1] at h2
  have q := Option.some.inj h2
  exact ⟨kP, by rw [q]; exact hkP, hkPi⟩
theorem own_selp {args : Array Value} {s : State} {C : String} {y : MethodName} (hsel : (Jvm.Cond.selects C y y).before args s = true) (hpriv : s.PrivateAt y) (hinst : (Jvm.Cond.instanceMethod y).before args s = true) (hy : y.cls ≠ "java/lang/invoke/MethodHandle" ∧ y.cls ≠ "java/lang/invoke/VarHandle") : (Jvm.Cond.selects y.cls y y).before args s = true := by
  obtain ⟨mk, methM, hnamed, -, -, -⟩ := Cond.instanceMethod_spec hinst
  obtain ⟨c2, r2, m2, -, -, q3, -, kP, hkP, hkPi⟩ := Cond.selects_spec hsel
  cases hnamed.symm.trans q3
  exact selects_self_of_private (findClass_of_methodNamed hnamed) hkP hkPi hpriv hinst hy
def own_z7 : List Value := List.replicate 7 (.int (0 : Int32))
def own_z16 : List Value := List.replicate 16 (.int (0 : Int32))
def own_cp (vs vd : List Value) (sp dp nn : Int32) (dv : Value) : List Value := vd.take dp.toNatClampNeg ++ ((List.range nn.toNatClampNeg).map fun i => vs.getD (sp.toNatClampNeg + i) dv) ++ vd.drop (dp.toNatClampNeg + nn.toNatClampNeg)
theorem own_cpl {vs vd : List Value} {sp dp nn : Int32} {dv : Value} (h : dp.toNatClampNeg + nn.toNatClampNeg ≤ vd.length) : (own_cp vs vd sp dp nn dv).length = vd.length := by
  simp only [own_cp, List.length_append, List.length_take, List.length_map, List.length_range, List.length_drop]; omega
theorem own_shl0 (z : Int32) : z <<< ((0 : Int32) &&& 31) = z := by
  have e := c_ishl z 0 0 (by decide); have := z.le_toInt; have := z.toInt_lt; have := (z <<< ((0 : Int32) &&& 31)).le_toInt; have := (z <<< ((0 : Int32) &&& 31)).toInt_lt
  refine Int32.toInt_inj.mp ?_; omega
def own_fit (c n : Int32) : Prop := 0 ≤ c.toInt ∧ 0 ≤ n.toInt ∧ c.toInt + n.toInt ≤ 16
theorem own_fit.a {c n : Int32} (h : own_fit c n) : ¬ c < 0 := by unfold own_fit at h; simp only [Int32.lt_iff_toInt_lt, Int32.reduceToInt]; omega
theorem own_fit.b {c n : Int32} (h : own_fit c n) : ¬ n < 0 := by unfold own_fit at h; simp only [Int32.lt_iff_toInt_lt, Int32.reduceToInt]; omega
theorem own_fit.c {c n : Int32} (_ : own_fit c n) : (0 : Int32).toNatClampNeg + n.toNatClampNeg ≤ n.toNatClampNeg := by simp
theorem own_fit.s {c n : Int32} (h : own_fit c n) : c.toNatClampNeg + n.toNatClampNeg ≤ 16 := by unfold own_fit at h; simp only [Int32.toNatClampNeg]; omega
theorem own_fit.d {c n : Int32} (h : own_fit c n) : c.toNatClampNeg + n.toNatClampNeg ≤ (16 : Int32).toNatClampNeg := h.s
theorem own_fit.l {c n : Int32} (h : own_fit c n) {vs : List Value} (q : 16 ≤ vs.length) : c.toNatClampNeg + n.toNatClampNeg ≤ vs.length := Nat.le_trans h.s q
theorem own_fit.e {c n : Int32} (h : own_fit c n) : ¬ (0 : Int32) < (c + n) - (16 : Int32) := by
  have q := c_iadd c n; have r := c_isub (c + n) 16; have := (c + n).le_toInt; have := (c + n).toInt_lt; have := ((c + n) - 16).le_toInt; have := ((c + n) - 16).toInt_lt
  unfold own_fit at h; simp only [Int32.lt_iff_toInt_lt, Int32.reduceToInt] at r ⊢; omega
abbrev rRrm38 : Room := { frames := 0, cells := 0, slots := 0, locals := 0 }
theorem d38_0 : decode jdk_68_method_9_code 0 = .ok (.aload_n 0, 1) := by decide +kernel
theorem d38_1 : decode jdk_68_method_9_code 1 = .ok (.getfield 15, 3) := by decide +kernel
theorem d38_4 : decode jdk_68_method_9_code 4 = .ok (.arraylength, 1) := by decide +kernel
theorem d38_5 : decode jdk_68_method_9_code 5 = .ok (.aload_n 0, 1) := by decide +kernel
theorem d38_6 : decode jdk_68_method_9_code 6 = .ok (.getfield 22, 3) := by decide +kernel
theorem d38_9 : decode jdk_68_method_9_code 9 = .ok (.ishr, 1) := by decide +kernel
theorem d38_10 : decode jdk_68_method_9_code 10 = .ok (.istore_n 2, 1) := by decide +kernel
theorem d38_11 : decode jdk_68_method_9_code 11 = .ok (.iload_n 1, 1) := by decide +kernel
theorem d38_12 : decode jdk_68_method_9_code 12 = .ok (.iload_n 2, 1) := by decide +kernel
theorem d38_13 : decode jdk_68_method_9_code 13 = .ok (.isub, 1) := by decide +kernel
theorem d38_14 : decode jdk_68_method_9_code 14 = .ok (.ifCond .le 24, 3) := by decide +kernel
theorem d38_38 : decode jdk_68_method_9_code 38 = .ok (.return_, 1) := by decide +kernel
theorem pn_rm38 : plainFor yy25 = true := by first | exact plainFor_of_name (by first | (simp [plainName, overriddenIn]; done) | decide +kernel) | decide +kernel
theorem ef_rm38 (m : MethodId) (o : Addr) (m9 : Int32) : entryFrame m #[(.ref o), (.int m9)] 3 = (mkF m 0 #[rv o, iv m9, .unset] []) := by first | (simp [entryFrame, mkF, argsToLocals, Value.category]; done) | rfl
def Q38 (Z : State) (o : Addr) (m9 : Int32) (d : Addr) (kd : ClassId) (vs1 : List Value) (h0 : Heap) (n0 : Nat) (v_ : Option Value) (h_ : Heap) (L_ : List Loc) : Prop := (v_ = none) ∧ (Fr n0 L_) ∧ (h_ = h0)
set_option maxRecDepth 65536 in
set_option maxHeartbeats 40000000 in
theorem rm38 (l : Launch) (Z : State) (a0 : Array Value) (hw : ∀ d ∈ tables_1, d.before a0 Z = true) (ws : List Jvm.Cond) (o : Addr) (m9 : Int32) (d : Addr) (kd : ClassId) (vs1 : List Value) (h0 : Heap) (n0 : Nat) (Z0 : n0 ≤ h0.size) (p_0 : Exa Z h0 o "java/lang/StringBuilder") (p_1 : Fld Z h0 o "java/lang/AbstractStringBuilder" "value" "[B" (.ref d)) (p_2 : Fld Z h0 o "java/lang/AbstractStringBuilder" "coder" "B" (.int (0 : Int32))) (p_3 : Arv Z h0 d kd .byte (16 : Int32) vs1 (.int (0 : Int32))) (h : ¬ (0 : Int32) < (m9 - (16 : Int32))) :
    MetFree l yy25 (head1 (Jvm.Cond.code yy25 jdk_68_method_9_code 3 none :: ws) rRrm38) (fun a_ U_ => a_ = #[(.ref o), (.int m9)] ∧ Z.Warmed39 U_.vm ∧ U_.heap = h0) (fun _ _ _ _ _ => True) (fun _ U_ o_ U1_ => ∃ v_ L_, o_ = .returned v_ ∧ Q38 Z o m9 d kd vs1 h0 n0 v_ U1_.heap L_ ∧ FrameEnd U_ o_ U1_ L_ rRrm38.cells rRrm38.slots) := by
  refine MetFree.of_bodySF pn_rm38 hisR ?_
  intro p e s m args below meth c s₁ Bd hml0 hP hK
  obtain ⟨rfl, hZ, hh⟩ := hP
  have hx := Bd.exec
  have hby := Bd.bytes
  have hlk : meth.locks = false := Bd.notSynchronized
  have hml : c.maxLocals = 3 := hml0
  have hown : s.vm.findClass "java/lang/AbstractStringBuilder" = some m.cls := findClass_of_methodNamed Bd.named
  have hnm := (name_of_methodNamed Bd.named Bd.method).1
  have X0 : Stand p l e rRrm38 s m #[(.ref o), (.int m9)] below meth c s₁ [] 0 0 := Stand.of_body Bd
  have e0 : s₁.heap = h0 := by rw [← hh, Bd.state]; rfl
  have N0 := Fr.nil n0
  show own_Goes p e below s (Q38 Z o m9 d kd vs1 h0 n0) rRrm38.cells rRrm38.slots s₁ (entryFrame m #[(.ref o), (.int m9)] 3)
  rw [ef_rm38 m o m9]
  show own_Goes p e below s (Q38 Z o m9 d kd vs1 h0 n0) rRrm38.cells rRrm38.slots s₁ (mkF m 0 #[rv o, iv m9, .unset] [])
  refine own_st (fun _ kk_ => XS.aloadN X0.here hx rfl (hb hby d38_0) rfl rfl kk_) ?_
  show own_Goes _ _ _ _ _ _ _ s₁ (mkF m 1 #[rv o, iv m9, .unset] [(.ref o)])
  obtain ⟨T1, X1, e1, st1⟩ := getF X0 hx hZ hown (host := "") (Or.inl (own_w hw 169 rfl)) Via.refl e0 p_1 (g := (mkF m 1 #[rv o, iv m9, .unset] [(.ref o)])) rfl rfl (hb hby d38_1)
  refine own_st st1 ?_
  show own_Goes _ _ _ _ _ _ _ T1 (mkF m 4 #[rv o, iv m9, .unset] [(.ref d)])
  obtain ⟨cl2, Ar2, -, Sz2, Nn2, -, -⟩ := id p_3
  refine own_st (fun _ kk_ => X1.arraylength hx (by rw [e1]; exact Ar2.1) (State.isArrayOf_alike hZ.alike Ar2.2.1) (g := (mkF m 4 #[rv o, iv m9, .unset] [(.ref d)])) rfl rfl (hb hby d38_4) _ kk_) ?_
  rw [len_of Sz2 Nn2]
  show own_Goes _ _ _ _ _ _ _ T1 (mkF m 5 #[rv o, iv m9, .unset] [(.int (16 : Int32))])
  refine own_st (fun _ kk_ => XS.aloadN X1.here hx rfl (hb hby d38_5) rfl rfl kk_) ?_
  show own_Goes _ _ _ _ _ _ _ T1 (mkF m 6 #[rv o, iv m9, .unset] [(.ref o), (.int (16 : Int32))])
  obtain ⟨T3, X3, e3, st3⟩ := getF X1 hx hZ hown (host := "") (Or.inl (own_w hw 171 rfl)) Via.refl e1 p_2 (g := (mkF m 6 #[rv o, iv m9, .unset] [(.ref o), (.int (16 : Int32))])) rfl rfl (hb hby d38_6)
  refine own_st st3 ?_
  show own_Goes _ _ _ _ _ _ _ T3 (mkF m 9 #[rv o, iv m9, .unset] [(.int (0 : Int32)), (.int (16 : Int32))])
  refine own_st (fun _ kk_ => XS.ishr X3.here hx rfl (hb hby d38_9) rfl (XS.istoreN X3.here hx rfl (hb hby d38_10) rfl (l' := #[rv o, iv m9, iv (16 : Int32)]) rfl (XS.iloadN X3.here hx rfl (hb hby d38_11) rfl (XS.iloadN X3.here hx rfl (hb hby d38_12) rfl (XS.isub X3.here hx rfl (hb hby d38_13) rfl (XS.ifYes X3.here hx rfl (pc0 := 14) (pc' := 38) rfl (hb hby d38_14) rfl (XT.i0_le_t h) (by decide) (by decide) kk_)))))) ?_
  show own_Goes _ _ _ _ _ _ _ T3 (mkF m 38 #[rv o, iv m9, iv (16 : Int32)] [])
  refine own_ret0 X3 hx hlk Bd.returns (hb hby d38_38) (by decide) (by decide) ?_
  show Q38 Z o m9 d kd vs1 h0 n0 none T3.heap _
  rw [e3]
  exact ⟨rfl, N0, rfl⟩
abbrev rRrm40 : Room := { frames := 1, cells := 0, slots := 0, locals := 13 }
theorem d40_0 : decode jdk_68_method_71_code 0 = .ok (.getstatic 18, 3) := by decide +kernel
theorem d40_3 : decode jdk_68_method_71_code 3 = .ok (.ifCond .eq 18, 3) := by decide +kernel
theorem d40_6 : decode jdk_68_method_71_code 6 = .ok (.aload_n 0, 1) := by decide +kernel
theorem d40_7 : decode jdk_68_method_71_code 7 = .ok (.getfield 22, 3) := by decide +kernel
theorem d40_10 : decode jdk_68_method_71_code 10 = .ok (.aload_n 1, 1) := by decide +kernel
theorem d40_11 : decode jdk_68_method_71_code 11 = .ok (.invokevirtual 40, 3) := by decide +kernel
theorem d40_14 : decode jdk_68_method_71_code 14 = .ok (.if_icmp .eq 7, 3) := by decide +kernel
theorem d40_21 : decode jdk_68_method_71_code 21 = .ok (.return_, 1) := by decide +kernel
theorem pn_rm40 : plainFor yy26 = true := by first | exact plainFor_of_name (by first | (simp [plainName, overriddenIn]; done) | decide +kernel) | decide +kernel
theorem ef_rm40 (m : MethodId) (o : Addr) (a : Addr) : entryFrame m #[(.ref o), (.ref a)] 2 = (mkF m 0 #[rv o, rv a] []) := by first | (simp [entryFrame, mkF, argsToLocals, Value.category]; done) | rfl
def Q40 (Z : State) (o : Addr) (a : Addr) (cs : Int32) (h0 : Heap) (n0 : Nat) (v_ : Option Value) (h_ : Heap) (L_ : List Loc) : Prop := (v_ = none) ∧ (Fr n0 L_) ∧ (h_ = h0)
set_option maxRecDepth 65536 in
set_option maxHeartbeats 40000000 in
theorem rm40 (l : Launch) (Z : State) (a0 : Array Value) (hw : ∀ d ∈ tables_1, d.before a0 Z = true) (ws : List Jvm.Cond) (o : Addr) (a : Addr) (cs : Int32) (h0 : Heap) (n0 : Nat) (Z0 : n0 ≤ h0.size) (p_0 : Exa Z h0 o "java/lang/StringBuilder") (p_1 : Fld Z h0 o "java/lang/AbstractStringBuilder" "coder" "B" (.int (0 : Int32))) (p_2 : Exa Z h0 a "java/lang/String") (p_3 : Fld Z h0 a "java/lang/String" "coder" "B" (.int (0 : Int32))) (p_4 : Sta Z h0 "java/lang/String" "COMPACT_STRINGS" "Z" (.int cs)) (hcs : ¬ cs = (0 : Int32)) :
    MetFree l yy26 (head1 (Jvm.Cond.code yy26 jdk_68_method_71_code 2 none :: ws) rRrm40) (fun a_ U_ => a_ = #[(.ref o), (.ref a)] ∧ Z.Warmed39 U_.vm ∧ U_.heap = h0) (fun _ _ _ _ _ => True) (fun _ U_ o_ U1_ => ∃ v_ L_, o_ = .returned v_ ∧ Q40 Z o a cs h0 n0 v_ U1_.heap L_ ∧ FrameEnd U_ o_ U1_ L_ rRrm40.cells rRrm40.slots) := by
  refine MetFree.of_bodySF pn_rm40 hisR ?_
  intro p e s m args below meth c s₁ Bd hml0 hP hK
  obtain ⟨rfl, hZ, hh⟩ := hP
  have hx := Bd.exec
  have hby := Bd.bytes
  have hlk : meth.locks = false := Bd.notSynchronized
  have hml : c.maxLocals = 2 := hml0
  have hown : s.vm.findClass "java/lang/AbstractStringBuilder" = some m.cls := findClass_of_methodNamed Bd.named
  have hnm := (name_of_methodNamed Bd.named Bd.method).1
  have X0 : Stand p l e rRrm40 s m #[(.ref o), (.ref a)] below meth c s₁ [] 0 0 := Stand.of_body Bd
  have e0 : s₁.heap = h0 := by rw [← hh, Bd.state]; rfl
  have N0 := Fr.nil n0
  show own_Goes p e below s (Q40 Z o a cs h0 n0) rRrm40.cells rRrm40.slots s₁ (entryFrame m #[(.ref o), (.ref a)] 2)
  rw [ef_rm40 m o a]
  show own_Goes p e below s (Q40 Z o a cs h0 n0) rRrm40.cells rRrm40.slots s₁ (mkF m 0 #[rv o, rv a] [])
  obtain ⟨T1, X1, e1, st1⟩ := getS2 X0 hx hZ hown (host := "") (Or.inl (own_w hw 168 rfl)) Via.refl e0 p_4 (g := (mkF m 0 #[rv o, rv a] [])) rfl (hb hby d40_0)
  refine own_st st1 ?_
  show own_Goes _ _ _ _ _ _ _ T1 (mkF m 3 #[rv o, rv a] [(.int cs)])
  refine own_st (fun _ kk_ => XS.ifNo X1.here hx rfl (hb hby d40_3) rfl (XT.i0_eq_f hcs) (XS.aloadN X1.here hx rfl (hb hby d40_6) rfl rfl kk_)) ?_
  show own_Goes _ _ _ _ _ _ _ T1 (mkF m 7 #[rv o, rv a] [(.ref o)])
  obtain ⟨T2, X2, e2, st2⟩ := getF X1 hx hZ hown (host := "") (Or.inl (own_w hw 171 rfl)) Via.refl e1 p_1 (g := (mkF m 7 #[rv o, rv a] [(.ref o)])) rfl rfl (hb hby d40_7)
  refine own_st st2 ?_
  show own_Goes _ _ _ _ _ _ _ T2 (mkF m 10 #[rv o, rv a] [(.int (0 : Int32))])
  refine own_st (fun _ kk_ => XS.aloadN X2.here hx rfl (hb hby d40_10) rfl rfl kk_) ?_
  show own_Goes _ _ _ _ _ _ _ T2 (mkF m 11 #[rv o, rv a] [(.ref a), (.int (0 : Int32))])
  obtain ⟨cq3, kq3, q3a, q3b, q3c⟩ := isOf hZ e2 p_2
  obtain ⟨_, _, ⟨T3, L3, k3, n3⟩, -, X3, ⟨Lc3, hQ3, l3, y3, z3⟩, st3⟩ := X2.virtualBack hx (y := yy4) (z := yy4) hown (mvT hZ (own_w hw 201 rfl)) (mvT hZ (own_w hw 125 rfl)) (notFace_of_selects (args := #[]) (mvT hZ (own_w hw 127 rfl))) (mvT hZ (own_w hw 127 rfl)) (mvT hZ (own_w hw 126 rfl)) (by decide) (backOf (W := 1) (rm27 l Z a0 hw [] (a) (cs) h0 n0 Z0 p_3 p_4 (by assumption)) hZ (own_w hw 128 rfl) (own_w hw 12 rfl) (by decide) (by decide)) q3a q3c (g := (mkF m 11 #[rv o, rv a] [(.ref a), (.int (0 : Int32))])) rfl (by rw [hml]; rfl) (Steps.refl _) (argsL := []) (rest := [(.int (0 : Int32))]) (lenOf pd_1 rfl) rfl (by show 2 * 0 + _ ≤ _; exact Nat.le_of_eq rfl) (hb hby d40_11) (fun _ _ => ⟨rfl, e2, (by decide : 0 + 0 ≤ _), (by decide : 0 + 0 ≤ _)⟩)
  dsimp only [Pt.U, Pt.locs, Pt.cells, Pt.slots] at X3 l3 y3 z3 st3 hQ3
  subst l3 y3 z3
  obtain ⟨rfl, Nq3, eq3⟩ := hQ3
  have N3 := Fr.app N0 Nq3
  refine own_st (fun _ kk_ => st3.trans kk_) ?_
  show own_Goes _ _ _ _ _ _ _ T3 (mkF m 14 #[rv o, rv a] [(.int (0 : Int32)), (.int (0 : Int32))])
  refine own_st (fun _ kk_ => XS.icmpYes X3.here hx rfl (pc0 := 14) (pc' := 21) rfl (hb hby d40_14) rfl (XT.ii_eq_t (by decide)) (by decide) (by decide) kk_) ?_
  show own_Goes _ _ _ _ _ _ _ T3 (mkF m 21 #[rv o, rv a] [])
  refine own_ret0 X3 hx hlk Bd.returns (hb hby d40_21) (by decide) (by decide) ?_
  show Q40 Z o a cs h0 n0 none T3.heap _
  rw [eq3]
  exact ⟨rfl, N3, rfl⟩
abbrev rRrm41 : Room := { frames := 1, cells := 0, slots := 0, locals := 18 }
theorem d41_0 : decode jdk_42_method_147_code 0 = .ok (.aload_n 0, 1) := by decide +kernel
theorem d41_1 : decode jdk_42_method_147_code 1 = .ok (.invokevirtual 335, 3) := by decide +kernel
theorem d41_4 : decode jdk_42_method_147_code 4 = .ok (.iload_n 3, 1) := by decide +kernel
theorem d41_5 : decode jdk_42_method_147_code 5 = .ok (.if_icmp .ne 23, 3) := by decide +kernel
theorem d41_8 : decode jdk_42_method_147_code 8 = .ok (.aload_n 0, 1) := by decide +kernel
theorem d41_9 : decode jdk_42_method_147_code 9 = .ok (.getfield 9, 3) := by decide +kernel
theorem d41_12 : decode jdk_42_method_147_code 12 = .ok (.iconst 0, 1) := by decide +kernel
theorem d41_13 : decode jdk_42_method_147_code 13 = .ok (.aload_n 1, 1) := by decide +kernel
theorem d41_14 : decode jdk_42_method_147_code 14 = .ok (.iload_n 2, 1) := by decide +kernel
theorem d41_15 : decode jdk_42_method_147_code 15 = .ok (.iload_n 3, 1) := by decide +kernel
theorem d41_16 : decode jdk_42_method_147_code 16 = .ok (.ishl, 1) := by decide +kernel
theorem d41_17 : decode jdk_42_method_147_code 17 = .ok (.aload_n 0, 1) := by decide +kernel
theorem d41_18 : decode jdk_42_method_147_code 18 = .ok (.getfield 9, 3) := by decide +kernel
theorem d41_21 : decode jdk_42_method_147_code 21 = .ok (.arraylength, 1) := by decide +kernel
theorem d41_22 : decode jdk_42_method_147_code 22 = .ok (.invokestatic 212, 3) := by decide +kernel
theorem d41_25 : decode jdk_42_method_147_code 25 = .ok (.goto 18, 3) := by decide +kernel
theorem d41_43 : decode jdk_42_method_147_code 43 = .ok (.return_, 1) := by decide +kernel
theorem pn_rm41 : plainFor yy27 = true := by first | exact plainFor_of_name (by first | (simp [plainName, overriddenIn]; done) | decide +kernel) | decide +kernel
theorem ef_rm41 (m : MethodId) (a : Addr) (d : Addr) (cz : Int32) : entryFrame m #[(.ref a), (.ref d), (.int cz), (.int (0 : Int32))] 4 = (mkF m 0 #[rv a, rv d, iv cz, iv (0 : Int32)] []) := by first | (simp [entryFrame, mkF, argsToLocals, Value.category]; done) | rfl
def Q41 (Z : State) (a : Addr) (d : Addr) (cz : Int32) (kd : ClassId) (vs1 : List Value) (b : Addr) (kb : ClassId) (nz : Int32) (vs2 : List Value) (cs : Int32) (h0 : Heap) (n0 : Nat) (v_ : Option Value) (h_ : Heap) (L_ : List Loc) : Prop := (v_ = none) ∧ (Fr n0 L_) ∧ (Keep h0 h_ [d]) ∧ (Arv Z h_ d kd .byte (16 : Int32) (own_cp vs2 vs1 (0 : Int32) cz nz (.int (0 : Int32))) (.int (0 : Int32)))
set_option maxRecDepth 65536 in
set_option maxHeartbeats 40000000 in
theorem rm41 (l : Launch) (Z : State) (a0 : Array Value) (hw : ∀ d ∈ tables_1, d.before a0 Z = true) (ws : List Jvm.Cond) (a : Addr) (d : Addr) (cz : Int32) (kd : ClassId) (vs1 : List Value) (b : Addr) (kb : ClassId) (nz : Int32) (vs2 : List Value) (cs : Int32) (h0 : Heap) (n0 : Nat) (Z0 : n0 ≤ h0.size) (p_0 : Exa Z h0 a "java/lang/String") (p_1 : Fld Z h0 a "java/lang/String" "coder" "B" (.int (0 : Int32))) (p_2 : Fld Z h0 a "java/lang/String" "value" "[B" (.ref b)) (p_3 : Arv Z h0 b kb .byte nz vs2 (.int (0 : Int32))) (p_4 : Sta Z h0 "java/lang/String" "COMPACT_STRINGS" "Z" (.int cs)) (hcs : ¬ cs = (0 : Int32)) (p_6 : Arv Z h0 d kd .byte (16 : Int32) vs1 (.int (0 : Int32))) (p_7 : n0 ≤ d) (hf : own_fit cz nz) (hl : 16 ≤ vs1.length) :
    MetFree l yy27 (head1 (Jvm.Cond.code yy27 jdk_42_method_147_code 4 none :: ws) rRrm41) (fun a_ U_ => a_ = #[(.ref a), (.ref d), (.int cz), (.int (0 : Int32))] ∧ Z.Warmed39 U_.vm ∧ U_.heap = h0) (fun _ _ _ _ _ => True) (fun _ U_ o_ U1_ => ∃ v_ L_, o_ = .returned v_ ∧ Q41 Z a d cz kd vs1 b kb nz vs2 cs h0 n0 v_ U1_.heap L_ ∧ FrameEnd U_ o_ U1_ L_ rRrm41.cells rRrm41.slots) := by
  refine MetFree.of_bodySF pn_rm41 hisR ?_
  intro p e s m args below meth c s₁ Bd hml0 hP hK
  obtain ⟨rfl, hZ, hh⟩ := hP
  have hx := Bd.exec
  have hby := Bd.bytes
  have hlk : meth.locks = false := Bd.notSynchronized
  have hml : c.maxLocals = 4 := hml0
  have hown : s.vm.findClass "java/lang/String" = some m.cls := findClass_of_methodNamed Bd.named
  have hnm := (name_of_methodNamed Bd.named Bd.method).1
  have X0 : Stand p l e rRrm41 s m #[(.ref a), (.ref d), (.int cz), (.int (0 : Int32))] below meth c s₁ [] 0 0 := Stand.of_body Bd
  have e0 : s₁.heap = h0 := by rw [← hh, Bd.state]; rfl
  have N0 := Fr.nil n0
  show own_Goes p e below s (Q41 Z a d cz kd vs1 b kb nz vs2 cs h0 n0) rRrm41.cells rRrm41.slots s₁ (entryFrame m #[(.ref a), (.ref d), (.int cz), (.int (0 : Int32))] 4)
  rw [ef_rm41 m a d cz]
  show own_Goes p e below s (Q41 Z a d cz kd vs1 b kb nz vs2 cs h0 n0) rRrm41.cells rRrm41.slots s₁ (mkF m 0 #[rv a, rv d, iv cz, iv (0 : Int32)] [])
  refine own_st (fun _ kk_ => XS.aloadN X0.here hx rfl (hb hby d41_0) rfl rfl kk_) ?_
  show own_Goes _ _ _ _ _ _ _ s₁ (mkF m 1 #[rv a, rv d, iv cz, iv (0 : Int32)] [(.ref a)])
  obtain ⟨cq1, kq1, q1a, q1b, q1c⟩ := isOf hZ e0 p_0
  obtain ⟨_, _, ⟨T1, L1, k1, n1⟩, -, X1, ⟨Lc1, hQ1, l1, y1, z1⟩, st1⟩ := X0.virtualBack hx (y := yy4) (z := yy4) hown (mvT hZ (own_w hw 124 rfl)) (mvT hZ (own_w hw 125 rfl)) (notFace_of_selects (args := #[]) (mvT hZ (own_w hw 127 rfl))) (mvT hZ (own_w hw 127 rfl)) (mvT hZ (own_w hw 126 rfl)) (by decide) (backOf (W := 0) (rm27 l Z a0 hw [] (a) (cs) h0 n0 Z0 p_1 p_4 (by assumption)) hZ (own_w hw 128 rfl) (own_w hw 12 rfl) (by decide) (by decide)) q1a q1c (g := (mkF m 1 #[rv a, rv d, iv cz, iv (0 : Int32)] [(.ref a)])) rfl (by rw [hml]; rfl) (Steps.refl _) (argsL := []) (rest := []) (lenOf pd_1 rfl) rfl (by show 2 * 0 + _ ≤ _; exact Nat.le_of_eq rfl) (hb hby d41_1) (fun _ _ => ⟨rfl, e0, (by decide : 0 + 0 ≤ _), (by decide : 0 + 0 ≤ _)⟩)
  dsimp only [Pt.U, Pt.locs, Pt.cells, Pt.slots] at X1 l1 y1 z1 st1 hQ1
  subst l1 y1 z1
  obtain ⟨rfl, Nq1, eq1⟩ := hQ1
  have N1 := Fr.app N0 Nq1
  refine own_st (fun _ kk_ => st1.trans kk_) ?_
  show own_Goes _ _ _ _ _ _ _ T1 (mkF m 4 #[rv a, rv d, iv cz, iv (0 : Int32)] [(.int (0 : Int32))])
  refine own_st (fun _ kk_ => XS.iloadN X1.here hx rfl (hb hby d41_4) rfl (XS.icmpNo X1.here hx rfl (hb hby d41_5) rfl (XT.ii_ne_f (by decide)) (XS.aloadN X1.here hx rfl (hb hby d41_8) rfl rfl kk_))) ?_
  show own_Goes _ _ _ _ _ _ _ T1 (mkF m 9 #[rv a, rv d, iv cz, iv (0 : Int32)] [(.ref a)])
  obtain ⟨T2, X2, e2, st2⟩ := getF X1 hx hZ hown (host := "") (Or.inl (own_w hw 38 rfl)) Via.refl eq1 p_2 (g := (mkF m 9 #[rv a, rv d, iv cz, iv (0 : Int32)] [(.ref a)])) rfl rfl (hb hby d41_9)
  refine own_st st2 ?_
  show own_Goes _ _ _ _ _ _ _ T2 (mkF m 12 #[rv a, rv d, iv cz, iv (0 : Int32)] [(.ref b)])
  refine own_st (fun _ kk_ => XS.iconst X2.here hx rfl (hb hby d41_12) (XS.aloadN X2.here hx rfl (hb hby d41_13) rfl rfl (XS.iloadN X2.here hx rfl (hb hby d41_14) rfl (XS.iloadN X2.here hx rfl (hb hby d41_15) rfl (XS.ishl X2.here hx rfl (hb hby d41_16) rfl kk_))))) ?_
  show own_Goes _ _ _ _ _ _ _ T2 (mkF m 17 #[rv a, rv d, iv cz, iv (0 : Int32)] [(.int (cz <<< ((0 : Int32) &&& 31))), (.ref d), (.int (0 : Int32)), (.ref b)])
  rw [own_shl0]
  show own_Goes _ _ _ _ _ _ _ T2 (mkF m 17 #[rv a, rv d, iv cz, iv (0 : Int32)] [(.int cz), (.ref d), (.int (0 : Int32)), (.ref b)])
  refine own_st (fun _ kk_ => XS.aloadN X2.here hx rfl (hb hby d41_17) rfl rfl kk_) ?_
  show own_Goes _ _ _ _ _ _ _ T2 (mkF m 18 #[rv a, rv d, iv cz, iv (0 : Int32)] [(.ref a), (.int cz), (.ref d), (.int (0 : Int32)), (.ref b)])
  obtain ⟨T3, X3, e3, st3⟩ := getF X2 hx hZ hown (host := "") (Or.inl (own_w hw 38 rfl)) Via.refl e2 p_2 (g := (mkF m 18 #[rv a, rv d, iv cz, iv (0 : Int32)] [(.ref a), (.int cz), (.ref d), (.int (0 : Int32)), (.ref b)])) rfl rfl (hb hby d41_18)
  refine own_st st3 ?_
  show own_Goes _ _ _ _ _ _ _ T3 (mkF m 21 #[rv a, rv d, iv cz, iv (0 : Int32)] [(.ref b), (.int cz), (.ref d), (.int (0 : Int32)), (.ref b)])
  obtain ⟨cl4, Ar4, -, Sz4, Nn4, -, -⟩ := id p_3
  refine own_st (fun _ kk_ => X3.arraylength hx (by rw [e3]; exact Ar4.1) (State.isArrayOf_alike hZ.alike Ar4.2.1) (g := (mkF m 21 #[rv a, rv d, iv cz, iv (0 : Int32)] [(.ref b), (.int cz), (.ref d), (.int (0 : Int32)), (.ref b)])) rfl rfl (hb hby d41_21) _ kk_) ?_
  rw [len_of Sz4 Nn4]
  show own_Goes _ _ _ _ _ _ _ T3 (mkF m 22 #[rv a, rv d, iv cz, iv (0 : Int32)] [(.int nz), (.int cz), (.ref d), (.int (0 : Int32)), (.ref b)])
  obtain ⟨T5, h5, L5, X5, e5, N5, Kp5, A5, st5⟩ := cpA X3 hx hZ hown (own_w hw 207 rfl) (own_w hw 210 rfl) (own_w hw 208 rfl) (own_w hw 209 rfl) e3 p_3 p_6 (Or.inl ⟨rfl, rfl⟩) (by decide) hf.a hf.b hf.c hf.d rfl (hf.l hl) N1 p_7 (g := (mkF m 22 #[rv a, rv d, iv cz, iv (0 : Int32)] [(.int nz), (.int cz), (.ref d), (.int (0 : Int32)), (.ref b)])) rfl (by rw [hml]; rfl) (rest := []) rfl (hb hby d41_22) (by decide) (W := 0) (by show 2 * 0 + _ ≤ _; exact Nat.le_of_eq rfl) (by decide)
  have f5_0 := p_0.keep Kp5
  have f5_4 := own_Sta_keep p_4 Kp5 (nsS p_6.nostat ns0)
  have Zs5 : n0 ≤ h5.size := Nat.le_trans Z0 Kp5.1
  have K5 := (Keep.refl h0 [d]).trans Kp5 (allS (Or.inl (List.mem_of_getElem? (i := 0) rfl)) all0)
  have V5 : Arv Z h5 d kd .byte (16 : Int32) (own_cp vs2 vs1 (0 : Int32) cz nz (.int (0 : Int32))) (.int (0 : Int32)) := A5
  refine own_st st5 ?_
  show own_Goes _ _ _ _ _ _ _ T5 (mkF m 25 #[rv a, rv d, iv cz, iv (0 : Int32)] [])
  refine own_st (fun _ kk_ => XS.goto X5.here hx rfl (pc0 := 25) (pc' := 43) rfl (hb hby d41_25) (by decide) (by decide) kk_) ?_
  show own_Goes _ _ _ _ _ _ _ T5 (mkF m 43 #[rv a, rv d, iv cz, iv (0 : Int32)] [])
  refine own_ret0 X5 hx hlk Bd.returns (hb hby d41_43) (by decide) (by decide) ?_
  show Q41 Z a d cz kd vs1 b kb nz vs2 cs h0 n0 none T5.heap _
  rw [e5]
  exact ⟨rfl, N5, K5, V5⟩
abbrev rRrm39 : Room := { frames := 2, cells := 0, slots := 0, locals := 33 }
theorem d39_0 : decode jdk_68_method_73_code 0 = .ok (.aload_n 0, 1) := by decide +kernel
theorem d39_1 : decode jdk_68_method_73_code 1 = .ok (.aload_n 2, 1) := by decide +kernel
theorem d39_2 : decode jdk_68_method_73_code 2 = .ok (.invokevirtual 397, 3) := by decide +kernel
theorem d39_5 : decode jdk_68_method_73_code 5 = .ok (.aload_n 2, 1) := by decide +kernel
theorem d39_6 : decode jdk_68_method_73_code 6 = .ok (.aload_n 0, 1) := by decide +kernel
theorem d39_7 : decode jdk_68_method_73_code 7 = .ok (.getfield 15, 3) := by decide +kernel
theorem d39_10 : decode jdk_68_method_73_code 10 = .ok (.iload_n 1, 1) := by decide +kernel
theorem d39_11 : decode jdk_68_method_73_code 11 = .ok (.aload_n 0, 1) := by decide +kernel
theorem d39_12 : decode jdk_68_method_73_code 12 = .ok (.getfield 22, 3) := by decide +kernel
theorem d39_15 : decode jdk_68_method_73_code 15 = .ok (.invokevirtual 399, 3) := by decide +kernel
theorem d39_18 : decode jdk_68_method_73_code 18 = .ok (.return_, 1) := by decide +kernel
theorem pd_14 : parseMethodDescriptor "(Ljava/lang/String;)V" = some ⟨[(.object "java/lang/String")], none⟩ := by decide +kernel
theorem pd_15 : parseMethodDescriptor "([BIB)V" = some ⟨[(.array .byte), .int, .byte], none⟩ := by decide +kernel
theorem pn_rm39 : plainFor yy28 = true := by first | exact plainFor_of_name (by first | (simp [plainName, overriddenIn]; done) | decide +kernel) | decide +kernel
theorem ef_rm39 (m : MethodId) (o : Addr) (cz : Int32) (a : Addr) : entryFrame m #[(.ref o), (.int cz), (.ref a)] 3 = (mkF m 0 #[rv o, iv cz, rv a] []) := by first | (simp [entryFrame, mkF, argsToLocals, Value.category]; done) | rfl
def Q39 (Z : State) (o : Addr) (cz : Int32) (a : Addr) (d : Addr) (kd : ClassId) (vs1 : List Value) (b : Addr) (kb : ClassId) (nz : Int32) (vs2 : List Value) (cs : Int32) (h0 : Heap) (n0 : Nat) (v_ : Option Value) (h_ : Heap) (L_ : List Loc) : Prop := (v_ = none) ∧ (Fr n0 L_) ∧ (Keep h0 h_ [d]) ∧ (Arv Z h_ d kd .byte (16 : Int32) (own_cp vs2 vs1 (0 : Int32) cz nz (.int (0 : Int32))) (.int (0 : Int32)))
set_option maxRecDepth 65536 in
set_option maxHeartbeats 40000000 in
theorem rm39 (l : Launch) (Z : State) (a0 : Array Value) (hw : ∀ d ∈ tables_1, d.before a0 Z = true) (ws : List Jvm.Cond) (o : Addr) (cz : Int32) (a : Addr) (d : Addr) (kd : ClassId) (vs1 : List Value) (b : Addr) (kb : ClassId) (nz : Int32) (vs2 : List Value) (cs : Int32) (h0 : Heap) (n0 : Nat) (Z0 : n0 ≤ h0.size) (p_0 : Exa Z h0 o "java/lang/StringBuilder") (p_1 : Fld Z h0 o "java/lang/AbstractStringBuilder" "value" "[B" (.ref d)) (p_2 : Fld Z h0 o "java/lang/AbstractStringBuilder" "coder" "B" (.int (0 : Int32))) (p_3 : Exa Z h0 a "java/lang/String") (p_4 : Fld Z h0 a "java/lang/String" "coder" "B" (.int (0 : Int32))) (p_5 : Fld Z h0 a "java/lang/String" "value" "[B" (.ref b)) (p_6 : Arv Z h0 b kb .byte nz vs2 (.int (0 : Int32))) (p_7 : Sta Z h0 "java/lang/String" "COMPACT_STRINGS" "Z" (.int cs)) (hcs : ¬ cs = (0 : Int32)) (p_9 : Arv Z h0 d kd .byte (16 : Int32) vs1 (.int (0 : Int32))) (p_10 : n0 ≤ d) (hf : own_fit cz nz) (hl : 16 ≤ vs1.length) :
    MetFree l yy28 (head1 (Jvm.Cond.code yy28 jdk_68_method_73_code 3 none :: ws) rRrm39) (fun a_ U_ => a_ = #[(.ref o), (.int cz), (.ref a)] ∧ Z.Warmed39 U_.vm ∧ U_.heap = h0) (fun _ _ _ _ _ => True) (fun _ U_ o_ U1_ => ∃ v_ L_, o_ = .returned v_ ∧ Q39 Z o cz a d kd vs1 b kb nz vs2 cs h0 n0 v_ U1_.heap L_ ∧ FrameEnd U_ o_ U1_ L_ rRrm39.cells rRrm39.slots) := by
  refine MetFree.of_bodySF pn_rm39 hisR ?_
  intro p e s m args below meth c s₁ Bd hml0 hP hK
  obtain ⟨rfl, hZ, hh⟩ := hP
  have hx := Bd.exec
  have hby := Bd.bytes
  have hlk : meth.locks = false := Bd.notSynchronized
  have hml : c.maxLocals = 3 := hml0
  have hown : s.vm.findClass "java/lang/AbstractStringBuilder" = some m.cls := findClass_of_methodNamed Bd.named
  have hnm := (name_of_methodNamed Bd.named Bd.method).1
  have X0 : Stand p l e rRrm39 s m #[(.ref o), (.int cz), (.ref a)] below meth c s₁ [] 0 0 := Stand.of_body Bd
  have e0 : s₁.heap = h0 := by rw [← hh, Bd.state]; rfl
  have N0 := Fr.nil n0
  show own_Goes p e below s (Q39 Z o cz a d kd vs1 b kb nz vs2 cs h0 n0) rRrm39.cells rRrm39.slots s₁ (entryFrame m #[(.ref o), (.int cz), (.ref a)] 3)
  rw [ef_rm39 m o cz a]
  show own_Goes p e below s (Q39 Z o cz a d kd vs1 b kb nz vs2 cs h0 n0) rRrm39.cells rRrm39.slots s₁ (mkF m 0 #[rv o, iv cz, rv a] [])
  refine own_st (fun _ kk_ => XS.aloadN X0.here hx rfl (hb hby d39_0) rfl rfl (XS.aloadN X0.here hx rfl (hb hby d39_1) rfl rfl kk_)) ?_
  show own_Goes _ _ _ _ _ _ _ s₁ (mkF m 2 #[rv o, iv cz, rv a] [(.ref a), (.ref o)])
  obtain ⟨cq1, q1, q1'⟩ := p_0.cell
  obtain ⟨_, _, ⟨T1, L1, k1, n1⟩, -, X1, ⟨Lc1, hQ1, l1, y1, z1⟩, st1⟩ := X0.privateBack hx (y := yy26) hown (mvT hZ (own_w hw 196 rfl)) (mvT hZ (own_w hw 197 rfl)) (own_selp (mvT hZ (own_w hw 199 rfl)) (Cond.privateMethod_at (mvP hZ (own_w hw 198 rfl) (args := #[]))) (mvT hZ (own_w hw 197 rfl)) (by decide)) (Cond.privateMethod_at (mvP hZ (own_w hw 198 rfl) (args := #[]))) (mvT hZ (own_w hw 200 rfl)) (by decide) (backOf (W := 0) (rm40 l Z a0 hw [] (o) (a) (cs) h0 n0 Z0 p_0 p_2 p_3 p_4 p_7 (by assumption)) hZ (own_w hw 200 rfl) (own_w hw 165 rfl) (by decide) (by decide)) (g := (mkF m 2 #[rv o, iv cz, rv a] [(.ref a), (.ref o)])) rfl (by rw [hml]; rfl) (Steps.refl _) (a := o) (by rw [e0]; exact q1) q1' (argsL := [(.ref a)]) (rest := []) (lenOf pd_14 rfl) rfl (by show 2 * 0 + _ ≤ _; exact Nat.le_of_eq rfl) (hb hby d39_2) (fun _ _ => ⟨rfl, e0, (by decide : 0 + 0 ≤ _), (by decide : 0 + 0 ≤ _)⟩)
  dsimp only [Pt.U, Pt.locs, Pt.cells, Pt.slots] at X1 l1 y1 z1 st1 hQ1
  subst l1 y1 z1
  obtain ⟨rfl, Nq1, eq1⟩ := hQ1
  have N1 := Fr.app N0 Nq1
  refine own_st (fun _ kk_ => st1.trans kk_) ?_
  show own_Goes _ _ _ _ _ _ _ T1 (mkF m 5 #[rv o, iv cz, rv a] [])
  refine own_st (fun _ kk_ => XS.aloadN X1.here hx rfl (hb hby d39_5) rfl rfl (XS.aloadN X1.here hx rfl (hb hby d39_6) rfl rfl kk_)) ?_
  show own_Goes _ _ _ _ _ _ _ T1 (mkF m 7 #[rv o, iv cz, rv a] [(.ref o), (.ref a)])
  obtain ⟨T2, X2, e2, st2⟩ := getF X1 hx hZ hown (host := "") (Or.inl (own_w hw 169 rfl)) Via.refl eq1 p_1 (g := (mkF m 7 #[rv o, iv cz, rv a] [(.ref o), (.ref a)])) rfl rfl (hb hby d39_7)
  refine own_st st2 ?_
  show own_Goes _ _ _ _ _ _ _ T2 (mkF m 10 #[rv o, iv cz, rv a] [(.ref d), (.ref a)])
  refine own_st (fun _ kk_ => XS.iloadN X2.here hx rfl (hb hby d39_10) rfl (XS.aloadN X2.here hx rfl (hb hby d39_11) rfl rfl kk_)) ?_
  show own_Goes _ _ _ _ _ _ _ T2 (mkF m 12 #[rv o, iv cz, rv a] [(.ref o), (.int cz), (.ref d), (.ref a)])
  obtain ⟨T3, X3, e3, st3⟩ := getF X2 hx hZ hown (host := "") (Or.inl (own_w hw 171 rfl)) Via.refl e2 p_2 (g := (mkF m 12 #[rv o, iv cz, rv a] [(.ref o), (.int cz), (.ref d), (.ref a)])) rfl rfl (hb hby d39_12)
  refine own_st st3 ?_
  show own_Goes _ _ _ _ _ _ _ T3 (mkF m 15 #[rv o, iv cz, rv a] [(.int (0 : Int32)), (.int cz), (.ref d), (.ref a)])
  obtain ⟨cq4, kq4, q4a, q4b, q4c⟩ := isOf hZ e3 p_3
  obtain ⟨_, _, ⟨T4, L4, k4, n4⟩, -, X4, ⟨Lc4, hQ4, l4, y4, z4⟩, st4⟩ := X3.virtualBack hx (y := yy27) (z := yy27) hown (mvT hZ (own_w hw 202 rfl)) (mvT hZ (own_w hw 203 rfl)) (notFace_of_selects (args := #[]) (mvT hZ (own_w hw 205 rfl))) (mvT hZ (own_w hw 205 rfl)) (mvT hZ (own_w hw 204 rfl)) (by decide) (backOf (W := 0) (rm41 l Z a0 hw [] (a) (d) (cz) (kd) (vs1) (b) (kb) (nz) (vs2) (cs) h0 n0 Z0 p_3 p_4 p_5 p_6 p_7 (by assumption) p_9 p_10 hf hl) hZ (own_w hw 206 rfl) (own_w hw 12 rfl) (by decide) (by decide)) q4a q4c (g := (mkF m 15 #[rv o, iv cz, rv a] [(.int (0 : Int32)), (.int cz), (.ref d), (.ref a)])) rfl (by rw [hml]; rfl) (Steps.refl _) (argsL := [(.ref d), (.int cz), (.int (0 : Int32))]) (rest := []) (lenOf pd_15 rfl) rfl (by show 2 * 0 + _ ≤ _; exact Nat.le_of_eq rfl) (hb hby d39_15) (fun _ _ => ⟨rfl, e3, (by decide : 0 + 0 ≤ _), (by decide : 0 + 0 ≤ _)⟩)
  dsimp only [Pt.U, Pt.locs, Pt.cells, Pt.slots] at X4 l4 y4 z4 st4 hQ4
  subst l4 y4 z4
  obtain ⟨rfl, Nq4, Kq4, u4_0⟩ := hQ4
  have N4 := Fr.app N1 Nq4
  have f4_0 := p_0.keep Kq4
  have f4_3 := p_3.keep Kq4
  have f4_7 := own_Sta_keep p_7 Kq4 (nsS p_9.nostat ns0)
  have Zs4 : n0 ≤ T4.heap.size := Nat.le_trans Z0 Kq4.1
  have K4 := (Keep.refl h0 [d]).trans Kq4 (allS (Or.inl (List.mem_of_getElem? (i := 0) rfl)) all0)
  refine own_st (fun _ kk_ => st4.trans kk_) ?_
  show own_Goes _ _ _ _ _ _ _ T4 (mkF m 18 #[rv o, iv cz, rv a] [])
  refine own_ret0 X4 hx hlk Bd.returns (hb hby d39_18) (by decide) (by decide) ?_
  show Q39 Z o cz a d kd vs1 b kb nz vs2 cs h0 n0 none T4.heap _
  exact ⟨rfl, N4, K4, u4_0⟩
abbrev rRrm37 : Room := { frames := 3, cells := 0, slots := 0, locals := 47 }
theorem d37_0 : decode jdk_68_method_22_code 0 = .ok (.aload_n 1, 1) := by decide +kernel
theorem d37_1 : decode jdk_68_method_22_code 1 = .ok (.ifnonnull 8, 3) := by decide +kernel
theorem d37_9 : decode jdk_68_method_22_code 9 = .ok (.aload_n 1, 1) := by decide +kernel
theorem d37_10 : decode jdk_68_method_22_code 10 = .ok (.invokevirtual 32, 3) := by decide +kernel
theorem d37_13 : decode jdk_68_method_22_code 13 = .ok (.istore_n 2, 1) := by decide +kernel
theorem d37_14 : decode jdk_68_method_22_code 14 = .ok (.aload_n 0, 1) := by decide +kernel
theorem d37_15 : decode jdk_68_method_22_code 15 = .ok (.aload_n 0, 1) := by decide +kernel
theorem d37_16 : decode jdk_68_method_22_code 16 = .ok (.getfield 79, 3) := by decide +kernel
theorem d37_19 : decode jdk_68_method_22_code 19 = .ok (.iload_n 2, 1) := by decide +kernel
theorem d37_20 : decode jdk_68_method_22_code 20 = .ok (.iadd, 1) := by decide +kernel
theorem d37_21 : decode jdk_68_method_22_code 21 = .ok (.invokevirtual 100, 3) := by decide +kernel
theorem d37_24 : decode jdk_68_method_22_code 24 = .ok (.aload_n 0, 1) := by decide +kernel
theorem d37_25 : decode jdk_68_method_22_code 25 = .ok (.aload_n 0, 1) := by decide +kernel
theorem d37_26 : decode jdk_68_method_22_code 26 = .ok (.getfield 79, 3) := by decide +kernel
theorem d37_29 : decode jdk_68_method_22_code 29 = .ok (.aload_n 1, 1) := by decide +kernel
theorem d37_30 : decode jdk_68_method_22_code 30 = .ok (.invokevirtual 208, 3) := by decide +kernel
theorem d37_33 : decode jdk_68_method_22_code 33 = .ok (.aload_n 0, 1) := by decide +kernel
theorem d37_34 : decode jdk_68_method_22_code 34 = .ok (.dup, 1) := by decide +kernel
theorem d37_35 : decode jdk_68_method_22_code 35 = .ok (.getfield 79, 3) := by decide +kernel
theorem d37_38 : decode jdk_68_method_22_code 38 = .ok (.iload_n 2, 1) := by decide +kernel
theorem d37_39 : decode jdk_68_method_22_code 39 = .ok (.iadd, 1) := by decide +kernel
theorem d37_40 : decode jdk_68_method_22_code 40 = .ok (.putfield 79, 3) := by decide +kernel
theorem d37_43 : decode jdk_68_method_22_code 43 = .ok (.aload_n 0, 1) := by decide +kernel
theorem d37_44 : decode jdk_68_method_22_code 44 = .ok (.areturn, 1) := by decide +kernel
theorem pd_16 : parseMethodDescriptor "(I)V" = some ⟨[.int], none⟩ := by decide +kernel
theorem pd_17 : parseMethodDescriptor "(ILjava/lang/String;)V" = some ⟨[.int, (.object "java/lang/String")], none⟩ := by decide +kernel
theorem pn_rm37 : plainFor yy29 = true := by first | exact plainFor_of_name (by first | (simp [plainName, overriddenIn]; done) | decide +kernel) | decide +kernel
theorem ef_rm37 (m : MethodId) (o : Addr) (a : Addr) : entryFrame m #[(.ref o), (.ref a)] 3 = (mkF m 0 #[rv o, rv a, .unset] []) := by first | (simp [entryFrame, mkF, argsToLocals, Value.category]; done) | rfl
def Q37 (Z : State) (o : Addr) (a : Addr) (d : Addr) (kd : ClassId) (vs1 : List Value) (b : Addr) (kb : ClassId) (nz : Int32) (vs2 : List Value) (cz : Int32) (cs : Int32) (h0 : Heap) (n0 : Nat) (v_ : Option Value) (h_ : Heap) (L_ : List Loc) : Prop := (v_ = some (.ref o)) ∧ (Fr n0 L_) ∧ (Keep h0 h_ [o, d]) ∧ (Exa Z h_ o "java/lang/StringBuilder") ∧ (Fld Z h_ o "java/lang/AbstractStringBuilder" "value" "[B" (.ref d)) ∧ (Fld Z h_ o "java/lang/AbstractStringBuilder" "coder" "B" (.int (0 : Int32))) ∧ (Fld Z h_ o "java/lang/AbstractStringBuilder" "count" "I" (.int (cz + nz))) ∧ (Arv Z h_ d kd .byte (16 : Int32) (own_cp vs2 vs1 (0 : Int32) cz nz (.int (0 : Int32))) (.int (0 : Int32)))
set_option maxRecDepth 65536 in
set_option maxHeartbeats 40000000 in
theorem rm37 (l : Launch) (Z : State) (a0 : Array Value) (hw : ∀ d ∈ tables_1, d.before a0 Z = true) (ws : List Jvm.Cond) (o : Addr) (a : Addr) (d : Addr) (kd : ClassId) (vs1 : List Value) (b : Addr) (kb : ClassId) (nz : Int32) (vs2 : List Value) (cz : Int32) (cs : Int32) (h0 : Heap) (n0 : Nat) (Z0 : n0 ≤ h0.size) (p_0 : Exa Z h0 o "java/lang/StringBuilder") (p_1 : Fld Z h0 o "java/lang/AbstractStringBuilder" "value" "[B" (.ref d)) (p_2 : Fld Z h0 o "java/lang/AbstractStringBuilder" "coder" "B" (.int (0 : Int32))) (p_3 : Fld Z h0 o "java/lang/AbstractStringBuilder" "count" "I" (.int cz)) (p_4 : n0 ≤ o) (p_5 : n0 ≤ d) (p_6 : Arv Z h0 d kd .byte (16 : Int32) vs1 (.int (0 : Int32))) (p_7 : Exa Z h0 a "java/lang/String") (p_8 : Fld Z h0 a "java/lang/String" "coder" "B" (.int (0 : Int32))) (p_9 : Fld Z h0 a "java/lang/String" "value" "[B" (.ref b)) (p_10 : Arv Z h0 b kb .byte nz vs2 (.int (0 : Int32))) (p_11 : Sta Z h0 "java/lang/String" "COMPACT_STRINGS" "Z" (.int cs)) (hcs : ¬ cs = (0 : Int32)) (hf : own_fit cz nz) (hl : 16 ≤ vs1.length) (p_15 : o ≠ d) (p_16 : o ≠ a) (p_17 : o ≠ b) :
    MetFree l yy29 (head1 (Jvm.Cond.code yy29 jdk_68_method_22_code 3 (some (.object "java/lang/AbstractStringBuilder")) :: ws) rRrm37) (fun a_ U_ => a_ = #[(.ref o), (.ref a)] ∧ Z.Warmed39 U_.vm ∧ U_.heap = h0) (fun _ _ _ _ _ => True) (fun _ U_ o_ U1_ => ∃ v_ L_, o_ = .returned v_ ∧ Q37 Z o a d kd vs1 b kb nz vs2 cz cs h0 n0 v_ U1_.heap L_ ∧ FrameEnd U_ o_ U1_ L_ rRrm37.cells rRrm37.slots) := by
  refine MetFree.of_bodySF pn_rm37 hisR ?_
  intro p e s m args below meth c s₁ Bd hml0 hP hK
  obtain ⟨rfl, hZ, hh⟩ := hP
  have hx := Bd.exec
  have hby := Bd.bytes
  have hlk : meth.locks = false := Bd.notSynchronized
  have hml : c.maxLocals = 3 := hml0
  have hown : s.vm.findClass "java/lang/AbstractStringBuilder" = some m.cls := findClass_of_methodNamed Bd.named
  have hnm := (name_of_methodNamed Bd.named Bd.method).1
  have X0 : Stand p l e rRrm37 s m #[(.ref o), (.ref a)] below meth c s₁ [] 0 0 := Stand.of_body Bd
  have e0 : s₁.heap = h0 := by rw [← hh, Bd.state]; rfl
  have N0 := Fr.nil n0
  show own_Goes p e below s (Q37 Z o a d kd vs1 b kb nz vs2 cz cs h0 n0) rRrm37.cells rRrm37.slots s₁ (entryFrame m #[(.ref o), (.ref a)] 3)
  rw [ef_rm37 m o a]
  show own_Goes p e below s (Q37 Z o a d kd vs1 b kb nz vs2 cz cs h0 n0) rRrm37.cells rRrm37.slots s₁ (mkF m 0 #[rv o, rv a, .unset] [])
  refine own_st (fun _ kk_ => XS.aloadN X0.here hx rfl (hb hby d37_0) rfl rfl (XS.ifnonnullYes X0.here hx rfl (pc0 := 1) (pc' := 9) rfl (hb hby d37_1) rfl (by decide) (by decide) (XS.aloadN X0.here hx rfl (hb hby d37_9) rfl rfl kk_))) ?_
  show own_Goes _ _ _ _ _ _ _ s₁ (mkF m 10 #[rv o, rv a, .unset] [(.ref a)])
  obtain ⟨cq1, kq1, q1a, q1b, q1c⟩ := isOf hZ e0 p_7
  obtain ⟨_, _, ⟨T1, L1, k1, n1⟩, -, X1, ⟨Lc1, hQ1, l1, y1, z1⟩, st1⟩ := X0.virtualBack hx (y := yy6) (z := yy6) hown (mvT hZ (own_w hw 183 rfl)) (mvT hZ (own_w hw 120 rfl)) (notFace_of_selects (args := #[]) (mvT hZ (own_w hw 122 rfl))) (mvT hZ (own_w hw 122 rfl)) (mvT hZ (own_w hw 121 rfl)) (by decide) (backOf (W := 0) (rm26 l Z a0 hw [] (a) (b) (kb) (nz) (vs2) (cs) h0 n0 Z0 p_7 p_8 p_9 p_10 p_11 (by assumption)) hZ (own_w hw 123 rfl) (own_w hw 12 rfl) (by decide) (by decide)) q1a q1c (g := (mkF m 10 #[rv o, rv a, .unset] [(.ref a)])) rfl (by rw [hml]; rfl) (Steps.refl _) (argsL := []) (rest := []) (lenOf pd_10 rfl) rfl (by show 2 * 0 + _ ≤ _; exact Nat.le_of_eq rfl) (hb hby d37_10) (fun _ _ => ⟨rfl, e0, (by decide : 0 + 0 ≤ _), (by decide : 0 + 0 ≤ _)⟩)
  dsimp only [Pt.U, Pt.locs, Pt.cells, Pt.slots] at X1 l1 y1 z1 st1 hQ1
  subst l1 y1 z1
  obtain ⟨rfl, Nq1, eq1⟩ := hQ1
  have N1 := Fr.app N0 Nq1
  refine own_st (fun _ kk_ => st1.trans kk_) ?_
  show own_Goes _ _ _ _ _ _ _ T1 (mkF m 13 #[rv o, rv a, .unset] [(.int nz)])
  refine own_st (fun _ kk_ => XS.istoreN X1.here hx rfl (hb hby d37_13) rfl (l' := #[rv o, rv a, iv nz]) rfl (XS.aloadN X1.here hx rfl (hb hby d37_14) rfl rfl (XS.aloadN X1.here hx rfl (hb hby d37_15) rfl rfl kk_))) ?_
  show own_Goes _ _ _ _ _ _ _ T1 (mkF m 16 #[rv o, rv a, iv nz] [(.ref o), (.ref o)])
  obtain ⟨T2, X2, e2, st2⟩ := getF X1 hx hZ hown (host := "") (Or.inl (own_w hw 184 rfl)) Via.refl eq1 p_3 (g := (mkF m 16 #[rv o, rv a, iv nz] [(.ref o), (.ref o)])) rfl rfl (hb hby d37_16)
  refine own_st st2 ?_
  show own_Goes _ _ _ _ _ _ _ T2 (mkF m 19 #[rv o, rv a, iv nz] [(.int cz), (.ref o)])
  refine own_st (fun _ kk_ => XS.iloadN X2.here hx rfl (hb hby d37_19) rfl (XS.iadd X2.here hx rfl (hb hby d37_20) rfl kk_)) ?_
  show own_Goes _ _ _ _ _ _ _ T2 (mkF m 21 #[rv o, rv a, iv nz] [(.int (cz + nz)), (.ref o)])
  obtain ⟨cq3, q3, q3'⟩ := p_0.cell
  obtain ⟨_, _, ⟨T3, L3, k3, n3⟩, -, X3, ⟨Lc3, hQ3, l3, y3, z3⟩, st3⟩ := X2.privateBack hx (y := yy25) hown (mvT hZ (own_w hw 186 rfl)) (mvT hZ (own_w hw 187 rfl)) (own_selp (mvT hZ (own_w hw 189 rfl)) (Cond.privateMethod_at (mvP hZ (own_w hw 188 rfl) (args := #[]))) (mvT hZ (own_w hw 187 rfl)) (by decide)) (Cond.privateMethod_at (mvP hZ (own_w hw 188 rfl) (args := #[]))) (mvT hZ (own_w hw 190 rfl)) (by decide) (backOf (W := 0) (rm38 l Z a0 hw [] (o) ((cz + nz)) (d) (kd) (vs1) h0 n0 Z0 p_0 p_1 p_2 p_6 hf.e) hZ (own_w hw 190 rfl) (own_w hw 165 rfl) (by decide) (by decide)) (g := (mkF m 21 #[rv o, rv a, iv nz] [(.int (cz + nz)), (.ref o)])) rfl (by rw [hml]; rfl) (Steps.refl _) (a := o) (by rw [e2]; exact q3) q3' (argsL := [(.int (cz + nz))]) (rest := []) (lenOf pd_16 rfl) rfl (by show 2 * 0 + _ ≤ _; exact Nat.le_of_eq rfl) (hb hby d37_21) (fun _ _ => ⟨rfl, e2, (by decide : 0 + 0 ≤ _), (by decide : 0 + 0 ≤ _)⟩)
  dsimp only [Pt.U, Pt.locs, Pt.cells, Pt.slots] at X3 l3 y3 z3 st3 hQ3
  subst l3 y3 z3
  obtain ⟨rfl, Nq3, eq3⟩ := hQ3
  have N3 := Fr.app N1 Nq3
  refine own_st (fun _ kk_ => st3.trans kk_) ?_
  show own_Goes _ _ _ _ _ _ _ T3 (mkF m 24 #[rv o, rv a, iv nz] [])
  refine own_st (fun _ kk_ => XS.aloadN X3.here hx rfl (hb hby d37_24) rfl rfl (XS.aloadN X3.here hx rfl (hb hby d37_25) rfl rfl kk_)) ?_
  show own_Goes _ _ _ _ _ _ _ T3 (mkF m 26 #[rv o, rv a, iv nz] [(.ref o), (.ref o)])
  obtain ⟨T4, X4, e4, st4⟩ := getF X3 hx hZ hown (host := "") (Or.inl (own_w hw 184 rfl)) Via.refl eq3 p_3 (g := (mkF m 26 #[rv o, rv a, iv nz] [(.ref o), (.ref o)])) rfl rfl (hb hby d37_26)
  refine own_st st4 ?_
  show own_Goes _ _ _ _ _ _ _ T4 (mkF m 29 #[rv o, rv a, iv nz] [(.int cz), (.ref o)])
  refine own_st (fun _ kk_ => XS.aloadN X4.here hx rfl (hb hby d37_29) rfl rfl kk_) ?_
  show own_Goes _ _ _ _ _ _ _ T4 (mkF m 30 #[rv o, rv a, iv nz] [(.ref a), (.int cz), (.ref o)])
  obtain ⟨cq5, q5, q5'⟩ := p_0.cell
  obtain ⟨_, _, ⟨T5, L5, k5, n5⟩, -, X5, ⟨Lc5, hQ5, l5, y5, z5⟩, st5⟩ := X4.privateBack hx (y := yy28) hown (mvT hZ (own_w hw 191 rfl)) (mvT hZ (own_w hw 192 rfl)) (own_selp (mvT hZ (own_w hw 194 rfl)) (Cond.privateMethod_at (mvP hZ (own_w hw 193 rfl) (args := #[]))) (mvT hZ (own_w hw 192 rfl)) (by decide)) (Cond.privateMethod_at (mvP hZ (own_w hw 193 rfl) (args := #[]))) (mvT hZ (own_w hw 195 rfl)) (by decide) (backOf (W := 0) (rm39 l Z a0 hw [] (o) (cz) (a) (d) (kd) (vs1) (b) (kb) (nz) (vs2) (cs) h0 n0 Z0 p_0 p_1 p_2 p_7 p_8 p_9 p_10 p_11 (by assumption) p_6 p_5 hf hl) hZ (own_w hw 195 rfl) (own_w hw 165 rfl) (by decide) (by decide)) (g := (mkF m 30 #[rv o, rv a, iv nz] [(.ref a), (.int cz), (.ref o)])) rfl (by rw [hml]; rfl) (Steps.refl _) (a := o) (by rw [e4]; exact q5) q5' (argsL := [(.int cz), (.ref a)]) (rest := []) (lenOf pd_17 rfl) rfl (by show 2 * 0 + _ ≤ _; exact Nat.le_of_eq rfl) (hb hby d37_30) (fun _ _ => ⟨rfl, e4, (by decide : 0 + 0 ≤ _), (by decide : 0 + 0 ≤ _)⟩)
  dsimp only [Pt.U, Pt.locs, Pt.cells, Pt.slots] at X5 l5 y5 z5 st5 hQ5
  subst l5 y5 z5
  obtain ⟨rfl, Nq5, Kq5, u5_0⟩ := hQ5
  have N5 := Fr.app N3 Nq5
  have f5_0 := p_0.keep Kq5
  have f5_1 := p_1.keep Kq5 (ninS p_15 nin0)
  have f5_2 := p_2.keep Kq5 (ninS p_15 nin0)
  have f5_3 := p_3.keep Kq5 (ninS p_15 nin0)
  have f5_5 := p_7.keep Kq5
  have f5_9 := own_Sta_keep p_11 Kq5 (nsS p_6.nostat ns0)
  have Zs5 : n0 ≤ T5.heap.size := Nat.le_trans Z0 Kq5.1
  have K5 := (Keep.refl h0 [o, d]).trans Kq5 (allS (Or.inl (List.mem_of_getElem? (i := 1) rfl)) all0)
  refine own_st (fun _ kk_ => st5.trans kk_) ?_
  show own_Goes _ _ _ _ _ _ _ T5 (mkF m 33 #[rv o, rv a, iv nz] [])
  refine own_st (fun _ kk_ => XS.aloadN X5.here hx rfl (hb hby d37_33) rfl rfl (XS.dup X5.here hx rfl (hb hby d37_34) rfl rfl kk_)) ?_
  show own_Goes _ _ _ _ _ _ _ T5 (mkF m 35 #[rv o, rv a, iv nz] [(.ref o), (.ref o)])
  obtain ⟨T6, X6, e6, st6⟩ := getF X5 hx hZ hown (host := "") (Or.inl (own_w hw 184 rfl)) Via.refl rfl f5_3 (g := (mkF m 35 #[rv o, rv a, iv nz] [(.ref o), (.ref o)])) rfl rfl (hb hby d37_35)
  refine own_st st6 ?_
  show own_Goes _ _ _ _ _ _ _ T6 (mkF m 38 #[rv o, rv a, iv nz] [(.int cz), (.ref o)])
  refine own_st (fun _ kk_ => XS.iloadN X6.here hx rfl (hb hby d37_38) rfl (XS.iadd X6.here hx rfl (hb hby d37_39) rfl kk_)) ?_
  show own_Goes _ _ _ _ _ _ _ T6 (mkF m 40 #[rv o, rv a, iv nz] [(.int (cz + nz)), (.ref o)])
  obtain ⟨T7, h7, X7, e7, W7, st7⟩ := putF X6 hx hZ hown (host := "") (Or.inl (own_w hw 184 rfl)) Via.refl e6 f5_3 f5_0 (Or.inl (own_w hw 185 rfl)) (own_w hw 156 rfl) (ty := .int) (by decide) rfl rfl (g := (mkF m 40 #[rv o, rv a, iv nz] [(.int (cz + nz)), (.ref o)])) rfl rfl (hb hby d37_40)
  have fw7 : Fld Z h7 o "java/lang/AbstractStringBuilder" "count" "I" (.int (cz + nz)) := f5_3.same W7
  have f7_0 := f5_0.wr W7
  have f7_1 := f5_1.other W7 (Or.inr (slot_ne (Or.inl (own_w hw 170 rfl)) (Or.inl (own_w hw 185 rfl)) (by decide) (t := (.array .byte)) (t' := .int) (by decide) (by decide)))
  have f7_2 := f5_2.other W7 (Or.inr (slot_ne (Or.inl (own_w hw 172 rfl)) (Or.inl (own_w hw 185 rfl)) (by decide) (t := .byte) (t' := .int) (by decide) (by decide)))
  have f7_4 := f5_5.wr W7
  have f7_5 := f5_9.wr W7
  have f7_6 := u5_0.other W7 (Ne.symm p_15)
  have Zs7 : n0 ≤ h7.size := Nat.le_trans Zs5 (Nat.le_of_eq W7.size.symm)
  have K7 := K5.wr W7 (Or.inl (List.mem_of_getElem? (i := 0) rfl))
  have N7 := Fr.snoc X7 N5 p_4
  refine own_st st7 ?_
  show own_Goes _ _ _ _ _ _ _ T7 (mkF m 43 #[rv o, rv a, iv nz] [])
  refine own_st (fun _ kk_ => XS.aloadN X7.here hx rfl (hb hby d37_43) rfl rfl kk_) ?_
  show own_Goes _ _ _ _ _ _ _ T7 (mkF m 44 #[rv o, rv a, iv nz] [(.ref o)])
  refine own_retA X7 hx hlk rfl Bd.returns rfl (hb hby d37_44) (by decide) (by decide) ?_
  show Q37 Z o a d kd vs1 b kb nz vs2 cz cs h0 n0 (some (.ref o)) T7.heap _
  rw [e7]
  exact ⟨rfl, N7, K7, f7_0, f7_1, f7_2, fw7, f7_6⟩
abbrev rRrm36 : Room := { frames := 4, cells := 0, slots := 0, locals := 61 }
theorem d36_0 : decode jdk_67_method_7_code 0 = .ok (.aload_n 0, 1) := by decide +kernel
theorem d36_1 : decode jdk_67_method_7_code 1 = .ok (.aload_n 1, 1) := by decide +kernel
theorem d36_2 : decode jdk_67_method_7_code 2 = .ok (.invokespecial 29, 3) := by decide +kernel
theorem d36_5 : decode jdk_67_method_7_code 5 = .ok (.pop, 1) := by decide +kernel
theorem d36_6 : decode jdk_67_method_7_code 6 = .ok (.aload_n 0, 1) := by decide +kernel
theorem d36_7 : decode jdk_67_method_7_code 7 = .ok (.areturn, 1) := by decide +kernel
theorem pd_18 : parseMethodDescriptor "(Ljava/lang/String;)Ljava/lang/AbstractStringBuilder;" = some ⟨[(.object "java/lang/String")], some (.object "java/lang/AbstractStringBuilder")⟩ := by decide +kernel
theorem pn_rm36 : plainFor yy30 = true := by first | exact plainFor_of_name (by first | (simp [plainName, overriddenIn]; done) | decide +kernel) | decide +kernel
theorem ef_rm36 (m : MethodId) (o : Addr) (a : Addr) : entryFrame m #[(.ref o), (.ref a)] 2 = (mkF m 0 #[rv o, rv a] []) := by first | (simp [entryFrame, mkF, argsToLocals, Value.category]; done) | rfl
def Q36 (Z : State) (o : Addr) (a : Addr) (d : Addr) (kd : ClassId) (vs1 : List Value) (b : Addr) (kb : ClassId) (nz : Int32) (vs2 : List Value) (cz : Int32) (cs : Int32) (h0 : Heap) (n0 : Nat) (v_ : Option Value) (h_ : Heap) (L_ : List Loc) : Prop := (v_ = some (.ref o)) ∧ (Fr n0 L_) ∧ (Keep h0 h_ [o, d]) ∧ (Exa Z h_ o "java/lang/StringBuilder") ∧ (Fld Z h_ o "java/lang/AbstractStringBuilder" "value" "[B" (.ref d)) ∧ (Fld Z h_ o "java/lang/AbstractStringBuilder" "coder" "B" (.int (0 : Int32))) ∧ (Fld Z h_ o "java/lang/AbstractStringBuilder" "count" "I" (.int (cz + nz))) ∧ (Arv Z h_ d kd .byte (16 : Int32) (own_cp vs2 vs1 (0 : Int32) cz nz (.int (0 : Int32))) (.int (0 : Int32)))
set_option maxRecDepth 65536 in
set_option maxHeartbeats 40000000 in
theorem rm36 (l : Launch) (Z : State) (a0 : Array Value) (hw : ∀ d ∈ tables_1, d.before a0 Z = true) (ws : List Jvm.Cond) (o : Addr) (a : Addr) (d : Addr) (kd : ClassId) (vs1 : List Value) (b : Addr) (kb : ClassId) (nz : Int32) (vs2 : List Value) (cz : Int32) (cs : Int32) (h0 : Heap) (n0 : Nat) (Z0 : n0 ≤ h0.size) (p_0 : Exa Z h0 o "java/lang/StringBuilder") (p_1 : Fld Z h0 o "java/lang/AbstractStringBuilder" "value" "[B" (.ref d)) (p_2 : Fld Z h0 o "java/lang/AbstractStringBuilder" "coder" "B" (.int (0 : Int32))) (p_3 : Fld Z h0 o "java/lang/AbstractStringBuilder" "count" "I" (.int cz)) (p_4 : n0 ≤ o) (p_5 : n0 ≤ d) (p_6 : Arv Z h0 d kd .byte (16 : Int32) vs1 (.int (0 : Int32))) (p_7 : Exa Z h0 a "java/lang/String") (p_8 : Fld Z h0 a "java/lang/String" "coder" "B" (.int (0 : Int32))) (p_9 : Fld Z h0 a "java/lang/String" "value" "[B" (.ref b)) (p_10 : Arv Z h0 b kb .byte nz vs2 (.int (0 : Int32))) (p_11 : Sta Z h0 "java/lang/String" "COMPACT_STRINGS" "Z" (.int cs)) (hcs : ¬ cs = (0 : Int32)) (hf : own_fit cz nz) (hl : 16 ≤ vs1.length) (p_15 : o ≠ d) (p_16 : o ≠ a) (p_17 : o ≠ b) :
    MetFree l yy30 (head1 (Jvm.Cond.code yy30 jdk_67_method_7_code 2 (some (.object "java/lang/StringBuilder")) :: ws) rRrm36) (fun a_ U_ => a_ = #[(.ref o), (.ref a)] ∧ Z.Warmed39 U_.vm ∧ U_.heap = h0) (fun _ _ _ _ _ => True) (fun _ U_ o_ U1_ => ∃ v_ L_, o_ = .returned v_ ∧ Q36 Z o a d kd vs1 b kb nz vs2 cz cs h0 n0 v_ U1_.heap L_ ∧ FrameEnd U_ o_ U1_ L_ rRrm36.cells rRrm36.slots) := by
  refine MetFree.of_bodySF pn_rm36 hisR ?_
  intro p e s m args below meth c s₁ Bd hml0 hP hK
  obtain ⟨rfl, hZ, hh⟩ := hP
  have hx := Bd.exec
  have hby := Bd.bytes
  have hlk : meth.locks = false := Bd.notSynchronized
  have hml : c.maxLocals = 2 := hml0
  have hown : s.vm.findClass "java/lang/StringBuilder" = some m.cls := findClass_of_methodNamed Bd.named
  have hnm := (name_of_methodNamed Bd.named Bd.method).1
  have X0 : Stand p l e rRrm36 s m #[(.ref o), (.ref a)] below meth c s₁ [] 0 0 := Stand.of_body Bd
  have e0 : s₁.heap = h0 := by rw [← hh, Bd.state]; rfl
  have N0 := Fr.nil n0
  show own_Goes p e below s (Q36 Z o a d kd vs1 b kb nz vs2 cz cs h0 n0) rRrm36.cells rRrm36.slots s₁ (entryFrame m #[(.ref o), (.ref a)] 2)
  rw [ef_rm36 m o a]
  show own_Goes p e below s (Q36 Z o a d kd vs1 b kb nz vs2 cz cs h0 n0) rRrm36.cells rRrm36.slots s₁ (mkF m 0 #[rv o, rv a] [])
  refine own_st (fun _ kk_ => XS.aloadN X0.here hx rfl (hb hby d36_0) rfl rfl (XS.aloadN X0.here hx rfl (hb hby d36_1) rfl rfl kk_)) ?_
  show own_Goes _ _ _ _ _ _ _ s₁ (mkF m 2 #[rv o, rv a] [(.ref a), (.ref o)])
  obtain ⟨_, _, ⟨T1, L1, k1, n1⟩, -, X1, ⟨Lc1, hQ1, l1, y1, z1⟩, st1⟩ := superBack X0 hx hZ (y := yy29) hown (own_w hw 178 rfl) (own_smo (own_w hw 189 rfl) rfl (own_w hw 179 rfl) (by decide)) (own_w hw 179 rfl) (own_w hw 180 rfl) (by decide) (backOf (W := 0) (rm37 l Z a0 hw [] (o) (a) (d) (kd) (vs1) (b) (kb) (nz) (vs2) (cz) (cs) h0 n0 Z0 p_0 p_1 p_2 p_3 p_4 p_5 p_6 p_7 p_8 p_9 p_10 p_11 (by assumption) hf hl p_15 p_16 p_17) hZ (own_w hw 182 rfl) (own_w hw 165 rfl) (by decide) (by decide)) e0 (Ins.self p_0) (g := (mkF m 2 #[rv o, rv a] [(.ref a), (.ref o)])) rfl (by rw [hml]; rfl) (own_w hw 182 rfl) (argsL := [(.ref a)]) (rest := []) (lenOf pd_18 rfl) rfl (by show 2 * 0 + _ ≤ _; exact Nat.le_of_eq rfl) (hb hby d36_2) (fun _ _ => ⟨rfl, e0, (by decide : 0 + 0 ≤ _), (by decide : 0 + 0 ≤ _)⟩)
  dsimp only [Pt.U, Pt.locs, Pt.cells, Pt.slots] at X1 l1 y1 z1 st1 hQ1
  subst l1 y1 z1
  obtain ⟨rfl, Nq1, Kq1, u1_0, u1_1, u1_2, u1_3, u1_4⟩ := hQ1
  have N1 := Fr.app N0 Nq1
  have f1_0 := p_0.keep Kq1
  have f1_5 := p_7.keep Kq1
  have f1_9 := own_Sta_keep p_11 Kq1 (nsS p_0.nostat (nsS p_6.nostat ns0))
  have Zs1 : n0 ≤ T1.heap.size := Nat.le_trans Z0 Kq1.1
  have K1 := (Keep.refl h0 [o, d]).trans Kq1 (allS (Or.inl (List.mem_of_getElem? (i := 0) rfl)) (allS (Or.inl (List.mem_of_getElem? (i := 1) rfl)) all0))
  refine own_st (fun _ kk_ => st1.trans kk_) ?_
  show own_Goes _ _ _ _ _ _ _ T1 (mkF m 5 #[rv o, rv a] [(.ref o)])
  refine own_st (fun _ kk_ => XS.pop X1.here hx rfl (hb hby d36_5) rfl rfl (XS.aloadN X1.here hx rfl (hb hby d36_6) rfl rfl kk_)) ?_
  show own_Goes _ _ _ _ _ _ _ T1 (mkF m 7 #[rv o, rv a] [(.ref o)])
  refine own_retA X1 hx hlk rfl Bd.returns rfl (hb hby d36_7) (by decide) (by decide) ?_
  show Q36 Z o a d kd vs1 b kb nz vs2 cz cs h0 n0 (some (.ref o)) T1.heap _
  exact ⟨rfl, N1, K1, u1_0, u1_1, u1_2, u1_3, u1_4⟩
theorem own_fit.i {c : Int32} (h : own_fit c 1) : c < (16 : Int32) := by unfold own_fit at h; simp only [Int32.lt_iff_toInt_lt, Int32.reduceToInt] at h ⊢; omega
theorem own_fit.j {c : Int32} (h : own_fit c 1) {vs : List Value} (q : 16 ≤ vs.length) : c.toNatClampNeg < vs.length := by unfold own_fit at h; simp only [Int32.reduceToInt] at h; simp only [Int32.toNatClampNeg]; omega
abbrev rRrm44 : Room := { frames := 0, cells := 0, slots := 0, locals := 0 }
theorem d44_0 : decode jdk_68_method_68_code 0 = .ok (.getstatic 18, 3) := by decide +kernel
theorem d44_3 : decode jdk_68_method_68_code 3 = .ok (.ifCond .eq 14, 3) := by decide +kernel
theorem d44_6 : decode jdk_68_method_68_code 6 = .ok (.aload_n 0, 1) := by decide +kernel
theorem d44_7 : decode jdk_68_method_68_code 7 = .ok (.getfield 22, 3) := by decide +kernel
theorem d44_10 : decode jdk_68_method_68_code 10 = .ok (.ifCond .ne 7, 3) := by decide +kernel
theorem d44_13 : decode jdk_68_method_68_code 13 = .ok (.iconst 1, 1) := by decide +kernel
theorem d44_14 : decode jdk_68_method_68_code 14 = .ok (.goto 4, 3) := by decide +kernel
theorem d44_18 : decode jdk_68_method_68_code 18 = .ok (.ireturn, 1) := by decide +kernel
theorem pn_rm44 : plainFor yy31 = true := by first | exact plainFor_of_name (by first | (simp [plainName, overriddenIn]; done) | decide +kernel) | decide +kernel
theorem ef_rm44 (m : MethodId) (o : Addr) : entryFrame m #[(.ref o)] 1 = (mkF m 0 #[rv o] []) := by first | (simp [entryFrame, mkF, argsToLocals, Value.category]; done) | rfl
def Q44 (Z : State) (o : Addr) (cs : Int32) (h0 : Heap) (n0 : Nat) (v_ : Option Value) (h_ : Heap) (L_ : List Loc) : Prop := (v_ = some (.int (1 : Int32))) ∧ (Fr n0 L_) ∧ (h_ = h0)
set_option maxRecDepth 65536 in
set_option maxHeartbeats 40000000 in
theorem rm44 (l : Launch) (Z : State) (a0 : Array Value) (hw : ∀ d ∈ tables_1, d.before a0 Z = true) (ws : List Jvm.Cond) (o : Addr) (cs : Int32) (h0 : Heap) (n0 : Nat) (Z0 : n0 ≤ h0.size) (p_0 : Exa Z h0 o "java/lang/StringBuilder") (p_1 : Fld Z h0 o "java/lang/AbstractStringBuilder" "coder" "B" (.int (0 : Int32))) (p_2 : Sta Z h0 "java/lang/String" "COMPACT_STRINGS" "Z" (.int cs)) (hcs : ¬ cs = (0 : Int32)) :
    MetFree l yy31 (head1 (Jvm.Cond.code yy31 jdk_68_method_68_code 1 (some .boolean) :: ws) rRrm44) (fun a_ U_ => a_ = #[(.ref o)] ∧ Z.Warmed39 U_.vm ∧ U_.heap = h0) (fun _ _ _ _ _ => True) (fun _ U_ o_ U1_ => ∃ v_ L_, o_ = .returned v_ ∧ Q44 Z o cs h0 n0 v_ U1_.heap L_ ∧ FrameEnd U_ o_ U1_ L_ rRrm44.cells rRrm44.slots) := by
  refine MetFree.of_bodySF pn_rm44 hisR ?_
  intro p e s m args below meth c s₁ Bd hml0 hP hK
  obtain ⟨rfl, hZ, hh⟩ := hP
  have hx := Bd.exec
  have hby := Bd.bytes
  have hlk : meth.locks = false := Bd.notSynchronized
  have hml : c.maxLocals = 1 := hml0
  have hown : s.vm.findClass "java/lang/AbstractStringBuilder" = some m.cls := findClass_of_methodNamed Bd.named
  have hnm := (name_of_methodNamed Bd.named Bd.method).1
  have X0 : Stand p l e rRrm44 s m #[(.ref o)] below meth c s₁ [] 0 0 := Stand.of_body Bd
  have e0 : s₁.heap = h0 := by rw [← hh, Bd.state]; rfl
  have N0 := Fr.nil n0
  show own_Goes p e below s (Q44 Z o cs h0 n0) rRrm44.cells rRrm44.slots s₁ (entryFrame m #[(.ref o)] 1)
  rw [ef_rm44 m o]
  show own_Goes p e below s (Q44 Z o cs h0 n0) rRrm44.cells rRrm44.slots s₁ (mkF m 0 #[rv o] [])
  obtain ⟨T1, X1, e1, st1⟩ := getS2 X0 hx hZ hown (host := "") (Or.inl (own_w hw 168 rfl)) Via.refl e0 p_2 (g := (mkF m 0 #[rv o] [])) rfl (hb hby d44_0)
  refine own_st st1 ?_
  show own_Goes _ _ _ _ _ _ _ T1 (mkF m 3 #[rv o] [(.int cs)])
  refine own_st (fun _ kk_ => XS.ifNo X1.here hx rfl (hb hby d44_3) rfl (XT.i0_eq_f hcs) (XS.aloadN X1.here hx rfl (hb hby d44_6) rfl rfl kk_)) ?_
  show own_Goes _ _ _ _ _ _ _ T1 (mkF m 7 #[rv o] [(.ref o)])
  obtain ⟨T2, X2, e2, st2⟩ := getF X1 hx hZ hown (host := "") (Or.inl (own_w hw 171 rfl)) Via.refl e1 p_1 (g := (mkF m 7 #[rv o] [(.ref o)])) rfl rfl (hb hby d44_7)
  refine own_st st2 ?_
  show own_Goes _ _ _ _ _ _ _ T2 (mkF m 10 #[rv o] [(.int (0 : Int32))])
  refine own_st (fun _ kk_ => XS.ifNo X2.here hx rfl (hb hby d44_10) rfl (XT.i0_ne_f (by decide)) (XS.iconst X2.here hx rfl (hb hby d44_13) (XS.goto X2.here hx rfl (pc0 := 14) (pc' := 18) rfl (hb hby d44_14) (by decide) (by decide) kk_))) ?_
  show own_Goes _ _ _ _ _ _ _ T2 (mkF m 18 #[rv o] [(.int (1 : Int32))])
  refine own_retN X2 hx hlk (t := .boolean) Bd.returns (by simp) (hb hby d44_18) (by decide) (by decide) ?_
  show Q44 Z o cs h0 n0 (some (.int (nar .boolean (1 : Int32)))) T2.heap _
  rw [e2]
  exact ⟨rfl, N0, rfl⟩
abbrev rRrm45 : Room := { frames := 0, cells := 0, slots := 0, locals := 0 }
theorem d45_0 : decode jdk_43_method_3_code 0 = .ok (.iload_n 0, 1) := by decide +kernel
theorem d45_1 : decode jdk_43_method_3_code 1 = .ok (.sipush 255, 3) := by decide +kernel
theorem d45_4 : decode jdk_43_method_3_code 4 = .ok (.if_icmp .gt 7, 3) := by decide +kernel
theorem d45_7 : decode jdk_43_method_3_code 7 = .ok (.iconst 1, 1) := by decide +kernel
theorem d45_8 : decode jdk_43_method_3_code 8 = .ok (.goto 4, 3) := by decide +kernel
theorem d45_12 : decode jdk_43_method_3_code 12 = .ok (.ireturn, 1) := by decide +kernel
theorem pn_rm45 : plainFor yy32 = true := by first | exact plainFor_of_name (by first | (simp [plainName, overriddenIn]; done) | decide +kernel) | decide +kernel
theorem ef_rm45 (m : MethodId) : entryFrame m #[(.int (61 : Int32))] 1 = (mkF m 0 #[iv (61 : Int32)] []) := by first | (simp [entryFrame, mkF, argsToLocals, Value.category]; done) | rfl
def Q45 (Z : State) (h0 : Heap) (n0 : Nat) (v_ : Option Value) (h_ : Heap) (L_ : List Loc) : Prop := (v_ = some (.int (1 : Int32))) ∧ (Fr n0 L_) ∧ (h_ = h0)
set_option maxRecDepth 65536 in
set_option maxHeartbeats 40000000 in
theorem rm45 (l : Launch) (Z : State) (a0 : Array Value) (hw : ∀ d ∈ tables_1, d.before a0 Z = true) (ws : List Jvm.Cond) (h0 : Heap) (n0 : Nat) (Z0 : n0 ≤ h0.size) :
    MetFree l yy32 (head1 (Jvm.Cond.code yy32 jdk_43_method_3_code 1 (some .boolean) :: ws) rRrm45) (fun a_ U_ => a_ = #[(.int (61 : Int32))] ∧ Z.Warmed39 U_.vm ∧ U_.heap = h0) (fun _ _ _ _ _ => True) (fun _ U_ o_ U1_ => ∃ v_ L_, o_ = .returned v_ ∧ Q45 Z h0 n0 v_ U1_.heap L_ ∧ FrameEnd U_ o_ U1_ L_ rRrm45.cells rRrm45.slots) := by
  refine MetFree.of_bodySF pn_rm45 hisR ?_
  intro p e s m args below meth c s₁ Bd hml0 hP hK
  obtain ⟨rfl, hZ, hh⟩ := hP
  have hx := Bd.exec
  have hby := Bd.bytes
  have hlk : meth.locks = false := Bd.notSynchronized
  have hml : c.maxLocals = 1 := hml0
  have hown : s.vm.findClass "java/lang/StringLatin1" = some m.cls := findClass_of_methodNamed Bd.named
  have hnm := (name_of_methodNamed Bd.named Bd.method).1
  have X0 : Stand p l e rRrm45 s m #[(.int (61 : Int32))] below meth c s₁ [] 0 0 := Stand.of_body Bd
  have e0 : s₁.heap = h0 := by rw [← hh, Bd.state]; rfl
  have N0 := Fr.nil n0
  show own_Goes p e below s (Q45 Z h0 n0) rRrm45.cells rRrm45.slots s₁ (entryFrame m #[(.int (61 : Int32))] 1)
  rw [ef_rm45 m]
  show own_Goes p e below s (Q45 Z h0 n0) rRrm45.cells rRrm45.slots s₁ (mkF m 0 #[iv (61 : Int32)] [])
  refine own_st (fun _ kk_ => XS.iloadN X0.here hx rfl (hb hby d45_0) rfl (XS.sipush X0.here hx rfl (hb hby d45_1) (XS.icmpNo X0.here hx rfl (hb hby d45_4) rfl (XT.ii_gt_f (by decide)) (XS.iconst X0.here hx rfl (hb hby d45_7) (XS.goto X0.here hx rfl (pc0 := 8) (pc' := 12) rfl (hb hby d45_8) (by decide) (by decide) kk_))))) ?_
  show own_Goes _ _ _ _ _ _ _ s₁ (mkF m 12 #[iv (61 : Int32)] [(.int (1 : Int32))])
  refine own_retN X0 hx hlk (t := .boolean) Bd.returns (by simp) (hb hby d45_12) (by decide) (by decide) ?_
  show Q45 Z h0 n0 (some (.int (nar .boolean (1 : Int32)))) s₁.heap _
  rw [e0]
  exact ⟨rfl, N0, rfl⟩
abbrev rRrm43 : Room := { frames := 1, cells := 0, slots := 0, locals := 14 }
theorem d43_0 : decode jdk_68_method_31_code 0 = .ok (.aload_n 0, 1) := by decide +kernel
theorem d43_1 : decode jdk_68_method_31_code 1 = .ok (.aload_n 0, 1) := by decide +kernel
theorem d43_2 : decode jdk_68_method_31_code 2 = .ok (.getfield 79, 3) := by decide +kernel
theorem d43_5 : decode jdk_68_method_31_code 5 = .ok (.iconst 1, 1) := by decide +kernel
theorem d43_6 : decode jdk_68_method_31_code 6 = .ok (.iadd, 1) := by decide +kernel
theorem d43_7 : decode jdk_68_method_31_code 7 = .ok (.invokevirtual 100, 3) := by decide +kernel
theorem d43_10 : decode jdk_68_method_31_code 10 = .ok (.aload_n 0, 1) := by decide +kernel
theorem d43_11 : decode jdk_68_method_31_code 11 = .ok (.invokevirtual 83, 3) := by decide +kernel
theorem d43_14 : decode jdk_68_method_31_code 14 = .ok (.ifCond .eq 31, 3) := by decide +kernel
theorem d43_17 : decode jdk_68_method_31_code 17 = .ok (.iload_n 1, 1) := by decide +kernel
theorem d43_18 : decode jdk_68_method_31_code 18 = .ok (.invokestatic 191, 3) := by decide +kernel
theorem d43_21 : decode jdk_68_method_31_code 21 = .ok (.ifCond .eq 24, 3) := by decide +kernel
theorem d43_24 : decode jdk_68_method_31_code 24 = .ok (.aload_n 0, 1) := by decide +kernel
theorem d43_25 : decode jdk_68_method_31_code 25 = .ok (.getfield 15, 3) := by decide +kernel
theorem d43_28 : decode jdk_68_method_31_code 28 = .ok (.aload_n 0, 1) := by decide +kernel
theorem d43_29 : decode jdk_68_method_31_code 29 = .ok (.dup, 1) := by decide +kernel
theorem d43_30 : decode jdk_68_method_31_code 30 = .ok (.getfield 79, 3) := by decide +kernel
theorem d43_33 : decode jdk_68_method_31_code 33 = .ok (.dup_x1, 1) := by decide +kernel
theorem d43_34 : decode jdk_68_method_31_code 34 = .ok (.iconst 1, 1) := by decide +kernel
theorem d43_35 : decode jdk_68_method_31_code 35 = .ok (.iadd, 1) := by decide +kernel
theorem d43_36 : decode jdk_68_method_31_code 36 = .ok (.putfield 79, 3) := by decide +kernel
theorem d43_39 : decode jdk_68_method_31_code 39 = .ok (.iload_n 1, 1) := by decide +kernel
theorem d43_40 : decode jdk_68_method_31_code 40 = .ok (.i2b, 1) := by decide +kernel
theorem d43_41 : decode jdk_68_method_31_code 41 = .ok (.bastore, 1) := by decide +kernel
theorem d43_42 : decode jdk_68_method_31_code 42 = .ok (.goto 33, 3) := by decide +kernel
theorem d43_75 : decode jdk_68_method_31_code 75 = .ok (.aload_n 0, 1) := by decide +kernel
theorem d43_76 : decode jdk_68_method_31_code 76 = .ok (.areturn, 1) := by decide +kernel
theorem pd_19 : parseMethodDescriptor "(C)Z" = some ⟨[.char], some .boolean⟩ := by decide +kernel
theorem pn_rm43 : plainFor yy33 = true := by first | exact plainFor_of_name (by first | (simp [plainName, overriddenIn]; done) | decide +kernel) | decide +kernel
theorem ef_rm43 (m : MethodId) (o : Addr) : entryFrame m #[(.ref o), (.int (61 : Int32))] 2 = (mkF m 0 #[rv o, iv (61 : Int32)] []) := by first | (simp [entryFrame, mkF, argsToLocals, Value.category]; done) | rfl
def Q43 (Z : State) (o : Addr) (d : Addr) (kd : ClassId) (vs1 : List Value) (cz : Int32) (cs : Int32) (h0 : Heap) (n0 : Nat) (v_ : Option Value) (h_ : Heap) (L_ : List Loc) : Prop := (v_ = some (.ref o)) ∧ (Fr n0 L_) ∧ (Keep h0 h_ [o, d]) ∧ (Exa Z h_ o "java/lang/StringBuilder") ∧ (Fld Z h_ o "java/lang/AbstractStringBuilder" "value" "[B" (.ref d)) ∧ (Fld Z h_ o "java/lang/AbstractStringBuilder" "coder" "B" (.int (0 : Int32))) ∧ (Fld Z h_ o "java/lang/AbstractStringBuilder" "count" "I" (.int (cz + (1 : Int32)))) ∧ (Arv Z h_ d kd .byte (16 : Int32) (List.set vs1 (cz).toNatClampNeg (.int (nar .byte ((61 : Int32).toInt8.toInt32)))) (.int (0 : Int32)))
set_option maxRecDepth 65536 in
set_option maxHeartbeats 40000000 in
theorem rm43 (l : Launch) (Z : State) (a0 : Array Value) (hw : ∀ d ∈ tables_1, d.before a0 Z = true) (ws : List Jvm.Cond) (o : Addr) (d : Addr) (kd : ClassId) (vs1 : List Value) (cz : Int32) (cs : Int32) (h0 : Heap) (n0 : Nat) (Z0 : n0 ≤ h0.size) (p_0 : Exa Z h0 o "java/lang/StringBuilder") (p_1 : Fld Z h0 o "java/lang/AbstractStringBuilder" "value" "[B" (.ref d)) (p_2 : Fld Z h0 o "java/lang/AbstractStringBuilder" "coder" "B" (.int (0 : Int32))) (p_3 : Fld Z h0 o "java/lang/AbstractStringBuilder" "count" "I" (.int cz)) (p_4 : n0 ≤ o) (p_5 : n0 ≤ d) (p_6 : Arv Z h0 d kd .byte (16 : Int32) vs1 (.int (0 : Int32))) (p_7 : Sta Z h0 "java/lang/String" "COMPACT_STRINGS" "Z" (.int cs)) (hcs : ¬ cs = (0 : Int32)) (hf : own_fit cz 1) (hl : 16 ≤ vs1.length) (p_11 : o ≠ d) :
    MetFree l yy33 (head1 (Jvm.Cond.code yy33 jdk_68_method_31_code 2 (some (.object "java/lang/AbstractStringBuilder")) :: ws) rRrm43) (fun a_ U_ => a_ = #[(.ref o), (.int (61 : Int32))] ∧ Z.Warmed39 U_.vm ∧ U_.heap = h0) (fun _ _ _ _ _ => True) (fun _ U_ o_ U1_ => ∃ v_ L_, o_ = .returned v_ ∧ Q43 Z o d kd vs1 cz cs h0 n0 v_ U1_.heap L_ ∧ FrameEnd U_ o_ U1_ L_ rRrm43.cells rRrm43.slots) := by
  refine MetFree.of_bodySF pn_rm43 hisR ?_
  intro p e s m args below meth c s₁ Bd hml0 hP hK
  obtain ⟨rfl, hZ, hh⟩ := hP
  have hx := Bd.exec
  have hby := Bd.bytes
  have hlk : meth.locks = false := Bd.notSynchronized
  have hml : c.maxLocals = 2 := hml0
  have hown : s.vm.findClass "java/lang/AbstractStringBuilder" = some m.cls := findClass_of_methodNamed Bd.named
  have hnm := (name_of_methodNamed Bd.named Bd.method).1
  have X0 : Stand p l e rRrm43 s m #[(.ref o), (.int (61 : Int32))] below meth c s₁ [] 0 0 := Stand.of_body Bd
  have e0 : s₁.heap = h0 := by rw [← hh, Bd.state]; rfl
  have N0 := Fr.nil n0
  show own_Goes p e below s (Q43 Z o d kd vs1 cz cs h0 n0) rRrm43.cells rRrm43.slots s₁ (entryFrame m #[(.ref o), (.int (61 : Int32))] 2)
  rw [ef_rm43 m o]
  show own_Goes p e below s (Q43 Z o d kd vs1 cz cs h0 n0) rRrm43.cells rRrm43.slots s₁ (mkF m 0 #[rv o, iv (61 : Int32)] [])
  refine own_st (fun _ kk_ => XS.aloadN X0.here hx rfl (hb hby d43_0) rfl rfl (XS.aloadN X0.here hx rfl (hb hby d43_1) rfl rfl kk_)) ?_
  show own_Goes _ _ _ _ _ _ _ s₁ (mkF m 2 #[rv o, iv (61 : Int32)] [(.ref o), (.ref o)])
  obtain ⟨T1, X1, e1, st1⟩ := getF X0 hx hZ hown (host := "") (Or.inl (own_w hw 184 rfl)) Via.refl e0 p_3 (g := (mkF m 2 #[rv o, iv (61 : Int32)] [(.ref o), (.ref o)])) rfl rfl (hb hby d43_2)
  refine own_st st1 ?_
  show own_Goes _ _ _ _ _ _ _ T1 (mkF m 5 #[rv o, iv (61 : Int32)] [(.int cz), (.ref o)])
  refine own_st (fun _ kk_ => XS.iconst X1.here hx rfl (hb hby d43_5) (XS.iadd X1.here hx rfl (hb hby d43_6) rfl kk_)) ?_
  show own_Goes _ _ _ _ _ _ _ T1 (mkF m 7 #[rv o, iv (61 : Int32)] [(.int (cz + (1 : Int32))), (.ref o)])
  obtain ⟨cq2, q2, q2'⟩ := p_0.cell
  obtain ⟨_, _, ⟨T2, L2, k2, n2⟩, -, X2, ⟨Lc2, hQ2, l2, y2, z2⟩, st2⟩ := X1.privateBack hx (y := yy25) hown (mvT hZ (own_w hw 186 rfl)) (mvT hZ (own_w hw 187 rfl)) (own_selp (mvT hZ (own_w hw 189 rfl)) (Cond.privateMethod_at (mvP hZ (own_w hw 188 rfl) (args := #[]))) (mvT hZ (own_w hw 187 rfl)) (by decide)) (Cond.privateMethod_at (mvP hZ (own_w hw 188 rfl) (args := #[]))) (mvT hZ (own_w hw 190 rfl)) (by decide) (backOf (W := 0) (rm38 l Z a0 hw [] (o) ((cz + (1 : Int32))) (d) (kd) (vs1) h0 n0 Z0 p_0 p_1 p_2 p_6 hf.e) hZ (own_w hw 190 rfl) (own_w hw 165 rfl) (by decide) (by decide)) (g := (mkF m 7 #[rv o, iv (61 : Int32)] [(.int (cz + (1 : Int32))), (.ref o)])) rfl (by rw [hml]; rfl) (Steps.refl _) (a := o) (by rw [e1]; exact q2) q2' (argsL := [(.int (cz + (1 : Int32)))]) (rest := []) (lenOf pd_16 rfl) rfl (by show 2 * 0 + _ ≤ _; exact Nat.le_of_eq rfl) (hb hby d43_7) (fun _ _ => ⟨rfl, e1, (by decide : 0 + 0 ≤ _), (by decide : 0 + 0 ≤ _)⟩)
  dsimp only [Pt.U, Pt.locs, Pt.cells, Pt.slots] at X2 l2 y2 z2 st2 hQ2
  subst l2 y2 z2
  obtain ⟨rfl, Nq2, eq2⟩ := hQ2
  have N2 := Fr.app N0 Nq2
  refine own_st (fun _ kk_ => st2.trans kk_) ?_
  show own_Goes _ _ _ _ _ _ _ T2 (mkF m 10 #[rv o, iv (61 : Int32)] [])
  refine own_st (fun _ kk_ => XS.aloadN X2.here hx rfl (hb hby d43_10) rfl rfl kk_) ?_
  show own_Goes _ _ _ _ _ _ _ T2 (mkF m 11 #[rv o, iv (61 : Int32)] [(.ref o)])
  obtain ⟨cq3, kq3, q3a, q3b, q3c⟩ := isOf hZ eq2 p_0
  obtain ⟨_, _, ⟨T3, L3, k3, n3⟩, -, X3, ⟨Lc3, hQ3, l3, y3, z3⟩, st3⟩ := X2.virtualBack hx (y := yy31) (z := yy31) hown (mvT hZ (own_w hw 220 rfl)) (mvT hZ (own_w hw 221 rfl)) (notFace_of_selects (args := #[]) (mvT hZ (own_w hw 223 rfl))) (mvT hZ (own_w hw 223 rfl)) (mvT hZ (own_w hw 222 rfl)) (by decide) (backOf (W := 0) (rm44 l Z a0 hw [] (o) (cs) h0 n0 Z0 p_0 p_2 p_7 (by assumption)) hZ (own_w hw 224 rfl) (own_w hw 165 rfl) (by decide) (by decide)) q3a q3c (g := (mkF m 11 #[rv o, iv (61 : Int32)] [(.ref o)])) rfl (by rw [hml]; rfl) (Steps.refl _) (argsL := []) (rest := []) (lenOf pd_6 rfl) rfl (by show 2 * 0 + _ ≤ _; exact Nat.le_of_eq rfl) (hb hby d43_11) (fun _ _ => ⟨rfl, eq2, (by decide : 0 + 0 ≤ _), (by decide : 0 + 0 ≤ _)⟩)
  dsimp only [Pt.U, Pt.locs, Pt.cells, Pt.slots] at X3 l3 y3 z3 st3 hQ3
  subst l3 y3 z3
  obtain ⟨rfl, Nq3, eq3⟩ := hQ3
  have N3 := Fr.app N2 Nq3
  refine own_st (fun _ kk_ => st3.trans kk_) ?_
  show own_Goes _ _ _ _ _ _ _ T3 (mkF m 14 #[rv o, iv (61 : Int32)] [(.int (1 : Int32))])
  refine own_st (fun _ kk_ => XS.ifNo X3.here hx rfl (hb hby d43_14) rfl (XT.i0_eq_f (by decide)) (XS.iloadN X3.here hx rfl (hb hby d43_17) rfl kk_)) ?_
  show own_Goes _ _ _ _ _ _ _ T3 (mkF m 18 #[rv o, iv (61 : Int32)] [(.int (61 : Int32))])
  obtain ⟨_, _, ⟨T4, L4, k4, n4⟩, -, X4, ⟨Lc4, hQ4, l4, y4, z4⟩, st4⟩ := Jvm.LawKit.callS X3 hx (y := yy32) hown (mvT hZ (own_w hw 225 rfl)) (mvT hZ (own_w hw 226 rfl)) (mvT hZ (own_w hw 80 rfl)) (mvT hZ (own_w hw 227 rfl)) (by decide) (backOf (W := 0) (rm45 l Z a0 hw []  h0 n0 Z0) hZ (own_w hw 227 rfl) (own_w hw 80 rfl) (by decide) (by decide)) (g := (mkF m 18 #[rv o, iv (61 : Int32)] [(.int (61 : Int32))])) rfl (by rw [hml]; rfl) (argsL := [(.int (61 : Int32))]) (rest := []) (lenOf pd_19 rfl) rfl (by show 2 * 0 + _ ≤ _; exact Nat.le_of_eq rfl) (hb hby d43_18) (fun _ _ => ⟨rfl, eq3, (by decide : 0 + 0 ≤ _), (by decide : 0 + 0 ≤ _)⟩)
  dsimp only [Pt.U, Pt.locs, Pt.cells, Pt.slots] at X4 l4 y4 z4 st4 hQ4
  subst l4 y4 z4
  obtain ⟨rfl, Nq4, eq4⟩ := hQ4
  have N4 := Fr.app N3 Nq4
  refine own_st st4 ?_
  show own_Goes _ _ _ _ _ _ _ T4 (mkF m 21 #[rv o, iv (61 : Int32)] [(.int (1 : Int32))])
  refine own_st (fun _ kk_ => XS.ifNo X4.here hx rfl (hb hby d43_21) rfl (XT.i0_eq_f (by decide)) (XS.aloadN X4.here hx rfl (hb hby d43_24) rfl rfl kk_)) ?_
  show own_Goes _ _ _ _ _ _ _ T4 (mkF m 25 #[rv o, iv (61 : Int32)] [(.ref o)])
  obtain ⟨T5, X5, e5, st5⟩ := getF X4 hx hZ hown (host := "") (Or.inl (own_w hw 169 rfl)) Via.refl eq4 p_1 (g := (mkF m 25 #[rv o, iv (61 : Int32)] [(.ref o)])) rfl rfl (hb hby d43_25)
  refine own_st st5 ?_
  show own_Goes _ _ _ _ _ _ _ T5 (mkF m 28 #[rv o, iv (61 : Int32)] [(.ref d)])
  refine own_st (fun _ kk_ => XS.aloadN X5.here hx rfl (hb hby d43_28) rfl rfl (XS.dup X5.here hx rfl (hb hby d43_29) rfl rfl kk_)) ?_
  show own_Goes _ _ _ _ _ _ _ T5 (mkF m 30 #[rv o, iv (61 : Int32)] [(.ref o), (.ref o), (.ref d)])
  obtain ⟨T6, X6, e6, st6⟩ := getF X5 hx hZ hown (host := "") (Or.inl (own_w hw 184 rfl)) Via.refl e5 p_3 (g := (mkF m 30 #[rv o, iv (61 : Int32)] [(.ref o), (.ref o), (.ref d)])) rfl rfl (hb hby d43_30)
  refine own_st st6 ?_
  show own_Goes _ _ _ _ _ _ _ T6 (mkF m 33 #[rv o, iv (61 : Int32)] [(.int cz), (.ref o), (.ref d)])
  refine own_st (fun _ kk_ => XS.dupX1 X6.here hx rfl (hb hby d43_33) rfl rfl rfl (XS.iconst X6.here hx rfl (hb hby d43_34) (XS.iadd X6.here hx rfl (hb hby d43_35) rfl kk_))) ?_
  show own_Goes _ _ _ _ _ _ _ T6 (mkF m 36 #[rv o, iv (61 : Int32)] [(.int (cz + (1 : Int32))), (.ref o), (.int cz), (.ref d)])
  obtain ⟨T7, h7, X7, e7, W7, st7⟩ := putF X6 hx hZ hown (host := "") (Or.inl (own_w hw 184 rfl)) Via.refl e6 p_3 p_0 (Or.inl (own_w hw 185 rfl)) (own_w hw 156 rfl) (ty := .int) (by decide) rfl rfl (g := (mkF m 36 #[rv o, iv (61 : Int32)] [(.int (cz + (1 : Int32))), (.ref o), (.int cz), (.ref d)])) rfl rfl (hb hby d43_36)
  have fw7 : Fld Z h7 o "java/lang/AbstractStringBuilder" "count" "I" (.int (cz + (1 : Int32))) := p_3.same W7
  have f7_0 := p_0.wr W7
  have f7_1 := p_1.other W7 (Or.inr (slot_ne (Or.inl (own_w hw 170 rfl)) (Or.inl (own_w hw 185 rfl)) (by decide) (t := (.array .byte)) (t' := .int) (by decide) (by decide)))
  have f7_2 := p_2.other W7 (Or.inr (slot_ne (Or.inl (own_w hw 172 rfl)) (Or.inl (own_w hw 185 rfl)) (by decide) (t := .byte) (t' := .int) (by decide) (by decide)))
  have f7_4 := p_6.other W7 (Ne.symm p_11)
  have f7_5 := p_7.wr W7
  have Zs7 : n0 ≤ h7.size := Nat.le_trans Z0 (Nat.le_of_eq W7.size.symm)
  have K7 := (Keep.refl h0 [o, d]).wr W7 (Or.inl (List.mem_of_getElem? (i := 0) rfl))
  have N7 := Fr.snoc X7 N4 p_4
  refine own_st st7 ?_
  show own_Goes _ _ _ _ _ _ _ T7 (mkF m 39 #[rv o, iv (61 : Int32)] [(.int cz), (.ref d)])
  refine own_st (fun _ kk_ => XS.iloadN X7.here hx rfl (hb hby d43_39) rfl (XS.i2b X7.here hx rfl (hb hby d43_40) rfl kk_)) ?_
  show own_Goes _ _ _ _ _ _ _ T7 (mkF m 41 #[rv o, iv (61 : Int32)] [(.int ((61 : Int32).toInt8.toInt32)), (.int cz), (.ref d)])
  obtain ⟨cl8, Ar8, q8, Sz8, Nn8, Hh8, Gg8⟩ := id f7_4
  obtain ⟨T8, h8, X8, e8, W8, st8⟩ := stB X7 hx hZ e7 Ar8 (j := cz) (inb_of Sz8 ⟨hf.a, hf.i⟩) (g := (mkF m 41 #[rv o, iv (61 : Int32)] [(.int ((61 : Int32).toInt8.toInt32)), (.int cz), (.ref d)])) rfl rfl (hb hby d43_41)
  have V8 : Arv Z h8 d kd .byte (16 : Int32) (List.set vs1 (cz).toNatClampNeg (.int (nar .byte ((61 : Int32).toInt8.toInt32)))) (.int (0 : Int32)) := Arv.set Ar8 q8 Sz8 Nn8 Hh8 Gg8 (fits_nar_byte _) W8 _ rfl (hf.j hl)
  have f8_0 := f7_0.wr W8
  have f8_1 := f7_1.other W8 (Or.inl p_11)
  have f8_2 := f7_2.other W8 (Or.inl p_11)
  have f8_4 := f7_5.wr W8
  have f8_5 := fw7.other W8 (Or.inl p_11)
  have Zs8 : n0 ≤ h8.size := Nat.le_trans Zs7 (Nat.le_of_eq W8.size.symm)
  have K8 := K7.wr W8 (Or.inl (List.mem_of_getElem? (i := 1) rfl))
  have N8 := Fr.snoc X8 N7 p_5
  refine own_st st8 ?_
  show own_Goes _ _ _ _ _ _ _ T8 (mkF m 42 #[rv o, iv (61 : Int32)] [])
  refine own_st (fun _ kk_ => XS.goto X8.here hx rfl (pc0 := 42) (pc' := 75) rfl (hb hby d43_42) (by decide) (by decide) (XS.aloadN X8.here hx rfl (hb hby d43_75) rfl rfl kk_)) ?_
  show own_Goes _ _ _ _ _ _ _ T8 (mkF m 76 #[rv o, iv (61 : Int32)] [(.ref o)])
  refine own_retA X8 hx hlk rfl Bd.returns rfl (hb hby d43_76) (by decide) (by decide) ?_
  show Q43 Z o d kd vs1 cz cs h0 n0 (some (.ref o)) T8.heap _
  rw [e8]
  exact ⟨rfl, N8, K8, f8_0, f8_1, f8_2, f8_5, V8⟩
abbrev rRrm42 : Room := { frames := 2, cells := 0, slots := 0, locals := 27 }
theorem d42_0 : decode jdk_67_method_14_code 0 = .ok (.aload_n 0, 1) := by decide +kernel
theorem d42_1 : decode jdk_67_method_14_code 1 = .ok (.iload_n 1, 1) := by decide +kernel
theorem d42_2 : decode jdk_67_method_14_code 2 = .ok (.invokespecial 50, 3) := by decide +kernel
theorem d42_5 : decode jdk_67_method_14_code 5 = .ok (.pop, 1) := by decide +kernel
theorem d42_6 : decode jdk_67_method_14_code 6 = .ok (.aload_n 0, 1) := by decide +kernel
theorem d42_7 : decode jdk_67_method_14_code 7 = .ok (.areturn, 1) := by decide +kernel
theorem pd_20 : parseMethodDescriptor "(C)Ljava/lang/AbstractStringBuilder;" = some ⟨[.char], some (.object "java/lang/AbstractStringBuilder")⟩ := by decide +kernel
theorem pn_rm42 : plainFor yy34 = true := by first | exact plainFor_of_name (by first | (simp [plainName, overriddenIn]; done) | decide +kernel) | decide +kernel
theorem ef_rm42 (m : MethodId) (o : Addr) : entryFrame m #[(.ref o), (.int (61 : Int32))] 2 = (mkF m 0 #[rv o, iv (61 : Int32)] []) := by first | (simp [entryFrame, mkF, argsToLocals, Value.category]; done) | rfl
def Q42 (Z : State) (o : Addr) (d : Addr) (kd : ClassId) (vs1 : List Value) (cz : Int32) (cs : Int32) (h0 : Heap) (n0 : Nat) (v_ : Option Value) (h_ : Heap) (L_ : List Loc) : Prop := (v_ = some (.ref o)) ∧ (Fr n0 L_) ∧ (Keep h0 h_ [o, d]) ∧ (Exa Z h_ o "java/lang/StringBuilder") ∧ (Fld Z h_ o "java/lang/AbstractStringBuilder" "value" "[B" (.ref d)) ∧ (Fld Z h_ o "java/lang/AbstractStringBuilder" "coder" "B" (.int (0 : Int32))) ∧ (Fld Z h_ o "java/lang/AbstractStringBuilder" "count" "I" (.int (cz + (1 : Int32)))) ∧ (Arv Z h_ d kd .byte (16 : Int32) (List.set vs1 (cz).toNatClampNeg (.int (nar .byte ((61 : Int32).toInt8.toInt32)))) (.int (0 : Int32)))
set_option maxRecDepth 65536 in
set_option maxHeartbeats 40000000 in
theorem rm42 (l : Launch) (Z : State) (a0 : Array Value) (hw : ∀ d ∈ tables_1, d.before a0 Z = true) (ws : List Jvm.Cond) (o : Addr) (d : Addr) (kd : ClassId) (vs1 : List Value) (cz : Int32) (cs : Int32) (h0 : Heap) (n0 : Nat) (Z0 : n0 ≤ h0.size) (p_0 : Exa Z h0 o "java/lang/StringBuilder") (p_1 : Fld Z h0 o "java/lang/AbstractStringBuilder" "value" "[B" (.ref d)) (p_2 : Fld Z h0 o "java/lang/AbstractStringBuilder" "coder" "B" (.int (0 : Int32))) (p_3 : Fld Z h0 o "java/lang/AbstractStringBuilder" "count" "I" (.int cz)) (p_4 : n0 ≤ o) (p_5 : n0 ≤ d) (p_6 : Arv Z h0 d kd .byte (16 : Int32) vs1 (.int (0 : Int32))) (p_7 : Sta Z h0 "java/lang/String" "COMPACT_STRINGS" "Z" (.int cs)) (hcs : ¬ cs = (0 : Int32)) (hf : own_fit cz 1) (hl : 16 ≤ vs1.length) (p_11 : o ≠ d) :
    MetFree l yy34 (head1 (Jvm.Cond.code yy34 jdk_67_method_14_code 2 (some (.object "java/lang/StringBuilder")) :: ws) rRrm42) (fun a_ U_ => a_ = #[(.ref o), (.int (61 : Int32))] ∧ Z.Warmed39 U_.vm ∧ U_.heap = h0) (fun _ _ _ _ _ => True) (fun _ U_ o_ U1_ => ∃ v_ L_, o_ = .returned v_ ∧ Q42 Z o d kd vs1 cz cs h0 n0 v_ U1_.heap L_ ∧ FrameEnd U_ o_ U1_ L_ rRrm42.cells rRrm42.slots) := by
  refine MetFree.of_bodySF pn_rm42 hisR ?_
  intro p e s m args below meth c s₁ Bd hml0 hP hK
  obtain ⟨rfl, hZ, hh⟩ := hP
  have hx := Bd.exec
  have hby := Bd.bytes
  have hlk : meth.locks = false := Bd.notSynchronized
  have hml : c.maxLocals = 2 := hml0
  have hown : s.vm.findClass "java/lang/StringBuilder" = some m.cls := findClass_of_methodNamed Bd.named
  have hnm := (name_of_methodNamed Bd.named Bd.method).1
  have X0 : Stand p l e rRrm42 s m #[(.ref o), (.int (61 : Int32))] below meth c s₁ [] 0 0 := Stand.of_body Bd
  have e0 : s₁.heap = h0 := by rw [← hh, Bd.state]; rfl
  have N0 := Fr.nil n0
  show own_Goes p e below s (Q42 Z o d kd vs1 cz cs h0 n0) rRrm42.cells rRrm42.slots s₁ (entryFrame m #[(.ref o), (.int (61 : Int32))] 2)
  rw [ef_rm42 m o]
  show own_Goes p e below s (Q42 Z o d kd vs1 cz cs h0 n0) rRrm42.cells rRrm42.slots s₁ (mkF m 0 #[rv o, iv (61 : Int32)] [])
  refine own_st (fun _ kk_ => XS.aloadN X0.here hx rfl (hb hby d42_0) rfl rfl (XS.iloadN X0.here hx rfl (hb hby d42_1) rfl kk_)) ?_
  show own_Goes _ _ _ _ _ _ _ s₁ (mkF m 2 #[rv o, iv (61 : Int32)] [(.int (61 : Int32)), (.ref o)])
  obtain ⟨_, _, ⟨T1, L1, k1, n1⟩, -, X1, ⟨Lc1, hQ1, l1, y1, z1⟩, st1⟩ := superBack X0 hx hZ (y := yy33) hown (own_w hw 216 rfl) (own_smo (own_w hw 189 rfl) rfl (own_w hw 217 rfl) (by decide)) (own_w hw 217 rfl) (own_w hw 180 rfl) (by decide) (backOf (W := 0) (rm43 l Z a0 hw [] (o) (d) (kd) (vs1) (cz) (cs) h0 n0 Z0 p_0 p_1 p_2 p_3 p_4 p_5 p_6 p_7 (by assumption) hf hl p_11) hZ (own_w hw 219 rfl) (own_w hw 165 rfl) (by decide) (by decide)) e0 (Ins.self p_0) (g := (mkF m 2 #[rv o, iv (61 : Int32)] [(.int (61 : Int32)), (.ref o)])) rfl (by rw [hml]; rfl) (own_w hw 219 rfl) (argsL := [(.int (61 : Int32))]) (rest := []) (lenOf pd_20 rfl) rfl (by show 2 * 0 + _ ≤ _; exact Nat.le_of_eq rfl) (hb hby d42_2) (fun _ _ => ⟨rfl, e0, (by decide : 0 + 0 ≤ _), (by decide : 0 + 0 ≤ _)⟩)
  dsimp only [Pt.U, Pt.locs, Pt.cells, Pt.slots] at X1 l1 y1 z1 st1 hQ1
  subst l1 y1 z1
  obtain ⟨rfl, Nq1, Kq1, u1_0, u1_1, u1_2, u1_3, u1_4⟩ := hQ1
  have N1 := Fr.app N0 Nq1
  have f1_0 := p_0.keep Kq1
  have f1_5 := own_Sta_keep p_7 Kq1 (nsS p_0.nostat (nsS p_6.nostat ns0))
  have Zs1 : n0 ≤ T1.heap.size := Nat.le_trans Z0 Kq1.1
  have K1 := (Keep.refl h0 [o, d]).trans Kq1 (allS (Or.inl (List.mem_of_getElem? (i := 0) rfl)) (allS (Or.inl (List.mem_of_getElem? (i := 1) rfl)) all0))
  refine own_st (fun _ kk_ => st1.trans kk_) ?_
  show own_Goes _ _ _ _ _ _ _ T1 (mkF m 5 #[rv o, iv (61 : Int32)] [(.ref o)])
  refine own_st (fun _ kk_ => XS.pop X1.here hx rfl (hb hby d42_5) rfl rfl (XS.aloadN X1.here hx rfl (hb hby d42_6) rfl rfl kk_)) ?_
  show own_Goes _ _ _ _ _ _ _ T1 (mkF m 7 #[rv o, iv (61 : Int32)] [(.ref o)])
  refine own_retA X1 hx hlk rfl Bd.returns rfl (hb hby d42_7) (by decide) (by decide) ?_
  show Q42 Z o d kd vs1 cz cs h0 n0 (some (.ref o)) T1.heap _
  exact ⟨rfl, N1, K1, u1_0, u1_1, u1_2, u1_3, u1_4⟩
abbrev rRrm35 : Room := { frames := 1, cells := 1, slots := 16, locals := 12 }
theorem d35_0 : decode jdk_68_method_2_code 0 = .ok (.aload_n 0, 1) := by decide +kernel
theorem d35_1 : decode jdk_68_method_2_code 1 = .ok (.invokespecial 3, 3) := by decide +kernel
theorem d35_4 : decode jdk_68_method_2_code 4 = .ok (.getstatic 18, 3) := by decide +kernel
theorem d35_7 : decode jdk_68_method_2_code 7 = .ok (.ifCond .eq 18, 3) := by decide +kernel
theorem d35_10 : decode jdk_68_method_2_code 10 = .ok (.aload_n 0, 1) := by decide +kernel
theorem d35_11 : decode jdk_68_method_2_code 11 = .ok (.iload_n 1, 1) := by decide +kernel
theorem d35_12 : decode jdk_68_method_2_code 12 = .ok (.newarray .byte, 2) := by decide +kernel
theorem d35_14 : decode jdk_68_method_2_code 14 = .ok (.putfield 15, 3) := by decide +kernel
theorem d35_17 : decode jdk_68_method_2_code 17 = .ok (.aload_n 0, 1) := by decide +kernel
theorem d35_18 : decode jdk_68_method_2_code 18 = .ok (.iconst 0, 1) := by decide +kernel
theorem d35_19 : decode jdk_68_method_2_code 19 = .ok (.putfield 22, 3) := by decide +kernel
theorem d35_22 : decode jdk_68_method_2_code 22 = .ok (.goto 16, 3) := by decide +kernel
theorem d35_38 : decode jdk_68_method_2_code 38 = .ok (.return_, 1) := by decide +kernel
theorem pn_rm35 : plainFor yy35 = true := by first | exact plainFor_of_name (by first | (simp [plainName, overriddenIn]; done) | decide +kernel) | decide +kernel
theorem ef_rm35 (m : MethodId) (o : Addr) : entryFrame m #[(.ref o), (.int (16 : Int32))] 2 = (mkF m 0 #[rv o, iv (16 : Int32)] []) := by first | (simp [entryFrame, mkF, argsToLocals, Value.category]; done) | rfl
def Q35 (Z : State) (o : Addr) (cs : Int32) (h0 : Heap) (n0 : Nat) (v_ : Option Value) (h_ : Heap) (L_ : List Loc) : Prop := ∃ y : Addr, ∃ ky : ClassId, (v_ = none) ∧ (Fr n0 L_) ∧ (Keep h0 h_ [o]) ∧ (h0.size ≤ y) ∧ (Exa Z h_ o "java/lang/StringBuilder") ∧ (Fld Z h_ o "java/lang/AbstractStringBuilder" "value" "[B" (.ref y)) ∧ (Fld Z h_ o "java/lang/AbstractStringBuilder" "coder" "B" (.int (0 : Int32))) ∧ (Fld Z h_ o "java/lang/AbstractStringBuilder" "count" "I" (.int (0 : Int32))) ∧ (Arv Z h_ y ky .byte (16 : Int32) own_z16 (.int (0 : Int32)))
set_option maxRecDepth 65536 in
set_option maxHeartbeats 40000000 in
theorem rm35 (l : Launch) (Z : State) (a0 : Array Value) (hw : ∀ d ∈ tables_1, d.before a0 Z = true) (ws : List Jvm.Cond) (o : Addr) (cs : Int32) (h0 : Heap) (n0 : Nat) (Z0 : n0 ≤ h0.size) (p_0 : Exa Z h0 o "java/lang/StringBuilder") (p_1 : Fld Z h0 o "java/lang/AbstractStringBuilder" "value" "[B" .null) (p_2 : Fld Z h0 o "java/lang/AbstractStringBuilder" "coder" "B" (.int (0 : Int32))) (p_3 : Fld Z h0 o "java/lang/AbstractStringBuilder" "count" "I" (.int (0 : Int32))) (p_4 : n0 ≤ o) (p_5 : Sta Z h0 "java/lang/String" "COMPACT_STRINGS" "Z" (.int cs)) (hcs : ¬ cs = (0 : Int32)) :
    MetFree l yy35 (head1 (Jvm.Cond.code yy35 jdk_68_method_2_code 2 none :: ws) rRrm35) (fun a_ U_ => a_ = #[(.ref o), (.int (16 : Int32))] ∧ Z.Warmed39 U_.vm ∧ U_.heap = h0) (fun _ _ _ _ _ => True) (fun _ U_ o_ U1_ => ∃ v_ L_, o_ = .returned v_ ∧ Q35 Z o cs h0 n0 v_ U1_.heap L_ ∧ FrameEnd U_ o_ U1_ L_ rRrm35.cells rRrm35.slots) := by
  refine MetFree.of_bodySF pn_rm35 hisR ?_
  intro p e s m args below meth c s₁ Bd hml0 hP hK
  obtain ⟨rfl, hZ, hh⟩ := hP
  have hx := Bd.exec
  have hby := Bd.bytes
  have hlk : meth.locks = false := Bd.notSynchronized
  have hml : c.maxLocals = 2 := hml0
  have hown : s.vm.findClass "java/lang/AbstractStringBuilder" = some m.cls := findClass_of_methodNamed Bd.named
  have hnm := (name_of_methodNamed Bd.named Bd.method).1
  have X0 : Stand p l e rRrm35 s m #[(.ref o), (.int (16 : Int32))] below meth c s₁ [] 0 0 := Stand.of_body Bd
  have e0 : s₁.heap = h0 := by rw [← hh, Bd.state]; rfl
  have N0 := Fr.nil n0
  show own_Goes p e below s (Q35 Z o cs h0 n0) rRrm35.cells rRrm35.slots s₁ (entryFrame m #[(.ref o), (.int (16 : Int32))] 2)
  rw [ef_rm35 m o]
  show own_Goes p e below s (Q35 Z o cs h0 n0) rRrm35.cells rRrm35.slots s₁ (mkF m 0 #[rv o, iv (16 : Int32)] [])
  refine own_st (fun _ kk_ => XS.aloadN X0.here hx rfl (hb hby d35_0) rfl rfl kk_) ?_
  show own_Goes _ _ _ _ _ _ _ s₁ (mkF m 1 #[rv o, iv (16 : Int32)] [(.ref o)])
  obtain ⟨T1, X1, e1, st1⟩ := initO X0 hx hZ hown (own_w hw 167 rfl) (own_w hw 22 rfl) (own_w hw 23 rfl) e0 (g := (mkF m 1 #[rv o, iv (16 : Int32)] [(.ref o)])) rfl (by rw [hml]; rfl) rfl (hb hby d35_1) (by decide) (W := 0) (by show 2 * 0 + _ ≤ _; exact Nat.le_of_eq rfl) (by decide)
  refine own_st st1 ?_
  show own_Goes _ _ _ _ _ _ _ T1 (mkF m 4 #[rv o, iv (16 : Int32)] [])
  obtain ⟨T2, X2, e2, st2⟩ := getS2 X1 hx hZ hown (host := "") (Or.inl (own_w hw 168 rfl)) Via.refl e1 p_5 (g := (mkF m 4 #[rv o, iv (16 : Int32)] [])) rfl (hb hby d35_4)
  refine own_st st2 ?_
  show own_Goes _ _ _ _ _ _ _ T2 (mkF m 7 #[rv o, iv (16 : Int32)] [(.int cs)])
  refine own_st (fun _ kk_ => XS.ifNo X2.here hx rfl (hb hby d35_7) rfl (XT.i0_eq_f hcs) (XS.aloadN X2.here hx rfl (hb hby d35_10) rfl rfl (XS.iloadN X2.here hx rfl (hb hby d35_11) rfl kk_))) ?_
  show own_Goes _ _ _ _ _ _ _ T2 (mkF m 12 #[rv o, iv (16 : Int32)] [(.int (16 : Int32)), (.ref o)])
  obtain ⟨T3, h3, k3, X3, e3, E3, A3, st3⟩ := newP X2 hx hZ (own_w hw 29 rfl) e2 (g := (mkF m 12 #[rv o, iv (16 : Int32)] [(.int (16 : Int32)), (.ref o)])) rfl (hb hby d35_12) rfl (by decide) (cap := 16) (by decide) (by decide) (by decide) (by decide)
  obtain ⟨b3, gx3⟩ : ∃ z, z = h0.size := ⟨_, rfl⟩
  rw [← gx3] at A3 st3
  have ne3_o : o ≠ b3 := Nat.ne_of_lt (Nat.lt_of_lt_of_eq p_0.lt gx3.symm)
  have gg3 : n0 ≤ b3 := Nat.le_trans Z0 (Nat.le_of_eq gx3.symm)
  have sz3 : h0.size ≤ b3 := Nat.le_trans (Keep.refl h0 [o]).1 (Nat.le_of_eq gx3.symm)
  have f3_0 := p_0.ext E3
  have f3_1 := p_1.ext E3
  have f3_2 := p_2.ext E3
  have f3_3 := p_3.ext E3
  have f3_4 := p_5.ext E3
  have Zs3 : n0 ≤ h3.size := Nat.le_trans Z0 E3.1
  have K3 := (Keep.refl h0 [o]).ext E3
  have V3 : Arv Z h3 b3 k3 .byte (16 : Int32) [(.int (0 : Int32)), (.int (0 : Int32)), (.int (0 : Int32)), (.int (0 : Int32)), (.int (0 : Int32)), (.int (0 : Int32)), (.int (0 : Int32)), (.int (0 : Int32)), (.int (0 : Int32)), (.int (0 : Int32)), (.int (0 : Int32)), (.int (0 : Int32)), (.int (0 : Int32)), (.int (0 : Int32)), (.int (0 : Int32)), (.int (0 : Int32))] (.int (0 : Int32)) := (Arv.new A3 (by decide)).pad (pad_rep [] (.int (0 : Int32)) 16)
  refine own_st st3 ?_
  show own_Goes _ _ _ _ _ _ _ T3 (mkF m 14 #[rv o, iv (16 : Int32)] [(.ref b3), (.ref o)])
  have Vz : Arv Z h3 b3 k3 .byte (16 : Int32) own_z16 (.int (0 : Int32)) := V3
  obtain ⟨T4, h4, X4, e4, W4, st4⟩ := putF X3 hx hZ hown (host := "") (Or.inl (own_w hw 169 rfl)) Via.refl e3 f3_1 f3_0 (Or.inl (own_w hw 170 rfl)) (own_w hw 156 rfl) (ty := (.array .byte)) (by decide) rfl rfl (g := (mkF m 14 #[rv o, iv (16 : Int32)] [(.ref b3), (.ref o)])) rfl rfl (hb hby d35_14)
  have fw4 : Fld Z h4 o "java/lang/AbstractStringBuilder" "value" "[B" (.ref b3) := f3_1.same W4
  have f4_0 := f3_0.wr W4
  have f4_2 := f3_2.other W4 (Or.inr (slot_ne (Or.inl (own_w hw 172 rfl)) (Or.inl (own_w hw 170 rfl)) (by decide) (t := .byte) (t' := (.array .byte)) (by decide) (by decide)))
  have f4_3 := f3_3.other W4 (Or.inr (slot_ne (Or.inl (own_w hw 185 rfl)) (Or.inl (own_w hw 170 rfl)) (by decide) (t := .int) (t' := (.array .byte)) (by decide) (by decide)))
  have f4_4 := f3_4.wr W4
  have f4_5 := Vz.other W4 (Ne.symm ne3_o)
  have Zs4 : n0 ≤ h4.size := Nat.le_trans Zs3 (Nat.le_of_eq W4.size.symm)
  have K4 := K3.wr W4 (Or.inl (List.mem_of_getElem? (i := 0) rfl))
  have N4 := Fr.snoc X4 N0 p_4
  refine own_st st4 ?_
  show own_Goes _ _ _ _ _ _ _ T4 (mkF m 17 #[rv o, iv (16 : Int32)] [])
  refine own_st (fun _ kk_ => XS.aloadN X4.here hx rfl (hb hby d35_17) rfl rfl (XS.iconst X4.here hx rfl (hb hby d35_18) kk_)) ?_
  show own_Goes _ _ _ _ _ _ _ T4 (mkF m 19 #[rv o, iv (16 : Int32)] [(.int (0 : Int32)), (.ref o)])
  obtain ⟨T5, h5, X5, e5, W5, st5⟩ := putFN X4 hx hZ hown (own_w hw 171 rfl) Via.refl e4 f4_2 f4_0 (Or.inl (own_w hw 172 rfl)) (own_w hw 156 rfl) (ty := .byte) (v' := (.int (nar .byte (0 : Int32)))) (by decide) rfl (fits_nar_byte _) (g := (mkF m 19 #[rv o, iv (16 : Int32)] [(.int (0 : Int32)), (.ref o)])) rfl rfl (hb hby d35_19)
  have fw5 : Fld Z h5 o "java/lang/AbstractStringBuilder" "coder" "B" (.int (nar .byte (0 : Int32))) := f4_2.same W5
  have f5_0 := f4_0.wr W5
  have f5_2 := f4_3.other W5 (Or.inr (slot_ne (Or.inl (own_w hw 185 rfl)) (Or.inl (own_w hw 172 rfl)) (by decide) (t := .int) (t' := .byte) (by decide) (by decide)))
  have f5_3 := f4_4.wr W5
  have f5_4 := f4_5.other W5 (Ne.symm ne3_o)
  have f5_5 := fw4.other W5 (Or.inr (slot_ne (Or.inl (own_w hw 170 rfl)) (Or.inl (own_w hw 172 rfl)) (by decide) (t := (.array .byte)) (t' := .byte) (by decide) (by decide)))
  have Zs5 : n0 ≤ h5.size := Nat.le_trans Zs4 (Nat.le_of_eq W5.size.symm)
  have K5 := K4.wr W5 (Or.inl (List.mem_of_getElem? (i := 0) rfl))
  have N5 := Fr.snoc X5 N4 p_4
  refine own_st st5 ?_
  show own_Goes _ _ _ _ _ _ _ T5 (mkF m 22 #[rv o, iv (16 : Int32)] [])
  refine own_st (fun _ kk_ => XS.goto X5.here hx rfl (pc0 := 22) (pc' := 38) rfl (hb hby d35_22) (by decide) (by decide) kk_) ?_
  show own_Goes _ _ _ _ _ _ _ T5 (mkF m 38 #[rv o, iv (16 : Int32)] [])
  refine own_ret0 X5 hx hlk Bd.returns (hb hby d35_38) (by decide) (by decide) ?_
  show Q35 Z o cs h0 n0 none T5.heap _
  rw [e5]
  exact ⟨b3, k3, rfl, N5, K5, sz3, f5_0, f5_5, fw5, f5_2, f5_4⟩
abbrev rRrm34 : Room := { frames := 2, cells := 1, slots := 16, locals := 25 }
theorem d34_0 : decode jdk_67_method_1_code 0 = .ok (.aload_n 0, 1) := by decide +kernel
theorem d34_1 : decode jdk_67_method_1_code 1 = .ok (.bipush 16, 2) := by decide +kernel
theorem d34_3 : decode jdk_67_method_1_code 3 = .ok (.invokespecial 1, 3) := by decide +kernel
theorem d34_6 : decode jdk_67_method_1_code 6 = .ok (.return_, 1) := by decide +kernel
theorem pn_rm34 : plainFor yy36 = true := by first | exact plainFor_of_name (by first | (simp [plainName, overriddenIn]; done) | decide +kernel) | decide +kernel
theorem ef_rm34 (m : MethodId) (o : Addr) : entryFrame m #[(.ref o)] 1 = (mkF m 0 #[rv o] []) := by first | (simp [entryFrame, mkF, argsToLocals, Value.category]; done) | rfl
def Q34 (Z : State) (o : Addr) (cs : Int32) (h0 : Heap) (n0 : Nat) (v_ : Option Value) (h_ : Heap) (L_ : List Loc) : Prop := ∃ y : Addr, ∃ ky : ClassId, (v_ = none) ∧ (Fr n0 L_) ∧ (Keep h0 h_ [o]) ∧ (h0.size ≤ y) ∧ (Exa Z h_ o "java/lang/StringBuilder") ∧ (Fld Z h_ o "java/lang/AbstractStringBuilder" "value" "[B" (.ref y)) ∧ (Fld Z h_ o "java/lang/AbstractStringBuilder" "coder" "B" (.int (0 : Int32))) ∧ (Fld Z h_ o "java/lang/AbstractStringBuilder" "count" "I" (.int (0 : Int32))) ∧ (Arv Z h_ y ky .byte (16 : Int32) own_z16 (.int (0 : Int32)))
set_option maxRecDepth 65536 in
set_option maxHeartbeats 40000000 in
theorem rm34 (l : Launch) (Z : State) (a0 : Array Value) (hw : ∀ d ∈ tables_1, d.before a0 Z = true) (ws : List Jvm.Cond) (o : Addr) (cs : Int32) (h0 : Heap) (n0 : Nat) (Z0 : n0 ≤ h0.size) (p_0 : Exa Z h0 o "java/lang/StringBuilder") (p_1 : Fld Z h0 o "java/lang/AbstractStringBuilder" "value" "[B" .null) (p_2 : Fld Z h0 o "java/lang/AbstractStringBuilder" "coder" "B" (.int (0 : Int32))) (p_3 : Fld Z h0 o "java/lang/AbstractStringBuilder" "count" "I" (.int (0 : Int32))) (p_4 : n0 ≤ o) (p_5 : Sta Z h0 "java/lang/String" "COMPACT_STRINGS" "Z" (.int cs)) (hcs : ¬ cs = (0 : Int32)) :
    MetFree l yy36 (head1 (Jvm.Cond.code yy36 jdk_67_method_1_code 1 none :: ws) rRrm34) (fun a_ U_ => a_ = #[(.ref o)] ∧ Z.Warmed39 U_.vm ∧ U_.heap = h0) (fun _ _ _ _ _ => True) (fun _ U_ o_ U1_ => ∃ v_ L_, o_ = .returned v_ ∧ Q34 Z o cs h0 n0 v_ U1_.heap L_ ∧ FrameEnd U_ o_ U1_ L_ rRrm34.cells rRrm34.slots) := by
  refine MetFree.of_bodySF pn_rm34 hisR ?_
  intro p e s m args below meth c s₁ Bd hml0 hP hK
  obtain ⟨rfl, hZ, hh⟩ := hP
  have hx := Bd.exec
  have hby := Bd.bytes
  have hlk : meth.locks = false := Bd.notSynchronized
  have hml : c.maxLocals = 1 := hml0
  have hown : s.vm.findClass "java/lang/StringBuilder" = some m.cls := findClass_of_methodNamed Bd.named
  have hnm := (name_of_methodNamed Bd.named Bd.method).1
  have X0 : Stand p l e rRrm34 s m #[(.ref o)] below meth c s₁ [] 0 0 := Stand.of_body Bd
  have e0 : s₁.heap = h0 := by rw [← hh, Bd.state]; rfl
  have N0 := Fr.nil n0
  show own_Goes p e below s (Q34 Z o cs h0 n0) rRrm34.cells rRrm34.slots s₁ (entryFrame m #[(.ref o)] 1)
  rw [ef_rm34 m o]
  show own_Goes p e below s (Q34 Z o cs h0 n0) rRrm34.cells rRrm34.slots s₁ (mkF m 0 #[rv o] [])
  refine own_st (fun _ kk_ => XS.aloadN X0.here hx rfl (hb hby d34_0) rfl rfl (XS.bipush X0.here hx rfl (hb hby d34_1) kk_)) ?_
  show own_Goes _ _ _ _ _ _ _ s₁ (mkF m 3 #[rv o] [(.int (16 : Int32)), (.ref o)])
  obtain ⟨_, _, ⟨T1, L1, k1, n1⟩, -, X1, ⟨Lc1, hQ1, l1, y1, z1⟩, st1⟩ := X0.specialBack hx (y := yy35) rfl hown (mvT hZ (own_w hw 161 rfl)) (mvT hZ (own_w hw 162 rfl)) (mvT hZ (own_w hw 166 rfl)) (by decide) (backOf (W := 0) (rm35 l Z a0 hw [] (o) (cs) h0 n0 Z0 p_0 p_1 p_2 p_3 p_4 p_5 (by assumption)) hZ (own_w hw 166 rfl) (own_w hw 165 rfl) (by decide) (by decide)) (g := (mkF m 3 #[rv o] [(.int (16 : Int32)), (.ref o)])) rfl (by rw [hml]; rfl) (Steps.refl _) (a := o) (argsL := [(.int (16 : Int32))]) (rest := []) (lenOf pd_16 rfl) rfl (by show 2 * 0 + _ ≤ _; exact Nat.le_of_eq rfl) (hb hby d34_3) (fun _ _ => ⟨rfl, e0, (by decide : 0 + 1 ≤ _), (by decide : 0 + 16 ≤ _)⟩)
  dsimp only [Pt.U, Pt.locs, Pt.cells, Pt.slots] at X1 l1 y1 z1 st1 hQ1
  subst l1 y1 z1
  obtain ⟨x1_y, x1_ky, rfl, Nq1, Kq1, u1_0, u1_1, u1_2, u1_3, u1_4, u1_5⟩ := hQ1
  have N1 := Fr.app N0 Nq1
  have f1_0 := p_0.keep Kq1
  have f1_4 := own_Sta_keep p_5 Kq1 (nsS p_0.nostat ns0)
  have Zs1 : n0 ≤ T1.heap.size := Nat.le_trans Z0 Kq1.1
  have K1 := (Keep.refl h0 [o]).trans Kq1 (allS (Or.inl (List.mem_of_getElem? (i := 0) rfl)) all0)
  have ne1_o : o ≠ x1_y := Nat.ne_of_lt (Nat.lt_of_lt_of_le p_0.lt u1_0)
  have sz1_y : h0.size ≤ x1_y := Nat.le_trans (Keep.refl h0 [o]).1 u1_0
  have gg1_y : n0 ≤ x1_y := Nat.le_trans Z0 u1_0
  refine own_st (fun _ kk_ => st1.trans kk_) ?_
  show own_Goes _ _ _ _ _ _ _ T1 (mkF m 6 #[rv o] [])
  refine own_ret0 X1 hx hlk Bd.returns (hb hby d34_6) (by decide) (by decide) ?_
  show Q34 Z o cs h0 n0 none T1.heap _
  exact ⟨x1_y, x1_ky, rfl, N1, K1, u1_0, u1_1, u1_2, u1_3, u1_4, u1_5⟩
def own_cn (c : Int32) : Prop := 0 < c.toInt ∧ c.toInt ≤ 7
theorem own_cn.a {c : Int32} (h : own_cn c) : ¬ c < 0 := by unfold own_cn at h; simp only [Int32.lt_iff_toInt_lt, Int32.reduceToInt]; omega
theorem own_cn.b {c : Int32} (h : own_cn c) : c.toNatClampNeg ≤ 7 := by unfold own_cn at h; simp only [Int32.toNatClampNeg]; omega
theorem own_cn.c {c : Int32} (h : own_cn c) : ¬ c = (16 : Int32) := by unfold own_cn at h; rw [← Int32.toInt_inj]; simp only [Int32.reduceToInt]; omega
theorem own_cn.d {c : Int32} (h : own_cn c) : c < (16 : Int32) := by unfold own_cn at h; simp only [Int32.lt_iff_toInt_lt, Int32.reduceToInt]; omega
theorem own_cn.e {c : Int32} (h : own_cn c) : (0 : Int32).toNatClampNeg + c.toNatClampNeg ≤ (16 : Int32).toNatClampNeg := by have := h.b; show 0 + c.toNatClampNeg ≤ 16; omega
theorem own_cn.f {c : Int32} (_ : own_cn c) : (0 : Int32).toNatClampNeg + c.toNatClampNeg ≤ c.toNatClampNeg := by simp
theorem own_cn.g {c : Int32} (h : own_cn c) : (0 : Int32).toNatClampNeg + c.toNatClampNeg ≤ own_z7.length := by have := h.b; show 0 + c.toNatClampNeg ≤ 7; omega
theorem own_sub0 (z : Int32) : z - (0 : Int32) = z := by have q := c_isub z 0; have := z.le_toInt; have := z.toInt_lt; have := (z - 0).le_toInt; have := (z - 0).toInt_lt; simp only [Int32.reduceToInt] at q; refine Int32.toInt_inj.mp ?_; omega
abbrev rRrm54 : Room := { frames := 0, cells := 0, slots := 0, locals := 0 }
theorem d54_0 : decode jdk_65_method_131_code 0 = .ok (.iload_n 1, 1) := by decide +kernel
theorem d54_1 : decode jdk_65_method_131_code 1 = .ok (.iload_n 0, 1) := by decide +kernel
theorem d54_2 : decode jdk_65_method_131_code 2 = .ok (.if_icmp .ge 35, 3) := by decide +kernel
theorem d54_37 : decode jdk_65_method_131_code 37 = .ok (.return_, 1) := by decide +kernel
theorem pn_rm54 : plainFor yy37 = true := by first | exact plainFor_of_name (by first | (simp [plainName, overriddenIn]; done) | decide +kernel) | decide +kernel
theorem ef_rm54 (m : MethodId) (cn : Int32) : entryFrame m #[(.int (0 : Int32)), (.int cn)] 2 = (mkF m 0 #[iv (0 : Int32), iv cn] []) := by first | (simp [entryFrame, mkF, argsToLocals, Value.category]; done) | rfl
def Q54 (Z : State) (cn : Int32) (h0 : Heap) (n0 : Nat) (v_ : Option Value) (h_ : Heap) (L_ : List Loc) : Prop := (v_ = none) ∧ (Fr n0 L_) ∧ (h_ = h0)
set_option maxRecDepth 65536 in
set_option maxHeartbeats 40000000 in
theorem rm54 (l : Launch) (Z : State) (a0 : Array Value) (hw : ∀ d ∈ tables_1, d.before a0 Z = true) (ws : List Jvm.Cond) (cn : Int32) (h0 : Heap) (n0 : Nat) (Z0 : n0 ≤ h0.size) (hq : own_cn cn) :
    MetFree l yy37 (head1 (Jvm.Cond.code yy37 jdk_65_method_131_code 2 none :: ws) rRrm54) (fun a_ U_ => a_ = #[(.int (0 : Int32)), (.int cn)] ∧ Z.Warmed39 U_.vm ∧ U_.heap = h0) (fun _ _ _ _ _ => True) (fun _ U_ o_ U1_ => ∃ v_ L_, o_ = .returned v_ ∧ Q54 Z cn h0 n0 v_ U1_.heap L_ ∧ FrameEnd U_ o_ U1_ L_ rRrm54.cells rRrm54.slots) := by
  refine MetFree.of_bodySF pn_rm54 hisR ?_
  intro p e s m args below meth c s₁ Bd hml0 hP hK
  obtain ⟨rfl, hZ, hh⟩ := hP
  have hx := Bd.exec
  have hby := Bd.bytes
  have hlk : meth.locks = false := Bd.notSynchronized
  have hml : c.maxLocals = 2 := hml0
  have hown : s.vm.findClass "java/util/Arrays" = some m.cls := findClass_of_methodNamed Bd.named
  have hnm := (name_of_methodNamed Bd.named Bd.method).1
  have X0 : Stand p l e rRrm54 s m #[(.int (0 : Int32)), (.int cn)] below meth c s₁ [] 0 0 := Stand.of_body Bd
  have e0 : s₁.heap = h0 := by rw [← hh, Bd.state]; rfl
  have N0 := Fr.nil n0
  show own_Goes p e below s (Q54 Z cn h0 n0) rRrm54.cells rRrm54.slots s₁ (entryFrame m #[(.int (0 : Int32)), (.int cn)] 2)
  rw [ef_rm54 m cn]
  show own_Goes p e below s (Q54 Z cn h0 n0) rRrm54.cells rRrm54.slots s₁ (mkF m 0 #[iv (0 : Int32), iv cn] [])
  refine own_st (fun _ kk_ => XS.iloadN X0.here hx rfl (hb hby d54_0) rfl (XS.iloadN X0.here hx rfl (hb hby d54_1) rfl (XS.icmpYes X0.here hx rfl (pc0 := 2) (pc' := 37) rfl (hb hby d54_2) rfl (XT.ii_ge_t hq.a) (by decide) (by decide) kk_))) ?_
  show own_Goes _ _ _ _ _ _ _ s₁ (mkF m 37 #[iv (0 : Int32), iv cn] [])
  refine own_ret0 X0 hx hlk Bd.returns (hb hby d54_37) (by decide) (by decide) ?_
  show Q54 Z cn h0 n0 none s₁.heap _
  rw [e0]
  exact ⟨rfl, N0, rfl⟩
abbrev rRrm53 : Room := { frames := 1, cells := 1, slots := 7, locals := 18 }
theorem d53_0 : decode jdk_65_method_133_code 0 = .ok (.iload_n 1, 1) := by decide +kernel
theorem d53_1 : decode jdk_65_method_133_code 1 = .ok (.iload_n 2, 1) := by decide +kernel
theorem d53_2 : decode jdk_65_method_133_code 2 = .ok (.invokestatic 343, 3) := by decide +kernel
theorem d53_5 : decode jdk_65_method_133_code 5 = .ok (.iload_n 2, 1) := by decide +kernel
theorem d53_6 : decode jdk_65_method_133_code 6 = .ok (.iload_n 1, 1) := by decide +kernel
theorem d53_7 : decode jdk_65_method_133_code 7 = .ok (.isub, 1) := by decide +kernel
theorem d53_8 : decode jdk_65_method_133_code 8 = .ok (.istore_n 3, 1) := by decide +kernel
theorem d53_9 : decode jdk_65_method_133_code 9 = .ok (.iload_n 3, 1) := by decide +kernel
theorem d53_10 : decode jdk_65_method_133_code 10 = .ok (.newarray .byte, 2) := by decide +kernel
theorem d53_12 : decode jdk_65_method_133_code 12 = .ok (.astore 4, 2) := by decide +kernel
theorem d53_14 : decode jdk_65_method_133_code 14 = .ok (.aload_n 0, 1) := by decide +kernel
theorem d53_15 : decode jdk_65_method_133_code 15 = .ok (.iload_n 1, 1) := by decide +kernel
theorem d53_16 : decode jdk_65_method_133_code 16 = .ok (.aload 4, 2) := by decide +kernel
theorem d53_18 : decode jdk_65_method_133_code 18 = .ok (.iconst 0, 1) := by decide +kernel
theorem d53_19 : decode jdk_65_method_133_code 19 = .ok (.aload_n 0, 1) := by decide +kernel
theorem d53_20 : decode jdk_65_method_133_code 20 = .ok (.arraylength, 1) := by decide +kernel
theorem d53_21 : decode jdk_65_method_133_code 21 = .ok (.iload_n 1, 1) := by decide +kernel
theorem d53_22 : decode jdk_65_method_133_code 22 = .ok (.isub, 1) := by decide +kernel
theorem d53_23 : decode jdk_65_method_133_code 23 = .ok (.iload_n 3, 1) := by decide +kernel
theorem d53_24 : decode jdk_65_method_133_code 24 = .ok (.invokestatic 304, 3) := by decide +kernel
theorem d53_27 : decode jdk_65_method_133_code 27 = .ok (.invokestatic 150, 3) := by decide +kernel
theorem d53_30 : decode jdk_65_method_133_code 30 = .ok (.aload 4, 2) := by decide +kernel
theorem d53_32 : decode jdk_65_method_133_code 32 = .ok (.areturn, 1) := by decide +kernel
theorem pd_21 : parseMethodDescriptor "(II)V" = some ⟨[.int, .int], none⟩ := by decide +kernel
theorem pn_rm53 : plainFor yy38 = true := by first | exact plainFor_of_name (by first | (simp [plainName, overriddenIn]; done) | decide +kernel) | decide +kernel
theorem ef_rm53 (m : MethodId) (d : Addr) (cn : Int32) : entryFrame m #[(.ref d), (.int (0 : Int32)), (.int cn)] 5 = (mkF m 0 #[rv d, iv (0 : Int32), iv cn, .unset, .unset] []) := by first | (simp [entryFrame, mkF, argsToLocals, Value.category]; done) | rfl
def Q53 (Z : State) (d : Addr) (cn : Int32) (kd : ClassId) (vs1 : List Value) (h0 : Heap) (n0 : Nat) (v_ : Option Value) (h_ : Heap) (L_ : List Loc) : Prop := ∃ y : Addr, ∃ ky : ClassId, (v_ = some (.ref y)) ∧ (Fr n0 L_) ∧ (Keep h0 h_ []) ∧ (h0.size ≤ y) ∧ (Arv Z h_ y ky .byte cn (own_cp vs1 own_z7 (0 : Int32) (0 : Int32) cn (.int (0 : Int32))) (.int (0 : Int32)))
set_option maxRecDepth 65536 in
set_option maxHeartbeats 40000000 in
theorem rm53 (l : Launch) (Z : State) (a0 : Array Value) (hw : ∀ d ∈ tables_1, d.before a0 Z = true) (ws : List Jvm.Cond) (d : Addr) (cn : Int32) (kd : ClassId) (vs1 : List Value) (h0 : Heap) (n0 : Nat) (Z0 : n0 ≤ h0.size) (p_0 : Arv Z h0 d kd .byte (16 : Int32) vs1 (.int (0 : Int32))) (hq : own_cn cn) :
    MetFree l yy38 (head1 (Jvm.Cond.code yy38 jdk_65_method_133_code 5 (some (.array .byte)) :: ws) rRrm53) (fun a_ U_ => a_ = #[(.ref d), (.int (0 : Int32)), (.int cn)] ∧ Z.Warmed39 U_.vm ∧ U_.heap = h0) (fun _ _ _ _ _ => True) (fun _ U_ o_ U1_ => ∃ v_ L_, o_ = .returned v_ ∧ Q53 Z d cn kd vs1 h0 n0 v_ U1_.heap L_ ∧ FrameEnd U_ o_ U1_ L_ rRrm53.cells rRrm53.slots) := by
  refine MetFree.of_bodySF pn_rm53 hisR ?_
  intro p e s m args below meth c s₁ Bd hml0 hP hK
  obtain ⟨rfl, hZ, hh⟩ := hP
  have hx := Bd.exec
  have hby := Bd.bytes
  have hlk : meth.locks = false := Bd.notSynchronized
  have hml : c.maxLocals = 5 := hml0
  have hown : s.vm.findClass "java/util/Arrays" = some m.cls := findClass_of_methodNamed Bd.named
  have hnm := (name_of_methodNamed Bd.named Bd.method).1
  have X0 : Stand p l e rRrm53 s m #[(.ref d), (.int (0 : Int32)), (.int cn)] below meth c s₁ [] 0 0 := Stand.of_body Bd
  have e0 : s₁.heap = h0 := by rw [← hh, Bd.state]; rfl
  have N0 := Fr.nil n0
  show own_Goes p e below s (Q53 Z d cn kd vs1 h0 n0) rRrm53.cells rRrm53.slots s₁ (entryFrame m #[(.ref d), (.int (0 : Int32)), (.int cn)] 5)
  rw [ef_rm53 m d cn]
  show own_Goes p e below s (Q53 Z d cn kd vs1 h0 n0) rRrm53.cells rRrm53.slots s₁ (mkF m 0 #[rv d, iv (0 : Int32), iv cn, .unset, .unset] [])
  refine own_st (fun _ kk_ => XS.iloadN X0.here hx rfl (hb hby d53_0) rfl (XS.iloadN X0.here hx rfl (hb hby d53_1) rfl kk_)) ?_
  show own_Goes _ _ _ _ _ _ _ s₁ (mkF m 2 #[rv d, iv (0 : Int32), iv cn, .unset, .unset] [(.int cn), (.int (0 : Int32))])
  obtain ⟨_, _, ⟨T1, L1, k1, n1⟩, -, X1, ⟨Lc1, hQ1, l1, y1, z1⟩, st1⟩ := Jvm.LawKit.callS X0 hx (y := yy37) hown (mvT hZ (own_w hw 261 rfl)) (mvT hZ (own_w hw 262 rfl)) (mvT hZ (own_w hw 256 rfl)) (mvT hZ (own_w hw 263 rfl)) (by decide) (backOf (W := 0) (rm54 l Z a0 hw [] (cn) h0 n0 Z0 hq) hZ (own_w hw 263 rfl) (own_w hw 256 rfl) (by decide) (by decide)) (g := (mkF m 2 #[rv d, iv (0 : Int32), iv cn, .unset, .unset] [(.int cn), (.int (0 : Int32))])) rfl (by rw [hml]; rfl) (argsL := [(.int (0 : Int32)), (.int cn)]) (rest := []) (lenOf pd_21 rfl) rfl (by show 2 * 0 + _ ≤ _; exact Nat.le_of_eq rfl) (hb hby d53_2) (fun _ _ => ⟨rfl, e0, (by decide : 0 + 0 ≤ _), (by decide : 0 + 0 ≤ _)⟩)
  dsimp only [Pt.U, Pt.locs, Pt.cells, Pt.slots] at X1 l1 y1 z1 st1 hQ1
  subst l1 y1 z1
  obtain ⟨rfl, Nq1, eq1⟩ := hQ1
  have N1 := Fr.app N0 Nq1
  refine own_st st1 ?_
  show own_Goes _ _ _ _ _ _ _ T1 (mkF m 5 #[rv d, iv (0 : Int32), iv cn, .unset, .unset] [])
  refine own_st (fun _ kk_ => XS.iloadN X1.here hx rfl (hb hby d53_5) rfl (XS.iloadN X1.here hx rfl (hb hby d53_6) rfl (XS.isub X1.here hx rfl (hb hby d53_7) rfl kk_))) ?_
  show own_Goes _ _ _ _ _ _ _ T1 (mkF m 8 #[rv d, iv (0 : Int32), iv cn, .unset, .unset] [(.int (cn - (0 : Int32)))])
  rw [own_sub0]
  show own_Goes _ _ _ _ _ _ _ T1 (mkF m 8 #[rv d, iv (0 : Int32), iv cn, .unset, .unset] [(.int cn)])
  refine own_st (fun _ kk_ => XS.istoreN X1.here hx rfl (hb hby d53_8) rfl (l' := #[rv d, iv (0 : Int32), iv cn, iv cn, .unset]) rfl (XS.iloadN X1.here hx rfl (hb hby d53_9) rfl kk_)) ?_
  show own_Goes _ _ _ _ _ _ _ T1 (mkF m 10 #[rv d, iv (0 : Int32), iv cn, iv cn, .unset] [(.int cn)])
  obtain ⟨T2, h2, k2, X2, e2, E2, A2, st2⟩ := newP X1 hx hZ (own_w hw 29 rfl) eq1 (g := (mkF m 10 #[rv d, iv (0 : Int32), iv cn, iv cn, .unset] [(.int cn)])) rfl (hb hby d53_10) rfl hq.a (cap := 7) hq.b (by decide) (by decide) (by decide)
  obtain ⟨b2, gx2⟩ : ∃ z, z = h0.size := ⟨_, rfl⟩
  rw [← gx2] at A2 st2
  have ne2_d : d ≠ b2 := Nat.ne_of_lt (Nat.lt_of_lt_of_eq p_0.lt gx2.symm)
  have gg2 : n0 ≤ b2 := Nat.le_trans Z0 (Nat.le_of_eq gx2.symm)
  have sz2 : h0.size ≤ b2 := Nat.le_trans (Keep.refl h0 []).1 (Nat.le_of_eq gx2.symm)
  have f2_0 := p_0.ext E2
  have Zs2 : n0 ≤ h2.size := Nat.le_trans Z0 E2.1
  have K2 := (Keep.refl h0 []).ext E2
  have V2 : Arv Z h2 b2 k2 .byte cn [(.int (0 : Int32)), (.int (0 : Int32)), (.int (0 : Int32)), (.int (0 : Int32)), (.int (0 : Int32)), (.int (0 : Int32)), (.int (0 : Int32))] (.int (0 : Int32)) := (Arv.new A2 hq.a).pad (pad_rep [] (.int (0 : Int32)) 7)
  refine own_st st2 ?_
  show own_Goes _ _ _ _ _ _ _ T2 (mkF m 12 #[rv d, iv (0 : Int32), iv cn, iv cn, .unset] [(.ref b2)])
  have Vz : Arv Z h2 b2 k2 .byte cn own_z7 (.int (0 : Int32)) := V2
  refine own_st (fun _ kk_ => XS.astore X2.here hx rfl (hb hby d53_12) rfl rfl (l' := #[rv d, iv (0 : Int32), iv cn, iv cn, rv b2]) rfl (XS.aloadN X2.here hx rfl (hb hby d53_14) rfl rfl (XS.iloadN X2.here hx rfl (hb hby d53_15) rfl (XS.aload X2.here hx rfl (hb hby d53_16) rfl rfl (XS.iconst X2.here hx rfl (hb hby d53_18) (XS.aloadN X2.here hx rfl (hb hby d53_19) rfl rfl kk_)))))) ?_
  show own_Goes _ _ _ _ _ _ _ T2 (mkF m 20 #[rv d, iv (0 : Int32), iv cn, iv cn, rv b2] [(.ref d), (.int (0 : Int32)), (.ref b2), (.int (0 : Int32)), (.ref d)])
  obtain ⟨cl3, Ar3, -, Sz3, Nn3, -, -⟩ := id f2_0
  refine own_st (fun _ kk_ => X2.arraylength hx (by rw [e2]; exact Ar3.1) (State.isArrayOf_alike hZ.alike Ar3.2.1) (g := (mkF m 20 #[rv d, iv (0 : Int32), iv cn, iv cn, rv b2] [(.ref d), (.int (0 : Int32)), (.ref b2), (.int (0 : Int32)), (.ref d)])) rfl rfl (hb hby d53_20) _ kk_) ?_
  rw [len_of Sz3 Nn3]
  show own_Goes _ _ _ _ _ _ _ T2 (mkF m 21 #[rv d, iv (0 : Int32), iv cn, iv cn, rv b2] [(.int (16 : Int32)), (.int (0 : Int32)), (.ref b2), (.int (0 : Int32)), (.ref d)])
  refine own_st (fun _ kk_ => XS.iloadN X2.here hx rfl (hb hby d53_21) rfl (XS.isub X2.here hx rfl (hb hby d53_22) rfl (XS.iloadN X2.here hx rfl (hb hby d53_23) rfl kk_))) ?_
  show own_Goes _ _ _ _ _ _ _ T2 (mkF m 24 #[rv d, iv (0 : Int32), iv cn, iv cn, rv b2] [(.int cn), (.int (16 : Int32)), (.int (0 : Int32)), (.ref b2), (.int (0 : Int32)), (.ref d)])
  obtain ⟨_, _, ⟨T4, L4, k4, n4⟩, -, X4, ⟨Lc4, hQ4, l4, y4, z4⟩, st4⟩ := Jvm.LawKit.callS X2 hx (y := yy8) hown (mvT hZ (own_w hw 264 rfl)) (mvT hZ (own_w hw 140 rfl)) (mvT hZ (own_w hw 137 rfl)) (mvT hZ (own_w hw 141 rfl)) (by decide) (backOf (W := 4) (rmnB l Z a0 hw [] ((16 : Int32)) (cn) h2 n0 Zs2 hq.d) hZ (own_w hw 141 rfl) (own_w hw 137 rfl) (by decide) (by decide)) (g := (mkF m 24 #[rv d, iv (0 : Int32), iv cn, iv cn, rv b2] [(.int cn), (.int (16 : Int32)), (.int (0 : Int32)), (.ref b2), (.int (0 : Int32)), (.ref d)])) rfl (by rw [hml]; rfl) (argsL := [(.int (16 : Int32)), (.int cn)]) (rest := [(.int (0 : Int32)), (.ref b2), (.int (0 : Int32)), (.ref d)]) (lenOf pd_8 rfl) rfl (by show 2 * 0 + _ ≤ _; exact Nat.le_of_eq rfl) (hb hby d53_24) (fun _ _ => ⟨rfl, e2, (by decide : 1 + 0 ≤ _), (by decide : 7 + 0 ≤ _)⟩)
  dsimp only [Pt.U, Pt.locs, Pt.cells, Pt.slots] at X4 l4 y4 z4 st4 hQ4
  subst l4 y4 z4
  obtain ⟨rfl, Nq4, eq4⟩ := hQ4
  have N4 := Fr.app N1 Nq4
  refine own_st st4 ?_
  show own_Goes _ _ _ _ _ _ _ T4 (mkF m 27 #[rv d, iv (0 : Int32), iv cn, iv cn, rv b2] [(.int cn), (.int (0 : Int32)), (.ref b2), (.int (0 : Int32)), (.ref d)])
  obtain ⟨T5, h5, L5, X5, e5, N5, Kp5, A5, st5⟩ := cpA X4 hx hZ hown (own_w hw 265 rfl) (own_w hw 210 rfl) (own_w hw 208 rfl) (own_w hw 209 rfl) eq4 f2_0 Vz (Or.inl ⟨rfl, rfl⟩) (by decide) (by decide) hq.a hq.e hq.f rfl hq.g N4 gg2 (g := (mkF m 27 #[rv d, iv (0 : Int32), iv cn, iv cn, rv b2] [(.int cn), (.int (0 : Int32)), (.ref b2), (.int (0 : Int32)), (.ref d)])) rfl (by rw [hml]; rfl) (rest := []) rfl (hb hby d53_27) (by decide) (W := 0) (by show 2 * 0 + _ ≤ _; exact Nat.le_of_eq rfl) (by decide)
  have f5_0 := f2_0.keep Kp5 (ninS ne2_d nin0)
  have Zs5 : n0 ≤ h5.size := Nat.le_trans Zs2 Kp5.1
  have K5 := K2.trans Kp5 (allS (Or.inr sz2) all0)
  have V5 : Arv Z h5 b2 k2 .byte cn (own_cp vs1 own_z7 (0 : Int32) (0 : Int32) cn (.int (0 : Int32))) (.int (0 : Int32)) := A5
  refine own_st st5 ?_
  show own_Goes _ _ _ _ _ _ _ T5 (mkF m 30 #[rv d, iv (0 : Int32), iv cn, iv cn, rv b2] [])
  refine own_st (fun _ kk_ => XS.aload X5.here hx rfl (hb hby d53_30) rfl rfl kk_) ?_
  show own_Goes _ _ _ _ _ _ _ T5 (mkF m 32 #[rv d, iv (0 : Int32), iv cn, iv cn, rv b2] [(.ref b2)])
  refine own_retA X5 hx hlk rfl Bd.returns rfl (hb hby d53_32) (by decide) (by decide) ?_
  show Q53 Z d cn kd vs1 h0 n0 (some (.ref b2)) T5.heap _
  rw [e5]
  exact ⟨b2, k2, rfl, N5, K5, sz2, V5⟩
abbrev rRrm52 : Room := { frames := 2, cells := 1, slots := 7, locals := 34 }
theorem d52_0 : decode jdk_65_method_132_code 0 = .ok (.iload_n 1, 1) := by decide +kernel
theorem d52_1 : decode jdk_65_method_132_code 1 = .ok (.ifCond .ne 9, 3) := by decide +kernel
theorem d52_4 : decode jdk_65_method_132_code 4 = .ok (.iload_n 2, 1) := by decide +kernel
theorem d52_5 : decode jdk_65_method_132_code 5 = .ok (.aload_n 0, 1) := by decide +kernel
theorem d52_6 : decode jdk_65_method_132_code 6 = .ok (.arraylength, 1) := by decide +kernel
theorem d52_7 : decode jdk_65_method_132_code 7 = .ok (.if_icmp .eq 10, 3) := by decide +kernel
theorem d52_10 : decode jdk_65_method_132_code 10 = .ok (.aload_n 0, 1) := by decide +kernel
theorem d52_11 : decode jdk_65_method_132_code 11 = .ok (.iload_n 1, 1) := by decide +kernel
theorem d52_12 : decode jdk_65_method_132_code 12 = .ok (.iload_n 2, 1) := by decide +kernel
theorem d52_13 : decode jdk_65_method_132_code 13 = .ok (.invokestatic 339, 3) := by decide +kernel
theorem d52_16 : decode jdk_65_method_132_code 16 = .ok (.areturn, 1) := by decide +kernel
theorem pd_22 : parseMethodDescriptor "([BII)[B" = some ⟨[(.array .byte), .int, .int], some (.array .byte)⟩ := by decide +kernel
theorem pn_rm52 : plainFor yy39 = true := by first | exact plainFor_of_name (by first | (simp [plainName, overriddenIn]; done) | decide +kernel) | decide +kernel
theorem ef_rm52 (m : MethodId) (d : Addr) (cn : Int32) : entryFrame m #[(.ref d), (.int (0 : Int32)), (.int cn)] 3 = (mkF m 0 #[rv d, iv (0 : Int32), iv cn] []) := by first | (simp [entryFrame, mkF, argsToLocals, Value.category]; done) | rfl
def Q52 (Z : State) (d : Addr) (cn : Int32) (kd : ClassId) (vs1 : List Value) (h0 : Heap) (n0 : Nat) (v_ : Option Value) (h_ : Heap) (L_ : List Loc) : Prop := ∃ y : Addr, ∃ ky : ClassId, (v_ = some (.ref y)) ∧ (Fr n0 L_) ∧ (Keep h0 h_ []) ∧ (h0.size ≤ y) ∧ (Arv Z h_ y ky .byte cn (own_cp vs1 own_z7 (0 : Int32) (0 : Int32) cn (.int (0 : Int32))) (.int (0 : Int32)))
set_option maxRecDepth 65536 in
set_option maxHeartbeats 40000000 in
theorem rm52 (l : Launch) (Z : State) (a0 : Array Value) (hw : ∀ d ∈ tables_1, d.before a0 Z = true) (ws : List Jvm.Cond) (d : Addr) (cn : Int32) (kd : ClassId) (vs1 : List Value) (h0 : Heap) (n0 : Nat) (Z0 : n0 ≤ h0.size) (p_0 : Arv Z h0 d kd .byte (16 : Int32) vs1 (.int (0 : Int32))) (hq : own_cn cn) :
    MetFree l yy39 (head1 (Jvm.Cond.code yy39 jdk_65_method_132_code 3 (some (.array .byte)) :: ws) rRrm52) (fun a_ U_ => a_ = #[(.ref d), (.int (0 : Int32)), (.int cn)] ∧ Z.Warmed39 U_.vm ∧ U_.heap = h0) (fun _ _ _ _ _ => True) (fun _ U_ o_ U1_ => ∃ v_ L_, o_ = .returned v_ ∧ Q52 Z d cn kd vs1 h0 n0 v_ U1_.heap L_ ∧ FrameEnd U_ o_ U1_ L_ rRrm52.cells rRrm52.slots) := by
  refine MetFree.of_bodySF pn_rm52 hisR ?_
  intro p e s m args below meth c s₁ Bd hml0 hP hK
  obtain ⟨rfl, hZ, hh⟩ := hP
  have hx := Bd.exec
  have hby := Bd.bytes
  have hlk : meth.locks = false := Bd.notSynchronized
  have hml : c.maxLocals = 3 := hml0
  have hown : s.vm.findClass "java/util/Arrays" = some m.cls := findClass_of_methodNamed Bd.named
  have hnm := (name_of_methodNamed Bd.named Bd.method).1
  have X0 : Stand p l e rRrm52 s m #[(.ref d), (.int (0 : Int32)), (.int cn)] below meth c s₁ [] 0 0 := Stand.of_body Bd
  have e0 : s₁.heap = h0 := by rw [← hh, Bd.state]; rfl
  have N0 := Fr.nil n0
  show own_Goes p e below s (Q52 Z d cn kd vs1 h0 n0) rRrm52.cells rRrm52.slots s₁ (entryFrame m #[(.ref d), (.int (0 : Int32)), (.int cn)] 3)
  rw [ef_rm52 m d cn]
  show own_Goes p e below s (Q52 Z d cn kd vs1 h0 n0) rRrm52.cells rRrm52.slots s₁ (mkF m 0 #[rv d, iv (0 : Int32), iv cn] [])
  refine own_st (fun _ kk_ => XS.iloadN X0.here hx rfl (hb hby d52_0) rfl (XS.ifNo X0.here hx rfl (hb hby d52_1) rfl (XT.i0_ne_f (by decide)) (XS.iloadN X0.here hx rfl (hb hby d52_4) rfl (XS.aloadN X0.here hx rfl (hb hby d52_5) rfl rfl kk_)))) ?_
  show own_Goes _ _ _ _ _ _ _ s₁ (mkF m 6 #[rv d, iv (0 : Int32), iv cn] [(.ref d), (.int cn)])
  obtain ⟨cl1, Ar1, -, Sz1, Nn1, -, -⟩ := id p_0
  refine own_st (fun _ kk_ => X0.arraylength hx (by rw [e0]; exact Ar1.1) (State.isArrayOf_alike hZ.alike Ar1.2.1) (g := (mkF m 6 #[rv d, iv (0 : Int32), iv cn] [(.ref d), (.int cn)])) rfl rfl (hb hby d52_6) _ kk_) ?_
  rw [len_of Sz1 Nn1]
  show own_Goes _ _ _ _ _ _ _ s₁ (mkF m 7 #[rv d, iv (0 : Int32), iv cn] [(.int (16 : Int32)), (.int cn)])
  refine own_st (fun _ kk_ => XS.icmpNo X0.here hx rfl (hb hby d52_7) rfl (XT.ii_eq_f hq.c) (XS.aloadN X0.here hx rfl (hb hby d52_10) rfl rfl (XS.iloadN X0.here hx rfl (hb hby d52_11) rfl (XS.iloadN X0.here hx rfl (hb hby d52_12) rfl kk_)))) ?_
  show own_Goes _ _ _ _ _ _ _ s₁ (mkF m 13 #[rv d, iv (0 : Int32), iv cn] [(.int cn), (.int (0 : Int32)), (.ref d)])
  obtain ⟨_, _, ⟨T2, L2, k2, n2⟩, -, X2, ⟨Lc2, hQ2, l2, y2, z2⟩, st2⟩ := Jvm.LawKit.callS X0 hx (y := yy38) hown (mvT hZ (own_w hw 258 rfl)) (mvT hZ (own_w hw 259 rfl)) (mvT hZ (own_w hw 256 rfl)) (mvT hZ (own_w hw 260 rfl)) (by decide) (backOf (W := 0) (rm53 l Z a0 hw [] (d) (cn) (kd) (vs1) h0 n0 Z0 p_0 hq) hZ (own_w hw 260 rfl) (own_w hw 256 rfl) (by decide) (by decide)) (g := (mkF m 13 #[rv d, iv (0 : Int32), iv cn] [(.int cn), (.int (0 : Int32)), (.ref d)])) rfl (by rw [hml]; rfl) (argsL := [(.ref d), (.int (0 : Int32)), (.int cn)]) (rest := []) (lenOf pd_22 rfl) rfl (by show 2 * 0 + _ ≤ _; exact Nat.le_of_eq rfl) (hb hby d52_13) (fun _ _ => ⟨rfl, e0, (by decide : 0 + 1 ≤ _), (by decide : 0 + 7 ≤ _)⟩)
  dsimp only [Pt.U, Pt.locs, Pt.cells, Pt.slots] at X2 l2 y2 z2 st2 hQ2
  subst l2 y2 z2
  obtain ⟨x2_y, x2_ky, rfl, Nq2, Kq2, u2_0, u2_1⟩ := hQ2
  have N2 := Fr.app N0 Nq2
  have f2_0 := p_0.keep Kq2 nin0
  have Zs2 : n0 ≤ T2.heap.size := Nat.le_trans Z0 Kq2.1
  have K2 := (Keep.refl h0 []).trans Kq2 all0
  have ne2_d : d ≠ x2_y := Nat.ne_of_lt (Nat.lt_of_lt_of_le p_0.lt u2_0)
  have sz2_y : h0.size ≤ x2_y := Nat.le_trans (Keep.refl h0 []).1 u2_0
  have gg2_y : n0 ≤ x2_y := Nat.le_trans Z0 u2_0
  refine own_st st2 ?_
  show own_Goes _ _ _ _ _ _ _ T2 (mkF m 16 #[rv d, iv (0 : Int32), iv cn] [(.ref x2_y)])
  refine own_retA X2 hx hlk rfl Bd.returns rfl (hb hby d52_16) (by decide) (by decide) ?_
  show Q52 Z d cn kd vs1 h0 n0 (some (.ref x2_y)) T2.heap _
  exact ⟨x2_y, x2_ky, rfl, N2, K2, u2_0, u2_1⟩
abbrev rRrm49 : Room := { frames := 0, cells := 0, slots := 0, locals := 0 }
theorem d49_0 : decode jdk_68_method_64_code 0 = .ok (.aload_n 0, 1) := by decide +kernel
theorem d49_1 : decode jdk_68_method_64_code 1 = .ok (.getfield 15, 3) := by decide +kernel
theorem d49_4 : decode jdk_68_method_64_code 4 = .ok (.areturn, 1) := by decide +kernel
theorem pn_rm49 : plainFor yy40 = true := by first | exact plainFor_of_name (by first | (simp [plainName, overriddenIn]; done) | decide +kernel) | decide +kernel
theorem ef_rm49 (m : MethodId) (o : Addr) : entryFrame m #[(.ref o)] 1 = (mkF m 0 #[rv o] []) := by first | (simp [entryFrame, mkF, argsToLocals, Value.category]; done) | rfl
def Q49 (Z : State) (o : Addr) (d : Addr) (h0 : Heap) (n0 : Nat) (v_ : Option Value) (h_ : Heap) (L_ : List Loc) : Prop := (v_ = some (.ref d)) ∧ (Fr n0 L_) ∧ (h_ = h0)
set_option maxRecDepth 65536 in
set_option maxHeartbeats 40000000 in
theorem rm49 (l : Launch) (Z : State) (a0 : Array Value) (hw : ∀ d ∈ tables_1, d.before a0 Z = true) (ws : List Jvm.Cond) (o : Addr) (d : Addr) (h0 : Heap) (n0 : Nat) (Z0 : n0 ≤ h0.size) (p_0 : Exa Z h0 o "java/lang/StringBuilder") (p_1 : Fld Z h0 o "java/lang/AbstractStringBuilder" "value" "[B" (.ref d)) :
    MetFree l yy40 (head1 (Jvm.Cond.code yy40 jdk_68_method_64_code 1 (some (.array .byte)) :: ws) rRrm49) (fun a_ U_ => a_ = #[(.ref o)] ∧ Z.Warmed39 U_.vm ∧ U_.heap = h0) (fun _ _ _ _ _ => True) (fun _ U_ o_ U1_ => ∃ v_ L_, o_ = .returned v_ ∧ Q49 Z o d h0 n0 v_ U1_.heap L_ ∧ FrameEnd U_ o_ U1_ L_ rRrm49.cells rRrm49.slots) := by
  refine MetFree.of_bodySF pn_rm49 hisR ?_
  intro p e s m args below meth c s₁ Bd hml0 hP hK
  obtain ⟨rfl, hZ, hh⟩ := hP
  have hx := Bd.exec
  have hby := Bd.bytes
  have hlk : meth.locks = false := Bd.notSynchronized
  have hml : c.maxLocals = 1 := hml0
  have hown : s.vm.findClass "java/lang/AbstractStringBuilder" = some m.cls := findClass_of_methodNamed Bd.named
  have hnm := (name_of_methodNamed Bd.named Bd.method).1
  have X0 : Stand p l e rRrm49 s m #[(.ref o)] below meth c s₁ [] 0 0 := Stand.of_body Bd
  have e0 : s₁.heap = h0 := by rw [← hh, Bd.state]; rfl
  have N0 := Fr.nil n0
  show own_Goes p e below s (Q49 Z o d h0 n0) rRrm49.cells rRrm49.slots s₁ (entryFrame m #[(.ref o)] 1)
  rw [ef_rm49 m o]
  show own_Goes p e below s (Q49 Z o d h0 n0) rRrm49.cells rRrm49.slots s₁ (mkF m 0 #[rv o] [])
  refine own_st (fun _ kk_ => XS.aloadN X0.here hx rfl (hb hby d49_0) rfl rfl kk_) ?_
  show own_Goes _ _ _ _ _ _ _ s₁ (mkF m 1 #[rv o] [(.ref o)])
  obtain ⟨T1, X1, e1, st1⟩ := getF X0 hx hZ hown (host := "") (Or.inl (own_w hw 169 rfl)) Via.refl e0 p_1 (g := (mkF m 1 #[rv o] [(.ref o)])) rfl rfl (hb hby d49_1)
  refine own_st st1 ?_
  show own_Goes _ _ _ _ _ _ _ T1 (mkF m 4 #[rv o] [(.ref d)])
  refine own_retA X1 hx hlk rfl Bd.returns rfl (hb hby d49_4) (by decide) (by decide) ?_
  show Q49 Z o d h0 n0 (some (.ref d)) T1.heap _
  rw [e1]
  exact ⟨rfl, N0, rfl⟩
abbrev rRrm51 : Room := { frames := 0, cells := 0, slots := 0, locals := 0 }
theorem d51_0 : decode jdk_68_method_6_code 0 = .ok (.aload_n 0, 1) := by decide +kernel
theorem d51_1 : decode jdk_68_method_6_code 1 = .ok (.getfield 79, 3) := by decide +kernel
theorem d51_4 : decode jdk_68_method_6_code 4 = .ok (.ireturn, 1) := by decide +kernel
theorem pn_rm51 : plainFor yy41 = true := by first | exact plainFor_of_name (by first | (simp [plainName, overriddenIn]; done) | decide +kernel) | decide +kernel
theorem ef_rm51 (m : MethodId) (o : Addr) : entryFrame m #[(.ref o)] 1 = (mkF m 0 #[rv o] []) := by first | (simp [entryFrame, mkF, argsToLocals, Value.category]; done) | rfl
def Q51 (Z : State) (o : Addr) (cn : Int32) (h0 : Heap) (n0 : Nat) (v_ : Option Value) (h_ : Heap) (L_ : List Loc) : Prop := (v_ = some (.int cn)) ∧ (Fr n0 L_) ∧ (h_ = h0)
set_option maxRecDepth 65536 in
set_option maxHeartbeats 40000000 in
theorem rm51 (l : Launch) (Z : State) (a0 : Array Value) (hw : ∀ d ∈ tables_1, d.before a0 Z = true) (ws : List Jvm.Cond) (o : Addr) (cn : Int32) (h0 : Heap) (n0 : Nat) (Z0 : n0 ≤ h0.size) (p_0 : Exa Z h0 o "java/lang/StringBuilder") (p_1 : Fld Z h0 o "java/lang/AbstractStringBuilder" "count" "I" (.int cn)) :
    MetFree l yy41 (head1 (Jvm.Cond.code yy41 jdk_68_method_6_code 1 (some .int) :: ws) rRrm51) (fun a_ U_ => a_ = #[(.ref o)] ∧ Z.Warmed39 U_.vm ∧ U_.heap = h0) (fun _ _ _ _ _ => True) (fun _ U_ o_ U1_ => ∃ v_ L_, o_ = .returned v_ ∧ Q51 Z o cn h0 n0 v_ U1_.heap L_ ∧ FrameEnd U_ o_ U1_ L_ rRrm51.cells rRrm51.slots) := by
  refine MetFree.of_bodySF pn_rm51 hisR ?_
  intro p e s m args below meth c s₁ Bd hml0 hP hK
  obtain ⟨rfl, hZ, hh⟩ := hP
  have hx := Bd.exec
  have hby := Bd.bytes
  have hlk : meth.locks = false := Bd.notSynchronized
  have hml : c.maxLocals = 1 := hml0
  have hown : s.vm.findClass "java/lang/AbstractStringBuilder" = some m.cls := findClass_of_methodNamed Bd.named
  have hnm := (name_of_methodNamed Bd.named Bd.method).1
  have X0 : Stand p l e rRrm51 s m #[(.ref o)] below meth c s₁ [] 0 0 := Stand.of_body Bd
  have e0 : s₁.heap = h0 := by rw [← hh, Bd.state]; rfl
  have N0 := Fr.nil n0
  show own_Goes p e below s (Q51 Z o cn h0 n0) rRrm51.cells rRrm51.slots s₁ (entryFrame m #[(.ref o)] 1)
  rw [ef_rm51 m o]
  show own_Goes p e below s (Q51 Z o cn h0 n0) rRrm51.cells rRrm51.slots s₁ (mkF m 0 #[rv o] [])
  refine own_st (fun _ kk_ => XS.aloadN X0.here hx rfl (hb hby d51_0) rfl rfl kk_) ?_
  show own_Goes _ _ _ _ _ _ _ s₁ (mkF m 1 #[rv o] [(.ref o)])
  obtain ⟨T1, X1, e1, st1⟩ := getF X0 hx hZ hown (host := "") (Or.inl (own_w hw 184 rfl)) Via.refl e0 p_1 (g := (mkF m 1 #[rv o] [(.ref o)])) rfl rfl (hb hby d51_1)
  refine own_st st1 ?_
  show own_Goes _ _ _ _ _ _ _ T1 (mkF m 4 #[rv o] [(.int cn)])
  refine own_retI X1 hx hlk Bd.returns (hb hby d51_4) (by decide) (by decide) ?_
  show Q51 Z o cn h0 n0 (some (.int cn)) T1.heap _
  rw [e1]
  exact ⟨rfl, N0, rfl⟩
abbrev rRrm50 : Room := { frames := 1, cells := 0, slots := 0, locals := 12 }
theorem d50_0 : decode jdk_67_method_93_code 0 = .ok (.aload_n 0, 1) := by decide +kernel
theorem d50_1 : decode jdk_67_method_93_code 1 = .ok (.invokespecial 343, 3) := by decide +kernel
theorem d50_4 : decode jdk_67_method_93_code 4 = .ok (.ireturn, 1) := by decide +kernel
theorem pn_rm50 : plainFor yy42 = true := by first | exact plainFor_of_name (by first | (simp [plainName, overriddenIn]; done) | decide +kernel) | decide +kernel
theorem ef_rm50 (m : MethodId) (o : Addr) : entryFrame m #[(.ref o)] 1 = (mkF m 0 #[rv o] []) := by first | (simp [entryFrame, mkF, argsToLocals, Value.category]; done) | rfl
def Q50 (Z : State) (o : Addr) (cn : Int32) (h0 : Heap) (n0 : Nat) (v_ : Option Value) (h_ : Heap) (L_ : List Loc) : Prop := (v_ = some (.int cn)) ∧ (Fr n0 L_) ∧ (h_ = h0)
set_option maxRecDepth 65536 in
set_option maxHeartbeats 40000000 in
theorem rm50 (l : Launch) (Z : State) (a0 : Array Value) (hw : ∀ d ∈ tables_1, d.before a0 Z = true) (ws : List Jvm.Cond) (o : Addr) (cn : Int32) (h0 : Heap) (n0 : Nat) (Z0 : n0 ≤ h0.size) (p_0 : Exa Z h0 o "java/lang/StringBuilder") (p_1 : Fld Z h0 o "java/lang/AbstractStringBuilder" "count" "I" (.int cn)) :
    MetFree l yy42 (head1 (Jvm.Cond.code yy42 jdk_67_method_93_code 1 (some .int) :: ws) rRrm50) (fun a_ U_ => a_ = #[(.ref o)] ∧ Z.Warmed39 U_.vm ∧ U_.heap = h0) (fun _ _ _ _ _ => True) (fun _ U_ o_ U1_ => ∃ v_ L_, o_ = .returned v_ ∧ Q50 Z o cn h0 n0 v_ U1_.heap L_ ∧ FrameEnd U_ o_ U1_ L_ rRrm50.cells rRrm50.slots) := by
  refine MetFree.of_bodySF pn_rm50 hisR ?_
  intro p e s m args below meth c s₁ Bd hml0 hP hK
  obtain ⟨rfl, hZ, hh⟩ := hP
  have hx := Bd.exec
  have hby := Bd.bytes
  have hlk : meth.locks = false := Bd.notSynchronized
  have hml : c.maxLocals = 1 := hml0
  have hown : s.vm.findClass "java/lang/StringBuilder" = some m.cls := findClass_of_methodNamed Bd.named
  have hnm := (name_of_methodNamed Bd.named Bd.method).1
  have X0 : Stand p l e rRrm50 s m #[(.ref o)] below meth c s₁ [] 0 0 := Stand.of_body Bd
  have e0 : s₁.heap = h0 := by rw [← hh, Bd.state]; rfl
  have N0 := Fr.nil n0
  show own_Goes p e below s (Q50 Z o cn h0 n0) rRrm50.cells rRrm50.slots s₁ (entryFrame m #[(.ref o)] 1)
  rw [ef_rm50 m o]
  show own_Goes p e below s (Q50 Z o cn h0 n0) rRrm50.cells rRrm50.slots s₁ (mkF m 0 #[rv o] [])
  refine own_st (fun _ kk_ => XS.aloadN X0.here hx rfl (hb hby d50_0) rfl rfl kk_) ?_
  show own_Goes _ _ _ _ _ _ _ s₁ (mkF m 1 #[rv o] [(.ref o)])
  obtain ⟨_, _, ⟨T1, L1, k1, n1⟩, -, X1, ⟨Lc1, hQ1, l1, y1, z1⟩, st1⟩ := superBack X0 hx hZ (y := yy41) hown (own_w hw 251 rfl) (own_smo (own_w hw 189 rfl) rfl (own_w hw 247 rfl) (by decide)) (own_w hw 247 rfl) (own_w hw 180 rfl) (by decide) (backOf (W := 0) (rm51 l Z a0 hw [] (o) (cn) h0 n0 Z0 p_0 p_1) hZ (own_w hw 252 rfl) (own_w hw 165 rfl) (by decide) (by decide)) e0 (Ins.self p_0) (g := (mkF m 1 #[rv o] [(.ref o)])) rfl (by rw [hml]; rfl) (own_w hw 252 rfl) (argsL := []) (rest := []) (lenOf pd_10 rfl) rfl (by show 2 * 0 + _ ≤ _; exact Nat.le_of_eq rfl) (hb hby d50_1) (fun _ _ => ⟨rfl, e0, (by decide : 0 + 0 ≤ _), (by decide : 0 + 0 ≤ _)⟩)
  dsimp only [Pt.U, Pt.locs, Pt.cells, Pt.slots] at X1 l1 y1 z1 st1 hQ1
  subst l1 y1 z1
  obtain ⟨rfl, Nq1, eq1⟩ := hQ1
  have N1 := Fr.app N0 Nq1
  refine own_st (fun _ kk_ => st1.trans kk_) ?_
  show own_Goes _ _ _ _ _ _ _ T1 (mkF m 4 #[rv o] [(.int cn)])
  refine own_retI X1 hx hlk Bd.returns (hb hby d50_4) (by decide) (by decide) ?_
  show Q50 Z o cn h0 n0 (some (.int cn)) T1.heap _
  rw [eq1]
  exact ⟨rfl, N1, rfl⟩
abbrev rRrm48 : Room := { frames := 3, cells := 1, slots := 7, locals := 49 }
theorem d48_0 : decode jdk_42_method_150_code 0 = .ok (.aload_n 0, 1) := by decide +kernel
theorem d48_1 : decode jdk_42_method_150_code 1 = .ok (.invokespecial 1, 3) := by decide +kernel
theorem d48_4 : decode jdk_42_method_150_code 4 = .ok (.aload_n 1, 1) := by decide +kernel
theorem d48_5 : decode jdk_42_method_150_code 5 = .ok (.invokevirtual 552, 3) := by decide +kernel
theorem d48_8 : decode jdk_42_method_150_code 8 = .ok (.astore_n 3, 1) := by decide +kernel
theorem d48_9 : decode jdk_42_method_150_code 9 = .ok (.aload_n 1, 1) := by decide +kernel
theorem d48_10 : decode jdk_42_method_150_code 10 = .ok (.invokevirtual 549, 3) := by decide +kernel
theorem d48_13 : decode jdk_42_method_150_code 13 = .ok (.istore 4, 2) := by decide +kernel
theorem d48_15 : decode jdk_42_method_150_code 15 = .ok (.aload_n 1, 1) := by decide +kernel
theorem d48_16 : decode jdk_42_method_150_code 16 = .ok (.invokevirtual 1047, 3) := by decide +kernel
theorem d48_19 : decode jdk_42_method_150_code 19 = .ok (.ifCond .eq 22, 3) := by decide +kernel
theorem d48_22 : decode jdk_42_method_150_code 22 = .ok (.aload_n 0, 1) := by decide +kernel
theorem d48_23 : decode jdk_42_method_150_code 23 = .ok (.iconst 0, 1) := by decide +kernel
theorem d48_24 : decode jdk_42_method_150_code 24 = .ok (.putfield 15, 3) := by decide +kernel
theorem d48_27 : decode jdk_42_method_150_code 27 = .ok (.aload_n 0, 1) := by decide +kernel
theorem d48_28 : decode jdk_42_method_150_code 28 = .ok (.aload_n 3, 1) := by decide +kernel
theorem d48_29 : decode jdk_42_method_150_code 29 = .ok (.iconst 0, 1) := by decide +kernel
theorem d48_30 : decode jdk_42_method_150_code 30 = .ok (.iload 4, 2) := by decide +kernel
theorem d48_32 : decode jdk_42_method_150_code 32 = .ok (.invokestatic 54, 3) := by decide +kernel
theorem d48_35 : decode jdk_42_method_150_code 35 = .ok (.putfield 9, 3) := by decide +kernel
theorem d48_38 : decode jdk_42_method_150_code 38 = .ok (.goto 59, 3) := by decide +kernel
theorem d48_97 : decode jdk_42_method_150_code 97 = .ok (.return_, 1) := by decide +kernel
theorem pd_23 : parseMethodDescriptor "()[B" = some ⟨[], some (.array .byte)⟩ := by decide +kernel
theorem pn_rm48 : plainFor yy43 = true := by first | exact plainFor_of_name (by first | (simp [plainName, overriddenIn]; done) | decide +kernel) | decide +kernel
theorem ef_rm48 (m : MethodId) (s9 : Addr) (o : Addr) : entryFrame m #[(.ref s9), (.ref o), .null] 5 = (mkF m 0 #[rv s9, rv o, .val .null, .unset, .unset] []) := by first | (simp [entryFrame, mkF, argsToLocals, Value.category]; done) | rfl
def Q48 (Z : State) (s9 : Addr) (o : Addr) (d : Addr) (kd : ClassId) (vs1 : List Value) (cn : Int32) (cs : Int32) (h0 : Heap) (n0 : Nat) (v_ : Option Value) (h_ : Heap) (L_ : List Loc) : Prop := ∃ y : Addr, ∃ ky : ClassId, (v_ = none) ∧ (Fr n0 L_) ∧ (Keep h0 h_ [s9]) ∧ (h0.size ≤ y) ∧ (Exa Z h_ s9 "java/lang/String") ∧ (Fld Z h_ s9 "java/lang/String" "coder" "B" (.int (0 : Int32))) ∧ (Fld Z h_ s9 "java/lang/String" "value" "[B" (.ref y)) ∧ (Arv Z h_ y ky .byte cn (own_cp vs1 own_z7 (0 : Int32) (0 : Int32) cn (.int (0 : Int32))) (.int (0 : Int32)))
set_option maxRecDepth 65536 in
set_option maxHeartbeats 40000000 in
theorem rm48 (l : Launch) (Z : State) (a0 : Array Value) (hw : ∀ d ∈ tables_1, d.before a0 Z = true) (ws : List Jvm.Cond) (s9 : Addr) (o : Addr) (d : Addr) (kd : ClassId) (vs1 : List Value) (cn : Int32) (cs : Int32) (h0 : Heap) (n0 : Nat) (Z0 : n0 ≤ h0.size) (p_0 : Exa Z h0 s9 "java/lang/String") (p_1 : Fld Z h0 s9 "java/lang/String" "value" "[B" .null) (p_2 : Fld Z h0 s9 "java/lang/String" "coder" "B" (.int (0 : Int32))) (p_3 : n0 ≤ s9) (p_4 : Exa Z h0 o "java/lang/StringBuilder") (p_5 : Fld Z h0 o "java/lang/AbstractStringBuilder" "value" "[B" (.ref d)) (p_6 : Fld Z h0 o "java/lang/AbstractStringBuilder" "coder" "B" (.int (0 : Int32))) (p_7 : Fld Z h0 o "java/lang/AbstractStringBuilder" "count" "I" (.int cn)) (p_8 : Arv Z h0 d kd .byte (16 : Int32) vs1 (.int (0 : Int32))) (p_9 : Sta Z h0 "java/lang/String" "COMPACT_STRINGS" "Z" (.int cs)) (hcs : ¬ cs = (0 : Int32)) (p_11 : s9 ≠ o) (p_12 : s9 ≠ d) (hq : own_cn cn) :
    MetFree l yy43 (head1 (Jvm.Cond.code yy43 jdk_42_method_150_code 5 none :: ws) rRrm48) (fun a_ U_ => a_ = #[(.ref s9), (.ref o), .null] ∧ Z.Warmed39 U_.vm ∧ U_.heap = h0) (fun _ _ _ _ _ => True) (fun _ U_ o_ U1_ => ∃ v_ L_, o_ = .returned v_ ∧ Q48 Z s9 o d kd vs1 cn cs h0 n0 v_ U1_.heap L_ ∧ FrameEnd U_ o_ U1_ L_ rRrm48.cells rRrm48.slots) := by
  refine MetFree.of_bodySF pn_rm48 hisR ?_
  intro p e s m args below meth c s₁ Bd hml0 hP hK
  obtain ⟨rfl, hZ, hh⟩ := hP
  have hx := Bd.exec
  have hby := Bd.bytes
  have hlk : meth.locks = false := Bd.notSynchronized
  have hml : c.maxLocals = 5 := hml0
  have hown : s.vm.findClass "java/lang/String" = some m.cls := findClass_of_methodNamed Bd.named
  have hnm := (name_of_methodNamed Bd.named Bd.method).1
  have X0 : Stand p l e rRrm48 s m #[(.ref s9), (.ref o), .null] below meth c s₁ [] 0 0 := Stand.of_body Bd
  have e0 : s₁.heap = h0 := by rw [← hh, Bd.state]; rfl
  have N0 := Fr.nil n0
  show own_Goes p e below s (Q48 Z s9 o d kd vs1 cn cs h0 n0) rRrm48.cells rRrm48.slots s₁ (entryFrame m #[(.ref s9), (.ref o), .null] 5)
  rw [ef_rm48 m s9 o]
  show own_Goes p e below s (Q48 Z s9 o d kd vs1 cn cs h0 n0) rRrm48.cells rRrm48.slots s₁ (mkF m 0 #[rv s9, rv o, .val .null, .unset, .unset] [])
  refine own_st (fun _ kk_ => XS.aloadN X0.here hx rfl (hb hby d48_0) rfl rfl kk_) ?_
  show own_Goes _ _ _ _ _ _ _ s₁ (mkF m 1 #[rv s9, rv o, .val .null, .unset, .unset] [(.ref s9)])
  obtain ⟨T1, X1, e1, st1⟩ := initO X0 hx hZ hown (own_w hw 21 rfl) (own_w hw 22 rfl) (own_w hw 23 rfl) e0 (g := (mkF m 1 #[rv s9, rv o, .val .null, .unset, .unset] [(.ref s9)])) rfl (by rw [hml]; rfl) rfl (hb hby d48_1) (by decide) (W := 0) (by show 2 * 0 + _ ≤ _; exact Nat.le_of_eq rfl) (by decide)
  refine own_st st1 ?_
  show own_Goes _ _ _ _ _ _ _ T1 (mkF m 4 #[rv s9, rv o, .val .null, .unset, .unset] [])
  refine own_st (fun _ kk_ => XS.aloadN X1.here hx rfl (hb hby d48_4) rfl rfl kk_) ?_
  show own_Goes _ _ _ _ _ _ _ T1 (mkF m 5 #[rv s9, rv o, .val .null, .unset, .unset] [(.ref o)])
  obtain ⟨cq2, kq2, q2a, q2b, q2c⟩ := isOf hZ e1 p_4
  obtain ⟨_, _, ⟨T2, L2, k2, n2⟩, -, X2, ⟨Lc2, hQ2, l2, y2, z2⟩, st2⟩ := X1.virtualBack hx (y := yy40) (z := yy40) hown (mvT hZ (own_w hw 240 rfl)) (mvT hZ (own_w hw 241 rfl)) (notFace_of_selects (args := #[]) (mvT hZ (own_w hw 243 rfl))) (mvT hZ (own_w hw 243 rfl)) (mvT hZ (own_w hw 242 rfl)) (by decide) (backOf (W := 0) (rm49 l Z a0 hw [] (o) (d) h0 n0 Z0 p_4 p_5) hZ (own_w hw 244 rfl) (own_w hw 165 rfl) (by decide) (by decide)) q2a q2c (g := (mkF m 5 #[rv s9, rv o, .val .null, .unset, .unset] [(.ref o)])) rfl (by rw [hml]; rfl) (Steps.refl _) (argsL := []) (rest := []) (lenOf pd_23 rfl) rfl (by show 2 * 0 + _ ≤ _; exact Nat.le_of_eq rfl) (hb hby d48_5) (fun _ _ => ⟨rfl, e1, (by decide : 0 + 0 ≤ _), (by decide : 0 + 0 ≤ _)⟩)
  dsimp only [Pt.U, Pt.locs, Pt.cells, Pt.slots] at X2 l2 y2 z2 st2 hQ2
  subst l2 y2 z2
  obtain ⟨rfl, Nq2, eq2⟩ := hQ2
  have N2 := Fr.app N0 Nq2
  refine own_st (fun _ kk_ => st2.trans kk_) ?_
  show own_Goes _ _ _ _ _ _ _ T2 (mkF m 8 #[rv s9, rv o, .val .null, .unset, .unset] [(.ref d)])
  refine own_st (fun _ kk_ => XS.astoreN X2.here hx rfl (hb hby d48_8) rfl rfl (l' := #[rv s9, rv o, .val .null, rv d, .unset]) rfl (XS.aloadN X2.here hx rfl (hb hby d48_9) rfl rfl kk_)) ?_
  show own_Goes _ _ _ _ _ _ _ T2 (mkF m 10 #[rv s9, rv o, .val .null, rv d, .unset] [(.ref o)])
  obtain ⟨cq3, kq3, q3a, q3b, q3c⟩ := isOf hZ eq2 p_4
  obtain ⟨_, _, ⟨T3, L3, k3, n3⟩, -, X3, ⟨Lc3, hQ3, l3, y3, z3⟩, st3⟩ := X2.virtualBack hx (y := yy41) (z := yy42) hown (mvT hZ (own_w hw 245 rfl)) (mvT hZ (own_w hw 246 rfl)) (own_nf (args := #[]) (mvT hZ (own_w hw 189 rfl)) rfl) (mvT hZ (own_w hw 248 rfl)) (mvT hZ (own_w hw 249 rfl)) (by decide) (backOf (W := 0) (rm50 l Z a0 hw [] (o) (cn) h0 n0 Z0 p_4 p_7) hZ (own_w hw 250 rfl) (own_w hw 157 rfl) (by decide) (by decide)) q3a q3c (g := (mkF m 10 #[rv s9, rv o, .val .null, rv d, .unset] [(.ref o)])) rfl (by rw [hml]; rfl) (Steps.refl _) (argsL := []) (rest := []) (lenOf pd_10 rfl) rfl (by show 2 * 0 + _ ≤ _; exact Nat.le_of_eq rfl) (hb hby d48_10) (fun _ _ => ⟨rfl, eq2, (by decide : 0 + 0 ≤ _), (by decide : 0 + 0 ≤ _)⟩)
  dsimp only [Pt.U, Pt.locs, Pt.cells, Pt.slots] at X3 l3 y3 z3 st3 hQ3
  subst l3 y3 z3
  obtain ⟨rfl, Nq3, eq3⟩ := hQ3
  have N3 := Fr.app N2 Nq3
  refine own_st (fun _ kk_ => st3.trans kk_) ?_
  show own_Goes _ _ _ _ _ _ _ T3 (mkF m 13 #[rv s9, rv o, .val .null, rv d, .unset] [(.int cn)])
  refine own_st (fun _ kk_ => XS.istore X3.here hx rfl (hb hby d48_13) rfl (l' := #[rv s9, rv o, .val .null, rv d, iv cn]) rfl (XS.aloadN X3.here hx rfl (hb hby d48_15) rfl rfl kk_)) ?_
  show own_Goes _ _ _ _ _ _ _ T3 (mkF m 16 #[rv s9, rv o, .val .null, rv d, iv cn] [(.ref o)])
  obtain ⟨cq4, kq4, q4a, q4b, q4c⟩ := isOf hZ eq3 p_4
  obtain ⟨_, _, ⟨T4, L4, k4, n4⟩, -, X4, ⟨Lc4, hQ4, l4, y4, z4⟩, st4⟩ := X3.virtualBack hx (y := yy31) (z := yy31) hown (mvT hZ (own_w hw 253 rfl)) (mvT hZ (own_w hw 221 rfl)) (notFace_of_selects (args := #[]) (mvT hZ (own_w hw 223 rfl))) (mvT hZ (own_w hw 223 rfl)) (mvT hZ (own_w hw 222 rfl)) (by decide) (backOf (W := 0) (rm44 l Z a0 hw [] (o) (cs) h0 n0 Z0 p_4 p_6 p_9 (by assumption)) hZ (own_w hw 224 rfl) (own_w hw 165 rfl) (by decide) (by decide)) q4a q4c (g := (mkF m 16 #[rv s9, rv o, .val .null, rv d, iv cn] [(.ref o)])) rfl (by rw [hml]; rfl) (Steps.refl _) (argsL := []) (rest := []) (lenOf pd_6 rfl) rfl (by show 2 * 0 + _ ≤ _; exact Nat.le_of_eq rfl) (hb hby d48_16) (fun _ _ => ⟨rfl, eq3, (by decide : 0 + 0 ≤ _), (by decide : 0 + 0 ≤ _)⟩)
  dsimp only [Pt.U, Pt.locs, Pt.cells, Pt.slots] at X4 l4 y4 z4 st4 hQ4
  subst l4 y4 z4
  obtain ⟨rfl, Nq4, eq4⟩ := hQ4
  have N4 := Fr.app N3 Nq4
  refine own_st (fun _ kk_ => st4.trans kk_) ?_
  show own_Goes _ _ _ _ _ _ _ T4 (mkF m 19 #[rv s9, rv o, .val .null, rv d, iv cn] [(.int (1 : Int32))])
  refine own_st (fun _ kk_ => XS.ifNo X4.here hx rfl (hb hby d48_19) rfl (XT.i0_eq_f (by decide)) (XS.aloadN X4.here hx rfl (hb hby d48_22) rfl rfl (XS.iconst X4.here hx rfl (hb hby d48_23) kk_))) ?_
  show own_Goes _ _ _ _ _ _ _ T4 (mkF m 24 #[rv s9, rv o, .val .null, rv d, iv cn] [(.int (0 : Int32)), (.ref s9)])
  obtain ⟨T5, h5, X5, e5, W5, st5⟩ := putFN X4 hx hZ hown (own_w hw 36 rfl) Via.refl eq4 p_2 p_0 (Or.inr ⟨(own_w hw 37 rfl), rfl, hnm⟩) (own_w hw 11 rfl) (ty := .byte) (v' := (.int (nar .byte (0 : Int32)))) (by decide) rfl (fits_nar_byte _) (g := (mkF m 24 #[rv s9, rv o, .val .null, rv d, iv cn] [(.int (0 : Int32)), (.ref s9)])) rfl rfl (hb hby d48_24)
  have fw5 : Fld Z h5 s9 "java/lang/String" "coder" "B" (.int (nar .byte (0 : Int32))) := p_2.same W5
  have f5_0 := p_0.wr W5
  have f5_1 := p_1.other W5 (Or.inr (slot_ne (Or.inr (own_w hw 39 rfl)) (Or.inr (own_w hw 37 rfl)) (by decide) (t := (.array .byte)) (t' := .byte) (by decide) (by decide)))
  have f5_3 := p_4.wr W5
  have f5_4 := p_5.other W5 (Or.inl (Ne.symm p_11))
  have f5_5 := p_6.other W5 (Or.inl (Ne.symm p_11))
  have f5_6 := p_7.other W5 (Or.inl (Ne.symm p_11))
  have f5_7 := p_8.other W5 (Ne.symm p_12)
  have f5_8 := p_9.wr W5
  have Zs5 : n0 ≤ h5.size := Nat.le_trans Z0 (Nat.le_of_eq W5.size.symm)
  have K5 := (Keep.refl h0 [s9]).wr W5 (Or.inl (List.mem_of_getElem? (i := 0) rfl))
  have N5 := Fr.snoc X5 N4 p_3
  refine own_st st5 ?_
  show own_Goes _ _ _ _ _ _ _ T5 (mkF m 27 #[rv s9, rv o, .val .null, rv d, iv cn] [])
  refine own_st (fun _ kk_ => XS.aloadN X5.here hx rfl (hb hby d48_27) rfl rfl (XS.aloadN X5.here hx rfl (hb hby d48_28) rfl rfl (XS.iconst X5.here hx rfl (hb hby d48_29) (XS.iload X5.here hx rfl (hb hby d48_30) rfl kk_)))) ?_
  show own_Goes _ _ _ _ _ _ _ T5 (mkF m 32 #[rv s9, rv o, .val .null, rv d, iv cn] [(.int cn), (.int (0 : Int32)), (.ref d), (.ref s9)])
  obtain ⟨_, _, ⟨T6, L6, k6, n6⟩, -, X6, ⟨Lc6, hQ6, l6, y6, z6⟩, st6⟩ := Jvm.LawKit.callS X5 hx (y := yy39) hown (mvT hZ (own_w hw 254 rfl)) (mvT hZ (own_w hw 255 rfl)) (mvT hZ (own_w hw 256 rfl)) (mvT hZ (own_w hw 257 rfl)) (by decide) (backOf (W := 1) (rm52 l Z a0 hw [] (d) (cn) (kd) (vs1) h5 n0 Zs5 f5_7 hq) hZ (own_w hw 257 rfl) (own_w hw 256 rfl) (by decide) (by decide)) (g := (mkF m 32 #[rv s9, rv o, .val .null, rv d, iv cn] [(.int cn), (.int (0 : Int32)), (.ref d), (.ref s9)])) rfl (by rw [hml]; rfl) (argsL := [(.ref d), (.int (0 : Int32)), (.int cn)]) (rest := [(.ref s9)]) (lenOf pd_22 rfl) rfl (by show 2 * 0 + _ ≤ _; exact Nat.le_of_eq rfl) (hb hby d48_32) (fun _ _ => ⟨rfl, e5, (by decide : 0 + 1 ≤ _), (by decide : 0 + 7 ≤ _)⟩)
  dsimp only [Pt.U, Pt.locs, Pt.cells, Pt.slots] at X6 l6 y6 z6 st6 hQ6
  subst l6 y6 z6
  obtain ⟨x6_y, x6_ky, rfl, Nq6, Kq6, u6_0, u6_1⟩ := hQ6
  have N6 := Fr.app N5 Nq6
  have f6_0 := f5_0.keep Kq6
  have f6_1 := f5_1.keep Kq6 nin0
  have f6_2 := f5_3.keep Kq6
  have f6_3 := f5_4.keep Kq6 nin0
  have f6_4 := f5_5.keep Kq6 nin0
  have f6_5 := f5_6.keep Kq6 nin0
  have f6_6 := f5_7.keep Kq6 nin0
  have f6_7 := own_Sta_keep f5_8 Kq6 ns0
  have f6_8 := fw5.keep Kq6 nin0
  have Zs6 : n0 ≤ T6.heap.size := Nat.le_trans Zs5 Kq6.1
  have K6 := K5.trans Kq6 all0
  have ne6_s9 : s9 ≠ x6_y := Nat.ne_of_lt (Nat.lt_of_lt_of_le f5_0.lt u6_0)
  have ne6_o : o ≠ x6_y := Nat.ne_of_lt (Nat.lt_of_lt_of_le f5_3.lt u6_0)
  have ne6_d : d ≠ x6_y := Nat.ne_of_lt (Nat.lt_of_lt_of_le f5_7.lt u6_0)
  have sz6_y : h0.size ≤ x6_y := Nat.le_trans K5.1 u6_0
  have gg6_y : n0 ≤ x6_y := Nat.le_trans Zs5 u6_0
  refine own_st st6 ?_
  show own_Goes _ _ _ _ _ _ _ T6 (mkF m 35 #[rv s9, rv o, .val .null, rv d, iv cn] [(.ref x6_y), (.ref s9)])
  obtain ⟨T7, h7, X7, e7, W7, st7⟩ := putF X6 hx hZ hown (host := "") (Or.inl (own_w hw 38 rfl)) Via.refl rfl f6_1 f6_0 (Or.inr ⟨(own_w hw 39 rfl), rfl, hnm⟩) (own_w hw 11 rfl) (ty := (.array .byte)) (by decide) rfl rfl (g := (mkF m 35 #[rv s9, rv o, .val .null, rv d, iv cn] [(.ref x6_y), (.ref s9)])) rfl rfl (hb hby d48_35)
  have fw7 : Fld Z h7 s9 "java/lang/String" "value" "[B" (.ref x6_y) := f6_1.same W7
  have f7_0 := f6_0.wr W7
  have f7_2 := f6_2.wr W7
  have f7_3 := f6_3.other W7 (Or.inl (Ne.symm p_11))
  have f7_4 := f6_4.other W7 (Or.inl (Ne.symm p_11))
  have f7_5 := f6_5.other W7 (Or.inl (Ne.symm p_11))
  have f7_6 := f6_6.other W7 (Ne.symm p_12)
  have f7_7 := f6_7.wr W7
  have f7_8 := f6_8.other W7 (Or.inr (slot_ne (Or.inr (own_w hw 37 rfl)) (Or.inr (own_w hw 39 rfl)) (by decide) (t := .byte) (t' := (.array .byte)) (by decide) (by decide)))
  have f7_9 := u6_1.other W7 (Ne.symm ne6_s9)
  have Zs7 : n0 ≤ h7.size := Nat.le_trans Zs6 (Nat.le_of_eq W7.size.symm)
  have K7 := K6.wr W7 (Or.inl (List.mem_of_getElem? (i := 0) rfl))
  have N7 := Fr.snoc X7 N6 p_3
  refine own_st st7 ?_
  show own_Goes _ _ _ _ _ _ _ T7 (mkF m 38 #[rv s9, rv o, .val .null, rv d, iv cn] [])
  refine own_st (fun _ kk_ => XS.goto X7.here hx rfl (pc0 := 38) (pc' := 97) rfl (hb hby d48_38) (by decide) (by decide) kk_) ?_
  show own_Goes _ _ _ _ _ _ _ T7 (mkF m 97 #[rv s9, rv o, .val .null, rv d, iv cn] [])
  refine own_ret0 X7 hx hlk Bd.returns (hb hby d48_97) (by decide) (by decide) ?_
  show Q48 Z s9 o d kd vs1 cn cs h0 n0 none T7.heap _
  rw [e7]
  exact ⟨x6_y, x6_ky, rfl, N7, K7, sz6_y, f7_0, f7_8, fw7, f7_9⟩
abbrev rRrm47 : Room := { frames := 4, cells := 1, slots := 7, locals := 65 }
theorem d47_0 : decode jdk_42_method_53_code 0 = .ok (.aload_n 0, 1) := by decide +kernel
theorem d47_1 : decode jdk_42_method_53_code 1 = .ok (.aload_n 1, 1) := by decide +kernel
theorem d47_2 : decode jdk_42_method_53_code 2 = .ok (.aconst_null, 1) := by decide +kernel
theorem d47_3 : decode jdk_42_method_53_code 3 = .ok (.invokespecial 489, 3) := by decide +kernel
theorem d47_6 : decode jdk_42_method_53_code 6 = .ok (.return_, 1) := by decide +kernel
theorem pd_24 : parseMethodDescriptor "(Ljava/lang/AbstractStringBuilder;Ljava/lang/Void;)V" = some ⟨[(.object "java/lang/AbstractStringBuilder"), (.object "java/lang/Void")], none⟩ := by decide +kernel
theorem pn_rm47 : plainFor yy44 = true := by first | exact plainFor_of_name (by first | (simp [plainName, overriddenIn]; done) | decide +kernel) | decide +kernel
theorem ef_rm47 (m : MethodId) (s9 : Addr) (o : Addr) : entryFrame m #[(.ref s9), (.ref o)] 2 = (mkF m 0 #[rv s9, rv o] []) := by first | (simp [entryFrame, mkF, argsToLocals, Value.category]; done) | rfl
def Q47 (Z : State) (s9 : Addr) (o : Addr) (d : Addr) (kd : ClassId) (vs1 : List Value) (cn : Int32) (cs : Int32) (h0 : Heap) (n0 : Nat) (v_ : Option Value) (h_ : Heap) (L_ : List Loc) : Prop := ∃ y : Addr, ∃ ky : ClassId, (v_ = none) ∧ (Fr n0 L_) ∧ (Keep h0 h_ [s9]) ∧ (h0.size ≤ y) ∧ (Exa Z h_ s9 "java/lang/String") ∧ (Fld Z h_ s9 "java/lang/String" "coder" "B" (.int (0 : Int32))) ∧ (Fld Z h_ s9 "java/lang/String" "value" "[B" (.ref y)) ∧ (Arv Z h_ y ky .byte cn (own_cp vs1 own_z7 (0 : Int32) (0 : Int32) cn (.int (0 : Int32))) (.int (0 : Int32)))
set_option maxRecDepth 65536 in
set_option maxHeartbeats 40000000 in
theorem rm47 (l : Launch) (Z : State) (a0 : Array Value) (hw : ∀ d ∈ tables_1, d.before a0 Z = true) (ws : List Jvm.Cond) (s9 : Addr) (o : Addr) (d : Addr) (kd : ClassId) (vs1 : List Value) (cn : Int32) (cs : Int32) (h0 : Heap) (n0 : Nat) (Z0 : n0 ≤ h0.size) (p_0 : Exa Z h0 s9 "java/lang/String") (p_1 : Fld Z h0 s9 "java/lang/String" "value" "[B" .null) (p_2 : Fld Z h0 s9 "java/lang/String" "coder" "B" (.int (0 : Int32))) (p_3 : n0 ≤ s9) (p_4 : Exa Z h0 o "java/lang/StringBuilder") (p_5 : Fld Z h0 o "java/lang/AbstractStringBuilder" "value" "[B" (.ref d)) (p_6 : Fld Z h0 o "java/lang/AbstractStringBuilder" "coder" "B" (.int (0 : Int32))) (p_7 : Fld Z h0 o "java/lang/AbstractStringBuilder" "count" "I" (.int cn)) (p_8 : Arv Z h0 d kd .byte (16 : Int32) vs1 (.int (0 : Int32))) (p_9 : Sta Z h0 "java/lang/String" "COMPACT_STRINGS" "Z" (.int cs)) (hcs : ¬ cs = (0 : Int32)) (p_11 : s9 ≠ o) (p_12 : s9 ≠ d) (hq : own_cn cn) :
    MetFree l yy44 (head1 (Jvm.Cond.code yy44 jdk_42_method_53_code 2 none :: ws) rRrm47) (fun a_ U_ => a_ = #[(.ref s9), (.ref o)] ∧ Z.Warmed39 U_.vm ∧ U_.heap = h0) (fun _ _ _ _ _ => True) (fun _ U_ o_ U1_ => ∃ v_ L_, o_ = .returned v_ ∧ Q47 Z s9 o d kd vs1 cn cs h0 n0 v_ U1_.heap L_ ∧ FrameEnd U_ o_ U1_ L_ rRrm47.cells rRrm47.slots) := by
  refine MetFree.of_bodySF pn_rm47 hisR ?_
  intro p e s m args below meth c s₁ Bd hml0 hP hK
  obtain ⟨rfl, hZ, hh⟩ := hP
  have hx := Bd.exec
  have hby := Bd.bytes
  have hlk : meth.locks = false := Bd.notSynchronized
  have hml : c.maxLocals = 2 := hml0
  have hown : s.vm.findClass "java/lang/String" = some m.cls := findClass_of_methodNamed Bd.named
  have hnm := (name_of_methodNamed Bd.named Bd.method).1
  have X0 : Stand p l e rRrm47 s m #[(.ref s9), (.ref o)] below meth c s₁ [] 0 0 := Stand.of_body Bd
  have e0 : s₁.heap = h0 := by rw [← hh, Bd.state]; rfl
  have N0 := Fr.nil n0
  show own_Goes p e below s (Q47 Z s9 o d kd vs1 cn cs h0 n0) rRrm47.cells rRrm47.slots s₁ (entryFrame m #[(.ref s9), (.ref o)] 2)
  rw [ef_rm47 m s9 o]
  show own_Goes p e below s (Q47 Z s9 o d kd vs1 cn cs h0 n0) rRrm47.cells rRrm47.slots s₁ (mkF m 0 #[rv s9, rv o] [])
  refine own_st (fun _ kk_ => XS.aloadN X0.here hx rfl (hb hby d47_0) rfl rfl (XS.aloadN X0.here hx rfl (hb hby d47_1) rfl rfl (XS.aconstNull X0.here hx rfl (hb hby d47_2) kk_))) ?_
  show own_Goes _ _ _ _ _ _ _ s₁ (mkF m 3 #[rv s9, rv o] [.null, (.ref o), (.ref s9)])
  obtain ⟨_, _, ⟨T1, L1, k1, n1⟩, -, X1, ⟨Lc1, hQ1, l1, y1, z1⟩, st1⟩ := X0.specialBack hx (y := yy43) rfl hown (mvT hZ (own_w hw 237 rfl)) (mvT hZ (own_w hw 238 rfl)) (mvT hZ (own_w hw 239 rfl)) (by decide) (backOf (W := 0) (rm48 l Z a0 hw [] (s9) (o) (d) (kd) (vs1) (cn) (cs) h0 n0 Z0 p_0 p_1 p_2 p_3 p_4 p_5 p_6 p_7 p_8 p_9 (by assumption) p_11 p_12 hq) hZ (own_w hw 239 rfl) (own_w hw 12 rfl) (by decide) (by decide)) (g := (mkF m 3 #[rv s9, rv o] [.null, (.ref o), (.ref s9)])) rfl (by rw [hml]; rfl) (Steps.refl _) (a := s9) (argsL := [(.ref o), .null]) (rest := []) (lenOf pd_24 rfl) rfl (by show 2 * 0 + _ ≤ _; exact Nat.le_of_eq rfl) (hb hby d47_3) (fun _ _ => ⟨rfl, e0, (by decide : 0 + 1 ≤ _), (by decide : 0 + 7 ≤ _)⟩)
  dsimp only [Pt.U, Pt.locs, Pt.cells, Pt.slots] at X1 l1 y1 z1 st1 hQ1
  subst l1 y1 z1
  obtain ⟨x1_y, x1_ky, rfl, Nq1, Kq1, u1_0, u1_1, u1_2, u1_3, u1_4⟩ := hQ1
  have N1 := Fr.app N0 Nq1
  have f1_0 := p_0.keep Kq1
  have f1_3 := p_4.keep Kq1
  have f1_4 := p_5.keep Kq1 (ninS (Ne.symm p_11) nin0)
  have f1_5 := p_6.keep Kq1 (ninS (Ne.symm p_11) nin0)
  have f1_6 := p_7.keep Kq1 (ninS (Ne.symm p_11) nin0)
  have f1_7 := p_8.keep Kq1 (ninS (Ne.symm p_12) nin0)
  have f1_8 := own_Sta_keep p_9 Kq1 (nsS p_0.nostat ns0)
  have Zs1 : n0 ≤ T1.heap.size := Nat.le_trans Z0 Kq1.1
  have K1 := (Keep.refl h0 [s9]).trans Kq1 (allS (Or.inl (List.mem_of_getElem? (i := 0) rfl)) all0)
  have ne1_s9 : s9 ≠ x1_y := Nat.ne_of_lt (Nat.lt_of_lt_of_le p_0.lt u1_0)
  have ne1_o : o ≠ x1_y := Nat.ne_of_lt (Nat.lt_of_lt_of_le p_4.lt u1_0)
  have ne1_d : d ≠ x1_y := Nat.ne_of_lt (Nat.lt_of_lt_of_le p_8.lt u1_0)
  have sz1_y : h0.size ≤ x1_y := Nat.le_trans (Keep.refl h0 [s9]).1 u1_0
  have gg1_y : n0 ≤ x1_y := Nat.le_trans Z0 u1_0
  refine own_st (fun _ kk_ => st1.trans kk_) ?_
  show own_Goes _ _ _ _ _ _ _ T1 (mkF m 6 #[rv s9, rv o] [])
  refine own_ret0 X1 hx hlk Bd.returns (hb hby d47_6) (by decide) (by decide) ?_
  show Q47 Z s9 o d kd vs1 cn cs h0 n0 none T1.heap _
  exact ⟨x1_y, x1_ky, rfl, N1, K1, u1_0, u1_1, u1_2, u1_3, u1_4⟩
abbrev rRrm46 : Room := { frames := 5, cells := 2, slots := 11, locals := 79 }
theorem d46_0 : decode jdk_67_method_42_code 0 = .ok (.new 18, 3) := by decide +kernel
theorem d46_3 : decode jdk_67_method_42_code 3 = .ok (.dup, 1) := by decide +kernel
theorem d46_4 : decode jdk_67_method_42_code 4 = .ok (.aload_n 0, 1) := by decide +kernel
theorem d46_5 : decode jdk_67_method_42_code 5 = .ok (.invokespecial 137, 3) := by decide +kernel
theorem d46_8 : decode jdk_67_method_42_code 8 = .ok (.areturn, 1) := by decide +kernel
theorem pd_25 : parseMethodDescriptor "(Ljava/lang/StringBuilder;)V" = some ⟨[(.object "java/lang/StringBuilder")], none⟩ := by decide +kernel
theorem pn_rm46 : plainFor yy45 = true := by first | exact plainFor_of_name (by first | (simp [plainName, overriddenIn]; done) | decide +kernel) | decide +kernel
theorem ef_rm46 (m : MethodId) (o : Addr) : entryFrame m #[(.ref o)] 1 = (mkF m 0 #[rv o] []) := by first | (simp [entryFrame, mkF, argsToLocals, Value.category]; done) | rfl
def Q46 (Z : State) (o : Addr) (d : Addr) (kd : ClassId) (vs1 : List Value) (cn : Int32) (cs : Int32) (h0 : Heap) (n0 : Nat) (v_ : Option Value) (h_ : Heap) (L_ : List Loc) : Prop := ∃ s9 : Addr, ∃ y : Addr, ∃ ky : ClassId, (v_ = some (.ref s9)) ∧ (Fr n0 L_) ∧ (Keep h0 h_ []) ∧ (h0.size ≤ s9) ∧ (Exa Z h_ s9 "java/lang/String") ∧ (Fld Z h_ s9 "java/lang/String" "coder" "B" (.int (0 : Int32))) ∧ (Fld Z h_ s9 "java/lang/String" "value" "[B" (.ref y)) ∧ (Arv Z h_ y ky .byte cn (own_cp vs1 own_z7 (0 : Int32) (0 : Int32) cn (.int (0 : Int32))) (.int (0 : Int32)))
set_option maxRecDepth 65536 in
set_option maxHeartbeats 40000000 in
theorem rm46 (l : Launch) (Z : State) (a0 : Array Value) (hw : ∀ d ∈ tables_1, d.before a0 Z = true) (ws : List Jvm.Cond) (o : Addr) (d : Addr) (kd : ClassId) (vs1 : List Value) (cn : Int32) (cs : Int32) (h0 : Heap) (n0 : Nat) (Z0 : n0 ≤ h0.size) (p_0 : Exa Z h0 o "java/lang/StringBuilder") (p_1 : Fld Z h0 o "java/lang/AbstractStringBuilder" "value" "[B" (.ref d)) (p_2 : Fld Z h0 o "java/lang/AbstractStringBuilder" "coder" "B" (.int (0 : Int32))) (p_3 : Fld Z h0 o "java/lang/AbstractStringBuilder" "count" "I" (.int cn)) (p_4 : Arv Z h0 d kd .byte (16 : Int32) vs1 (.int (0 : Int32))) (p_5 : Sta Z h0 "java/lang/String" "COMPACT_STRINGS" "Z" (.int cs)) (hcs : ¬ cs = (0 : Int32)) (hq : own_cn cn) :
    MetFree l yy45 (head1 (Jvm.Cond.code yy45 jdk_67_method_42_code 1 (some (.object "java/lang/String")) :: ws) rRrm46) (fun a_ U_ => a_ = #[(.ref o)] ∧ Z.Warmed39 U_.vm ∧ U_.heap = h0) (fun _ _ _ _ _ => True) (fun _ U_ o_ U1_ => ∃ v_ L_, o_ = .returned v_ ∧ Q46 Z o d kd vs1 cn cs h0 n0 v_ U1_.heap L_ ∧ FrameEnd U_ o_ U1_ L_ rRrm46.cells rRrm46.slots) := by
  refine MetFree.of_bodySF pn_rm46 hisR ?_
  intro p e s m args below meth c s₁ Bd hml0 hP hK
  obtain ⟨rfl, hZ, hh⟩ := hP
  have hx := Bd.exec
  have hby := Bd.bytes
  have hlk : meth.locks = false := Bd.notSynchronized
  have hml : c.maxLocals = 1 := hml0
  have hown : s.vm.findClass "java/lang/StringBuilder" = some m.cls := findClass_of_methodNamed Bd.named
  have hnm := (name_of_methodNamed Bd.named Bd.method).1
  have X0 : Stand p l e rRrm46 s m #[(.ref o)] below meth c s₁ [] 0 0 := Stand.of_body Bd
  have e0 : s₁.heap = h0 := by rw [← hh, Bd.state]; rfl
  have N0 := Fr.nil n0
  show own_Goes p e below s (Q46 Z o d kd vs1 cn cs h0 n0) rRrm46.cells rRrm46.slots s₁ (entryFrame m #[(.ref o)] 1)
  rw [ef_rm46 m o]
  show own_Goes p e below s (Q46 Z o d kd vs1 cn cs h0 n0) rRrm46.cells rRrm46.slots s₁ (mkF m 0 #[rv o] [])
  obtain ⟨T1, h1, X1, e1, E1, A1, D1, -, st1⟩ := newO X0 hx hZ hown (own_w hw 233 rfl) (own_w hw 11 rfl) (own_w hw 12 rfl) e0 (g := (mkF m 0 #[rv o] [])) rfl (hb hby d46_0) (by decide) (by decide)
  obtain ⟨b1, gx1⟩ : ∃ z, z = h0.size := ⟨_, rfl⟩
  rw [← gx1] at A1 D1 st1
  have ne1_o : o ≠ b1 := Nat.ne_of_lt (Nat.lt_of_lt_of_eq p_0.lt gx1.symm)
  have ne1_d : d ≠ b1 := Nat.ne_of_lt (Nat.lt_of_lt_of_eq p_4.lt gx1.symm)
  have gg1 : n0 ≤ b1 := Nat.le_trans Z0 (Nat.le_of_eq gx1.symm)
  have sz1 : h0.size ≤ b1 := Nat.le_trans (Keep.refl h0 []).1 (Nat.le_of_eq gx1.symm)
  have f1_0 := p_0.ext E1
  have f1_1 := p_1.ext E1
  have f1_2 := p_2.ext E1
  have f1_3 := p_3.ext E1
  have f1_4 := p_4.ext E1
  have f1_5 := p_5.ext E1
  have Zs1 : n0 ≤ h1.size := Nat.le_trans Z0 E1.1
  have K1 := (Keep.refl h0 []).ext E1
  have fn1_coder : Fld Z h1 b1 "java/lang/String" "coder" "B" (.int (0 : Int32)) := D1 (Or.inr (own_w hw 37 rfl)) (ty := .byte) (by decide)
  have fn1_value : Fld Z h1 b1 "java/lang/String" "value" "[B" .null := D1 (Or.inr (own_w hw 39 rfl)) (ty := (.array .byte)) (by decide)
  refine own_st st1 ?_
  show own_Goes _ _ _ _ _ _ _ T1 (mkF m 3 #[rv o] [(.ref b1)])
  refine own_st (fun _ kk_ => XS.dup X1.here hx rfl (hb hby d46_3) rfl rfl (XS.aloadN X1.here hx rfl (hb hby d46_4) rfl rfl kk_)) ?_
  show own_Goes _ _ _ _ _ _ _ T1 (mkF m 5 #[rv o] [(.ref o), (.ref b1), (.ref b1)])
  obtain ⟨_, _, ⟨T2, L2, k2, n2⟩, -, X2, ⟨Lc2, hQ2, l2, y2, z2⟩, st2⟩ := X1.specialBack hx (y := yy44) rfl hown (mvT hZ (own_w hw 234 rfl)) (mvT hZ (own_w hw 235 rfl)) (mvT hZ (own_w hw 236 rfl)) (by decide) (backOf (W := 1) (rm47 l Z a0 hw [] (b1) (o) (d) (kd) (vs1) (cn) (cs) h1 n0 Zs1 A1 fn1_value fn1_coder gg1 f1_0 f1_1 f1_2 f1_3 f1_4 f1_5 (by assumption) (Ne.symm ne1_o) (Ne.symm ne1_d) hq) hZ (own_w hw 236 rfl) (own_w hw 12 rfl) (by decide) (by decide)) (g := (mkF m 5 #[rv o] [(.ref o), (.ref b1), (.ref b1)])) rfl (by rw [hml]; rfl) (Steps.refl _) (a := b1) (argsL := [(.ref o)]) (rest := [(.ref b1)]) (lenOf pd_25 rfl) rfl (by show 2 * 0 + _ ≤ _; exact Nat.le_of_eq rfl) (hb hby d46_5) (fun _ _ => ⟨rfl, e1, (by decide : 1 + 1 ≤ _), (by decide : 4 + 7 ≤ _)⟩)
  dsimp only [Pt.U, Pt.locs, Pt.cells, Pt.slots] at X2 l2 y2 z2 st2 hQ2
  subst l2 y2 z2
  obtain ⟨x2_y, x2_ky, rfl, Nq2, Kq2, u2_0, u2_1, u2_2, u2_3, u2_4⟩ := hQ2
  have N2 := Fr.app N0 Nq2
  have f2_0 := f1_0.keep Kq2
  have f2_1 := f1_1.keep Kq2 (ninS ne1_o nin0)
  have f2_2 := f1_2.keep Kq2 (ninS ne1_o nin0)
  have f2_3 := f1_3.keep Kq2 (ninS ne1_o nin0)
  have f2_4 := f1_4.keep Kq2 (ninS ne1_d nin0)
  have f2_5 := own_Sta_keep f1_5 Kq2 (nsS A1.nostat ns0)
  have f2_6 := A1.keep Kq2
  have Zs2 : n0 ≤ T2.heap.size := Nat.le_trans Zs1 Kq2.1
  have K2 := K1.trans Kq2 (allS (Or.inr sz1) all0)
  have ne2_o : o ≠ x2_y := Nat.ne_of_lt (Nat.lt_of_lt_of_le f1_0.lt u2_0)
  have ne2_d : d ≠ x2_y := Nat.ne_of_lt (Nat.lt_of_lt_of_le f1_4.lt u2_0)
  have ne2_b1 : b1 ≠ x2_y := Nat.ne_of_lt (Nat.lt_of_lt_of_le A1.lt u2_0)
  have sz2_y : h0.size ≤ x2_y := Nat.le_trans K1.1 u2_0
  have gg2_y : n0 ≤ x2_y := Nat.le_trans Zs1 u2_0
  refine own_st (fun _ kk_ => st2.trans kk_) ?_
  show own_Goes _ _ _ _ _ _ _ T2 (mkF m 8 #[rv o] [(.ref b1)])
  refine own_retA X2 hx hlk rfl Bd.returns rfl (hb hby d46_8) (by decide) (by decide) ?_
  show Q46 Z o d kd vs1 cn cs h0 n0 (some (.ref b1)) T2.heap _
  exact ⟨b1, x2_y, x2_ky, rfl, N2, K2, sz1, u2_1, u2_2, u2_3, u2_4⟩
def own_t (c : Int32) : Prop := 1 ≤ c.toInt ∧ c.toInt ≤ 3
theorem own_t.a {c : Int32} (h : own_t c) : own_fit 0 c := by unfold own_t at h; unfold own_fit; simp only [Int32.reduceToInt]; omega
theorem own_t.s {c : Int32} (h : own_t c) : ((0 : Int32) + c).toInt = c.toInt := by
  have q := c_iadd 0 c; have := ((0 : Int32) + c).le_toInt; have := ((0 : Int32) + c).toInt_lt; unfold own_t at h; simp only [Int32.reduceToInt] at q; omega
theorem own_t.u {c : Int32} (h : own_t c) : ((0 : Int32) + c + 1).toInt = c.toInt + 1 := by
  have q := c_iadd ((0 : Int32) + c) 1; have r := h.s; have := ((0 : Int32) + c + 1).le_toInt; have := ((0 : Int32) + c + 1).toInt_lt; unfold own_t at h; simp only [Int32.reduceToInt] at q; omega
theorem own_t.b {c : Int32} (h : own_t c) : own_fit ((0 : Int32) + c) 1 := by have r := h.s; unfold own_t at h; unfold own_fit; simp only [Int32.reduceToInt]; omega
theorem own_t.c {c n : Int32} (h : own_t c) (g : own_t n) : own_fit ((0 : Int32) + c + 1) n := by have r := h.u; unfold own_t at h g; unfold own_fit; omega
theorem own_t.d {c n : Int32} (h : own_t c) (g : own_t n) : own_cn ((0 : Int32) + c + 1 + n) := by
  have q := c_iadd ((0 : Int32) + c + 1) n; have r := h.u; have := ((0 : Int32) + c + 1 + n).le_toInt; have := ((0 : Int32) + c + 1 + n).toInt_lt; unfold own_t at h g; unfold own_cn; omega
theorem own_l1 {c : Int32} {vs : List Value} (h : own_t c) : 16 ≤ (own_cp vs own_z16 0 0 c (.int (0 : Int32))).length := by rw [own_cpl (h.a.l (vs := own_z16) (Nat.le_refl 16))]; exact Nat.le_refl 16
theorem own_l2 {vs : List Value} {i : Nat} {v : Value} (h : 16 ≤ vs.length) : 16 ≤ (List.set vs i v).length := by rw [List.length_set]; exact h
abbrev rRrm33 : Room := { frames := 6, cells := 4, slots := 31, locals := 91 }
theorem d33_0 : decode prog_3_method_2_code 0 = .ok (.new 24, 3) := by decide +kernel
theorem d33_3 : decode prog_3_method_2_code 3 = .ok (.dup, 1) := by decide +kernel
theorem d33_4 : decode prog_3_method_2_code 4 = .ok (.invokespecial 26, 3) := by decide +kernel
theorem d33_7 : decode prog_3_method_2_code 7 = .ok (.aload_n 0, 1) := by decide +kernel
theorem d33_8 : decode prog_3_method_2_code 8 = .ok (.getfield 17, 3) := by decide +kernel
theorem d33_11 : decode prog_3_method_2_code 11 = .ok (.invokevirtual 27, 3) := by decide +kernel
theorem d33_14 : decode prog_3_method_2_code 14 = .ok (.bipush 61, 2) := by decide +kernel
theorem d33_16 : decode prog_3_method_2_code 16 = .ok (.invokevirtual 31, 3) := by decide +kernel
theorem d33_19 : decode prog_3_method_2_code 19 = .ok (.aload_n 0, 1) := by decide +kernel
theorem d33_20 : decode prog_3_method_2_code 20 = .ok (.getfield 22, 3) := by decide +kernel
theorem d33_23 : decode prog_3_method_2_code 23 = .ok (.invokevirtual 27, 3) := by decide +kernel
theorem d33_26 : decode prog_3_method_2_code 26 = .ok (.invokevirtual 34, 3) := by decide +kernel
theorem d33_29 : decode prog_3_method_2_code 29 = .ok (.areturn, 1) := by decide +kernel
theorem pd_26 : parseMethodDescriptor "()V" = some ⟨[], none⟩ := by decide +kernel
theorem pd_27 : parseMethodDescriptor "(Ljava/lang/String;)Ljava/lang/StringBuilder;" = some ⟨[(.object "java/lang/String")], some (.object "java/lang/StringBuilder")⟩ := by decide +kernel
theorem pd_28 : parseMethodDescriptor "(C)Ljava/lang/StringBuilder;" = some ⟨[.char], some (.object "java/lang/StringBuilder")⟩ := by decide +kernel
theorem pn_rm33 : plainFor yy46 = true := by first | exact plainFor_of_name (by first | (simp [plainName, overriddenIn]; done) | decide +kernel) | decide +kernel
theorem ef_rm33 (m : MethodId) (pr : Addr) : entryFrame m #[(.ref pr)] 1 = (mkF m 0 #[rv pr] []) := by first | (simp [entryFrame, mkF, argsToLocals, Value.category]; done) | rfl
def Q33 (Z : State) (pr : Addr) (aa1 : Addr) (aa2 : Addr) (ba : Addr) (bz : Addr) (na : Int32) (nz : Int32) (va : List Value) (vb : List Value) (ka : ClassId) (kb : ClassId) (cs : Int32) (h0 : Heap) (n0 : Nat) (v_ : Option Value) (h_ : Heap) (L_ : List Loc) : Prop := ∃ s9 : Addr, ∃ y : Addr, ∃ ky : ClassId, (v_ = some (.ref s9)) ∧ (Fr n0 L_) ∧ (Keep h0 h_ []) ∧ (h0.size ≤ s9) ∧ (Exa Z h_ s9 "java/lang/String") ∧ (Fld Z h_ s9 "java/lang/String" "coder" "B" (.int (0 : Int32))) ∧ (Fld Z h_ s9 "java/lang/String" "value" "[B" (.ref y)) ∧ (Arv Z h_ y ky .byte ((0 : Int32) + na + (1 : Int32) + nz) (own_cp (own_cp vb (List.set (own_cp va own_z16 (0 : Int32) (0 : Int32) na (.int (0 : Int32))) ((0 : Int32) + na).toNatClampNeg (.int (nar .byte ((61 : Int32).toInt8.toInt32)))) (0 : Int32) ((0 : Int32) + na + (1 : Int32)) nz (.int (0 : Int32))) own_z7 (0 : Int32) (0 : Int32) ((0 : Int32) + na + (1 : Int32) + nz) (.int (0 : Int32))) (.int (0 : Int32)))
set_option maxRecDepth 65536 in
set_option maxHeartbeats 40000000 in
theorem rm33 (l : Launch) (Z : State) (a0 : Array Value) (hw : ∀ d ∈ tables_1, d.before a0 Z = true) (ws : List Jvm.Cond) (pr : Addr) (aa1 : Addr) (aa2 : Addr) (ba : Addr) (bz : Addr) (na : Int32) (nz : Int32) (va : List Value) (vb : List Value) (ka : ClassId) (kb : ClassId) (cs : Int32) (h0 : Heap) (n0 : Nat) (Z0 : n0 ≤ h0.size) (p_0 : Exa Z h0 pr "com/example/firm_duties/firmduties/BusinessContext$Pair") (p_1 : Fld Z h0 pr "com/example/firm_duties/firmduties/BusinessContext$Pair" "type" "Ljava/lang/String;" (.ref aa1)) (p_2 : Fld Z h0 pr "com/example/firm_duties/firmduties/BusinessContext$Pair" "value" "Ljava/lang/String;" (.ref aa2)) (p_3 : Exa Z h0 aa1 "java/lang/String") (p_4 : Fld Z h0 aa1 "java/lang/String" "coder" "B" (.int (0 : Int32))) (p_5 : Fld Z h0 aa1 "java/lang/String" "value" "[B" (.ref ba)) (p_6 : Arv Z h0 ba ka .byte na va (.int (0 : Int32))) (p_7 : Exa Z h0 aa2 "java/lang/String") (p_8 : Fld Z h0 aa2 "java/lang/String" "coder" "B" (.int (0 : Int32))) (p_9 : Fld Z h0 aa2 "java/lang/String" "value" "[B" (.ref bz)) (p_10 : Arv Z h0 bz kb .byte nz vb (.int (0 : Int32))) (p_11 : Sta Z h0 "java/lang/String" "COMPACT_STRINGS" "Z" (.int cs)) (hcs : ¬ cs = (0 : Int32)) (ta : own_t na) (tz : own_t nz) :
    MetFree l yy46 (head1 (Jvm.Cond.code yy46 prog_3_method_2_code 1 (some (.object "java/lang/String")) :: ws) rRrm33) (fun a_ U_ => a_ = #[(.ref pr)] ∧ Z.Warmed39 U_.vm ∧ U_.heap = h0) (fun _ _ _ _ _ => True) (fun _ U_ o_ U1_ => ∃ v_ L_, o_ = .returned v_ ∧ Q33 Z pr aa1 aa2 ba bz na nz va vb ka kb cs h0 n0 v_ U1_.heap L_ ∧ FrameEnd U_ o_ U1_ L_ rRrm33.cells rRrm33.slots) := by
  refine MetFree.of_bodySF pn_rm33 hisR ?_
  intro p e s m args below meth c s₁ Bd hml0 hP hK
  obtain ⟨rfl, hZ, hh⟩ := hP
  have hx := Bd.exec
  have hby := Bd.bytes
  have hlk : meth.locks = false := Bd.notSynchronized
  have hml : c.maxLocals = 1 := hml0
  have hown : s.vm.findClass "com/example/firm_duties/firmduties/BusinessContext$Pair" = some m.cls := findClass_of_methodNamed Bd.named
  have hnm := (name_of_methodNamed Bd.named Bd.method).1
  have X0 : Stand p l e rRrm33 s m #[(.ref pr)] below meth c s₁ [] 0 0 := Stand.of_body Bd
  have e0 : s₁.heap = h0 := by rw [← hh, Bd.state]; rfl
  have N0 := Fr.nil n0
  show own_Goes p e below s (Q33 Z pr aa1 aa2 ba bz na nz va vb ka kb cs h0 n0) rRrm33.cells rRrm33.slots s₁ (entryFrame m #[(.ref pr)] 1)
  rw [ef_rm33 m pr]
  show own_Goes p e below s (Q33 Z pr aa1 aa2 ba bz na nz va vb ka kb cs h0 n0) rRrm33.cells rRrm33.slots s₁ (mkF m 0 #[rv pr] [])
  obtain ⟨T1, h1, X1, e1, E1, A1, D1, -, st1⟩ := newO X0 hx hZ hown (own_w hw 155 rfl) (own_w hw 156 rfl) (own_w hw 157 rfl) e0 (g := (mkF m 0 #[rv pr] [])) rfl (hb hby d33_0) (by decide) (by decide)
  obtain ⟨b1, gx1⟩ : ∃ z, z = h0.size := ⟨_, rfl⟩
  rw [← gx1] at A1 D1 st1
  have ne1_pr : pr ≠ b1 := Nat.ne_of_lt (Nat.lt_of_lt_of_eq p_0.lt gx1.symm)
  have ne1_aa1 : aa1 ≠ b1 := Nat.ne_of_lt (Nat.lt_of_lt_of_eq p_3.lt gx1.symm)
  have ne1_ba : ba ≠ b1 := Nat.ne_of_lt (Nat.lt_of_lt_of_eq p_6.lt gx1.symm)
  have ne1_aa2 : aa2 ≠ b1 := Nat.ne_of_lt (Nat.lt_of_lt_of_eq p_7.lt gx1.symm)
  have ne1_bz : bz ≠ b1 := Nat.ne_of_lt (Nat.lt_of_lt_of_eq p_10.lt gx1.symm)
  have gg1 : n0 ≤ b1 := Nat.le_trans Z0 (Nat.le_of_eq gx1.symm)
  have sz1 : h0.size ≤ b1 := Nat.le_trans (Keep.refl h0 []).1 (Nat.le_of_eq gx1.symm)
  have f1_0 := p_0.ext E1
  have f1_1 := p_1.ext E1
  have f1_2 := p_2.ext E1
  have f1_3 := p_3.ext E1
  have f1_4 := p_4.ext E1
  have f1_5 := p_5.ext E1
  have f1_6 := p_6.ext E1
  have f1_7 := p_7.ext E1
  have f1_8 := p_8.ext E1
  have f1_9 := p_9.ext E1
  have f1_10 := p_10.ext E1
  have f1_11 := p_11.ext E1
  have Zs1 : n0 ≤ h1.size := Nat.le_trans Z0 E1.1
  have K1 := (Keep.refl h0 []).ext E1
  have fn1_value : Fld Z h1 b1 "java/lang/AbstractStringBuilder" "value" "[B" .null := D1 (Or.inl (own_w hw 170 rfl)) (ty := (.array .byte)) (by decide)
  have fn1_coder : Fld Z h1 b1 "java/lang/AbstractStringBuilder" "coder" "B" (.int (0 : Int32)) := D1 (Or.inl (own_w hw 172 rfl)) (ty := .byte) (by decide)
  have fn1_count : Fld Z h1 b1 "java/lang/AbstractStringBuilder" "count" "I" (.int (0 : Int32)) := D1 (Or.inl (own_w hw 185 rfl)) (ty := .int) (by decide)
  refine own_st st1 ?_
  show own_Goes _ _ _ _ _ _ _ T1 (mkF m 3 #[rv pr] [(.ref b1)])
  refine own_st (fun _ kk_ => XS.dup X1.here hx rfl (hb hby d33_3) rfl rfl kk_) ?_
  show own_Goes _ _ _ _ _ _ _ T1 (mkF m 4 #[rv pr] [(.ref b1), (.ref b1)])
  obtain ⟨_, _, ⟨T2, L2, k2, n2⟩, -, X2, ⟨Lc2, hQ2, l2, y2, z2⟩, st2⟩ := X1.specialBack hx (y := yy36) rfl hown (mvT hZ (own_w hw 158 rfl)) (mvT hZ (own_w hw 159 rfl)) (mvT hZ (own_w hw 160 rfl)) (by decide) (backOf (W := 1) (rm34 l Z a0 hw [] (b1) (cs) h1 n0 Zs1 A1 fn1_value fn1_coder fn1_count gg1 f1_11 (by assumption)) hZ (own_w hw 160 rfl) (own_w hw 157 rfl) (by decide) (by decide)) (g := (mkF m 4 #[rv pr] [(.ref b1), (.ref b1)])) rfl (by rw [hml]; rfl) (Steps.refl _) (a := b1) (argsL := []) (rest := [(.ref b1)]) (lenOf pd_26 rfl) rfl (by show 2 * 0 + _ ≤ _; exact Nat.le_of_eq rfl) (hb hby d33_4) (fun _ _ => ⟨rfl, e1, (by decide : 1 + 1 ≤ _), (by decide : 4 + 16 ≤ _)⟩)
  dsimp only [Pt.U, Pt.locs, Pt.cells, Pt.slots] at X2 l2 y2 z2 st2 hQ2
  subst l2 y2 z2
  obtain ⟨x2_y, x2_ky, rfl, Nq2, Kq2, u2_0, u2_1, u2_2, u2_3, u2_4, u2_5⟩ := hQ2
  have N2 := Fr.app N0 Nq2
  have f2_0 := f1_0.keep Kq2
  have f2_1 := f1_1.keep Kq2 (ninS ne1_pr nin0)
  have f2_2 := f1_2.keep Kq2 (ninS ne1_pr nin0)
  have f2_3 := f1_3.keep Kq2
  have f2_4 := f1_4.keep Kq2 (ninS ne1_aa1 nin0)
  have f2_5 := f1_5.keep Kq2 (ninS ne1_aa1 nin0)
  have f2_6 := f1_6.keep Kq2 (ninS ne1_ba nin0)
  have f2_7 := f1_7.keep Kq2
  have f2_8 := f1_8.keep Kq2 (ninS ne1_aa2 nin0)
  have f2_9 := f1_9.keep Kq2 (ninS ne1_aa2 nin0)
  have f2_10 := f1_10.keep Kq2 (ninS ne1_bz nin0)
  have f2_11 := own_Sta_keep f1_11 Kq2 (nsS A1.nostat ns0)
  have f2_12 := A1.keep Kq2
  have Zs2 : n0 ≤ T2.heap.size := Nat.le_trans Zs1 Kq2.1
  have K2 := K1.trans Kq2 (allS (Or.inr sz1) all0)
  have ne2_pr : pr ≠ x2_y := Nat.ne_of_lt (Nat.lt_of_lt_of_le f1_0.lt u2_0)
  have ne2_aa1 : aa1 ≠ x2_y := Nat.ne_of_lt (Nat.lt_of_lt_of_le f1_3.lt u2_0)
  have ne2_ba : ba ≠ x2_y := Nat.ne_of_lt (Nat.lt_of_lt_of_le f1_6.lt u2_0)
  have ne2_aa2 : aa2 ≠ x2_y := Nat.ne_of_lt (Nat.lt_of_lt_of_le f1_7.lt u2_0)
  have ne2_bz : bz ≠ x2_y := Nat.ne_of_lt (Nat.lt_of_lt_of_le f1_10.lt u2_0)
  have ne2_b1 : b1 ≠ x2_y := Nat.ne_of_lt (Nat.lt_of_lt_of_le A1.lt u2_0)
  have sz2_y : h0.size ≤ x2_y := Nat.le_trans K1.1 u2_0
  have gg2_y : n0 ≤ x2_y := Nat.le_trans Zs1 u2_0
  refine own_st (fun _ kk_ => st2.trans kk_) ?_
  show own_Goes _ _ _ _ _ _ _ T2 (mkF m 7 #[rv pr] [(.ref b1)])
  refine own_st (fun _ kk_ => XS.aloadN X2.here hx rfl (hb hby d33_7) rfl rfl kk_) ?_
  show own_Goes _ _ _ _ _ _ _ T2 (mkF m 8 #[rv pr] [(.ref pr), (.ref b1)])
  obtain ⟨T3, X3, e3, st3⟩ := getF X2 hx hZ hown (host := "") (Or.inl (own_w hw 146 rfl)) Via.refl rfl f2_1 (g := (mkF m 8 #[rv pr] [(.ref pr), (.ref b1)])) rfl rfl (hb hby d33_8)
  refine own_st st3 ?_
  show own_Goes _ _ _ _ _ _ _ T3 (mkF m 11 #[rv pr] [(.ref aa1), (.ref b1)])
  obtain ⟨cq4, kq4, q4a, q4b, q4c⟩ := isOf hZ e3 u2_1
  obtain ⟨_, _, ⟨T4, L4, k4, n4⟩, -, X4, ⟨Lc4, hQ4, l4, y4, z4⟩, st4⟩ := X3.virtualBack hx (y := yy30) (z := yy30) hown (mvT hZ (own_w hw 173 rfl)) (mvT hZ (own_w hw 174 rfl)) (notFace_of_selects (args := #[]) (mvT hZ (own_w hw 176 rfl))) (mvT hZ (own_w hw 176 rfl)) (mvT hZ (own_w hw 175 rfl)) (by decide) (backOf (W := 0) (rm36 l Z a0 hw [] (b1) (aa1) (x2_y) (x2_ky) (own_z16) (ba) (ka) (na) (va) ((0 : Int32)) (cs) T2.heap n0 Zs2 u2_1 u2_2 u2_3 u2_4 gg1 gg2_y u2_5 f2_3 f2_4 f2_5 f2_6 f2_11 (by assumption) ta.a (Nat.le_refl 16) ne2_b1 (Ne.symm ne1_aa1) (Ne.symm ne1_ba)) hZ (own_w hw 177 rfl) (own_w hw 157 rfl) (by decide) (by decide)) q4a q4c (g := (mkF m 11 #[rv pr] [(.ref aa1), (.ref b1)])) rfl (by rw [hml]; rfl) (Steps.refl _) (argsL := [(.ref aa1)]) (rest := []) (lenOf pd_27 rfl) rfl (by show 2 * 0 + _ ≤ _; exact Nat.le_of_eq rfl) (hb hby d33_11) (fun _ _ => ⟨rfl, e3, (by decide : 2 + 0 ≤ _), (by decide : 20 + 0 ≤ _)⟩)
  dsimp only [Pt.U, Pt.locs, Pt.cells, Pt.slots] at X4 l4 y4 z4 st4 hQ4
  subst l4 y4 z4
  obtain ⟨rfl, Nq4, Kq4, u4_0, u4_1, u4_2, u4_3, u4_4⟩ := hQ4
  have N4 := Fr.app N2 Nq4
  have f4_0 := f2_0.keep Kq4
  have f4_1 := f2_1.keep Kq4 (ninS ne1_pr (ninS ne2_pr nin0))
  have f4_2 := f2_2.keep Kq4 (ninS ne1_pr (ninS ne2_pr nin0))
  have f4_3 := f2_3.keep Kq4
  have f4_4 := f2_4.keep Kq4 (ninS ne1_aa1 (ninS ne2_aa1 nin0))
  have f4_5 := f2_5.keep Kq4 (ninS ne1_aa1 (ninS ne2_aa1 nin0))
  have f4_6 := f2_6.keep Kq4 (ninS ne1_ba (ninS ne2_ba nin0))
  have f4_7 := f2_7.keep Kq4
  have f4_8 := f2_8.keep Kq4 (ninS ne1_aa2 (ninS ne2_aa2 nin0))
  have f4_9 := f2_9.keep Kq4 (ninS ne1_aa2 (ninS ne2_aa2 nin0))
  have f4_10 := f2_10.keep Kq4 (ninS ne1_bz (ninS ne2_bz nin0))
  have f4_11 := own_Sta_keep f2_11 Kq4 (nsS u2_1.nostat (nsS u2_5.nostat ns0))
  have f4_12 := u2_1.keep Kq4
  have Zs4 : n0 ≤ T4.heap.size := Nat.le_trans Zs2 Kq4.1
  have K4 := K2.trans Kq4 (allS (Or.inr sz1) (allS (Or.inr sz2_y) all0))
  refine own_st (fun _ kk_ => st4.trans kk_) ?_
  show own_Goes _ _ _ _ _ _ _ T4 (mkF m 14 #[rv pr] [(.ref b1)])
  refine own_st (fun _ kk_ => XS.bipush X4.here hx rfl (hb hby d33_14) kk_) ?_
  show own_Goes _ _ _ _ _ _ _ T4 (mkF m 16 #[rv pr] [(.int (61 : Int32)), (.ref b1)])
  obtain ⟨cq5, kq5, q5a, q5b, q5c⟩ := isOf hZ rfl u4_0
  obtain ⟨_, _, ⟨T5, L5, k5, n5⟩, -, X5, ⟨Lc5, hQ5, l5, y5, z5⟩, st5⟩ := X4.virtualBack hx (y := yy34) (z := yy34) hown (mvT hZ (own_w hw 211 rfl)) (mvT hZ (own_w hw 212 rfl)) (notFace_of_selects (args := #[]) (mvT hZ (own_w hw 214 rfl))) (mvT hZ (own_w hw 214 rfl)) (mvT hZ (own_w hw 213 rfl)) (by decide) (backOf (W := 0) (rm42 l Z a0 hw [] (b1) (x2_y) (x2_ky) ((own_cp va own_z16 (0 : Int32) (0 : Int32) na (.int (0 : Int32)))) (((0 : Int32) + na)) (cs) T4.heap n0 Zs4 u4_0 u4_1 u4_2 u4_3 gg1 gg2_y u4_4 f4_11 (by assumption) ta.b (own_l1 ta) ne2_b1) hZ (own_w hw 215 rfl) (own_w hw 157 rfl) (by decide) (by decide)) q5a q5c (g := (mkF m 16 #[rv pr] [(.int (61 : Int32)), (.ref b1)])) rfl (by rw [hml]; rfl) (Steps.refl _) (argsL := [(.int (61 : Int32))]) (rest := []) (lenOf pd_28 rfl) rfl (by show 2 * 0 + _ ≤ _; exact Nat.le_of_eq rfl) (hb hby d33_16) (fun _ _ => ⟨rfl, rfl, (by decide : 2 + 0 ≤ _), (by decide : 20 + 0 ≤ _)⟩)
  dsimp only [Pt.U, Pt.locs, Pt.cells, Pt.slots] at X5 l5 y5 z5 st5 hQ5
  subst l5 y5 z5
  obtain ⟨rfl, Nq5, Kq5, u5_0, u5_1, u5_2, u5_3, u5_4⟩ := hQ5
  have N5 := Fr.app N4 Nq5
  have f5_0 := f4_0.keep Kq5
  have f5_1 := f4_1.keep Kq5 (ninS ne1_pr (ninS ne2_pr nin0))
  have f5_2 := f4_2.keep Kq5 (ninS ne1_pr (ninS ne2_pr nin0))
  have f5_3 := f4_3.keep Kq5
  have f5_4 := f4_4.keep Kq5 (ninS ne1_aa1 (ninS ne2_aa1 nin0))
  have f5_5 := f4_5.keep Kq5 (ninS ne1_aa1 (ninS ne2_aa1 nin0))
  have f5_6 := f4_6.keep Kq5 (ninS ne1_ba (ninS ne2_ba nin0))
  have f5_7 := f4_7.keep Kq5
  have f5_8 := f4_8.keep Kq5 (ninS ne1_aa2 (ninS ne2_aa2 nin0))
  have f5_9 := f4_9.keep Kq5 (ninS ne1_aa2 (ninS ne2_aa2 nin0))
  have f5_10 := f4_10.keep Kq5 (ninS ne1_bz (ninS ne2_bz nin0))
  have f5_11 := own_Sta_keep f4_11 Kq5 (nsS u4_0.nostat (nsS u4_4.nostat ns0))
  have f5_12 := u4_0.keep Kq5
  have Zs5 : n0 ≤ T5.heap.size := Nat.le_trans Zs4 Kq5.1
  have K5 := K4.trans Kq5 (allS (Or.inr sz1) (allS (Or.inr sz2_y) all0))
  refine own_st (fun _ kk_ => st5.trans kk_) ?_
  show own_Goes _ _ _ _ _ _ _ T5 (mkF m 19 #[rv pr] [(.ref b1)])
  refine own_st (fun _ kk_ => XS.aloadN X5.here hx rfl (hb hby d33_19) rfl rfl kk_) ?_
  show own_Goes _ _ _ _ _ _ _ T5 (mkF m 20 #[rv pr] [(.ref pr), (.ref b1)])
  obtain ⟨T6, X6, e6, st6⟩ := getF X5 hx hZ hown (host := "") (Or.inl (own_w hw 148 rfl)) Via.refl rfl f5_2 (g := (mkF m 20 #[rv pr] [(.ref pr), (.ref b1)])) rfl rfl (hb hby d33_20)
  refine own_st st6 ?_
  show own_Goes _ _ _ _ _ _ _ T6 (mkF m 23 #[rv pr] [(.ref aa2), (.ref b1)])
  obtain ⟨cq7, kq7, q7a, q7b, q7c⟩ := isOf hZ e6 u5_0
  obtain ⟨_, _, ⟨T7, L7, k7, n7⟩, -, X7, ⟨Lc7, hQ7, l7, y7, z7⟩, st7⟩ := X6.virtualBack hx (y := yy30) (z := yy30) hown (mvT hZ (own_w hw 173 rfl)) (mvT hZ (own_w hw 174 rfl)) (notFace_of_selects (args := #[]) (mvT hZ (own_w hw 176 rfl))) (mvT hZ (own_w hw 176 rfl)) (mvT hZ (own_w hw 175 rfl)) (by decide) (backOf (W := 0) (rm36 l Z a0 hw [] (b1) (aa2) (x2_y) (x2_ky) ((List.set (own_cp va own_z16 (0 : Int32) (0 : Int32) na (.int (0 : Int32))) (((0 : Int32) + na)).toNatClampNeg (.int (nar .byte ((61 : Int32).toInt8.toInt32))))) (bz) (kb) (nz) (vb) ((((0 : Int32) + na) + (1 : Int32))) (cs) T5.heap n0 Zs5 u5_0 u5_1 u5_2 u5_3 gg1 gg2_y u5_4 f5_7 f5_8 f5_9 f5_10 f5_11 (by assumption) (ta.c tz) (own_l2 (own_l1 ta)) ne2_b1 (Ne.symm ne1_aa2) (Ne.symm ne1_bz)) hZ (own_w hw 177 rfl) (own_w hw 157 rfl) (by decide) (by decide)) q7a q7c (g := (mkF m 23 #[rv pr] [(.ref aa2), (.ref b1)])) rfl (by rw [hml]; rfl) (Steps.refl _) (argsL := [(.ref aa2)]) (rest := []) (lenOf pd_27 rfl) rfl (by show 2 * 0 + _ ≤ _; exact Nat.le_of_eq rfl) (hb hby d33_23) (fun _ _ => ⟨rfl, e6, (by decide : 2 + 0 ≤ _), (by decide : 20 + 0 ≤ _)⟩)
  dsimp only [Pt.U, Pt.locs, Pt.cells, Pt.slots] at X7 l7 y7 z7 st7 hQ7
  subst l7 y7 z7
  obtain ⟨rfl, Nq7, Kq7, u7_0, u7_1, u7_2, u7_3, u7_4⟩ := hQ7
  have N7 := Fr.app N5 Nq7
  have f7_0 := f5_0.keep Kq7
  have f7_1 := f5_1.keep Kq7 (ninS ne1_pr (ninS ne2_pr nin0))
  have f7_2 := f5_2.keep Kq7 (ninS ne1_pr (ninS ne2_pr nin0))
  have f7_3 := f5_3.keep Kq7
  have f7_4 := f5_4.keep Kq7 (ninS ne1_aa1 (ninS ne2_aa1 nin0))
  have f7_5 := f5_5.keep Kq7 (ninS ne1_aa1 (ninS ne2_aa1 nin0))
  have f7_6 := f5_6.keep Kq7 (ninS ne1_ba (ninS ne2_ba nin0))
  have f7_7 := f5_7.keep Kq7
  have f7_8 := f5_8.keep Kq7 (ninS ne1_aa2 (ninS ne2_aa2 nin0))
  have f7_9 := f5_9.keep Kq7 (ninS ne1_aa2 (ninS ne2_aa2 nin0))
  have f7_10 := f5_10.keep Kq7 (ninS ne1_bz (ninS ne2_bz nin0))
  have f7_11 := own_Sta_keep f5_11 Kq7 (nsS u5_0.nostat (nsS u5_4.nostat ns0))
  have f7_12 := u5_0.keep Kq7
  have Zs7 : n0 ≤ T7.heap.size := Nat.le_trans Zs5 Kq7.1
  have K7 := K5.trans Kq7 (allS (Or.inr sz1) (allS (Or.inr sz2_y) all0))
  refine own_st (fun _ kk_ => st7.trans kk_) ?_
  show own_Goes _ _ _ _ _ _ _ T7 (mkF m 26 #[rv pr] [(.ref b1)])
  obtain ⟨cq8, kq8, q8a, q8b, q8c⟩ := isOf hZ rfl u7_0
  obtain ⟨_, _, ⟨T8, L8, k8, n8⟩, -, X8, ⟨Lc8, hQ8, l8, y8, z8⟩, st8⟩ := X7.virtualBack hx (y := yy45) (z := yy45) hown (mvT hZ (own_w hw 228 rfl)) (mvT hZ (own_w hw 229 rfl)) (notFace_of_selects (args := #[]) (mvT hZ (own_w hw 231 rfl))) (mvT hZ (own_w hw 231 rfl)) (mvT hZ (own_w hw 230 rfl)) (by decide) (backOf (W := 0) (rm46 l Z a0 hw [] (b1) (x2_y) (x2_ky) ((own_cp vb (List.set (own_cp va own_z16 (0 : Int32) (0 : Int32) na (.int (0 : Int32))) (((0 : Int32) + na)).toNatClampNeg (.int (nar .byte ((61 : Int32).toInt8.toInt32)))) (0 : Int32) (((0 : Int32) + na) + (1 : Int32)) nz (.int (0 : Int32)))) (((((0 : Int32) + na) + (1 : Int32)) + nz)) (cs) T7.heap n0 Zs7 u7_0 u7_1 u7_2 u7_3 u7_4 f7_11 (by assumption) (ta.d tz)) hZ (own_w hw 232 rfl) (own_w hw 157 rfl) (by decide) (by decide)) q8a q8c (g := (mkF m 26 #[rv pr] [(.ref b1)])) rfl (by rw [hml]; rfl) (Steps.refl _) (argsL := []) (rest := []) (lenOf pd_12 rfl) rfl (by show 2 * 0 + _ ≤ _; exact Nat.le_of_eq rfl) (hb hby d33_26) (fun _ _ => ⟨rfl, rfl, (by decide : 2 + 2 ≤ _), (by decide : 20 + 11 ≤ _)⟩)
  dsimp only [Pt.U, Pt.locs, Pt.cells, Pt.slots] at X8 l8 y8 z8 st8 hQ8
  subst l8 y8 z8
  obtain ⟨x8_s9, x8_y, x8_ky, rfl, Nq8, Kq8, u8_0, u8_1, u8_2, u8_3, u8_4⟩ := hQ8
  have N8 := Fr.app N7 Nq8
  have f8_0 := f7_0.keep Kq8
  have f8_1 := f7_1.keep Kq8 nin0
  have f8_2 := f7_2.keep Kq8 nin0
  have f8_3 := f7_3.keep Kq8
  have f8_4 := f7_4.keep Kq8 nin0
  have f8_5 := f7_5.keep Kq8 nin0
  have f8_6 := f7_6.keep Kq8 nin0
  have f8_7 := f7_7.keep Kq8
  have f8_8 := f7_8.keep Kq8 nin0
  have f8_9 := f7_9.keep Kq8 nin0
  have f8_10 := f7_10.keep Kq8 nin0
  have f8_11 := own_Sta_keep f7_11 Kq8 ns0
  have f8_12 := u7_0.keep Kq8
  have f8_13 := u7_1.keep Kq8 nin0
  have f8_14 := u7_2.keep Kq8 nin0
  have f8_15 := u7_3.keep Kq8 nin0
  have f8_16 := u7_4.keep Kq8 nin0
  have Zs8 : n0 ≤ T8.heap.size := Nat.le_trans Zs7 Kq8.1
  have K8 := K7.trans Kq8 all0
  have ne8_pr : pr ≠ x8_s9 := Nat.ne_of_lt (Nat.lt_of_lt_of_le f7_0.lt u8_0)
  have ne8_aa1 : aa1 ≠ x8_s9 := Nat.ne_of_lt (Nat.lt_of_lt_of_le f7_3.lt u8_0)
  have ne8_ba : ba ≠ x8_s9 := Nat.ne_of_lt (Nat.lt_of_lt_of_le f7_6.lt u8_0)
  have ne8_aa2 : aa2 ≠ x8_s9 := Nat.ne_of_lt (Nat.lt_of_lt_of_le f7_7.lt u8_0)
  have ne8_bz : bz ≠ x8_s9 := Nat.ne_of_lt (Nat.lt_of_lt_of_le f7_10.lt u8_0)
  have ne8_b1 : b1 ≠ x8_s9 := Nat.ne_of_lt (Nat.lt_of_lt_of_le u7_0.lt u8_0)
  have ne8_x2_y : x2_y ≠ x8_s9 := Nat.ne_of_lt (Nat.lt_of_lt_of_le u7_4.lt u8_0)
  have sz8_s9 : h0.size ≤ x8_s9 := Nat.le_trans K7.1 u8_0
  have gg8_s9 : n0 ≤ x8_s9 := Nat.le_trans Zs7 u8_0
  refine own_st (fun _ kk_ => st8.trans kk_) ?_
  show own_Goes _ _ _ _ _ _ _ T8 (mkF m 29 #[rv pr] [(.ref x8_s9)])
  refine own_retA X8 hx hlk rfl Bd.returns rfl (hb hby d33_29) (by decide) (by decide) ?_
  show Q33 Z pr aa1 aa2 ba bz na nz va vb ka kb cs h0 n0 (some (.ref x8_s9)) T8.heap _
  exact ⟨x8_s9, x8_y, x8_ky, rfl, N8, K8, sz8_s9, u8_1, u8_2, u8_3, u8_4⟩
abbrev rRrm59 : Room := { frames := 0, cells := 0, slots := 0, locals := 0 }
theorem d59_0 : decode jdk_41_method_11_code 0 = .ok (.iload_n 0, 1) := by decide +kernel
theorem d59_1 : decode jdk_41_method_11_code 1 = .ok (.ifCond .lt 8, 3) := by decide +kernel
theorem d59_4 : decode jdk_41_method_11_code 4 = .ok (.iload_n 0, 1) := by decide +kernel
theorem d59_5 : decode jdk_41_method_11_code 5 = .ok (.iload_n 1, 1) := by decide +kernel
theorem d59_6 : decode jdk_41_method_11_code 6 = .ok (.if_icmp .lt 10, 3) := by decide +kernel
theorem d59_16 : decode jdk_41_method_11_code 16 = .ok (.iload_n 0, 1) := by decide +kernel
theorem d59_17 : decode jdk_41_method_11_code 17 = .ok (.ireturn, 1) := by decide +kernel
theorem pn_rm59 : plainFor yy47 = true := by first | exact plainFor_of_name (by first | (simp [plainName, overriddenIn]; done) | decide +kernel) | decide +kernel
theorem ef_rm59 (m : MethodId) (i9 : Int32) (n9 : Int32) (f9 : Value) (hr_f9 : f9.isRef = true) : entryFrame m #[(.int i9), (.int n9), f9] 3 = (mkF m 0 #[iv i9, iv n9, .val f9] []) := by
  rcases ref_cases hr_f9 with rfl | ⟨_, rfl⟩ <;> rfl
def Q59 (Z : State) (i9 : Int32) (n9 : Int32) (f9 : Value) (h0 : Heap) (n0 : Nat) (v_ : Option Value) (h_ : Heap) (L_ : List Loc) : Prop := (v_ = some (.int i9)) ∧ (Fr n0 L_) ∧ (h_ = h0)
set_option maxRecDepth 65536 in
set_option maxHeartbeats 40000000 in
theorem rm59 (l : Launch) (Z : State) (a0 : Array Value) (hw : ∀ d ∈ tables_1, d.before a0 Z = true) (ws : List Jvm.Cond) (i9 : Int32) (n9 : Int32) (f9 : Value) (hr_f9 : f9.isRef = true) (h0 : Heap) (n0 : Nat) (Z0 : n0 ≤ h0.size) (hx1 : ¬ i9 < (0 : Int32)) (hx2 : i9 < n9) :
    MetFree l yy47 (head1 (Jvm.Cond.code yy47 jdk_41_method_11_code 3 (some .int) :: ws) rRrm59) (fun a_ U_ => a_ = #[(.int i9), (.int n9), f9] ∧ Z.Warmed39 U_.vm ∧ U_.heap = h0) (fun _ _ _ _ _ => True) (fun _ U_ o_ U1_ => ∃ v_ L_, o_ = .returned v_ ∧ Q59 Z i9 n9 f9 h0 n0 v_ U1_.heap L_ ∧ FrameEnd U_ o_ U1_ L_ rRrm59.cells rRrm59.slots) := by
  refine MetFree.of_bodySF pn_rm59 hisR ?_
  intro p e s m args below meth c s₁ Bd hml0 hP hK
  obtain ⟨rfl, hZ, hh⟩ := hP
  have hx := Bd.exec
  have hby := Bd.bytes
  have hlk : meth.locks = false := Bd.notSynchronized
  have hml : c.maxLocals = 3 := hml0
  have hown : s.vm.findClass "jdk/internal/util/Preconditions" = some m.cls := findClass_of_methodNamed Bd.named
  have hnm := (name_of_methodNamed Bd.named Bd.method).1
  have X0 : Stand p l e rRrm59 s m #[(.int i9), (.int n9), f9] below meth c s₁ [] 0 0 := Stand.of_body Bd
  have e0 : s₁.heap = h0 := by rw [← hh, Bd.state]; rfl
  have N0 := Fr.nil n0
  show own_Goes p e below s (Q59 Z i9 n9 f9 h0 n0) rRrm59.cells rRrm59.slots s₁ (entryFrame m #[(.int i9), (.int n9), f9] 3)
  rw [ef_rm59 m i9 n9 f9 hr_f9]
  show own_Goes p e below s (Q59 Z i9 n9 f9 h0 n0) rRrm59.cells rRrm59.slots s₁ (mkF m 0 #[iv i9, iv n9, .val f9] [])
  refine own_st (fun _ kk_ => XS.iloadN X0.here hx rfl (hb hby d59_0) rfl (XS.ifNo X0.here hx rfl (hb hby d59_1) rfl (XT.i0_lt_f hx1) (XS.iloadN X0.here hx rfl (hb hby d59_4) rfl (XS.iloadN X0.here hx rfl (hb hby d59_5) rfl (XS.icmpYes X0.here hx rfl (pc0 := 6) (pc' := 16) rfl (hb hby d59_6) rfl (XT.ii_lt_t hx2) (by decide) (by decide) (XS.iloadN X0.here hx rfl (hb hby d59_16) rfl kk_)))))) ?_
  show own_Goes _ _ _ _ _ _ _ s₁ (mkF m 17 #[iv i9, iv n9, .val f9] [(.int i9)])
  refine own_retI X0 hx hlk Bd.returns (hb hby d59_17) (by decide) (by decide) ?_
  show Q59 Z i9 n9 f9 h0 n0 (some (.int i9)) s₁.heap _
  rw [e0]
  exact ⟨rfl, N0, rfl⟩
abbrev rRrm58 : Room := { frames := 1, cells := 0, slots := 0, locals := 14 }
theorem d58_0 : decode jdk_42_method_155_code 0 = .ok (.iload_n 0, 1) := by decide +kernel
theorem d58_1 : decode jdk_42_method_155_code 1 = .ok (.iload_n 1, 1) := by decide +kernel
theorem d58_2 : decode jdk_42_method_155_code 2 = .ok (.getstatic 1053, 3) := by decide +kernel
theorem d58_5 : decode jdk_42_method_155_code 5 = .ok (.invokestatic 1059, 3) := by decide +kernel
theorem d58_8 : decode jdk_42_method_155_code 8 = .ok (.pop, 1) := by decide +kernel
theorem d58_9 : decode jdk_42_method_155_code 9 = .ok (.return_, 1) := by decide +kernel
theorem pd_29 : parseMethodDescriptor "(IILjava/util/function/BiFunction;)I" = some ⟨[.int, .int, (.object "java/util/function/BiFunction")], some .int⟩ := by decide +kernel
theorem pn_rm58 : plainFor yy48 = true := by first | exact plainFor_of_name (by first | (simp [plainName, overriddenIn]; done) | decide +kernel) | decide +kernel
theorem ef_rm58 (m : MethodId) (i9 : Int32) (n9 : Int32) : entryFrame m #[(.int i9), (.int n9)] 2 = (mkF m 0 #[iv i9, iv n9] []) := by first | (simp [entryFrame, mkF, argsToLocals, Value.category]; done) | rfl
def Q58 (Z : State) (i9 : Int32) (n9 : Int32) (f9 : Value) (h0 : Heap) (n0 : Nat) (v_ : Option Value) (h_ : Heap) (L_ : List Loc) : Prop := (v_ = none) ∧ (Fr n0 L_) ∧ (h_ = h0)
set_option maxRecDepth 65536 in
set_option maxHeartbeats 40000000 in
theorem rm58 (l : Launch) (Z : State) (a0 : Array Value) (hw : ∀ d ∈ tables_1, d.before a0 Z = true) (ws : List Jvm.Cond) (i9 : Int32) (n9 : Int32) (f9 : Value) (h0 : Heap) (n0 : Nat) (Z0 : n0 ≤ h0.size) (p_0 : Sta Z h0 "jdk/internal/util/Preconditions" "SIOOBE_FORMATTER" "Ljava/util/function/BiFunction;" f9) (hf9 : f9.isRef = true) (hx1 : ¬ i9 < (0 : Int32)) (hx2 : i9 < n9) :
    MetFree l yy48 (head1 (Jvm.Cond.code yy48 jdk_42_method_155_code 2 none :: ws) rRrm58) (fun a_ U_ => a_ = #[(.int i9), (.int n9)] ∧ Z.Warmed39 U_.vm ∧ U_.heap = h0) (fun _ _ _ _ _ => True) (fun _ U_ o_ U1_ => ∃ v_ L_, o_ = .returned v_ ∧ Q58 Z i9 n9 f9 h0 n0 v_ U1_.heap L_ ∧ FrameEnd U_ o_ U1_ L_ rRrm58.cells rRrm58.slots) := by
  refine MetFree.of_bodySF pn_rm58 hisR ?_
  intro p e s m args below meth c s₁ Bd hml0 hP hK
  obtain ⟨rfl, hZ, hh⟩ := hP
  have hx := Bd.exec
  have hby := Bd.bytes
  have hlk : meth.locks = false := Bd.notSynchronized
  have hml : c.maxLocals = 2 := hml0
  have hown : s.vm.findClass "java/lang/String" = some m.cls := findClass_of_methodNamed Bd.named
  have hnm := (name_of_methodNamed Bd.named Bd.method).1
  have X0 : Stand p l e rRrm58 s m #[(.int i9), (.int n9)] below meth c s₁ [] 0 0 := Stand.of_body Bd
  have e0 : s₁.heap = h0 := by rw [← hh, Bd.state]; rfl
  have N0 := Fr.nil n0
  show own_Goes p e below s (Q58 Z i9 n9 f9 h0 n0) rRrm58.cells rRrm58.slots s₁ (entryFrame m #[(.int i9), (.int n9)] 2)
  rw [ef_rm58 m i9 n9]
  show own_Goes p e below s (Q58 Z i9 n9 f9 h0 n0) rRrm58.cells rRrm58.slots s₁ (mkF m 0 #[iv i9, iv n9] [])
  refine own_st (fun _ kk_ => XS.iloadN X0.here hx rfl (hb hby d58_0) rfl (XS.iloadN X0.here hx rfl (hb hby d58_1) rfl kk_)) ?_
  show own_Goes _ _ _ _ _ _ _ s₁ (mkF m 2 #[iv i9, iv n9] [(.int n9), (.int i9)])
  obtain ⟨T1, X1, e1, st1⟩ := getS2 X0 hx hZ hown (host := "") (Or.inl (own_w hw 281 rfl)) Via.refl e0 p_0 (g := (mkF m 2 #[iv i9, iv n9] [(.int n9), (.int i9)])) rfl (hb hby d58_2)
  refine own_st st1 ?_
  show own_Goes _ _ _ _ _ _ _ T1 (mkF m 5 #[iv i9, iv n9] [f9, (.int n9), (.int i9)])
  obtain ⟨_, _, ⟨T2, L2, k2, n2⟩, -, X2, ⟨Lc2, hQ2, l2, y2, z2⟩, st2⟩ := Jvm.LawKit.callS X1 hx (y := yy47) hown (mvT hZ (own_w hw 283 rfl)) (mvT hZ (own_w hw 284 rfl)) (mvT hZ (own_w hw 282 rfl)) (mvT hZ (own_w hw 285 rfl)) (by decide) (backOf (W := 0) (rm59 l Z a0 hw [] (i9) (n9) f9 hf9 h0 n0 Z0 hx1 hx2) hZ (own_w hw 285 rfl) (own_w hw 282 rfl) (by decide) (by decide)) (g := (mkF m 5 #[iv i9, iv n9] [f9, (.int n9), (.int i9)])) rfl (by rw [hml]; rfl) (argsL := [(.int i9), (.int n9), f9]) (rest := []) (lenOf pd_29 rfl) rfl (by show 2 * 0 + _ ≤ _; exact Nat.le_of_eq rfl) (hb hby d58_5) (fun _ _ => ⟨rfl, e1, (by decide : 0 + 0 ≤ _), (by decide : 0 + 0 ≤ _)⟩)
  dsimp only [Pt.U, Pt.locs, Pt.cells, Pt.slots] at X2 l2 y2 z2 st2 hQ2
  subst l2 y2 z2
  obtain ⟨rfl, Nq2, eq2⟩ := hQ2
  have N2 := Fr.app N0 Nq2
  refine own_st st2 ?_
  show own_Goes _ _ _ _ _ _ _ T2 (mkF m 8 #[iv i9, iv n9] [(.int i9)])
  refine own_st (fun _ kk_ => XS.pop X2.here hx rfl (hb hby d58_8) rfl rfl kk_) ?_
  show own_Goes _ _ _ _ _ _ _ T2 (mkF m 9 #[iv i9, iv n9] [])
  refine own_ret0 X2 hx hlk Bd.returns (hb hby d58_9) (by decide) (by decide) ?_
  show Q58 Z i9 n9 f9 h0 n0 none T2.heap _
  rw [eq2]
  exact ⟨rfl, N2, rfl⟩
abbrev rRrm57 : Room := { frames := 2, cells := 0, slots := 0, locals := 27 }
theorem d57_0 : decode jdk_43_method_2_code 0 = .ok (.iload_n 1, 1) := by decide +kernel
theorem d57_1 : decode jdk_43_method_2_code 1 = .ok (.aload_n 0, 1) := by decide +kernel
theorem d57_2 : decode jdk_43_method_2_code 2 = .ok (.arraylength, 1) := by decide +kernel
theorem d57_3 : decode jdk_43_method_2_code 3 = .ok (.invokestatic 9, 3) := by decide +kernel
theorem d57_6 : decode jdk_43_method_2_code 6 = .ok (.aload_n 0, 1) := by decide +kernel
theorem d57_7 : decode jdk_43_method_2_code 7 = .ok (.iload_n 1, 1) := by decide +kernel
theorem d57_8 : decode jdk_43_method_2_code 8 = .ok (.baload, 1) := by decide +kernel
theorem d57_9 : decode jdk_43_method_2_code 9 = .ok (.sipush 255, 3) := by decide +kernel
theorem d57_12 : decode jdk_43_method_2_code 12 = .ok (.iand, 1) := by decide +kernel
theorem d57_13 : decode jdk_43_method_2_code 13 = .ok (.i2c, 1) := by decide +kernel
theorem d57_14 : decode jdk_43_method_2_code 14 = .ok (.ireturn, 1) := by decide +kernel
theorem pn_rm57 : plainFor yy49 = true := by first | exact plainFor_of_name (by first | (simp [plainName, overriddenIn]; done) | decide +kernel) | decide +kernel
theorem ef_rm57 (m : MethodId) (d : Addr) (i9 : Int32) : entryFrame m #[(.ref d), (.int i9)] 2 = (mkF m 0 #[rv d, iv i9] []) := by first | (simp [entryFrame, mkF, argsToLocals, Value.category]; done) | rfl
def Q57 (Z : State) (d : Addr) (i9 : Int32) (kd : ClassId) (z1 : Int32) (vs1 : List Value) (c9 : Int32) (f9 : Value) (h0 : Heap) (n0 : Nat) (v_ : Option Value) (h_ : Heap) (L_ : List Loc) : Prop := (v_ = some (.int c9)) ∧ (Fr n0 L_) ∧ (h_ = h0)
set_option maxRecDepth 65536 in
set_option maxHeartbeats 40000000 in
theorem rm57 (l : Launch) (Z : State) (a0 : Array Value) (hw : ∀ d ∈ tables_1, d.before a0 Z = true) (ws : List Jvm.Cond) (d : Addr) (i9 : Int32) (kd : ClassId) (z1 : Int32) (vs1 : List Value) (c9 : Int32) (f9 : Value) (h0 : Heap) (n0 : Nat) (Z0 : n0 ≤ h0.size) (p_0 : Arv Z h0 d kd .byte z1 vs1 (.int (0 : Int32))) (p_1 : Sta Z h0 "jdk/internal/util/Preconditions" "SIOOBE_FORMATTER" "Ljava/util/function/BiFunction;" f9) (hf9 : f9.isRef = true) (hx1 : ¬ i9 < (0 : Int32)) (hx2 : i9 < z1) (hv : vs1.getD (i9).toNatClampNeg (.int (0 : Int32)) = .int (own_by c9)) (hi : own_in c9) :
    MetFree l yy49 (head1 (Jvm.Cond.code yy49 jdk_43_method_2_code 2 (some .char) :: ws) rRrm57) (fun a_ U_ => a_ = #[(.ref d), (.int i9)] ∧ Z.Warmed39 U_.vm ∧ U_.heap = h0) (fun _ _ _ _ _ => True) (fun _ U_ o_ U1_ => ∃ v_ L_, o_ = .returned v_ ∧ Q57 Z d i9 kd z1 vs1 c9 f9 h0 n0 v_ U1_.heap L_ ∧ FrameEnd U_ o_ U1_ L_ rRrm57.cells rRrm57.slots) := by
  refine MetFree.of_bodySF pn_rm57 hisR ?_
  intro p e s m args below meth c s₁ Bd hml0 hP hK
  obtain ⟨rfl, hZ, hh⟩ := hP
  have hx := Bd.exec
  have hby := Bd.bytes
  have hlk : meth.locks = false := Bd.notSynchronized
  have hml : c.maxLocals = 2 := hml0
  have hown : s.vm.findClass "java/lang/StringLatin1" = some m.cls := findClass_of_methodNamed Bd.named
  have hnm := (name_of_methodNamed Bd.named Bd.method).1
  have X0 : Stand p l e rRrm57 s m #[(.ref d), (.int i9)] below meth c s₁ [] 0 0 := Stand.of_body Bd
  have e0 : s₁.heap = h0 := by rw [← hh, Bd.state]; rfl
  have N0 := Fr.nil n0
  show own_Goes p e below s (Q57 Z d i9 kd z1 vs1 c9 f9 h0 n0) rRrm57.cells rRrm57.slots s₁ (entryFrame m #[(.ref d), (.int i9)] 2)
  rw [ef_rm57 m d i9]
  show own_Goes p e below s (Q57 Z d i9 kd z1 vs1 c9 f9 h0 n0) rRrm57.cells rRrm57.slots s₁ (mkF m 0 #[rv d, iv i9] [])
  refine own_st (fun _ kk_ => XS.iloadN X0.here hx rfl (hb hby d57_0) rfl (XS.aloadN X0.here hx rfl (hb hby d57_1) rfl rfl kk_)) ?_
  show own_Goes _ _ _ _ _ _ _ s₁ (mkF m 2 #[rv d, iv i9] [(.ref d), (.int i9)])
  obtain ⟨cl1, Ar1, -, Sz1, Nn1, -, -⟩ := id p_0
  refine own_st (fun _ kk_ => X0.arraylength hx (by rw [e0]; exact Ar1.1) (State.isArrayOf_alike hZ.alike Ar1.2.1) (g := (mkF m 2 #[rv d, iv i9] [(.ref d), (.int i9)])) rfl rfl (hb hby d57_2) _ kk_) ?_
  rw [len_of Sz1 Nn1]
  show own_Goes _ _ _ _ _ _ _ s₁ (mkF m 3 #[rv d, iv i9] [(.int z1), (.int i9)])
  obtain ⟨_, _, ⟨T2, L2, k2, n2⟩, -, X2, ⟨Lc2, hQ2, l2, y2, z2⟩, st2⟩ := Jvm.LawKit.callS X0 hx (y := yy48) hown (mvT hZ (own_w hw 278 rfl)) (mvT hZ (own_w hw 279 rfl)) (mvT hZ (own_w hw 12 rfl)) (mvT hZ (own_w hw 280 rfl)) (by decide) (backOf (W := 0) (rm58 l Z a0 hw [] (i9) (z1) f9 h0 n0 Z0 p_1 (by assumption) hx1 hx2) hZ (own_w hw 280 rfl) (own_w hw 12 rfl) (by decide) (by decide)) (g := (mkF m 3 #[rv d, iv i9] [(.int z1), (.int i9)])) rfl (by rw [hml]; rfl) (argsL := [(.int i9), (.int z1)]) (rest := []) (lenOf pd_21 rfl) rfl (by show 2 * 0 + _ ≤ _; exact Nat.le_of_eq rfl) (hb hby d57_3) (fun _ _ => ⟨rfl, e0, (by decide : 0 + 0 ≤ _), (by decide : 0 + 0 ≤ _)⟩)
  dsimp only [Pt.U, Pt.locs, Pt.cells, Pt.slots] at X2 l2 y2 z2 st2 hQ2
  subst l2 y2 z2
  obtain ⟨rfl, Nq2, eq2⟩ := hQ2
  have N2 := Fr.app N0 Nq2
  refine own_st st2 ?_
  show own_Goes _ _ _ _ _ _ _ T2 (mkF m 6 #[rv d, iv i9] [])
  refine own_st (fun _ kk_ => XS.aloadN X2.here hx rfl (hb hby d57_6) rfl rfl (XS.iloadN X2.here hx rfl (hb hby d57_7) rfl kk_)) ?_
  show own_Goes _ _ _ _ _ _ _ T2 (mkF m 8 #[rv d, iv i9] [(.int i9), (.ref d)])
  obtain ⟨cl3, Ar3, q3, Sz3, Nn3, Hh3, Gg3⟩ := id p_0
  refine own_st (fun _ kk_ => X2.baloadBytes hx (j := i9) (v := (.int (own_by c9))) (by rw [eq2]; exact Ar3.1) (State.isArrayOf_alike hZ.alike Ar3.2.1) Ar3.2.2 (inb_of Sz3 ⟨hx1, hx2⟩) (Hh3.at (inb_of Sz3 ⟨hx1, hx2⟩) hv) (g := (mkF m 8 #[rv d, iv i9] [(.int i9), (.ref d)])) rfl rfl (hb hby d57_8) _ kk_) ?_
  show own_Goes _ _ _ _ _ _ _ T2 (mkF m 9 #[rv d, iv i9] [(.int (own_by c9))])
  refine own_st (fun _ kk_ => XS.sipush X2.here hx rfl (hb hby d57_9) (XS.iand X2.here hx rfl (hb hby d57_12) rfl (XS.i2c X2.here hx rfl (hb hby d57_13) rfl kk_))) ?_
  show own_Goes _ _ _ _ _ _ _ T2 (mkF m 14 #[rv d, iv i9] [(.int (((own_by c9) &&& (255 : Int32)).toUInt32.toUInt16.toUInt32.toInt32))])
  refine own_retN X2 hx hlk (t := .char) Bd.returns (by simp) (hb hby d57_14) (by decide) (by decide) ?_
  show Q57 Z d i9 kd z1 vs1 c9 f9 h0 n0 (some (.int (nar .char (((own_by c9) &&& (255 : Int32)).toUInt32.toUInt16.toUInt32.toInt32)))) T2.heap _
  rw [eq2]
  exact ⟨by exact congrArg (fun z => some (Value.int z)) (own_gc hi), N2, rfl⟩
abbrev rRrm56 : Room := { frames := 3, cells := 0, slots := 0, locals := 40 }
theorem d56_0 : decode jdk_42_method_56_code 0 = .ok (.aload_n 0, 1) := by decide +kernel
theorem d56_1 : decode jdk_42_method_56_code 1 = .ok (.invokevirtual 492, 3) := by decide +kernel
theorem d56_4 : decode jdk_42_method_56_code 4 = .ok (.ifCond .eq 12, 3) := by decide +kernel
theorem d56_7 : decode jdk_42_method_56_code 7 = .ok (.aload_n 0, 1) := by decide +kernel
theorem d56_8 : decode jdk_42_method_56_code 8 = .ok (.getfield 9, 3) := by decide +kernel
theorem d56_11 : decode jdk_42_method_56_code 11 = .ok (.iload_n 1, 1) := by decide +kernel
theorem d56_12 : decode jdk_42_method_56_code 12 = .ok (.invokestatic 495, 3) := by decide +kernel
theorem d56_15 : decode jdk_42_method_56_code 15 = .ok (.ireturn, 1) := by decide +kernel
theorem pn_rm56 : plainFor yy50 = true := by first | exact plainFor_of_name (by first | (simp [plainName, overriddenIn]; done) | decide +kernel) | decide +kernel
theorem ef_rm56 (m : MethodId) (a : Addr) (i9 : Int32) : entryFrame m #[(.ref a), (.int i9)] 2 = (mkF m 0 #[rv a, iv i9] []) := by first | (simp [entryFrame, mkF, argsToLocals, Value.category]; done) | rfl
def Q56 (Z : State) (a : Addr) (i9 : Int32) (d : Addr) (kd : ClassId) (z1 : Int32) (vs1 : List Value) (c9 : Int32) (f9 : Value) (cs : Int32) (h0 : Heap) (n0 : Nat) (v_ : Option Value) (h_ : Heap) (L_ : List Loc) : Prop := (v_ = some (.int c9)) ∧ (Fr n0 L_) ∧ (h_ = h0)
set_option maxRecDepth 65536 in
set_option maxHeartbeats 40000000 in
theorem rm56 (l : Launch) (Z : State) (a0 : Array Value) (hw : ∀ d ∈ tables_1, d.before a0 Z = true) (ws : List Jvm.Cond) (a : Addr) (i9 : Int32) (d : Addr) (kd : ClassId) (z1 : Int32) (vs1 : List Value) (c9 : Int32) (f9 : Value) (cs : Int32) (h0 : Heap) (n0 : Nat) (Z0 : n0 ≤ h0.size) (p_0 : Exa Z h0 a "java/lang/String") (p_1 : Fld Z h0 a "java/lang/String" "coder" "B" (.int (0 : Int32))) (p_2 : Fld Z h0 a "java/lang/String" "value" "[B" (.ref d)) (p_3 : Arv Z h0 d kd .byte z1 vs1 (.int (0 : Int32))) (p_4 : Sta Z h0 "jdk/internal/util/Preconditions" "SIOOBE_FORMATTER" "Ljava/util/function/BiFunction;" f9) (hf9 : f9.isRef = true) (p_6 : Sta Z h0 "java/lang/String" "COMPACT_STRINGS" "Z" (.int cs)) (hcs : ¬ cs = (0 : Int32)) (hx1 : ¬ i9 < (0 : Int32)) (hx2 : i9 < z1) (hv : vs1.getD (i9).toNatClampNeg (.int (0 : Int32)) = .int (own_by c9)) (hi : own_in c9) :
    MetFree l yy50 (head1 (Jvm.Cond.code yy50 jdk_42_method_56_code 2 (some .char) :: ws) rRrm56) (fun a_ U_ => a_ = #[(.ref a), (.int i9)] ∧ Z.Warmed39 U_.vm ∧ U_.heap = h0) (fun _ _ _ _ _ => True) (fun _ U_ o_ U1_ => ∃ v_ L_, o_ = .returned v_ ∧ Q56 Z a i9 d kd z1 vs1 c9 f9 cs h0 n0 v_ U1_.heap L_ ∧ FrameEnd U_ o_ U1_ L_ rRrm56.cells rRrm56.slots) := by
  refine MetFree.of_bodySF pn_rm56 hisR ?_
  intro p e s m args below meth c s₁ Bd hml0 hP hK
  obtain ⟨rfl, hZ, hh⟩ := hP
  have hx := Bd.exec
  have hby := Bd.bytes
  have hlk : meth.locks = false := Bd.notSynchronized
  have hml : c.maxLocals = 2 := hml0
  have hown : s.vm.findClass "java/lang/String" = some m.cls := findClass_of_methodNamed Bd.named
  have hnm := (name_of_methodNamed Bd.named Bd.method).1
  have X0 : Stand p l e rRrm56 s m #[(.ref a), (.int i9)] below meth c s₁ [] 0 0 := Stand.of_body Bd
  have e0 : s₁.heap = h0 := by rw [← hh, Bd.state]; rfl
  have N0 := Fr.nil n0
  show own_Goes p e below s (Q56 Z a i9 d kd z1 vs1 c9 f9 cs h0 n0) rRrm56.cells rRrm56.slots s₁ (entryFrame m #[(.ref a), (.int i9)] 2)
  rw [ef_rm56 m a i9]
  show own_Goes p e below s (Q56 Z a i9 d kd z1 vs1 c9 f9 cs h0 n0) rRrm56.cells rRrm56.slots s₁ (mkF m 0 #[rv a, iv i9] [])
  refine own_st (fun _ kk_ => XS.aloadN X0.here hx rfl (hb hby d56_0) rfl rfl kk_) ?_
  show own_Goes _ _ _ _ _ _ _ s₁ (mkF m 1 #[rv a, iv i9] [(.ref a)])
  obtain ⟨cq1, kq1, q1a, q1b, q1c⟩ := isOf hZ e0 p_0
  obtain ⟨_, _, ⟨T1, L1, k1, n1⟩, -, X1, ⟨Lc1, hQ1, l1, y1, z1⟩, st1⟩ := X0.virtualBack hx (y := yy5) (z := yy5) hown (mvT hZ (own_w hw 73 rfl)) (mvT hZ (own_w hw 74 rfl)) (notFace_of_selects (args := #[]) (mvT hZ (own_w hw 76 rfl))) (mvT hZ (own_w hw 76 rfl)) (mvT hZ (own_w hw 75 rfl)) (by decide) (backOf (W := 0) (rm16 l Z a0 hw [] (a) (cs) h0 n0 Z0 p_1 p_6 (by assumption)) hZ (own_w hw 77 rfl) (own_w hw 12 rfl) (by decide) (by decide)) q1a q1c (g := (mkF m 1 #[rv a, iv i9] [(.ref a)])) rfl (by rw [hml]; rfl) (Steps.refl _) (argsL := []) (rest := []) (lenOf pd_6 rfl) rfl (by show 2 * 0 + _ ≤ _; exact Nat.le_of_eq rfl) (hb hby d56_1) (fun _ _ => ⟨rfl, e0, (by decide : 0 + 0 ≤ _), (by decide : 0 + 0 ≤ _)⟩)
  dsimp only [Pt.U, Pt.locs, Pt.cells, Pt.slots] at X1 l1 y1 z1 st1 hQ1
  subst l1 y1 z1
  obtain ⟨rfl, Nq1, eq1⟩ := hQ1
  have N1 := Fr.app N0 Nq1
  refine own_st (fun _ kk_ => st1.trans kk_) ?_
  show own_Goes _ _ _ _ _ _ _ T1 (mkF m 4 #[rv a, iv i9] [(.int (1 : Int32))])
  refine own_st (fun _ kk_ => XS.ifNo X1.here hx rfl (hb hby d56_4) rfl (XT.i0_eq_f (by decide)) (XS.aloadN X1.here hx rfl (hb hby d56_7) rfl rfl kk_)) ?_
  show own_Goes _ _ _ _ _ _ _ T1 (mkF m 8 #[rv a, iv i9] [(.ref a)])
  obtain ⟨T2, X2, e2, st2⟩ := getF X1 hx hZ hown (host := "") (Or.inl (own_w hw 38 rfl)) Via.refl eq1 p_2 (g := (mkF m 8 #[rv a, iv i9] [(.ref a)])) rfl rfl (hb hby d56_8)
  refine own_st st2 ?_
  show own_Goes _ _ _ _ _ _ _ T2 (mkF m 11 #[rv a, iv i9] [(.ref d)])
  refine own_st (fun _ kk_ => XS.iloadN X2.here hx rfl (hb hby d56_11) rfl kk_) ?_
  show own_Goes _ _ _ _ _ _ _ T2 (mkF m 12 #[rv a, iv i9] [(.int i9), (.ref d)])
  obtain ⟨_, _, ⟨T3, L3, k3, n3⟩, -, X3, ⟨Lc3, hQ3, l3, y3, z3⟩, st3⟩ := Jvm.LawKit.callS X2 hx (y := yy49) hown (mvT hZ (own_w hw 275 rfl)) (mvT hZ (own_w hw 276 rfl)) (mvT hZ (own_w hw 80 rfl)) (mvT hZ (own_w hw 277 rfl)) (by decide) (backOf (W := 0) (rm57 l Z a0 hw [] (d) (i9) (kd) (z1) (vs1) (c9) f9 h0 n0 Z0 p_3 p_4 (by assumption) hx1 hx2 hv hi) hZ (own_w hw 277 rfl) (own_w hw 80 rfl) (by decide) (by decide)) (g := (mkF m 12 #[rv a, iv i9] [(.int i9), (.ref d)])) rfl (by rw [hml]; rfl) (argsL := [(.ref d), (.int i9)]) (rest := []) (lenOf pd_3 rfl) rfl (by show 2 * 0 + _ ≤ _; exact Nat.le_of_eq rfl) (hb hby d56_12) (fun _ _ => ⟨rfl, e2, (by decide : 0 + 0 ≤ _), (by decide : 0 + 0 ≤ _)⟩)
  dsimp only [Pt.U, Pt.locs, Pt.cells, Pt.slots] at X3 l3 y3 z3 st3 hQ3
  subst l3 y3 z3
  obtain ⟨rfl, Nq3, eq3⟩ := hQ3
  have N3 := Fr.app N1 Nq3
  refine own_st st3 ?_
  show own_Goes _ _ _ _ _ _ _ T3 (mkF m 15 #[rv a, iv i9] [(.int c9)])
  refine own_retN X3 hx hlk (t := .char) Bd.returns (by simp) (hb hby d56_15) (by decide) (by decide) ?_
  show Q56 Z a i9 d kd z1 vs1 c9 f9 cs h0 n0 (some (.int (nar .char c9))) T3.heap _
  rw [eq3]
  exact ⟨by exact congrArg (fun z => some (Value.int z)) (own_narc hi), N3, rfl⟩
def own_at (vs1 : List Value) (z1 o : Int32) (vs2 : List Value) (z2 : Int32) : Prop := 0 ≤ o.toInt ∧ o.toInt + z2.toInt ≤ z1.toInt ∧ ∀ i : Nat, i < z2.toNatClampNeg → vs1.getD (o.toNatClampNeg + i) (.int (0 : Int32)) = vs2.getD i (.int (0 : Int32))
theorem own_at.k {vs1 vs2 : List Value} {z1 o z2 : Int32} (h : own_at vs1 z1 o vs2 z2) (k : Int32) (h0 : 0 ≤ k.toInt) (h1 : k.toInt < z2.toInt) : ¬ o + k < (0 : Int32) ∧ o + k < z1 ∧ vs1.getD (o + k).toNatClampNeg (.int (0 : Int32)) = vs2.getD k.toNatClampNeg (.int (0 : Int32)) := by
  obtain ⟨q1, q2, q3⟩ := h
  have q := c_iadd o k; have := z1.toInt_lt; have := (o + k).le_toInt; have := (o + k).toInt_lt
  have e : (o + k).toInt = o.toInt + k.toInt := by omega
  refine ⟨?_, ?_, ?_⟩
  · simp only [Int32.lt_iff_toInt_lt, Int32.reduceToInt]; omega
  · simp only [Int32.lt_iff_toInt_lt]; omega
  · rw [← q3 k.toNatClampNeg (by simp only [Int32.toNatClampNeg]; omega)]
    congr 1
    simp only [Int32.toNatClampNeg]; omega
theorem own_at.z {vs1 vs2 : List Value} {z1 o z2 : Int32} (h : own_at vs1 z1 o vs2 z2) (h1 : 0 < z2.toInt) : ¬ o < (0 : Int32) ∧ o < z1 ∧ vs1.getD o.toNatClampNeg (.int (0 : Int32)) = vs2.getD 0 (.int (0 : Int32)) := by
  obtain ⟨q1, q2, q3⟩ := h
  refine ⟨?_, ?_, ?_⟩
  · simp only [Int32.lt_iff_toInt_lt, Int32.reduceToInt]; omega
  · simp only [Int32.lt_iff_toInt_lt]; omega
  · exact q3 0 (by simp only [Int32.toNatClampNeg]; omega)
abbrev rRrm55 : Room := { frames := 4, cells := 0, slots := 0, locals := 54 }
theorem d55_0 : decode method_6_code 0 = .ok (.aload_n 0, 1) := by decide +kernel
theorem d55_1 : decode method_6_code 1 = .ok (.iload_n 1, 1) := by decide +kernel
theorem d55_2 : decode method_6_code 2 = .ok (.invokevirtual 39, 3) := by decide +kernel
theorem d55_5 : decode method_6_code 5 = .ok (.aload_n 2, 1) := by decide +kernel
theorem d55_6 : decode method_6_code 6 = .ok (.iconst 0, 1) := by decide +kernel
theorem d55_7 : decode method_6_code 7 = .ok (.invokevirtual 39, 3) := by decide +kernel
theorem d55_10 : decode method_6_code 10 = .ok (.if_icmp .ne 7, 3) := by decide +kernel
theorem d55_13 : decode method_6_code 13 = .ok (.iconst 1, 1) := by decide +kernel
theorem d55_14 : decode method_6_code 14 = .ok (.goto 4, 3) := by decide +kernel
theorem d55_18 : decode method_6_code 18 = .ok (.istore_n 3, 1) := by decide +kernel
theorem d55_19 : decode method_6_code 19 = .ok (.aload_n 2, 1) := by decide +kernel
theorem d55_20 : decode method_6_code 20 = .ok (.invokevirtual 29, 3) := by decide +kernel
theorem d55_23 : decode method_6_code 23 = .ok (.iconst 1, 1) := by decide +kernel
theorem d55_24 : decode method_6_code 24 = .ok (.if_icmp .le 28, 3) := by decide +kernel
theorem d55_27 : decode method_6_code 27 = .ok (.iload_n 3, 1) := by decide +kernel
theorem d55_28 : decode method_6_code 28 = .ok (.ifCond .eq 22, 3) := by decide +kernel
theorem d55_31 : decode method_6_code 31 = .ok (.aload_n 0, 1) := by decide +kernel
theorem d55_32 : decode method_6_code 32 = .ok (.iload_n 1, 1) := by decide +kernel
theorem d55_33 : decode method_6_code 33 = .ok (.iconst 1, 1) := by decide +kernel
theorem d55_34 : decode method_6_code 34 = .ok (.iadd, 1) := by decide +kernel
theorem d55_35 : decode method_6_code 35 = .ok (.invokevirtual 39, 3) := by decide +kernel
theorem d55_38 : decode method_6_code 38 = .ok (.aload_n 2, 1) := by decide +kernel
theorem d55_39 : decode method_6_code 39 = .ok (.iconst 1, 1) := by decide +kernel
theorem d55_40 : decode method_6_code 40 = .ok (.invokevirtual 39, 3) := by decide +kernel
theorem d55_43 : decode method_6_code 43 = .ok (.if_icmp .ne 7, 3) := by decide +kernel
theorem d55_46 : decode method_6_code 46 = .ok (.iconst 1, 1) := by decide +kernel
theorem d55_47 : decode method_6_code 47 = .ok (.goto 4, 3) := by decide +kernel
theorem d55_51 : decode method_6_code 51 = .ok (.istore_n 3, 1) := by decide +kernel
theorem d55_52 : decode method_6_code 52 = .ok (.aload_n 2, 1) := by decide +kernel
theorem d55_53 : decode method_6_code 53 = .ok (.invokevirtual 29, 3) := by decide +kernel
theorem d55_56 : decode method_6_code 56 = .ok (.iconst 2, 1) := by decide +kernel
theorem d55_57 : decode method_6_code 57 = .ok (.if_icmp .le 28, 3) := by decide +kernel
theorem d55_60 : decode method_6_code 60 = .ok (.iload_n 3, 1) := by decide +kernel
theorem d55_61 : decode method_6_code 61 = .ok (.ifCond .eq 22, 3) := by decide +kernel
theorem d55_64 : decode method_6_code 64 = .ok (.aload_n 0, 1) := by decide +kernel
theorem d55_65 : decode method_6_code 65 = .ok (.iload_n 1, 1) := by decide +kernel
theorem d55_66 : decode method_6_code 66 = .ok (.iconst 2, 1) := by decide +kernel
theorem d55_67 : decode method_6_code 67 = .ok (.iadd, 1) := by decide +kernel
theorem d55_68 : decode method_6_code 68 = .ok (.invokevirtual 39, 3) := by decide +kernel
theorem d55_71 : decode method_6_code 71 = .ok (.aload_n 2, 1) := by decide +kernel
theorem d55_72 : decode method_6_code 72 = .ok (.iconst 2, 1) := by decide +kernel
theorem d55_73 : decode method_6_code 73 = .ok (.invokevirtual 39, 3) := by decide +kernel
theorem d55_76 : decode method_6_code 76 = .ok (.if_icmp .ne 7, 3) := by decide +kernel
theorem d55_79 : decode method_6_code 79 = .ok (.iconst 1, 1) := by decide +kernel
theorem d55_80 : decode method_6_code 80 = .ok (.goto 4, 3) := by decide +kernel
theorem d55_84 : decode method_6_code 84 = .ok (.istore_n 3, 1) := by decide +kernel
theorem d55_85 : decode method_6_code 85 = .ok (.iload_n 3, 1) := by decide +kernel
theorem d55_86 : decode method_6_code 86 = .ok (.ireturn, 1) := by decide +kernel
theorem pd_30 : parseMethodDescriptor "(I)C" = some ⟨[.int], some .char⟩ := by decide +kernel
theorem pn_rm55 : plainFor yy51 = true := by first | exact plainFor_of_name (by first | (simp [plainName, overriddenIn]; done) | decide +kernel) | decide +kernel
theorem ef_rm55 (m : MethodId) (a : Addr) (o9 : Int32) (tk : Addr) : entryFrame m #[(.ref a), (.int o9), (.ref tk)] 4 = (mkF m 0 #[rv a, iv o9, rv tk, .unset] []) := by first | (simp [entryFrame, mkF, argsToLocals, Value.category]; done) | rfl
def Q55 (Z : State) (a : Addr) (o9 : Int32) (tk : Addr) (d : Addr) (kd : ClassId) (z1 : Int32) (vs1 : List Value) (bt : Addr) (kt : ClassId) (z2 : Int32) (vs2 : List Value) (f9 : Value) (cs : Int32) (h0 : Heap) (n0 : Nat) (v_ : Option Value) (h_ : Heap) (L_ : List Loc) : Prop := (v_ = some (.int (1 : Int32))) ∧ (Fr n0 L_) ∧ (h_ = h0)
set_option maxRecDepth 65536 in
set_option maxHeartbeats 40000000 in
theorem rm55 (l : Launch) (Z : State) (a0 : Array Value) (hw : ∀ d ∈ tables_1, d.before a0 Z = true) (ws : List Jvm.Cond) (a : Addr) (o9 : Int32) (tk : Addr) (d : Addr) (kd : ClassId) (z1 : Int32) (vs1 : List Value) (bt : Addr) (kt : ClassId) (z2 : Int32) (vs2 : List Value) (f9 : Value) (cs : Int32) (h0 : Heap) (n0 : Nat) (Z0 : n0 ≤ h0.size) (p_0 : Exa Z h0 a "java/lang/String") (p_1 : Fld Z h0 a "java/lang/String" "coder" "B" (.int (0 : Int32))) (p_2 : Fld Z h0 a "java/lang/String" "value" "[B" (.ref d)) (p_3 : Arv Z h0 d kd .byte z1 vs1 (.int (0 : Int32))) (p_4 : Exa Z h0 tk "java/lang/String") (p_5 : Fld Z h0 tk "java/lang/String" "coder" "B" (.int (0 : Int32))) (p_6 : Fld Z h0 tk "java/lang/String" "value" "[B" (.ref bt)) (p_7 : Arv Z h0 bt kt .byte z2 vs2 (.int (0 : Int32))) (p_8 : Sta Z h0 "jdk/internal/util/Preconditions" "SIOOBE_FORMATTER" "Ljava/util/function/BiFunction;" f9) (hf9 : f9.isRef = true) (p_10 : Sta Z h0 "java/lang/String" "COMPACT_STRINGS" "Z" (.int cs)) (hcs : ¬ cs = (0 : Int32)) (htk : own_tok z2 vs2) (hat : own_at vs1 z1 o9 vs2 z2) :
    MetFree l yy51 (head1 (Jvm.Cond.code yy51 method_6_code 4 (some .boolean) :: ws) rRrm55) (fun a_ U_ => a_ = #[(.ref a), (.int o9), (.ref tk)] ∧ Z.Warmed39 U_.vm ∧ U_.heap = h0) (fun _ _ _ _ _ => True) (fun _ U_ o_ U1_ => ∃ v_ L_, o_ = .returned v_ ∧ Q55 Z a o9 tk d kd z1 vs1 bt kt z2 vs2 f9 cs h0 n0 v_ U1_.heap L_ ∧ FrameEnd U_ o_ U1_ L_ rRrm55.cells rRrm55.slots) := by
  refine MetFree.of_bodySF pn_rm55 hisR ?_
  intro p e s m args below meth c s₁ Bd hml0 hP hK
  obtain ⟨rfl, hZ, hh⟩ := hP
  have hx := Bd.exec
  have hby := Bd.bytes
  have hlk : meth.locks = false := Bd.notSynchronized
  have hml : c.maxLocals = 4 := hml0
  have hown : s.vm.findClass "com/example/firm_duties/firmduties/PairToStringPinLaw" = some m.cls := findClass_of_methodNamed Bd.named
  have hnm := (name_of_methodNamed Bd.named Bd.method).1
  have X0 : Stand p l e rRrm55 s m #[(.ref a), (.int o9), (.ref tk)] below meth c s₁ [] 0 0 := Stand.of_body Bd
  have e0 : s₁.heap = h0 := by rw [← hh, Bd.state]; rfl
  have N0 := Fr.nil n0
  show own_Goes p e below s (Q55 Z a o9 tk d kd z1 vs1 bt kt z2 vs2 f9 cs h0 n0) rRrm55.cells rRrm55.slots s₁ (entryFrame m #[(.ref a), (.int o9), (.ref tk)] 4)
  rw [ef_rm55 m a o9 tk]
  show own_Goes p e below s (Q55 Z a o9 tk d kd z1 vs1 bt kt z2 vs2 f9 cs h0 n0) rRrm55.cells rRrm55.slots s₁ (mkF m 0 #[rv a, iv o9, rv tk, .unset] [])
  rcases htk with ⟨c0, rfl, rfl, hm0⟩ | ⟨c0, c1, rfl, rfl, hm0, hm1⟩ | ⟨c0, c1, c2, rfl, rfl, hm0, hm1, hm2⟩
  · show own_Goes _ _ _ _ _ _ _ s₁ (mkF m 0 #[rv a, iv o9, rv tk, .unset] [])
    have hz := hat.z (by decide)
    refine own_st (fun _ kk_ => XS.aloadN X0.here hx rfl (hb hby d55_0) rfl rfl (XS.iloadN X0.here hx rfl (hb hby d55_1) rfl kk_)) ?_
    show own_Goes _ _ _ _ _ _ _ s₁ (mkF m 2 #[rv a, iv o9, rv tk, .unset] [(.int o9), (.ref a)])
    obtain ⟨cq1, kq1, q1a, q1b, q1c⟩ := isOf hZ e0 p_0
    obtain ⟨_, _, ⟨T1, L1, k1, n1⟩, -, X1, ⟨Lc1, hQ1, l1, y1, z1⟩, st1⟩ := X0.virtualBack hx (y := yy50) (z := yy50) hown (mvT hZ (own_w hw 270 rfl)) (mvT hZ (own_w hw 271 rfl)) (notFace_of_selects (args := #[]) (mvT hZ (own_w hw 273 rfl))) (mvT hZ (own_w hw 273 rfl)) (mvT hZ (own_w hw 272 rfl)) (by decide) (backOf (W := 0) (rm56 l Z a0 hw [] (a) (o9) (d) (kd) (z1) (vs1) (c0) f9 (cs) h0 n0 Z0 p_0 p_1 p_2 p_3 p_8 (by assumption) p_10 (by assumption) hz.1 hz.2.1 hz.2.2 hm0.m.i) hZ (own_w hw 274 rfl) (own_w hw 12 rfl) (by decide) (by decide)) q1a q1c (g := (mkF m 2 #[rv a, iv o9, rv tk, .unset] [(.int o9), (.ref a)])) rfl (by rw [hml]; rfl) (Steps.refl _) (argsL := [(.int o9)]) (rest := []) (lenOf pd_30 rfl) rfl (by show 2 * 0 + _ ≤ _; exact Nat.le_of_eq rfl) (hb hby d55_2) (fun _ _ => ⟨rfl, e0, (by decide : 0 + 0 ≤ _), (by decide : 0 + 0 ≤ _)⟩)
    dsimp only [Pt.U, Pt.locs, Pt.cells, Pt.slots] at X1 l1 y1 z1 st1 hQ1
    subst l1 y1 z1
    obtain ⟨rfl, Nq1, eq1⟩ := hQ1
    have N1 := Fr.app N0 Nq1
    refine own_st (fun _ kk_ => st1.trans kk_) ?_
    show own_Goes _ _ _ _ _ _ _ T1 (mkF m 5 #[rv a, iv o9, rv tk, .unset] [(.int c0)])
    refine own_st (fun _ kk_ => XS.aloadN X1.here hx rfl (hb hby d55_5) rfl rfl (XS.iconst X1.here hx rfl (hb hby d55_6) kk_)) ?_
    show own_Goes _ _ _ _ _ _ _ T1 (mkF m 7 #[rv a, iv o9, rv tk, .unset] [(.int (0 : Int32)), (.ref tk), (.int c0)])
    obtain ⟨cq2, kq2, q2a, q2b, q2c⟩ := isOf hZ eq1 p_4
    obtain ⟨_, _, ⟨T2, L2, k2, n2⟩, -, X2, ⟨Lc2, hQ2, l2, y2, z2⟩, st2⟩ := X1.virtualBack hx (y := yy50) (z := yy50) hown (mvT hZ (own_w hw 270 rfl)) (mvT hZ (own_w hw 271 rfl)) (notFace_of_selects (args := #[]) (mvT hZ (own_w hw 273 rfl))) (mvT hZ (own_w hw 273 rfl)) (mvT hZ (own_w hw 272 rfl)) (by decide) (backOf (W := 1) (rm56 l Z a0 hw [] (tk) ((0 : Int32)) (bt) (kt) ((1 : Int32)) ([(.int (own_by c0))]) (c0) f9 (cs) h0 n0 Z0 p_4 p_5 p_6 p_7 p_8 (by assumption) p_10 (by assumption) (by decide) (by decide) rfl hm0.m.i) hZ (own_w hw 274 rfl) (own_w hw 12 rfl) (by decide) (by decide)) q2a q2c (g := (mkF m 7 #[rv a, iv o9, rv tk, .unset] [(.int (0 : Int32)), (.ref tk), (.int c0)])) rfl (by rw [hml]; rfl) (Steps.refl _) (argsL := [(.int (0 : Int32))]) (rest := [(.int c0)]) (lenOf pd_30 rfl) rfl (by show 2 * 0 + _ ≤ _; exact Nat.le_of_eq rfl) (hb hby d55_7) (fun _ _ => ⟨rfl, eq1, (by decide : 0 + 0 ≤ _), (by decide : 0 + 0 ≤ _)⟩)
    dsimp only [Pt.U, Pt.locs, Pt.cells, Pt.slots] at X2 l2 y2 z2 st2 hQ2
    subst l2 y2 z2
    obtain ⟨rfl, Nq2, eq2⟩ := hQ2
    have N2 := Fr.app N1 Nq2
    refine own_st (fun _ kk_ => st2.trans kk_) ?_
    show own_Goes _ _ _ _ _ _ _ T2 (mkF m 10 #[rv a, iv o9, rv tk, .unset] [(.int c0), (.int c0)])
    refine own_st (fun _ kk_ => XS.icmpNo X2.here hx rfl (hb hby d55_10) rfl (XT.ii_ne_f rfl) (XS.iconst X2.here hx rfl (hb hby d55_13) (XS.goto X2.here hx rfl (pc0 := 14) (pc' := 18) rfl (hb hby d55_14) (by decide) (by decide) (XS.istoreN X2.here hx rfl (hb hby d55_18) rfl (l' := #[rv a, iv o9, rv tk, iv (1 : Int32)]) rfl (XS.aloadN X2.here hx rfl (hb hby d55_19) rfl rfl kk_))))) ?_
    show own_Goes _ _ _ _ _ _ _ T2 (mkF m 20 #[rv a, iv o9, rv tk, iv (1 : Int32)] [(.ref tk)])
    obtain ⟨cq3, kq3, q3a, q3b, q3c⟩ := isOf hZ eq2 p_4
    obtain ⟨_, _, ⟨T3, L3, k3, n3⟩, -, X3, ⟨Lc3, hQ3, l3, y3, z3⟩, st3⟩ := X2.virtualBack hx (y := yy6) (z := yy6) hown (mvT hZ (own_w hw 266 rfl)) (mvT hZ (own_w hw 120 rfl)) (notFace_of_selects (args := #[]) (mvT hZ (own_w hw 122 rfl))) (mvT hZ (own_w hw 122 rfl)) (mvT hZ (own_w hw 121 rfl)) (by decide) (backOf (W := 0) (rm26 l Z a0 hw [] (tk) (bt) (kt) ((1 : Int32)) ([(.int (own_by c0))]) (cs) h0 n0 Z0 p_4 p_5 p_6 p_7 p_10 (by assumption)) hZ (own_w hw 123 rfl) (own_w hw 12 rfl) (by decide) (by decide)) q3a q3c (g := (mkF m 20 #[rv a, iv o9, rv tk, iv (1 : Int32)] [(.ref tk)])) rfl (by rw [hml]; rfl) (Steps.refl _) (argsL := []) (rest := []) (lenOf pd_10 rfl) rfl (by show 2 * 0 + _ ≤ _; exact Nat.le_of_eq rfl) (hb hby d55_20) (fun _ _ => ⟨rfl, eq2, (by decide : 0 + 0 ≤ _), (by decide : 0 + 0 ≤ _)⟩)
    dsimp only [Pt.U, Pt.locs, Pt.cells, Pt.slots] at X3 l3 y3 z3 st3 hQ3
    subst l3 y3 z3
    obtain ⟨rfl, Nq3, eq3⟩ := hQ3
    have N3 := Fr.app N2 Nq3
    refine own_st (fun _ kk_ => st3.trans kk_) ?_
    show own_Goes _ _ _ _ _ _ _ T3 (mkF m 23 #[rv a, iv o9, rv tk, iv (1 : Int32)] [(.int (1 : Int32))])
    refine own_st (fun _ kk_ => XS.iconst X3.here hx rfl (hb hby d55_23) (XS.icmpYes X3.here hx rfl (pc0 := 24) (pc' := 52) rfl (hb hby d55_24) rfl (XT.ii_le_t (by decide)) (by decide) (by decide) (XS.aloadN X3.here hx rfl (hb hby d55_52) rfl rfl kk_))) ?_
    show own_Goes _ _ _ _ _ _ _ T3 (mkF m 53 #[rv a, iv o9, rv tk, iv (1 : Int32)] [(.ref tk)])
    obtain ⟨cq4, kq4, q4a, q4b, q4c⟩ := isOf hZ eq3 p_4
    obtain ⟨_, _, ⟨T4, L4, k4, n4⟩, -, X4, ⟨Lc4, hQ4, l4, y4, z4⟩, st4⟩ := X3.virtualBack hx (y := yy6) (z := yy6) hown (mvT hZ (own_w hw 266 rfl)) (mvT hZ (own_w hw 120 rfl)) (notFace_of_selects (args := #[]) (mvT hZ (own_w hw 122 rfl))) (mvT hZ (own_w hw 122 rfl)) (mvT hZ (own_w hw 121 rfl)) (by decide) (backOf (W := 0) (rm26 l Z a0 hw [] (tk) (bt) (kt) ((1 : Int32)) ([(.int (own_by c0))]) (cs) h0 n0 Z0 p_4 p_5 p_6 p_7 p_10 (by assumption)) hZ (own_w hw 123 rfl) (own_w hw 12 rfl) (by decide) (by decide)) q4a q4c (g := (mkF m 53 #[rv a, iv o9, rv tk, iv (1 : Int32)] [(.ref tk)])) rfl (by rw [hml]; rfl) (Steps.refl _) (argsL := []) (rest := []) (lenOf pd_10 rfl) rfl (by show 2 * 0 + _ ≤ _; exact Nat.le_of_eq rfl) (hb hby d55_53) (fun _ _ => ⟨rfl, eq3, (by decide : 0 + 0 ≤ _), (by decide : 0 + 0 ≤ _)⟩)
    dsimp only [Pt.U, Pt.locs, Pt.cells, Pt.slots] at X4 l4 y4 z4 st4 hQ4
    subst l4 y4 z4
    obtain ⟨rfl, Nq4, eq4⟩ := hQ4
    have N4 := Fr.app N3 Nq4
    refine own_st (fun _ kk_ => st4.trans kk_) ?_
    show own_Goes _ _ _ _ _ _ _ T4 (mkF m 56 #[rv a, iv o9, rv tk, iv (1 : Int32)] [(.int (1 : Int32))])
    refine own_st (fun _ kk_ => XS.iconst X4.here hx rfl (hb hby d55_56) (XS.icmpYes X4.here hx rfl (pc0 := 57) (pc' := 85) rfl (hb hby d55_57) rfl (XT.ii_le_t (by decide)) (by decide) (by decide) (XS.iloadN X4.here hx rfl (hb hby d55_85) rfl kk_))) ?_
    show own_Goes _ _ _ _ _ _ _ T4 (mkF m 86 #[rv a, iv o9, rv tk, iv (1 : Int32)] [(.int (1 : Int32))])
    refine own_retN X4 hx hlk (t := .boolean) Bd.returns (by simp) (hb hby d55_86) (by decide) (by decide) ?_
    show Q55 Z a o9 tk d kd z1 vs1 bt kt (1 : Int32) [(.int (own_by c0))] f9 cs h0 n0 (some (.int (nar .boolean (1 : Int32)))) T4.heap _
    rw [eq4]
    exact ⟨rfl, N4, rfl⟩
  · show own_Goes _ _ _ _ _ _ _ s₁ (mkF m 0 #[rv a, iv o9, rv tk, .unset] [])
    have hz := hat.z (by decide)
    have hz1 := hat.k (1 : Int32) (by decide) (by decide)
    refine own_st (fun _ kk_ => XS.aloadN X0.here hx rfl (hb hby d55_0) rfl rfl (XS.iloadN X0.here hx rfl (hb hby d55_1) rfl kk_)) ?_
    show own_Goes _ _ _ _ _ _ _ s₁ (mkF m 2 #[rv a, iv o9, rv tk, .unset] [(.int o9), (.ref a)])
    obtain ⟨cq5, kq5, q5a, q5b, q5c⟩ := isOf hZ e0 p_0
    obtain ⟨_, _, ⟨T5, L5, k5, n5⟩, -, X5, ⟨Lc5, hQ5, l5, y5, z5⟩, st5⟩ := X0.virtualBack hx (y := yy50) (z := yy50) hown (mvT hZ (own_w hw 270 rfl)) (mvT hZ (own_w hw 271 rfl)) (notFace_of_selects (args := #[]) (mvT hZ (own_w hw 273 rfl))) (mvT hZ (own_w hw 273 rfl)) (mvT hZ (own_w hw 272 rfl)) (by decide) (backOf (W := 0) (rm56 l Z a0 hw [] (a) (o9) (d) (kd) (z1) (vs1) (c0) f9 (cs) h0 n0 Z0 p_0 p_1 p_2 p_3 p_8 (by assumption) p_10 (by assumption) hz.1 hz.2.1 hz.2.2 hm0.m.i) hZ (own_w hw 274 rfl) (own_w hw 12 rfl) (by decide) (by decide)) q5a q5c (g := (mkF m 2 #[rv a, iv o9, rv tk, .unset] [(.int o9), (.ref a)])) rfl (by rw [hml]; rfl) (Steps.refl _) (argsL := [(.int o9)]) (rest := []) (lenOf pd_30 rfl) rfl (by show 2 * 0 + _ ≤ _; exact Nat.le_of_eq rfl) (hb hby d55_2) (fun _ _ => ⟨rfl, e0, (by decide : 0 + 0 ≤ _), (by decide : 0 + 0 ≤ _)⟩)
    dsimp only [Pt.U, Pt.locs, Pt.cells, Pt.slots] at X5 l5 y5 z5 st5 hQ5
    subst l5 y5 z5
    obtain ⟨rfl, Nq5, eq5⟩ := hQ5
    have N5 := Fr.app N0 Nq5
    refine own_st (fun _ kk_ => st5.trans kk_) ?_
    show own_Goes _ _ _ _ _ _ _ T5 (mkF m 5 #[rv a, iv o9, rv tk, .unset] [(.int c0)])
    refine own_st (fun _ kk_ => XS.aloadN X5.here hx rfl (hb hby d55_5) rfl rfl (XS.iconst X5.here hx rfl (hb hby d55_6) kk_)) ?_
    show own_Goes _ _ _ _ _ _ _ T5 (mkF m 7 #[rv a, iv o9, rv tk, .unset] [(.int (0 : Int32)), (.ref tk), (.int c0)])
    obtain ⟨cq6, kq6, q6a, q6b, q6c⟩ := isOf hZ eq5 p_4
    obtain ⟨_, _, ⟨T6, L6, k6, n6⟩, -, X6, ⟨Lc6, hQ6, l6, y6, z6⟩, st6⟩ := X5.virtualBack hx (y := yy50) (z := yy50) hown (mvT hZ (own_w hw 270 rfl)) (mvT hZ (own_w hw 271 rfl)) (notFace_of_selects (args := #[]) (mvT hZ (own_w hw 273 rfl))) (mvT hZ (own_w hw 273 rfl)) (mvT hZ (own_w hw 272 rfl)) (by decide) (backOf (W := 1) (rm56 l Z a0 hw [] (tk) ((0 : Int32)) (bt) (kt) ((2 : Int32)) ([(.int (own_by c0)), (.int (own_by c1))]) (c0) f9 (cs) h0 n0 Z0 p_4 p_5 p_6 p_7 p_8 (by assumption) p_10 (by assumption) (by decide) (by decide) rfl hm0.m.i) hZ (own_w hw 274 rfl) (own_w hw 12 rfl) (by decide) (by decide)) q6a q6c (g := (mkF m 7 #[rv a, iv o9, rv tk, .unset] [(.int (0 : Int32)), (.ref tk), (.int c0)])) rfl (by rw [hml]; rfl) (Steps.refl _) (argsL := [(.int (0 : Int32))]) (rest := [(.int c0)]) (lenOf pd_30 rfl) rfl (by show 2 * 0 + _ ≤ _; exact Nat.le_of_eq rfl) (hb hby d55_7) (fun _ _ => ⟨rfl, eq5, (by decide : 0 + 0 ≤ _), (by decide : 0 + 0 ≤ _)⟩)
    dsimp only [Pt.U, Pt.locs, Pt.cells, Pt.slots] at X6 l6 y6 z6 st6 hQ6
    subst l6 y6 z6
    obtain ⟨rfl, Nq6, eq6⟩ := hQ6
    have N6 := Fr.app N5 Nq6
    refine own_st (fun _ kk_ => st6.trans kk_) ?_
    show own_Goes _ _ _ _ _ _ _ T6 (mkF m 10 #[rv a, iv o9, rv tk, .unset] [(.int c0), (.int c0)])
    refine own_st (fun _ kk_ => XS.icmpNo X6.here hx rfl (hb hby d55_10) rfl (XT.ii_ne_f rfl) (XS.iconst X6.here hx rfl (hb hby d55_13) (XS.goto X6.here hx rfl (pc0 := 14) (pc' := 18) rfl (hb hby d55_14) (by decide) (by decide) (XS.istoreN X6.here hx rfl (hb hby d55_18) rfl (l' := #[rv a, iv o9, rv tk, iv (1 : Int32)]) rfl (XS.aloadN X6.here hx rfl (hb hby d55_19) rfl rfl kk_))))) ?_
    show own_Goes _ _ _ _ _ _ _ T6 (mkF m 20 #[rv a, iv o9, rv tk, iv (1 : Int32)] [(.ref tk)])
    obtain ⟨cq7, kq7, q7a, q7b, q7c⟩ := isOf hZ eq6 p_4
    obtain ⟨_, _, ⟨T7, L7, k7, n7⟩, -, X7, ⟨Lc7, hQ7, l7, y7, z7⟩, st7⟩ := X6.virtualBack hx (y := yy6) (z := yy6) hown (mvT hZ (own_w hw 266 rfl)) (mvT hZ (own_w hw 120 rfl)) (notFace_of_selects (args := #[]) (mvT hZ (own_w hw 122 rfl))) (mvT hZ (own_w hw 122 rfl)) (mvT hZ (own_w hw 121 rfl)) (by decide) (backOf (W := 0) (rm26 l Z a0 hw [] (tk) (bt) (kt) ((2 : Int32)) ([(.int (own_by c0)), (.int (own_by c1))]) (cs) h0 n0 Z0 p_4 p_5 p_6 p_7 p_10 (by assumption)) hZ (own_w hw 123 rfl) (own_w hw 12 rfl) (by decide) (by decide)) q7a q7c (g := (mkF m 20 #[rv a, iv o9, rv tk, iv (1 : Int32)] [(.ref tk)])) rfl (by rw [hml]; rfl) (Steps.refl _) (argsL := []) (rest := []) (lenOf pd_10 rfl) rfl (by show 2 * 0 + _ ≤ _; exact Nat.le_of_eq rfl) (hb hby d55_20) (fun _ _ => ⟨rfl, eq6, (by decide : 0 + 0 ≤ _), (by decide : 0 + 0 ≤ _)⟩)
    dsimp only [Pt.U, Pt.locs, Pt.cells, Pt.slots] at X7 l7 y7 z7 st7 hQ7
    subst l7 y7 z7
    obtain ⟨rfl, Nq7, eq7⟩ := hQ7
    have N7 := Fr.app N6 Nq7
    refine own_st (fun _ kk_ => st7.trans kk_) ?_
    show own_Goes _ _ _ _ _ _ _ T7 (mkF m 23 #[rv a, iv o9, rv tk, iv (1 : Int32)] [(.int (2 : Int32))])
    refine own_st (fun _ kk_ => XS.iconst X7.here hx rfl (hb hby d55_23) (XS.icmpNo X7.here hx rfl (hb hby d55_24) rfl (XT.ii_le_f (by decide)) (XS.iloadN X7.here hx rfl (hb hby d55_27) rfl (XS.ifNo X7.here hx rfl (hb hby d55_28) rfl (XT.i0_eq_f (by decide)) (XS.aloadN X7.here hx rfl (hb hby d55_31) rfl rfl (XS.iloadN X7.here hx rfl (hb hby d55_32) rfl (XS.iconst X7.here hx rfl (hb hby d55_33) (XS.iadd X7.here hx rfl (hb hby d55_34) rfl kk_)))))))) ?_
    show own_Goes _ _ _ _ _ _ _ T7 (mkF m 35 #[rv a, iv o9, rv tk, iv (1 : Int32)] [(.int (o9 + (1 : Int32))), (.ref a)])
    obtain ⟨cq8, kq8, q8a, q8b, q8c⟩ := isOf hZ eq7 p_0
    obtain ⟨_, _, ⟨T8, L8, k8, n8⟩, -, X8, ⟨Lc8, hQ8, l8, y8, z8⟩, st8⟩ := X7.virtualBack hx (y := yy50) (z := yy50) hown (mvT hZ (own_w hw 270 rfl)) (mvT hZ (own_w hw 271 rfl)) (notFace_of_selects (args := #[]) (mvT hZ (own_w hw 273 rfl))) (mvT hZ (own_w hw 273 rfl)) (mvT hZ (own_w hw 272 rfl)) (by decide) (backOf (W := 0) (rm56 l Z a0 hw [] (a) ((o9 + (1 : Int32))) (d) (kd) (z1) (vs1) (c1) f9 (cs) h0 n0 Z0 p_0 p_1 p_2 p_3 p_8 (by assumption) p_10 (by assumption) hz1.1 hz1.2.1 hz1.2.2 hm1.m.i) hZ (own_w hw 274 rfl) (own_w hw 12 rfl) (by decide) (by decide)) q8a q8c (g := (mkF m 35 #[rv a, iv o9, rv tk, iv (1 : Int32)] [(.int (o9 + (1 : Int32))), (.ref a)])) rfl (by rw [hml]; rfl) (Steps.refl _) (argsL := [(.int (o9 + (1 : Int32)))]) (rest := []) (lenOf pd_30 rfl) rfl (by show 2 * 0 + _ ≤ _; exact Nat.le_of_eq rfl) (hb hby d55_35) (fun _ _ => ⟨rfl, eq7, (by decide : 0 + 0 ≤ _), (by decide : 0 + 0 ≤ _)⟩)
    dsimp only [Pt.U, Pt.locs, Pt.cells, Pt.slots] at X8 l8 y8 z8 st8 hQ8
    subst l8 y8 z8
    obtain ⟨rfl, Nq8, eq8⟩ := hQ8
    have N8 := Fr.app N7 Nq8
    refine own_st (fun _ kk_ => st8.trans kk_) ?_
    show own_Goes _ _ _ _ _ _ _ T8 (mkF m 38 #[rv a, iv o9, rv tk, iv (1 : Int32)] [(.int c1)])
    refine own_st (fun _ kk_ => XS.aloadN X8.here hx rfl (hb hby d55_38) rfl rfl (XS.iconst X8.here hx rfl (hb hby d55_39) kk_)) ?_
    show own_Goes _ _ _ _ _ _ _ T8 (mkF m 40 #[rv a, iv o9, rv tk, iv (1 : Int32)] [(.int (1 : Int32)), (.ref tk), (.int c1)])
    obtain ⟨cq9, kq9, q9a, q9b, q9c⟩ := isOf hZ eq8 p_4
    obtain ⟨_, _, ⟨T9, L9, k9, n9⟩, -, X9, ⟨Lc9, hQ9, l9, y9, z9⟩, st9⟩ := X8.virtualBack hx (y := yy50) (z := yy50) hown (mvT hZ (own_w hw 270 rfl)) (mvT hZ (own_w hw 271 rfl)) (notFace_of_selects (args := #[]) (mvT hZ (own_w hw 273 rfl))) (mvT hZ (own_w hw 273 rfl)) (mvT hZ (own_w hw 272 rfl)) (by decide) (backOf (W := 1) (rm56 l Z a0 hw [] (tk) ((1 : Int32)) (bt) (kt) ((2 : Int32)) ([(.int (own_by c0)), (.int (own_by c1))]) (c1) f9 (cs) h0 n0 Z0 p_4 p_5 p_6 p_7 p_8 (by assumption) p_10 (by assumption) (by decide) (by decide) rfl hm1.m.i) hZ (own_w hw 274 rfl) (own_w hw 12 rfl) (by decide) (by decide)) q9a q9c (g := (mkF m 40 #[rv a, iv o9, rv tk, iv (1 : Int32)] [(.int (1 : Int32)), (.ref tk), (.int c1)])) rfl (by rw [hml]; rfl) (Steps.refl _) (argsL := [(.int (1 : Int32))]) (rest := [(.int c1)]) (lenOf pd_30 rfl) rfl (by show 2 * 0 + _ ≤ _; exact Nat.le_of_eq rfl) (hb hby d55_40) (fun _ _ => ⟨rfl, eq8, (by decide : 0 + 0 ≤ _), (by decide : 0 + 0 ≤ _)⟩)
    dsimp only [Pt.U, Pt.locs, Pt.cells, Pt.slots] at X9 l9 y9 z9 st9 hQ9
    subst l9 y9 z9
    obtain ⟨rfl, Nq9, eq9⟩ := hQ9
    have N9 := Fr.app N8 Nq9
    refine own_st (fun _ kk_ => st9.trans kk_) ?_
    show own_Goes _ _ _ _ _ _ _ T9 (mkF m 43 #[rv a, iv o9, rv tk, iv (1 : Int32)] [(.int c1), (.int c1)])
    refine own_st (fun _ kk_ => XS.icmpNo X9.here hx rfl (hb hby d55_43) rfl (XT.ii_ne_f rfl) (XS.iconst X9.here hx rfl (hb hby d55_46) (XS.goto X9.here hx rfl (pc0 := 47) (pc' := 51) rfl (hb hby d55_47) (by decide) (by decide) (XS.istoreN X9.here hx rfl (hb hby d55_51) rfl (l' := #[rv a, iv o9, rv tk, iv (1 : Int32)]) rfl (XS.aloadN X9.here hx rfl (hb hby d55_52) rfl rfl kk_))))) ?_
    show own_Goes _ _ _ _ _ _ _ T9 (mkF m 53 #[rv a, iv o9, rv tk, iv (1 : Int32)] [(.ref tk)])
    obtain ⟨cq10, kq10, q10a, q10b, q10c⟩ := isOf hZ eq9 p_4
    obtain ⟨_, _, ⟨T10, L10, k10, n10⟩, -, X10, ⟨Lc10, hQ10, l10, y10, z10⟩, st10⟩ := X9.virtualBack hx (y := yy6) (z := yy6) hown (mvT hZ (own_w hw 266 rfl)) (mvT hZ (own_w hw 120 rfl)) (notFace_of_selects (args := #[]) (mvT hZ (own_w hw 122 rfl))) (mvT hZ (own_w hw 122 rfl)) (mvT hZ (own_w hw 121 rfl)) (by decide) (backOf (W := 0) (rm26 l Z a0 hw [] (tk) (bt) (kt) ((2 : Int32)) ([(.int (own_by c0)), (.int (own_by c1))]) (cs) h0 n0 Z0 p_4 p_5 p_6 p_7 p_10 (by assumption)) hZ (own_w hw 123 rfl) (own_w hw 12 rfl) (by decide) (by decide)) q10a q10c (g := (mkF m 53 #[rv a, iv o9, rv tk, iv (1 : Int32)] [(.ref tk)])) rfl (by rw [hml]; rfl) (Steps.refl _) (argsL := []) (rest := []) (lenOf pd_10 rfl) rfl (by show 2 * 0 + _ ≤ _; exact Nat.le_of_eq rfl) (hb hby d55_53) (fun _ _ => ⟨rfl, eq9, (by decide : 0 + 0 ≤ _), (by decide : 0 + 0 ≤ _)⟩)
    dsimp only [Pt.U, Pt.locs, Pt.cells, Pt.slots] at X10 l10 y10 z10 st10 hQ10
    subst l10 y10 z10
    obtain ⟨rfl, Nq10, eq10⟩ := hQ10
    have N10 := Fr.app N9 Nq10
    refine own_st (fun _ kk_ => st10.trans kk_) ?_
    show own_Goes _ _ _ _ _ _ _ T10 (mkF m 56 #[rv a, iv o9, rv tk, iv (1 : Int32)] [(.int (2 : Int32))])
    refine own_st (fun _ kk_ => XS.iconst X10.here hx rfl (hb hby d55_56) (XS.icmpYes X10.here hx rfl (pc0 := 57) (pc' := 85) rfl (hb hby d55_57) rfl (XT.ii_le_t (by decide)) (by decide) (by decide) (XS.iloadN X10.here hx rfl (hb hby d55_85) rfl kk_))) ?_
    show own_Goes _ _ _ _ _ _ _ T10 (mkF m 86 #[rv a, iv o9, rv tk, iv (1 : Int32)] [(.int (1 : Int32))])
    refine own_retN X10 hx hlk (t := .boolean) Bd.returns (by simp) (hb hby d55_86) (by decide) (by decide) ?_
    show Q55 Z a o9 tk d kd z1 vs1 bt kt (2 : Int32) [(.int (own_by c0)), (.int (own_by c1))] f9 cs h0 n0 (some (.int (nar .boolean (1 : Int32)))) T10.heap _
    rw [eq10]
    exact ⟨rfl, N10, rfl⟩
  · show own_Goes _ _ _ _ _ _ _ s₁ (mkF m 0 #[rv a, iv o9, rv tk, .unset] [])
    have hz := hat.z (by decide)
    have hz1 := hat.k (1 : Int32) (by decide) (by decide)
    have hz2 := hat.k (2 : Int32) (by decide) (by decide)
    refine own_st (fun _ kk_ => XS.aloadN X0.here hx rfl (hb hby d55_0) rfl rfl (XS.iloadN X0.here hx rfl (hb hby d55_1) rfl kk_)) ?_
    show own_Goes _ _ _ _ _ _ _ s₁ (mkF m 2 #[rv a, iv o9, rv tk, .unset] [(.int o9), (.ref a)])
    obtain ⟨cq11, kq11, q11a, q11b, q11c⟩ := isOf hZ e0 p_0
    obtain ⟨_, _, ⟨T11, L11, k11, n11⟩, -, X11, ⟨Lc11, hQ11, l11, y11, z11⟩, st11⟩ := X0.virtualBack hx (y := yy50) (z := yy50) hown (mvT hZ (own_w hw 270 rfl)) (mvT hZ (own_w hw 271 rfl)) (notFace_of_selects (args := #[]) (mvT hZ (own_w hw 273 rfl))) (mvT hZ (own_w hw 273 rfl)) (mvT hZ (own_w hw 272 rfl)) (by decide) (backOf (W := 0) (rm56 l Z a0 hw [] (a) (o9) (d) (kd) (z1) (vs1) (c0) f9 (cs) h0 n0 Z0 p_0 p_1 p_2 p_3 p_8 (by assumption) p_10 (by assumption) hz.1 hz.2.1 hz.2.2 hm0.m.i) hZ (own_w hw 274 rfl) (own_w hw 12 rfl) (by decide) (by decide)) q11a q11c (g := (mkF m 2 #[rv a, iv o9, rv tk, .unset] [(.int o9), (.ref a)])) rfl (by rw [hml]; rfl) (Steps.refl _) (argsL := [(.int o9)]) (rest := []) (lenOf pd_30 rfl) rfl (by show 2 * 0 + _ ≤ _; exact Nat.le_of_eq rfl) (hb hby d55_2) (fun _ _ => ⟨rfl, e0, (by decide : 0 + 0 ≤ _), (by decide : 0 + 0 ≤ _)⟩)
    dsimp only [Pt.U, Pt.locs, Pt.cells, Pt.slots] at X11 l11 y11 z11 st11 hQ11
    subst l11 y11 z11
    obtain ⟨rfl, Nq11, eq11⟩ := hQ11
    have N11 := Fr.app N0 Nq11
    refine own_st (fun _ kk_ => st11.trans kk_) ?_
    show own_Goes _ _ _ _ _ _ _ T11 (mkF m 5 #[rv a, iv o9, rv tk, .unset] [(.int c0)])
    refine own_st (fun _ kk_ => XS.aloadN X11.here hx rfl (hb hby d55_5) rfl rfl (XS.iconst X11.here hx rfl (hb hby d55_6) kk_)) ?_
    show own_Goes _ _ _ _ _ _ _ T11 (mkF m 7 #[rv a, iv o9, rv tk, .unset] [(.int (0 : Int32)), (.ref tk), (.int c0)])
    obtain ⟨cq12, kq12, q12a, q12b, q12c⟩ := isOf hZ eq11 p_4
    obtain ⟨_, _, ⟨T12, L12, k12, n12⟩, -, X12, ⟨Lc12, hQ12, l12, y12, z12⟩, st12⟩ := X11.virtualBack hx (y := yy50) (z := yy50) hown (mvT hZ (own_w hw 270 rfl)) (mvT hZ (own_w hw 271 rfl)) (notFace_of_selects (args := #[]) (mvT hZ (own_w hw 273 rfl))) (mvT hZ (own_w hw 273 rfl)) (mvT hZ (own_w hw 272 rfl)) (by decide) (backOf (W := 1) (rm56 l Z a0 hw [] (tk) ((0 : Int32)) (bt) (kt) ((3 : Int32)) ([(.int (own_by c0)), (.int (own_by c1)), (.int (own_by c2))]) (c0) f9 (cs) h0 n0 Z0 p_4 p_5 p_6 p_7 p_8 (by assumption) p_10 (by assumption) (by decide) (by decide) rfl hm0.m.i) hZ (own_w hw 274 rfl) (own_w hw 12 rfl) (by decide) (by decide)) q12a q12c (g := (mkF m 7 #[rv a, iv o9, rv tk, .unset] [(.int (0 : Int32)), (.ref tk), (.int c0)])) rfl (by rw [hml]; rfl) (Steps.refl _) (argsL := [(.int (0 : Int32))]) (rest := [(.int c0)]) (lenOf pd_30 rfl) rfl (by show 2 * 0 + _ ≤ _; exact Nat.le_of_eq rfl) (hb hby d55_7) (fun _ _ => ⟨rfl, eq11, (by decide : 0 + 0 ≤ _), (by decide : 0 + 0 ≤ _)⟩)
    dsimp only [Pt.U, Pt.locs, Pt.cells, Pt.slots] at X12 l12 y12 z12 st12 hQ12
    subst l12 y12 z12
    obtain ⟨rfl, Nq12, eq12⟩ := hQ12
    have N12 := Fr.app N11 Nq12
    refine own_st (fun _ kk_ => st12.trans kk_) ?_
    show own_Goes _ _ _ _ _ _ _ T12 (mkF m 10 #[rv a, iv o9, rv tk, .unset] [(.int c0), (.int c0)])
    refine own_st (fun _ kk_ => XS.icmpNo X12.here hx rfl (hb hby d55_10) rfl (XT.ii_ne_f rfl) (XS.iconst X12.here hx rfl (hb hby d55_13) (XS.goto X12.here hx rfl (pc0 := 14) (pc' := 18) rfl (hb hby d55_14) (by decide) (by decide) (XS.istoreN X12.here hx rfl (hb hby d55_18) rfl (l' := #[rv a, iv o9, rv tk, iv (1 : Int32)]) rfl (XS.aloadN X12.here hx rfl (hb hby d55_19) rfl rfl kk_))))) ?_
    show own_Goes _ _ _ _ _ _ _ T12 (mkF m 20 #[rv a, iv o9, rv tk, iv (1 : Int32)] [(.ref tk)])
    obtain ⟨cq13, kq13, q13a, q13b, q13c⟩ := isOf hZ eq12 p_4
    obtain ⟨_, _, ⟨T13, L13, k13, n13⟩, -, X13, ⟨Lc13, hQ13, l13, y13, z13⟩, st13⟩ := X12.virtualBack hx (y := yy6) (z := yy6) hown (mvT hZ (own_w hw 266 rfl)) (mvT hZ (own_w hw 120 rfl)) (notFace_of_selects (args := #[]) (mvT hZ (own_w hw 122 rfl))) (mvT hZ (own_w hw 122 rfl)) (mvT hZ (own_w hw 121 rfl)) (by decide) (backOf (W := 0) (rm26 l Z a0 hw [] (tk) (bt) (kt) ((3 : Int32)) ([(.int (own_by c0)), (.int (own_by c1)), (.int (own_by c2))]) (cs) h0 n0 Z0 p_4 p_5 p_6 p_7 p_10 (by assumption)) hZ (own_w hw 123 rfl) (own_w hw 12 rfl) (by decide) (by decide)) q13a q13c (g := (mkF m 20 #[rv a, iv o9, rv tk, iv (1 : Int32)] [(.ref tk)])) rfl (by rw [hml]; rfl) (Steps.refl _) (argsL := []) (rest := []) (lenOf pd_10 rfl) rfl (by show 2 * 0 + _ ≤ _; exact Nat.le_of_eq rfl) (hb hby d55_20) (fun _ _ => ⟨rfl, eq12, (by decide : 0 + 0 ≤ _), (by decide : 0 + 0 ≤ _)⟩)
    dsimp only [Pt.U, Pt.locs, Pt.cells, Pt.slots] at X13 l13 y13 z13 st13 hQ13
    subst l13 y13 z13
    obtain ⟨rfl, Nq13, eq13⟩ := hQ13
    have N13 := Fr.app N12 Nq13
    refine own_st (fun _ kk_ => st13.trans kk_) ?_
    show own_Goes _ _ _ _ _ _ _ T13 (mkF m 23 #[rv a, iv o9, rv tk, iv (1 : Int32)] [(.int (3 : Int32))])
    refine own_st (fun _ kk_ => XS.iconst X13.here hx rfl (hb hby d55_23) (XS.icmpNo X13.here hx rfl (hb hby d55_24) rfl (XT.ii_le_f (by decide)) (XS.iloadN X13.here hx rfl (hb hby d55_27) rfl (XS.ifNo X13.here hx rfl (hb hby d55_28) rfl (XT.i0_eq_f (by decide)) (XS.aloadN X13.here hx rfl (hb hby d55_31) rfl rfl (XS.iloadN X13.here hx rfl (hb hby d55_32) rfl (XS.iconst X13.here hx rfl (hb hby d55_33) (XS.iadd X13.here hx rfl (hb hby d55_34) rfl kk_)))))))) ?_
    show own_Goes _ _ _ _ _ _ _ T13 (mkF m 35 #[rv a, iv o9, rv tk, iv (1 : Int32)] [(.int (o9 + (1 : Int32))), (.ref a)])
    obtain ⟨cq14, kq14, q14a, q14b, q14c⟩ := isOf hZ eq13 p_0
    obtain ⟨_, _, ⟨T14, L14, k14, n14⟩, -, X14, ⟨Lc14, hQ14, l14, y14, z14⟩, st14⟩ := X13.virtualBack hx (y := yy50) (z := yy50) hown (mvT hZ (own_w hw 270 rfl)) (mvT hZ (own_w hw 271 rfl)) (notFace_of_selects (args := #[]) (mvT hZ (own_w hw 273 rfl))) (mvT hZ (own_w hw 273 rfl)) (mvT hZ (own_w hw 272 rfl)) (by decide) (backOf (W := 0) (rm56 l Z a0 hw [] (a) ((o9 + (1 : Int32))) (d) (kd) (z1) (vs1) (c1) f9 (cs) h0 n0 Z0 p_0 p_1 p_2 p_3 p_8 (by assumption) p_10 (by assumption) hz1.1 hz1.2.1 hz1.2.2 hm1.i) hZ (own_w hw 274 rfl) (own_w hw 12 rfl) (by decide) (by decide)) q14a q14c (g := (mkF m 35 #[rv a, iv o9, rv tk, iv (1 : Int32)] [(.int (o9 + (1 : Int32))), (.ref a)])) rfl (by rw [hml]; rfl) (Steps.refl _) (argsL := [(.int (o9 + (1 : Int32)))]) (rest := []) (lenOf pd_30 rfl) rfl (by show 2 * 0 + _ ≤ _; exact Nat.le_of_eq rfl) (hb hby d55_35) (fun _ _ => ⟨rfl, eq13, (by decide : 0 + 0 ≤ _), (by decide : 0 + 0 ≤ _)⟩)
    dsimp only [Pt.U, Pt.locs, Pt.cells, Pt.slots] at X14 l14 y14 z14 st14 hQ14
    subst l14 y14 z14
    obtain ⟨rfl, Nq14, eq14⟩ := hQ14
    have N14 := Fr.app N13 Nq14
    refine own_st (fun _ kk_ => st14.trans kk_) ?_
    show own_Goes _ _ _ _ _ _ _ T14 (mkF m 38 #[rv a, iv o9, rv tk, iv (1 : Int32)] [(.int c1)])
    refine own_st (fun _ kk_ => XS.aloadN X14.here hx rfl (hb hby d55_38) rfl rfl (XS.iconst X14.here hx rfl (hb hby d55_39) kk_)) ?_
    show own_Goes _ _ _ _ _ _ _ T14 (mkF m 40 #[rv a, iv o9, rv tk, iv (1 : Int32)] [(.int (1 : Int32)), (.ref tk), (.int c1)])
    obtain ⟨cq15, kq15, q15a, q15b, q15c⟩ := isOf hZ eq14 p_4
    obtain ⟨_, _, ⟨T15, L15, k15, n15⟩, -, X15, ⟨Lc15, hQ15, l15, y15, z15⟩, st15⟩ := X14.virtualBack hx (y := yy50) (z := yy50) hown (mvT hZ (own_w hw 270 rfl)) (mvT hZ (own_w hw 271 rfl)) (notFace_of_selects (args := #[]) (mvT hZ (own_w hw 273 rfl))) (mvT hZ (own_w hw 273 rfl)) (mvT hZ (own_w hw 272 rfl)) (by decide) (backOf (W := 1) (rm56 l Z a0 hw [] (tk) ((1 : Int32)) (bt) (kt) ((3 : Int32)) ([(.int (own_by c0)), (.int (own_by c1)), (.int (own_by c2))]) (c1) f9 (cs) h0 n0 Z0 p_4 p_5 p_6 p_7 p_8 (by assumption) p_10 (by assumption) (by decide) (by decide) rfl hm1.i) hZ (own_w hw 274 rfl) (own_w hw 12 rfl) (by decide) (by decide)) q15a q15c (g := (mkF m 40 #[rv a, iv o9, rv tk, iv (1 : Int32)] [(.int (1 : Int32)), (.ref tk), (.int c1)])) rfl (by rw [hml]; rfl) (Steps.refl _) (argsL := [(.int (1 : Int32))]) (rest := [(.int c1)]) (lenOf pd_30 rfl) rfl (by show 2 * 0 + _ ≤ _; exact Nat.le_of_eq rfl) (hb hby d55_40) (fun _ _ => ⟨rfl, eq14, (by decide : 0 + 0 ≤ _), (by decide : 0 + 0 ≤ _)⟩)
    dsimp only [Pt.U, Pt.locs, Pt.cells, Pt.slots] at X15 l15 y15 z15 st15 hQ15
    subst l15 y15 z15
    obtain ⟨rfl, Nq15, eq15⟩ := hQ15
    have N15 := Fr.app N14 Nq15
    refine own_st (fun _ kk_ => st15.trans kk_) ?_
    show own_Goes _ _ _ _ _ _ _ T15 (mkF m 43 #[rv a, iv o9, rv tk, iv (1 : Int32)] [(.int c1), (.int c1)])
    refine own_st (fun _ kk_ => XS.icmpNo X15.here hx rfl (hb hby d55_43) rfl (XT.ii_ne_f rfl) (XS.iconst X15.here hx rfl (hb hby d55_46) (XS.goto X15.here hx rfl (pc0 := 47) (pc' := 51) rfl (hb hby d55_47) (by decide) (by decide) (XS.istoreN X15.here hx rfl (hb hby d55_51) rfl (l' := #[rv a, iv o9, rv tk, iv (1 : Int32)]) rfl (XS.aloadN X15.here hx rfl (hb hby d55_52) rfl rfl kk_))))) ?_
    show own_Goes _ _ _ _ _ _ _ T15 (mkF m 53 #[rv a, iv o9, rv tk, iv (1 : Int32)] [(.ref tk)])
    obtain ⟨cq16, kq16, q16a, q16b, q16c⟩ := isOf hZ eq15 p_4
    obtain ⟨_, _, ⟨T16, L16, k16, n16⟩, -, X16, ⟨Lc16, hQ16, l16, y16, z16⟩, st16⟩ := X15.virtualBack hx (y := yy6) (z := yy6) hown (mvT hZ (own_w hw 266 rfl)) (mvT hZ (own_w hw 120 rfl)) (notFace_of_selects (args := #[]) (mvT hZ (own_w hw 122 rfl))) (mvT hZ (own_w hw 122 rfl)) (mvT hZ (own_w hw 121 rfl)) (by decide) (backOf (W := 0) (rm26 l Z a0 hw [] (tk) (bt) (kt) ((3 : Int32)) ([(.int (own_by c0)), (.int (own_by c1)), (.int (own_by c2))]) (cs) h0 n0 Z0 p_4 p_5 p_6 p_7 p_10 (by assumption)) hZ (own_w hw 123 rfl) (own_w hw 12 rfl) (by decide) (by decide)) q16a q16c (g := (mkF m 53 #[rv a, iv o9, rv tk, iv (1 : Int32)] [(.ref tk)])) rfl (by rw [hml]; rfl) (Steps.refl _) (argsL := []) (rest := []) (lenOf pd_10 rfl) rfl (by show 2 * 0 + _ ≤ _; exact Nat.le_of_eq rfl) (hb hby d55_53) (fun _ _ => ⟨rfl, eq15, (by decide : 0 + 0 ≤ _), (by decide : 0 + 0 ≤ _)⟩)
    dsimp only [Pt.U, Pt.locs, Pt.cells, Pt.slots] at X16 l16 y16 z16 st16 hQ16
    subst l16 y16 z16
    obtain ⟨rfl, Nq16, eq16⟩ := hQ16
    have N16 := Fr.app N15 Nq16
    refine own_st (fun _ kk_ => st16.trans kk_) ?_
    show own_Goes _ _ _ _ _ _ _ T16 (mkF m 56 #[rv a, iv o9, rv tk, iv (1 : Int32)] [(.int (3 : Int32))])
    refine own_st (fun _ kk_ => XS.iconst X16.here hx rfl (hb hby d55_56) (XS.icmpNo X16.here hx rfl (hb hby d55_57) rfl (XT.ii_le_f (by decide)) (XS.iloadN X16.here hx rfl (hb hby d55_60) rfl (XS.ifNo X16.here hx rfl (hb hby d55_61) rfl (XT.i0_eq_f (by decide)) (XS.aloadN X16.here hx rfl (hb hby d55_64) rfl rfl (XS.iloadN X16.here hx rfl (hb hby d55_65) rfl (XS.iconst X16.here hx rfl (hb hby d55_66) (XS.iadd X16.here hx rfl (hb hby d55_67) rfl kk_)))))))) ?_
    show own_Goes _ _ _ _ _ _ _ T16 (mkF m 68 #[rv a, iv o9, rv tk, iv (1 : Int32)] [(.int (o9 + (2 : Int32))), (.ref a)])
    obtain ⟨cq17, kq17, q17a, q17b, q17c⟩ := isOf hZ eq16 p_0
    obtain ⟨_, _, ⟨T17, L17, k17, n17⟩, -, X17, ⟨Lc17, hQ17, l17, y17, z17⟩, st17⟩ := X16.virtualBack hx (y := yy50) (z := yy50) hown (mvT hZ (own_w hw 270 rfl)) (mvT hZ (own_w hw 271 rfl)) (notFace_of_selects (args := #[]) (mvT hZ (own_w hw 273 rfl))) (mvT hZ (own_w hw 273 rfl)) (mvT hZ (own_w hw 272 rfl)) (by decide) (backOf (W := 0) (rm56 l Z a0 hw [] (a) ((o9 + (2 : Int32))) (d) (kd) (z1) (vs1) (c2) f9 (cs) h0 n0 Z0 p_0 p_1 p_2 p_3 p_8 (by assumption) p_10 (by assumption) hz2.1 hz2.2.1 hz2.2.2 hm2.m.i) hZ (own_w hw 274 rfl) (own_w hw 12 rfl) (by decide) (by decide)) q17a q17c (g := (mkF m 68 #[rv a, iv o9, rv tk, iv (1 : Int32)] [(.int (o9 + (2 : Int32))), (.ref a)])) rfl (by rw [hml]; rfl) (Steps.refl _) (argsL := [(.int (o9 + (2 : Int32)))]) (rest := []) (lenOf pd_30 rfl) rfl (by show 2 * 0 + _ ≤ _; exact Nat.le_of_eq rfl) (hb hby d55_68) (fun _ _ => ⟨rfl, eq16, (by decide : 0 + 0 ≤ _), (by decide : 0 + 0 ≤ _)⟩)
    dsimp only [Pt.U, Pt.locs, Pt.cells, Pt.slots] at X17 l17 y17 z17 st17 hQ17
    subst l17 y17 z17
    obtain ⟨rfl, Nq17, eq17⟩ := hQ17
    have N17 := Fr.app N16 Nq17
    refine own_st (fun _ kk_ => st17.trans kk_) ?_
    show own_Goes _ _ _ _ _ _ _ T17 (mkF m 71 #[rv a, iv o9, rv tk, iv (1 : Int32)] [(.int c2)])
    refine own_st (fun _ kk_ => XS.aloadN X17.here hx rfl (hb hby d55_71) rfl rfl (XS.iconst X17.here hx rfl (hb hby d55_72) kk_)) ?_
    show own_Goes _ _ _ _ _ _ _ T17 (mkF m 73 #[rv a, iv o9, rv tk, iv (1 : Int32)] [(.int (2 : Int32)), (.ref tk), (.int c2)])
    obtain ⟨cq18, kq18, q18a, q18b, q18c⟩ := isOf hZ eq17 p_4
    obtain ⟨_, _, ⟨T18, L18, k18, n18⟩, -, X18, ⟨Lc18, hQ18, l18, y18, z18⟩, st18⟩ := X17.virtualBack hx (y := yy50) (z := yy50) hown (mvT hZ (own_w hw 270 rfl)) (mvT hZ (own_w hw 271 rfl)) (notFace_of_selects (args := #[]) (mvT hZ (own_w hw 273 rfl))) (mvT hZ (own_w hw 273 rfl)) (mvT hZ (own_w hw 272 rfl)) (by decide) (backOf (W := 1) (rm56 l Z a0 hw [] (tk) ((2 : Int32)) (bt) (kt) ((3 : Int32)) ([(.int (own_by c0)), (.int (own_by c1)), (.int (own_by c2))]) (c2) f9 (cs) h0 n0 Z0 p_4 p_5 p_6 p_7 p_8 (by assumption) p_10 (by assumption) (by decide) (by decide) rfl hm2.m.i) hZ (own_w hw 274 rfl) (own_w hw 12 rfl) (by decide) (by decide)) q18a q18c (g := (mkF m 73 #[rv a, iv o9, rv tk, iv (1 : Int32)] [(.int (2 : Int32)), (.ref tk), (.int c2)])) rfl (by rw [hml]; rfl) (Steps.refl _) (argsL := [(.int (2 : Int32))]) (rest := [(.int c2)]) (lenOf pd_30 rfl) rfl (by show 2 * 0 + _ ≤ _; exact Nat.le_of_eq rfl) (hb hby d55_73) (fun _ _ => ⟨rfl, eq17, (by decide : 0 + 0 ≤ _), (by decide : 0 + 0 ≤ _)⟩)
    dsimp only [Pt.U, Pt.locs, Pt.cells, Pt.slots] at X18 l18 y18 z18 st18 hQ18
    subst l18 y18 z18
    obtain ⟨rfl, Nq18, eq18⟩ := hQ18
    have N18 := Fr.app N17 Nq18
    refine own_st (fun _ kk_ => st18.trans kk_) ?_
    show own_Goes _ _ _ _ _ _ _ T18 (mkF m 76 #[rv a, iv o9, rv tk, iv (1 : Int32)] [(.int c2), (.int c2)])
    refine own_st (fun _ kk_ => XS.icmpNo X18.here hx rfl (hb hby d55_76) rfl (XT.ii_ne_f rfl) (XS.iconst X18.here hx rfl (hb hby d55_79) (XS.goto X18.here hx rfl (pc0 := 80) (pc' := 84) rfl (hb hby d55_80) (by decide) (by decide) (XS.istoreN X18.here hx rfl (hb hby d55_84) rfl (l' := #[rv a, iv o9, rv tk, iv (1 : Int32)]) rfl (XS.iloadN X18.here hx rfl (hb hby d55_85) rfl kk_))))) ?_
    show own_Goes _ _ _ _ _ _ _ T18 (mkF m 86 #[rv a, iv o9, rv tk, iv (1 : Int32)] [(.int (1 : Int32))])
    refine own_retN X18 hx hlk (t := .boolean) Bd.returns (by simp) (hb hby d55_86) (by decide) (by decide) ?_
    show Q55 Z a o9 tk d kd z1 vs1 bt kt (3 : Int32) [(.int (own_by c0)), (.int (own_by c1)), (.int (own_by c2))] f9 cs h0 n0 (some (.int (nar .boolean (1 : Int32)))) T18.heap _
    rw [eq18]
    exact ⟨rfl, N18, rfl⟩
abbrev rRrm11 : Room := { frames := 1, cells := 0, slots := 0, locals := 12 }
theorem d11_0 : decode jdk_30_method_1_code 0 = .ok (.aload_n 0, 1) := by decide +kernel
theorem d11_1 : decode jdk_30_method_1_code 1 = .ok (.invokespecial 1, 3) := by decide +kernel
theorem d11_4 : decode jdk_30_method_1_code 4 = .ok (.return_, 1) := by decide +kernel
theorem pn_rm11 : plainFor yy52 = true := by first | exact plainFor_of_name (by first | (simp [plainName, overriddenIn]; done) | decide +kernel) | decide +kernel
theorem ef_rm11 (m : MethodId) (pr : Addr) : entryFrame m #[(.ref pr)] 1 = (mkF m 0 #[rv pr] []) := by first | (simp [entryFrame, mkF, argsToLocals, Value.category]; done) | rfl
def Q11 (Z : State) (pr : Addr) (h0 : Heap) (n0 : Nat) (v_ : Option Value) (h_ : Heap) (L_ : List Loc) : Prop := (v_ = none) ∧ (Fr n0 L_) ∧ (h_ = h0)
set_option maxRecDepth 65536 in
set_option maxHeartbeats 40000000 in
theorem rm11 (l : Launch) (Z : State) (a0 : Array Value) (hw : ∀ d ∈ tables_1, d.before a0 Z = true) (ws : List Jvm.Cond) (pr : Addr) (h0 : Heap) (n0 : Nat) (Z0 : n0 ≤ h0.size) (p_0 : Exa Z h0 pr "com/example/firm_duties/firmduties/BusinessContext$Pair") :
    MetFree l yy52 (head1 (Jvm.Cond.code yy52 jdk_30_method_1_code 1 none :: ws) rRrm11) (fun a_ U_ => a_ = #[(.ref pr)] ∧ Z.Warmed39 U_.vm ∧ U_.heap = h0) (fun _ _ _ _ _ => True) (fun _ U_ o_ U1_ => ∃ v_ L_, o_ = .returned v_ ∧ Q11 Z pr h0 n0 v_ U1_.heap L_ ∧ FrameEnd U_ o_ U1_ L_ rRrm11.cells rRrm11.slots) := by
  refine MetFree.of_bodySF pn_rm11 hisR ?_
  intro p e s m args below meth c s₁ Bd hml0 hP hK
  obtain ⟨rfl, hZ, hh⟩ := hP
  have hx := Bd.exec
  have hby := Bd.bytes
  have hlk : meth.locks = false := Bd.notSynchronized
  have hml : c.maxLocals = 1 := hml0
  have hown : s.vm.findClass "java/lang/Record" = some m.cls := findClass_of_methodNamed Bd.named
  have hnm := (name_of_methodNamed Bd.named Bd.method).1
  have X0 : Stand p l e rRrm11 s m #[(.ref pr)] below meth c s₁ [] 0 0 := Stand.of_body Bd
  have e0 : s₁.heap = h0 := by rw [← hh, Bd.state]; rfl
  have N0 := Fr.nil n0
  show own_Goes p e below s (Q11 Z pr h0 n0) rRrm11.cells rRrm11.slots s₁ (entryFrame m #[(.ref pr)] 1)
  rw [ef_rm11 m pr]
  show own_Goes p e below s (Q11 Z pr h0 n0) rRrm11.cells rRrm11.slots s₁ (mkF m 0 #[rv pr] [])
  refine own_st (fun _ kk_ => XS.aloadN X0.here hx rfl (hb hby d11_0) rfl rfl kk_) ?_
  show own_Goes _ _ _ _ _ _ _ s₁ (mkF m 1 #[rv pr] [(.ref pr)])
  obtain ⟨T1, X1, e1, st1⟩ := initO X0 hx hZ hown (own_w hw 51 rfl) (own_w hw 22 rfl) (own_w hw 23 rfl) e0 (g := (mkF m 1 #[rv pr] [(.ref pr)])) rfl (by rw [hml]; rfl) rfl (hb hby d11_1) (by decide) (W := 0) (by show 2 * 0 + _ ≤ _; exact Nat.le_of_eq rfl) (by decide)
  refine own_st st1 ?_
  show own_Goes _ _ _ _ _ _ _ T1 (mkF m 4 #[rv pr] [])
  refine own_ret0 X1 hx hlk Bd.returns (hb hby d11_4) (by decide) (by decide) ?_
  show Q11 Z pr h0 n0 none T1.heap _
  rw [e1]
  exact ⟨rfl, N0, rfl⟩
abbrev rRrm10 : Room := { frames := 6, cells := 4, slots := 44, locals := 85 }
theorem d10_0 : decode prog_3_method_1_code 0 = .ok (.aload_n 0, 1) := by decide +kernel
theorem d10_1 : decode prog_3_method_1_code 1 = .ok (.invokespecial 1, 3) := by decide +kernel
theorem d10_4 : decode prog_3_method_1_code 4 = .ok (.ldc 7, 2) := by decide +kernel
theorem d10_6 : decode prog_3_method_1_code 6 = .ok (.aload_n 1, 1) := by decide +kernel
theorem d10_7 : decode prog_3_method_1_code 7 = .ok (.invokestatic 9, 3) := by decide +kernel
theorem d10_10 : decode prog_3_method_1_code 10 = .ok (.ldc 15, 2) := by decide +kernel
theorem d10_12 : decode prog_3_method_1_code 12 = .ok (.aload_n 2, 1) := by decide +kernel
theorem d10_13 : decode prog_3_method_1_code 13 = .ok (.invokestatic 9, 3) := by decide +kernel
theorem d10_16 : decode prog_3_method_1_code 16 = .ok (.aload_n 0, 1) := by decide +kernel
theorem d10_17 : decode prog_3_method_1_code 17 = .ok (.aload_n 1, 1) := by decide +kernel
theorem d10_18 : decode prog_3_method_1_code 18 = .ok (.putfield 17, 3) := by decide +kernel
theorem d10_21 : decode prog_3_method_1_code 21 = .ok (.aload_n 0, 1) := by decide +kernel
theorem d10_22 : decode prog_3_method_1_code 22 = .ok (.aload_n 2, 1) := by decide +kernel
theorem d10_23 : decode prog_3_method_1_code 23 = .ok (.putfield 22, 3) := by decide +kernel
theorem d10_26 : decode prog_3_method_1_code 26 = .ok (.return_, 1) := by decide +kernel
theorem pd_31 : parseMethodDescriptor "(Ljava/lang/String;Ljava/lang/String;)V" = some ⟨[(.object "java/lang/String"), (.object "java/lang/String")], none⟩ := by decide +kernel
theorem pn_rm10 : plainFor yy53 = true := by first | exact plainFor_of_name (by first | (simp [plainName, overriddenIn]; done) | decide +kernel) | decide +kernel
theorem ef_rm10 (m : MethodId) (pr : Addr) (aa1 : Addr) (aa2 : Addr) : entryFrame m #[(.ref pr), (.ref aa1), (.ref aa2)] 3 = (mkF m 0 #[rv pr, rv aa1, rv aa2] []) := by first | (simp [entryFrame, mkF, argsToLocals, Value.category]; done) | rfl
def Q10 (Z : State) (pr : Addr) (aa1 : Addr) (aa2 : Addr) (ba : Addr) (kb1 : ClassId) (na : Int32) (va : List Value) (bz : Addr) (kb2 : ClassId) (nz : Int32) (vb : List Value) (ci : Addr) (ca : Addr) (ka : ClassId) (cs : Int32) (h0 : Heap) (n0 : Nat) (v_ : Option Value) (h_ : Heap) (L_ : List Loc) : Prop := (v_ = none) ∧ (Fr n0 L_) ∧ (Keep h0 h_ [pr]) ∧ (Exa Z h_ pr "com/example/firm_duties/firmduties/BusinessContext$Pair") ∧ (Fld Z h_ pr "com/example/firm_duties/firmduties/BusinessContext$Pair" "type" "Ljava/lang/String;" (.ref aa1)) ∧ (Fld Z h_ pr "com/example/firm_duties/firmduties/BusinessContext$Pair" "value" "Ljava/lang/String;" (.ref aa2))
set_option maxRecDepth 65536 in
set_option maxHeartbeats 40000000 in
theorem rm10 (l : Launch) (Z : State) (a0 : Array Value) (hw : ∀ d ∈ tables_1, d.before a0 Z = true) (ws : List Jvm.Cond) (pr : Addr) (aa1 : Addr) (aa2 : Addr) (ba : Addr) (kb1 : ClassId) (na : Int32) (va : List Value) (bz : Addr) (kb2 : ClassId) (nz : Int32) (vb : List Value) (ci : Addr) (ca : Addr) (ka : ClassId) (cs : Int32) (h0 : Heap) (n0 : Nat) (Z0 : n0 ≤ h0.size) (p_0 : Exa Z h0 pr "com/example/firm_duties/firmduties/BusinessContext$Pair") (p_1 : Fld Z h0 pr "com/example/firm_duties/firmduties/BusinessContext$Pair" "type" "Ljava/lang/String;" .null) (p_2 : Fld Z h0 pr "com/example/firm_duties/firmduties/BusinessContext$Pair" "value" "Ljava/lang/String;" .null) (p_3 : n0 ≤ pr) (p_4 : Exa Z h0 aa1 "java/lang/String") (p_5 : Fld Z h0 aa1 "java/lang/String" "coder" "B" (.int (0 : Int32))) (p_6 : Fld Z h0 aa1 "java/lang/String" "value" "[B" (.ref ba)) (p_7 : Arv Z h0 ba kb1 .byte na va (.int (0 : Int32))) (p_8 : Exa Z h0 aa2 "java/lang/String") (p_9 : Fld Z h0 aa2 "java/lang/String" "coder" "B" (.int (0 : Int32))) (p_10 : Fld Z h0 aa2 "java/lang/String" "value" "[B" (.ref bz)) (p_11 : Arv Z h0 bz kb2 .byte nz vb (.int (0 : Int32))) (p_12 : Sta Z h0 "java/lang/CharacterDataLatin1" "instance" "Ljava/lang/CharacterDataLatin1;" (.ref ci)) (p_13 : Exa Z h0 ci "java/lang/CharacterDataLatin1") (p_14 : Sta Z h0 "java/lang/CharacterDataLatin1" "A" "[I" (.ref ca)) (p_15 : Arv Z h0 ca ka .int (256 : Int32) own_A (.int (0 : Int32))) (p_16 : Sta Z h0 "java/lang/String" "COMPACT_STRINGS" "Z" (.int cs)) (hcs : ¬ cs = (0 : Int32)) (ht1 : own_tok na va) (ht2 : own_tok nz vb) :
    MetFree l yy53 (head1 (Jvm.Cond.code yy53 prog_3_method_1_code 3 none :: ws) rRrm10) (fun a_ U_ => a_ = #[(.ref pr), (.ref aa1), (.ref aa2)] ∧ Z.Warmed39 U_.vm ∧ U_.heap = h0) (fun _ _ _ _ _ => True) (fun _ U_ o_ U1_ => ∃ v_ L_, o_ = .returned v_ ∧ Q10 Z pr aa1 aa2 ba kb1 na va bz kb2 nz vb ci ca ka cs h0 n0 v_ U1_.heap L_ ∧ ReturnedEndW U_ o_ U1_ L_ rRrm10.cells rRrm10.slots) := by
  refine MetFree.of_bodySF pn_rm10 hisR ?_
  intro p e s m args below meth c s₁ Bd hml0 hP hK
  obtain ⟨rfl, hZ, hh⟩ := hP
  have hx := Bd.exec
  have hby := Bd.bytes
  have hlk : meth.locks = false := Bd.notSynchronized
  have hml : c.maxLocals = 3 := hml0
  have hown : s.vm.findClass "com/example/firm_duties/firmduties/BusinessContext$Pair" = some m.cls := findClass_of_methodNamed Bd.named
  have hnm := (name_of_methodNamed Bd.named Bd.method).1
  have X0 : Stand p l e rRrm10 (s.setVm s.vm) m #[(.ref pr), (.ref aa1), (.ref aa2)] below meth c s₁ [] 0 0 := Stand.of_body Bd
  have e0 : s₁.heap = h0 := by rw [← hh, Bd.state]; rfl
  have N0 := Fr.nil n0
  have hS0 : s.Since s.vm n0 := (State.WarmedH.refl s).since n0
  have wS : ∀ d ∈ Bundle.stringAtoms, d.before a0 Z = true := by
    intro d hd
    simp only [Bundle.stringAtoms, List.mem_cons, List.not_mem_nil, or_false] at hd
    rcases hd with rfl | rfl | rfl | rfl | rfl | rfl | rfl
    · exact (own_w hw 12 rfl)
    · exact (own_w hw 11 rfl)
    · exact (own_w hw 29 rfl)
    · exact (own_w hw 39 rfl)
    · exact (own_w hw 37 rfl)
    · exact (own_w hw 53 rfl)
    · exact (own_w hw 54 rfl)
  show own_GoesW p e below s (Q10 Z pr aa1 aa2 ba kb1 na va bz kb2 nz vb ci ca ka cs h0 n0) rRrm10.cells rRrm10.slots s₁ (entryFrame m #[(.ref pr), (.ref aa1), (.ref aa2)] 3)
  rw [ef_rm10 m pr aa1 aa2]
  show own_GoesW p e below s (Q10 Z pr aa1 aa2 ba kb1 na va bz kb2 nz vb ci ca ka cs h0 n0) rRrm10.cells rRrm10.slots s₁ (mkF m 0 #[rv pr, rv aa1, rv aa2] [])
  refine own_stW (fun _ kk_ => XS.aloadN X0.here hx rfl (hb hby d10_0) rfl rfl kk_) ?_
  show own_GoesW _ _ _ _ _ _ _ s₁ (mkF m 1 #[rv pr, rv aa1, rv aa2] [(.ref pr)])
  obtain ⟨_, _, ⟨T1, L1, k1, n1⟩, -, X1, ⟨Lc1, hQ1, l1, y1, z1⟩, st1⟩ := X0.specialBack hx (y := yy52) rfl hown (mvT hZ (own_w hw 46 rfl)) (mvT hZ (own_w hw 47 rfl)) (mvT hZ (own_w hw 50 rfl)) (by decide) (backOf (W := 0) (rm11 l Z a0 hw [] (pr) h0 n0 Z0 p_0) hZ (own_w hw 50 rfl) (own_w hw 49 rfl) (by decide) (by decide)) (g := (mkF m 1 #[rv pr, rv aa1, rv aa2] [(.ref pr)])) rfl (by rw [hml]; rfl) (Steps.refl _) (a := pr) (argsL := []) (rest := []) (lenOf pd_26 rfl) rfl (by show 2 * 0 + _ ≤ _; exact Nat.le_of_eq rfl) (hb hby d10_1) (fun _ _ => ⟨rfl, e0, (by decide : 0 + 0 ≤ _), (by decide : 0 + 0 ≤ _)⟩)
  dsimp only [Pt.U, Pt.locs, Pt.cells, Pt.slots] at X1 l1 y1 z1 st1 hQ1
  subst l1 y1 z1
  obtain ⟨rfl, Nq1, eq1⟩ := hQ1
  have N1 := Fr.app N0 Nq1
  refine own_stW (fun _ kk_ => st1.trans kk_) ?_
  show own_GoesW _ _ _ _ _ _ _ T1 (mkF m 4 #[rv pr, rv aa1, rv aa2] [])
  obtain ⟨b2, T2, h2, k2, X2, e2, E2, hS2, Ka2, hZ, hown, st2⟩ := ldcS X1 hx hZ hown (own_w hw 52 rfl) wS eq1 hS0 Z0 (g := (mkF m 4 #[rv pr, rv aa1, rv aa2] [])) rfl (hb hby d10_4) (n := 16) (by decide) (by decide) (by decide) (by decide)
  have f2_0 := p_0.ext E2
  have f2_1 := p_1.ext E2
  have f2_2 := p_2.ext E2
  have f2_3 := p_4.ext E2
  have f2_4 := p_5.ext E2
  have f2_5 := p_6.ext E2
  have f2_6 := p_7.ext E2
  have f2_7 := p_8.ext E2
  have f2_8 := p_9.ext E2
  have f2_9 := p_10.ext E2
  have f2_10 := p_11.ext E2
  have f2_11 := p_12.ext E2
  have f2_12 := p_13.ext E2
  have f2_13 := p_14.ext E2
  have f2_14 := p_15.ext E2
  have f2_15 := p_16.ext E2
  have Zs2 : n0 ≤ h2.size := Nat.le_trans Z0 E2.1
  have K2 := (Keep.refl h0 [pr]).ext E2
  have Ks2 := Nat.le_trans Z0 E2.1
  refine own_stW st2 ?_
  show own_GoesW _ _ _ _ _ _ _ T2 (mkF m 6 #[rv pr, rv aa1, rv aa2] [(.ref b2)])
  refine own_stW (fun _ kk_ => XS.aloadN X2.here hx rfl (hb hby d10_6) rfl rfl kk_) ?_
  show own_GoesW _ _ _ _ _ _ _ T2 (mkF m 7 #[rv pr, rv aa1, rv aa2] [(.ref aa1), (.ref b2)])
  obtain ⟨_, _, ⟨T3, L3, k3, n3⟩, -, X3, ⟨Lc3, hQ3, l3, y3, z3⟩, st3⟩ := callSN X2 hx (y := yy24) hown (Cond.methodLinkNest_wide hZ (own_w hw 55 rfl) :) (mvT hZ (own_w hw 56 rfl)) (mvT hZ (own_w hw 57 rfl)) (mvT hZ (own_w hw 58 rfl)) (by decide) (backOf (W := 0) (rm12 l Z a0 hw [] (b2) (aa1) (ba) (kb1) (na) (va) (ci) (ca) (ka) (cs) h2 n0 Zs2 f2_3 f2_4 f2_5 f2_6 f2_11 f2_12 f2_13 f2_14 ht1 f2_15 (by assumption)) hZ (own_w hw 58 rfl) (own_w hw 57 rfl) (by decide) (by decide)) (g := (mkF m 7 #[rv pr, rv aa1, rv aa2] [(.ref aa1), (.ref b2)])) rfl (by rw [hml]; rfl) (argsL := [(.ref b2), (.ref aa1)]) (rest := []) (lenOf pd_31 rfl) rfl (by show 2 * 0 + _ ≤ _; exact Nat.le_of_eq rfl) (hb hby d10_7) (fun _ _ => ⟨rfl, e2, (by decide : 2 + 0 ≤ _), (by decide : 20 + 0 ≤ _)⟩)
  dsimp only [Pt.U, Pt.locs, Pt.cells, Pt.slots] at X3 l3 y3 z3 st3 hQ3
  subst l3 y3 z3
  obtain ⟨rfl, Nq3, eq3⟩ := hQ3
  have N3 := Fr.app N1 Nq3
  refine own_stW (fun _ kk_ => st3.trans kk_) ?_
  show own_GoesW _ _ _ _ _ _ _ T3 (mkF m 10 #[rv pr, rv aa1, rv aa2] [])
  obtain ⟨b4, T4, h4, k4, X4, e4, E4, hS4, Ka4, hZ, hown, st4⟩ := ldcS X3 hx hZ hown (own_w hw 145 rfl) wS eq3 hS2 Ka2 (g := (mkF m 10 #[rv pr, rv aa1, rv aa2] [])) rfl (hb hby d10_10) (n := 20) (by decide) (by decide) (by decide) (by decide)
  have f4_0 := f2_0.ext E4
  have f4_1 := f2_1.ext E4
  have f4_2 := f2_2.ext E4
  have f4_3 := f2_3.ext E4
  have f4_4 := f2_4.ext E4
  have f4_5 := f2_5.ext E4
  have f4_6 := f2_6.ext E4
  have f4_7 := f2_7.ext E4
  have f4_8 := f2_8.ext E4
  have f4_9 := f2_9.ext E4
  have f4_10 := f2_10.ext E4
  have f4_11 := f2_11.ext E4
  have f4_12 := f2_12.ext E4
  have f4_13 := f2_13.ext E4
  have f4_14 := f2_14.ext E4
  have f4_15 := f2_15.ext E4
  have Zs4 : n0 ≤ h4.size := Nat.le_trans Zs2 E4.1
  have K4 := K2.ext E4
  have Ks4 := Nat.le_trans Ka2 E4.1
  refine own_stW st4 ?_
  show own_GoesW _ _ _ _ _ _ _ T4 (mkF m 12 #[rv pr, rv aa1, rv aa2] [(.ref b4)])
  refine own_stW (fun _ kk_ => XS.aloadN X4.here hx rfl (hb hby d10_12) rfl rfl kk_) ?_
  show own_GoesW _ _ _ _ _ _ _ T4 (mkF m 13 #[rv pr, rv aa1, rv aa2] [(.ref aa2), (.ref b4)])
  obtain ⟨_, _, ⟨T5, L5, k5, n5⟩, -, X5, ⟨Lc5, hQ5, l5, y5, z5⟩, st5⟩ := callSN X4 hx (y := yy24) hown (Cond.methodLinkNest_wide hZ (own_w hw 55 rfl) :) (mvT hZ (own_w hw 56 rfl)) (mvT hZ (own_w hw 57 rfl)) (mvT hZ (own_w hw 58 rfl)) (by decide) (backOf (W := 0) (rm12 l Z a0 hw [] (b4) (aa2) (bz) (kb2) (nz) (vb) (ci) (ca) (ka) (cs) h4 n0 Zs4 f4_7 f4_8 f4_9 f4_10 f4_11 f4_12 f4_13 f4_14 ht2 f4_15 (by assumption)) hZ (own_w hw 58 rfl) (own_w hw 57 rfl) (by decide) (by decide)) (g := (mkF m 13 #[rv pr, rv aa1, rv aa2] [(.ref aa2), (.ref b4)])) rfl (by rw [hml]; rfl) (argsL := [(.ref b4), (.ref aa2)]) (rest := []) (lenOf pd_31 rfl) rfl (by show 2 * 0 + _ ≤ _; exact Nat.le_of_eq rfl) (hb hby d10_13) (fun _ _ => ⟨rfl, e4, (by decide : 4 + 0 ≤ _), (by decide : 44 + 0 ≤ _)⟩)
  dsimp only [Pt.U, Pt.locs, Pt.cells, Pt.slots] at X5 l5 y5 z5 st5 hQ5
  subst l5 y5 z5
  obtain ⟨rfl, Nq5, eq5⟩ := hQ5
  have N5 := Fr.app N3 Nq5
  refine own_stW (fun _ kk_ => st5.trans kk_) ?_
  show own_GoesW _ _ _ _ _ _ _ T5 (mkF m 16 #[rv pr, rv aa1, rv aa2] [])
  refine own_stW (fun _ kk_ => XS.aloadN X5.here hx rfl (hb hby d10_16) rfl rfl (XS.aloadN X5.here hx rfl (hb hby d10_17) rfl rfl kk_)) ?_
  show own_GoesW _ _ _ _ _ _ _ T5 (mkF m 18 #[rv pr, rv aa1, rv aa2] [(.ref aa1), (.ref pr)])
  obtain ⟨T6, h6, X6, e6, W6, st6⟩ := putF X5 hx hZ hown (host := "") (Or.inl (own_w hw 146 rfl)) Via.refl eq5 f4_1 f4_0 (Or.inr ⟨(own_w hw 147 rfl), rfl, hnm⟩) (own_w hw 41 rfl) (ty := (.object "java/lang/String")) (by decide) rfl rfl (g := (mkF m 18 #[rv pr, rv aa1, rv aa2] [(.ref aa1), (.ref pr)])) rfl rfl (hb hby d10_18)
  have fw6 : Fld Z h6 pr "com/example/firm_duties/firmduties/BusinessContext$Pair" "type" "Ljava/lang/String;" (.ref aa1) := f4_1.same W6
  have f6_0 := f4_0.wr W6
  have f6_2 := f4_2.other W6 (Or.inr (slot_ne (Or.inr (own_w hw 149 rfl)) (Or.inr (own_w hw 147 rfl)) (by decide) (t := (.object "java/lang/String")) (t' := (.object "java/lang/String")) (by decide) (by decide)))
  have f6_3 := f4_3.wr W6
  have f6_7 := f4_7.wr W6
  have f6_11 := f4_11.wr W6
  have f6_12 := f4_12.wr W6
  have f6_13 := f4_13.wr W6
  have f6_15 := f4_15.wr W6
  have Zs6 : n0 ≤ h6.size := Nat.le_trans Zs4 (Nat.le_of_eq W6.size.symm)
  have K6 := K4.wr W6 (Or.inl (List.mem_of_getElem? (i := 0) rfl))
  have Ks6 := Nat.le_trans Ka4 (Nat.le_of_eq W6.size.symm)
  have N6 := Fr.snoc X6 N5 p_3
  refine own_stW st6 ?_
  show own_GoesW _ _ _ _ _ _ _ T6 (mkF m 21 #[rv pr, rv aa1, rv aa2] [])
  refine own_stW (fun _ kk_ => XS.aloadN X6.here hx rfl (hb hby d10_21) rfl rfl (XS.aloadN X6.here hx rfl (hb hby d10_22) rfl rfl kk_)) ?_
  show own_GoesW _ _ _ _ _ _ _ T6 (mkF m 23 #[rv pr, rv aa1, rv aa2] [(.ref aa2), (.ref pr)])
  obtain ⟨T7, h7, X7, e7, W7, st7⟩ := putF X6 hx hZ hown (host := "") (Or.inl (own_w hw 148 rfl)) Via.refl e6 f6_2 f6_0 (Or.inr ⟨(own_w hw 149 rfl), rfl, hnm⟩) (own_w hw 41 rfl) (ty := (.object "java/lang/String")) (by decide) rfl rfl (g := (mkF m 23 #[rv pr, rv aa1, rv aa2] [(.ref aa2), (.ref pr)])) rfl rfl (hb hby d10_23)
  have fw7 : Fld Z h7 pr "com/example/firm_duties/firmduties/BusinessContext$Pair" "value" "Ljava/lang/String;" (.ref aa2) := f6_2.same W7
  have f7_0 := f6_0.wr W7
  have f7_2 := f6_3.wr W7
  have f7_3 := f6_7.wr W7
  have f7_4 := f6_11.wr W7
  have f7_5 := f6_12.wr W7
  have f7_6 := f6_13.wr W7
  have f7_7 := f6_15.wr W7
  have f7_8 := fw6.other W7 (Or.inr (slot_ne (Or.inr (own_w hw 147 rfl)) (Or.inr (own_w hw 149 rfl)) (by decide) (t := (.object "java/lang/String")) (t' := (.object "java/lang/String")) (by decide) (by decide)))
  have Zs7 : n0 ≤ h7.size := Nat.le_trans Zs6 (Nat.le_of_eq W7.size.symm)
  have K7 := K6.wr W7 (Or.inl (List.mem_of_getElem? (i := 0) rfl))
  have Ks7 := Nat.le_trans Ks6 (Nat.le_of_eq W7.size.symm)
  have N7 := Fr.snoc X7 N6 p_3
  refine own_stW st7 ?_
  show own_GoesW _ _ _ _ _ _ _ T7 (mkF m 26 #[rv pr, rv aa1, rv aa2] [])
  refine own_endW (v := none) X7 hlk hS4 (by rw [e7]; exact Ks7) (fun _ => rfl) (by decide) (by decide) ?_ (fun fs hr => X7.returnOut hx Bd.returns (hb hby d10_26) hr)
  show Q10 Z pr aa1 aa2 ba kb1 na va bz kb2 nz vb ci ca ka cs h0 n0 none T7.heap _
  rw [e7]
  exact ⟨rfl, N7, K7, f7_0, f7_8, fw7⟩
theorem own_4 (x : Int32) : x &&& 3 = 0 ∨ x &&& 3 = 1 ∨ x &&& 3 = 2 ∨ x &&& 3 = 3 := by
  have h := c_mask x 3 2 (by decide) (by decide)
  simp only [← Int32.toInt_inj, Int32.reduceToInt]; omega
theorem own_n3 (x : Int32) : own_t3 ((1 : Int32) + ((x &&& (3 : Int32)) % (3 : Int32))) := by
  unfold own_t3; rcases own_4 x with h | h | h | h <;> rw [h] <;> decide
theorem own_tok.t {z : Int32} {vs : List Value} (h : own_tok z vs) : own_t z := by
  unfold own_t; rcases h with ⟨_, rfl, -⟩ | ⟨_, _, rfl, -⟩ | ⟨_, _, _, rfl, -⟩ <;> decide
theorem own_0a (c : Int32) : (0 : Int32) + c = c := by
  have q := c_iadd 0 c; have := ((0 : Int32) + c).le_toInt; have := ((0 : Int32) + c).toInt_lt; have := c.le_toInt; have := c.toInt_lt; simp only [Int32.reduceToInt] at q; refine Int32.toInt_inj.mp ?_; omega
theorem own_len (a b : Int32) : (((0 : Int32) + a + (1 : Int32) + b)) = ((a + (1 : Int32)) + b) := by rw [own_0a]
theorem own_out {na nz : Int32} {va vb : List Value} (h : own_tok na va) (g : own_tok nz vb) : own_at (own_cp (own_cp vb (List.set (own_cp va own_z16 (0 : Int32) (0 : Int32) na (.int (0 : Int32))) ((0 : Int32) + na).toNatClampNeg (.int (nar .byte ((61 : Int32).toInt8.toInt32)))) (0 : Int32) ((0 : Int32) + na + (1 : Int32)) nz (.int (0 : Int32))) own_z7 (0 : Int32) (0 : Int32) ((0 : Int32) + na + (1 : Int32) + nz) (.int (0 : Int32))) ((0 : Int32) + na + (1 : Int32) + nz) (0 : Int32) va na ∧ own_at (own_cp (own_cp vb (List.set (own_cp va own_z16 (0 : Int32) (0 : Int32) na (.int (0 : Int32))) ((0 : Int32) + na).toNatClampNeg (.int (nar .byte ((61 : Int32).toInt8.toInt32)))) (0 : Int32) ((0 : Int32) + na + (1 : Int32)) nz (.int (0 : Int32))) own_z7 (0 : Int32) (0 : Int32) ((0 : Int32) + na + (1 : Int32) + nz) (.int (0 : Int32))) ((0 : Int32) + na + (1 : Int32) + nz) (na + (1 : Int32)) vb nz ∧ ¬ na < (0 : Int32) ∧ na < ((0 : Int32) + na + (1 : Int32) + nz) ∧ (own_cp (own_cp vb (List.set (own_cp va own_z16 (0 : Int32) (0 : Int32) na (.int (0 : Int32))) ((0 : Int32) + na).toNatClampNeg (.int (nar .byte ((61 : Int32).toInt8.toInt32)))) (0 : Int32) ((0 : Int32) + na + (1 : Int32)) nz (.int (0 : Int32))) own_z7 (0 : Int32) (0 : Int32) ((0 : Int32) + na + (1 : Int32) + nz) (.int (0 : Int32))).getD na.toNatClampNeg (.int (0 : Int32)) = .int (own_by 61) := by
  rcases h with ⟨c0, rfl, rfl, hm0⟩ | ⟨c0, c1, rfl, rfl, hm0, hm1⟩ | ⟨c0, c1, c2, rfl, rfl, hm0, hm1, hm2⟩ <;> rcases g with ⟨d0, rfl, rfl, hg0⟩ | ⟨d0, d1, rfl, rfl, hg0, hg1⟩ | ⟨d0, d1, d2, rfl, rfl, hg0, hg1, hg2⟩
  all_goals refine ⟨⟨by decide, by decide, ?_⟩, ⟨by decide, by decide, ?_⟩, by decide, by decide, rfl⟩
  all_goals intro i hi; rcases i with _ | _ | _ | i
  all_goals first | rfl | exact absurd hi (by decide) | (exfalso; revert hi; show ¬ (i + 1 + 1 + 1 < _); have e3 : (3 : Int32).toNatClampNeg = 3 := rfl; have e2 : (2 : Int32).toNatClampNeg = 2 := rfl; have e1 : (1 : Int32).toNatClampNeg = 1 := rfl; omega)
theorem pd_32 : parseMethodDescriptor "(ICCC)Ljava/lang/String;" = some ⟨[.int, .char, .char, .char], some (.object "java/lang/String")⟩ := by decide +kernel
theorem pd_33 : parseMethodDescriptor "(Ljava/lang/String;ILjava/lang/String;)Z" = some ⟨[(.object "java/lang/String"), .int, (.object "java/lang/String")], some .boolean⟩ := by decide +kernel
theorem pn_rm0 : plainFor x = true := by first | exact plainFor_of_name (by first | (simp [plainName, overriddenIn]; done) | decide +kernel) | decide +kernel
theorem ef_rm0 (m : MethodId) (p1 : Int64) (p2 : Int64) (p3 : Int32) : entryFrame m #[(.long p1), (.long p2), (.int p3)] maxLocals = (mkF m 0 #[.val (.long p1), .second, .val (.long p2), .second, iv p3, .unset, .unset, .unset, .unset, .unset, .unset] []) := by first | (simp [entryFrame, mkF, argsToLocals, Value.category, maxLocals]; done) | rfl
def Q0 (Z : State) (p1 : Int64) (p2 : Int64) (p3 : Int32) (ci : Addr) (ca : Addr) (ka : ClassId) (f9 : Value) (cs : Int32) (h0 : Heap) (n0 : Nat) (v_ : Option Value) (h_ : Heap) (L_ : List Loc) : Prop := (v_ = some (.int (1 : Int32))) ∧ (Fr n0 L_)
set_option maxRecDepth 65536 in
set_option maxHeartbeats 40000000 in
theorem rm0 (l : Launch) (Z : State) (a0 : Array Value) (hw : ∀ d ∈ tables_1, d.before a0 Z = true) (ws : List Jvm.Cond) (p1 : Int64) (p2 : Int64) (p3 : Int32) (ci : Addr) (ca : Addr) (ka : ClassId) (f9 : Value) (cs : Int32) (h0 : Heap) (n0 : Nat) (Z0 : n0 ≤ h0.size) (p_0 : Sta Z h0 "java/lang/CharacterDataLatin1" "instance" "Ljava/lang/CharacterDataLatin1;" (.ref ci)) (p_1 : Exa Z h0 ci "java/lang/CharacterDataLatin1") (p_2 : Sta Z h0 "java/lang/CharacterDataLatin1" "A" "[I" (.ref ca)) (p_3 : Arv Z h0 ca ka .int (256 : Int32) own_A (.int (0 : Int32))) (p_4 : Sta Z h0 "jdk/internal/util/Preconditions" "SIOOBE_FORMATTER" "Ljava/util/function/BiFunction;" f9) (hf9 : f9.isRef = true) (p_6 : Sta Z h0 "java/lang/String" "COMPACT_STRINGS" "Z" (.int cs)) (hcs : ¬ cs = (0 : Int32)) :
    MetFree l x (head1 (Jvm.Cond.code x code maxLocals ret :: ws) room_1) (fun a_ U_ => a_ = #[(.long p1), (.long p2), (.int p3)] ∧ Z.Warmed39 U_.vm ∧ U_.heap = h0) (fun _ _ _ _ _ => True) (fun _ U_ o_ U1_ => ∃ v_ L_, o_ = .returned v_ ∧ Q0 Z p1 p2 p3 ci ca ka f9 cs h0 n0 v_ U1_.heap L_ ∧ ReturnedEndW U_ o_ U1_ L_ 40 2240) := by
  refine MetFree.of_bodySF pn_rm0 hisR ?_
  intro p e s m args below meth c s₁ Bd hml0 hP hK
  obtain ⟨rfl, hZ, hh⟩ := hP
  have hx := Bd.exec
  have hby := Bd.bytes
  have hlk : meth.locks = false := Bd.notSynchronized
  have hml : c.maxLocals = 11 := hml0
  have hown : s.vm.findClass "com/example/firm_duties/firmduties/PairToStringPinLaw" = some m.cls := findClass_of_methodNamed Bd.named
  have hnm := (name_of_methodNamed Bd.named Bd.method).1
  have X0 : Stand p l e room_1 (s.setVm s.vm) m #[(.long p1), (.long p2), (.int p3)] below meth c s₁ [] 0 0 := Stand.of_body Bd
  have e0 : s₁.heap = h0 := by rw [← hh, Bd.state]; rfl
  have N0 := Fr.nil n0
  have hS0 : s.Since s.vm n0 := (State.WarmedH.refl s).since n0
  have wS : ∀ d ∈ Bundle.stringAtoms, d.before a0 Z = true := by
    intro d hd
    simp only [Bundle.stringAtoms, List.mem_cons, List.not_mem_nil, or_false] at hd
    rcases hd with rfl | rfl | rfl | rfl | rfl | rfl | rfl
    · exact (own_w hw 12 rfl)
    · exact (own_w hw 11 rfl)
    · exact (own_w hw 29 rfl)
    · exact (own_w hw 39 rfl)
    · exact (own_w hw 37 rfl)
    · exact (own_w hw 53 rfl)
    · exact (own_w hw 54 rfl)
  show own_GoesW p e below s (Q0 Z p1 p2 p3 ci ca ka f9 cs h0 n0) 40 2240 s₁ (entryFrame m #[(.long p1), (.long p2), (.int p3)] maxLocals)
  rw [ef_rm0 m p1 p2 p3]
  show own_GoesW p e below s (Q0 Z p1 p2 p3 ci ca ka f9 cs h0 n0) 40 2240 s₁ (mkF m 0 #[.val (.long p1), .second, .val (.long p2), .second, iv p3, .unset, .unset, .unset, .unset, .unset, .unset] [])
  refine own_stW (fun _ kk_ => XS.iconst X0.here hx rfl (hb hby at_0) (XS.iload X0.here hx rfl (hb hby at_1) rfl (XS.iconst X0.here hx rfl (hb hby at_3) (XS.iand X0.here hx rfl (hb hby at_4) rfl (XS.iconst X0.here hx rfl (hb hby at_5) (iremM X0 hx rfl (hb hby at_6) rfl (by decide) (XS.iadd X0.here hx rfl (hb hby at_7) rfl (XS.istore X0.here hx rfl (hb hby at_8) rfl (l' := #[.val (.long p1), .second, .val (.long p2), .second, iv p3, iv ((1 : Int32) + ((p3 &&& (3 : Int32)) % (3 : Int32))), .unset, .unset, .unset, .unset, .unset]) rfl (XS.iconst X0.here hx rfl (hb hby at_10) (XS.iload X0.here hx rfl (hb hby at_11) rfl (XS.iconst X0.here hx rfl (hb hby at_13) (XS.iushr X0.here hx rfl (hb hby at_14) rfl kk_)))))))))))) ?_
  show own_GoesW _ _ _ _ _ _ _ s₁ (mkF m 15 #[.val (.long p1), .second, .val (.long p2), .second, iv p3, iv ((1 : Int32) + ((p3 &&& (3 : Int32)) % (3 : Int32))), .unset, .unset, .unset, .unset, .unset] [(.int ((p3.toUInt32 >>> ((2 : Int32) &&& 31).toUInt32).toInt32)), (.int (1 : Int32))])
  refine own_stW (fun _ kk_ => XS.iconst X0.here hx rfl (hb hby at_15) (XS.iand X0.here hx rfl (hb hby at_16) rfl (XS.iconst X0.here hx rfl (hb hby at_17) (iremM X0 hx rfl (hb hby at_18) rfl (by decide) (XS.iadd X0.here hx rfl (hb hby at_19) rfl (XS.istore X0.here hx rfl (hb hby at_20) rfl (l' := #[.val (.long p1), .second, .val (.long p2), .second, iv p3, iv ((1 : Int32) + ((p3 &&& (3 : Int32)) % (3 : Int32))), iv ((1 : Int32) + ((((p3.toUInt32 >>> ((2 : Int32) &&& 31).toUInt32).toInt32) &&& (3 : Int32)) % (3 : Int32))), .unset, .unset, .unset, .unset]) rfl kk_)))))) ?_
  show own_GoesW _ _ _ _ _ _ _ s₁ (mkF m 22 #[.val (.long p1), .second, .val (.long p2), .second, iv p3, iv ((1 : Int32) + ((p3 &&& (3 : Int32)) % (3 : Int32))), iv ((1 : Int32) + ((((p3.toUInt32 >>> ((2 : Int32) &&& 31).toUInt32).toInt32) &&& (3 : Int32)) % (3 : Int32))), .unset, .unset, .unset, .unset] [])
  have hna := own_n3 p3
  have hnz := own_n3 ((p3.toUInt32 >>> ((2 : Int32) &&& 31).toUInt32).toInt32)
  obtain ⟨na, h_na⟩ : ∃ z, z = ((1 : Int32) + ((p3 &&& (3 : Int32)) % (3 : Int32))) := ⟨_, rfl⟩
  rw [← h_na]
  show own_GoesW _ _ _ _ _ _ _ s₁ (mkF m 22 #[.val (.long p1), .second, .val (.long p2), .second, iv p3, iv na, iv ((1 : Int32) + ((((p3.toUInt32 >>> ((2 : Int32) &&& 31).toUInt32).toInt32) &&& (3 : Int32)) % (3 : Int32))), .unset, .unset, .unset, .unset] [])
  rw [← h_na] at hna
  obtain ⟨nz, h_nz⟩ : ∃ z, z = ((1 : Int32) + ((((p3.toUInt32 >>> ((2 : Int32) &&& 31).toUInt32).toInt32) &&& (3 : Int32)) % (3 : Int32))) := ⟨_, rfl⟩
  rw [← h_nz]
  show own_GoesW _ _ _ _ _ _ _ s₁ (mkF m 22 #[.val (.long p1), .second, .val (.long p2), .second, iv p3, iv na, iv nz, .unset, .unset, .unset, .unset] [])
  rw [← h_nz] at hnz
  refine own_stW (fun _ kk_ => XS.iload X0.here hx rfl (hb hby at_22) rfl (XS.lloadN X0.here hx rfl (hb hby at_24) rfl (XS.l2i X0.here hx rfl (hb hby at_25) rfl kk_))) ?_
  show own_GoesW _ _ _ _ _ _ _ s₁ (mkF m 26 #[.val (.long p1), .second, .val (.long p2), .second, iv p3, iv na, iv nz, .unset, .unset, .unset, .unset] [(.int (p1.toInt32)), (.int na)])
  obtain ⟨_, _, ⟨T1, L1, k1, n1⟩, -, X1, ⟨Lc1, hQ1, l1, y1, z1⟩, st1⟩ := Jvm.LawKit.callS X0 hx (y := yy0) hown (mvT hZ (own_w hw 0 rfl)) (mvT hZ (own_w hw 1 rfl)) (mvT hZ (own_w hw 2 rfl)) (mvT hZ (own_w hw 3 rfl)) (by decide) (backOf (W := 1) (rm1 l Z a0 hw [] ((p1.toInt32)) h0 n0 Z0) hZ (own_w hw 3 rfl) (own_w hw 2 rfl) (by decide) (by decide)) (g := (mkF m 26 #[.val (.long p1), .second, .val (.long p2), .second, iv p3, iv na, iv nz, .unset, .unset, .unset, .unset] [(.int (p1.toInt32)), (.int na)])) rfl (by rw [hml]; rfl) (argsL := [(.int (p1.toInt32))]) (rest := [(.int na)]) (lenOf pd_30 rfl) rfl (by show 2 * 0 + _ ≤ _; exact Nat.le_of_eq rfl) (hb hby at_26) (fun _ _ => ⟨rfl, e0, (by decide : 0 + 0 ≤ _), (by decide : 0 + 0 ≤ _)⟩)
  dsimp only [Pt.U, Pt.locs, Pt.cells, Pt.slots] at X1 l1 y1 z1 st1 hQ1
  subst l1 y1 z1
  obtain ⟨x1_r9, rfl, Nq1, eq1, u1_0⟩ := hQ1
  have N1 := Fr.app N0 Nq1
  refine own_stW st1 ?_
  show own_GoesW _ _ _ _ _ _ _ T1 (mkF m 29 #[.val (.long p1), .second, .val (.long p2), .second, iv p3, iv na, iv nz, .unset, .unset, .unset, .unset] [(.int x1_r9), (.int na)])
  refine own_stW (fun _ kk_ => XS.lloadN X1.here hx rfl (hb hby at_29) rfl (XS.bipush X1.here hx rfl (hb hby at_30) (XS.lushr X1.here hx rfl (hb hby at_32) rfl (XS.l2i X1.here hx rfl (hb hby at_33) rfl kk_)))) ?_
  show own_GoesW _ _ _ _ _ _ _ T1 (mkF m 34 #[.val (.long p1), .second, .val (.long p2), .second, iv p3, iv na, iv nz, .unset, .unset, .unset, .unset] [(.int (((p1.toUInt64 >>> ((8 : Int32) &&& 0x3f).toInt64.toUInt64).toInt64).toInt32)), (.int x1_r9), (.int na)])
  obtain ⟨_, _, ⟨T2, L2, k2, n2⟩, -, X2, ⟨Lc2, hQ2, l2, y2, z2⟩, st2⟩ := Jvm.LawKit.callS X1 hx (y := yy1) hown (mvT hZ (own_w hw 4 rfl)) (mvT hZ (own_w hw 5 rfl)) (mvT hZ (own_w hw 2 rfl)) (mvT hZ (own_w hw 6 rfl)) (by decide) (backOf (W := 2) (rm2 l Z a0 hw [] ((((p1.toUInt64 >>> ((8 : Int32) &&& 0x3f).toInt64.toUInt64).toInt64).toInt32)) h0 n0 Z0) hZ (own_w hw 6 rfl) (own_w hw 2 rfl) (by decide) (by decide)) (g := (mkF m 34 #[.val (.long p1), .second, .val (.long p2), .second, iv p3, iv na, iv nz, .unset, .unset, .unset, .unset] [(.int (((p1.toUInt64 >>> ((8 : Int32) &&& 0x3f).toInt64.toUInt64).toInt64).toInt32)), (.int x1_r9), (.int na)])) rfl (by rw [hml]; rfl) (argsL := [(.int (((p1.toUInt64 >>> ((8 : Int32) &&& 0x3f).toInt64.toUInt64).toInt64).toInt32))]) (rest := [(.int x1_r9), (.int na)]) (lenOf pd_30 rfl) rfl (by show 2 * 0 + _ ≤ _; exact Nat.le_of_eq rfl) (hb hby at_34) (fun _ _ => ⟨rfl, eq1, (by decide : 0 + 0 ≤ _), (by decide : 0 + 0 ≤ _)⟩)
  dsimp only [Pt.U, Pt.locs, Pt.cells, Pt.slots] at X2 l2 y2 z2 st2 hQ2
  subst l2 y2 z2
  obtain ⟨x2_r9, rfl, Nq2, eq2, u2_0⟩ := hQ2
  have N2 := Fr.app N1 Nq2
  refine own_stW st2 ?_
  show own_GoesW _ _ _ _ _ _ _ T2 (mkF m 37 #[.val (.long p1), .second, .val (.long p2), .second, iv p3, iv na, iv nz, .unset, .unset, .unset, .unset] [(.int x2_r9), (.int x1_r9), (.int na)])
  refine own_stW (fun _ kk_ => XS.lloadN X2.here hx rfl (hb hby at_37) rfl (XS.bipush X2.here hx rfl (hb hby at_38) (XS.lushr X2.here hx rfl (hb hby at_40) rfl (XS.l2i X2.here hx rfl (hb hby at_41) rfl kk_)))) ?_
  show own_GoesW _ _ _ _ _ _ _ T2 (mkF m 42 #[.val (.long p1), .second, .val (.long p2), .second, iv p3, iv na, iv nz, .unset, .unset, .unset, .unset] [(.int (((p1.toUInt64 >>> ((16 : Int32) &&& 0x3f).toInt64.toUInt64).toInt64).toInt32)), (.int x2_r9), (.int x1_r9), (.int na)])
  obtain ⟨_, _, ⟨T3, L3, k3, n3⟩, -, X3, ⟨Lc3, hQ3, l3, y3, z3⟩, st3⟩ := Jvm.LawKit.callS X2 hx (y := yy0) hown (mvT hZ (own_w hw 0 rfl)) (mvT hZ (own_w hw 1 rfl)) (mvT hZ (own_w hw 2 rfl)) (mvT hZ (own_w hw 3 rfl)) (by decide) (backOf (W := 3) (rm1 l Z a0 hw [] ((((p1.toUInt64 >>> ((16 : Int32) &&& 0x3f).toInt64.toUInt64).toInt64).toInt32)) h0 n0 Z0) hZ (own_w hw 3 rfl) (own_w hw 2 rfl) (by decide) (by decide)) (g := (mkF m 42 #[.val (.long p1), .second, .val (.long p2), .second, iv p3, iv na, iv nz, .unset, .unset, .unset, .unset] [(.int (((p1.toUInt64 >>> ((16 : Int32) &&& 0x3f).toInt64.toUInt64).toInt64).toInt32)), (.int x2_r9), (.int x1_r9), (.int na)])) rfl (by rw [hml]; rfl) (argsL := [(.int (((p1.toUInt64 >>> ((16 : Int32) &&& 0x3f).toInt64.toUInt64).toInt64).toInt32))]) (rest := [(.int x2_r9), (.int x1_r9), (.int na)]) (lenOf pd_30 rfl) rfl (by show 2 * 0 + _ ≤ _; exact Nat.le_of_eq rfl) (hb hby at_42) (fun _ _ => ⟨rfl, eq2, (by decide : 0 + 0 ≤ _), (by decide : 0 + 0 ≤ _)⟩)
  dsimp only [Pt.U, Pt.locs, Pt.cells, Pt.slots] at X3 l3 y3 z3 st3 hQ3
  subst l3 y3 z3
  obtain ⟨x3_r9, rfl, Nq3, eq3, u3_0⟩ := hQ3
  have N3 := Fr.app N2 Nq3
  refine own_stW st3 ?_
  show own_GoesW _ _ _ _ _ _ _ T3 (mkF m 45 #[.val (.long p1), .second, .val (.long p2), .second, iv p3, iv na, iv nz, .unset, .unset, .unset, .unset] [(.int x3_r9), (.int x2_r9), (.int x1_r9), (.int na)])
  obtain ⟨_, _, ⟨T4, L4, k4, n4⟩, -, X4, ⟨Lc4, hQ4, l4, y4, z4⟩, st4⟩ := Jvm.LawKit.callS X3 hx (y := yy3) hown (mvT hZ (own_w hw 7 rfl)) (mvT hZ (own_w hw 8 rfl)) (mvT hZ (own_w hw 2 rfl)) (mvT hZ (own_w hw 9 rfl)) (by decide) (backOf (W := 0) (rm3 l Z a0 hw [] (na) (x1_r9) (x2_r9) (x3_r9) (cs) h0 n0 Z0 p_6 (by assumption) hna u1_0 u2_0 u3_0) hZ (own_w hw 9 rfl) (own_w hw 2 rfl) (by decide) (by decide)) (g := (mkF m 45 #[.val (.long p1), .second, .val (.long p2), .second, iv p3, iv na, iv nz, .unset, .unset, .unset, .unset] [(.int x3_r9), (.int x2_r9), (.int x1_r9), (.int na)])) rfl (by rw [hml]; rfl) (argsL := [(.int na), (.int x1_r9), (.int x2_r9), (.int x3_r9)]) (rest := []) (lenOf pd_32 rfl) rfl (by show 2 * 0 + _ ≤ _; exact Nat.le_of_eq rfl) (hb hby at_45) (fun _ _ => ⟨rfl, eq3, (by decide : 0 + 3 ≤ _), (by decide : 0 + 10 ≤ _)⟩)
  dsimp only [Pt.U, Pt.locs, Pt.cells, Pt.slots] at X4 l4 y4 z4 st4 hQ4
  subst l4 y4 z4
  obtain ⟨x4_y, x4_d, x4_kd, x4_vs9, rfl, Nq4, Kq4, u4_0, u4_1, u4_2, u4_3, u4_4, u4_5⟩ := hQ4
  have N4 := Fr.app N3 Nq4
  have f4_0 := own_Sta_keep p_0 Kq4 ns0
  have f4_1 := p_1.keep Kq4
  have f4_2 := own_Sta_keep p_2 Kq4 ns0
  have f4_3 := p_3.keep Kq4 nin0
  have f4_4 := own_Sta_keep p_4 Kq4 ns0
  have f4_5 := own_Sta_keep p_6 Kq4 ns0
  have Ks4 := Nat.le_trans Z0 Kq4.1
  have Zs4 : n0 ≤ T4.heap.size := Nat.le_trans Z0 Kq4.1
  have ne4_ci : ci ≠ x4_y := Nat.ne_of_lt (Nat.lt_of_lt_of_le p_1.lt u4_0)
  have ne4_ca : ca ≠ x4_y := Nat.ne_of_lt (Nat.lt_of_lt_of_le p_3.lt u4_0)
  have gg4_y : n0 ≤ x4_y := Nat.le_trans Z0 u4_0
  refine own_stW st4 ?_
  show own_GoesW _ _ _ _ _ _ _ T4 (mkF m 48 #[.val (.long p1), .second, .val (.long p2), .second, iv p3, iv na, iv nz, .unset, .unset, .unset, .unset] [(.ref x4_y)])
  refine own_stW (fun _ kk_ => XS.astore X4.here hx rfl (hb hby at_48) rfl rfl (l' := #[.val (.long p1), .second, .val (.long p2), .second, iv p3, iv na, iv nz, rv x4_y, .unset, .unset, .unset]) rfl (XS.iload X4.here hx rfl (hb hby at_50) rfl (XS.lloadN X4.here hx rfl (hb hby at_52) rfl (XS.l2i X4.here hx rfl (hb hby at_53) rfl kk_)))) ?_
  show own_GoesW _ _ _ _ _ _ _ T4 (mkF m 54 #[.val (.long p1), .second, .val (.long p2), .second, iv p3, iv na, iv nz, rv x4_y, .unset, .unset, .unset] [(.int (p2.toInt32)), (.int nz)])
  obtain ⟨_, _, ⟨T5, L5, k5, n5⟩, -, X5, ⟨Lc5, hQ5, l5, y5, z5⟩, st5⟩ := Jvm.LawKit.callS X4 hx (y := yy0) hown (mvT hZ (own_w hw 0 rfl)) (mvT hZ (own_w hw 1 rfl)) (mvT hZ (own_w hw 2 rfl)) (mvT hZ (own_w hw 3 rfl)) (by decide) (backOf (W := 1) (rm1 l Z a0 hw [] ((p2.toInt32)) T4.heap n0 Zs4) hZ (own_w hw 3 rfl) (own_w hw 2 rfl) (by decide) (by decide)) (g := (mkF m 54 #[.val (.long p1), .second, .val (.long p2), .second, iv p3, iv na, iv nz, rv x4_y, .unset, .unset, .unset] [(.int (p2.toInt32)), (.int nz)])) rfl (by rw [hml]; rfl) (argsL := [(.int (p2.toInt32))]) (rest := [(.int nz)]) (lenOf pd_30 rfl) rfl (by show 2 * 0 + _ ≤ _; exact Nat.le_of_eq rfl) (hb hby at_54) (fun _ _ => ⟨rfl, rfl, (by decide : 3 + 0 ≤ _), (by decide : 10 + 0 ≤ _)⟩)
  dsimp only [Pt.U, Pt.locs, Pt.cells, Pt.slots] at X5 l5 y5 z5 st5 hQ5
  subst l5 y5 z5
  obtain ⟨x5_r9, rfl, Nq5, eq5, u5_0⟩ := hQ5
  have N5 := Fr.app N4 Nq5
  refine own_stW st5 ?_
  show own_GoesW _ _ _ _ _ _ _ T5 (mkF m 57 #[.val (.long p1), .second, .val (.long p2), .second, iv p3, iv na, iv nz, rv x4_y, .unset, .unset, .unset] [(.int x5_r9), (.int nz)])
  refine own_stW (fun _ kk_ => XS.lloadN X5.here hx rfl (hb hby at_57) rfl (XS.bipush X5.here hx rfl (hb hby at_58) (XS.lushr X5.here hx rfl (hb hby at_60) rfl (XS.l2i X5.here hx rfl (hb hby at_61) rfl kk_)))) ?_
  show own_GoesW _ _ _ _ _ _ _ T5 (mkF m 62 #[.val (.long p1), .second, .val (.long p2), .second, iv p3, iv na, iv nz, rv x4_y, .unset, .unset, .unset] [(.int (((p2.toUInt64 >>> ((8 : Int32) &&& 0x3f).toInt64.toUInt64).toInt64).toInt32)), (.int x5_r9), (.int nz)])
  obtain ⟨_, _, ⟨T6, L6, k6, n6⟩, -, X6, ⟨Lc6, hQ6, l6, y6, z6⟩, st6⟩ := Jvm.LawKit.callS X5 hx (y := yy1) hown (mvT hZ (own_w hw 4 rfl)) (mvT hZ (own_w hw 5 rfl)) (mvT hZ (own_w hw 2 rfl)) (mvT hZ (own_w hw 6 rfl)) (by decide) (backOf (W := 2) (rm2 l Z a0 hw [] ((((p2.toUInt64 >>> ((8 : Int32) &&& 0x3f).toInt64.toUInt64).toInt64).toInt32)) T4.heap n0 Zs4) hZ (own_w hw 6 rfl) (own_w hw 2 rfl) (by decide) (by decide)) (g := (mkF m 62 #[.val (.long p1), .second, .val (.long p2), .second, iv p3, iv na, iv nz, rv x4_y, .unset, .unset, .unset] [(.int (((p2.toUInt64 >>> ((8 : Int32) &&& 0x3f).toInt64.toUInt64).toInt64).toInt32)), (.int x5_r9), (.int nz)])) rfl (by rw [hml]; rfl) (argsL := [(.int (((p2.toUInt64 >>> ((8 : Int32) &&& 0x3f).toInt64.toUInt64).toInt64).toInt32))]) (rest := [(.int x5_r9), (.int nz)]) (lenOf pd_30 rfl) rfl (by show 2 * 0 + _ ≤ _; exact Nat.le_of_eq rfl) (hb hby at_62) (fun _ _ => ⟨rfl, eq5, (by decide : 3 + 0 ≤ _), (by decide : 10 + 0 ≤ _)⟩)
  dsimp only [Pt.U, Pt.locs, Pt.cells, Pt.slots] at X6 l6 y6 z6 st6 hQ6
  subst l6 y6 z6
  obtain ⟨x6_r9, rfl, Nq6, eq6, u6_0⟩ := hQ6
  have N6 := Fr.app N5 Nq6
  refine own_stW st6 ?_
  show own_GoesW _ _ _ _ _ _ _ T6 (mkF m 65 #[.val (.long p1), .second, .val (.long p2), .second, iv p3, iv na, iv nz, rv x4_y, .unset, .unset, .unset] [(.int x6_r9), (.int x5_r9), (.int nz)])
  refine own_stW (fun _ kk_ => XS.lloadN X6.here hx rfl (hb hby at_65) rfl (XS.bipush X6.here hx rfl (hb hby at_66) (XS.lushr X6.here hx rfl (hb hby at_68) rfl (XS.l2i X6.here hx rfl (hb hby at_69) rfl kk_)))) ?_
  show own_GoesW _ _ _ _ _ _ _ T6 (mkF m 70 #[.val (.long p1), .second, .val (.long p2), .second, iv p3, iv na, iv nz, rv x4_y, .unset, .unset, .unset] [(.int (((p2.toUInt64 >>> ((16 : Int32) &&& 0x3f).toInt64.toUInt64).toInt64).toInt32)), (.int x6_r9), (.int x5_r9), (.int nz)])
  obtain ⟨_, _, ⟨T7, L7, k7, n7⟩, -, X7, ⟨Lc7, hQ7, l7, y7, z7⟩, st7⟩ := Jvm.LawKit.callS X6 hx (y := yy0) hown (mvT hZ (own_w hw 0 rfl)) (mvT hZ (own_w hw 1 rfl)) (mvT hZ (own_w hw 2 rfl)) (mvT hZ (own_w hw 3 rfl)) (by decide) (backOf (W := 3) (rm1 l Z a0 hw [] ((((p2.toUInt64 >>> ((16 : Int32) &&& 0x3f).toInt64.toUInt64).toInt64).toInt32)) T4.heap n0 Zs4) hZ (own_w hw 3 rfl) (own_w hw 2 rfl) (by decide) (by decide)) (g := (mkF m 70 #[.val (.long p1), .second, .val (.long p2), .second, iv p3, iv na, iv nz, rv x4_y, .unset, .unset, .unset] [(.int (((p2.toUInt64 >>> ((16 : Int32) &&& 0x3f).toInt64.toUInt64).toInt64).toInt32)), (.int x6_r9), (.int x5_r9), (.int nz)])) rfl (by rw [hml]; rfl) (argsL := [(.int (((p2.toUInt64 >>> ((16 : Int32) &&& 0x3f).toInt64.toUInt64).toInt64).toInt32))]) (rest := [(.int x6_r9), (.int x5_r9), (.int nz)]) (lenOf pd_30 rfl) rfl (by show 2 * 0 + _ ≤ _; exact Nat.le_of_eq rfl) (hb hby at_70) (fun _ _ => ⟨rfl, eq6, (by decide : 3 + 0 ≤ _), (by decide : 10 + 0 ≤ _)⟩)
  dsimp only [Pt.U, Pt.locs, Pt.cells, Pt.slots] at X7 l7 y7 z7 st7 hQ7
  subst l7 y7 z7
  obtain ⟨x7_r9, rfl, Nq7, eq7, u7_0⟩ := hQ7
  have N7 := Fr.app N6 Nq7
  refine own_stW st7 ?_
  show own_GoesW _ _ _ _ _ _ _ T7 (mkF m 73 #[.val (.long p1), .second, .val (.long p2), .second, iv p3, iv na, iv nz, rv x4_y, .unset, .unset, .unset] [(.int x7_r9), (.int x6_r9), (.int x5_r9), (.int nz)])
  obtain ⟨_, _, ⟨T8, L8, k8, n8⟩, -, X8, ⟨Lc8, hQ8, l8, y8, z8⟩, st8⟩ := Jvm.LawKit.callS X7 hx (y := yy3) hown (mvT hZ (own_w hw 7 rfl)) (mvT hZ (own_w hw 8 rfl)) (mvT hZ (own_w hw 2 rfl)) (mvT hZ (own_w hw 9 rfl)) (by decide) (backOf (W := 0) (rm3 l Z a0 hw [] (nz) (x5_r9) (x6_r9) (x7_r9) (cs) T4.heap n0 Zs4 f4_5 (by assumption) hnz u5_0 u6_0 u7_0) hZ (own_w hw 9 rfl) (own_w hw 2 rfl) (by decide) (by decide)) (g := (mkF m 73 #[.val (.long p1), .second, .val (.long p2), .second, iv p3, iv na, iv nz, rv x4_y, .unset, .unset, .unset] [(.int x7_r9), (.int x6_r9), (.int x5_r9), (.int nz)])) rfl (by rw [hml]; rfl) (argsL := [(.int nz), (.int x5_r9), (.int x6_r9), (.int x7_r9)]) (rest := []) (lenOf pd_32 rfl) rfl (by show 2 * 0 + _ ≤ _; exact Nat.le_of_eq rfl) (hb hby at_73) (fun _ _ => ⟨rfl, eq7, (by decide : 3 + 3 ≤ _), (by decide : 10 + 10 ≤ _)⟩)
  dsimp only [Pt.U, Pt.locs, Pt.cells, Pt.slots] at X8 l8 y8 z8 st8 hQ8
  subst l8 y8 z8
  obtain ⟨x8_y, x8_d, x8_kd, x8_vs9, rfl, Nq8, Kq8, u8_0, u8_1, u8_2, u8_3, u8_4, u8_5⟩ := hQ8
  have N8 := Fr.app N7 Nq8
  have f8_0 := own_Sta_keep f4_0 Kq8 ns0
  have f8_1 := f4_1.keep Kq8
  have f8_2 := own_Sta_keep f4_2 Kq8 ns0
  have f8_3 := f4_3.keep Kq8 nin0
  have f8_4 := own_Sta_keep f4_4 Kq8 ns0
  have f8_5 := own_Sta_keep f4_5 Kq8 ns0
  have f8_6 := u4_1.keep Kq8
  have f8_7 := u4_2.keep Kq8 nin0
  have f8_8 := u4_3.keep Kq8 nin0
  have f8_9 := u4_4.keep Kq8 nin0
  have Ks8 := Nat.le_trans Ks4 Kq8.1
  have Zs8 : n0 ≤ T8.heap.size := Nat.le_trans Zs4 Kq8.1
  have ne8_ci : ci ≠ x8_y := Nat.ne_of_lt (Nat.lt_of_lt_of_le f4_1.lt u8_0)
  have ne8_ca : ca ≠ x8_y := Nat.ne_of_lt (Nat.lt_of_lt_of_le f4_3.lt u8_0)
  have ne8_x4_y : x4_y ≠ x8_y := Nat.ne_of_lt (Nat.lt_of_lt_of_le u4_1.lt u8_0)
  have ne8_x4_d : x4_d ≠ x8_y := Nat.ne_of_lt (Nat.lt_of_lt_of_le u4_4.lt u8_0)
  have gg8_y : n0 ≤ x8_y := Nat.le_trans Zs4 u8_0
  refine own_stW st8 ?_
  show own_GoesW _ _ _ _ _ _ _ T8 (mkF m 76 #[.val (.long p1), .second, .val (.long p2), .second, iv p3, iv na, iv nz, rv x4_y, .unset, .unset, .unset] [(.ref x8_y)])
  refine own_stW (fun _ kk_ => XS.astore X8.here hx rfl (hb hby at_76) rfl rfl (l' := #[.val (.long p1), .second, .val (.long p2), .second, iv p3, iv na, iv nz, rv x4_y, rv x8_y, .unset, .unset]) rfl kk_) ?_
  show own_GoesW _ _ _ _ _ _ _ T8 (mkF m 78 #[.val (.long p1), .second, .val (.long p2), .second, iv p3, iv na, iv nz, rv x4_y, rv x8_y, .unset, .unset] [])
  obtain ⟨T9, h9, X9, e9, E9, A9, D9, -, st9⟩ := newO X8 hx hZ hown (own_w hw 40 rfl) (own_w hw 41 rfl) (own_w hw 42 rfl) rfl (g := (mkF m 78 #[.val (.long p1), .second, .val (.long p2), .second, iv p3, iv na, iv nz, rv x4_y, rv x8_y, .unset, .unset] [])) rfl (hb hby at_78) (by decide) (by decide)
  obtain ⟨b9, gx9⟩ : ∃ z, z = T8.heap.size := ⟨_, rfl⟩
  rw [← gx9] at A9 D9 st9
  have ne9_ci : ci ≠ b9 := Nat.ne_of_lt (Nat.lt_of_lt_of_eq f8_1.lt gx9.symm)
  have ne9_ca : ca ≠ b9 := Nat.ne_of_lt (Nat.lt_of_lt_of_eq f8_3.lt gx9.symm)
  have ne9_x4_y : x4_y ≠ b9 := Nat.ne_of_lt (Nat.lt_of_lt_of_eq f8_6.lt gx9.symm)
  have ne9_x4_d : x4_d ≠ b9 := Nat.ne_of_lt (Nat.lt_of_lt_of_eq f8_9.lt gx9.symm)
  have ne9_x8_y : x8_y ≠ b9 := Nat.ne_of_lt (Nat.lt_of_lt_of_eq u8_1.lt gx9.symm)
  have ne9_x8_d : x8_d ≠ b9 := Nat.ne_of_lt (Nat.lt_of_lt_of_eq u8_4.lt gx9.symm)
  have gg9 : n0 ≤ b9 := Nat.le_trans Zs8 (Nat.le_of_eq gx9.symm)
  have f9_0 := f8_0.ext E9
  have f9_1 := f8_1.ext E9
  have f9_2 := f8_2.ext E9
  have f9_3 := f8_3.ext E9
  have f9_4 := f8_4.ext E9
  have f9_5 := f8_5.ext E9
  have f9_6 := f8_6.ext E9
  have f9_7 := f8_7.ext E9
  have f9_8 := f8_8.ext E9
  have f9_9 := f8_9.ext E9
  have f9_10 := u8_1.ext E9
  have f9_11 := u8_2.ext E9
  have f9_12 := u8_3.ext E9
  have f9_13 := u8_4.ext E9
  have Zs9 : n0 ≤ h9.size := Nat.le_trans Zs8 E9.1
  have Ks9 := Nat.le_trans Ks8 E9.1
  have fn9_type : Fld Z h9 b9 "com/example/firm_duties/firmduties/BusinessContext$Pair" "type" "Ljava/lang/String;" .null := D9 (Or.inr (own_w hw 147 rfl)) (ty := (.object "java/lang/String")) (by decide)
  have fn9_value : Fld Z h9 b9 "com/example/firm_duties/firmduties/BusinessContext$Pair" "value" "Ljava/lang/String;" .null := D9 (Or.inr (own_w hw 149 rfl)) (ty := (.object "java/lang/String")) (by decide)
  refine own_stW st9 ?_
  show own_GoesW _ _ _ _ _ _ _ T9 (mkF m 81 #[.val (.long p1), .second, .val (.long p2), .second, iv p3, iv na, iv nz, rv x4_y, rv x8_y, .unset, .unset] [(.ref b9)])
  refine own_stW (fun _ kk_ => XS.dup X9.here hx rfl (hb hby at_81) rfl rfl (XS.aload X9.here hx rfl (hb hby at_82) rfl rfl (XS.aload X9.here hx rfl (hb hby at_84) rfl rfl kk_))) ?_
  show own_GoesW _ _ _ _ _ _ _ T9 (mkF m 86 #[.val (.long p1), .second, .val (.long p2), .second, iv p3, iv na, iv nz, rv x4_y, rv x8_y, .unset, .unset] [(.ref x8_y), (.ref x4_y), (.ref b9), (.ref b9)])
  obtain ⟨_, _, ⟨T10, L10, k10, n10⟩, -, X10, hSn10, hgn10, ⟨Lc10, hQ10, l10, y10, z10⟩, st10⟩ := X9.specialBackS hx (y := yy53) rfl hown (mvT hZ (own_w hw 43 rfl)) (mvT hZ (own_w hw 44 rfl)) (mvT hZ (own_w hw 45 rfl)) (by decide) (backOfS (W := 1) (rm10 l Z a0 hw [] (b9) (x4_y) (x8_y) (x4_d) (x4_kd) (na) (x4_vs9) (x8_d) (x8_kd) (nz) (x8_vs9) (ci) (ca) (ka) (cs) h9 n0 Zs9 A9 fn9_type fn9_value gg9 f9_6 f9_7 f9_8 f9_9 f9_10 f9_11 f9_12 f9_13 f9_0 f9_1 f9_2 f9_3 f9_5 (by assumption) u4_5 u8_5) hZ (own_w hw 45 rfl) (own_w hw 42 rfl) (by decide) (by decide)) (g := (mkF m 86 #[.val (.long p1), .second, .val (.long p2), .second, iv p3, iv na, iv nz, rv x4_y, rv x8_y, .unset, .unset] [(.ref x8_y), (.ref x4_y), (.ref b9), (.ref b9)])) rfl (by rw [hml]; rfl) (Steps.refl _) (a := b9) (argsL := [(.ref x4_y), (.ref x8_y)]) (rest := [(.ref b9)]) (lenOf pd_31 rfl) rfl (by show 2 * 0 + _ ≤ _; exact Nat.le_of_eq rfl) (hb hby at_86) (fun _ _ => ⟨rfl, e9, (by decide : 7 + 4 ≤ _), (by decide : 22 + 44 ≤ _)⟩)
  dsimp only [Pt.U, Pt.locs, Pt.cells, Pt.slots] at X10 l10 y10 z10 st10 hQ10 hSn10 hgn10
  subst l10 y10 z10
  have X10 : Stand p l e room_1 (s.setVm T10.vm) m _ below meth c T10 _ _ _ := X10
  have hS10 := foldS hS0 (by rw [e9]; exact Ks9) hSn10 hgn10
  have hown : (s.setVm T10.vm).vm.findClass "com/example/firm_duties/firmduties/PairToStringPinLaw" = some m.cls := by rw [show (s.setVm T10.vm).vm = T10.vm from rfl, hSn10.1.alike.findClass]; exact hown
  obtain ⟨rfl, Nq10, Kq10, u10_0, u10_1, u10_2⟩ := hQ10
  have N10 := Fr.app N8 Nq10
  have hZ : Z.Warmed39 (s.setVm T10.vm).vm := State.Warmed39.trans (t := (s.setVm s.vm)) hZ hSn10.1
  have f10_0 := own_Sta_keep f9_0 Kq10 (nsS A9.nostat ns0)
  have f10_1 := f9_1.keep Kq10
  have f10_2 := own_Sta_keep f9_2 Kq10 (nsS A9.nostat ns0)
  have f10_3 := f9_3.keep Kq10 (ninS ne9_ca nin0)
  have f10_4 := own_Sta_keep f9_4 Kq10 (nsS A9.nostat ns0)
  have f10_5 := own_Sta_keep f9_5 Kq10 (nsS A9.nostat ns0)
  have f10_6 := f9_6.keep Kq10
  have f10_7 := f9_7.keep Kq10 (ninS ne9_x4_y nin0)
  have f10_8 := f9_8.keep Kq10 (ninS ne9_x4_y nin0)
  have f10_9 := f9_9.keep Kq10 (ninS ne9_x4_d nin0)
  have f10_10 := f9_10.keep Kq10
  have f10_11 := f9_11.keep Kq10 (ninS ne9_x8_y nin0)
  have f10_12 := f9_12.keep Kq10 (ninS ne9_x8_y nin0)
  have f10_13 := f9_13.keep Kq10 (ninS ne9_x8_d nin0)
  have f10_14 := A9.keep Kq10
  have Ks10 := Nat.le_trans Ks9 Kq10.1
  have Zs10 : n0 ≤ T10.heap.size := Nat.le_trans Zs9 Kq10.1
  refine own_stW (fun _ kk_ => st10.trans kk_) ?_
  show own_GoesW _ _ _ _ _ _ _ T10 (mkF m 89 #[.val (.long p1), .second, .val (.long p2), .second, iv p3, iv na, iv nz, rv x4_y, rv x8_y, .unset, .unset] [(.ref b9)])
  refine own_stW (fun _ kk_ => XS.astore X10.here hx rfl (hb hby at_89) rfl rfl (l' := #[.val (.long p1), .second, .val (.long p2), .second, iv p3, iv na, iv nz, rv x4_y, rv x8_y, rv b9, .unset]) rfl (XS.aload X10.here hx rfl (hb hby at_91) rfl rfl kk_)) ?_
  show own_GoesW _ _ _ _ _ _ _ T10 (mkF m 93 #[.val (.long p1), .second, .val (.long p2), .second, iv p3, iv na, iv nz, rv x4_y, rv x8_y, rv b9, .unset] [(.ref b9)])
  obtain ⟨cq11, kq11, q11a, q11b, q11c⟩ := isOf hZ rfl u10_0
  obtain ⟨_, _, ⟨T11, L11, k11, n11⟩, -, X11, ⟨Lc11, hQ11, l11, y11, z11⟩, st11⟩ := X10.virtualBack hx (y := yy46) (z := yy46) hown (mvT hZ (own_w hw 150 rfl)) (mvT hZ (own_w hw 151 rfl)) (notFace_of_selects (args := #[]) (mvT hZ (own_w hw 153 rfl))) (mvT hZ (own_w hw 153 rfl)) (mvT hZ (own_w hw 152 rfl)) (by decide) (backOf (W := 0) (rm33 l Z a0 hw [] (b9) (x4_y) (x8_y) (x4_d) (x8_d) (na) (nz) (x4_vs9) (x8_vs9) (x4_kd) (x8_kd) (cs) T10.heap n0 Zs10 u10_0 u10_1 u10_2 f10_6 f10_7 f10_8 f10_9 f10_10 f10_11 f10_12 f10_13 f10_5 (by assumption) u4_5.t u8_5.t) hZ (own_w hw 154 rfl) (own_w hw 42 rfl) (by decide) (by decide)) q11a q11c (g := (mkF m 93 #[.val (.long p1), .second, .val (.long p2), .second, iv p3, iv na, iv nz, rv x4_y, rv x8_y, rv b9, .unset] [(.ref b9)])) rfl (by rw [hml]; rfl) (Steps.refl _) (argsL := []) (rest := []) (lenOf pd_12 rfl) rfl (by show 2 * 0 + _ ≤ _; exact Nat.le_of_eq rfl) (hb hby at_93) (fun _ _ => ⟨rfl, rfl, (by decide : 11 + 4 ≤ _), (by decide : 66 + 31 ≤ _)⟩)
  dsimp only [Pt.U, Pt.locs, Pt.cells, Pt.slots] at X11 l11 y11 z11 st11 hQ11
  subst l11 y11 z11
  obtain ⟨x11_s9, x11_y, x11_ky, rfl, Nq11, Kq11, u11_0, u11_1, u11_2, u11_3, u11_4⟩ := hQ11
  have N11 := Fr.app N10 Nq11
  have f11_0 := own_Sta_keep f10_0 Kq11 ns0
  have f11_1 := f10_1.keep Kq11
  have f11_2 := own_Sta_keep f10_2 Kq11 ns0
  have f11_3 := f10_3.keep Kq11 nin0
  have f11_4 := own_Sta_keep f10_4 Kq11 ns0
  have f11_5 := own_Sta_keep f10_5 Kq11 ns0
  have f11_6 := f10_6.keep Kq11
  have f11_7 := f10_7.keep Kq11 nin0
  have f11_8 := f10_8.keep Kq11 nin0
  have f11_9 := f10_9.keep Kq11 nin0
  have f11_10 := f10_10.keep Kq11
  have f11_11 := f10_11.keep Kq11 nin0
  have f11_12 := f10_12.keep Kq11 nin0
  have f11_13 := f10_13.keep Kq11 nin0
  have f11_14 := u10_0.keep Kq11
  have f11_15 := u10_1.keep Kq11 nin0
  have f11_16 := u10_2.keep Kq11 nin0
  have Ks11 := Nat.le_trans (Nat.le_refl T10.heap.size) Kq11.1
  have Zs11 : n0 ≤ T11.heap.size := Nat.le_trans Zs10 Kq11.1
  have ne11_ci : ci ≠ x11_s9 := Nat.ne_of_lt (Nat.lt_of_lt_of_le f10_1.lt u11_0)
  have ne11_ca : ca ≠ x11_s9 := Nat.ne_of_lt (Nat.lt_of_lt_of_le f10_3.lt u11_0)
  have ne11_x4_y : x4_y ≠ x11_s9 := Nat.ne_of_lt (Nat.lt_of_lt_of_le f10_6.lt u11_0)
  have ne11_x4_d : x4_d ≠ x11_s9 := Nat.ne_of_lt (Nat.lt_of_lt_of_le f10_9.lt u11_0)
  have ne11_x8_y : x8_y ≠ x11_s9 := Nat.ne_of_lt (Nat.lt_of_lt_of_le f10_10.lt u11_0)
  have ne11_x8_d : x8_d ≠ x11_s9 := Nat.ne_of_lt (Nat.lt_of_lt_of_le f10_13.lt u11_0)
  have ne11_b9 : b9 ≠ x11_s9 := Nat.ne_of_lt (Nat.lt_of_lt_of_le u10_0.lt u11_0)
  have gg11_s9 : n0 ≤ x11_s9 := Nat.le_trans Zs10 u11_0
  refine own_stW (fun _ kk_ => st11.trans kk_) ?_
  show own_GoesW _ _ _ _ _ _ _ T11 (mkF m 96 #[.val (.long p1), .second, .val (.long p2), .second, iv p3, iv na, iv nz, rv x4_y, rv x8_y, rv b9, .unset] [(.ref x11_s9)])
  refine own_stW (fun _ kk_ => XS.astore X11.here hx rfl (hb hby at_96) rfl rfl (l' := #[.val (.long p1), .second, .val (.long p2), .second, iv p3, iv na, iv nz, rv x4_y, rv x8_y, rv b9, rv x11_s9]) rfl (XS.aload X11.here hx rfl (hb hby at_98) rfl rfl (XS.ifnullNo X11.here hx rfl (hb hby at_100) rfl (XS.aload X11.here hx rfl (hb hby at_103) rfl rfl kk_)))) ?_
  show own_GoesW _ _ _ _ _ _ _ T11 (mkF m 105 #[.val (.long p1), .second, .val (.long p2), .second, iv p3, iv na, iv nz, rv x4_y, rv x8_y, rv b9, rv x11_s9] [(.ref x11_s9)])
  obtain ⟨cq12, kq12, q12a, q12b, q12c⟩ := isOf hZ rfl u11_1
  obtain ⟨_, _, ⟨T12, L12, k12, n12⟩, -, X12, ⟨Lc12, hQ12, l12, y12, z12⟩, st12⟩ := X11.virtualBack hx (y := yy6) (z := yy6) hown (mvT hZ (own_w hw 266 rfl)) (mvT hZ (own_w hw 120 rfl)) (notFace_of_selects (args := #[]) (mvT hZ (own_w hw 122 rfl))) (mvT hZ (own_w hw 122 rfl)) (mvT hZ (own_w hw 121 rfl)) (by decide) (backOf (W := 0) (rm26 l Z a0 hw [] (x11_s9) (x11_y) (x11_ky) (((0 : Int32) + na + (1 : Int32) + nz)) ((own_cp (own_cp x8_vs9 (List.set (own_cp x4_vs9 own_z16 (0 : Int32) (0 : Int32) na (.int (0 : Int32))) ((0 : Int32) + na).toNatClampNeg (.int (nar .byte ((61 : Int32).toInt8.toInt32)))) (0 : Int32) ((0 : Int32) + na + (1 : Int32)) nz (.int (0 : Int32))) own_z7 (0 : Int32) (0 : Int32) ((0 : Int32) + na + (1 : Int32) + nz) (.int (0 : Int32)))) (cs) T11.heap n0 Zs11 u11_1 u11_2 u11_3 u11_4 f11_5 (by assumption)) hZ (own_w hw 123 rfl) (own_w hw 12 rfl) (by decide) (by decide)) q12a q12c (g := (mkF m 105 #[.val (.long p1), .second, .val (.long p2), .second, iv p3, iv na, iv nz, rv x4_y, rv x8_y, rv b9, rv x11_s9] [(.ref x11_s9)])) rfl (by rw [hml]; rfl) (Steps.refl _) (argsL := []) (rest := []) (lenOf pd_10 rfl) rfl (by show 2 * 0 + _ ≤ _; exact Nat.le_of_eq rfl) (hb hby at_105) (fun _ _ => ⟨rfl, rfl, (by decide : 15 + 0 ≤ _), (by decide : 97 + 0 ≤ _)⟩)
  dsimp only [Pt.U, Pt.locs, Pt.cells, Pt.slots] at X12 l12 y12 z12 st12 hQ12
  subst l12 y12 z12
  obtain ⟨rfl, Nq12, eq12⟩ := hQ12
  have N12 := Fr.app N11 Nq12
  refine own_stW (fun _ kk_ => st12.trans kk_) ?_
  show own_GoesW _ _ _ _ _ _ _ T12 (mkF m 108 #[.val (.long p1), .second, .val (.long p2), .second, iv p3, iv na, iv nz, rv x4_y, rv x8_y, rv b9, rv x11_s9] [(.int ((0 : Int32) + na + (1 : Int32) + nz))])
  refine own_stW (fun _ kk_ => XS.iload X12.here hx rfl (hb hby at_108) rfl (XS.iconst X12.here hx rfl (hb hby at_110) (XS.iadd X12.here hx rfl (hb hby at_111) rfl (XS.iload X12.here hx rfl (hb hby at_112) rfl (XS.iadd X12.here hx rfl (hb hby at_114) rfl (XS.icmpNo X12.here hx rfl (hb hby at_115) rfl (XT.ii_ne_f (own_len na nz)) (XS.aload X12.here hx rfl (hb hby at_118) rfl rfl (XS.iconst X12.here hx rfl (hb hby at_120) (XS.aload X12.here hx rfl (hb hby at_121) rfl rfl kk_))))))))) ?_
  show own_GoesW _ _ _ _ _ _ _ T12 (mkF m 123 #[.val (.long p1), .second, .val (.long p2), .second, iv p3, iv na, iv nz, rv x4_y, rv x8_y, rv b9, rv x11_s9] [(.ref x4_y), (.int (0 : Int32)), (.ref x11_s9)])
  obtain ⟨_, _, ⟨T13, L13, k13, n13⟩, -, X13, ⟨Lc13, hQ13, l13, y13, z13⟩, st13⟩ := Jvm.LawKit.callS X12 hx (y := yy51) hown (mvT hZ (own_w hw 267 rfl)) (mvT hZ (own_w hw 268 rfl)) (mvT hZ (own_w hw 2 rfl)) (mvT hZ (own_w hw 269 rfl)) (by decide) (backOf (W := 0) (rm55 l Z a0 hw [] (x11_s9) ((0 : Int32)) (x4_y) (x11_y) (x11_ky) (((0 : Int32) + na + (1 : Int32) + nz)) ((own_cp (own_cp x8_vs9 (List.set (own_cp x4_vs9 own_z16 (0 : Int32) (0 : Int32) na (.int (0 : Int32))) ((0 : Int32) + na).toNatClampNeg (.int (nar .byte ((61 : Int32).toInt8.toInt32)))) (0 : Int32) ((0 : Int32) + na + (1 : Int32)) nz (.int (0 : Int32))) own_z7 (0 : Int32) (0 : Int32) ((0 : Int32) + na + (1 : Int32) + nz) (.int (0 : Int32)))) (x4_d) (x4_kd) (na) (x4_vs9) f9 (cs) T11.heap n0 Zs11 u11_1 u11_2 u11_3 u11_4 f11_6 f11_7 f11_8 f11_9 f11_4 (by assumption) f11_5 (by assumption) u4_5 (own_out u4_5 u8_5).1) hZ (own_w hw 269 rfl) (own_w hw 2 rfl) (by decide) (by decide)) (g := (mkF m 123 #[.val (.long p1), .second, .val (.long p2), .second, iv p3, iv na, iv nz, rv x4_y, rv x8_y, rv b9, rv x11_s9] [(.ref x4_y), (.int (0 : Int32)), (.ref x11_s9)])) rfl (by rw [hml]; rfl) (argsL := [(.ref x11_s9), (.int (0 : Int32)), (.ref x4_y)]) (rest := []) (lenOf pd_33 rfl) rfl (by show 2 * 0 + _ ≤ _; exact Nat.le_of_eq rfl) (hb hby at_123) (fun _ _ => ⟨rfl, eq12, (by decide : 15 + 0 ≤ _), (by decide : 97 + 0 ≤ _)⟩)
  dsimp only [Pt.U, Pt.locs, Pt.cells, Pt.slots] at X13 l13 y13 z13 st13 hQ13
  subst l13 y13 z13
  obtain ⟨rfl, Nq13, eq13⟩ := hQ13
  have N13 := Fr.app N12 Nq13
  refine own_stW st13 ?_
  show own_GoesW _ _ _ _ _ _ _ T13 (mkF m 126 #[.val (.long p1), .second, .val (.long p2), .second, iv p3, iv na, iv nz, rv x4_y, rv x8_y, rv b9, rv x11_s9] [(.int (1 : Int32))])
  refine own_stW (fun _ kk_ => XS.ifNo X13.here hx rfl (hb hby at_126) rfl (XT.i0_eq_f (by decide)) (XS.aload X13.here hx rfl (hb hby at_129) rfl rfl (XS.iload X13.here hx rfl (hb hby at_131) rfl kk_))) ?_
  show own_GoesW _ _ _ _ _ _ _ T13 (mkF m 133 #[.val (.long p1), .second, .val (.long p2), .second, iv p3, iv na, iv nz, rv x4_y, rv x8_y, rv b9, rv x11_s9] [(.int na), (.ref x11_s9)])
  obtain ⟨cq14, kq14, q14a, q14b, q14c⟩ := isOf hZ eq13 u11_1
  obtain ⟨_, _, ⟨T14, L14, k14, n14⟩, -, X14, ⟨Lc14, hQ14, l14, y14, z14⟩, st14⟩ := X13.virtualBack hx (y := yy50) (z := yy50) hown (mvT hZ (own_w hw 270 rfl)) (mvT hZ (own_w hw 271 rfl)) (notFace_of_selects (args := #[]) (mvT hZ (own_w hw 273 rfl))) (mvT hZ (own_w hw 273 rfl)) (mvT hZ (own_w hw 272 rfl)) (by decide) (backOf (W := 0) (rm56 l Z a0 hw [] (x11_s9) (na) (x11_y) (x11_ky) (((0 : Int32) + na + (1 : Int32) + nz)) ((own_cp (own_cp x8_vs9 (List.set (own_cp x4_vs9 own_z16 (0 : Int32) (0 : Int32) na (.int (0 : Int32))) ((0 : Int32) + na).toNatClampNeg (.int (nar .byte ((61 : Int32).toInt8.toInt32)))) (0 : Int32) ((0 : Int32) + na + (1 : Int32)) nz (.int (0 : Int32))) own_z7 (0 : Int32) (0 : Int32) ((0 : Int32) + na + (1 : Int32) + nz) (.int (0 : Int32)))) ((61 : Int32)) f9 (cs) T11.heap n0 Zs11 u11_1 u11_2 u11_3 u11_4 f11_4 (by assumption) f11_5 (by assumption) (own_out u4_5 u8_5).2.2.1 (own_out u4_5 u8_5).2.2.2.1 (own_out u4_5 u8_5).2.2.2.2 ⟨by decide, by decide⟩) hZ (own_w hw 274 rfl) (own_w hw 12 rfl) (by decide) (by decide)) q14a q14c (g := (mkF m 133 #[.val (.long p1), .second, .val (.long p2), .second, iv p3, iv na, iv nz, rv x4_y, rv x8_y, rv b9, rv x11_s9] [(.int na), (.ref x11_s9)])) rfl (by rw [hml]; rfl) (Steps.refl _) (argsL := [(.int na)]) (rest := []) (lenOf pd_30 rfl) rfl (by show 2 * 0 + _ ≤ _; exact Nat.le_of_eq rfl) (hb hby at_133) (fun _ _ => ⟨rfl, eq13, (by decide : 15 + 0 ≤ _), (by decide : 97 + 0 ≤ _)⟩)
  dsimp only [Pt.U, Pt.locs, Pt.cells, Pt.slots] at X14 l14 y14 z14 st14 hQ14
  subst l14 y14 z14
  obtain ⟨rfl, Nq14, eq14⟩ := hQ14
  have N14 := Fr.app N13 Nq14
  refine own_stW (fun _ kk_ => st14.trans kk_) ?_
  show own_GoesW _ _ _ _ _ _ _ T14 (mkF m 136 #[.val (.long p1), .second, .val (.long p2), .second, iv p3, iv na, iv nz, rv x4_y, rv x8_y, rv b9, rv x11_s9] [(.int (61 : Int32))])
  refine own_stW (fun _ kk_ => XS.bipush X14.here hx rfl (hb hby at_136) (XS.icmpNo X14.here hx rfl (hb hby at_138) rfl (XT.ii_ne_f (by decide)) (XS.aload X14.here hx rfl (hb hby at_141) rfl rfl (XS.iload X14.here hx rfl (hb hby at_143) rfl (XS.iconst X14.here hx rfl (hb hby at_145) (XS.iadd X14.here hx rfl (hb hby at_146) rfl (XS.aload X14.here hx rfl (hb hby at_147) rfl rfl kk_))))))) ?_
  show own_GoesW _ _ _ _ _ _ _ T14 (mkF m 149 #[.val (.long p1), .second, .val (.long p2), .second, iv p3, iv na, iv nz, rv x4_y, rv x8_y, rv b9, rv x11_s9] [(.ref x8_y), (.int (na + (1 : Int32))), (.ref x11_s9)])
  obtain ⟨_, _, ⟨T15, L15, k15, n15⟩, -, X15, ⟨Lc15, hQ15, l15, y15, z15⟩, st15⟩ := Jvm.LawKit.callS X14 hx (y := yy51) hown (mvT hZ (own_w hw 267 rfl)) (mvT hZ (own_w hw 268 rfl)) (mvT hZ (own_w hw 2 rfl)) (mvT hZ (own_w hw 269 rfl)) (by decide) (backOf (W := 0) (rm55 l Z a0 hw [] (x11_s9) ((na + (1 : Int32))) (x8_y) (x11_y) (x11_ky) (((0 : Int32) + na + (1 : Int32) + nz)) ((own_cp (own_cp x8_vs9 (List.set (own_cp x4_vs9 own_z16 (0 : Int32) (0 : Int32) na (.int (0 : Int32))) ((0 : Int32) + na).toNatClampNeg (.int (nar .byte ((61 : Int32).toInt8.toInt32)))) (0 : Int32) ((0 : Int32) + na + (1 : Int32)) nz (.int (0 : Int32))) own_z7 (0 : Int32) (0 : Int32) ((0 : Int32) + na + (1 : Int32) + nz) (.int (0 : Int32)))) (x8_d) (x8_kd) (nz) (x8_vs9) f9 (cs) T11.heap n0 Zs11 u11_1 u11_2 u11_3 u11_4 f11_10 f11_11 f11_12 f11_13 f11_4 (by assumption) f11_5 (by assumption) u8_5 (own_out u4_5 u8_5).2.1) hZ (own_w hw 269 rfl) (own_w hw 2 rfl) (by decide) (by decide)) (g := (mkF m 149 #[.val (.long p1), .second, .val (.long p2), .second, iv p3, iv na, iv nz, rv x4_y, rv x8_y, rv b9, rv x11_s9] [(.ref x8_y), (.int (na + (1 : Int32))), (.ref x11_s9)])) rfl (by rw [hml]; rfl) (argsL := [(.ref x11_s9), (.int (na + (1 : Int32))), (.ref x8_y)]) (rest := []) (lenOf pd_33 rfl) rfl (by show 2 * 0 + _ ≤ _; exact Nat.le_of_eq rfl) (hb hby at_149) (fun _ _ => ⟨rfl, eq14, (by decide : 15 + 0 ≤ _), (by decide : 97 + 0 ≤ _)⟩)
  dsimp only [Pt.U, Pt.locs, Pt.cells, Pt.slots] at X15 l15 y15 z15 st15 hQ15
  subst l15 y15 z15
  obtain ⟨rfl, Nq15, eq15⟩ := hQ15
  have N15 := Fr.app N14 Nq15
  refine own_stW st15 ?_
  show own_GoesW _ _ _ _ _ _ _ T15 (mkF m 152 #[.val (.long p1), .second, .val (.long p2), .second, iv p3, iv na, iv nz, rv x4_y, rv x8_y, rv b9, rv x11_s9] [(.int (1 : Int32))])
  refine own_stW (fun _ kk_ => XS.ifNo X15.here hx rfl (hb hby at_152) rfl (XT.i0_eq_f (by decide)) (XS.iconst X15.here hx rfl (hb hby at_155) (XS.goto X15.here hx rfl (pc0 := 156) (pc' := 160) rfl (hb hby at_156) (by decide) (by decide) kk_))) ?_
  show own_GoesW _ _ _ _ _ _ _ T15 (mkF m 160 #[.val (.long p1), .second, .val (.long p2), .second, iv p3, iv na, iv nz, rv x4_y, rv x8_y, rv b9, rv x11_s9] [(.int (1 : Int32))])
  refine own_endW (v := (some (.int (nar .boolean (1 : Int32))))) X15 hlk hS10 (by rw [eq15]; exact Ks11) (fun h => by rw [Bd.returns] at h; cases h) (by decide) (by decide) ?_ (fun fs hr => retN X15 hx (t := .boolean) Bd.returns (by simp) (hb hby at_160) hr)
  show Q0 Z p1 p2 p3 ci ca ka f9 cs h0 n0 (some (.int (nar .boolean (1 : Int32)))) T15.heap _
  rw [eq15]
  exact ⟨rfl, N15⟩
theorem own_ord {args : Array Value} {s : State} {t : Term} {a : Addr} {C n d : String} {k : Int32} (et : t.eval args s none [] s = some (.ref a)) (h : (Jvm.Cond.eq (.field t C n d) (.int k)).value args s none s [] = some true) : Fld s s.heap a C n d (.int k) := by
  refine Fld.start ?_
  have e1 := fld_at (C := C) (n := n) (dd := d) et
  obtain ⟨x, y, h1, h2, h3, -⟩ := cmp_v (Or.inl h)
  rw [e1] at h1
  have h4 : y = .int k := (Option.some.inj h2).symm
  subst h4
  cases x <;> simp [Kin, Value.isRef] at h3
  rename_i z
  have q : (Jvm.Cond.eq (.field t C n d) (.int k)).value args s none s [] = some (decide (z = k)) := by simp [Cond.value, Term.eval, et, h1]
  rw [h1, gotT q h]
theorem own_fref {args : Array Value} {s : State} {t : Term} {a : Addr} {C n d K : String} (et : t.eval args s none [] s = some (.ref a)) (h : (Jvm.Cond.exactly (.field t C n d) K).value args s none s [] = some true) : ∃ k, Fld s s.heap a C n d (.ref k) := by
  obtain ⟨k, e⟩ := exa_v h
  exact ⟨k, Fld.start ((fld_at et).symm.trans e)⟩
theorem own_fnull {args : Array Value} {s : State} {t : Term} {a : Addr} {C n d : String} (et : t.eval args s none [] s = some (.ref a)) (h : (Jvm.Cond.eq (.field t C n d) .null).value args s none s [] = some true) : Fld s s.heap a C n d .null :=
  Fld.start ((fld_at et).symm.trans (null_v h))
theorem own_fe {args : Array Value} {s : State} {t : Term} {a : Addr} {C n d K : String} (et : t.eval args s none [] s = some (.ref a)) (h : (Jvm.Cond.exactly (.field t C n d) K).value args s none s [] = some true) : ∃ k, Fld s s.heap a C n d (.ref k) ∧ (Term.field t C n d).eval args s none [] s = some (.ref k) ∧ Exa s s.heap k K := by
  obtain ⟨k, ek⟩ := exa_v h
  exact ⟨k, Fld.start ((fld_at et).symm.trans ek), ek, Exa.start ek h⟩
theorem own_lz {args : Array Value} {s : State} {t : Term} {a : Addr} {z : Int32} {c : Cell} {ty : FieldType} (hl : (Jvm.Cond.eq (.length t) (.int z)).value args s none s [] = some true) (et : t.eval args s none [] s = some (.ref a)) (A : Arr s s.heap a c ty) : c.slots.size < 2 ^ 31 ∧ c.slots.size.toInt32 = z := by
  have ha := Arr.fin (Vm.Alike.refl _) A
  by_cases q : c.slots.size < 2 ^ 31
  · exact ⟨q, gotT (Cond.eq_ints (len_f et ha q) (Term.int_eval z)) hl⟩
  · obtain ⟨x, y, e1, -⟩ := cmp_v (Or.inl hl)
    simp [Term.eval, et, ha] at e1
    exact absurd e1.1 (by omega)
theorem own_el {args : Array Value} {s : State} {t : Term} {a : Addr} {c : Cell} {j k : Int32} {i : Nat} (h : (Jvm.Cond.eq (.elem t (.int j)) (.int k)).value args s none s [] = some true) (et : t.eval args s none [] s = some (.ref a)) (hc : s.heap[a]? = some c) (hi : j.toNatClampNeg = i) : c.slots[i]? = some (.int k) := by
  obtain ⟨x, y, e1, e2, -, ky⟩ := cmp_v (Or.inl h)
  cases (Term.int_eval k).symm.trans e2
  obtain ⟨z, rfl⟩ := ky
  have q := gotT (Cond.eq_ints e1 (Term.int_eval k)) h
  subst q hi
  exact (elem_in e1 et (Term.int_eval j) hc).2
theorem own_elR {args : Array Value} {s : State} {t u : Term} {a b : Addr} {c : Cell} {j : Int32} {i : Nat} (h : (Jvm.Cond.eq (.elem t (.int j)) u).value args s none s [] = some true) (et : t.eval args s none [] s = some (.ref a)) (hc : s.heap[a]? = some c) (eu : u.eval args s none [] s = some (.ref b)) (hi : j.toNatClampNeg = i) : c.slots[i]? = some (.ref b) := by
  obtain ⟨x, y, e1, e2, -, ky⟩ := cmp_v (Or.inl h)
  cases eu.symm.trans e2
  have q := gotT (eq_R e1 eu ky.2 rfl) h
  subst q hi
  exact (elem_in e1 et (Term.int_eval j) hc).2
theorem own_av {args : Array Value} {s : State} {t : Term} {a : Addr} {z : Int32} {ty : FieldType} {vs : List Value} {dv : Value} (hfit : Fit s) (et : t.eval args s none [] s = some (.ref a)) (h : (Jvm.Cond.arrayOf t ty).value args s none s [] = some true) (hl : (Jvm.Cond.eq (.length t) (.int z)).value args s none s [] = some true) (hz : ¬ z < 0) (hn : z.toNatClampNeg = vs.length) (H : ∀ c, s.heap[a]? = some c → HasL c 0 vs) : ∃ k, Arv s s.heap a k ty z vs dv := by
  obtain ⟨c, A⟩ := Arr.start et h
  obtain ⟨q1, q2⟩ := own_lz hl et A
  exact ⟨_, Arv.start hfit A q1 q2 hz hn (H c A.1)⟩
set_option maxRecDepth 65536 in
set_option maxHeartbeats 40000000 in
theorem comes_1 {Post : Tables → Env → Array Value → State → Outcome → State → Prop} (hpost : ∀ tb e args s v u, (limb_1_1.after args s (.returned v) u = true ∧ limb_1_2.after args s (.returned v) u = true ∧ True) → ReturnedEndW s (.returned v) u (Jvm.fieldLocs frame_1_writes args s ++ Jvm.arrayLocs frame_1_arrays args s ++ Jvm.staticLocs frame_1_statics s) 40 2240 → Post tb e args s (.returned v) u) :
    ArmFor flags0 classFile x code maxLocals ret World_1 tables_1 room_1 Calls_1 rest_1 Pre_1 Post := by
  intro l hfl _ _ p e ha hc hk s m args below hf hA hF happ hP
  obtain ⟨hcalls, hrest, hpre⟩ := hP
  obtain ⟨-, -, -, hnamed, -, -, -, hat⟩ := (Spec.applies_iff hf).mp happ
  obtain ⟨hg, hn⟩ := and_e (Cond.before_iff.mp (show (Jvm.Cond.and given_1 narrow_1).before args s = true from hpre))
  obtain ⟨h1, g0⟩ := and_e hg
  obtain ⟨w0, w1, w2, rfl⟩ : ∃ w0 w1 w2 : Value, args = #[w0, w1, w2] := by
    have hs : args.size = 3 := by simpa [Cond.value, given_1] using h1
    obtain ⟨L⟩ := args
    match L, hs with
    | [w0, w1, w2], _ => exact ⟨w0, w1, w2, rfl⟩
  have hw := fun d (hd : d ∈ tables_1) => atoms_spec (ws := Jvm.Cond.code x code maxLocals ret :: tables_1) hat d (List.mem_cons_of_mem _ hd)
  have hfit : Fit s := fun {y c} hc i hi => by
    obtain ⟨ha, rfl⟩ := Array.getElem?_eq_some_iff.mp hc
    have q := List.all_eq_true.mp ((Array.all_eq_true_iff_forall_mem.mp hF) _ (Array.getElem_mem ha)) i (List.mem_range.mpr hi)
    simpa [Array.getElem?_eq_getElem hi] using q
  obtain ⟨k0, g1⟩ := and_e g0
  obtain ⟨i0, e0⟩ := isL_v k0
  obtain rfl : w0 = (.long i0) := Option.some.inj e0
  obtain ⟨k1, g2⟩ := and_e g1
  obtain ⟨i1, e1⟩ := isL_v k1
  obtain rfl : w1 = (.long i1) := Option.some.inj e1
  obtain ⟨i2, e2⟩ := is_v g2
  obtain rfl : w2 = (.int i2) := Option.some.inj e2
  obtain ⟨hsets, hown0⟩ := atoms_of _ (rest_1_c_eq ▸ (show rest_1_c.before _ s = true from hrest))
  obtain ⟨cs, ecs⟩ := is_v (Cond.before_iff.mp (hsets _ (List.mem_of_getElem? (i := 1) rfl)))
  have St_cs : Sta s s.heap "java/lang/String" "COMPACT_STRINGS" "Z" (.int cs) := Sta.start ecs (Or.inl (hsets _ (List.mem_of_getElem? (i := 0) rfl)))
  have hcs : ¬ cs = (0 : Int32) := gotF (Cond.eq_ints ecs (Term.int_eval (0))) (not_v (Cond.before_iff.mp (hsets _ (List.mem_of_getElem? (i := 2) rfl))))
  obtain ⟨f9, ef9, hf9⟩ := isR_v (Cond.before_iff.mp (hsets _ (List.mem_of_getElem? (i := 8) rfl)))
  have St_f9 : Sta s s.heap "jdk/internal/util/Preconditions" "SIOOBE_FORMATTER" "Ljava/util/function/BiFunction;" f9 := Sta.start ef9 (Or.inl (hsets _ (List.mem_of_getElem? (i := 7) rfl)))
  obtain ⟨ci, eci⟩ := exa_v (Cond.before_iff.mp (hsets _ (List.mem_of_getElem? (i := 11) rfl)))
  have St_ci : Sta s s.heap "java/lang/CharacterDataLatin1" "instance" "Ljava/lang/CharacterDataLatin1;" (.ref ci) := Sta.start eci (Or.inl (hsets _ (List.mem_of_getElem? (i := 10) rfl)))
  have Ex_ci : Exa s s.heap ci "java/lang/CharacterDataLatin1" := Exa.start eci (Cond.before_iff.mp (hsets _ (List.mem_of_getElem? (i := 11) rfl)))
  obtain ⟨ca, eca⟩ := arr_v (Cond.before_iff.mp (hsets _ (List.mem_of_getElem? (i := 14) rfl)))
  have St_ca : Sta s s.heap "java/lang/CharacterDataLatin1" "A" "[I" (.ref ca) := Sta.start eca (Or.inl (hsets _ (List.mem_of_getElem? (i := 13) rfl)))
  obtain ⟨ka, Av_ca⟩ := own_av (vs := own_A) (dv := (.int (0 : Int32))) hfit eca (Cond.before_iff.mp (hsets _ (List.mem_of_getElem? (i := 14) rfl))) (Cond.before_iff.mp (hsets _ (List.mem_of_getElem? (i := 16) rfl))) (by decide) (by decide +kernel) (fun c hc => ⟨own_el (Cond.before_iff.mp (hsets _ (List.mem_of_getElem? (i := 17) rfl))) eca hc (by decide), own_el (Cond.before_iff.mp (hsets _ (List.mem_of_getElem? (i := 18) rfl))) eca hc (by decide), own_el (Cond.before_iff.mp (hsets _ (List.mem_of_getElem? (i := 19) rfl))) eca hc (by decide), own_el (Cond.before_iff.mp (hsets _ (List.mem_of_getElem? (i := 20) rfl))) eca hc (by decide), own_el (Cond.before_iff.mp (hsets _ (List.mem_of_getElem? (i := 21) rfl))) eca hc (by decide), own_el (Cond.before_iff.mp (hsets _ (List.mem_of_getElem? (i := 22) rfl))) eca hc (by decide), own_el (Cond.before_iff.mp (hsets _ (List.mem_of_getElem? (i := 23) rfl))) eca hc (by decide), own_el (Cond.before_iff.mp (hsets _ (List.mem_of_getElem? (i := 24) rfl))) eca hc (by decide), own_el (Cond.before_iff.mp (hsets _ (List.mem_of_getElem? (i := 25) rfl))) eca hc (by decide), own_el (Cond.before_iff.mp (hsets _ (List.mem_of_getElem? (i := 26) rfl))) eca hc (by decide), own_el (Cond.before_iff.mp (hsets _ (List.mem_of_getElem? (i := 27) rfl))) eca hc (by decide), own_el (Cond.before_iff.mp (hsets _ (List.mem_of_getElem? (i := 28) rfl))) eca hc (by decide), own_el (Cond.before_iff.mp (hsets _ (List.mem_of_getElem? (i := 29) rfl))) eca hc (by decide), own_el (Cond.before_iff.mp (hsets _ (List.mem_of_getElem? (i := 30) rfl))) eca hc (by decide), own_el (Cond.before_iff.mp (hsets _ (List.mem_of_getElem? (i := 31) rfl))) eca hc (by decide), own_el (Cond.before_iff.mp (hsets _ (List.mem_of_getElem? (i := 32) rfl))) eca hc (by decide), own_el (Cond.before_iff.mp (hsets _ (List.mem_of_getElem? (i := 33) rfl))) eca hc (by decide), own_el (Cond.before_iff.mp (hsets _ (List.mem_of_getElem? (i := 34) rfl))) eca hc (by decide), own_el (Cond.before_iff.mp (hsets _ (List.mem_of_getElem? (i := 35) rfl))) eca hc (by decide), own_el (Cond.before_iff.mp (hsets _ (List.mem_of_getElem? (i := 36) rfl))) eca hc (by decide), own_el (Cond.before_iff.mp (hsets _ (List.mem_of_getElem? (i := 37) rfl))) eca hc (by decide), own_el (Cond.before_iff.mp (hsets _ (List.mem_of_getElem? (i := 38) rfl))) eca hc (by decide), own_el (Cond.before_iff.mp (hsets _ (List.mem_of_getElem? (i := 39) rfl))) eca hc (by decide), own_el (Cond.before_iff.mp (hsets _ (List.mem_of_getElem? (i := 40) rfl))) eca hc (by decide), own_el (Cond.before_iff.mp (hsets _ (List.mem_of_getElem? (i := 41) rfl))) eca hc (by decide), own_el (Cond.before_iff.mp (hsets _ (List.mem_of_getElem? (i := 42) rfl))) eca hc (by decide), own_el (Cond.before_iff.mp (hsets _ (List.mem_of_getElem? (i := 43) rfl))) eca hc (by decide), own_el (Cond.before_iff.mp (hsets _ (List.mem_of_getElem? (i := 44) rfl))) eca hc (by decide), own_el (Cond.before_iff.mp (hsets _ (List.mem_of_getElem? (i := 45) rfl))) eca hc (by decide), own_el (Cond.before_iff.mp (hsets _ (List.mem_of_getElem? (i := 46) rfl))) eca hc (by decide), own_el (Cond.before_iff.mp (hsets _ (List.mem_of_getElem? (i := 47) rfl))) eca hc (by decide), own_el (Cond.before_iff.mp (hsets _ (List.mem_of_getElem? (i := 48) rfl))) eca hc (by decide), own_el (Cond.before_iff.mp (hsets _ (List.mem_of_getElem? (i := 49) rfl))) eca hc (by decide), own_el (Cond.before_iff.mp (hsets _ (List.mem_of_getElem? (i := 50) rfl))) eca hc (by decide), own_el (Cond.before_iff.mp (hsets _ (List.mem_of_getElem? (i := 51) rfl))) eca hc (by decide), own_el (Cond.before_iff.mp (hsets _ (List.mem_of_getElem? (i := 52) rfl))) eca hc (by decide), own_el (Cond.before_iff.mp (hsets _ (List.mem_of_getElem? (i := 53) rfl))) eca hc (by decide), own_el (Cond.before_iff.mp (hsets _ (List.mem_of_getElem? (i := 54) rfl))) eca hc (by decide), own_el (Cond.before_iff.mp (hsets _ (List.mem_of_getElem? (i := 55) rfl))) eca hc (by decide), own_el (Cond.before_iff.mp (hsets _ (List.mem_of_getElem? (i := 56) rfl))) eca hc (by decide), own_el (Cond.before_iff.mp (hsets _ (List.mem_of_getElem? (i := 57) rfl))) eca hc (by decide), own_el (Cond.before_iff.mp (hsets _ (List.mem_of_getElem? (i := 58) rfl))) eca hc (by decide), own_el (Cond.before_iff.mp (hsets _ (List.mem_of_getElem? (i := 59) rfl))) eca hc (by decide), own_el (Cond.before_iff.mp (hsets _ (List.mem_of_getElem? (i := 60) rfl))) eca hc (by decide), own_el (Cond.before_iff.mp (hsets _ (List.mem_of_getElem? (i := 61) rfl))) eca hc (by decide), own_el (Cond.before_iff.mp (hsets _ (List.mem_of_getElem? (i := 62) rfl))) eca hc (by decide), own_el (Cond.before_iff.mp (hsets _ (List.mem_of_getElem? (i := 63) rfl))) eca hc (by decide), own_el (Cond.before_iff.mp (hsets _ (List.mem_of_getElem? (i := 64) rfl))) eca hc (by decide), own_el (Cond.before_iff.mp (hsets _ (List.mem_of_getElem? (i := 65) rfl))) eca hc (by decide), own_el (Cond.before_iff.mp (hsets _ (List.mem_of_getElem? (i := 66) rfl))) eca hc (by decide), own_el (Cond.before_iff.mp (hsets _ (List.mem_of_getElem? (i := 67) rfl))) eca hc (by decide), own_el (Cond.before_iff.mp (hsets _ (List.mem_of_getElem? (i := 68) rfl))) eca hc (by decide), own_el (Cond.before_iff.mp (hsets _ (List.mem_of_getElem? (i := 69) rfl))) eca hc (by decide), own_el (Cond.before_iff.mp (hsets _ (List.mem_of_getElem? (i := 70) rfl))) eca hc (by decide), own_el (Cond.before_iff.mp (hsets _ (List.mem_of_getElem? (i := 71) rfl))) eca hc (by decide), own_el (Cond.before_iff.mp (hsets _ (List.mem_of_getElem? (i := 72) rfl))) eca hc (by decide), own_el (Cond.before_iff.mp (hsets _ (List.mem_of_getElem? (i := 73) rfl))) eca hc (by decide), own_el (Cond.before_iff.mp (hsets _ (List.mem_of_getElem? (i := 74) rfl))) eca hc (by decide), own_el (Cond.before_iff.mp (hsets _ (List.mem_of_getElem? (i := 75) rfl))) eca hc (by decide), own_el (Cond.before_iff.mp (hsets _ (List.mem_of_getElem? (i := 76) rfl))) eca hc (by decide), own_el (Cond.before_iff.mp (hsets _ (List.mem_of_getElem? (i := 77) rfl))) eca hc (by decide), own_el (Cond.before_iff.mp (hsets _ (List.mem_of_getElem? (i := 78) rfl))) eca hc (by decide), own_el (Cond.before_iff.mp (hsets _ (List.mem_of_getElem? (i := 79) rfl))) eca hc (by decide), own_el (Cond.before_iff.mp (hsets _ (List.mem_of_getElem? (i := 80) rfl))) eca hc (by decide), own_el (Cond.before_iff.mp (hsets _ (List.mem_of_getElem? (i := 81) rfl))) eca hc (by decide), own_el (Cond.before_iff.mp (hsets _ (List.mem_of_getElem? (i := 82) rfl))) eca hc (by decide), own_el (Cond.before_iff.mp (hsets _ (List.mem_of_getElem? (i := 83) rfl))) eca hc (by decide), own_el (Cond.before_iff.mp (hsets _ (List.mem_of_getElem? (i := 84) rfl))) eca hc (by decide), own_el (Cond.before_iff.mp (hsets _ (List.mem_of_getElem? (i := 85) rfl))) eca hc (by decide), own_el (Cond.before_iff.mp (hsets _ (List.mem_of_getElem? (i := 86) rfl))) eca hc (by decide), own_el (Cond.before_iff.mp (hsets _ (List.mem_of_getElem? (i := 87) rfl))) eca hc (by decide), own_el (Cond.before_iff.mp (hsets _ (List.mem_of_getElem? (i := 88) rfl))) eca hc (by decide), own_el (Cond.before_iff.mp (hsets _ (List.mem_of_getElem? (i := 89) rfl))) eca hc (by decide), own_el (Cond.before_iff.mp (hsets _ (List.mem_of_getElem? (i := 90) rfl))) eca hc (by decide), own_el (Cond.before_iff.mp (hsets _ (List.mem_of_getElem? (i := 91) rfl))) eca hc (by decide), own_el (Cond.before_iff.mp (hsets _ (List.mem_of_getElem? (i := 92) rfl))) eca hc (by decide), own_el (Cond.before_iff.mp (hsets _ (List.mem_of_getElem? (i := 93) rfl))) eca hc (by decide), own_el (Cond.before_iff.mp (hsets _ (List.mem_of_getElem? (i := 94) rfl))) eca hc (by decide), own_el (Cond.before_iff.mp (hsets _ (List.mem_of_getElem? (i := 95) rfl))) eca hc (by decide), own_el (Cond.before_iff.mp (hsets _ (List.mem_of_getElem? (i := 96) rfl))) eca hc (by decide), own_el (Cond.before_iff.mp (hsets _ (List.mem_of_getElem? (i := 97) rfl))) eca hc (by decide), own_el (Cond.before_iff.mp (hsets _ (List.mem_of_getElem? (i := 98) rfl))) eca hc (by decide), own_el (Cond.before_iff.mp (hsets _ (List.mem_of_getElem? (i := 99) rfl))) eca hc (by decide), own_el (Cond.before_iff.mp (hsets _ (List.mem_of_getElem? (i := 100) rfl))) eca hc (by decide), own_el (Cond.before_iff.mp (hsets _ (List.mem_of_getElem? (i := 101) rfl))) eca hc (by decide), own_el (Cond.before_iff.mp (hsets _ (List.mem_of_getElem? (i := 102) rfl))) eca hc (by decide), own_el (Cond.before_iff.mp (hsets _ (List.mem_of_getElem? (i := 103) rfl))) eca hc (by decide), own_el (Cond.before_iff.mp (hsets _ (List.mem_of_getElem? (i := 104) rfl))) eca hc (by decide), own_el (Cond.before_iff.mp (hsets _ (List.mem_of_getElem? (i := 105) rfl))) eca hc (by decide), own_el (Cond.before_iff.mp (hsets _ (List.mem_of_getElem? (i := 106) rfl))) eca hc (by decide), own_el (Cond.before_iff.mp (hsets _ (List.mem_of_getElem? (i := 107) rfl))) eca hc (by decide), own_el (Cond.before_iff.mp (hsets _ (List.mem_of_getElem? (i := 108) rfl))) eca hc (by decide), own_el (Cond.before_iff.mp (hsets _ (List.mem_of_getElem? (i := 109) rfl))) eca hc (by decide), own_el (Cond.before_iff.mp (hsets _ (List.mem_of_getElem? (i := 110) rfl))) eca hc (by decide), own_el (Cond.before_iff.mp (hsets _ (List.mem_of_getElem? (i := 111) rfl))) eca hc (by decide), own_el (Cond.before_iff.mp (hsets _ (List.mem_of_getElem? (i := 112) rfl))) eca hc (by decide), own_el (Cond.before_iff.mp (hsets _ (List.mem_of_getElem? (i := 113) rfl))) eca hc (by decide), own_el (Cond.before_iff.mp (hsets _ (List.mem_of_getElem? (i := 114) rfl))) eca hc (by decide), own_el (Cond.before_iff.mp (hsets _ (List.mem_of_getElem? (i := 115) rfl))) eca hc (by decide), own_el (Cond.before_iff.mp (hsets _ (List.mem_of_getElem? (i := 116) rfl))) eca hc (by decide), own_el (Cond.before_iff.mp (hsets _ (List.mem_of_getElem? (i := 117) rfl))) eca hc (by decide), own_el (Cond.before_iff.mp (hsets _ (List.mem_of_getElem? (i := 118) rfl))) eca hc (by decide), own_el (Cond.before_iff.mp (hsets _ (List.mem_of_getElem? (i := 119) rfl))) eca hc (by decide), own_el (Cond.before_iff.mp (hsets _ (List.mem_of_getElem? (i := 120) rfl))) eca hc (by decide), own_el (Cond.before_iff.mp (hsets _ (List.mem_of_getElem? (i := 121) rfl))) eca hc (by decide), own_el (Cond.before_iff.mp (hsets _ (List.mem_of_getElem? (i := 122) rfl))) eca hc (by decide), own_el (Cond.before_iff.mp (hsets _ (List.mem_of_getElem? (i := 123) rfl))) eca hc (by decide), own_el (Cond.before_iff.mp (hsets _ (List.mem_of_getElem? (i := 124) rfl))) eca hc (by decide), own_el (Cond.before_iff.mp (hsets _ (List.mem_of_getElem? (i := 125) rfl))) eca hc (by decide), own_el (Cond.before_iff.mp (hsets _ (List.mem_of_getElem? (i := 126) rfl))) eca hc (by decide), own_el (Cond.before_iff.mp (hsets _ (List.mem_of_getElem? (i := 127) rfl))) eca hc (by decide), own_el (Cond.before_iff.mp (hsets _ (List.mem_of_getElem? (i := 128) rfl))) eca hc (by decide), own_el (Cond.before_iff.mp (hsets _ (List.mem_of_getElem? (i := 129) rfl))) eca hc (by decide), own_el (Cond.before_iff.mp (hsets _ (List.mem_of_getElem? (i := 130) rfl))) eca hc (by decide), own_el (Cond.before_iff.mp (hsets _ (List.mem_of_getElem? (i := 131) rfl))) eca hc (by decide), own_el (Cond.before_iff.mp (hsets _ (List.mem_of_getElem? (i := 132) rfl))) eca hc (by decide), own_el (Cond.before_iff.mp (hsets _ (List.mem_of_getElem? (i := 133) rfl))) eca hc (by decide), own_el (Cond.before_iff.mp (hsets _ (List.mem_of_getElem? (i := 134) rfl))) eca hc (by decide), own_el (Cond.before_iff.mp (hsets _ (List.mem_of_getElem? (i := 135) rfl))) eca hc (by decide), own_el (Cond.before_iff.mp (hsets _ (List.mem_of_getElem? (i := 136) rfl))) eca hc (by decide), own_el (Cond.before_iff.mp (hsets _ (List.mem_of_getElem? (i := 137) rfl))) eca hc (by decide), own_el (Cond.before_iff.mp (hsets _ (List.mem_of_getElem? (i := 138) rfl))) eca hc (by decide), own_el (Cond.before_iff.mp (hsets _ (List.mem_of_getElem? (i := 139) rfl))) eca hc (by decide), own_el (Cond.before_iff.mp (hsets _ (List.mem_of_getElem? (i := 140) rfl))) eca hc (by decide), own_el (Cond.before_iff.mp (hsets _ (List.mem_of_getElem? (i := 141) rfl))) eca hc (by decide), own_el (Cond.before_iff.mp (hsets _ (List.mem_of_getElem? (i := 142) rfl))) eca hc (by decide), own_el (Cond.before_iff.mp (hsets _ (List.mem_of_getElem? (i := 143) rfl))) eca hc (by decide), own_el (Cond.before_iff.mp (hsets _ (List.mem_of_getElem? (i := 144) rfl))) eca hc (by decide), own_el (Cond.before_iff.mp (hsets _ (List.mem_of_getElem? (i := 145) rfl))) eca hc (by decide), own_el (Cond.before_iff.mp (hsets _ (List.mem_of_getElem? (i := 146) rfl))) eca hc (by decide), own_el (Cond.before_iff.mp (hsets _ (List.mem_of_getElem? (i := 147) rfl))) eca hc (by decide), own_el (Cond.before_iff.mp (hsets _ (List.mem_of_getElem? (i := 148) rfl))) eca hc (by decide), own_el (Cond.before_iff.mp (hsets _ (List.mem_of_getElem? (i := 149) rfl))) eca hc (by decide), own_el (Cond.before_iff.mp (hsets _ (List.mem_of_getElem? (i := 150) rfl))) eca hc (by decide), own_el (Cond.before_iff.mp (hsets _ (List.mem_of_getElem? (i := 151) rfl))) eca hc (by decide), own_el (Cond.before_iff.mp (hsets _ (List.mem_of_getElem? (i := 152) rfl))) eca hc (by decide), own_el (Cond.before_iff.mp (hsets _ (List.mem_of_getElem? (i := 153) rfl))) eca hc (by decide), own_el (Cond.before_iff.mp (hsets _ (List.mem_of_getElem? (i := 154) rfl))) eca hc (by decide), own_el (Cond.before_iff.mp (hsets _ (List.mem_of_getElem? (i := 155) rfl))) eca hc (by decide), own_el (Cond.before_iff.mp (hsets _ (List.mem_of_getElem? (i := 156) rfl))) eca hc (by decide), own_el (Cond.before_iff.mp (hsets _ (List.mem_of_getElem? (i := 157) rfl))) eca hc (by decide), own_el (Cond.before_iff.mp (hsets _ (List.mem_of_getElem? (i := 158) rfl))) eca hc (by decide), own_el (Cond.before_iff.mp (hsets _ (List.mem_of_getElem? (i := 159) rfl))) eca hc (by decide), own_el (Cond.before_iff.mp (hsets _ (List.mem_of_getElem? (i := 160) rfl))) eca hc (by decide), own_el (Cond.before_iff.mp (hsets _ (List.mem_of_getElem? (i := 161) rfl))) eca hc (by decide), own_el (Cond.before_iff.mp (hsets _ (List.mem_of_getElem? (i := 162) rfl))) eca hc (by decide), own_el (Cond.before_iff.mp (hsets _ (List.mem_of_getElem? (i := 163) rfl))) eca hc (by decide), own_el (Cond.before_iff.mp (hsets _ (List.mem_of_getElem? (i := 164) rfl))) eca hc (by decide), own_el (Cond.before_iff.mp (hsets _ (List.mem_of_getElem? (i := 165) rfl))) eca hc (by decide), own_el (Cond.before_iff.mp (hsets _ (List.mem_of_getElem? (i := 166) rfl))) eca hc (by decide), own_el (Cond.before_iff.mp (hsets _ (List.mem_of_getElem? (i := 167) rfl))) eca hc (by decide), own_el (Cond.before_iff.mp (hsets _ (List.mem_of_getElem? (i := 168) rfl))) eca hc (by decide), own_el (Cond.before_iff.mp (hsets _ (List.mem_of_getElem? (i := 169) rfl))) eca hc (by decide), own_el (Cond.before_iff.mp (hsets _ (List.mem_of_getElem? (i := 170) rfl))) eca hc (by decide), own_el (Cond.before_iff.mp (hsets _ (List.mem_of_getElem? (i := 171) rfl))) eca hc (by decide), own_el (Cond.before_iff.mp (hsets _ (List.mem_of_getElem? (i := 172) rfl))) eca hc (by decide), own_el (Cond.before_iff.mp (hsets _ (List.mem_of_getElem? (i := 173) rfl))) eca hc (by decide), own_el (Cond.before_iff.mp (hsets _ (List.mem_of_getElem? (i := 174) rfl))) eca hc (by decide), own_el (Cond.before_iff.mp (hsets _ (List.mem_of_getElem? (i := 175) rfl))) eca hc (by decide), own_el (Cond.before_iff.mp (hsets _ (List.mem_of_getElem? (i := 176) rfl))) eca hc (by decide), own_el (Cond.before_iff.mp (hsets _ (List.mem_of_getElem? (i := 177) rfl))) eca hc (by decide), own_el (Cond.before_iff.mp (hsets _ (List.mem_of_getElem? (i := 178) rfl))) eca hc (by decide), own_el (Cond.before_iff.mp (hsets _ (List.mem_of_getElem? (i := 179) rfl))) eca hc (by decide), own_el (Cond.before_iff.mp (hsets _ (List.mem_of_getElem? (i := 180) rfl))) eca hc (by decide), own_el (Cond.before_iff.mp (hsets _ (List.mem_of_getElem? (i := 181) rfl))) eca hc (by decide), own_el (Cond.before_iff.mp (hsets _ (List.mem_of_getElem? (i := 182) rfl))) eca hc (by decide), own_el (Cond.before_iff.mp (hsets _ (List.mem_of_getElem? (i := 183) rfl))) eca hc (by decide), own_el (Cond.before_iff.mp (hsets _ (List.mem_of_getElem? (i := 184) rfl))) eca hc (by decide), own_el (Cond.before_iff.mp (hsets _ (List.mem_of_getElem? (i := 185) rfl))) eca hc (by decide), own_el (Cond.before_iff.mp (hsets _ (List.mem_of_getElem? (i := 186) rfl))) eca hc (by decide), own_el (Cond.before_iff.mp (hsets _ (List.mem_of_getElem? (i := 187) rfl))) eca hc (by decide), own_el (Cond.before_iff.mp (hsets _ (List.mem_of_getElem? (i := 188) rfl))) eca hc (by decide), own_el (Cond.before_iff.mp (hsets _ (List.mem_of_getElem? (i := 189) rfl))) eca hc (by decide), own_el (Cond.before_iff.mp (hsets _ (List.mem_of_getElem? (i := 190) rfl))) eca hc (by decide), own_el (Cond.before_iff.mp (hsets _ (List.mem_of_getElem? (i := 191) rfl))) eca hc (by decide), own_el (Cond.before_iff.mp (hsets _ (List.mem_of_getElem? (i := 192) rfl))) eca hc (by decide), own_el (Cond.before_iff.mp (hsets _ (List.mem_of_getElem? (i := 193) rfl))) eca hc (by decide), own_el (Cond.before_iff.mp (hsets _ (List.mem_of_getElem? (i := 194) rfl))) eca hc (by decide), own_el (Cond.before_iff.mp (hsets _ (List.mem_of_getElem? (i := 195) rfl))) eca hc (by decide), own_el (Cond.before_iff.mp (hsets _ (List.mem_of_getElem? (i := 196) rfl))) eca hc (by decide), own_el (Cond.before_iff.mp (hsets _ (List.mem_of_getElem? (i := 197) rfl))) eca hc (by decide), own_el (Cond.before_iff.mp (hsets _ (List.mem_of_getElem? (i := 198) rfl))) eca hc (by decide), own_el (Cond.before_iff.mp (hsets _ (List.mem_of_getElem? (i := 199) rfl))) eca hc (by decide), own_el (Cond.before_iff.mp (hsets _ (List.mem_of_getElem? (i := 200) rfl))) eca hc (by decide), own_el (Cond.before_iff.mp (hsets _ (List.mem_of_getElem? (i := 201) rfl))) eca hc (by decide), own_el (Cond.before_iff.mp (hsets _ (List.mem_of_getElem? (i := 202) rfl))) eca hc (by decide), own_el (Cond.before_iff.mp (hsets _ (List.mem_of_getElem? (i := 203) rfl))) eca hc (by decide), own_el (Cond.before_iff.mp (hsets _ (List.mem_of_getElem? (i := 204) rfl))) eca hc (by decide), own_el (Cond.before_iff.mp (hsets _ (List.mem_of_getElem? (i := 205) rfl))) eca hc (by decide), own_el (Cond.before_iff.mp (hsets _ (List.mem_of_getElem? (i := 206) rfl))) eca hc (by decide), own_el (Cond.before_iff.mp (hsets _ (List.mem_of_getElem? (i := 207) rfl))) eca hc (by decide), own_el (Cond.before_iff.mp (hsets _ (List.mem_of_getElem? (i := 208) rfl))) eca hc (by decide), own_el (Cond.before_iff.mp (hsets _ (List.mem_of_getElem? (i := 209) rfl))) eca hc (by decide), own_el (Cond.before_iff.mp (hsets _ (List.mem_of_getElem? (i := 210) rfl))) eca hc (by decide), own_el (Cond.before_iff.mp (hsets _ (List.mem_of_getElem? (i := 211) rfl))) eca hc (by decide), own_el (Cond.before_iff.mp (hsets _ (List.mem_of_getElem? (i := 212) rfl))) eca hc (by decide), own_el (Cond.before_iff.mp (hsets _ (List.mem_of_getElem? (i := 213) rfl))) eca hc (by decide), own_el (Cond.before_iff.mp (hsets _ (List.mem_of_getElem? (i := 214) rfl))) eca hc (by decide), own_el (Cond.before_iff.mp (hsets _ (List.mem_of_getElem? (i := 215) rfl))) eca hc (by decide), own_el (Cond.before_iff.mp (hsets _ (List.mem_of_getElem? (i := 216) rfl))) eca hc (by decide), own_el (Cond.before_iff.mp (hsets _ (List.mem_of_getElem? (i := 217) rfl))) eca hc (by decide), own_el (Cond.before_iff.mp (hsets _ (List.mem_of_getElem? (i := 218) rfl))) eca hc (by decide), own_el (Cond.before_iff.mp (hsets _ (List.mem_of_getElem? (i := 219) rfl))) eca hc (by decide), own_el (Cond.before_iff.mp (hsets _ (List.mem_of_getElem? (i := 220) rfl))) eca hc (by decide), own_el (Cond.before_iff.mp (hsets _ (List.mem_of_getElem? (i := 221) rfl))) eca hc (by decide), own_el (Cond.before_iff.mp (hsets _ (List.mem_of_getElem? (i := 222) rfl))) eca hc (by decide), own_el (Cond.before_iff.mp (hsets _ (List.mem_of_getElem? (i := 223) rfl))) eca hc (by decide), own_el (Cond.before_iff.mp (hsets _ (List.mem_of_getElem? (i := 224) rfl))) eca hc (by decide), own_el (Cond.before_iff.mp (hsets _ (List.mem_of_getElem? (i := 225) rfl))) eca hc (by decide), own_el (Cond.before_iff.mp (hsets _ (List.mem_of_getElem? (i := 226) rfl))) eca hc (by decide), own_el (Cond.before_iff.mp (hsets _ (List.mem_of_getElem? (i := 227) rfl))) eca hc (by decide), own_el (Cond.before_iff.mp (hsets _ (List.mem_of_getElem? (i := 228) rfl))) eca hc (by decide), own_el (Cond.before_iff.mp (hsets _ (List.mem_of_getElem? (i := 229) rfl))) eca hc (by decide), own_el (Cond.before_iff.mp (hsets _ (List.mem_of_getElem? (i := 230) rfl))) eca hc (by decide), own_el (Cond.before_iff.mp (hsets _ (List.mem_of_getElem? (i := 231) rfl))) eca hc (by decide), own_el (Cond.before_iff.mp (hsets _ (List.mem_of_getElem? (i := 232) rfl))) eca hc (by decide), own_el (Cond.before_iff.mp (hsets _ (List.mem_of_getElem? (i := 233) rfl))) eca hc (by decide), own_el (Cond.before_iff.mp (hsets _ (List.mem_of_getElem? (i := 234) rfl))) eca hc (by decide), own_el (Cond.before_iff.mp (hsets _ (List.mem_of_getElem? (i := 235) rfl))) eca hc (by decide), own_el (Cond.before_iff.mp (hsets _ (List.mem_of_getElem? (i := 236) rfl))) eca hc (by decide), own_el (Cond.before_iff.mp (hsets _ (List.mem_of_getElem? (i := 237) rfl))) eca hc (by decide), own_el (Cond.before_iff.mp (hsets _ (List.mem_of_getElem? (i := 238) rfl))) eca hc (by decide), own_el (Cond.before_iff.mp (hsets _ (List.mem_of_getElem? (i := 239) rfl))) eca hc (by decide), own_el (Cond.before_iff.mp (hsets _ (List.mem_of_getElem? (i := 240) rfl))) eca hc (by decide), own_el (Cond.before_iff.mp (hsets _ (List.mem_of_getElem? (i := 241) rfl))) eca hc (by decide), own_el (Cond.before_iff.mp (hsets _ (List.mem_of_getElem? (i := 242) rfl))) eca hc (by decide), own_el (Cond.before_iff.mp (hsets _ (List.mem_of_getElem? (i := 243) rfl))) eca hc (by decide), own_el (Cond.before_iff.mp (hsets _ (List.mem_of_getElem? (i := 244) rfl))) eca hc (by decide), own_el (Cond.before_iff.mp (hsets _ (List.mem_of_getElem? (i := 245) rfl))) eca hc (by decide), own_el (Cond.before_iff.mp (hsets _ (List.mem_of_getElem? (i := 246) rfl))) eca hc (by decide), own_el (Cond.before_iff.mp (hsets _ (List.mem_of_getElem? (i := 247) rfl))) eca hc (by decide), own_el (Cond.before_iff.mp (hsets _ (List.mem_of_getElem? (i := 248) rfl))) eca hc (by decide), own_el (Cond.before_iff.mp (hsets _ (List.mem_of_getElem? (i := 249) rfl))) eca hc (by decide), own_el (Cond.before_iff.mp (hsets _ (List.mem_of_getElem? (i := 250) rfl))) eca hc (by decide), own_el (Cond.before_iff.mp (hsets _ (List.mem_of_getElem? (i := 251) rfl))) eca hc (by decide), own_el (Cond.before_iff.mp (hsets _ (List.mem_of_getElem? (i := 252) rfl))) eca hc (by decide), own_el (Cond.before_iff.mp (hsets _ (List.mem_of_getElem? (i := 253) rfl))) eca hc (by decide), own_el (Cond.before_iff.mp (hsets _ (List.mem_of_getElem? (i := 254) rfl))) eca hc (by decide), own_el (Cond.before_iff.mp (hsets _ (List.mem_of_getElem? (i := 255) rfl))) eca hc (by decide), own_el (Cond.before_iff.mp (hsets _ (List.mem_of_getElem? (i := 256) rfl))) eca hc (by decide), own_el (Cond.before_iff.mp (hsets _ (List.mem_of_getElem? (i := 257) rfl))) eca hc (by decide), own_el (Cond.before_iff.mp (hsets _ (List.mem_of_getElem? (i := 258) rfl))) eca hc (by decide), own_el (Cond.before_iff.mp (hsets _ (List.mem_of_getElem? (i := 259) rfl))) eca hc (by decide), own_el (Cond.before_iff.mp (hsets _ (List.mem_of_getElem? (i := 260) rfl))) eca hc (by decide), own_el (Cond.before_iff.mp (hsets _ (List.mem_of_getElem? (i := 261) rfl))) eca hc (by decide), own_el (Cond.before_iff.mp (hsets _ (List.mem_of_getElem? (i := 262) rfl))) eca hc (by decide), own_el (Cond.before_iff.mp (hsets _ (List.mem_of_getElem? (i := 263) rfl))) eca hc (by decide), own_el (Cond.before_iff.mp (hsets _ (List.mem_of_getElem? (i := 264) rfl))) eca hc (by decide), own_el (Cond.before_iff.mp (hsets _ (List.mem_of_getElem? (i := 265) rfl))) eca hc (by decide), own_el (Cond.before_iff.mp (hsets _ (List.mem_of_getElem? (i := 266) rfl))) eca hc (by decide), own_el (Cond.before_iff.mp (hsets _ (List.mem_of_getElem? (i := 267) rfl))) eca hc (by decide), own_el (Cond.before_iff.mp (hsets _ (List.mem_of_getElem? (i := 268) rfl))) eca hc (by decide), own_el (Cond.before_iff.mp (hsets _ (List.mem_of_getElem? (i := 269) rfl))) eca hc (by decide), own_el (Cond.before_iff.mp (hsets _ (List.mem_of_getElem? (i := 270) rfl))) eca hc (by decide), own_el (Cond.before_iff.mp (hsets _ (List.mem_of_getElem? (i := 271) rfl))) eca hc (by decide), own_el (Cond.before_iff.mp (hsets _ (List.mem_of_getElem? (i := 272) rfl))) eca hc (by decide), trivial⟩)
  obtain ⟨n, o, h1, h2, h3, _, L, rfl, ⟨rfl, N⟩, hq⟩ := rm0 l s _ hw tables_1 i0 i1 i2 ci ca ka f9 cs s.heap s.heap.size (Nat.le_refl _) St_ci Ex_ci St_ca Av_ca St_f9 hf9 St_cs hcs p e ha hc hk s m _ below hf ((Spec.applies_iff_loose hf).mp happ).1 ⟨rfl, State.Warmed39.refl s, rfl⟩ trivial
  refine ⟨n, _, h1, h2, h3, hpost _ _ _ _ _ _ ⟨Cond.after_iff.mpr rfl, Cond.after_iff.mpr (eq_i res_at (Term.int_eval (1)) rfl), trivial⟩ ⟨hq.1, hq.2.1, hq.2.2.1, (hq.2.2.2.sift fun y hy => Or.inr (N y hy)).mono (by decide) (by decide)⟩⟩
theorem main_1_1 : Claimed_1_1 := comes_1 fun _ _ _ _ _ _ h hF => ⟨h.1, hF⟩
theorem main_1_2 : Claimed_1_2 := comes_1 fun _ _ _ _ _ _ h hF => ⟨h.2.1, hF⟩
end Jvm.Pilot.@@N@@
namespace Jvm.Pilot.@@N@@
open Jvm Jvm.ClassFile Sem Op Lib Jvm.Free Jvm.Stand Jvm.Pilot.@@N@@.Jvm.D
/-! MADE BY PROGRAM (witnessworld.py) out of the Statement's table words and the real class files: 31 classes; the members and pool entries that the words name. The judged class is class 1, her method 1. -/
namespace start1
open Jvm.ClassFile
def u (s : String) : CpInfo := .utf8 (stringToUtf16 s)
def gap : Nat → List CpInfo → List CpInfo
  | 0, r => r
  | n + 1, r => .unusable :: gap n r
def poolList (es : List (Nat × CpInfo)) (last : Nat) : List CpInfo := es.foldr (fun e r => gap e.1 (e.2 :: r)) (gap last [])
def pool (es : List (Nat × CpInfo)) (last : Nat) : Array CpInfo := ⟨poolList es last⟩
def fileOf (pool : Array CpInfo) (this : Nat) (attrs : Array Attribute := #[]) (ms : Array MethodInfo := #[]) (fl : Nat := 33) (sup : Nat := 0) (ifs : Array Nat := #[]) (fds : Array FieldInfo := #[]) : ClassFile where
  minorVersion := 0
  majorVersion := 65
  constantPool := pool
  accessFlags := fl
  thisClass := this
  superClass := sup
  interfaces := ifs
  fields := fds
  methods := ms
  attributes := attrs
def plain (name : String) (sup : Option ClassId) : Class where
  name := name
  kind := .ordinary
  loader := none
  accessFlags := 33
  super := sup
  interfaces := #[]
  cf := none
  fields := #[]
  methods := #[]
  instanceTypes := #[]
  staticTypes := #[]
  resolved := #[]
  callSites := []
  init := .initialized
  statics := none
  mirror := none

def pool0 : Array CpInfo := pool [(5, u "<init>"), (0, u "()V"), (1, .class_ 10), (1, u "java/lang/Object")] 113

def k0c0 : Code := { maxStack := 0, maxLocals := 1, code := object_method_1_code, exceptionTable := #[], attributes := #[] }
def k0m0 : Method := { name := "<init>", desc := "()V", sig := { parameters := [], returnType := none }, accessFlags := 1, code := some k0c0 }
def k0 : Class := { plain "java/lang/Object" none with
  accessFlags := 33
  interfaces := #[]
  cf := some (fileOf pool0 8 #[] #[{ accessFlags := 1, nameIndex := 5, descriptorIndex := 6, attributes := #[] }] 33 0 #[] #[])
  fields := #[]
  methods := #[k0m0]
  instanceTypes := #[]
  staticTypes := #[]
  resolved := Array.replicate 124 none
  statics := none }

def pool1 : Array CpInfo := pool [(2, .class_ 4), (1, u "java/lang/Object"), (0, u "<init>"), (0, u "()V"), (0, .methodref 8 9), (0, .class_ 10), (0, .nameAndType 11 12), (0, u "com/example/firm_duties/firmduties/PairToStringPinLaw"), (0, u "endChar"), (0, u "(I)C"), (0, .methodref 8 14), (0, .nameAndType 15 12), (0, u "midChar"), (0, .methodref 8 17), (0, .nameAndType 18 19), (0, u "mk"), (0, u "(ICCC)Ljava/lang/String;"), (0, .class_ 21), (0, u "com/example/firm_duties/firmduties/BusinessContext$Pair"), (0, .methodref 20 23), (0, .nameAndType 5 24), (0, u "(Ljava/lang/String;Ljava/lang/String;)V"), (0, .methodref 20 26), (0, .nameAndType 27 28), (0, u "toString"), (0, u "()Ljava/lang/String;"), (0, .methodref 30 31), (0, .class_ 32), (0, .nameAndType 33 34), (0, u "java/lang/String"), (0, u "length"), (0, u "()I"), (0, .methodref 8 36), (0, .nameAndType 37 38), (0, u "has"), (0, u "(Ljava/lang/String;ILjava/lang/String;)Z"), (0, .methodref 30 40), (0, .nameAndType 41 12), (0, u "charAt"), (0, .methodref 30 43), (0, .nameAndType 5 44), (0, u "([C)V"), (2, u "law"), (0, u "(JJI)Z")] 7

def k1m0 : Method := { name := "<init>", desc := "()V", sig := { parameters := [], returnType := none }, accessFlags := 1, code := none }
def k1c1 : Code := { maxStack := 6, maxLocals := 11, code := code, exceptionTable := #[], attributes := #[] }
def k1m1 : Method := { name := "law", desc := "(JJI)Z", sig := { parameters := [.long, .long, .int], returnType := some .boolean }, accessFlags := 9, code := some k1c1 }
def k1c2 : Code := { maxStack := 2, maxLocals := 2, code := method_3_code, exceptionTable := #[], attributes := #[] }
def k1m2 : Method := { name := "endChar", desc := "(I)C", sig := { parameters := [.int], returnType := some .char }, accessFlags := 10, code := some k1c2 }
def k1c3 : Code := { maxStack := 2, maxLocals := 2, code := method_4_code, exceptionTable := #[], attributes := #[] }
def k1m3 : Method := { name := "midChar", desc := "(I)C", sig := { parameters := [.int], returnType := some .char }, accessFlags := 10, code := some k1c3 }
def k1c4 : Code := { maxStack := 6, maxLocals := 4, code := method_5_code, exceptionTable := #[], attributes := #[] }
def k1m4 : Method := { name := "mk", desc := "(ICCC)Ljava/lang/String;", sig := { parameters := [.int, .char, .char, .char], returnType := some (.object "java/lang/String") }, accessFlags := 10, code := some k1c4 }
def k1c5 : Code := { maxStack := 3, maxLocals := 4, code := method_6_code, exceptionTable := #[], attributes := #[] }
def k1m5 : Method := { name := "has", desc := "(Ljava/lang/String;ILjava/lang/String;)Z", sig := { parameters := [(.object "java/lang/String"), .int, (.object "java/lang/String")], returnType := some .boolean }, accessFlags := 10, code := some k1c5 }
def k1 : Class := { plain "com/example/firm_duties/firmduties/PairToStringPinLaw" (some 0) with
  accessFlags := 49
  interfaces := #[]
  cf := some (fileOf pool1 8 #[] #[{ accessFlags := 1, nameIndex := 5, descriptorIndex := 6, attributes := #[] }, { accessFlags := 9, nameIndex := 47, descriptorIndex := 48, attributes := #[] }, { accessFlags := 10, nameIndex := 11, descriptorIndex := 12, attributes := #[] }, { accessFlags := 10, nameIndex := 15, descriptorIndex := 12, attributes := #[] }, { accessFlags := 10, nameIndex := 18, descriptorIndex := 19, attributes := #[] }, { accessFlags := 10, nameIndex := 37, descriptorIndex := 38, attributes := #[] }] 49 2 #[] #[])
  fields := #[]
  methods := #[k1m0, k1m1, k1m2, k1m3, k1m4, k1m5]
  instanceTypes := #[]
  staticTypes := #[]
  resolved := Array.replicate 56 none
  statics := none }

def pool2 : Array CpInfo := pool [(1, .class_ 2), (0, u "java/io/Serializable"), (0, .class_ 4), (0, u "java/lang/Object")] 2

def k2 : Class := { plain "java/io/Serializable" (some 0) with
  accessFlags := 1537
  interfaces := #[]
  cf := some (fileOf pool2 1 #[] #[] 1537 3 #[] #[])
  fields := #[]
  methods := #[]
  instanceTypes := #[]
  staticTypes := #[]
  resolved := Array.replicate 7 none
  statics := none }

def pool3 : Array CpInfo := pool [(1, .class_ 2), (0, u "java/lang/Comparable"), (0, .class_ 4), (0, u "java/lang/Object")] 7

def k3 : Class := { plain "java/lang/Comparable" (some 0) with
  accessFlags := 1537
  interfaces := #[]
  cf := some (fileOf pool3 1 #[] #[] 1537 3 #[] #[])
  fields := #[]
  methods := #[]
  instanceTypes := #[]
  staticTypes := #[]
  resolved := Array.replicate 12 none
  statics := none }

def pool4 : Array CpInfo := pool [(2, .class_ 4), (1, u "java/lang/CharSequence"), (42, .class_ 48), (0, u "java/lang/CharSequence$1CodePointIterator"), (10, .class_ 60), (0, u "java/lang/CharSequence$1CharIterator"), (5, .class_ 67), (0, u "java/lang/Object")] 63

def k4 : Class := { plain "java/lang/CharSequence" (some 0) with
  accessFlags := 1537
  interfaces := #[]
  cf := some (fileOf pool4 2 #[.nestMembers #[47, 59]] #[] 1537 66 #[] #[])
  fields := #[]
  methods := #[]
  instanceTypes := #[]
  staticTypes := #[]
  resolved := Array.replicate 131 none
  statics := none }

def pool5 : Array CpInfo := pool [(1, .class_ 2), (0, u "java/lang/constant/Constable"), (0, .class_ 4), (0, u "java/lang/Object")] 6

def k5 : Class := { plain "java/lang/constant/Constable" (some 0) with
  accessFlags := 1537
  interfaces := #[]
  cf := some (fileOf pool5 1 #[] #[] 1537 3 #[] #[])
  fields := #[]
  methods := #[]
  instanceTypes := #[]
  staticTypes := #[]
  resolved := Array.replicate 11 none
  statics := none }

def pool6 : Array CpInfo := pool [(1, .class_ 2), (0, u "java/lang/constant/ConstantDesc"), (0, .class_ 4), (0, u "java/lang/Object")] 32

def k6 : Class := { plain "java/lang/constant/ConstantDesc" (some 0) with
  accessFlags := 1537
  interfaces := #[]
  cf := some (fileOf pool6 1 #[] #[] 1537 3 #[] #[])
  fields := #[]
  methods := #[]
  instanceTypes := #[]
  staticTypes := #[]
  resolved := Array.replicate 37 none
  statics := none }

def pool7 : Array CpInfo := pool [(1, .methodref 2 3), (0, .class_ 4), (0, .nameAndType 5 6), (0, u "java/lang/Object"), (0, u "<init>"), (0, u "()V"), (2, .fieldref 10 11), (0, .class_ 12), (0, .nameAndType 13 14), (0, u "java/lang/String"), (0, u "value"), (0, u "[B"), (0, .fieldref 10 16), (0, .nameAndType 17 18), (0, u "coder"), (0, u "B"), (2, u "hash"), (0, u "I"), (2, u "hashIsZero"), (0, u "Z"), (0, .methodref 10 28), (0, .nameAndType 5 29), (0, u "([CIILjava/lang/Void;)V"), (8, .fieldref 10 39), (0, .nameAndType 40 26), (0, u "COMPACT_STRINGS"), (1, .class_ 44), (1, u "java/lang/StringUTF16"), (0, u "compress"), (1, .methodref 42 48), (0, .nameAndType 49 50), (0, u "coderFromArrayLen"), (0, u "([BI)B"), (3, .methodref 55 56), (0, .class_ 57), (0, .nameAndType 58 59), (0, u "java/util/Arrays"), (0, u "copyOfRange"), (0, u "([BII)[B"), (47, .class_ 109), (1, u "java/lang/StringLatin1"), (32, u "()Z"), (34, .methodref 42 178), (0, .nameAndType 45 179), (0, u "([CII)[B"), (13, .class_ 195), (1, u "java/lang/System"), (16, .methodref 193 213), (0, .nameAndType 214 215), (0, u "arraycopy"), (0, u "(Ljava/lang/Object;ILjava/lang/Object;II)V"), (118, u "()I"), (0, .methodref 10 336), (0, .nameAndType 17 337), (0, u "()B"), (2, u "()[B"), (22, u "([BI)C"), (27, u "(II)V"), (35, u "(I)C"), (36, u "()Ljava/lang/String;"), (24, .methodref 10 490), (0, .nameAndType 5 491), (0, u "(Ljava/lang/AbstractStringBuilder;Ljava/lang/Void;)V"), (0, .methodref 10 493), (0, .nameAndType 494 142), (0, u "isLatin1"), (0, .methodref 107 496), (0, .nameAndType 497 363), (0, u "charAt"), (3, u "checkIndex"), (3, .methodref 10 506), (0, .nameAndType 507 334), (0, u "length"), (24, u "getBytes"), (10, u "equals"), (5, .methodref 550 506), (0, .class_ 551), (0, u "java/lang/AbstractStringBuilder"), (0, .methodref 550 553), (0, .nameAndType 554 340), (0, u "getValue"), (18, u "(Ljava/lang/Object;)Z"), (1, .class_ 576), (0, u "java/lang/CharSequence"), (22, u "CASE_INSENSITIVE_ORDER"), (0, u "Ljava/util/Comparator;"), (32, .methodref 10 634), (0, .nameAndType 635 636), (0, u "indexOf"), (0, u "(II)I"), (0, .methodref 107 638), (0, .nameAndType 635 639), (0, u "([BIII)I"), (52, u "isEmpty"), (72, u "(I)I"), (55, u "([BIB)V"), (40, u "([B)Ljava/lang/String;"), (1, .methodref 107 865), (0, .nameAndType 866 862), (0, u "strip"), (143, u "([C)V"), (36, .methodref 550 493), (5, .fieldref 1054 1055), (0, .class_ 1056), (0, .nameAndType 1057 1058), (0, u "jdk/internal/util/Preconditions"), (0, u "SIOOBE_FORMATTER"), (0, u "Ljava/util/function/BiFunction;"), (0, .methodref 1054 1060), (0, .nameAndType 501 1061), (0, u "(IILjava/util/function/BiFunction;)I"), (39, u "serialPersistentFields"), (0, u "[Ljava/io/ObjectStreamField;"), (0, .class_ 1104), (0, u "java/lang/String$CaseInsensitiveComparator"), (1, .class_ 1107), (0, u "java/io/Serializable"), (0, .class_ 1109), (0, u "java/lang/Comparable"), (0, .class_ 1111), (0, u "java/lang/constant/Constable"), (0, .class_ 1113), (0, u "java/lang/constant/ConstantDesc"), (2, u "serialVersionUID"), (0, u "J"), (3, u "REPL"), (0, u "C"), (2, u "LATIN1"), (1, u "UTF16"), (105, u "(Ljava/lang/StringBuilder;)V")] 217

def k7m0 : Method := { name := "<init>", desc := "()V", sig := { parameters := [], returnType := none }, accessFlags := 1, code := none }
def k7c1 : Code := { maxStack := 5, maxLocals := 2, code := jdk_42_method_3_code, exceptionTable := #[], attributes := #[] }
def k7m1 : Method := { name := "<init>", desc := "([C)V", sig := { parameters := [(.array .char)], returnType := none }, accessFlags := 1, code := some k7c1 }
def k7c2 : Code := { maxStack := 3, maxLocals := 2, code := jdk_42_method_53_code, exceptionTable := #[], attributes := #[] }
def k7m2 : Method := { name := "<init>", desc := "(Ljava/lang/StringBuilder;)V", sig := { parameters := [(.object "java/lang/StringBuilder")], returnType := none }, accessFlags := 1, code := some k7c2 }
def k7c3 : Code := { maxStack := 2, maxLocals := 1, code := jdk_42_method_54_code, exceptionTable := #[], attributes := #[] }
def k7m3 : Method := { name := "length", desc := "()I", sig := { parameters := [], returnType := some .int }, accessFlags := 1, code := some k7c3 }
def k7c4 : Code := { maxStack := 1, maxLocals := 1, code := jdk_42_method_55_code, exceptionTable := #[], attributes := #[] }
def k7m4 : Method := { name := "isEmpty", desc := "()Z", sig := { parameters := [], returnType := some .boolean }, accessFlags := 1, code := some k7c4 }
def k7c5 : Code := { maxStack := 2, maxLocals := 2, code := jdk_42_method_56_code, exceptionTable := #[], attributes := #[] }
def k7m5 : Method := { name := "charAt", desc := "(I)C", sig := { parameters := [.int], returnType := some .char }, accessFlags := 1, code := some k7c5 }
def k7c6 : Code := { maxStack := 2, maxLocals := 3, code := jdk_42_method_66_code, exceptionTable := #[], attributes := #[] }
def k7m6 : Method := { name := "equals", desc := "(Ljava/lang/Object;)Z", sig := { parameters := [(.object "java/lang/Object")], returnType := some .boolean }, accessFlags := 1, code := some k7c6 }
def k7c7 : Code := { maxStack := 3, maxLocals := 2, code := jdk_42_method_79_code, exceptionTable := #[], attributes := #[] }
def k7m7 : Method := { name := "indexOf", desc := "(I)I", sig := { parameters := [.int], returnType := some .int }, accessFlags := 1, code := some k7c7 }
def k7c8 : Code := { maxStack := 4, maxLocals := 3, code := jdk_42_method_80_code, exceptionTable := #[], attributes := #[] }
def k7m8 : Method := { name := "indexOf", desc := "(II)I", sig := { parameters := [.int, .int], returnType := some .int }, accessFlags := 1, code := some k7c8 }
def k7c9 : Code := { maxStack := 1, maxLocals := 2, code := jdk_42_method_114_code, exceptionTable := #[], attributes := #[] }
def k7m9 : Method := { name := "strip", desc := "()Ljava/lang/String;", sig := { parameters := [], returnType := some (.object "java/lang/String") }, accessFlags := 1, code := some k7c9 }
def k7c10 : Code := { maxStack := 5, maxLocals := 4, code := jdk_42_method_147_code, exceptionTable := #[], attributes := #[] }
def k7m10 : Method := { name := "getBytes", desc := "([BIB)V", sig := { parameters := [(.array .byte), .int, .byte], returnType := none }, accessFlags := 0, code := some k7c10 }
def k7c11 : Code := { maxStack := 4, maxLocals := 6, code := jdk_42_method_149_code, exceptionTable := #[], attributes := #[] }
def k7m11 : Method := { name := "<init>", desc := "([CIILjava/lang/Void;)V", sig := { parameters := [(.array .char), .int, .int, (.object "java/lang/Void")], returnType := none }, accessFlags := 2, code := some k7c11 }
def k7c12 : Code := { maxStack := 5, maxLocals := 5, code := jdk_42_method_150_code, exceptionTable := #[], attributes := #[] }
def k7m12 : Method := { name := "<init>", desc := "(Ljava/lang/AbstractStringBuilder;Ljava/lang/Void;)V", sig := { parameters := [(.object "java/lang/AbstractStringBuilder"), (.object "java/lang/Void")], returnType := none }, accessFlags := 0, code := some k7c12 }
def k7c13 : Code := { maxStack := 1, maxLocals := 1, code := jdk_42_method_152_code, exceptionTable := #[], attributes := #[] }
def k7m13 : Method := { name := "coder", desc := "()B", sig := { parameters := [], returnType := some .byte }, accessFlags := 0, code := some k7c13 }
def k7c14 : Code := { maxStack := 1, maxLocals := 1, code := jdk_42_method_154_code, exceptionTable := #[], attributes := #[] }
def k7m14 : Method := { name := "isLatin1", desc := "()Z", sig := { parameters := [], returnType := some .boolean }, accessFlags := 0, code := some k7c14 }
def k7c15 : Code := { maxStack := 3, maxLocals := 2, code := jdk_42_method_155_code, exceptionTable := #[], attributes := #[] }
def k7m15 : Method := { name := "checkIndex", desc := "(II)V", sig := { parameters := [.int, .int], returnType := none }, accessFlags := 8, code := some k7c15 }
def k7 : Class := { plain "java/lang/String" (some 0) with
  accessFlags := 49
  interfaces := #[2, 3, 4, 5, 6]
  cf := some (fileOf pool7 10 #[.nestMembers #[1103]] #[{ accessFlags := 1, nameIndex := 5, descriptorIndex := 6, attributes := #[] }, { accessFlags := 1, nameIndex := 5, descriptorIndex := 1010, attributes := #[] }, { accessFlags := 1, nameIndex := 5, descriptorIndex := 1233, attributes := #[] }, { accessFlags := 1, nameIndex := 507, descriptorIndex := 334, attributes := #[] }, { accessFlags := 1, nameIndex := 692, descriptorIndex := 142, attributes := #[] }, { accessFlags := 1, nameIndex := 497, descriptorIndex := 427, attributes := #[] }, { accessFlags := 1, nameIndex := 543, descriptorIndex := 573, attributes := #[] }, { accessFlags := 1, nameIndex := 635, descriptorIndex := 765, attributes := #[] }, { accessFlags := 1, nameIndex := 635, descriptorIndex := 636, attributes := #[] }, { accessFlags := 1, nameIndex := 866, descriptorIndex := 464, attributes := #[] }, { accessFlags := 0, nameIndex := 532, descriptorIndex := 821, attributes := #[] }, { accessFlags := 2, nameIndex := 5, descriptorIndex := 29, attributes := #[] }, { accessFlags := 0, nameIndex := 5, descriptorIndex := 491, attributes := #[] }, { accessFlags := 0, nameIndex := 17, descriptorIndex := 337, attributes := #[] }, { accessFlags := 0, nameIndex := 494, descriptorIndex := 142, attributes := #[] }, { accessFlags := 8, nameIndex := 501, descriptorIndex := 391, attributes := #[] }] 49 2 #[1106, 1108, 575, 1110, 1112] #[{ accessFlags := 18, nameIndex := 13, descriptorIndex := 14, attributes := #[] }, { accessFlags := 18, nameIndex := 17, descriptorIndex := 18, attributes := #[] }, { accessFlags := 2, nameIndex := 21, descriptorIndex := 22, attributes := #[] }, { accessFlags := 2, nameIndex := 25, descriptorIndex := 26, attributes := #[] }, { accessFlags := 26, nameIndex := 1116, descriptorIndex := 1117, attributes := #[] }, { accessFlags := 24, nameIndex := 40, descriptorIndex := 26, attributes := #[] }, { accessFlags := 26, nameIndex := 1101, descriptorIndex := 1102, attributes := #[] }, { accessFlags := 26, nameIndex := 1121, descriptorIndex := 1122, attributes := #[] }, { accessFlags := 25, nameIndex := 599, descriptorIndex := 600, attributes := #[] }, { accessFlags := 24, nameIndex := 1125, descriptorIndex := 18, attributes := #[] }, { accessFlags := 24, nameIndex := 1127, descriptorIndex := 18, attributes := #[] }])
  fields := #[{ name := "value", type := (.array .byte), accessFlags := 18, slot := 0, constantValue := 0 }, { name := "coder", type := .byte, accessFlags := 18, slot := 1, constantValue := 0 }, { name := "hash", type := .int, accessFlags := 2, slot := 2, constantValue := 0 }, { name := "hashIsZero", type := .boolean, accessFlags := 2, slot := 3, constantValue := 0 }, { name := "serialVersionUID", type := .long, accessFlags := 26, slot := 0, constantValue := 0 }, { name := "COMPACT_STRINGS", type := .boolean, accessFlags := 24, slot := 1, constantValue := 0 }, { name := "serialPersistentFields", type := (.array (.object "java/io/ObjectStreamField")), accessFlags := 26, slot := 2, constantValue := 0 }, { name := "REPL", type := .char, accessFlags := 26, slot := 3, constantValue := 0 }, { name := "CASE_INSENSITIVE_ORDER", type := (.object "java/util/Comparator"), accessFlags := 25, slot := 4, constantValue := 0 }, { name := "LATIN1", type := .byte, accessFlags := 24, slot := 5, constantValue := 0 }, { name := "UTF16", type := .byte, accessFlags := 24, slot := 6, constantValue := 0 }]
  methods := #[k7m0, k7m1, k7m2, k7m3, k7m4, k7m5, k7m6, k7m7, k7m8, k7m9, k7m10, k7m11, k7m12, k7m13, k7m14, k7m15]
  instanceTypes := #[(.array .byte), .byte, .int, .boolean]
  staticTypes := #[.long, .boolean, (.array (.object "java/io/ObjectStreamField")), .char, (.object "java/util/Comparator"), .byte, .byte]
  resolved := Array.replicate 1451 none
  statics := some 0 }

def pool8 : Array CpInfo := pool [(6, .class_ 8), (1, u "java/lang/Object"), (0, u "<init>"), (0, u "()V"), (1, .class_ 14), (1, u "java/lang/StringUTF16"), (31, u "$assertionsDisabled"), (0, u "Z"), (13, u "HI_BYTE_SHIFT"), (0, u "I"), (2, u "LO_BYTE_SHIFT"), (49, .methodref 12 116), (0, .nameAndType 117 118), (0, u "compress"), (0, u "([CI[BII)I"), (3, u "([CII)[B"), (138, u "coderFromArrayLen"), (0, u "([BI)B"), (106, .class_ 371), (1, u "java/lang/StringUTF16$LinesSpliterator"), (58, u "MAX_LENGTH"), (196, .class_ 628), (0, u "java/lang/StringUTF16$CodePointsSpliterator"), (0, .class_ 630), (0, u "java/lang/StringUTF16$CharsSpliterator")] 4

def k8m0 : Method := { name := "<init>", desc := "()V", sig := { parameters := [], returnType := none }, accessFlags := 0, code := none }
def k8c1 : Code := { maxStack := 2, maxLocals := 2, code := jdk_52_method_15_code, exceptionTable := #[], attributes := #[] }
def k8m1 : Method := { name := "coderFromArrayLen", desc := "([BI)B", sig := { parameters := [(.array .byte), .int], returnType := some .byte }, accessFlags := 8, code := some k8c1 }
def k8c2 : Code := { maxStack := 5, maxLocals := 6, code := jdk_52_method_16_code, exceptionTable := #[], attributes := #[] }
def k8m2 : Method := { name := "compress", desc := "([CII)[B", sig := { parameters := [(.array .char), .int, .int], returnType := some (.array .byte) }, accessFlags := 9, code := some k8c2 }
def k8c3 : Code := { maxStack := 3, maxLocals := 7, code := jdk_52_method_21_code, exceptionTable := #[], attributes := #[] }
def k8m3 : Method := { name := "compress", desc := "([CI[BII)I", sig := { parameters := [(.array .char), .int, (.array .byte), .int, .int], returnType := some .int }, accessFlags := 9, code := some k8c3 }
def k8 : Class := { plain "java/lang/StringUTF16" (some 0) with
  accessFlags := 48
  interfaces := #[]
  cf := some (fileOf pool8 12 #[.nestMembers #[627, 629, 369]] #[{ accessFlags := 0, nameIndex := 9, descriptorIndex := 10, attributes := #[] }, { accessFlags := 8, nameIndex := 261, descriptorIndex := 262, attributes := #[] }, { accessFlags := 9, nameIndex := 117, descriptorIndex := 122, attributes := #[] }, { accessFlags := 9, nameIndex := 117, descriptorIndex := 118, attributes := #[] }] 48 6 #[] #[{ accessFlags := 26, nameIndex := 61, descriptorIndex := 62, attributes := #[] }, { accessFlags := 26, nameIndex := 65, descriptorIndex := 62, attributes := #[] }, { accessFlags := 24, nameIndex := 430, descriptorIndex := 62, attributes := #[] }, { accessFlags := 4120, nameIndex := 46, descriptorIndex := 47, attributes := #[] }])
  fields := #[{ name := "HI_BYTE_SHIFT", type := .int, accessFlags := 26, slot := 0, constantValue := 0 }, { name := "LO_BYTE_SHIFT", type := .int, accessFlags := 26, slot := 1, constantValue := 0 }, { name := "MAX_LENGTH", type := .int, accessFlags := 24, slot := 2, constantValue := 0 }, { name := "$assertionsDisabled", type := .boolean, accessFlags := 4120, slot := 3, constantValue := 0 }]
  methods := #[k8m0, k8m1, k8m2, k8m3]
  instanceTypes := #[]
  staticTypes := #[.int, .int, .int, .boolean]
  resolved := Array.replicate 635 none
  statics := none }

def pool9 : Array CpInfo := pool [(1, .methodref 2 3), (0, .class_ 4), (0, .nameAndType 5 6), (0, u "java/lang/Object"), (0, u "<init>"), (0, u "()V"), (0, .class_ 8), (0, u "java/lang/Record")] 13

def k9c0 : Code := { maxStack := 1, maxLocals := 1, code := jdk_30_method_1_code, exceptionTable := #[], attributes := #[] }
def k9m0 : Method := { name := "<init>", desc := "()V", sig := { parameters := [], returnType := none }, accessFlags := 4, code := some k9c0 }
def k9 : Class := { plain "java/lang/Record" (some 0) with
  accessFlags := 1057
  interfaces := #[]
  cf := some (fileOf pool9 7 #[] #[{ accessFlags := 4, nameIndex := 5, descriptorIndex := 6, attributes := #[] }] 1057 2 #[] #[])
  fields := #[]
  methods := #[k9m0]
  instanceTypes := #[]
  staticTypes := #[]
  resolved := Array.replicate 22 none
  statics := none }

def pool10 : Array CpInfo := pool [(1, .methodref 2 3), (0, .class_ 4), (0, .nameAndType 5 6), (0, u "java/lang/Record"), (0, u "<init>"), (0, u "()V"), (0, .string 8), (0, u "type"), (0, .methodref 10 11), (0, .class_ 12), (0, .nameAndType 13 14), (0, u "com/example/firm_duties/firmduties/BusinessContext"), (0, u "requireToken"), (0, u "(Ljava/lang/String;Ljava/lang/String;)V"), (0, .string 16), (0, u "value"), (0, .fieldref 18 19), (0, .class_ 20), (0, .nameAndType 8 21), (0, u "com/example/firm_duties/firmduties/BusinessContext$Pair"), (0, u "Ljava/lang/String;"), (0, .fieldref 18 23), (0, .nameAndType 16 21), (0, .class_ 25), (0, u "java/lang/StringBuilder"), (0, .methodref 24 3), (0, .methodref 24 28), (0, .nameAndType 29 30), (0, u "append"), (0, u "(Ljava/lang/String;)Ljava/lang/StringBuilder;"), (0, .methodref 24 32), (0, .nameAndType 29 33), (0, u "(C)Ljava/lang/StringBuilder;"), (0, .methodref 24 35), (0, .nameAndType 36 37), (0, u "toString"), (0, u "()Ljava/lang/String;")] 36

def k10c0 : Code := { maxStack := 2, maxLocals := 3, code := prog_3_method_1_code, exceptionTable := #[], attributes := #[] }
def k10m0 : Method := { name := "<init>", desc := "(Ljava/lang/String;Ljava/lang/String;)V", sig := { parameters := [(.object "java/lang/String"), (.object "java/lang/String")], returnType := none }, accessFlags := 1, code := some k10c0 }
def k10c1 : Code := { maxStack := 2, maxLocals := 1, code := prog_3_method_2_code, exceptionTable := #[], attributes := #[] }
def k10m1 : Method := { name := "toString", desc := "()Ljava/lang/String;", sig := { parameters := [], returnType := some (.object "java/lang/String") }, accessFlags := 1, code := some k10c1 }
def k10 : Class := { plain "com/example/firm_duties/firmduties/BusinessContext$Pair" (some 9) with
  accessFlags := 49
  interfaces := #[]
  cf := some (fileOf pool10 18 #[.nestHost 10] #[{ accessFlags := 1, nameIndex := 5, descriptorIndex := 14, attributes := #[] }, { accessFlags := 1, nameIndex := 36, descriptorIndex := 37, attributes := #[] }] 49 2 #[] #[{ accessFlags := 18, nameIndex := 8, descriptorIndex := 21, attributes := #[] }, { accessFlags := 18, nameIndex := 16, descriptorIndex := 21, attributes := #[] }])
  fields := #[{ name := "type", type := (.object "java/lang/String"), accessFlags := 18, slot := 0, constantValue := 0 }, { name := "value", type := (.object "java/lang/String"), accessFlags := 18, slot := 1, constantValue := 0 }]
  methods := #[k10m0, k10m1]
  instanceTypes := #[(.object "java/lang/String"), (.object "java/lang/String")]
  staticTypes := #[]
  resolved := Array.replicate 74 none
  statics := none }

def pool11 : Array CpInfo := pool [(2, .class_ 4), (1, u "java/lang/Record"), (9, .nameAndType 15 16), (0, u "isEmpty"), (0, u "()Z"), (8, .class_ 27), (1, u "com/example/firm_duties/firmduties/BusinessContext"), (0, u "pairs"), (0, u "Ljava/util/List;"), (17, .class_ 48), (0, u "com/example/firm_duties/firmduties/BusinessContext$Pair"), (3, u "Ljava/lang/String;"), (2, .methodref 56 57), (0, .class_ 58), (0, .nameAndType 59 60), (0, u "java/lang/String"), (0, u "equals"), (0, u "(Ljava/lang/Object;)Z"), (16, u "()Ljava/lang/String;"), (6, .methodref 85 86), (0, .class_ 87), (0, .nameAndType 88 89), (0, u "java/util/Objects"), (0, u "requireNonNull"), (0, u "(Ljava/lang/Object;Ljava/lang/String;)Ljava/lang/Object;"), (9, .methodref 56 100), (0, .nameAndType 101 102), (0, u "indexOf"), (0, u "(I)I"), (0, .methodref 56 104), (0, .nameAndType 105 77), (0, u "strip"), (11, u "(Ljava/lang/String;Ljava/lang/String;)V"), (57, .methodref 56 14), (21, u "ANY"), (1, u "EACH"), (10, u "requireToken")] 36

def k11c0 : Code := { maxStack := 4, maxLocals := 2, code := prog_2_method_7_code, exceptionTable := #[], attributes := #[] }
def k11m0 : Method := { name := "requireToken", desc := "(Ljava/lang/String;Ljava/lang/String;)V", sig := { parameters := [(.object "java/lang/String"), (.object "java/lang/String")], returnType := none }, accessFlags := 10, code := some k11c0 }
def k11 : Class := { plain "com/example/firm_duties/firmduties/BusinessContext" (some 9) with
  accessFlags := 49
  interfaces := #[]
  cf := some (fileOf pool11 25 #[.nestMembers #[47]] #[{ accessFlags := 10, nameIndex := 210, descriptorIndex := 117, attributes := #[] }] 49 2 #[] #[{ accessFlags := 18, nameIndex := 28, descriptorIndex := 29, attributes := #[] }, { accessFlags := 25, nameIndex := 197, descriptorIndex := 52, attributes := #[] }, { accessFlags := 25, nameIndex := 199, descriptorIndex := 52, attributes := #[] }])
  fields := #[{ name := "pairs", type := (.object "java/util/List"), accessFlags := 18, slot := 0, constantValue := 0 }, { name := "ANY", type := (.object "java/lang/String"), accessFlags := 25, slot := 0, constantValue := 0 }, { name := "EACH", type := (.object "java/lang/String"), accessFlags := 25, slot := 1, constantValue := 0 }]
  methods := #[k11m0]
  instanceTypes := #[(.object "java/util/List")]
  staticTypes := #[(.object "java/lang/String"), (.object "java/lang/String")]
  resolved := Array.replicate 247 none
  statics := none }

def pool12 : Array CpInfo := pool [(2, .class_ 4), (1, u "java/lang/Object"), (0, u "<init>"), (0, u "()V"), (35, .class_ 44), (1, u "java/util/Objects"), (0, u "requireNonNull"), (48, u "(Ljava/lang/Object;Ljava/lang/String;)Ljava/lang/Object;")] 89

def k12m0 : Method := { name := "<init>", desc := "()V", sig := { parameters := [], returnType := none }, accessFlags := 2, code := none }
def k12c1 : Code := { maxStack := 3, maxLocals := 2, code := jdk_31_method_11_code, exceptionTable := #[], attributes := #[] }
def k12m1 : Method := { name := "requireNonNull", desc := "(Ljava/lang/Object;Ljava/lang/String;)Ljava/lang/Object;", sig := { parameters := [(.object "java/lang/Object"), (.object "java/lang/String")], returnType := some (.object "java/lang/Object") }, accessFlags := 9, code := some k12c1 }
def k12 : Class := { plain "java/util/Objects" (some 0) with
  accessFlags := 49
  interfaces := #[]
  cf := some (fileOf pool12 42 #[] #[{ accessFlags := 2, nameIndex := 5, descriptorIndex := 6, attributes := #[] }, { accessFlags := 9, nameIndex := 45, descriptorIndex := 94, attributes := #[] }] 49 2 #[] #[])
  fields := #[]
  methods := #[k12m0, k12m1]
  instanceTypes := #[]
  staticTypes := #[]
  resolved := Array.replicate 184 none
  statics := none }

def pool13 : Array CpInfo := pool [(1, .class_ 2), (0, u "java/lang/String"), (1, .class_ 6), (1, u "java/lang/Object"), (0, u "<init>"), (0, u "()V"), (0, .methodref 1 10), (0, .nameAndType 11 12), (0, u "checkIndex"), (0, u "(II)V"), (1, .class_ 16), (1, u "java/lang/StringLatin1"), (21, .methodref 39 40), (0, .class_ 41), (0, .nameAndType 42 43), (0, u "java/lang/Math"), (0, u "min"), (0, u "(II)I"), (6, .methodref 14 51), (0, .nameAndType 52 53), (0, u "getChar"), (0, u "([BI)C"), (3, u "([B)I"), (8, .fieldref 67 68), (0, .class_ 69), (0, .nameAndType 70 71), (0, u "java/lang/CharacterDataLatin1"), (0, u "instance"), (0, u "Ljava/lang/CharacterDataLatin1;"), (16, .methodref 14 89), (0, .nameAndType 90 91), (0, u "canEncode"), (0, u "(I)Z"), (0, .methodref 39 93), (0, .nameAndType 94 43), (0, u "max"), (0, .methodref 14 96), (0, .nameAndType 97 98), (0, u "indexOfChar"), (0, u "([BIII)I"), (2, u "indexOf"), (3, u "(C)Z"), (15, u "$assertionsDisabled"), (0, u "Z"), (88, .methodref 67 212), (0, .nameAndType 213 91), (0, u "isWhitespace"), (0, .methodref 14 215), (0, .nameAndType 216 57), (0, u "indexOfNonWhitespace"), (0, .methodref 14 218), (0, .nameAndType 219 57), (0, u "lastIndexOfNonWhitespace"), (1, .class_ 223), (1, u "java/lang/StringLatin1$LinesSpliterator"), (28, u "charAt"), (114, u "([B)Ljava/lang/String;"), (3, u "strip"), (18, .class_ 391), (0, u "java/lang/StringLatin1$CharsSpliterator")] 3

def k13m0 : Method := { name := "<init>", desc := "()V", sig := { parameters := [], returnType := none }, accessFlags := 0, code := none }
def k13c1 : Code := { maxStack := 2, maxLocals := 2, code := jdk_43_method_2_code, exceptionTable := #[], attributes := #[] }
def k13m1 : Method := { name := "charAt", desc := "([BI)C", sig := { parameters := [(.array .byte), .int], returnType := some .char }, accessFlags := 9, code := some k13c1 }
def k13c2 : Code := { maxStack := 2, maxLocals := 1, code := jdk_43_method_3_code, exceptionTable := #[], attributes := #[] }
def k13m2 : Method := { name := "canEncode", desc := "(C)Z", sig := { parameters := [.char], returnType := some .boolean }, accessFlags := 9, code := some k13c2 }
def k13c3 : Code := { maxStack := 2, maxLocals := 1, code := jdk_43_method_4_code, exceptionTable := #[], attributes := #[] }
def k13m3 : Method := { name := "canEncode", desc := "(I)Z", sig := { parameters := [.int], returnType := some .boolean }, accessFlags := 9, code := some k13c3 }
def k13c4 : Code := { maxStack := 4, maxLocals := 4, code := jdk_43_method_22_code, exceptionTable := #[], attributes := #[] }
def k13m4 : Method := { name := "indexOf", desc := "([BIII)I", sig := { parameters := [(.array .byte), .int, .int, .int], returnType := some .int }, accessFlags := 9, code := some k13c4 }
def k13c5 : Code := { maxStack := 2, maxLocals := 6, code := jdk_43_method_23_code, exceptionTable := #[], attributes := #[] }
def k13m5 : Method := { name := "indexOfChar", desc := "([BIII)I", sig := { parameters := [(.array .byte), .int, .int, .int], returnType := some .int }, accessFlags := 10, code := some k13c5 }
def k13c6 : Code := { maxStack := 2, maxLocals := 4, code := jdk_43_method_37_code, exceptionTable := #[], attributes := #[] }
def k13m6 : Method := { name := "indexOfNonWhitespace", desc := "([B)I", sig := { parameters := [(.array .byte)], returnType := some .int }, accessFlags := 9, code := some k13c6 }
def k13c7 : Code := { maxStack := 3, maxLocals := 4, code := jdk_43_method_38_code, exceptionTable := #[], attributes := #[] }
def k13m7 : Method := { name := "lastIndexOfNonWhitespace", desc := "([B)I", sig := { parameters := [(.array .byte)], returnType := some .int }, accessFlags := 9, code := some k13c7 }
def k13c8 : Code := { maxStack := 4, maxLocals := 4, code := jdk_43_method_39_code, exceptionTable := #[], attributes := #[] }
def k13m8 : Method := { name := "strip", desc := "([B)Ljava/lang/String;", sig := { parameters := [(.array .byte)], returnType := some (.object "java/lang/String") }, accessFlags := 9, code := some k13c8 }
def k13c9 : Code := { maxStack := 2, maxLocals := 2, code := jdk_43_method_44_code, exceptionTable := #[], attributes := #[] }
def k13m9 : Method := { name := "getChar", desc := "([BI)C", sig := { parameters := [(.array .byte), .int], returnType := some .char }, accessFlags := 9, code := some k13c9 }
def k13 : Class := { plain "java/lang/StringLatin1" (some 0) with
  accessFlags := 48
  interfaces := #[]
  cf := some (fileOf pool13 14 #[.nestMembers #[390, 221]] #[{ accessFlags := 0, nameIndex := 7, descriptorIndex := 8, attributes := #[] }, { accessFlags := 9, nameIndex := 252, descriptorIndex := 53, attributes := #[] }, { accessFlags := 9, nameIndex := 90, descriptorIndex := 105, attributes := #[] }, { accessFlags := 9, nameIndex := 90, descriptorIndex := 91, attributes := #[] }, { accessFlags := 9, nameIndex := 101, descriptorIndex := 98, attributes := #[] }, { accessFlags := 10, nameIndex := 97, descriptorIndex := 98, attributes := #[] }, { accessFlags := 9, nameIndex := 216, descriptorIndex := 57, attributes := #[] }, { accessFlags := 9, nameIndex := 219, descriptorIndex := 57, attributes := #[] }, { accessFlags := 9, nameIndex := 371, descriptorIndex := 367, attributes := #[] }, { accessFlags := 9, nameIndex := 52, descriptorIndex := 53, attributes := #[] }] 48 4 #[] #[{ accessFlags := 4120, nameIndex := 121, descriptorIndex := 122, attributes := #[] }])
  fields := #[{ name := "$assertionsDisabled", type := .boolean, accessFlags := 4120, slot := 0, constantValue := 0 }]
  methods := #[k13m0, k13m1, k13m2, k13m3, k13m4, k13m5, k13m6, k13m7, k13m8, k13m9]
  instanceTypes := #[]
  staticTypes := #[.boolean]
  resolved := Array.replicate 395 none
  statics := none }

def pool14 : Array CpInfo := pool [(2, .class_ 4), (1, u "java/lang/Object"), (0, u "<init>"), (0, u "()V"), (1, .class_ 10), (1, u "java/lang/CharacterData")] 75

def k14m0 : Method := { name := "<init>", desc := "()V", sig := { parameters := [], returnType := none }, accessFlags := 0, code := none }
def k14 : Class := { plain "java/lang/CharacterData" (some 0) with
  accessFlags := 1056
  interfaces := #[]
  cf := some (fileOf pool14 8 #[] #[{ accessFlags := 0, nameIndex := 5, descriptorIndex := 6, attributes := #[] }] 1056 2 #[] #[])
  fields := #[]
  methods := #[k14m0]
  instanceTypes := #[]
  staticTypes := #[]
  resolved := Array.replicate 86 none
  statics := none }

def pool15 : Array CpInfo := pool [(1, .fieldref 2 3), (0, .class_ 4), (0, .nameAndType 5 6), (0, u "java/lang/CharacterDataLatin1"), (0, u "A"), (0, u "[I"), (2, u "B"), (0, u "[C"), (3, u "(I)I"), (0, .methodref 2 16), (0, .nameAndType 17 14), (0, u "getProperties"), (3, u "(I)Z"), (5, u "DIGITS"), (0, u "[B"), (8, u "sharpsMap"), (1, .class_ 41), (1, u "java/lang/CharacterData"), (0, u "<init>"), (0, u "()V"), (3, u "instance"), (0, u "Ljava/lang/CharacterDataLatin1;"), (78, u "isWhitespace")] 13

def k15c0 : Code := { maxStack := 2, maxLocals := 4, code := jdk_116_method_1_code, exceptionTable := #[], attributes := #[] }
def k15m0 : Method := { name := "getProperties", desc := "(I)I", sig := { parameters := [.int], returnType := some .int }, accessFlags := 0, code := some k15c0 }
def k15c1 : Code := { maxStack := 2, maxLocals := 3, code := jdk_116_method_26_code, exceptionTable := #[], attributes := #[] }
def k15m1 : Method := { name := "isWhitespace", desc := "(I)Z", sig := { parameters := [.int], returnType := some .boolean }, accessFlags := 0, code := some k15c1 }
def k15m2 : Method := { name := "<init>", desc := "()V", sig := { parameters := [], returnType := none }, accessFlags := 2, code := none }
def k15 : Class := { plain "java/lang/CharacterDataLatin1" (some 14) with
  accessFlags := 32
  interfaces := #[]
  cf := some (fileOf pool15 2 #[] #[{ accessFlags := 0, nameIndex := 17, descriptorIndex := 14, attributes := #[] }, { accessFlags := 0, nameIndex := 127, descriptorIndex := 21, attributes := #[] }, { accessFlags := 2, nameIndex := 42, descriptorIndex := 43, attributes := #[] }] 32 39 #[] #[{ accessFlags := 26, nameIndex := 27, descriptorIndex := 28, attributes := #[] }, { accessFlags := 8, nameIndex := 37, descriptorIndex := 10, attributes := #[] }, { accessFlags := 24, nameIndex := 47, descriptorIndex := 48, attributes := #[] }, { accessFlags := 24, nameIndex := 5, descriptorIndex := 6, attributes := #[] }, { accessFlags := 24, nameIndex := 9, descriptorIndex := 10, attributes := #[] }])
  fields := #[{ name := "DIGITS", type := (.array .byte), accessFlags := 26, slot := 0, constantValue := 0 }, { name := "sharpsMap", type := (.array .char), accessFlags := 8, slot := 1, constantValue := 0 }, { name := "instance", type := (.object "java/lang/CharacterDataLatin1"), accessFlags := 24, slot := 2, constantValue := 0 }, { name := "A", type := (.array .int), accessFlags := 24, slot := 3, constantValue := 0 }, { name := "B", type := (.array .char), accessFlags := 24, slot := 4, constantValue := 0 }]
  methods := #[k15m0, k15m1, k15m2]
  instanceTypes := #[]
  staticTypes := #[(.array .byte), (.array .char), (.object "java/lang/CharacterDataLatin1"), (.array .int), (.array .char)]
  resolved := Array.replicate 141 none
  statics := some 1 }

def pool16 : Array CpInfo := pool [(1, .class_ 2), (0, u "java/lang/Math"), (1, .class_ 6), (1, u "java/lang/Object"), (0, u "<init>"), (0, u "()V"), (89, .class_ 100), (1, u "java/lang/Math$RandomNumberGeneratorHolder"), (71, u "negativeZeroFloatBits"), (0, u "J"), (2, u "negativeZeroDoubleBits"), (21, u "max"), (2, u "min"), (43, u "$assertionsDisabled"), (0, u "Z"), (88, u "(II)I"), (2, u "twoToTheDoubleScaleDown"), (0, u "D"), (4, u "twoToTheDoubleScaleUp"), (9, u "E"), (3, u "PI"), (2, u "TAU"), (2, u "DEGREES_TO_RADIANS"), (0, u "RADIANS_TO_DEGREES")] 94

def k16m0 : Method := { name := "<init>", desc := "()V", sig := { parameters := [], returnType := none }, accessFlags := 2, code := none }
def k16c1 : Code := { maxStack := 2, maxLocals := 2, code := jdk_29_method_65_code, exceptionTable := #[], attributes := #[] }
def k16m1 : Method := { name := "max", desc := "(II)I", sig := { parameters := [.int, .int], returnType := some .int }, accessFlags := 9, code := some k16c1 }
def k16c2 : Code := { maxStack := 2, maxLocals := 2, code := jdk_29_method_69_code, exceptionTable := #[], attributes := #[] }
def k16m2 : Method := { name := "min", desc := "(II)I", sig := { parameters := [.int, .int], returnType := some .int }, accessFlags := 9, code := some k16c2 }
def k16 : Class := { plain "java/lang/Math" (some 0) with
  accessFlags := 49
  interfaces := #[]
  cf := some (fileOf pool16 1 #[.nestMembers #[98]] #[{ accessFlags := 2, nameIndex := 7, descriptorIndex := 8, attributes := #[] }, { accessFlags := 9, nameIndex := 198, descriptorIndex := 335, attributes := #[] }, { accessFlags := 9, nameIndex := 201, descriptorIndex := 335, attributes := #[] }] 49 4 #[] #[{ accessFlags := 25, nameIndex := 354, descriptorIndex := 339, attributes := #[] }, { accessFlags := 25, nameIndex := 358, descriptorIndex := 339, attributes := #[] }, { accessFlags := 25, nameIndex := 361, descriptorIndex := 339, attributes := #[] }, { accessFlags := 26, nameIndex := 364, descriptorIndex := 339, attributes := #[] }, { accessFlags := 26, nameIndex := 365, descriptorIndex := 339, attributes := #[] }, { accessFlags := 26, nameIndex := 172, descriptorIndex := 173, attributes := #[] }, { accessFlags := 26, nameIndex := 176, descriptorIndex := 173, attributes := #[] }, { accessFlags := 8, nameIndex := 344, descriptorIndex := 339, attributes := #[] }, { accessFlags := 8, nameIndex := 338, descriptorIndex := 339, attributes := #[] }, { accessFlags := 4120, nameIndex := 245, descriptorIndex := 246, attributes := #[] }])
  fields := #[{ name := "E", type := .double, accessFlags := 25, slot := 0, constantValue := 0 }, { name := "PI", type := .double, accessFlags := 25, slot := 1, constantValue := 0 }, { name := "TAU", type := .double, accessFlags := 25, slot := 2, constantValue := 0 }, { name := "DEGREES_TO_RADIANS", type := .double, accessFlags := 26, slot := 3, constantValue := 0 }, { name := "RADIANS_TO_DEGREES", type := .double, accessFlags := 26, slot := 4, constantValue := 0 }, { name := "negativeZeroFloatBits", type := .long, accessFlags := 26, slot := 5, constantValue := 0 }, { name := "negativeZeroDoubleBits", type := .long, accessFlags := 26, slot := 6, constantValue := 0 }, { name := "twoToTheDoubleScaleUp", type := .double, accessFlags := 8, slot := 7, constantValue := 0 }, { name := "twoToTheDoubleScaleDown", type := .double, accessFlags := 8, slot := 8, constantValue := 0 }, { name := "$assertionsDisabled", type := .boolean, accessFlags := 4120, slot := 9, constantValue := 0 }]
  methods := #[k16m0, k16m1, k16m2]
  instanceTypes := #[]
  staticTypes := #[.double, .double, .double, .double, .double, .long, .long, .double, .double, .boolean]
  resolved := Array.replicate 460 none
  statics := none }

def pool17 : Array CpInfo := pool [(1, .class_ 2), (0, u "java/lang/Appendable"), (0, .class_ 4), (0, u "java/lang/Object")] 9

def k17 : Class := { plain "java/lang/Appendable" (some 0) with
  accessFlags := 1537
  interfaces := #[]
  cf := some (fileOf pool17 1 #[] #[] 1537 3 #[] #[])
  fields := #[]
  methods := #[]
  instanceTypes := #[]
  staticTypes := #[]
  resolved := Array.replicate 14 none
  statics := none }

def pool18 : Array CpInfo := pool [(1, .class_ 2), (0, u "java/lang/String"), (0, .methodref 4 5), (0, .class_ 6), (0, .nameAndType 7 8), (0, u "java/lang/Object"), (0, u "<init>"), (0, u "()V"), (1, .class_ 12), (1, u "java/lang/AbstractStringBuilder"), (0, u "EMPTYVALUE"), (0, u "[B"), (0, .fieldref 10 16), (0, .nameAndType 17 14), (0, u "value"), (0, .fieldref 1 19), (0, .nameAndType 20 21), (0, u "COMPACT_STRINGS"), (0, u "Z"), (0, .fieldref 10 23), (0, .nameAndType 24 25), (0, u "coder"), (0, u "B"), (6, .methodref 1 33), (0, .nameAndType 34 35), (0, u "length"), (0, u "()I"), (4, .methodref 1 41), (0, .nameAndType 24 42), (0, u "()B"), (2, u "append"), (0, u "(Ljava/lang/String;)Ljava/lang/AbstractStringBuilder;"), (1, .class_ 49), (0, u "java/lang/CharSequence"), (19, u "(Ljava/lang/String;)V"), (5, u "maybeLatin1"), (3, .fieldref 10 80), (0, .nameAndType 81 82), (0, u "count"), (0, u "I"), (0, .methodref 10 84), (0, .nameAndType 85 86), (0, u "isLatin1"), (0, u "()Z"), (1, .class_ 90), (1, u "java/lang/StringLatin1"), (9, .methodref 10 101), (0, .nameAndType 102 103), (0, u "ensureCapacityInternal"), (0, u "(I)V"), (87, .methodref 88 192), (0, .nameAndType 193 194), (0, u "canEncode"), (0, u "(C)Z"), (13, .methodref 10 209), (0, .nameAndType 210 211), (0, u "putStringAt"), (0, u "(ILjava/lang/String;)V"), (5, u "inflateIfNeededFor"), (2, .nameAndType 221 222), (0, u "getBytes"), (0, u "([BIB)V"), (69, u "(C)Ljava/lang/AbstractStringBuilder;"), (104, .methodref 10 398), (0, .nameAndType 217 69), (0, .methodref 1 220), (3, u "()[B"), (40, .class_ 445), (0, u "java/lang/Appendable"), (106, u "getValue")] 56

def k18m0 : Method := { name := "<init>", desc := "()V", sig := { parameters := [], returnType := none }, accessFlags := 0, code := none }
def k18c1 : Code := { maxStack := 2, maxLocals := 2, code := jdk_68_method_2_code, exceptionTable := #[], attributes := #[] }
def k18m1 : Method := { name := "<init>", desc := "(I)V", sig := { parameters := [.int], returnType := none }, accessFlags := 0, code := some k18c1 }
def k18c2 : Code := { maxStack := 1, maxLocals := 1, code := jdk_68_method_6_code, exceptionTable := #[], attributes := #[] }
def k18m2 : Method := { name := "length", desc := "()I", sig := { parameters := [], returnType := some .int }, accessFlags := 1, code := some k18c2 }
def k18c3 : Code := { maxStack := 4, maxLocals := 3, code := jdk_68_method_9_code, exceptionTable := #[], attributes := #[] }
def k18m3 : Method := { name := "ensureCapacityInternal", desc := "(I)V", sig := { parameters := [.int], returnType := none }, accessFlags := 2, code := some k18c3 }
def k18c4 : Code := { maxStack := 3, maxLocals := 3, code := jdk_68_method_22_code, exceptionTable := #[], attributes := #[] }
def k18m4 : Method := { name := "append", desc := "(Ljava/lang/String;)Ljava/lang/AbstractStringBuilder;", sig := { parameters := [(.object "java/lang/String")], returnType := some (.object "java/lang/AbstractStringBuilder") }, accessFlags := 1, code := some k18c4 }
def k18c5 : Code := { maxStack := 5, maxLocals := 2, code := jdk_68_method_31_code, exceptionTable := #[], attributes := #[] }
def k18m5 : Method := { name := "append", desc := "(C)Ljava/lang/AbstractStringBuilder;", sig := { parameters := [.char], returnType := some (.object "java/lang/AbstractStringBuilder") }, accessFlags := 1, code := some k18c5 }
def k18c6 : Code := { maxStack := 1, maxLocals := 1, code := jdk_68_method_64_code, exceptionTable := #[], attributes := #[] }
def k18m6 : Method := { name := "getValue", desc := "()[B", sig := { parameters := [], returnType := some (.array .byte) }, accessFlags := 16, code := some k18c6 }
def k18c7 : Code := { maxStack := 1, maxLocals := 1, code := jdk_68_method_68_code, exceptionTable := #[], attributes := #[] }
def k18m7 : Method := { name := "isLatin1", desc := "()Z", sig := { parameters := [], returnType := some .boolean }, accessFlags := 16, code := some k18c7 }
def k18c8 : Code := { maxStack := 2, maxLocals := 2, code := jdk_68_method_71_code, exceptionTable := #[], attributes := #[] }
def k18m8 : Method := { name := "inflateIfNeededFor", desc := "(Ljava/lang/String;)V", sig := { parameters := [(.object "java/lang/String")], returnType := none }, accessFlags := 2, code := some k18c8 }
def k18c9 : Code := { maxStack := 4, maxLocals := 3, code := jdk_68_method_73_code, exceptionTable := #[], attributes := #[] }
def k18m9 : Method := { name := "putStringAt", desc := "(ILjava/lang/String;)V", sig := { parameters := [.int, (.object "java/lang/String")], returnType := none }, accessFlags := 2, code := some k18c9 }
def k18 : Class := { plain "java/lang/AbstractStringBuilder" (some 0) with
  accessFlags := 1056
  interfaces := #[17, 4]
  cf := some (fileOf pool18 10 #[] #[{ accessFlags := 0, nameIndex := 7, descriptorIndex := 8, attributes := #[] }, { accessFlags := 0, nameIndex := 7, descriptorIndex := 103, attributes := #[] }, { accessFlags := 1, nameIndex := 34, descriptorIndex := 35, attributes := #[] }, { accessFlags := 2, nameIndex := 102, descriptorIndex := 103, attributes := #[] }, { accessFlags := 1, nameIndex := 45, descriptorIndex := 46, attributes := #[] }, { accessFlags := 1, nameIndex := 45, descriptorIndex := 292, attributes := #[] }, { accessFlags := 16, nameIndex := 552, descriptorIndex := 403, attributes := #[] }, { accessFlags := 16, nameIndex := 85, descriptorIndex := 86, attributes := #[] }, { accessFlags := 2, nameIndex := 217, descriptorIndex := 69, attributes := #[] }, { accessFlags := 2, nameIndex := 210, descriptorIndex := 211, attributes := #[] }] 1056 4 #[444, 48] #[{ accessFlags := 0, nameIndex := 17, descriptorIndex := 14, attributes := #[] }, { accessFlags := 0, nameIndex := 24, descriptorIndex := 25, attributes := #[] }, { accessFlags := 0, nameIndex := 75, descriptorIndex := 21, attributes := #[] }, { accessFlags := 0, nameIndex := 81, descriptorIndex := 82, attributes := #[] }, { accessFlags := 26, nameIndex := 13, descriptorIndex := 14, attributes := #[] }])
  fields := #[{ name := "value", type := (.array .byte), accessFlags := 0, slot := 0, constantValue := 0 }, { name := "coder", type := .byte, accessFlags := 0, slot := 1, constantValue := 0 }, { name := "maybeLatin1", type := .boolean, accessFlags := 0, slot := 2, constantValue := 0 }, { name := "count", type := .int, accessFlags := 0, slot := 3, constantValue := 0 }, { name := "EMPTYVALUE", type := (.array .byte), accessFlags := 26, slot := 0, constantValue := 0 }]
  methods := #[k18m0, k18m1, k18m2, k18m3, k18m4, k18m5, k18m6, k18m7, k18m8, k18m9]
  instanceTypes := #[(.array .byte), .byte, .boolean, .int]
  staticTypes := #[(.array .byte)]
  resolved := Array.replicate 609 none
  statics := none }

def pool19 : Array CpInfo := pool [(1, .methodref 2 3), (0, .class_ 4), (0, .nameAndType 5 6), (0, u "java/lang/AbstractStringBuilder"), (0, u "<init>"), (0, u "(I)V"), (11, .class_ 20), (1, u "java/lang/String"), (3, .class_ 26), (1, u "java/lang/StringBuilder"), (0, u "append"), (0, u "(Ljava/lang/String;)Ljava/lang/StringBuilder;"), (0, .methodref 2 30), (0, .nameAndType 27 31), (0, u "(Ljava/lang/String;)Ljava/lang/AbstractStringBuilder;"), (18, .methodref 2 51), (0, .nameAndType 27 52), (0, u "(C)Ljava/lang/AbstractStringBuilder;"), (84, .methodref 18 138), (0, .nameAndType 5 139), (0, u "(Ljava/lang/StringBuilder;)V"), (5, u "()V"), (10, u "()I"), (129, u "(C)Ljava/lang/StringBuilder;"), (56, .methodref 2 344), (0, .nameAndType 345 156), (0, u "length"), (3, .class_ 350), (0, u "java/lang/Appendable"), (0, .class_ 352), (0, u "java/io/Serializable"), (0, .class_ 354), (0, u "java/lang/Comparable"), (0, .class_ 356), (0, u "java/lang/CharSequence"), (0, u "serialVersionUID"), (0, u "J"), (40, u "toString"), (0, u "()Ljava/lang/String;")] 21

def k19c0 : Code := { maxStack := 2, maxLocals := 1, code := jdk_67_method_1_code, exceptionTable := #[], attributes := #[] }
def k19m0 : Method := { name := "<init>", desc := "()V", sig := { parameters := [], returnType := none }, accessFlags := 1, code := some k19c0 }
def k19c1 : Code := { maxStack := 2, maxLocals := 2, code := jdk_67_method_7_code, exceptionTable := #[], attributes := #[] }
def k19m1 : Method := { name := "append", desc := "(Ljava/lang/String;)Ljava/lang/StringBuilder;", sig := { parameters := [(.object "java/lang/String")], returnType := some (.object "java/lang/StringBuilder") }, accessFlags := 1, code := some k19c1 }
def k19c2 : Code := { maxStack := 2, maxLocals := 2, code := jdk_67_method_14_code, exceptionTable := #[], attributes := #[] }
def k19m2 : Method := { name := "append", desc := "(C)Ljava/lang/StringBuilder;", sig := { parameters := [.char], returnType := some (.object "java/lang/StringBuilder") }, accessFlags := 1, code := some k19c2 }
def k19c3 : Code := { maxStack := 3, maxLocals := 1, code := jdk_67_method_42_code, exceptionTable := #[], attributes := #[] }
def k19m3 : Method := { name := "toString", desc := "()Ljava/lang/String;", sig := { parameters := [], returnType := some (.object "java/lang/String") }, accessFlags := 1, code := some k19c3 }
def k19c4 : Code := { maxStack := 1, maxLocals := 1, code := jdk_67_method_93_code, exceptionTable := #[], attributes := #[] }
def k19m4 : Method := { name := "length", desc := "()I", sig := { parameters := [], returnType := some .int }, accessFlags := 4161, code := some k19c4 }
def k19 : Class := { plain "java/lang/StringBuilder" (some 18) with
  accessFlags := 49
  interfaces := #[17, 2, 3, 4]
  cf := some (fileOf pool19 24 #[] #[{ accessFlags := 1, nameIndex := 5, descriptorIndex := 145, attributes := #[] }, { accessFlags := 1, nameIndex := 27, descriptorIndex := 28, attributes := #[] }, { accessFlags := 1, nameIndex := 27, descriptorIndex := 286, attributes := #[] }, { accessFlags := 1, nameIndex := 399, descriptorIndex := 400, attributes := #[] }, { accessFlags := 4161, nameIndex := 345, descriptorIndex := 156, attributes := #[] }] 49 2 #[349, 351, 353, 355] #[{ accessFlags := 24, nameIndex := 357, descriptorIndex := 358, attributes := #[] }])
  fields := #[{ name := "serialVersionUID", type := .long, accessFlags := 24, slot := 0, constantValue := 0 }]
  methods := #[k19m0, k19m1, k19m2, k19m3, k19m4]
  instanceTypes := #[(.array .byte), .byte, .boolean, .int]
  staticTypes := #[.long]
  resolved := Array.replicate 422 none
  statics := none }

def pool20 : Array CpInfo := pool [(2, .class_ 4), (1, u "java/lang/Object"), (0, u "<init>"), (0, u "()V"), (1, .class_ 10), (1, u "java/lang/System"), (0, u "allowSecurityManager"), (0, u "I"), (16, u "cons"), (0, u "Ljava/io/Console;"), (77, .class_ 110), (1, u "java/lang/System$CallersHolder"), (43, u "initialErrStream"), (0, u "Ljava/io/PrintStream;"), (19, u "security"), (0, u "Ljava/lang/SecurityManager;"), (31, .class_ 209), (0, u "java/lang/System$1"), (7, u "props"), (0, u "Ljava/util/Properties;"), (2, u "lineSeparator"), (0, u "Ljava/lang/String;"), (96, .class_ 321), (1, u "java/lang/System$LoggerFinder"), (5, .class_ 328), (0, u "java/lang/System$Logger"), (67, u "err"), (2, u "out"), (91, u "notSupportedJnuEncoding"), (15, u "in"), (17, u "initialIn"), (0, u "Ljava/io/InputStream;"), (35, u "bootLayer"), (0, u "Ljava/lang/ModuleLayer;"), (99, .class_ 664), (0, u "java/lang/System$2"), (9, u "NEVER"), (2, u "MAYBE"), (49, u "arraycopy"), (0, u "(Ljava/lang/Object;ILjava/lang/Object;II)V"), (72, .class_ 802), (0, u "java/lang/System$Logger$Level")] 31

def k20m0 : Method := { name := "<init>", desc := "()V", sig := { parameters := [], returnType := none }, accessFlags := 2, code := none }
def k20m1 : Method := { name := "arraycopy", desc := "(Ljava/lang/Object;ILjava/lang/Object;II)V", sig := { parameters := [(.object "java/lang/Object"), .int, (.object "java/lang/Object"), .int, .int], returnType := none }, accessFlags := 265, code := none }
def k20 : Class := { plain "java/lang/System" (some 0) with
  accessFlags := 49
  interfaces := #[]
  cf := some (fileOf pool20 8 #[.nestMembers #[319, 327, 801, 108, 663, 208]] #[{ accessFlags := 2, nameIndex := 5, descriptorIndex := 6, attributes := #[] }, { accessFlags := 265, nameIndex := 727, descriptorIndex := 728, attributes := #[] }] 49 2 #[] #[{ accessFlags := 25, nameIndex := 507, descriptorIndex := 526, attributes := #[] }, { accessFlags := 25, nameIndex := 399, descriptorIndex := 155, attributes := #[] }, { accessFlags := 25, nameIndex := 396, descriptorIndex := 155, attributes := #[] }, { accessFlags := 10, nameIndex := 525, descriptorIndex := 526, attributes := #[] }, { accessFlags := 26, nameIndex := 674, descriptorIndex := 12, attributes := #[] }, { accessFlags := 26, nameIndex := 677, descriptorIndex := 12, attributes := #[] }, { accessFlags := 10, nameIndex := 11, descriptorIndex := 12, attributes := #[] }, { accessFlags := 74, nameIndex := 175, descriptorIndex := 176, attributes := #[] }, { accessFlags := 10, nameIndex := 491, descriptorIndex := 222, attributes := #[] }, { accessFlags := 74, nameIndex := 29, descriptorIndex := 30, attributes := #[] }, { accessFlags := 74, nameIndex := 154, descriptorIndex := 155, attributes := #[] }, { accessFlags := 10, nameIndex := 217, descriptorIndex := 218, attributes := #[] }, { accessFlags := 10, nameIndex := 221, descriptorIndex := 222, attributes := #[] }, { accessFlags := 8, nameIndex := 562, descriptorIndex := 563, attributes := #[] }])
  fields := #[{ name := "in", type := (.object "java/io/InputStream"), accessFlags := 25, slot := 0, constantValue := 0 }, { name := "out", type := (.object "java/io/PrintStream"), accessFlags := 25, slot := 1, constantValue := 0 }, { name := "err", type := (.object "java/io/PrintStream"), accessFlags := 25, slot := 2, constantValue := 0 }, { name := "initialIn", type := (.object "java/io/InputStream"), accessFlags := 10, slot := 3, constantValue := 0 }, { name := "NEVER", type := .int, accessFlags := 26, slot := 4, constantValue := 0 }, { name := "MAYBE", type := .int, accessFlags := 26, slot := 5, constantValue := 0 }, { name := "allowSecurityManager", type := .int, accessFlags := 10, slot := 6, constantValue := 0 }, { name := "security", type := (.object "java/lang/SecurityManager"), accessFlags := 74, slot := 7, constantValue := 0 }, { name := "notSupportedJnuEncoding", type := (.object "java/lang/String"), accessFlags := 10, slot := 8, constantValue := 0 }, { name := "cons", type := (.object "java/io/Console"), accessFlags := 74, slot := 9, constantValue := 0 }, { name := "initialErrStream", type := (.object "java/io/PrintStream"), accessFlags := 74, slot := 10, constantValue := 0 }, { name := "props", type := (.object "java/util/Properties"), accessFlags := 10, slot := 11, constantValue := 0 }, { name := "lineSeparator", type := (.object "java/lang/String"), accessFlags := 10, slot := 12, constantValue := 0 }, { name := "bootLayer", type := (.object "java/lang/ModuleLayer"), accessFlags := 8, slot := 13, constantValue := 0 }]
  methods := #[k20m0, k20m1]
  instanceTypes := #[]
  staticTypes := #[(.object "java/io/InputStream"), (.object "java/io/PrintStream"), (.object "java/io/PrintStream"), (.object "java/io/InputStream"), .int, .int, .int, (.object "java/lang/SecurityManager"), (.object "java/lang/String"), (.object "java/io/Console"), (.object "java/io/PrintStream"), (.object "java/util/Properties"), (.object "java/lang/String"), (.object "java/lang/ModuleLayer")]
  resolved := Array.replicate 834 none
  statics := none }

def pool21 : Array CpInfo := pool [(2, .class_ 4), (1, u "java/lang/Object"), (0, u "<init>"), (0, u "()V"), (7, .class_ 16), (1, u "java/util/Arrays"), (57, .class_ 76), (1, u "java/util/Arrays$NaturalOrder"), (36, .class_ 115), (1, u "java/util/Arrays$LegacyMergeSort"), (1, u "Z"), (21, u "copyOfRange"), (10, .methodref 151 152), (0, .class_ 153), (0, .nameAndType 154 155), (0, u "java/lang/System"), (0, u "arraycopy"), (0, u "(Ljava/lang/Object;ILjava/lang/Object;II)V"), (148, .methodref 305 306), (0, .class_ 307), (0, .nameAndType 308 309), (0, u "java/lang/Math"), (0, u "min"), (0, u "(II)I"), (29, .methodref 14 340), (0, .nameAndType 341 342), (0, u "copyOfRangeByte"), (0, u "([BII)[B"), (0, .methodref 14 344), (0, .nameAndType 345 346), (0, u "checkLength"), (0, u "(II)V"), (28, .class_ 376), (0, u "java/util/Arrays$ArrayList"), (68, u "$assertionsDisabled"), (269, u "MIN_ARRAY_SORT_GRAN"), (0, u "I"), (2, u "INSERTIONSORT_THRESHOLD"), (255, .class_ 976), (0, u "java/util/Arrays$ArrayItr")] 52

def k21m0 : Method := { name := "<init>", desc := "()V", sig := { parameters := [], returnType := none }, accessFlags := 2, code := none }
def k21c1 : Code := { maxStack := 4, maxLocals := 2, code := jdk_65_method_131_code, exceptionTable := #[], attributes := #[] }
def k21m1 : Method := { name := "checkLength", desc := "(II)V", sig := { parameters := [.int, .int], returnType := none }, accessFlags := 10, code := some k21c1 }
def k21c2 : Code := { maxStack := 3, maxLocals := 3, code := jdk_65_method_132_code, exceptionTable := #[], attributes := #[] }
def k21m2 : Method := { name := "copyOfRange", desc := "([BII)[B", sig := { parameters := [(.array .byte), .int, .int], returnType := some (.array .byte) }, accessFlags := 9, code := some k21c2 }
def k21c3 : Code := { maxStack := 6, maxLocals := 5, code := jdk_65_method_133_code, exceptionTable := #[], attributes := #[] }
def k21m3 : Method := { name := "copyOfRangeByte", desc := "([BII)[B", sig := { parameters := [(.array .byte), .int, .int], returnType := some (.array .byte) }, accessFlags := 10, code := some k21c3 }
def k21 : Class := { plain "java/util/Arrays" (some 0) with
  accessFlags := 49
  interfaces := #[]
  cf := some (fileOf pool21 14 #[.nestMembers #[975, 375, 113, 74]] #[{ accessFlags := 2, nameIndex := 5, descriptorIndex := 6, attributes := #[] }, { accessFlags := 10, nameIndex := 345, descriptorIndex := 346, attributes := #[] }, { accessFlags := 9, nameIndex := 139, descriptorIndex := 342, attributes := #[] }, { accessFlags := 10, nameIndex := 341, descriptorIndex := 342, attributes := #[] }] 49 2 #[] #[{ accessFlags := 26, nameIndex := 715, descriptorIndex := 716, attributes := #[] }, { accessFlags := 26, nameIndex := 719, descriptorIndex := 716, attributes := #[] }, { accessFlags := 4120, nameIndex := 445, descriptorIndex := 117, attributes := #[] }])
  fields := #[{ name := "MIN_ARRAY_SORT_GRAN", type := .int, accessFlags := 26, slot := 0, constantValue := 0 }, { name := "INSERTIONSORT_THRESHOLD", type := .int, accessFlags := 26, slot := 1, constantValue := 0 }, { name := "$assertionsDisabled", type := .boolean, accessFlags := 4120, slot := 2, constantValue := 0 }]
  methods := #[k21m0, k21m1, k21m2, k21m3]
  instanceTypes := #[]
  staticTypes := #[.int, .int, .boolean]
  resolved := Array.replicate 1029 none
  statics := none }

def pool22 : Array CpInfo := pool [(2, .class_ 4), (1, u "java/lang/Object"), (0, u "<init>"), (0, u "()V"), (17, .class_ 26), (1, u "jdk/internal/util/Preconditions"), (6, u "checkIndex"), (21, .class_ 56), (0, u "jdk/internal/util/Preconditions$4"), (57, .class_ 115), (0, u "jdk/internal/util/Preconditions$1"), (7, u "SIOOBE_FORMATTER"), (0, u "Ljava/util/function/BiFunction;"), (0, .class_ 126), (0, u "jdk/internal/util/Preconditions$2"), (3, u "AIOOBE_FORMATTER"), (0, .class_ 132), (0, u "jdk/internal/util/Preconditions$3"), (3, u "IOOBE_FORMATTER"), (41, u "(IILjava/util/function/BiFunction;)I")] 15

def k22m0 : Method := { name := "<init>", desc := "()V", sig := { parameters := [], returnType := none }, accessFlags := 1, code := none }
def k22c1 : Code := { maxStack := 3, maxLocals := 3, code := jdk_41_method_11_code, exceptionTable := #[], attributes := #[] }
def k22m1 : Method := { name := "checkIndex", desc := "(IILjava/util/function/BiFunction;)I", sig := { parameters := [.int, .int, (.object "java/util/function/BiFunction")], returnType := some .int }, accessFlags := 9, code := some k22c1 }
def k22 : Class := { plain "jdk/internal/util/Preconditions" (some 0) with
  accessFlags := 33
  interfaces := #[]
  cf := some (fileOf pool22 24 #[.nestMembers #[55, 131, 125, 114]] #[{ accessFlags := 1, nameIndex := 5, descriptorIndex := 6, attributes := #[] }, { accessFlags := 9, nameIndex := 33, descriptorIndex := 178, attributes := #[] }] 33 2 #[] #[{ accessFlags := 25, nameIndex := 123, descriptorIndex := 124, attributes := #[] }, { accessFlags := 25, nameIndex := 130, descriptorIndex := 124, attributes := #[] }, { accessFlags := 25, nameIndex := 136, descriptorIndex := 124, attributes := #[] }])
  fields := #[{ name := "SIOOBE_FORMATTER", type := (.object "java/util/function/BiFunction"), accessFlags := 25, slot := 0, constantValue := 0 }, { name := "AIOOBE_FORMATTER", type := (.object "java/util/function/BiFunction"), accessFlags := 25, slot := 1, constantValue := 0 }, { name := "IOOBE_FORMATTER", type := (.object "java/util/function/BiFunction"), accessFlags := 25, slot := 2, constantValue := 0 }]
  methods := #[k22m0, k22m1]
  instanceTypes := #[]
  staticTypes := #[(.object "java/util/function/BiFunction"), (.object "java/util/function/BiFunction"), (.object "java/util/function/BiFunction")]
  resolved := Array.replicate 194 none
  statics := some 2 }

def pool23 : Array CpInfo := pool [(9, u "<init>"), (6, .class_ 18), (1, u "java/lang/Object"), (0, u "()V"), (1, .class_ 23), (1, u "jdk/internal/util/ArraysSupport"), (0, u "LOG2_ARRAY_LONG_INDEX_SCALE"), (0, u "I"), (2, u "U"), (0, u "Ljdk/internal/misc/Unsafe;"), (8, u "BIG_ENDIAN"), (0, u "Z"), (8, u "LOG2_BYTE_BIT_SIZE"), (4, u "LOG2_ARRAY_INT_INDEX_SCALE"), (54, u "JLA"), (0, u "Ljdk/internal/access/JavaLangAccess;"), (11, u "LOG2_ARRAY_BOOLEAN_INDEX_SCALE"), (9, u "LOG2_ARRAY_BYTE_INDEX_SCALE"), (5, u "LOG2_ARRAY_CHAR_INDEX_SCALE"), (5, u "LOG2_ARRAY_SHORT_INDEX_SCALE"), (18, u "LOG2_ARRAY_FLOAT_INDEX_SCALE"), (24, u "LOG2_ARRAY_DOUBLE_INDEX_SCALE"), (89, u "T_BOOLEAN"), (2, u "T_CHAR"), (1, u "T_FLOAT"), (1, u "T_DOUBLE"), (1, u "T_BYTE"), (1, u "T_SHORT"), (1, u "T_INT"), (1, u "T_LONG"), (1, u "SOFT_MAX_ARRAY_LENGTH")] 83

def k23m0 : Method := { name := "<init>", desc := "()V", sig := { parameters := [], returnType := none }, accessFlags := 2, code := none }
def k23 : Class := { plain "jdk/internal/util/ArraysSupport" (some 0) with
  accessFlags := 33
  interfaces := #[]
  cf := some (fileOf pool23 21 #[] #[{ accessFlags := 2, nameIndex := 9, descriptorIndex := 19, attributes := #[] }] 33 16 #[] #[{ accessFlags := 24, nameIndex := 28, descriptorIndex := 29, attributes := #[] }, { accessFlags := 26, nameIndex := 38, descriptorIndex := 39, attributes := #[] }, { accessFlags := 25, nameIndex := 121, descriptorIndex := 25, attributes := #[] }, { accessFlags := 25, nameIndex := 131, descriptorIndex := 25, attributes := #[] }, { accessFlags := 25, nameIndex := 137, descriptorIndex := 25, attributes := #[] }, { accessFlags := 25, nameIndex := 143, descriptorIndex := 25, attributes := #[] }, { accessFlags := 25, nameIndex := 53, descriptorIndex := 25, attributes := #[] }, { accessFlags := 25, nameIndex := 24, descriptorIndex := 25, attributes := #[] }, { accessFlags := 25, nameIndex := 162, descriptorIndex := 25, attributes := #[] }, { accessFlags := 25, nameIndex := 187, descriptorIndex := 25, attributes := #[] }, { accessFlags := 26, nameIndex := 48, descriptorIndex := 25, attributes := #[] }, { accessFlags := 25, nameIndex := 277, descriptorIndex := 25, attributes := #[] }, { accessFlags := 25, nameIndex := 280, descriptorIndex := 25, attributes := #[] }, { accessFlags := 25, nameIndex := 282, descriptorIndex := 25, attributes := #[] }, { accessFlags := 25, nameIndex := 284, descriptorIndex := 25, attributes := #[] }, { accessFlags := 25, nameIndex := 286, descriptorIndex := 25, attributes := #[] }, { accessFlags := 25, nameIndex := 288, descriptorIndex := 25, attributes := #[] }, { accessFlags := 25, nameIndex := 290, descriptorIndex := 25, attributes := #[] }, { accessFlags := 25, nameIndex := 292, descriptorIndex := 25, attributes := #[] }, { accessFlags := 26, nameIndex := 108, descriptorIndex := 109, attributes := #[] }, { accessFlags := 25, nameIndex := 294, descriptorIndex := 25, attributes := #[] }])
  fields := #[{ name := "U", type := (.object "jdk/internal/misc/Unsafe"), accessFlags := 24, slot := 0, constantValue := 0 }, { name := "BIG_ENDIAN", type := .boolean, accessFlags := 26, slot := 1, constantValue := 0 }, { name := "LOG2_ARRAY_BOOLEAN_INDEX_SCALE", type := .int, accessFlags := 25, slot := 2, constantValue := 0 }, { name := "LOG2_ARRAY_BYTE_INDEX_SCALE", type := .int, accessFlags := 25, slot := 3, constantValue := 0 }, { name := "LOG2_ARRAY_CHAR_INDEX_SCALE", type := .int, accessFlags := 25, slot := 4, constantValue := 0 }, { name := "LOG2_ARRAY_SHORT_INDEX_SCALE", type := .int, accessFlags := 25, slot := 5, constantValue := 0 }, { name := "LOG2_ARRAY_INT_INDEX_SCALE", type := .int, accessFlags := 25, slot := 6, constantValue := 0 }, { name := "LOG2_ARRAY_LONG_INDEX_SCALE", type := .int, accessFlags := 25, slot := 7, constantValue := 0 }, { name := "LOG2_ARRAY_FLOAT_INDEX_SCALE", type := .int, accessFlags := 25, slot := 8, constantValue := 0 }, { name := "LOG2_ARRAY_DOUBLE_INDEX_SCALE", type := .int, accessFlags := 25, slot := 9, constantValue := 0 }, { name := "LOG2_BYTE_BIT_SIZE", type := .int, accessFlags := 26, slot := 10, constantValue := 0 }, { name := "T_BOOLEAN", type := .int, accessFlags := 25, slot := 11, constantValue := 0 }, { name := "T_CHAR", type := .int, accessFlags := 25, slot := 12, constantValue := 0 }, { name := "T_FLOAT", type := .int, accessFlags := 25, slot := 13, constantValue := 0 }, { name := "T_DOUBLE", type := .int, accessFlags := 25, slot := 14, constantValue := 0 }, { name := "T_BYTE", type := .int, accessFlags := 25, slot := 15, constantValue := 0 }, { name := "T_SHORT", type := .int, accessFlags := 25, slot := 16, constantValue := 0 }, { name := "T_INT", type := .int, accessFlags := 25, slot := 17, constantValue := 0 }, { name := "T_LONG", type := .int, accessFlags := 25, slot := 18, constantValue := 0 }, { name := "JLA", type := (.object "jdk/internal/access/JavaLangAccess"), accessFlags := 26, slot := 19, constantValue := 0 }, { name := "SOFT_MAX_ARRAY_LENGTH", type := .int, accessFlags := 25, slot := 20, constantValue := 0 }]
  methods := #[k23m0]
  instanceTypes := #[]
  staticTypes := #[(.object "jdk/internal/misc/Unsafe"), .boolean, .int, .int, .int, .int, .int, .int, .int, .int, .int, .int, .int, .int, .int, .int, .int, .int, .int, (.object "jdk/internal/access/JavaLangAccess"), .int]
  resolved := Array.replicate 378 none
  statics := none }

def pool24 : Array CpInfo := pool [(1, u "java/lang/Cloneable"), (0, .class_ 1), (0, u "java/lang/Object"), (0, .class_ 3)] 3

def k24 : Class := { plain "java/lang/Cloneable" (some 0) with
  accessFlags := 1537
  interfaces := #[]
  cf := some (fileOf pool24 2 #[] #[] 1537 4 #[] #[])
  fields := #[]
  methods := #[]
  instanceTypes := #[]
  staticTypes := #[]
  resolved := Array.replicate 8 none
  statics := none }

def k25 : Class := { plain "byte" none with kind := .primitive 'B', accessFlags := 0x411 }
def k26 : Class := { plain "[B" (some 0) with kind := .array 25 .byte, interfaces := #[24, 2], accessFlags := 1041 }

def k27 : Class := { plain "char" none with kind := .primitive 'C', accessFlags := 0x411 }
def k28 : Class := { plain "[C" (some 0) with kind := .array 27 .char, interfaces := #[24, 2], accessFlags := 1041 }

def k29 : Class := { plain "int" none with kind := .primitive 'I', accessFlags := 0x411 }
def k30 : Class := { plain "[I" (some 0) with kind := .array 29 .int, interfaces := #[24, 2], accessFlags := 1041 }

def heap : Heap := #[{ cls := 7, slots := #[.long 0, .int 1, .null, .int 0, .null, .int 0, .int 0], vm := .statics 7 },
  { cls := 15, slots := #[.null, .null, .ref 4, .ref 5, .null], vm := .statics 15 },
  { cls := 22, slots := #[.null, .null, .null], vm := .statics 22 },
  { cls := 23, slots := #[], vm := .none },
  { cls := 15, slots := #[], vm := .none },
  { cls := 30, slots := #[.int 1207963663, .int 1207963663, .int 1207963663, .int 1207963663, .int 1207963663, .int 1207963663, .int 1207963663, .int 1207963663, .int 1207963663, .int 1476411407, .int 1342193679, .int 1476411407, .int 1610629135, .int 1342193679, .int 1207963663, .int 1207963663, .int 1207963663, .int 1207963663, .int 1207963663, .int 1207963663, .int 1207963663, .int 1207963663, .int 1207963663, .int 1207963663, .int 1207963663, .int 1207963663, .int 1207963663, .int 1207963663, .int 1342193679, .int 1342193679, .int 1342193679, .int 1476411407, .int 1610629132, .int 1744830488, .int 1744830488, .int 671088664, .int 671113242, .int 671088664, .int 1744830488, .int 1744830488, .int (-402653163), .int (-402653162), .int 1744830488, .int 536870937, .int 939524120, .int 536870932, .int 939524120, .int 939524120, .int 402667017, .int 402667017, .int 402667017, .int 402667017, .int 402667017, .int 402667017, .int 402667017, .int 402667017, .int 402667017, .int 402667017, .int 939524120, .int 1744830488, .int (-402653159), .int 1744830489, .int (-402653159), .int 1744830488, .int 1744830488, .int 8552417, .int 8552417, .int 8552417, .int 8552417, .int 8552417, .int 8552417, .int 8552417, .int 8552417, .int 8552417, .int 8552417, .int 8552417, .int 8552417, .int 8552417, .int 8552417, .int 8552417, .int 8552417, .int 8552417, .int 8552417, .int 8552417, .int 8552417, .int 8552417, .int 8552417, .int 8552417, .int 8552417, .int 8552417, .int 8552417, .int (-402653163), .int 1744830488, .int (-402653162), .int 1744830491, .int 1744850967, .int 1744830491, .int 8486882, .int 8486882, .int 8486882, .int 8486882, .int 8486882, .int 8486882, .int 8486882, .int 8486882, .int 8486882, .int 8486882, .int 8486882, .int 8486882, .int 8486882, .int 8486882, .int 8486882, .int 8486882, .int 8486882, .int 8486882, .int 8486882, .int 8486882, .int 8486882, .int 8486882, .int 8486882, .int 8486882, .int 8486882, .int 8486882, .int (-402653163), .int 1744830489, .int (-402653162), .int 1744830489, .int 1207963663, .int 1207963663, .int 1207963663, .int 1207963663, .int 1207963663, .int 1207963663, .int 1342181391, .int 1207963663, .int 1207963663, .int 1207963663, .int 1207963663, .int 1207963663, .int 1207963663, .int 1207963663, .int 1207963663, .int 1207963663, .int 1207963663, .int 1207963663, .int 1207963663, .int 1207963663, .int 1207963663, .int 1207963663, .int 1207963663, .int 1207963663, .int 1207963663, .int 1207963663, .int 1207963663, .int 1207963663, .int 1207963663, .int 1207963663, .int 1207963663, .int 1207963663, .int 1207963663, .int 939524108, .int 1744830488, .int 671113242, .int 671113242, .int 671113242, .int 671113242, .int 1744830492, .int 1744830488, .int 1744830491, .int 1744830492, .int 28677, .int (-402653155), .int 1744830489, .int 1207963664, .int 1744830492, .int 1744830491, .int 671088668, .int 671088665, .int 402654731, .int 402654731, .int 1744830491, .int 134049794, .int 1744830488, .int 1744830488, .int 1744830491, .int 402654475, .int 28677, .int (-402653154), .int 1744832523, .int 1744832523, .int 1744832523, .int 1744830488, .int 8548353, .int 8548353, .int 8548353, .int 8548353, .int 8548353, .int 8548353, .int 8548353, .int 8548353, .int 8548353, .int 8548353, .int 8548353, .int 8548353, .int 8548353, .int 8548353, .int 8548353, .int 8548353, .int 8548353, .int 8548353, .int 8548353, .int 8548353, .int 8548353, .int 8548353, .int 8548353, .int 1744830489, .int 8548353, .int 8548353, .int 8548353, .int 8548353, .int 8548353, .int 8548353, .int 8548353, .int 134049794, .int 8482818, .int 8482818, .int 8482818, .int 8482818, .int 8482818, .int 8482818, .int 8482818, .int 8482818, .int 8482818, .int 8482818, .int 8482818, .int 8482818, .int 8482818, .int 8482818, .int 8482818, .int 8482818, .int 8482818, .int 8482818, .int 8482818, .int 8482818, .int 8482818, .int 8482818, .int 8482818, .int 1744830489, .int 8482818, .int 8482818, .int 8482818, .int 8482818, .int 8482818, .int 8482818, .int 8482818, .int 102592514], vm := .none }]
def classes : Array Class := #[k0, k1, k2, k3, k4, k5, k6, k7, k8, k9, k10, k11, k12, k13, k14, k15, k16, k17, k18, k19, k20, k21, k22, k23, k24, k25, k26, k27, k28, k29, k30]
def interned : List (Array UInt16 × Addr) := []
def slotsUsed : Nat := 271
def theMethod : MethodId := ⟨1, 1⟩
def args0 : Array Value := #[.long 1, .long 2, .int 3]
def aboutOver (below : List Frame) : State where
  vm := { classes := classes, interned := interned.toArray }
  heap := heap
  slotsUsed := slotsUsed
  threads := #[{ frames := .invoking theMethod args0 :: below }]
def below0 : List Frame := [.native { method := ⟨0, 0⟩, args := #[] }]
def about1 : State := aboutOver below0
def p0 : Program := .bare "" "" ""
def e0 : Env := launch0.env 0 0 0
theorem w_frames : about1.frames = Frame.invoking theMethod args0 :: below0 := rfl
set_option maxRecDepth 65536 in
theorem w_args : argsFit about1.vm theMethod args0 = true := by decide +kernel
set_option maxRecDepth 65536 in
theorem w_heap : heapFits about1 = true := by decide +kernel
set_option maxRecDepth 65536 in
theorem w_runnable : about1.curStatus? = some .runnable := by decide +kernel
set_option maxRecDepth 65536 in
theorem w_alone : about1.alone = true := by decide +kernel
set_option maxRecDepth 65536 in
theorem w_named : about1.methodNamed? x = some theMethod := by decide +kernel
set_option maxRecDepth 65536 in
theorem w_hears : about1.hears theMethod below0 = true := by decide +kernel
set_option maxRecDepth 65536 in
theorem w_ripe : about1.ripe theMethod args0 below0 = true := by decide +kernel
theorem w_running : about1.status = .running := rfl
set_option maxRecDepth 65536 in
theorem w_room : about1.hasRoom e0.platform room_1 = true :=
  launch0.hasRoom_least _ room_1 (by decide +kernel) (by decide +kernel) (by decide +kernel) (by decide +kernel) (by decide +kernel) (by decide +kernel)
theorem allAtoms_all (ts : List Jvm.Cond) (a : Array Jvm.Value) (st : Jvm.State) : (allAtoms ts).before a st = ts.all (fun c => c.before a st) := by
  induction ts with
  | nil => rfl
  | cons c t ih =>
    show (Jvm.Cond.and c (allAtoms t)).before a st = _
    rw [Jvm.Cond.before_and, ih, List.all_cons]
def words1 : List Jvm.Cond := Jvm.Cond.code x code maxLocals ret :: tables_1
theorem code_word {y : MethodName} {bytes : ByteArray} {mx : Nat} {rt : Option FieldType} {a : Array Value} {s : State} {m : MethodId} {meth : Method} {c : Code} (h1 : s.methodNamed? y = some m) (h2 : s.vm.method? m = some meth) (h3 : meth.code = some c) (h4 : c.code = bytes)
    (h5 : (c.maxLocals == mx && c.exceptionTable.isEmpty && decide (c.maxStack ≤ mostOperands) && decide (meth.sig.returnType = rt) && !meth.locks && decide (parseMethodDescriptor y.desc = some meth.sig)) = true) : (Jvm.Cond.code y bytes mx rt).before a s = true := by
  simp only [Bool.and_eq_true, beq_iff_eq, Bool.not_eq_true', decide_eq_true_eq] at h5
  obtain ⟨⟨⟨⟨⟨g1, g2⟩, g3⟩, g4⟩, g5⟩, g6⟩ := h5
  simp [Cond.before, Cond.holds, Cond.value, h1, h2, h3, h4, g1, g2, g3, g4, g5, g6]
def isCode : Jvm.Cond → Bool
  | .code _ _ _ _ => true
  | _ => false
theorem all_split {L : List Jvm.Cond} {P : Jvm.Cond → Bool} (h1 : L.all (fun c => isCode c || P c) = true) (h2 : ∀ c ∈ L.filter isCode, P c = true) : L.all P = true := by
  refine List.all_eq_true.mpr fun c hc => ?_
  have h := List.all_eq_true.mp h1 c hc
  rcases Bool.eq_false_or_eq_true (isCode c) with hi | hi
  · exact h2 c (List.mem_filter.mpr ⟨hc, hi⟩)
  · simpa [hi] using h
set_option maxRecDepth 65536 in
theorem w_c0 : (Jvm.Cond.code x code maxLocals ret).before args0 about1 = true := code_word (m := ⟨1, 1⟩) (meth := k1m1) (c := k1c1) (by decide +kernel) rfl rfl rfl (by decide +kernel)
set_option maxRecDepth 65536 in
theorem w_c1 : (Jvm.Cond.code yy0 method_3_code (2 : Nat) (some FieldType.char)).before args0 about1 = true := code_word (m := ⟨1, 2⟩) (meth := k1m2) (c := k1c2) (by decide +kernel) rfl rfl rfl (by decide +kernel)
set_option maxRecDepth 65536 in
theorem w_c2 : (Jvm.Cond.code yy1 method_4_code (2 : Nat) (some FieldType.char)).before args0 about1 = true := code_word (m := ⟨1, 3⟩) (meth := k1m3) (c := k1c3) (by decide +kernel) rfl rfl rfl (by decide +kernel)
set_option maxRecDepth 65536 in
theorem w_c3 : (Jvm.Cond.code yy3 method_5_code (4 : Nat) (some (FieldType.object "java/lang/String"))).before args0 about1 = true := code_word (m := ⟨1, 4⟩) (meth := k1m4) (c := k1c4) (by decide +kernel) rfl rfl rfl (by decide +kernel)
set_option maxRecDepth 65536 in
theorem w_c4 : (Jvm.Cond.code yy2 jdk_42_method_3_code (2 : Nat) (Option.none : Option Jvm.ClassFile.FieldType)).before args0 about1 = true := code_word (m := ⟨7, 1⟩) (meth := k7m1) (c := k7c1) (by decide +kernel) rfl rfl rfl (by decide +kernel)
set_option maxRecDepth 65536 in
theorem w_c5 : (Jvm.Cond.code ({ cls := "java/lang/String", name := "<init>", desc := "([CIILjava/lang/Void;)V" } : Jvm.MethodName) jdk_42_method_149_code (6 : Nat) (Option.none : Option Jvm.ClassFile.FieldType)).before args0 about1 = true := code_word (m := ⟨7, 11⟩) (meth := k7m11) (c := k7c11) (by decide +kernel) rfl rfl rfl (by decide +kernel)
set_option maxRecDepth 65536 in
theorem w_c6 : (Jvm.Cond.code ({ cls := "java/lang/Object", name := "<init>", desc := "()V" } : Jvm.MethodName) object_method_1_code (1 : Nat) (Option.none : Option Jvm.ClassFile.FieldType)).before args0 about1 = true := code_word (m := ⟨0, 0⟩) (meth := k0m0) (c := k0c0) (by decide +kernel) rfl rfl rfl (by decide +kernel)
set_option maxRecDepth 65536 in
theorem w_c7 : (Jvm.Cond.code ({ cls := "java/lang/StringUTF16", name := "compress", desc := "([CII)[B" } : Jvm.MethodName) jdk_52_method_16_code (6 : Nat) (some (FieldType.array FieldType.byte))).before args0 about1 = true := code_word (m := ⟨8, 2⟩) (meth := k8m2) (c := k8c2) (by decide +kernel) rfl rfl rfl (by decide +kernel)
set_option maxRecDepth 65536 in
theorem w_c8 : (Jvm.Cond.code ({ cls := "java/lang/StringUTF16", name := "compress", desc := "([CI[BII)I" } : Jvm.MethodName) jdk_52_method_21_code (7 : Nat) (some FieldType.int)).before args0 about1 = true := code_word (m := ⟨8, 3⟩) (meth := k8m3) (c := k8c3) (by decide +kernel) rfl rfl rfl (by decide +kernel)
set_option maxRecDepth 65536 in
theorem w_c9 : (Jvm.Cond.code ({ cls := "java/lang/StringUTF16", name := "coderFromArrayLen", desc := "([BI)B" } : Jvm.MethodName) jdk_52_method_15_code (2 : Nat) (some FieldType.byte)).before args0 about1 = true := code_word (m := ⟨8, 1⟩) (meth := k8m1) (c := k8c1) (by decide +kernel) rfl rfl rfl (by decide +kernel)
set_option maxRecDepth 65536 in
theorem w_c10 : (Jvm.Cond.code yy53 prog_3_method_1_code (3 : Nat) (Option.none : Option Jvm.ClassFile.FieldType)).before args0 about1 = true := code_word (m := ⟨10, 0⟩) (meth := k10m0) (c := k10c0) (by decide +kernel) rfl rfl rfl (by decide +kernel)
set_option maxRecDepth 65536 in
theorem w_c11 : (Jvm.Cond.code yy52 jdk_30_method_1_code (1 : Nat) (Option.none : Option Jvm.ClassFile.FieldType)).before args0 about1 = true := code_word (m := ⟨9, 0⟩) (meth := k9m0) (c := k9c0) (by decide +kernel) rfl rfl rfl (by decide +kernel)
set_option maxRecDepth 65536 in
theorem w_c12 : (Jvm.Cond.code yy24 prog_2_method_7_code (2 : Nat) (Option.none : Option Jvm.ClassFile.FieldType)).before args0 about1 = true := code_word (m := ⟨11, 0⟩) (meth := k11m0) (c := k11c0) (by decide +kernel) rfl rfl rfl (by decide +kernel)
set_option maxRecDepth 65536 in
theorem w_c13 : (Jvm.Cond.code yy18 jdk_31_method_11_code (2 : Nat) (some (FieldType.object "java/lang/Object"))).before args0 about1 = true := code_word (m := ⟨12, 1⟩) (meth := k12m1) (c := k12c1) (by decide +kernel) rfl rfl rfl (by decide +kernel)
set_option maxRecDepth 65536 in
theorem w_c14 : (Jvm.Cond.code yy23 jdk_42_method_55_code (1 : Nat) (some FieldType.boolean)).before args0 about1 = true := code_word (m := ⟨7, 4⟩) (meth := k7m4) (c := k7c4) (by decide +kernel) rfl rfl rfl (by decide +kernel)
set_option maxRecDepth 65536 in
theorem w_c15 : (Jvm.Cond.code yy15 jdk_42_method_114_code (2 : Nat) (some (FieldType.object "java/lang/String"))).before args0 about1 = true := code_word (m := ⟨7, 9⟩) (meth := k7m9) (c := k7c9) (by decide +kernel) rfl rfl rfl (by decide +kernel)
set_option maxRecDepth 65536 in
theorem w_c16 : (Jvm.Cond.code yy5 jdk_42_method_154_code (1 : Nat) (some FieldType.boolean)).before args0 about1 = true := code_word (m := ⟨7, 14⟩) (meth := k7m14) (c := k7c14) (by decide +kernel) rfl rfl rfl (by decide +kernel)
set_option maxRecDepth 65536 in
theorem w_c17 : (Jvm.Cond.code yy14 jdk_43_method_39_code (4 : Nat) (some (FieldType.object "java/lang/String"))).before args0 about1 = true := code_word (m := ⟨13, 8⟩) (meth := k13m8) (c := k13c8) (by decide +kernel) rfl rfl rfl (by decide +kernel)
set_option maxRecDepth 65536 in
theorem w_c18 : (Jvm.Cond.code yy12 jdk_43_method_37_code (4 : Nat) (some FieldType.int)).before args0 about1 = true := code_word (m := ⟨13, 6⟩) (meth := k13m6) (c := k13c6) (by decide +kernel) rfl rfl rfl (by decide +kernel)
set_option maxRecDepth 65536 in
theorem w_c19 : (Jvm.Cond.code yy9 jdk_43_method_44_code (2 : Nat) (some FieldType.char)).before args0 about1 = true := code_word (m := ⟨13, 9⟩) (meth := k13m9) (c := k13c9) (by decide +kernel) rfl rfl rfl (by decide +kernel)
set_option maxRecDepth 65536 in
theorem w_c20 : (Jvm.Cond.code yy11 jdk_116_method_26_code (3 : Nat) (some FieldType.boolean)).before args0 about1 = true := code_word (m := ⟨15, 1⟩) (meth := k15m1) (c := k15c1) (by decide +kernel) rfl rfl rfl (by decide +kernel)
set_option maxRecDepth 65536 in
theorem w_c21 : (Jvm.Cond.code yy10 jdk_116_method_1_code (4 : Nat) (some FieldType.int)).before args0 about1 = true := code_word (m := ⟨15, 0⟩) (meth := k15m0) (c := k15c0) (by decide +kernel) rfl rfl rfl (by decide +kernel)
set_option maxRecDepth 65536 in
theorem w_c22 : (Jvm.Cond.code yy13 jdk_43_method_38_code (4 : Nat) (some FieldType.int)).before args0 about1 = true := code_word (m := ⟨13, 7⟩) (meth := k13m7) (c := k13c7) (by decide +kernel) rfl rfl rfl (by decide +kernel)
set_option maxRecDepth 65536 in
theorem w_c23 : (Jvm.Cond.code yy16 jdk_42_method_66_code (3 : Nat) (some FieldType.boolean)).before args0 about1 = true := code_word (m := ⟨7, 6⟩) (meth := k7m6) (c := k7c6) (by decide +kernel) rfl rfl rfl (by decide +kernel)
set_option maxRecDepth 65536 in
theorem w_c24 : (Jvm.Cond.code yy22 jdk_42_method_79_code (2 : Nat) (some FieldType.int)).before args0 about1 = true := code_word (m := ⟨7, 7⟩) (meth := k7m7) (c := k7c7) (by decide +kernel) rfl rfl rfl (by decide +kernel)
set_option maxRecDepth 65536 in
theorem w_c25 : (Jvm.Cond.code yy21 jdk_42_method_80_code (3 : Nat) (some FieldType.int)).before args0 about1 = true := code_word (m := ⟨7, 8⟩) (meth := k7m8) (c := k7c8) (by decide +kernel) rfl rfl rfl (by decide +kernel)
set_option maxRecDepth 65536 in
theorem w_c26 : (Jvm.Cond.code yy6 jdk_42_method_54_code (1 : Nat) (some FieldType.int)).before args0 about1 = true := code_word (m := ⟨7, 3⟩) (meth := k7m3) (c := k7c3) (by decide +kernel) rfl rfl rfl (by decide +kernel)
set_option maxRecDepth 65536 in
theorem w_c27 : (Jvm.Cond.code yy4 jdk_42_method_152_code (1 : Nat) (some FieldType.byte)).before args0 about1 = true := code_word (m := ⟨7, 13⟩) (meth := k7m13) (c := k7c13) (by decide +kernel) rfl rfl rfl (by decide +kernel)
set_option maxRecDepth 65536 in
theorem w_c28 : (Jvm.Cond.code yy20 jdk_43_method_22_code (4 : Nat) (some FieldType.int)).before args0 about1 = true := code_word (m := ⟨13, 4⟩) (meth := k13m4) (c := k13c4) (by decide +kernel) rfl rfl rfl (by decide +kernel)
set_option maxRecDepth 65536 in
theorem w_c29 : (Jvm.Cond.code yy17 jdk_43_method_4_code (1 : Nat) (some FieldType.boolean)).before args0 about1 = true := code_word (m := ⟨13, 3⟩) (meth := k13m3) (c := k13c3) (by decide +kernel) rfl rfl rfl (by decide +kernel)
set_option maxRecDepth 65536 in
theorem w_c30 : (Jvm.Cond.code yy7 jdk_29_method_65_code (2 : Nat) (some FieldType.int)).before args0 about1 = true := code_word (m := ⟨16, 1⟩) (meth := k16m1) (c := k16c1) (by decide +kernel) rfl rfl rfl (by decide +kernel)
set_option maxRecDepth 65536 in
theorem w_c31 : (Jvm.Cond.code yy8 jdk_29_method_69_code (2 : Nat) (some FieldType.int)).before args0 about1 = true := code_word (m := ⟨16, 2⟩) (meth := k16m2) (c := k16c2) (by decide +kernel) rfl rfl rfl (by decide +kernel)
set_option maxRecDepth 65536 in
theorem w_c32 : (Jvm.Cond.code yy19 jdk_43_method_23_code (6 : Nat) (some FieldType.int)).before args0 about1 = true := code_word (m := ⟨13, 5⟩) (meth := k13m5) (c := k13c5) (by decide +kernel) rfl rfl rfl (by decide +kernel)
set_option maxRecDepth 65536 in
theorem w_c33 : (Jvm.Cond.code yy46 prog_3_method_2_code (1 : Nat) (some (FieldType.object "java/lang/String"))).before args0 about1 = true := code_word (m := ⟨10, 1⟩) (meth := k10m1) (c := k10c1) (by decide +kernel) rfl rfl rfl (by decide +kernel)
set_option maxRecDepth 65536 in
theorem w_c34 : (Jvm.Cond.code yy36 jdk_67_method_1_code (1 : Nat) (Option.none : Option Jvm.ClassFile.FieldType)).before args0 about1 = true := code_word (m := ⟨19, 0⟩) (meth := k19m0) (c := k19c0) (by decide +kernel) rfl rfl rfl (by decide +kernel)
set_option maxRecDepth 65536 in
theorem w_c35 : (Jvm.Cond.code yy35 jdk_68_method_2_code (2 : Nat) (Option.none : Option Jvm.ClassFile.FieldType)).before args0 about1 = true := code_word (m := ⟨18, 1⟩) (meth := k18m1) (c := k18c1) (by decide +kernel) rfl rfl rfl (by decide +kernel)
set_option maxRecDepth 65536 in
theorem w_c36 : (Jvm.Cond.code yy30 jdk_67_method_7_code (2 : Nat) (some (FieldType.object "java/lang/StringBuilder"))).before args0 about1 = true := code_word (m := ⟨19, 1⟩) (meth := k19m1) (c := k19c1) (by decide +kernel) rfl rfl rfl (by decide +kernel)
set_option maxRecDepth 65536 in
theorem w_c37 : (Jvm.Cond.code yy29 jdk_68_method_22_code (3 : Nat) (some (FieldType.object "java/lang/AbstractStringBuilder"))).before args0 about1 = true := code_word (m := ⟨18, 4⟩) (meth := k18m4) (c := k18c4) (by decide +kernel) rfl rfl rfl (by decide +kernel)
set_option maxRecDepth 65536 in
theorem w_c38 : (Jvm.Cond.code yy25 jdk_68_method_9_code (3 : Nat) (Option.none : Option Jvm.ClassFile.FieldType)).before args0 about1 = true := code_word (m := ⟨18, 3⟩) (meth := k18m3) (c := k18c3) (by decide +kernel) rfl rfl rfl (by decide +kernel)
set_option maxRecDepth 65536 in
theorem w_c39 : (Jvm.Cond.code yy28 jdk_68_method_73_code (3 : Nat) (Option.none : Option Jvm.ClassFile.FieldType)).before args0 about1 = true := code_word (m := ⟨18, 9⟩) (meth := k18m9) (c := k18c9) (by decide +kernel) rfl rfl rfl (by decide +kernel)
set_option maxRecDepth 65536 in
theorem w_c40 : (Jvm.Cond.code yy26 jdk_68_method_71_code (2 : Nat) (Option.none : Option Jvm.ClassFile.FieldType)).before args0 about1 = true := code_word (m := ⟨18, 8⟩) (meth := k18m8) (c := k18c8) (by decide +kernel) rfl rfl rfl (by decide +kernel)
set_option maxRecDepth 65536 in
theorem w_c41 : (Jvm.Cond.code yy27 jdk_42_method_147_code (4 : Nat) (Option.none : Option Jvm.ClassFile.FieldType)).before args0 about1 = true := code_word (m := ⟨7, 10⟩) (meth := k7m10) (c := k7c10) (by decide +kernel) rfl rfl rfl (by decide +kernel)
set_option maxRecDepth 65536 in
theorem w_c42 : (Jvm.Cond.code yy34 jdk_67_method_14_code (2 : Nat) (some (FieldType.object "java/lang/StringBuilder"))).before args0 about1 = true := code_word (m := ⟨19, 2⟩) (meth := k19m2) (c := k19c2) (by decide +kernel) rfl rfl rfl (by decide +kernel)
set_option maxRecDepth 65536 in
theorem w_c43 : (Jvm.Cond.code yy33 jdk_68_method_31_code (2 : Nat) (some (FieldType.object "java/lang/AbstractStringBuilder"))).before args0 about1 = true := code_word (m := ⟨18, 5⟩) (meth := k18m5) (c := k18c5) (by decide +kernel) rfl rfl rfl (by decide +kernel)
set_option maxRecDepth 65536 in
theorem w_c44 : (Jvm.Cond.code yy31 jdk_68_method_68_code (1 : Nat) (some FieldType.boolean)).before args0 about1 = true := code_word (m := ⟨18, 7⟩) (meth := k18m7) (c := k18c7) (by decide +kernel) rfl rfl rfl (by decide +kernel)
set_option maxRecDepth 65536 in
theorem w_c45 : (Jvm.Cond.code yy32 jdk_43_method_3_code (1 : Nat) (some FieldType.boolean)).before args0 about1 = true := code_word (m := ⟨13, 2⟩) (meth := k13m2) (c := k13c2) (by decide +kernel) rfl rfl rfl (by decide +kernel)
set_option maxRecDepth 65536 in
theorem w_c46 : (Jvm.Cond.code yy45 jdk_67_method_42_code (1 : Nat) (some (FieldType.object "java/lang/String"))).before args0 about1 = true := code_word (m := ⟨19, 3⟩) (meth := k19m3) (c := k19c3) (by decide +kernel) rfl rfl rfl (by decide +kernel)
set_option maxRecDepth 65536 in
theorem w_c47 : (Jvm.Cond.code yy44 jdk_42_method_53_code (2 : Nat) (Option.none : Option Jvm.ClassFile.FieldType)).before args0 about1 = true := code_word (m := ⟨7, 2⟩) (meth := k7m2) (c := k7c2) (by decide +kernel) rfl rfl rfl (by decide +kernel)
set_option maxRecDepth 65536 in
theorem w_c48 : (Jvm.Cond.code yy43 jdk_42_method_150_code (5 : Nat) (Option.none : Option Jvm.ClassFile.FieldType)).before args0 about1 = true := code_word (m := ⟨7, 12⟩) (meth := k7m12) (c := k7c12) (by decide +kernel) rfl rfl rfl (by decide +kernel)
set_option maxRecDepth 65536 in
theorem w_c49 : (Jvm.Cond.code yy40 jdk_68_method_64_code (1 : Nat) (some (FieldType.array FieldType.byte))).before args0 about1 = true := code_word (m := ⟨18, 6⟩) (meth := k18m6) (c := k18c6) (by decide +kernel) rfl rfl rfl (by decide +kernel)
set_option maxRecDepth 65536 in
theorem w_c50 : (Jvm.Cond.code yy42 jdk_67_method_93_code (1 : Nat) (some FieldType.int)).before args0 about1 = true := code_word (m := ⟨19, 4⟩) (meth := k19m4) (c := k19c4) (by decide +kernel) rfl rfl rfl (by decide +kernel)
set_option maxRecDepth 65536 in
theorem w_c51 : (Jvm.Cond.code yy41 jdk_68_method_6_code (1 : Nat) (some FieldType.int)).before args0 about1 = true := code_word (m := ⟨18, 2⟩) (meth := k18m2) (c := k18c2) (by decide +kernel) rfl rfl rfl (by decide +kernel)
set_option maxRecDepth 65536 in
theorem w_c52 : (Jvm.Cond.code yy39 jdk_65_method_132_code (3 : Nat) (some (FieldType.array FieldType.byte))).before args0 about1 = true := code_word (m := ⟨21, 2⟩) (meth := k21m2) (c := k21c2) (by decide +kernel) rfl rfl rfl (by decide +kernel)
set_option maxRecDepth 65536 in
theorem w_c53 : (Jvm.Cond.code yy38 jdk_65_method_133_code (5 : Nat) (some (FieldType.array FieldType.byte))).before args0 about1 = true := code_word (m := ⟨21, 3⟩) (meth := k21m3) (c := k21c3) (by decide +kernel) rfl rfl rfl (by decide +kernel)
set_option maxRecDepth 65536 in
theorem w_c54 : (Jvm.Cond.code yy37 jdk_65_method_131_code (2 : Nat) (Option.none : Option Jvm.ClassFile.FieldType)).before args0 about1 = true := code_word (m := ⟨21, 1⟩) (meth := k21m1) (c := k21c1) (by decide +kernel) rfl rfl rfl (by decide +kernel)
set_option maxRecDepth 65536 in
theorem w_c55 : (Jvm.Cond.code yy51 method_6_code (4 : Nat) (some FieldType.boolean)).before args0 about1 = true := code_word (m := ⟨1, 5⟩) (meth := k1m5) (c := k1c5) (by decide +kernel) rfl rfl rfl (by decide +kernel)
set_option maxRecDepth 65536 in
theorem w_c56 : (Jvm.Cond.code yy50 jdk_42_method_56_code (2 : Nat) (some FieldType.char)).before args0 about1 = true := code_word (m := ⟨7, 5⟩) (meth := k7m5) (c := k7c5) (by decide +kernel) rfl rfl rfl (by decide +kernel)
set_option maxRecDepth 65536 in
theorem w_c57 : (Jvm.Cond.code yy49 jdk_43_method_2_code (2 : Nat) (some FieldType.char)).before args0 about1 = true := code_word (m := ⟨13, 1⟩) (meth := k13m1) (c := k13c1) (by decide +kernel) rfl rfl rfl (by decide +kernel)
set_option maxRecDepth 65536 in
theorem w_c58 : (Jvm.Cond.code yy48 jdk_42_method_155_code (2 : Nat) (Option.none : Option Jvm.ClassFile.FieldType)).before args0 about1 = true := code_word (m := ⟨7, 15⟩) (meth := k7m15) (c := k7c15) (by decide +kernel) rfl rfl rfl (by decide +kernel)
set_option maxRecDepth 65536 in
theorem w_c59 : (Jvm.Cond.code yy47 jdk_41_method_11_code (3 : Nat) (some FieldType.int)).before args0 about1 = true := code_word (m := ⟨22, 1⟩) (meth := k22m1) (c := k22c1) (by decide +kernel) rfl rfl rfl (by decide +kernel)
def codes1 : List Jvm.Cond := [Jvm.Cond.code x code maxLocals ret, Jvm.Cond.code yy0 method_3_code (2 : Nat) (some FieldType.char), Jvm.Cond.code yy1 method_4_code (2 : Nat) (some FieldType.char), Jvm.Cond.code yy3 method_5_code (4 : Nat) (some (FieldType.object "java/lang/String")), Jvm.Cond.code yy2 jdk_42_method_3_code (2 : Nat) (Option.none : Option Jvm.ClassFile.FieldType), Jvm.Cond.code ({ cls := "java/lang/String", name := "<init>", desc := "([CIILjava/lang/Void;)V" } : Jvm.MethodName) jdk_42_method_149_code (6 : Nat) (Option.none : Option Jvm.ClassFile.FieldType), Jvm.Cond.code ({ cls := "java/lang/Object", name := "<init>", desc := "()V" } : Jvm.MethodName) object_method_1_code (1 : Nat) (Option.none : Option Jvm.ClassFile.FieldType), Jvm.Cond.code ({ cls := "java/lang/StringUTF16", name := "compress", desc := "([CII)[B" } : Jvm.MethodName) jdk_52_method_16_code (6 : Nat) (some (FieldType.array FieldType.byte)), Jvm.Cond.code ({ cls := "java/lang/StringUTF16", name := "compress", desc := "([CI[BII)I" } : Jvm.MethodName) jdk_52_method_21_code (7 : Nat) (some FieldType.int), Jvm.Cond.code ({ cls := "java/lang/StringUTF16", name := "coderFromArrayLen", desc := "([BI)B" } : Jvm.MethodName) jdk_52_method_15_code (2 : Nat) (some FieldType.byte), Jvm.Cond.code yy53 prog_3_method_1_code (3 : Nat) (Option.none : Option Jvm.ClassFile.FieldType), Jvm.Cond.code yy52 jdk_30_method_1_code (1 : Nat) (Option.none : Option Jvm.ClassFile.FieldType), Jvm.Cond.code yy24 prog_2_method_7_code (2 : Nat) (Option.none : Option Jvm.ClassFile.FieldType), Jvm.Cond.code yy18 jdk_31_method_11_code (2 : Nat) (some (FieldType.object "java/lang/Object")), Jvm.Cond.code yy23 jdk_42_method_55_code (1 : Nat) (some FieldType.boolean), Jvm.Cond.code yy15 jdk_42_method_114_code (2 : Nat) (some (FieldType.object "java/lang/String")), Jvm.Cond.code yy5 jdk_42_method_154_code (1 : Nat) (some FieldType.boolean), Jvm.Cond.code yy14 jdk_43_method_39_code (4 : Nat) (some (FieldType.object "java/lang/String")), Jvm.Cond.code yy12 jdk_43_method_37_code (4 : Nat) (some FieldType.int), Jvm.Cond.code yy9 jdk_43_method_44_code (2 : Nat) (some FieldType.char), Jvm.Cond.code yy11 jdk_116_method_26_code (3 : Nat) (some FieldType.boolean), Jvm.Cond.code yy10 jdk_116_method_1_code (4 : Nat) (some FieldType.int), Jvm.Cond.code yy13 jdk_43_method_38_code (4 : Nat) (some FieldType.int), Jvm.Cond.code yy16 jdk_42_method_66_code (3 : Nat) (some FieldType.boolean), Jvm.Cond.code yy22 jdk_42_method_79_code (2 : Nat) (some FieldType.int), Jvm.Cond.code yy21 jdk_42_method_80_code (3 : Nat) (some FieldType.int), Jvm.Cond.code yy6 jdk_42_method_54_code (1 : Nat) (some FieldType.int), Jvm.Cond.code yy4 jdk_42_method_152_code (1 : Nat) (some FieldType.byte), Jvm.Cond.code yy20 jdk_43_method_22_code (4 : Nat) (some FieldType.int), Jvm.Cond.code yy17 jdk_43_method_4_code (1 : Nat) (some FieldType.boolean), Jvm.Cond.code yy7 jdk_29_method_65_code (2 : Nat) (some FieldType.int), Jvm.Cond.code yy8 jdk_29_method_69_code (2 : Nat) (some FieldType.int), Jvm.Cond.code yy19 jdk_43_method_23_code (6 : Nat) (some FieldType.int), Jvm.Cond.code yy46 prog_3_method_2_code (1 : Nat) (some (FieldType.object "java/lang/String")), Jvm.Cond.code yy36 jdk_67_method_1_code (1 : Nat) (Option.none : Option Jvm.ClassFile.FieldType), Jvm.Cond.code yy35 jdk_68_method_2_code (2 : Nat) (Option.none : Option Jvm.ClassFile.FieldType), Jvm.Cond.code yy30 jdk_67_method_7_code (2 : Nat) (some (FieldType.object "java/lang/StringBuilder")), Jvm.Cond.code yy29 jdk_68_method_22_code (3 : Nat) (some (FieldType.object "java/lang/AbstractStringBuilder")), Jvm.Cond.code yy25 jdk_68_method_9_code (3 : Nat) (Option.none : Option Jvm.ClassFile.FieldType), Jvm.Cond.code yy28 jdk_68_method_73_code (3 : Nat) (Option.none : Option Jvm.ClassFile.FieldType), Jvm.Cond.code yy26 jdk_68_method_71_code (2 : Nat) (Option.none : Option Jvm.ClassFile.FieldType), Jvm.Cond.code yy27 jdk_42_method_147_code (4 : Nat) (Option.none : Option Jvm.ClassFile.FieldType), Jvm.Cond.code yy34 jdk_67_method_14_code (2 : Nat) (some (FieldType.object "java/lang/StringBuilder")), Jvm.Cond.code yy33 jdk_68_method_31_code (2 : Nat) (some (FieldType.object "java/lang/AbstractStringBuilder")), Jvm.Cond.code yy31 jdk_68_method_68_code (1 : Nat) (some FieldType.boolean), Jvm.Cond.code yy32 jdk_43_method_3_code (1 : Nat) (some FieldType.boolean), Jvm.Cond.code yy45 jdk_67_method_42_code (1 : Nat) (some (FieldType.object "java/lang/String")), Jvm.Cond.code yy44 jdk_42_method_53_code (2 : Nat) (Option.none : Option Jvm.ClassFile.FieldType), Jvm.Cond.code yy43 jdk_42_method_150_code (5 : Nat) (Option.none : Option Jvm.ClassFile.FieldType), Jvm.Cond.code yy40 jdk_68_method_64_code (1 : Nat) (some (FieldType.array FieldType.byte)), Jvm.Cond.code yy42 jdk_67_method_93_code (1 : Nat) (some FieldType.int), Jvm.Cond.code yy41 jdk_68_method_6_code (1 : Nat) (some FieldType.int), Jvm.Cond.code yy39 jdk_65_method_132_code (3 : Nat) (some (FieldType.array FieldType.byte)), Jvm.Cond.code yy38 jdk_65_method_133_code (5 : Nat) (some (FieldType.array FieldType.byte)), Jvm.Cond.code yy37 jdk_65_method_131_code (2 : Nat) (Option.none : Option Jvm.ClassFile.FieldType), Jvm.Cond.code yy51 method_6_code (4 : Nat) (some FieldType.boolean), Jvm.Cond.code yy50 jdk_42_method_56_code (2 : Nat) (some FieldType.char), Jvm.Cond.code yy49 jdk_43_method_2_code (2 : Nat) (some FieldType.char), Jvm.Cond.code yy48 jdk_42_method_155_code (2 : Nat) (Option.none : Option Jvm.ClassFile.FieldType), Jvm.Cond.code yy47 jdk_41_method_11_code (3 : Nat) (some FieldType.int)]
set_option maxRecDepth 65536 in
theorem codes_eq : words1.filter isCode = codes1 := rfl
theorem w_codes : ∀ c ∈ words1.filter isCode, c.before args0 about1 = true := by
  rw [codes_eq]
  intro c hc
  simp only [codes1, List.mem_cons, List.not_mem_nil, or_false] at hc
  rcases hc with rfl | rfl | rfl | rfl | rfl | rfl | rfl | rfl | rfl | rfl | rfl | rfl | rfl | rfl | rfl | rfl | rfl | rfl | rfl | rfl | rfl | rfl | rfl | rfl | rfl | rfl | rfl | rfl | rfl | rfl | rfl | rfl | rfl | rfl | rfl | rfl | rfl | rfl | rfl | rfl | rfl | rfl | rfl | rfl | rfl | rfl | rfl | rfl | rfl | rfl | rfl | rfl | rfl | rfl | rfl | rfl | rfl | rfl | rfl | rfl
  · exact w_c0
  · exact w_c1
  · exact w_c2
  · exact w_c3
  · exact w_c4
  · exact w_c5
  · exact w_c6
  · exact w_c7
  · exact w_c8
  · exact w_c9
  · exact w_c10
  · exact w_c11
  · exact w_c12
  · exact w_c13
  · exact w_c14
  · exact w_c15
  · exact w_c16
  · exact w_c17
  · exact w_c18
  · exact w_c19
  · exact w_c20
  · exact w_c21
  · exact w_c22
  · exact w_c23
  · exact w_c24
  · exact w_c25
  · exact w_c26
  · exact w_c27
  · exact w_c28
  · exact w_c29
  · exact w_c30
  · exact w_c31
  · exact w_c32
  · exact w_c33
  · exact w_c34
  · exact w_c35
  · exact w_c36
  · exact w_c37
  · exact w_c38
  · exact w_c39
  · exact w_c40
  · exact w_c41
  · exact w_c42
  · exact w_c43
  · exact w_c44
  · exact w_c45
  · exact w_c46
  · exact w_c47
  · exact w_c48
  · exact w_c49
  · exact w_c50
  · exact w_c51
  · exact w_c52
  · exact w_c53
  · exact w_c54
  · exact w_c55
  · exact w_c56
  · exact w_c57
  · exact w_c58
  · exact w_c59
set_option maxRecDepth 65536 in
theorem w_t1 : (words1.take 24).all (fun c => isCode c || c.before args0 about1) = true := by decide +kernel
set_option maxRecDepth 65536 in
theorem w_t2 : ((words1.drop 24).take 24).all (fun c => isCode c || c.before args0 about1) = true := by decide +kernel
set_option maxRecDepth 65536 in
theorem w_t3 : (((words1.drop 24).drop 24).take 24).all (fun c => isCode c || c.before args0 about1) = true := by decide +kernel
set_option maxRecDepth 65536 in
theorem w_t4 : ((((words1.drop 24).drop 24).drop 24).take 24).all (fun c => isCode c || c.before args0 about1) = true := by decide +kernel
set_option maxRecDepth 65536 in
theorem w_t5 : (((((words1.drop 24).drop 24).drop 24).drop 24).take 24).all (fun c => isCode c || c.before args0 about1) = true := by decide +kernel
set_option maxRecDepth 65536 in
theorem w_t6 : ((((((words1.drop 24).drop 24).drop 24).drop 24).drop 24).take 24).all (fun c => isCode c || c.before args0 about1) = true := by decide +kernel
set_option maxRecDepth 65536 in
theorem w_t7 : (((((((words1.drop 24).drop 24).drop 24).drop 24).drop 24).drop 24).take 24).all (fun c => isCode c || c.before args0 about1) = true := by decide +kernel
set_option maxRecDepth 65536 in
theorem w_t8 : ((((((((words1.drop 24).drop 24).drop 24).drop 24).drop 24).drop 24).drop 24).take 24).all (fun c => isCode c || c.before args0 about1) = true := by decide +kernel
set_option maxRecDepth 65536 in
theorem w_t9 : (((((((((words1.drop 24).drop 24).drop 24).drop 24).drop 24).drop 24).drop 24).drop 24).take 24).all (fun c => isCode c || c.before args0 about1) = true := by decide +kernel
set_option maxRecDepth 65536 in
theorem w_t10 : ((((((((((words1.drop 24).drop 24).drop 24).drop 24).drop 24).drop 24).drop 24).drop 24).drop 24).take 24).all (fun c => isCode c || c.before args0 about1) = true := by decide +kernel
set_option maxRecDepth 65536 in
theorem w_t11 : (((((((((((words1.drop 24).drop 24).drop 24).drop 24).drop 24).drop 24).drop 24).drop 24).drop 24).drop 24).take 24).all (fun c => isCode c || c.before args0 about1) = true := by decide +kernel
set_option maxRecDepth 65536 in
theorem w_t12 : (((((((((((words1.drop 24).drop 24).drop 24).drop 24).drop 24).drop 24).drop 24).drop 24).drop 24).drop 24).drop 24).all (fun c => isCode c || c.before args0 about1) = true := by decide +kernel
theorem w_tables : (allAtoms (Jvm.Cond.code x code maxLocals ret :: tables_1)).before args0 about1 = true := by
  rw [allAtoms_all]
  show words1.all (fun c => c.before args0 about1) = true
  refine all_split ?_ w_codes
  rw [← List.take_append_drop 24 words1, List.all_append, w_t1, ← List.take_append_drop 24 (words1.drop 24), List.all_append, w_t2, ← List.take_append_drop 24 ((words1.drop 24).drop 24), List.all_append, w_t3, ← List.take_append_drop 24 (((words1.drop 24).drop 24).drop 24), List.all_append, w_t4, ← List.take_append_drop 24 ((((words1.drop 24).drop 24).drop 24).drop 24), List.all_append, w_t5, ← List.take_append_drop 24 (((((words1.drop 24).drop 24).drop 24).drop 24).drop 24), List.all_append, w_t6, ← List.take_append_drop 24 ((((((words1.drop 24).drop 24).drop 24).drop 24).drop 24).drop 24), List.all_append, w_t7, ← List.take_append_drop 24 (((((((words1.drop 24).drop 24).drop 24).drop 24).drop 24).drop 24).drop 24), List.all_append, w_t8, ← List.take_append_drop 24 ((((((((words1.drop 24).drop 24).drop 24).drop 24).drop 24).drop 24).drop 24).drop 24), List.all_append, w_t9, ← List.take_append_drop 24 (((((((((words1.drop 24).drop 24).drop 24).drop 24).drop 24).drop 24).drop 24).drop 24).drop 24), List.all_append, w_t10, ← List.take_append_drop 24 ((((((((((words1.drop 24).drop 24).drop 24).drop 24).drop 24).drop 24).drop 24).drop 24).drop 24).drop 24), List.all_append, w_t11, w_t12]
  rfl
set_option maxRecDepth 65536 in
theorem w_rest : rest_1_c.before args0 about1 = true := by decide +kernel
set_option maxRecDepth 65536 in
theorem w_case : (Jvm.Cond.and given_1 narrow_1).before args0 about1 = true := by decide +kernel
theorem w_applies : (headSpec (Jvm.Cond.code x code maxLocals ret :: tables_1) room_1).applies x e0.platform about1 = true :=
  (Spec.applies_iff w_frames).mpr ⟨w_running, w_runnable, w_alone, w_named, w_hears, w_ripe, w_room, w_tables⟩
theorem atStart : AtStart classFile x code maxLocals ret World_1 tables_1 room_1 Calls_1 rest_1 Pre_1 launch0 p0 e0 about1 theMethod args0 below0 :=
  ⟨lists_1, trivial, launch0.admits_env _ _ _, launch0.least_env, fairChoices_fair.cas, fairChoices_fair.clock, w_frames, w_args, w_heap, w_applies, trivial, w_rest, w_case⟩
end start1
theorem witness_1 : WitnessClaimed_1 := ⟨start1.p0, start1.e0, start1.about1, start1.theMethod, start1.args0, start1.below0, start1.atStart⟩
end Jvm.Pilot.@@N@@
