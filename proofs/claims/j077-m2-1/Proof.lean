import JvmDerived
import JvmDerived.Pilot.@@N@@Statement
import JvmDerived.Pilot.@@N@@Code
set_option linter.unusedVariables false
set_option linter.unusedSimpArgs false
namespace Jvm.RoadKit
open Sem ClassFile Op Lib Jvm.Stand Jvm.Free Jvm.LawKit
section New
variable {p : Program} {l : Launch} {e : Env} {R : Room} {s : State} {m : MethodId} {args : Array Value} {below : List Frame} {meth : Method} {c : Code} {T T' : State} {locs : List Loc} {cells slots : Nat} {Q : Option Value → Heap → List Loc → Prop} {cc ss : Nat} {g g' : JFrame} {pc : Nat} {Ls : Array Slot}
/-- from here the body comes to an end that meets Q -/
def own_Goes (p : Program) (e : Env) (below : List Frame) (s : State) (Q : Option Value → Heap → List Loc → Prop) (cc ss : Nat) (T : State) (g : JFrame) : Prop :=
  ∃ s₂ o, Steps p.tables e below (T.setTop g) s₂ ∧ s₂.status = .running ∧ Ended s₂ below o ∧ ∃ v L, o = .returned v ∧ Q v s₂.heap L ∧ FrameEnd s o s₂ L cc ss
theorem own_st (h : ∀ t, Steps p.tables e below (T'.setTop g') t → Steps p.tables e below (T.setTop g) t) (k : own_Goes p e below s Q cc ss T' g') : own_Goes p e below s Q cc ss T g := by
  obtain ⟨s₂, o, h1, r⟩ := k; exact ⟨s₂, o, h _ h1, r⟩
theorem own_end {v : Option Value} (X : Stand p l e R s m args below meth c T locs cells slots) (hlk : meth.locks = false) (hv : meth.sig.returnType = none → v = none) (hc : cells ≤ cc) (hs : slots ≤ ss) (hQ : Q v T.heap locs)
    (st : ∀ fs, (∀ (f : JFrame) (acts : List Action), f.method = m → f.locked = none → f.entered = [] → (doReturn e (T.setTop f) acts v).1 = T.setFrames fs) → Steps p.tables e below (T.setTop g) (T.setFrames fs)) : own_Goes p e below s Q cc ss T g := by
  obtain ⟨fs, hr, hrun, hended, hW, hsame⟩ := X.leave (v := v) hv hlk
  exact ⟨_, _, st fs hr, hrun, hended, _, _, rfl, hQ, ⟨_, rfl⟩, hW, hsame.mono hc hs⟩
theorem own_retN (X : Stand p l e R s m args below meth c T locs cells slots) (hx : p.tables.exec = Jvm.exec) (hlk : meth.locks = false) {t : FieldType} {z : Int32} {rest : List Value} (hret : meth.sig.returnType = some t) (ht : t = .boolean ∨ t = .byte ∨ t = .char ∨ t = .short) (hd : decode c.code pc = .ok (.ireturn, 1)) (hc : cells ≤ cc) (hs : slots ≤ ss) (hQ : Q (some (.int (nar t z))) T.heap locs) : own_Goes p e below s Q cc ss T (mkF m pc Ls (.int z :: rest)) :=
  own_end X hlk (fun h => by rw [hret] at h; cases h) hc hs hQ fun fs hr => retN X hx hret ht hd hr
theorem own_retI (X : Stand p l e R s m args below meth c T locs cells slots) (hx : p.tables.exec = Jvm.exec) (hlk : meth.locks = false) {z : Int32} {rest : List Value} (hret : meth.sig.returnType = some .int) (hd : decode c.code pc = .ok (.ireturn, 1)) (hc : cells ≤ cc) (hs : slots ≤ ss) (hQ : Q (some (.int z)) T.heap locs) : own_Goes p e below s Q cc ss T (mkF m pc Ls (.int z :: rest)) :=
  own_end X hlk (fun h => by rw [hret] at h; cases h) hc hs hQ fun fs hr => retOut X hx hret rfl (Or.inl ⟨rfl, Or.inl rfl, _, rfl⟩) hd hr
theorem own_retL (X : Stand p l e R s m args below meth c T locs cells slots) (hx : p.tables.exec = Jvm.exec) (hlk : meth.locks = false) {z : Int64} {rest : List Value} (hret : meth.sig.returnType = some .long) (hd : decode c.code pc = .ok (.lreturn, 1)) (hc : cells ≤ cc) (hs : slots ≤ ss) (hQ : Q (some (.long z)) T.heap locs) : own_Goes p e below s Q cc ss T (mkF m pc Ls (.long z :: rest)) :=
  own_end X hlk (fun h => by rw [hret] at h; cases h) hc hs hQ fun fs hr => retOut X hx hret rfl (Or.inr (Or.inl ⟨rfl, rfl, _, rfl⟩)) hd hr
theorem own_narR {t : FieldType} {w : Value} (hw : w.isRef = true) : narrow t w = w := by rcases ref_cases hw with rfl | ⟨a, rfl⟩ <;> cases t <;> rfl
theorem own_fitR {n : String} {w : Value} (hw : w.isRef = true) : fits (.object n) w = true := by rcases ref_cases hw with rfl | ⟨a, rfl⟩ <;> rfl
theorem own_retA (X : Stand p l e R s m args below meth c T locs cells slots) (hx : p.tables.exec = Jvm.exec) (hlk : meth.locks = false) {w : Value} {t : FieldType} {rest : List Value} (hw : w.isRef = true) (hret : meth.sig.returnType = some t) (ht : t.isReference = true) (hd : decode c.code pc = .ok (.areturn, 1)) (hc : cells ≤ cc) (hs : slots ≤ ss) (hQ : Q (some w) T.heap locs) : own_Goes p e below s Q cc ss T (mkF m pc Ls (w :: rest)) :=
  own_end X hlk (fun h => by rw [hret] at h; cases h) hc hs hQ fun fs hr => retOut X hx hret (own_narR hw) (Or.inr (Or.inr (Or.inr (Or.inr ⟨rfl, ht, hw⟩)))) hd hr
theorem own_ret0 (X : Stand p l e R s m args below meth c T locs cells slots) (hx : p.tables.exec = Jvm.exec) (hlk : meth.locks = false) (hret : meth.sig.returnType = none) (hd : decode c.code pc = .ok (.return_, 1)) (hc : cells ≤ cc) (hs : slots ≤ ss) (hQ : Q none T.heap locs) : own_Goes p e below s Q cc ss T (mkF m pc Ls []) :=
  own_end X hlk (fun _ => rfl) hc hs hQ fun fs hr => X.returnOut hx hret hd hr
theorem own_nsr {Z : State} {a0 : Array Value} {O K : String} {n : Nat} (w : (Cond.noSuperclass O).before a0 Z = true) (wk : (Cond.instantiable K n).before a0 Z = true) (hn : O ≠ K) : NS Z O K := by
  obtain ⟨c, k, h1, h2, h3, -, -⟩ := Cond.noSuperclass_spec w
  obtain ⟨t, kt, g1, -⟩ := Cond.instantiable_spec wk
  have ne := ids_ne h1 g1 hn
  refine ⟨c, t, h1, g1, fun fuel => ?_⟩
  cases fuel with
  | zero => rfl
  | succ f => simp [Vm.isSubclassAux, ne, h2, h3]
theorem own_nsn {Z : State} {a0 : Array Value} {C S K : String} {n : Nat} (w : (Cond.superclass C S).before a0 Z = true) (wk : (Cond.instantiable K n).before a0 Z = true) (q : NS Z C K) (hn : C ≠ K) : ∃ c t, Z.vm.findClass C = some c ∧ Z.vm.findClass K = some t ∧ Z.vm.assignable c t = false := by
  obtain ⟨c, t, h0, g0, n3⟩ := q
  obtain ⟨p, k, kp, h1, h2, h3, h4, h5, -, h7⟩ := Cond.superclass_spec h0 w
  obtain ⟨t', kt, g1, g2, g5, g6, -⟩ := Cond.instantiable_spec wk
  cases g0.symm.trans g1
  have g7 : kt.isInterface = false := by simp only [Bool.or_eq_false_iff] at g6; exact g6.1
  have ne := ids_ne h0 g0 hn
  refine ⟨c, t, h0, g0, ?_⟩
  show Z.vm.assignableAux (255 + 1) c t = false
  simp [Vm.assignableAux, ne, h2, g2, h5, g5, g7, Vm.isSubclass, n3]
theorem own_Sta_keep {Z : State} {h h' : Heap} {ws : List Addr} {C n d : String} {w : Value} (F : Sta Z h C n d w) (K : Keep h h' ws) (q : ∀ x ∈ ws, ∀ cell : Cell, h[x]? = some cell → cell.vm.isStatics = false) : Sta Z h' C n d w := by
  obtain ⟨cf, i, k, f, st, cell, h1, h2, h3, h4, h5, h6, h7⟩ := F
  exact ⟨cf, i, k, f, st, cell, h1, h2, h3, h4, K.2.1 st cell h5 (fun z => by rw [q st z cell h5] at h6; cases h6), h6, h7⟩
end New
end Jvm.RoadKit
namespace OwnFP
open Jvm.FP.Core
theorem qmin64 : b64.qmin = -1074 := by decide +kernel
theorem qmax64 : b64.qmax = 971 := by decide +kernel
theorem tails64 : b64.tails = 4503599627370496 := by decide +kernel
theorem p64 : (2 : Nat) ^ b64.p = 9007199254740992 := by decide +kernel
theorem pp : b64.p = 53 := rfl
/-- a datum times 2^k -/
def sh (k : Nat) : Datum → Datum
  | .fin s c q => .fin s c (q + k)
  | d => d
theorem sh_sum (k : Nat) (x y : Datum) : sh k (exactSum x y) = exactSum (sh k x) (sh k y) := by
  cases x <;> cases y <;> try rfl
  · rename_i s t; cases s <;> cases t <;> rfl
  · rename_i s c q t d r
    simp only [exactSum, sh]
    have hm : min (q + (k : Int)) (r + k) = min q r + k := by omega
    have hs : sumUnits s c (q + k) t d (r + k) (min q r + k) = sumUnits s c q t d r (min q r) := by
      unfold sumUnits inUnits
      rw [show q + (k : Int) - (min q r + k) = q - min q r by omega, show r + (k : Int) - (min q r + k) = r - min q r by omega]
    rw [hm, hs]
theorem sh_neg (k : Nat) (x : Datum) : sh k (negate x) = negate (sh k x) := by cases x <;> rfl
theorem rd (s : Bool) {n k : Nat} (hk : k ≤ 10) (hn : n ≤ 9223372036854775808) : ∃ c q j, roundRatio b64 s n 1 (-(k : Int)) = .fin s c q ∧ c * 2 ^ (q + k).toNat = j * 2 ^ (-(q + (k : Int))).toNat ∧ (n ≤ 9007199254740992 → j = n) ∧ j ≤ n + 1024 ∧ n ≤ j + 1024 := by
  by_cases h0 : n = 0
  · subst h0
    exact ⟨0, b64.qmin, 0, by unfold roundRatio; simp, by simp, fun _ => rfl, by omega, by omega⟩
  by_cases hs : n ≤ 9007199254740992
  · obtain ⟨c, q, hf, hv⟩ := natFit good_b64 wide_b64 s (n := n) (by rw [p64]; exact hs)
    obtain ⟨f1, f2, f3, f4⟩ := hf
    rw [qmin64] at f2 f4; rw [qmax64] at f3; rw [p64] at f1
    have hq : -53 < q := by
      refine Int.lt_of_not_ge fun hq => ?_
      rw [show (q - 0).toNat = 0 by omega, Nat.pow_zero, Nat.mul_one, Nat.mul_one] at hv
      have h1 : 2 ^ 53 ≤ 2 ^ (0 - q).toNat := Nat.pow_le_pow_right (by decide) (by omega)
      have h2 : 1 * 2 ^ (0 - q).toNat ≤ n * 2 ^ (0 - q).toNat := Nat.mul_le_mul_right _ (by omega)
      omega
    refine ⟨c, q - k, n, roundRatio_exact good_b64 (by decide) ⟨by rw [p64]; exact f1, by rw [qmin64]; omega, by rw [qmax64]; omega, ?_⟩ ?_, ?_, fun _ => rfl, by omega, by omega⟩
    · rcases f4 with f4 | f4
      · omega
      · exact .inr f4
    · rw [show (-(k : Int) - (q - k)).toNat = (0 - q).toNat by omega, show (q - (k : Int) - -k).toNat = (q - 0).toNat by omega]; exact hv
    · rw [show (q - (k : Int) + k).toNat = (q - 0).toNat by omega, show (-(q - (k : Int) + k)).toNat = (0 - q).toNat by omega, hv, Nat.mul_one]
  · have l1 : 2 ^ n.log2 ≤ n := Nat.log2_self_le h0
    have l2 : n < 2 ^ (n.log2 + 1) := Nat.lt_log2_self
    have l3 : 53 ≤ n.log2 := by
      have : 2 ^ 53 < 2 ^ (n.log2 + 1) := by omega
      have := (Nat.pow_lt_pow_iff_right (by decide : 1 < 2)).mp this
      omega
    generalize n.log2 = L at l1 l2 l3
    obtain ⟨t, rfl⟩ : ∃ t, L = t + 52 := ⟨L - 52, by omega⟩
    rw [Nat.pow_add] at l1
    rw [show t + 52 + 1 = t + 53 by omega, Nat.pow_add] at l2
    have hp : 0 < 2 ^ t := Nat.two_pow_pos t
    have ht : t ≤ 11 := by
      refine Nat.le_of_not_lt fun h => ?_
      have : 2 ^ 12 ≤ 2 ^ t := Nat.pow_le_pow_right (by decide) h
      omega
    have hqq : quantum b64 n 1 (-(k : Int)) = t - k := by
      refine quantum_eq (by omega) (by decide) (by rw [qmin64]; omega) ?_ (.inr ?_)
      · rw [← units_below, pp]; unfold unitsNum unitsDen
        rw [show (-(k : Int) - (t - k)).toNat = 0 by omega, show ((t : Int) - k - -k).toNat = t by omega]
        omega
      · rw [show ((b64.p : Nat) : Int) - 1 = ((52 : Nat) : Int) by rw [pp]; rfl, ← units_below]; unfold unitsNum unitsDen
        rw [show (-(k : Int) - (t - k)).toNat = 0 by omega, show ((t : Int) - k - -k).toNat = t by omega]
        omega
    have hr : roundRatio b64 s n 1 (-(k : Int)) = settle b64 s (nearest n (2 ^ t)) (t - k) := by
      unfold roundRatio
      rw [if_neg h0, hqq]
      unfold roundAt unitsNum unitsDen
      rw [show (-(k : Int) - (t - k)).toNat = 0 by omega, show ((t : Int) - k - -k).toNat = t by omega, Nat.pow_zero, Nat.mul_one, Nat.one_mul]
    obtain ⟨n1, n2, _⟩ := nearest_spec n (2 ^ t) hp
    have n3 : nearest n (2 ^ t) ≤ 9007199254740992 := nearest_le hp (by omega)
    have hP : 2 ^ t ≤ 2 ^ 11 := Nat.pow_le_pow_right (by decide) ht
    generalize nearest n (2 ^ t) = m at n1 n2 n3 hr
    have e1 : (2 * m + 1) * 2 ^ t = 2 * (m * 2 ^ t) + 2 ^ t := by rw [Nat.add_mul, Nat.one_mul, Nat.mul_assoc]
    have e2 : 2 * m * 2 ^ t = 2 * (m * 2 ^ t) := Nat.mul_assoc ..
    rw [e1] at n1; rw [e2] at n2
    rw [hr]
    unfold settle bound
    rw [p64, qmax64]
    by_cases hm : m < 9007199254740992
    · refine ⟨m, t - k, m * 2 ^ t, by rw [if_pos hm, if_pos (by omega)], ?_, fun h => absurd h hs, by omega, by omega⟩
      rw [show ((t : Int) - k + k).toNat = t by omega, show (-((t : Int) - k + k)).toNat = 0 by omega, Nat.pow_zero, Nat.mul_one]
    · have hm' : m = 9007199254740992 := by omega
      refine ⟨4503599627370496, t - k + 1, m * 2 ^ t, by rw [if_neg hm, if_pos (by omega), tails64], ?_, fun h => absurd h hs, by omega, by omega⟩
      rw [show ((t : Int) - k + 1 + k).toNat = t + 1 by omega, show (-((t : Int) - k + 1 + k)).toNat = 0 by omega, Nat.pow_zero, Nat.mul_one, Nat.pow_succ, hm']
      omega
theorem signed_abs {i : Int} {s : Bool} {c : Nat} {q : Int} (h : Whole i (.fin s c q)) : signed s i.natAbs = i := by
  by_cases hi : i = 0
  · rw [hi]; exact signed_zero s
  · rw [whole_sign h hi]
    unfold signed
    by_cases h : i < 0 <;> simp [h] <;> omega
theorem rd_whole {i : Int} {k : Nat} {s : Bool} (hk : k ≤ 10) (hi : i.natAbs ≤ 9223372036854775808) (hs : signed s i.natAbs = i) : ∃ r, Whole r (sh k (roundRatio b64 s i.natAbs 1 (-(k : Int)))) ∧ (i.natAbs ≤ 9007199254740992 → r = i) ∧ (r - i).natAbs ≤ 1024 := by
  obtain ⟨c, q, j, h1, h2, h3, h4, h5⟩ := rd s hk hi
  refine ⟨signed s j, ?_, fun h => by rw [h3 h, hs], ?_⟩
  · rw [h1]; show signed s (c * 2 ^ (q + (k : Int)).toNat) = _
    rw [h2, signed_mul]
  · generalize hn : i.natAbs = n at *
    subst hs
    cases s <;> simp only [signed] <;> simp <;> omega
theorem round_sc {i : Int} {k : Nat} (hk : k ≤ 10) (hi : i.natAbs ≤ 9223372036854775808) {d : Datum} (h : Whole i (sh k d)) : ∃ r, Whole r (sh k (round b64 d)) ∧ (i.natAbs ≤ 9007199254740992 → r = i) ∧ (r - i).natAbs ≤ 1024 := by
  cases d with
  | nan => exact h.elim
  | inf => exact h.elim
  | fin s c q =>
    have hv := whole_natAbs h
    have : round b64 (.fin s c q) = roundRatio b64 s i.natAbs 1 (-(k : Int)) := by
      refine roundRatio_congr (by decide) (by decide) ?_
      rw [show (q - -(k : Int)).toNat = (q + k).toNat by omega, show (-(k : Int) - q).toNat = (-(q + (k : Int))).toNat by omega]
      simpa using hv
    rw [this]
    exact rd_whole hk hi (signed_abs h)
def DS (k : Nat) (i : Int) (a : UInt64) : Prop := Whole i (sh k (val64 a))
theorem sh0 (d : Datum) : sh 0 d = d := by cases d <;> simp [sh]
theorem ds0 {i : Int} {a : UInt64} : DS 0 i a ↔ DInt i a := by unfold DS DInt; rw [sh0]
theorem dadd_ds {i j : Int} {k : Nat} {a b : UInt64} (hk : k ≤ 10) (ha : DS k i a) (hb : DS k j b) (h : (i + j).natAbs ≤ 9223372036854775808) : ∃ r, DS k r (dadd a b) ∧ ((i + j).natAbs ≤ 9007199254740992 → r = i + j) ∧ (r - (i + j)).natAbs ≤ 1024 := by
  unfold DS at *
  rw [val64_dadd]
  refine round_sc hk h ?_
  rw [sh_sum]; exact whole_sum ha hb
theorem dsub_ds {i j : Int} {k : Nat} {a b : UInt64} (hk : k ≤ 10) (ha : DS k i a) (hb : DS k j b) (h : (i - j).natAbs ≤ 9223372036854775808) : ∃ r, DS k r (dsub a b) ∧ ((i - j).natAbs ≤ 9007199254740992 → r = i - j) ∧ (r - (i - j)).natAbs ≤ 1024 := by
  unfold DS at *
  rw [val64_dsub]
  refine round_sc hk h ?_
  rw [sh_sum, sh_neg, Int.sub_eq_add_neg]; exact whole_sum ha (whole_negate hb)
theorem pow_val (k : Nat) (hk : k ≤ 10) : val64 (l2d (Int64.ofNat (2 ^ k))) = .fin false (2 ^ 52) ((k : Int) - 52) := by
  have : ∀ k : Fin 11, val64 (l2d (Int64.ofNat (2 ^ k.val))) = .fin false (2 ^ 52) ((k.val : Int) - 52) := by decide +kernel
  exact this ⟨k, by omega⟩
theorem ddiv_ds {i : Int} {k : Nat} {a b : UInt64} (hk : k ≤ 10) (ha : DInt i a) (hb : val64 b = .fin false (2 ^ 52) ((k : Int) - 52)) (h : i.natAbs ≤ 9007199254740992) : DS k i (ddiv a b) := by
  unfold DS DInt at *
  rw [val64_ddiv, hb]
  generalize val64 a = d at ha
  cases d with
  | nan => exact ha.elim
  | inf => exact ha.elim
  | fin s c q =>
    have hv := whole_natAbs ha
    simp only [quotient]
    rw [if_neg (by decide)]
    have : roundRatio b64 (s != false) c (2 ^ 52) (q - ((k : Int) - 52)) = roundRatio b64 s i.natAbs 1 (-(k : Int)) := by
      rw [show (s != false) = s by cases s <;> rfl]
      refine roundRatio_congr (by decide) (by decide) ?_
      rw [show (q - ((k : Int) - 52) - -(k : Int)).toNat = (q + 52).toNat by omega, show (-(k : Int) - (q - ((k : Int) - 52))).toNat = (-(q + 52)).toNat by omega, Nat.mul_one, Nat.mul_assoc, ← Nat.pow_add]
      refine Nat.eq_of_mul_eq_mul_right (Nat.two_pow_pos q.toNat) ?_
      rw [Nat.mul_right_comm, hv, Nat.mul_assoc, ← Nat.pow_add, Nat.mul_assoc, ← Nat.pow_add, show (-q).toNat + (q + 52).toNat = (52 + (-(q + 52)).toNat) + q.toNat by omega]
    rw [this]
    obtain ⟨r, h1, h2, _⟩ := rd_whole (s := s) hk (by omega) (signed_abs ha)
    rw [h2 h] at h1; exact h1
theorem dmul_ds {i : Int} {k : Nat} {a b : UInt64} (hk : k ≤ 10) (ha : DS k i a) (hb : val64 b = .fin false (2 ^ 52) ((k : Int) - 52)) (h : i.natAbs ≤ 9223372036854775808) : DInt i (dmul a b) := by
  unfold DS DInt at *
  have hf := val64_fits a
  rw [val64_dmul, hb]
  generalize val64 a = d at ha hf
  cases d with
  | nan => exact ha.elim
  | inf => exact ha.elim
  | fin s c q =>
    have hz := whole_zero ha
    have hv := whole_natAbs ha
    simp only [exactProduct, round]
    rw [show (s != false) = s by cases s <;> rfl]
    by_cases h0 : i = 0
    · have hc := hz.mpr h0
      subst hc; subst h0
      unfold roundRatio
      rw [if_pos (by simp)]
      show signed s (0 * _) = 0 * _
      rw [Nat.zero_mul, Int.zero_mul]; exact signed_zero s
    · obtain ⟨f1, f2, f3, f4⟩ := hf
      rw [qmin64] at f2 f4; rw [qmax64] at f3; rw [p64] at f1
      have hi : 1 ≤ i.natAbs := by omega
      have hq : -64 < q := by
        refine Int.lt_of_not_ge fun hq => ?_
        rw [show (q + (k : Int)).toNat = 0 by omega, Nat.pow_zero, Nat.mul_one] at hv
        have h1 : 2 ^ 54 ≤ 2 ^ (-(q + (k : Int))).toNat := Nat.pow_le_pow_right (by decide) (by omega)
        have h2 : 1 * 2 ^ (-(q + (k : Int))).toNat ≤ i.natAbs * 2 ^ (-(q + (k : Int))).toNat := Nat.mul_le_mul_right _ hi
        omega
      have hq2 : q + k ≤ 64 := by
        refine Int.le_of_not_gt fun hq => ?_
        rw [show (-(q + (k : Int))).toNat = 0 by omega, Nat.pow_zero, Nat.mul_one] at hv
        have h1 : 2 ^ 64 ≤ 2 ^ (q + (k : Int)).toNat := Nat.pow_le_pow_right (by decide) (by omega)
        have h2 : 1 * 2 ^ (q + (k : Int)).toNat ≤ c * 2 ^ (q + (k : Int)).toNat := Nat.mul_le_mul_right _ (by omega)
        omega
      rw [roundRatio_exact (c := c) (q := q + k) good_b64 (by decide) ⟨by rw [p64]; exact f1, by rw [qmin64]; omega, by rw [qmax64]; omega, ?_⟩ ?_]
      · exact ha
      · rcases f4 with f4 | f4
        · omega
        · exact .inr f4
      · rw [show (q + ((k : Int) - 52) - (q + k)).toNat = 0 by omega, show (q + (k : Int) - (q + ((k : Int) - 52))).toNat = 52 by omega, Nat.pow_zero, Nat.mul_one, Nat.mul_one]
theorem ds_num {i : Int} {k : Nat} {a : UInt64} (h : DS k i a) : val64 a ≠ .nan := by
  intro hn; unfold DS at h; rw [hn] at h; exact h
/-- a value that a double has is rounded to itself -/
theorem exact_ds {i : Int} {k : Nat} {d : Datum} {a' : UInt64} (hk : k ≤ 10) (h : Whole i (sh k d)) (ha : DS k i a') : Whole i (sh k (round b64 d)) := by
  by_cases h0 : i = 0
  · obtain ⟨r, h1, h2, _⟩ := round_sc hk (by omega) h
    rw [h2 (by omega)] at h1; exact h1
  · unfold DS at ha
    have hf := val64_fits a'
    generalize val64 a' = d' at ha hf
    cases d with
    | nan => exact h.elim
    | inf => exact h.elim
    | fin s c q =>
    cases d' with
    | nan => exact ha.elim
    | inf => exact ha.elim
    | fin t c' q' =>
      have e : ∀ {s c q}, Whole i (sh k (.fin s c q)) → round b64 (.fin s c q) = roundRatio b64 s i.natAbs 1 (-(k : Int)) := by
        intro s c q h
        have hv := whole_natAbs h
        refine roundRatio_congr (by decide) (by decide) ?_
        rw [show (q - -(k : Int)).toNat = (q + k).toNat by omega, show (-(k : Int) - q).toNat = (-(q + (k : Int))).toNat by omega]
        simpa using hv
      rw [e h, show s = t by rw [whole_sign h h0, whole_sign ha h0], ← e ha, round_of_fits good_b64 hf]
      exact ha
theorem dsub_ex {i j : Int} {k : Nat} {a b a' : UInt64} (hk : k ≤ 10) (ha : DS k i a) (hb : DS k j b) (h : DS k (i - j) a') : DS k (i - j) (dsub a b) := by
  have : Whole (i - j) (sh k (exactSum (val64 a) (negate (val64 b)))) := by
    rw [sh_sum, sh_neg, Int.sub_eq_add_neg]; exact whole_sum ha (whole_negate hb)
  have := exact_ds hk this h
  unfold DS; rw [val64_dsub]; exact this
theorem l2d_ex {a : Int64} {x : UInt64} (h : DInt a.toInt x) : DInt a.toInt (l2d a) := by
  rw [← ds0] at h ⊢
  unfold DS; rw [val64_l2d]
  exact exact_ds (by omega) (by rw [sh0]; exact whole_ofInt _) h
theorem ds_up {i : Int} {a : UInt64} (k : Nat) (h : DInt i a) : DS k (i * ((2 ^ k : Nat) : Int)) a := by
  unfold DS DInt at *
  generalize val64 a = d at h
  cases d with
  | nan => exact h.elim
  | inf => exact h.elim
  | fin s c q =>
    show signed s (c * 2 ^ (q + (k : Int)).toNat) = i * _ * _
    have h' : signed s (c * 2 ^ q.toNat) = i * ((2 ^ (-q).toNat : Nat) : Int) := h
    have p2 : ((2 ^ q.toNat : Nat) : Int) ≠ 0 := by have := Nat.two_pow_pos q.toNat; omega
    refine Int.eq_of_mul_eq_mul_right p2 ?_
    rw [← signed_mul, Nat.mul_right_comm, signed_mul, h', Int.mul_assoc, ← Int.natCast_mul, ← Nat.pow_add, Int.mul_assoc, Int.mul_assoc, ← Int.natCast_mul, ← Int.natCast_mul, ← Nat.pow_add, ← Nat.pow_add, show (-q).toNat + (q + (k : Int)).toNat = k + ((-(q + (k : Int))).toNat + q.toNat) by omega]
/-- ExactSum.sumError -/
def sumErr (a b s : UInt64) : UInt64 := dadd (dsub a (dsub s (dsub s a))) (dsub b (dsub s a))
theorem err0 {α β σ : Int} {k : Nat} {a b s : UInt64} (hk : k ≤ 10) (ha : DS k α a) (hb : DS k β b) (hs : DS k σ s) (h1 : α.natAbs ≤ 4611686018427387904) (h2 : β.natAbs ≤ 4503599627370496) (h3 : (σ - (α + β)).natAbs ≤ 1024) :
    DS k (σ - α) (dsub s a) ∧ DS k α (dsub s (dsub s a)) ∧ DS k 0 (dsub a (dsub s (dsub s a))) ∧ DS k (α + β - σ) (dsub b (dsub s a)) ∧ DS k (α + β - σ) (sumErr a b s) := by
  obtain ⟨r1, x1, y1, _⟩ := dsub_ds hk hs ha (by omega)
  obtain rfl := y1 (by omega)
  have x2 : DS k α (dsub s (dsub s a)) := by
    have := dsub_ex (i := σ) (j := σ - α) (a' := a) hk hs x1 (by rw [show σ - (σ - α) = α by omega]; exact ha)
    rw [show σ - (σ - α) = α by omega] at this; exact this
  obtain ⟨r3, x3, y3, _⟩ := dsub_ds hk ha x2 (by omega)
  obtain rfl := y3 (by omega)
  rw [show α - α = 0 by omega] at x3
  obtain ⟨r4, x4, y4, _⟩ := dsub_ds hk hb x1 (by omega)
  obtain rfl := y4 (by omega)
  rw [show β - (σ - α) = α + β - σ by omega] at x4
  obtain ⟨r5, x5, y5, _⟩ := dadd_ds hk x3 x4 (by omega)
  obtain rfl := y5 (by omega)
  rw [show 0 + (α + β - σ) = α + β - σ by omega] at x5
  exact ⟨x1, x2, x3, x4, x5⟩
theorem err1 {α β σ : Int} {k : Nat} {a b s : UInt64} (hk : k ≤ 10) (ha : DS k α a) (hb : DS k β b) (hs : DS k σ s) (h1 : α.natAbs ≤ 4611686018427387904) (h2 : β.natAbs ≤ 4503599627370496) (h3 : (σ - (α + β)).natAbs ≤ 1024) :
    ∃ r1 r2 r3 r4, DS k r1 (dsub s b) ∧ DS k r2 (dsub s (dsub s b)) ∧ DS k r3 (dsub b (dsub s (dsub s b))) ∧ DS k r4 (dsub a (dsub s b)) ∧ DS k (α + β - σ) (sumErr b a s) := by
  obtain ⟨r1, x1, _, y1⟩ := dsub_ds hk hs hb (by omega)
  obtain ⟨r2, x2, y2, _⟩ := dsub_ds hk hs x1 (by omega)
  obtain rfl := y2 (by omega)
  obtain ⟨r3, x3, y3, _⟩ := dsub_ds hk hb x2 (by omega)
  obtain rfl := y3 (by omega)
  obtain ⟨r4, x4, y4, _⟩ := dsub_ds hk ha x1 (by omega)
  obtain rfl := y4 (by omega)
  obtain ⟨r5, x5, y5, _⟩ := dadd_ds hk x3 x4 (by omega)
  obtain rfl := y5 (by omega)
  rw [show β - (σ - r1) + (α - r1) = α + β - σ by omega] at x5
  exact ⟨_, _, _, _, x1, x2, x3, x4, x5⟩

open Jvm Jvm.Free.Fl Jvm.Op
def Done (bA bB pw : Int64) (s q er : UInt64) : Prop := NoNaN64 er ∧ NoNaN64 (dmul s q) ∧ NoNaN64 (dmul er q) ∧ cmpValue (dcmp (l2d (d2l (dmul s q))) (dmul s q)) .l = 0 ∧ cmpValue (dcmp (l2d (d2l (dmul er q))) (dmul er q)) .l = 0 ∧ d2l (dmul s q) + d2l (dmul er q) = bA * pw + bB
theorem ds_no {i : Int} {k : Nat} {a : UInt64} (h : DS k i a) : NoNaN64 a := val64_no.mpr (ds_num h)
theorem int_cmp {σ : Int} {x : UInt64} (h : DInt σ x) (h1 : -9223372036854775808 ≤ σ) (h2 : σ < 9223372036854775808) : d2l x = Int64.ofInt σ ∧ cmpValue (dcmp (l2d (d2l x)) x) .l = 0 := by
  have hz : (Int64.ofInt σ).toInt = σ := Int64.toInt_ofInt_of_le (by simpa using h1) (by simpa using h2)
  have e : d2l x = Int64.ofInt σ := d2l_int (by rw [hz]; exact h)
  refine ⟨e, ?_⟩
  have hl : DInt σ (l2d (Int64.ofInt σ)) := by
    have := l2d_ex (a := Int64.ofInt σ) (x := x) (by rw [hz]; exact h)
    rw [hz] at this; exact this
  rw [e, dcmp_int hl h, compare_self_int]; rfl
theorem done {bA bB pw : Int64} {s q er : UInt64} {k : Nat} {σ ε : Int} (hk : k ≤ 10) (hp : pw = Int64.ofNat (2 ^ k)) (hq : val64 q = .fin false (2 ^ 52) ((k : Int) - 52)) (hs : DS k σ s) (he : DS k ε er) (h1 : σ.natAbs ≤ 4616189618054759424) (h2 : ε.natAbs ≤ 1024) (h : σ + ε = bA.toInt * ((2 ^ k : Nat) : Int) + bB.toInt) : Done bA bB pw s q er := by
  have x1 := dmul_ds hk hs hq (by omega)
  have x2 := dmul_ds hk he hq (by omega)
  obtain ⟨d1, c1⟩ := int_cmp x1 (by omega) (by omega)
  obtain ⟨d2, c2⟩ := int_cmp x2 (by omega) (by omega)
  refine ⟨ds_no he, ds_no (ds0.mpr x1), ds_no (ds0.mpr x2), c1, c2, ?_⟩
  rw [d1, d2, ← Int64.ofInt_add, h, Int64.ofInt_add, Int64.ofInt_mul, Int64.ofInt_toInt, Int64.ofInt_toInt, hp]
  rfl
theorem all {bA bB pw : Int64} {k : Nat} (hk : k ≤ 10) (hp : pw = Int64.ofNat (2 ^ k)) (hA : bA.toInt.natAbs ≤ 4503599627370496) (hB : bB.toInt.natAbs ≤ 4503599627370496) {a b q s : UInt64} (ea : a = l2d bA) (eq : q = l2d pw) (eb : b = ddiv (l2d bB) q) (es : s = dadd a b) :
    NoNaN64 b ∧ NoNaN64 s ∧ Done bA bB pw s q (sumErr a b s) ∧ Done bA bB pw s q (sumErr b a s) := by
  have hq : val64 q = .fin false (2 ^ 52) ((k : Int) - 52) := by rw [eq, hp]; exact pow_val k hk
  have ha0 : DInt bA.toInt a := by rw [ea]; exact l2d_int (by omega)
  have ha := ds_up k ha0
  have hb : DS k bB.toInt b := by rw [eb]; exact ddiv_ds hk (l2d_int (by omega)) hq (by omega)
  have h62 : (bA.toInt * ((2 ^ k : Nat) : Int)).natAbs ≤ 4611686018427387904 := by
    rw [Int.natAbs_mul, Int.natAbs_natCast]
    have : 2 ^ k ≤ 2 ^ 10 := Nat.pow_le_pow_right (by decide) hk
    exact Nat.le_trans (Nat.mul_le_mul hA this) (by decide)
  generalize hα : bA.toInt * ((2 ^ k : Nat) : Int) = α at ha h62
  generalize hβ : bB.toInt = β at hb hB
  obtain ⟨σ, hs, _, h3⟩ := dadd_ds hk ha hb (by omega)
  rw [← es] at hs
  obtain ⟨_, _, _, _, e0⟩ := err0 hk ha hb hs h62 hB h3
  obtain ⟨_, _, _, _, _, _, _, _, e1⟩ := err1 hk ha hb hs h62 hB h3
  exact ⟨ds_no hb, ds_no hs, done hk hp hq hs e0 (by omega) (by omega) (by rw [hα, hβ]; omega), done hk hp hq hs e1 (by omega) (by omega) (by rw [hα, hβ]; omega)⟩
theorem b52 (y : Int64) : (y >>> ((11 : Int32) &&& 0x3f).toInt64).toInt.natAbs ≤ 4503599627370496 := by
  rw [show ((11 : Int32) &&& 0x3f).toInt64 = 11 by decide]
  have e : (y >>> (11 : Int64)).toInt = y.toInt / 2048 := by
    show ((y >>> (11 : Int64)).toBitVec).toInt = _
    rw [Int64.toBitVec_shiftRight, show ((11 : Int64).toBitVec.smod 64) = 11#64 by decide, BitVec.sshiftRight_eq', BitVec.toInt_sshiftRight, Int.shiftRight_eq_div_pow]
    rfl
  rw [e]
  have := y.toInt_lt
  have := y.le_toInt
  omega
theorem pw_ex {s : Int32} (h : 0 ≤ s.toInt ∧ s.toInt < 11) : ∃ k, k ≤ 10 ∧ (1 : Int64) <<< (s &&& 0x3f).toInt64 = Int64.ofNat (2 ^ k) := by
  have q : ∀ k : Fin 11, (1 : Int64) <<< ((Int32.ofInt (k.val : Int)) &&& 0x3f).toInt64 = Int64.ofNat (2 ^ k.val) := by decide
  have := q ⟨s.toInt.toNat, by omega⟩
  rw [show (((⟨s.toInt.toNat, by omega⟩ : Fin 11).val : Nat) : Int) = s.toInt by simp only []; omega, Int32.ofInt_toInt] at this
  exact ⟨_, by omega, this⟩
/-- if sumError's answer is a number, so is each of its steps -/
theorem sumErr_in {a b s : UInt64} (h : NoNaN64 (sumErr a b s)) : NoNaN64 (FP.dsub s a) ∧ NoNaN64 (FP.dsub s (FP.dsub s a)) ∧ NoNaN64 (FP.dsub a (FP.dsub s (FP.dsub s a))) ∧ NoNaN64 (FP.dsub b (FP.dsub s a)) := by
  have h1 := Jvm.Free.Fl.dadd_in (a := FP.dsub a (FP.dsub s (FP.dsub s a))) (b := FP.dsub b (FP.dsub s a)) h
  have h2 := Jvm.Free.Fl.dsub_in h1.1
  exact ⟨(Jvm.Free.Fl.dsub_in h1.2).2, h2.2, h1.1, h1.2⟩
end OwnFP
namespace Jvm.RoadKit
open Sem ClassFile Op Lib Jvm.Stand Jvm.Free Jvm.LawKit
theorem own_retD {p : Program} {l : Launch} {e : Env} {R : Room} {s : State} {m : MethodId} {args : Array Value} {below : List Frame} {meth : Method} {c : Code} {T : State} {locs : List Loc} {cells slots : Nat} {Q : Option Value → Heap → List Loc → Prop} {cc ss : Nat} {pc : Nat} {Ls : Array Slot} (X : Stand p l e R s m args below meth c T locs cells slots) (hx : p.tables.exec = Jvm.exec) (hlk : meth.locks = false) {z : UInt64} {rest : List Value} (hret : meth.sig.returnType = some .double) (hd : decode c.code pc = .ok (.dreturn, 1)) (hc : cells ≤ cc) (hs : slots ≤ ss) (hQ : Q (some (.double z)) T.heap locs) : own_Goes p e below s Q cc ss T (mkF m pc Ls (.double z :: rest)) :=
  own_end X hlk (fun h => by rw [hret] at h; cases h) hc hs hQ fun fs hr => retOut X hx hret rfl (Or.inr (Or.inr (Or.inl ⟨rfl, rfl, _, rfl⟩))) hd hr
theorem own_rng (p : Int32) : 0 ≤ ((p &&& 2147483647) % 11).toInt ∧ ((p &&& 2147483647) % 11).toInt < 11 := by
  have h1 := (c_and p 2147483647 (by decide)).1
  have h2 := (c_irem (p &&& 2147483647) 11 11 (by decide)).1 h1
  omega
end Jvm.RoadKit
namespace Jvm.Pilot.@@N@@
open Jvm Jvm.ClassFile Sem Op Lib Jvm.Free Jvm.Stand Jvm.LawKit Jvm.RoadKit Bundle Jvm.Pilot.@@N@@.Jvm.D
theorem own_w {a0 : Array Value} {Z : State} (hw : ∀ d ∈ tables_1, d.before a0 Z = true) (i : Nat) {d : Jvm.Cond} (h : tables_1[i]? = some d) : d.before a0 Z = true := hw _ (List.mem_of_getElem? h)
abbrev yy0 : MethodName := ⟨"com/example/sojourn/sojourn/ExactSum", "sumError", "(DDD)D"⟩
abbrev rRrm1 : Room := { frames := 0, cells := 0, slots := 0, locals := 0 }
theorem d1_0 : decode prog_8_method_8_code 0 = .ok (.dload 4, 2) := by decide +kernel
theorem d1_2 : decode prog_8_method_8_code 2 = .ok (.dload_n 0, 1) := by decide +kernel
theorem d1_3 : decode prog_8_method_8_code 3 = .ok (.dsub, 1) := by decide +kernel
theorem d1_4 : decode prog_8_method_8_code 4 = .ok (.dstore 6, 2) := by decide +kernel
theorem d1_6 : decode prog_8_method_8_code 6 = .ok (.dload_n 0, 1) := by decide +kernel
theorem d1_7 : decode prog_8_method_8_code 7 = .ok (.dload 4, 2) := by decide +kernel
theorem d1_9 : decode prog_8_method_8_code 9 = .ok (.dload 6, 2) := by decide +kernel
theorem d1_11 : decode prog_8_method_8_code 11 = .ok (.dsub, 1) := by decide +kernel
theorem d1_12 : decode prog_8_method_8_code 12 = .ok (.dsub, 1) := by decide +kernel
theorem d1_13 : decode prog_8_method_8_code 13 = .ok (.dload_n 2, 1) := by decide +kernel
theorem d1_14 : decode prog_8_method_8_code 14 = .ok (.dload 6, 2) := by decide +kernel
theorem d1_16 : decode prog_8_method_8_code 16 = .ok (.dsub, 1) := by decide +kernel
theorem d1_17 : decode prog_8_method_8_code 17 = .ok (.dadd, 1) := by decide +kernel
theorem d1_18 : decode prog_8_method_8_code 18 = .ok (.dreturn, 1) := by decide +kernel
theorem pn_rm1 : plainFor yy0 = true := by first | exact plainFor_of_name (by first | (simp [plainName, overriddenIn]; done) | decide +kernel) | decide +kernel
theorem ef_rm1 (m : MethodId) (da : UInt64) (db : UInt64) (ds : UInt64) : entryFrame m #[(.double da), (.double db), (.double ds)] 8 = (mkF m 0 #[.val (.double da), .second, .val (.double db), .second, .val (.double ds), .second, .unset, .unset] []) := by first | (simp [entryFrame, mkF, argsToLocals, Value.category]; done) | rfl
def Q1 (Z : State) (da : UInt64) (db : UInt64) (ds : UInt64) (h0 : Heap) (n0 : Nat) (v_ : Option Value) (h_ : Heap) (L_ : List Loc) : Prop := (v_ = some (.double (OwnFP.sumErr da db ds))) ∧ (Fr n0 L_) ∧ (h_ = h0)
set_option maxRecDepth 65536 in
set_option maxHeartbeats 40000000 in
theorem rm1 (l : Launch) (Z : State) (a0 : Array Value) (hw : ∀ d ∈ tables_1, d.before a0 Z = true) (ws : List Jvm.Cond) (da : UInt64) (db : UInt64) (ds : UInt64) (h0 : Heap) (n0 : Nat) (Z0 : n0 ≤ h0.size) (hn : Jvm.Free.Fl.NoNaN64 (OwnFP.sumErr da db ds)) :
    MetFree l yy0 (head1 (Jvm.Cond.code yy0 prog_8_method_8_code 8 (some .double) :: ws) rRrm1) (fun a_ U_ => a_ = #[(.double da), (.double db), (.double ds)] ∧ Z.Warmed39 U_.vm ∧ U_.heap = h0) (fun _ _ _ _ _ => True) (fun _ U_ o_ U1_ => ∃ v_ L_, o_ = .returned v_ ∧ Q1 Z da db ds h0 n0 v_ U1_.heap L_ ∧ FrameEnd U_ o_ U1_ L_ rRrm1.cells rRrm1.slots) := by
  refine MetFree.of_bodySF pn_rm1 hisR ?_
  intro p e s m args below meth c s₁ Bd hml0 hP hK
  obtain ⟨rfl, hZ, hh⟩ := hP
  have hx := Bd.exec
  have hby := Bd.bytes
  have hlk : meth.locks = false := Bd.notSynchronized
  have hml : c.maxLocals = 8 := hml0
  have hown : s.vm.findClass "com/example/sojourn/sojourn/ExactSum" = some m.cls := findClass_of_methodNamed Bd.named
  have hnm := (name_of_methodNamed Bd.named Bd.method).1
  have X0 : Stand p l e rRrm1 s m #[(.double da), (.double db), (.double ds)] below meth c s₁ [] 0 0 := Stand.of_body Bd
  have e0 : s₁.heap = h0 := by rw [← hh, Bd.state]; rfl
  have N0 := Fr.nil n0
  show own_Goes p e below s (Q1 Z da db ds h0 n0) rRrm1.cells rRrm1.slots s₁ (entryFrame m #[(.double da), (.double db), (.double ds)] 8)
  rw [ef_rm1 m da db ds]
  show own_Goes p e below s (Q1 Z da db ds h0 n0) rRrm1.cells rRrm1.slots s₁ (mkF m 0 #[.val (.double da), .second, .val (.double db), .second, .val (.double ds), .second, .unset, .unset] [])
  obtain ⟨n1, n2, n3, n4⟩ := OwnFP.sumErr_in hn
  refine own_st (fun _ kk_ => XS.dload X0.here hx rfl (hb hby d1_0) rfl (XS.dloadN X0.here hx rfl (hb hby d1_2) rfl (XS.dsubS X0.here hx rfl (hb hby d1_3) rfl n1 (v := (FP.dsub ds da)) rfl kk_))) ?_
  show own_Goes _ _ _ _ _ _ _ s₁ (mkF m 4 #[.val (.double da), .second, .val (.double db), .second, .val (.double ds), .second, .unset, .unset] [(.double (FP.dsub ds da))])
  refine own_st (fun _ kk_ => XS.dstore X0.here hx rfl (hb hby d1_4) rfl (l' := #[.val (.double da), .second, .val (.double db), .second, .val (.double ds), .second, .val (.double (FP.dsub ds da)), .second]) rfl (XS.dloadN X0.here hx rfl (hb hby d1_6) rfl (XS.dload X0.here hx rfl (hb hby d1_7) rfl kk_))) ?_
  show own_Goes _ _ _ _ _ _ _ s₁ (mkF m 9 #[.val (.double da), .second, .val (.double db), .second, .val (.double ds), .second, .val (.double (FP.dsub ds da)), .second] [(.double ds), (.double da)])
  refine own_st (fun _ kk_ => XS.dload X0.here hx rfl (hb hby d1_9) rfl (XS.dsubS X0.here hx rfl (hb hby d1_11) rfl n2 (v := (FP.dsub ds (FP.dsub ds da))) rfl (XS.dsubS X0.here hx rfl (hb hby d1_12) rfl n3 (v := (FP.dsub da (FP.dsub ds (FP.dsub ds da)))) rfl kk_))) ?_
  show own_Goes _ _ _ _ _ _ _ s₁ (mkF m 13 #[.val (.double da), .second, .val (.double db), .second, .val (.double ds), .second, .val (.double (FP.dsub ds da)), .second] [(.double (FP.dsub da (FP.dsub ds (FP.dsub ds da))))])
  refine own_st (fun _ kk_ => XS.dloadN X0.here hx rfl (hb hby d1_13) rfl (XS.dload X0.here hx rfl (hb hby d1_14) rfl (XS.dsubS X0.here hx rfl (hb hby d1_16) rfl n4 (v := (FP.dsub db (FP.dsub ds da))) rfl kk_))) ?_
  show own_Goes _ _ _ _ _ _ _ s₁ (mkF m 17 #[.val (.double da), .second, .val (.double db), .second, .val (.double ds), .second, .val (.double (FP.dsub ds da)), .second] [(.double (FP.dsub db (FP.dsub ds da))), (.double (FP.dsub da (FP.dsub ds (FP.dsub ds da))))])
  refine own_st (fun _ kk_ => XS.daddS X0.here hx rfl (hb hby d1_17) rfl hn (v := (FP.dadd (FP.dsub da (FP.dsub ds (FP.dsub ds da))) (FP.dsub db (FP.dsub ds da)))) rfl kk_) ?_
  show own_Goes _ _ _ _ _ _ _ s₁ (mkF m 18 #[.val (.double da), .second, .val (.double db), .second, .val (.double ds), .second, .val (.double (FP.dsub ds da)), .second] [(.double (FP.dadd (FP.dsub da (FP.dsub ds (FP.dsub ds da))) (FP.dsub db (FP.dsub ds da))))])
  refine own_retD X0 hx hlk Bd.returns (hb hby d1_18) (by decide) (by decide) ?_
  show Q1 Z da db ds h0 n0 (some (.double (FP.dadd (FP.dsub da (FP.dsub ds (FP.dsub ds da))) (FP.dsub db (FP.dsub ds da))))) s₁.heap _
  rw [e0]
  exact ⟨rfl, N0, rfl⟩
theorem pd_0 : parseMethodDescriptor "(DDD)D" = some ⟨[.double, .double, .double], some .double⟩ := by decide +kernel
theorem pn_rm0 : plainFor x = true := by first | exact plainFor_of_name (by first | (simp [plainName, overriddenIn]; done) | decide +kernel) | decide +kernel
theorem ef_rm0 (m : MethodId) (p1 : Int64) (p2 : Int64) (p3 : Int32) (p4 : Int32) : entryFrame m #[(.long p1), (.long p2), (.int p3), (.int p4)] maxLocals = (mkF m 0 #[.val (.long p1), .second, .val (.long p2), .second, iv p3, iv p4, .unset, .unset, .unset, .unset, .unset, .unset, .unset, .unset, .unset, .unset, .unset, .unset, .unset, .unset, .unset, .unset, .unset, .unset, .unset, .unset, .unset, .unset, .unset, .unset, .unset, .unset, .unset] []) := by first | (simp [entryFrame, mkF, argsToLocals, Value.category, maxLocals]; done) | rfl
def Q0 (Z : State) (p1 : Int64) (p2 : Int64) (p3 : Int32) (p4 : Int32) (h0 : Heap) (n0 : Nat) (v_ : Option Value) (h_ : Heap) (L_ : List Loc) : Prop := (v_ = some (.int (1 : Int32))) ∧ (Fr n0 L_)
set_option maxRecDepth 65536 in
set_option maxHeartbeats 40000000 in
theorem rm0 (l : Launch) (Z : State) (a0 : Array Value) (hw : ∀ d ∈ tables_1, d.before a0 Z = true) (ws : List Jvm.Cond) (p1 : Int64) (p2 : Int64) (p3 : Int32) (p4 : Int32) (h0 : Heap) (n0 : Nat) (Z0 : n0 ≤ h0.size) :
    MetFree l x (head1 (Jvm.Cond.code x code maxLocals ret :: ws) room_1) (fun a_ U_ => a_ = #[(.long p1), (.long p2), (.int p3), (.int p4)] ∧ Z.Warmed39 U_.vm ∧ U_.heap = h0) (fun _ _ _ _ _ => True) (fun _ U_ o_ U1_ => ∃ v_ L_, o_ = .returned v_ ∧ Q0 Z p1 p2 p3 p4 h0 n0 v_ U1_.heap L_ ∧ FrameEnd U_ o_ U1_ L_ 0 0) := by
  refine MetFree.of_bodySF pn_rm0 hisR ?_
  intro p e s m args below meth c s₁ Bd hml0 hP hK
  obtain ⟨rfl, hZ, hh⟩ := hP
  have hx := Bd.exec
  have hby := Bd.bytes
  have hlk : meth.locks = false := Bd.notSynchronized
  have hml : c.maxLocals = 33 := hml0
  have hown : s.vm.findClass "com/example/sojourn/sojourn/ExactSumSumErrorPinLaw" = some m.cls := findClass_of_methodNamed Bd.named
  have hnm := (name_of_methodNamed Bd.named Bd.method).1
  have X0 : Stand p l e room_1 s m #[(.long p1), (.long p2), (.int p3), (.int p4)] below meth c s₁ [] 0 0 := Stand.of_body Bd
  have e0 : s₁.heap = h0 := by rw [← hh, Bd.state]; rfl
  have N0 := Fr.nil n0
  show own_Goes p e below s (Q0 Z p1 p2 p3 p4 h0 n0) 0 0 s₁ (entryFrame m #[(.long p1), (.long p2), (.int p3), (.int p4)] maxLocals)
  rw [ef_rm0 m p1 p2 p3 p4]
  show own_Goes p e below s (Q0 Z p1 p2 p3 p4 h0 n0) 0 0 s₁ (mkF m 0 #[.val (.long p1), .second, .val (.long p2), .second, iv p3, iv p4, .unset, .unset, .unset, .unset, .unset, .unset, .unset, .unset, .unset, .unset, .unset, .unset, .unset, .unset, .unset, .unset, .unset, .unset, .unset, .unset, .unset, .unset, .unset, .unset, .unset, .unset, .unset] [])
  refine own_st (fun _ kk_ => XS.lloadN X0.here hx rfl (hb hby at_0) rfl (XS.bipush X0.here hx rfl (hb hby at_1) (XS.lshl X0.here hx rfl (hb hby at_3) rfl kk_))) ?_
  show own_Goes _ _ _ _ _ _ _ s₁ (mkF m 4 #[.val (.long p1), .second, .val (.long p2), .second, iv p3, iv p4, .unset, .unset, .unset, .unset, .unset, .unset, .unset, .unset, .unset, .unset, .unset, .unset, .unset, .unset, .unset, .unset, .unset, .unset, .unset, .unset, .unset, .unset, .unset, .unset, .unset, .unset, .unset] [(.long (p1 <<< ((11 : Int32) &&& 0x3f).toInt64))])
  refine own_st (fun _ kk_ => XS.bipush X0.here hx rfl (hb hby at_4) (XS.lshr X0.here hx rfl (hb hby at_6) rfl (XS.lstore X0.here hx rfl (hb hby at_7) rfl (l' := #[.val (.long p1), .second, .val (.long p2), .second, iv p3, iv p4, .val (.long ((p1 <<< ((11 : Int32) &&& 0x3f).toInt64) >>> ((11 : Int32) &&& 0x3f).toInt64)), .second, .unset, .unset, .unset, .unset, .unset, .unset, .unset, .unset, .unset, .unset, .unset, .unset, .unset, .unset, .unset, .unset, .unset, .unset, .unset, .unset, .unset, .unset, .unset, .unset, .unset]) rfl kk_))) ?_
  show own_Goes _ _ _ _ _ _ _ s₁ (mkF m 9 #[.val (.long p1), .second, .val (.long p2), .second, iv p3, iv p4, .val (.long ((p1 <<< ((11 : Int32) &&& 0x3f).toInt64) >>> ((11 : Int32) &&& 0x3f).toInt64)), .second, .unset, .unset, .unset, .unset, .unset, .unset, .unset, .unset, .unset, .unset, .unset, .unset, .unset, .unset, .unset, .unset, .unset, .unset, .unset, .unset, .unset, .unset, .unset, .unset, .unset] [])
  refine own_st (fun _ kk_ => XS.lloadN X0.here hx rfl (hb hby at_9) rfl (XS.bipush X0.here hx rfl (hb hby at_10) (XS.lshl X0.here hx rfl (hb hby at_12) rfl kk_))) ?_
  show own_Goes _ _ _ _ _ _ _ s₁ (mkF m 13 #[.val (.long p1), .second, .val (.long p2), .second, iv p3, iv p4, .val (.long ((p1 <<< ((11 : Int32) &&& 0x3f).toInt64) >>> ((11 : Int32) &&& 0x3f).toInt64)), .second, .unset, .unset, .unset, .unset, .unset, .unset, .unset, .unset, .unset, .unset, .unset, .unset, .unset, .unset, .unset, .unset, .unset, .unset, .unset, .unset, .unset, .unset, .unset, .unset, .unset] [(.long (p2 <<< ((11 : Int32) &&& 0x3f).toInt64))])
  refine own_st (fun _ kk_ => XS.bipush X0.here hx rfl (hb hby at_13) (XS.lshr X0.here hx rfl (hb hby at_15) rfl (XS.lstore X0.here hx rfl (hb hby at_16) rfl (l' := #[.val (.long p1), .second, .val (.long p2), .second, iv p3, iv p4, .val (.long ((p1 <<< ((11 : Int32) &&& 0x3f).toInt64) >>> ((11 : Int32) &&& 0x3f).toInt64)), .second, .val (.long ((p2 <<< ((11 : Int32) &&& 0x3f).toInt64) >>> ((11 : Int32) &&& 0x3f).toInt64)), .second, .unset, .unset, .unset, .unset, .unset, .unset, .unset, .unset, .unset, .unset, .unset, .unset, .unset, .unset, .unset, .unset, .unset, .unset, .unset, .unset, .unset, .unset, .unset]) rfl kk_))) ?_
  show own_Goes _ _ _ _ _ _ _ s₁ (mkF m 18 #[.val (.long p1), .second, .val (.long p2), .second, iv p3, iv p4, .val (.long ((p1 <<< ((11 : Int32) &&& 0x3f).toInt64) >>> ((11 : Int32) &&& 0x3f).toInt64)), .second, .val (.long ((p2 <<< ((11 : Int32) &&& 0x3f).toInt64) >>> ((11 : Int32) &&& 0x3f).toInt64)), .second, .unset, .unset, .unset, .unset, .unset, .unset, .unset, .unset, .unset, .unset, .unset, .unset, .unset, .unset, .unset, .unset, .unset, .unset, .unset, .unset, .unset, .unset, .unset] [])
  refine own_st (fun _ kk_ => XS.iload X0.here hx rfl (hb hby at_18) rfl (X0.ldcInt hx hown (mvT hZ (own_w hw 0 rfl)) (g := (mkF m 20 #[.val (.long p1), .second, .val (.long p2), .second, iv p3, iv p4, .val (.long ((p1 <<< ((11 : Int32) &&& 0x3f).toInt64) >>> ((11 : Int32) &&& 0x3f).toInt64)), .second, .val (.long ((p2 <<< ((11 : Int32) &&& 0x3f).toInt64) >>> ((11 : Int32) &&& 0x3f).toInt64)), .second, .unset, .unset, .unset, .unset, .unset, .unset, .unset, .unset, .unset, .unset, .unset, .unset, .unset, .unset, .unset, .unset, .unset, .unset, .unset, .unset, .unset, .unset, .unset] [(.int p3)])) rfl (hb hby at_20) _ (XS.iand X0.here hx rfl (hb hby at_22) rfl kk_))) ?_
  show own_Goes _ _ _ _ _ _ _ s₁ (mkF m 23 #[.val (.long p1), .second, .val (.long p2), .second, iv p3, iv p4, .val (.long ((p1 <<< ((11 : Int32) &&& 0x3f).toInt64) >>> ((11 : Int32) &&& 0x3f).toInt64)), .second, .val (.long ((p2 <<< ((11 : Int32) &&& 0x3f).toInt64) >>> ((11 : Int32) &&& 0x3f).toInt64)), .second, .unset, .unset, .unset, .unset, .unset, .unset, .unset, .unset, .unset, .unset, .unset, .unset, .unset, .unset, .unset, .unset, .unset, .unset, .unset, .unset, .unset, .unset, .unset] [(.int (p3 &&& (2147483647 : Int32)))])
  refine own_st (fun _ kk_ => XS.bipush X0.here hx rfl (hb hby at_23) (iremM X0 hx rfl (hb hby at_25) rfl (by decide) (XS.istore X0.here hx rfl (hb hby at_26) rfl (l' := #[.val (.long p1), .second, .val (.long p2), .second, iv p3, iv p4, .val (.long ((p1 <<< ((11 : Int32) &&& 0x3f).toInt64) >>> ((11 : Int32) &&& 0x3f).toInt64)), .second, .val (.long ((p2 <<< ((11 : Int32) &&& 0x3f).toInt64) >>> ((11 : Int32) &&& 0x3f).toInt64)), .second, iv ((p3 &&& (2147483647 : Int32)) % (11 : Int32)), .unset, .unset, .unset, .unset, .unset, .unset, .unset, .unset, .unset, .unset, .unset, .unset, .unset, .unset, .unset, .unset, .unset, .unset, .unset, .unset, .unset, .unset]) rfl kk_))) ?_
  show own_Goes _ _ _ _ _ _ _ s₁ (mkF m 28 #[.val (.long p1), .second, .val (.long p2), .second, iv p3, iv p4, .val (.long ((p1 <<< ((11 : Int32) &&& 0x3f).toInt64) >>> ((11 : Int32) &&& 0x3f).toInt64)), .second, .val (.long ((p2 <<< ((11 : Int32) &&& 0x3f).toInt64) >>> ((11 : Int32) &&& 0x3f).toInt64)), .second, iv ((p3 &&& (2147483647 : Int32)) % (11 : Int32)), .unset, .unset, .unset, .unset, .unset, .unset, .unset, .unset, .unset, .unset, .unset, .unset, .unset, .unset, .unset, .unset, .unset, .unset, .unset, .unset, .unset, .unset] [])
  refine own_st (fun _ kk_ => XS.lconst X0.here hx rfl (hb hby at_28) (XS.iload X0.here hx rfl (hb hby at_29) rfl (XS.lshl X0.here hx rfl (hb hby at_31) rfl kk_))) ?_
  show own_Goes _ _ _ _ _ _ _ s₁ (mkF m 32 #[.val (.long p1), .second, .val (.long p2), .second, iv p3, iv p4, .val (.long ((p1 <<< ((11 : Int32) &&& 0x3f).toInt64) >>> ((11 : Int32) &&& 0x3f).toInt64)), .second, .val (.long ((p2 <<< ((11 : Int32) &&& 0x3f).toInt64) >>> ((11 : Int32) &&& 0x3f).toInt64)), .second, iv ((p3 &&& (2147483647 : Int32)) % (11 : Int32)), .unset, .unset, .unset, .unset, .unset, .unset, .unset, .unset, .unset, .unset, .unset, .unset, .unset, .unset, .unset, .unset, .unset, .unset, .unset, .unset, .unset, .unset] [(.long ((1 : Int64) <<< (((p3 &&& (2147483647 : Int32)) % (11 : Int32)) &&& 0x3f).toInt64))])
  refine own_st (fun _ kk_ => XS.lstore X0.here hx rfl (hb hby at_32) rfl (l' := #[.val (.long p1), .second, .val (.long p2), .second, iv p3, iv p4, .val (.long ((p1 <<< ((11 : Int32) &&& 0x3f).toInt64) >>> ((11 : Int32) &&& 0x3f).toInt64)), .second, .val (.long ((p2 <<< ((11 : Int32) &&& 0x3f).toInt64) >>> ((11 : Int32) &&& 0x3f).toInt64)), .second, iv ((p3 &&& (2147483647 : Int32)) % (11 : Int32)), .val (.long ((1 : Int64) <<< (((p3 &&& (2147483647 : Int32)) % (11 : Int32)) &&& 0x3f).toInt64)), .second, .unset, .unset, .unset, .unset, .unset, .unset, .unset, .unset, .unset, .unset, .unset, .unset, .unset, .unset, .unset, .unset, .unset, .unset, .unset, .unset]) rfl kk_) ?_
  show own_Goes _ _ _ _ _ _ _ s₁ (mkF m 34 #[.val (.long p1), .second, .val (.long p2), .second, iv p3, iv p4, .val (.long ((p1 <<< ((11 : Int32) &&& 0x3f).toInt64) >>> ((11 : Int32) &&& 0x3f).toInt64)), .second, .val (.long ((p2 <<< ((11 : Int32) &&& 0x3f).toInt64) >>> ((11 : Int32) &&& 0x3f).toInt64)), .second, iv ((p3 &&& (2147483647 : Int32)) % (11 : Int32)), .val (.long ((1 : Int64) <<< (((p3 &&& (2147483647 : Int32)) % (11 : Int32)) &&& 0x3f).toInt64)), .second, .unset, .unset, .unset, .unset, .unset, .unset, .unset, .unset, .unset, .unset, .unset, .unset, .unset, .unset, .unset, .unset, .unset, .unset, .unset, .unset] [])
  obtain ⟨bA, h_bA⟩ : ∃ z, z = ((p1 <<< ((11 : Int32) &&& 0x3f).toInt64) >>> ((11 : Int32) &&& 0x3f).toInt64) := ⟨_, rfl⟩
  rw [← h_bA]
  show own_Goes _ _ _ _ _ _ _ s₁ (mkF m 34 #[.val (.long p1), .second, .val (.long p2), .second, iv p3, iv p4, .val (.long bA), .second, .val (.long ((p2 <<< ((11 : Int32) &&& 0x3f).toInt64) >>> ((11 : Int32) &&& 0x3f).toInt64)), .second, iv ((p3 &&& (2147483647 : Int32)) % (11 : Int32)), .val (.long ((1 : Int64) <<< (((p3 &&& (2147483647 : Int32)) % (11 : Int32)) &&& 0x3f).toInt64)), .second, .unset, .unset, .unset, .unset, .unset, .unset, .unset, .unset, .unset, .unset, .unset, .unset, .unset, .unset, .unset, .unset, .unset, .unset, .unset, .unset] [])
  obtain ⟨bB, h_bB⟩ : ∃ z, z = ((p2 <<< ((11 : Int32) &&& 0x3f).toInt64) >>> ((11 : Int32) &&& 0x3f).toInt64) := ⟨_, rfl⟩
  rw [← h_bB]
  show own_Goes _ _ _ _ _ _ _ s₁ (mkF m 34 #[.val (.long p1), .second, .val (.long p2), .second, iv p3, iv p4, .val (.long bA), .second, .val (.long bB), .second, iv ((p3 &&& (2147483647 : Int32)) % (11 : Int32)), .val (.long ((1 : Int64) <<< (((p3 &&& (2147483647 : Int32)) % (11 : Int32)) &&& 0x3f).toInt64)), .second, .unset, .unset, .unset, .unset, .unset, .unset, .unset, .unset, .unset, .unset, .unset, .unset, .unset, .unset, .unset, .unset, .unset, .unset, .unset, .unset] [])
  obtain ⟨sI, h_sI⟩ : ∃ z, z = ((p3 &&& (2147483647 : Int32)) % (11 : Int32)) := ⟨_, rfl⟩
  rw [← h_sI]
  show own_Goes _ _ _ _ _ _ _ s₁ (mkF m 34 #[.val (.long p1), .second, .val (.long p2), .second, iv p3, iv p4, .val (.long bA), .second, .val (.long bB), .second, iv sI, .val (.long ((1 : Int64) <<< (sI &&& 0x3f).toInt64)), .second, .unset, .unset, .unset, .unset, .unset, .unset, .unset, .unset, .unset, .unset, .unset, .unset, .unset, .unset, .unset, .unset, .unset, .unset, .unset, .unset] [])
  obtain ⟨pw, h_pw⟩ : ∃ z, z = ((1 : Int64) <<< (sI &&& 0x3f).toInt64) := ⟨_, rfl⟩
  rw [← h_pw]
  show own_Goes _ _ _ _ _ _ _ s₁ (mkF m 34 #[.val (.long p1), .second, .val (.long p2), .second, iv p3, iv p4, .val (.long bA), .second, .val (.long bB), .second, iv sI, .val (.long pw), .second, .unset, .unset, .unset, .unset, .unset, .unset, .unset, .unset, .unset, .unset, .unset, .unset, .unset, .unset, .unset, .unset, .unset, .unset, .unset, .unset] [])
  have hA : bA.toInt.natAbs ≤ 4503599627370496 := by rw [h_bA]; exact OwnFP.b52 _
  have hB : bB.toInt.natAbs ≤ 4503599627370496 := by rw [h_bB]; exact OwnFP.b52 _
  obtain ⟨k, hk, hp⟩ := OwnFP.pw_ex (s := sI) (by rw [h_sI]; exact own_rng p3)
  rw [← h_pw] at hp
  obtain ⟨nb, ns, ⟨u1, u2, u3, u4, u5, u6⟩, ⟨v1, v2, v3, v4, v5, v6⟩⟩ := OwnFP.all hk hp hA hB rfl rfl rfl rfl
  refine own_st (fun _ kk_ => XS.lload X0.here hx rfl (hb hby at_34) rfl (XS.l2dS X0.here hx rfl (hb hby at_36) rfl (v := FP.l2d pw) rfl (XS.dstore X0.here hx rfl (hb hby at_37) rfl (l' := #[.val (.long p1), .second, .val (.long p2), .second, iv p3, iv p4, .val (.long bA), .second, .val (.long bB), .second, iv sI, .val (.long pw), .second, .val (.double (FP.l2d pw)), .second, .unset, .unset, .unset, .unset, .unset, .unset, .unset, .unset, .unset, .unset, .unset, .unset, .unset, .unset, .unset, .unset, .unset, .unset]) rfl kk_))) ?_
  show own_Goes _ _ _ _ _ _ _ s₁ (mkF m 39 #[.val (.long p1), .second, .val (.long p2), .second, iv p3, iv p4, .val (.long bA), .second, .val (.long bB), .second, iv sI, .val (.long pw), .second, .val (.double (FP.l2d pw)), .second, .unset, .unset, .unset, .unset, .unset, .unset, .unset, .unset, .unset, .unset, .unset, .unset, .unset, .unset, .unset, .unset, .unset, .unset] [])
  refine own_st (fun _ kk_ => XS.lload X0.here hx rfl (hb hby at_39) rfl (XS.l2dS X0.here hx rfl (hb hby at_41) rfl (v := FP.l2d bA) rfl (XS.dstore X0.here hx rfl (hb hby at_42) rfl (l' := #[.val (.long p1), .second, .val (.long p2), .second, iv p3, iv p4, .val (.long bA), .second, .val (.long bB), .second, iv sI, .val (.long pw), .second, .val (.double (FP.l2d pw)), .second, .val (.double (FP.l2d bA)), .second, .unset, .unset, .unset, .unset, .unset, .unset, .unset, .unset, .unset, .unset, .unset, .unset, .unset, .unset, .unset, .unset]) rfl kk_))) ?_
  show own_Goes _ _ _ _ _ _ _ s₁ (mkF m 44 #[.val (.long p1), .second, .val (.long p2), .second, iv p3, iv p4, .val (.long bA), .second, .val (.long bB), .second, iv sI, .val (.long pw), .second, .val (.double (FP.l2d pw)), .second, .val (.double (FP.l2d bA)), .second, .unset, .unset, .unset, .unset, .unset, .unset, .unset, .unset, .unset, .unset, .unset, .unset, .unset, .unset, .unset, .unset] [])
  refine own_st (fun _ kk_ => XS.lload X0.here hx rfl (hb hby at_44) rfl (XS.l2dS X0.here hx rfl (hb hby at_46) rfl (v := FP.l2d bB) rfl (XS.dload X0.here hx rfl (hb hby at_47) rfl kk_))) ?_
  show own_Goes _ _ _ _ _ _ _ s₁ (mkF m 49 #[.val (.long p1), .second, .val (.long p2), .second, iv p3, iv p4, .val (.long bA), .second, .val (.long bB), .second, iv sI, .val (.long pw), .second, .val (.double (FP.l2d pw)), .second, .val (.double (FP.l2d bA)), .second, .unset, .unset, .unset, .unset, .unset, .unset, .unset, .unset, .unset, .unset, .unset, .unset, .unset, .unset, .unset, .unset] [(.double (FP.l2d pw)), (.double (FP.l2d bB))])
  refine own_st (fun _ kk_ => XS.ddivS X0.here hx rfl (hb hby at_49) rfl nb (v := (FP.ddiv (FP.l2d bB) (FP.l2d pw))) rfl (XS.dstore X0.here hx rfl (hb hby at_50) rfl (l' := #[.val (.long p1), .second, .val (.long p2), .second, iv p3, iv p4, .val (.long bA), .second, .val (.long bB), .second, iv sI, .val (.long pw), .second, .val (.double (FP.l2d pw)), .second, .val (.double (FP.l2d bA)), .second, .val (.double (FP.ddiv (FP.l2d bB) (FP.l2d pw))), .second, .unset, .unset, .unset, .unset, .unset, .unset, .unset, .unset, .unset, .unset, .unset, .unset, .unset, .unset]) rfl (XS.dload X0.here hx rfl (hb hby at_52) rfl kk_))) ?_
  show own_Goes _ _ _ _ _ _ _ s₁ (mkF m 54 #[.val (.long p1), .second, .val (.long p2), .second, iv p3, iv p4, .val (.long bA), .second, .val (.long bB), .second, iv sI, .val (.long pw), .second, .val (.double (FP.l2d pw)), .second, .val (.double (FP.l2d bA)), .second, .val (.double (FP.ddiv (FP.l2d bB) (FP.l2d pw))), .second, .unset, .unset, .unset, .unset, .unset, .unset, .unset, .unset, .unset, .unset, .unset, .unset, .unset, .unset] [(.double (FP.l2d bA))])
  refine own_st (fun _ kk_ => XS.dload X0.here hx rfl (hb hby at_54) rfl (XS.daddS X0.here hx rfl (hb hby at_56) rfl ns (v := (FP.dadd (FP.l2d bA) (FP.ddiv (FP.l2d bB) (FP.l2d pw)))) rfl (XS.dstore X0.here hx rfl (hb hby at_57) rfl (l' := #[.val (.long p1), .second, .val (.long p2), .second, iv p3, iv p4, .val (.long bA), .second, .val (.long bB), .second, iv sI, .val (.long pw), .second, .val (.double (FP.l2d pw)), .second, .val (.double (FP.l2d bA)), .second, .val (.double (FP.ddiv (FP.l2d bB) (FP.l2d pw))), .second, .val (.double (FP.dadd (FP.l2d bA) (FP.ddiv (FP.l2d bB) (FP.l2d pw)))), .second, .unset, .unset, .unset, .unset, .unset, .unset, .unset, .unset, .unset, .unset, .unset, .unset]) rfl kk_))) ?_
  show own_Goes _ _ _ _ _ _ _ s₁ (mkF m 59 #[.val (.long p1), .second, .val (.long p2), .second, iv p3, iv p4, .val (.long bA), .second, .val (.long bB), .second, iv sI, .val (.long pw), .second, .val (.double (FP.l2d pw)), .second, .val (.double (FP.l2d bA)), .second, .val (.double (FP.ddiv (FP.l2d bB) (FP.l2d pw))), .second, .val (.double (FP.dadd (FP.l2d bA) (FP.ddiv (FP.l2d bB) (FP.l2d pw)))), .second, .unset, .unset, .unset, .unset, .unset, .unset, .unset, .unset, .unset, .unset, .unset, .unset] [])
  refine own_st (fun _ kk_ => XS.iload X0.here hx rfl (hb hby at_59) rfl (XS.iconst X0.here hx rfl (hb hby at_61) (XS.iand X0.here hx rfl (hb hby at_62) rfl kk_))) ?_
  show own_Goes _ _ _ _ _ _ _ s₁ (mkF m 63 #[.val (.long p1), .second, .val (.long p2), .second, iv p3, iv p4, .val (.long bA), .second, .val (.long bB), .second, iv sI, .val (.long pw), .second, .val (.double (FP.l2d pw)), .second, .val (.double (FP.l2d bA)), .second, .val (.double (FP.ddiv (FP.l2d bB) (FP.l2d pw))), .second, .val (.double (FP.dadd (FP.l2d bA) (FP.ddiv (FP.l2d bB) (FP.l2d pw)))), .second, .unset, .unset, .unset, .unset, .unset, .unset, .unset, .unset, .unset, .unset, .unset, .unset] [(.int (p4 &&& (1 : Int32)))])
  rcases Classical.em ((p4 &&& (1 : Int32)) = (0 : Int32)) with q | q
  · refine own_st (fun _ kk_ => XS.ifYes X0.here hx rfl (pc0 := 63) (pc' := 80) rfl (hb hby at_63) rfl (XT.i0_eq_t q) (by decide) (by decide) (XS.dload X0.here hx rfl (hb hby at_80) rfl (XS.dload X0.here hx rfl (hb hby at_82) rfl kk_))) ?_
    show own_Goes _ _ _ _ _ _ _ s₁ (mkF m 84 #[.val (.long p1), .second, .val (.long p2), .second, iv p3, iv p4, .val (.long bA), .second, .val (.long bB), .second, iv sI, .val (.long pw), .second, .val (.double (FP.l2d pw)), .second, .val (.double (FP.l2d bA)), .second, .val (.double (FP.ddiv (FP.l2d bB) (FP.l2d pw))), .second, .val (.double (FP.dadd (FP.l2d bA) (FP.ddiv (FP.l2d bB) (FP.l2d pw)))), .second, .unset, .unset, .unset, .unset, .unset, .unset, .unset, .unset, .unset, .unset, .unset, .unset] [(.double (FP.ddiv (FP.l2d bB) (FP.l2d pw))), (.double (FP.l2d bA))])
    refine own_st (fun _ kk_ => XS.dload X0.here hx rfl (hb hby at_84) rfl kk_) ?_
    show own_Goes _ _ _ _ _ _ _ s₁ (mkF m 86 #[.val (.long p1), .second, .val (.long p2), .second, iv p3, iv p4, .val (.long bA), .second, .val (.long bB), .second, iv sI, .val (.long pw), .second, .val (.double (FP.l2d pw)), .second, .val (.double (FP.l2d bA)), .second, .val (.double (FP.ddiv (FP.l2d bB) (FP.l2d pw))), .second, .val (.double (FP.dadd (FP.l2d bA) (FP.ddiv (FP.l2d bB) (FP.l2d pw)))), .second, .unset, .unset, .unset, .unset, .unset, .unset, .unset, .unset, .unset, .unset, .unset, .unset] [(.double (FP.dadd (FP.l2d bA) (FP.ddiv (FP.l2d bB) (FP.l2d pw)))), (.double (FP.ddiv (FP.l2d bB) (FP.l2d pw))), (.double (FP.l2d bA))])
    obtain ⟨_, _, ⟨T1, L1, k1, n1⟩, -, X1, ⟨Lc1, hQ1, l1, y1, z1⟩, st1⟩ := Jvm.LawKit.callS X0 hx (y := yy0) hown (mvT hZ (own_w hw 1 rfl)) (mvT hZ (own_w hw 2 rfl)) (mvT hZ (own_w hw 3 rfl)) (mvT hZ (own_w hw 4 rfl)) (by decide) (backOf (W := 0) (rm1 l Z a0 hw [] ((FP.l2d bA)) ((FP.ddiv (FP.l2d bB) (FP.l2d pw))) ((FP.dadd (FP.l2d bA) (FP.ddiv (FP.l2d bB) (FP.l2d pw)))) h0 n0 Z0 u1) hZ (own_w hw 4 rfl) (own_w hw 3 rfl) (by decide) (by decide)) (g := (mkF m 86 #[.val (.long p1), .second, .val (.long p2), .second, iv p3, iv p4, .val (.long bA), .second, .val (.long bB), .second, iv sI, .val (.long pw), .second, .val (.double (FP.l2d pw)), .second, .val (.double (FP.l2d bA)), .second, .val (.double (FP.ddiv (FP.l2d bB) (FP.l2d pw))), .second, .val (.double (FP.dadd (FP.l2d bA) (FP.ddiv (FP.l2d bB) (FP.l2d pw)))), .second, .unset, .unset, .unset, .unset, .unset, .unset, .unset, .unset, .unset, .unset, .unset, .unset] [(.double (FP.dadd (FP.l2d bA) (FP.ddiv (FP.l2d bB) (FP.l2d pw)))), (.double (FP.ddiv (FP.l2d bB) (FP.l2d pw))), (.double (FP.l2d bA))])) rfl (by rw [hml]; rfl) (argsL := [(.double (FP.l2d bA)), (.double (FP.ddiv (FP.l2d bB) (FP.l2d pw))), (.double (FP.dadd (FP.l2d bA) (FP.ddiv (FP.l2d bB) (FP.l2d pw))))]) (rest := []) (lenOf pd_0 rfl) rfl (by show 2 * 0 + _ ≤ _; exact Nat.le_of_eq rfl) (hb hby at_86) (fun _ _ => ⟨rfl, e0, (by decide : 0 + 0 ≤ _), (by decide : 0 + 0 ≤ _)⟩)
    dsimp only [Pt.U, Pt.locs, Pt.cells, Pt.slots] at X1 l1 y1 z1 st1 hQ1
    subst l1 y1 z1
    obtain ⟨rfl, Nq1, eq1⟩ := hQ1
    have N1 := Fr.app N0 Nq1
    refine own_st st1 ?_
    show own_Goes _ _ _ _ _ _ _ T1 (mkF m 89 #[.val (.long p1), .second, .val (.long p2), .second, iv p3, iv p4, .val (.long bA), .second, .val (.long bB), .second, iv sI, .val (.long pw), .second, .val (.double (FP.l2d pw)), .second, .val (.double (FP.l2d bA)), .second, .val (.double (FP.ddiv (FP.l2d bB) (FP.l2d pw))), .second, .val (.double (FP.dadd (FP.l2d bA) (FP.ddiv (FP.l2d bB) (FP.l2d pw)))), .second, .unset, .unset, .unset, .unset, .unset, .unset, .unset, .unset, .unset, .unset, .unset, .unset] [(.double (OwnFP.sumErr (FP.l2d bA) (FP.ddiv (FP.l2d bB) (FP.l2d pw)) (FP.dadd (FP.l2d bA) (FP.ddiv (FP.l2d bB) (FP.l2d pw)))))])
    refine own_st (fun _ kk_ => XS.dstore X1.here hx rfl (hb hby at_89) rfl (l' := #[.val (.long p1), .second, .val (.long p2), .second, iv p3, iv p4, .val (.long bA), .second, .val (.long bB), .second, iv sI, .val (.long pw), .second, .val (.double (FP.l2d pw)), .second, .val (.double (FP.l2d bA)), .second, .val (.double (FP.ddiv (FP.l2d bB) (FP.l2d pw))), .second, .val (.double (FP.dadd (FP.l2d bA) (FP.ddiv (FP.l2d bB) (FP.l2d pw)))), .second, .val (.double (OwnFP.sumErr (FP.l2d bA) (FP.ddiv (FP.l2d bB) (FP.l2d pw)) (FP.dadd (FP.l2d bA) (FP.ddiv (FP.l2d bB) (FP.l2d pw))))), .second, .unset, .unset, .unset, .unset, .unset, .unset, .unset, .unset, .unset, .unset]) rfl (XS.lload X1.here hx rfl (hb hby at_91) rfl (XS.lload X1.here hx rfl (hb hby at_93) rfl kk_))) ?_
    show own_Goes _ _ _ _ _ _ _ T1 (mkF m 95 #[.val (.long p1), .second, .val (.long p2), .second, iv p3, iv p4, .val (.long bA), .second, .val (.long bB), .second, iv sI, .val (.long pw), .second, .val (.double (FP.l2d pw)), .second, .val (.double (FP.l2d bA)), .second, .val (.double (FP.ddiv (FP.l2d bB) (FP.l2d pw))), .second, .val (.double (FP.dadd (FP.l2d bA) (FP.ddiv (FP.l2d bB) (FP.l2d pw)))), .second, .val (.double (OwnFP.sumErr (FP.l2d bA) (FP.ddiv (FP.l2d bB) (FP.l2d pw)) (FP.dadd (FP.l2d bA) (FP.ddiv (FP.l2d bB) (FP.l2d pw))))), .second, .unset, .unset, .unset, .unset, .unset, .unset, .unset, .unset, .unset, .unset] [(.long pw), (.long bA)])
    refine own_st (fun _ kk_ => XS.lmul X1.here hx rfl (hb hby at_95) rfl (XS.lload X1.here hx rfl (hb hby at_96) rfl (XS.ladd X1.here hx rfl (hb hby at_98) rfl kk_))) ?_
    show own_Goes _ _ _ _ _ _ _ T1 (mkF m 99 #[.val (.long p1), .second, .val (.long p2), .second, iv p3, iv p4, .val (.long bA), .second, .val (.long bB), .second, iv sI, .val (.long pw), .second, .val (.double (FP.l2d pw)), .second, .val (.double (FP.l2d bA)), .second, .val (.double (FP.ddiv (FP.l2d bB) (FP.l2d pw))), .second, .val (.double (FP.dadd (FP.l2d bA) (FP.ddiv (FP.l2d bB) (FP.l2d pw)))), .second, .val (.double (OwnFP.sumErr (FP.l2d bA) (FP.ddiv (FP.l2d bB) (FP.l2d pw)) (FP.dadd (FP.l2d bA) (FP.ddiv (FP.l2d bB) (FP.l2d pw))))), .second, .unset, .unset, .unset, .unset, .unset, .unset, .unset, .unset, .unset, .unset] [(.long ((bA * pw) + bB))])
    refine own_st (fun _ kk_ => XS.lstore X1.here hx rfl (hb hby at_99) rfl (l' := #[.val (.long p1), .second, .val (.long p2), .second, iv p3, iv p4, .val (.long bA), .second, .val (.long bB), .second, iv sI, .val (.long pw), .second, .val (.double (FP.l2d pw)), .second, .val (.double (FP.l2d bA)), .second, .val (.double (FP.ddiv (FP.l2d bB) (FP.l2d pw))), .second, .val (.double (FP.dadd (FP.l2d bA) (FP.ddiv (FP.l2d bB) (FP.l2d pw)))), .second, .val (.double (OwnFP.sumErr (FP.l2d bA) (FP.ddiv (FP.l2d bB) (FP.l2d pw)) (FP.dadd (FP.l2d bA) (FP.ddiv (FP.l2d bB) (FP.l2d pw))))), .second, .val (.long ((bA * pw) + bB)), .second, .unset, .unset, .unset, .unset, .unset, .unset, .unset, .unset]) rfl (XS.dload X1.here hx rfl (hb hby at_101) rfl (XS.dload X1.here hx rfl (hb hby at_103) rfl kk_))) ?_
    show own_Goes _ _ _ _ _ _ _ T1 (mkF m 105 #[.val (.long p1), .second, .val (.long p2), .second, iv p3, iv p4, .val (.long bA), .second, .val (.long bB), .second, iv sI, .val (.long pw), .second, .val (.double (FP.l2d pw)), .second, .val (.double (FP.l2d bA)), .second, .val (.double (FP.ddiv (FP.l2d bB) (FP.l2d pw))), .second, .val (.double (FP.dadd (FP.l2d bA) (FP.ddiv (FP.l2d bB) (FP.l2d pw)))), .second, .val (.double (OwnFP.sumErr (FP.l2d bA) (FP.ddiv (FP.l2d bB) (FP.l2d pw)) (FP.dadd (FP.l2d bA) (FP.ddiv (FP.l2d bB) (FP.l2d pw))))), .second, .val (.long ((bA * pw) + bB)), .second, .unset, .unset, .unset, .unset, .unset, .unset, .unset, .unset] [(.double (FP.l2d pw)), (.double (FP.dadd (FP.l2d bA) (FP.ddiv (FP.l2d bB) (FP.l2d pw))))])
    refine own_st (fun _ kk_ => XS.dmulS X1.here hx rfl (hb hby at_105) rfl u2 (v := (FP.dmul (FP.dadd (FP.l2d bA) (FP.ddiv (FP.l2d bB) (FP.l2d pw))) (FP.l2d pw))) rfl (XS.dstore X1.here hx rfl (hb hby at_106) rfl (l' := #[.val (.long p1), .second, .val (.long p2), .second, iv p3, iv p4, .val (.long bA), .second, .val (.long bB), .second, iv sI, .val (.long pw), .second, .val (.double (FP.l2d pw)), .second, .val (.double (FP.l2d bA)), .second, .val (.double (FP.ddiv (FP.l2d bB) (FP.l2d pw))), .second, .val (.double (FP.dadd (FP.l2d bA) (FP.ddiv (FP.l2d bB) (FP.l2d pw)))), .second, .val (.double (OwnFP.sumErr (FP.l2d bA) (FP.ddiv (FP.l2d bB) (FP.l2d pw)) (FP.dadd (FP.l2d bA) (FP.ddiv (FP.l2d bB) (FP.l2d pw))))), .second, .val (.long ((bA * pw) + bB)), .second, .val (.double (FP.dmul (FP.dadd (FP.l2d bA) (FP.ddiv (FP.l2d bB) (FP.l2d pw))) (FP.l2d pw))), .second, .unset, .unset, .unset, .unset, .unset, .unset]) rfl (XS.dload X1.here hx rfl (hb hby at_108) rfl kk_))) ?_
    show own_Goes _ _ _ _ _ _ _ T1 (mkF m 110 #[.val (.long p1), .second, .val (.long p2), .second, iv p3, iv p4, .val (.long bA), .second, .val (.long bB), .second, iv sI, .val (.long pw), .second, .val (.double (FP.l2d pw)), .second, .val (.double (FP.l2d bA)), .second, .val (.double (FP.ddiv (FP.l2d bB) (FP.l2d pw))), .second, .val (.double (FP.dadd (FP.l2d bA) (FP.ddiv (FP.l2d bB) (FP.l2d pw)))), .second, .val (.double (OwnFP.sumErr (FP.l2d bA) (FP.ddiv (FP.l2d bB) (FP.l2d pw)) (FP.dadd (FP.l2d bA) (FP.ddiv (FP.l2d bB) (FP.l2d pw))))), .second, .val (.long ((bA * pw) + bB)), .second, .val (.double (FP.dmul (FP.dadd (FP.l2d bA) (FP.ddiv (FP.l2d bB) (FP.l2d pw))) (FP.l2d pw))), .second, .unset, .unset, .unset, .unset, .unset, .unset] [(.double (OwnFP.sumErr (FP.l2d bA) (FP.ddiv (FP.l2d bB) (FP.l2d pw)) (FP.dadd (FP.l2d bA) (FP.ddiv (FP.l2d bB) (FP.l2d pw)))))])
    refine own_st (fun _ kk_ => XS.dload X1.here hx rfl (hb hby at_110) rfl (XS.dmulS X1.here hx rfl (hb hby at_112) rfl u3 (v := (FP.dmul (OwnFP.sumErr (FP.l2d bA) (FP.ddiv (FP.l2d bB) (FP.l2d pw)) (FP.dadd (FP.l2d bA) (FP.ddiv (FP.l2d bB) (FP.l2d pw)))) (FP.l2d pw))) rfl (XS.dstore X1.here hx rfl (hb hby at_113) rfl (l' := #[.val (.long p1), .second, .val (.long p2), .second, iv p3, iv p4, .val (.long bA), .second, .val (.long bB), .second, iv sI, .val (.long pw), .second, .val (.double (FP.l2d pw)), .second, .val (.double (FP.l2d bA)), .second, .val (.double (FP.ddiv (FP.l2d bB) (FP.l2d pw))), .second, .val (.double (FP.dadd (FP.l2d bA) (FP.ddiv (FP.l2d bB) (FP.l2d pw)))), .second, .val (.double (OwnFP.sumErr (FP.l2d bA) (FP.ddiv (FP.l2d bB) (FP.l2d pw)) (FP.dadd (FP.l2d bA) (FP.ddiv (FP.l2d bB) (FP.l2d pw))))), .second, .val (.long ((bA * pw) + bB)), .second, .val (.double (FP.dmul (FP.dadd (FP.l2d bA) (FP.ddiv (FP.l2d bB) (FP.l2d pw))) (FP.l2d pw))), .second, .val (.double (FP.dmul (OwnFP.sumErr (FP.l2d bA) (FP.ddiv (FP.l2d bB) (FP.l2d pw)) (FP.dadd (FP.l2d bA) (FP.ddiv (FP.l2d bB) (FP.l2d pw)))) (FP.l2d pw))), .second, .unset, .unset, .unset, .unset]) rfl kk_))) ?_
    show own_Goes _ _ _ _ _ _ _ T1 (mkF m 115 #[.val (.long p1), .second, .val (.long p2), .second, iv p3, iv p4, .val (.long bA), .second, .val (.long bB), .second, iv sI, .val (.long pw), .second, .val (.double (FP.l2d pw)), .second, .val (.double (FP.l2d bA)), .second, .val (.double (FP.ddiv (FP.l2d bB) (FP.l2d pw))), .second, .val (.double (FP.dadd (FP.l2d bA) (FP.ddiv (FP.l2d bB) (FP.l2d pw)))), .second, .val (.double (OwnFP.sumErr (FP.l2d bA) (FP.ddiv (FP.l2d bB) (FP.l2d pw)) (FP.dadd (FP.l2d bA) (FP.ddiv (FP.l2d bB) (FP.l2d pw))))), .second, .val (.long ((bA * pw) + bB)), .second, .val (.double (FP.dmul (FP.dadd (FP.l2d bA) (FP.ddiv (FP.l2d bB) (FP.l2d pw))) (FP.l2d pw))), .second, .val (.double (FP.dmul (OwnFP.sumErr (FP.l2d bA) (FP.ddiv (FP.l2d bB) (FP.l2d pw)) (FP.dadd (FP.l2d bA) (FP.ddiv (FP.l2d bB) (FP.l2d pw)))) (FP.l2d pw))), .second, .unset, .unset, .unset, .unset] [])
    refine own_st (fun _ kk_ => XS.dload X1.here hx rfl (hb hby at_115) rfl (XS.d2lS X1.here hx rfl (hb hby at_117) rfl (v := FP.d2l (FP.dmul (FP.dadd (FP.l2d bA) (FP.ddiv (FP.l2d bB) (FP.l2d pw))) (FP.l2d pw))) rfl (XS.lstore X1.here hx rfl (hb hby at_118) rfl (l' := #[.val (.long p1), .second, .val (.long p2), .second, iv p3, iv p4, .val (.long bA), .second, .val (.long bB), .second, iv sI, .val (.long pw), .second, .val (.double (FP.l2d pw)), .second, .val (.double (FP.l2d bA)), .second, .val (.double (FP.ddiv (FP.l2d bB) (FP.l2d pw))), .second, .val (.double (FP.dadd (FP.l2d bA) (FP.ddiv (FP.l2d bB) (FP.l2d pw)))), .second, .val (.double (OwnFP.sumErr (FP.l2d bA) (FP.ddiv (FP.l2d bB) (FP.l2d pw)) (FP.dadd (FP.l2d bA) (FP.ddiv (FP.l2d bB) (FP.l2d pw))))), .second, .val (.long ((bA * pw) + bB)), .second, .val (.double (FP.dmul (FP.dadd (FP.l2d bA) (FP.ddiv (FP.l2d bB) (FP.l2d pw))) (FP.l2d pw))), .second, .val (.double (FP.dmul (OwnFP.sumErr (FP.l2d bA) (FP.ddiv (FP.l2d bB) (FP.l2d pw)) (FP.dadd (FP.l2d bA) (FP.ddiv (FP.l2d bB) (FP.l2d pw)))) (FP.l2d pw))), .second, .val (.long (FP.d2l (FP.dmul (FP.dadd (FP.l2d bA) (FP.ddiv (FP.l2d bB) (FP.l2d pw))) (FP.l2d pw)))), .second, .unset, .unset]) rfl kk_))) ?_
    show own_Goes _ _ _ _ _ _ _ T1 (mkF m 120 #[.val (.long p1), .second, .val (.long p2), .second, iv p3, iv p4, .val (.long bA), .second, .val (.long bB), .second, iv sI, .val (.long pw), .second, .val (.double (FP.l2d pw)), .second, .val (.double (FP.l2d bA)), .second, .val (.double (FP.ddiv (FP.l2d bB) (FP.l2d pw))), .second, .val (.double (FP.dadd (FP.l2d bA) (FP.ddiv (FP.l2d bB) (FP.l2d pw)))), .second, .val (.double (OwnFP.sumErr (FP.l2d bA) (FP.ddiv (FP.l2d bB) (FP.l2d pw)) (FP.dadd (FP.l2d bA) (FP.ddiv (FP.l2d bB) (FP.l2d pw))))), .second, .val (.long ((bA * pw) + bB)), .second, .val (.double (FP.dmul (FP.dadd (FP.l2d bA) (FP.ddiv (FP.l2d bB) (FP.l2d pw))) (FP.l2d pw))), .second, .val (.double (FP.dmul (OwnFP.sumErr (FP.l2d bA) (FP.ddiv (FP.l2d bB) (FP.l2d pw)) (FP.dadd (FP.l2d bA) (FP.ddiv (FP.l2d bB) (FP.l2d pw)))) (FP.l2d pw))), .second, .val (.long (FP.d2l (FP.dmul (FP.dadd (FP.l2d bA) (FP.ddiv (FP.l2d bB) (FP.l2d pw))) (FP.l2d pw)))), .second, .unset, .unset] [])
    refine own_st (fun _ kk_ => XS.dload X1.here hx rfl (hb hby at_120) rfl (XS.d2lS X1.here hx rfl (hb hby at_122) rfl (v := FP.d2l (FP.dmul (OwnFP.sumErr (FP.l2d bA) (FP.ddiv (FP.l2d bB) (FP.l2d pw)) (FP.dadd (FP.l2d bA) (FP.ddiv (FP.l2d bB) (FP.l2d pw)))) (FP.l2d pw))) rfl (XS.lstore X1.here hx rfl (hb hby at_123) rfl (l' := #[.val (.long p1), .second, .val (.long p2), .second, iv p3, iv p4, .val (.long bA), .second, .val (.long bB), .second, iv sI, .val (.long pw), .second, .val (.double (FP.l2d pw)), .second, .val (.double (FP.l2d bA)), .second, .val (.double (FP.ddiv (FP.l2d bB) (FP.l2d pw))), .second, .val (.double (FP.dadd (FP.l2d bA) (FP.ddiv (FP.l2d bB) (FP.l2d pw)))), .second, .val (.double (OwnFP.sumErr (FP.l2d bA) (FP.ddiv (FP.l2d bB) (FP.l2d pw)) (FP.dadd (FP.l2d bA) (FP.ddiv (FP.l2d bB) (FP.l2d pw))))), .second, .val (.long ((bA * pw) + bB)), .second, .val (.double (FP.dmul (FP.dadd (FP.l2d bA) (FP.ddiv (FP.l2d bB) (FP.l2d pw))) (FP.l2d pw))), .second, .val (.double (FP.dmul (OwnFP.sumErr (FP.l2d bA) (FP.ddiv (FP.l2d bB) (FP.l2d pw)) (FP.dadd (FP.l2d bA) (FP.ddiv (FP.l2d bB) (FP.l2d pw)))) (FP.l2d pw))), .second, .val (.long (FP.d2l (FP.dmul (FP.dadd (FP.l2d bA) (FP.ddiv (FP.l2d bB) (FP.l2d pw))) (FP.l2d pw)))), .second, .val (.long (FP.d2l (FP.dmul (OwnFP.sumErr (FP.l2d bA) (FP.ddiv (FP.l2d bB) (FP.l2d pw)) (FP.dadd (FP.l2d bA) (FP.ddiv (FP.l2d bB) (FP.l2d pw)))) (FP.l2d pw)))), .second]) rfl kk_))) ?_
    show own_Goes _ _ _ _ _ _ _ T1 (mkF m 125 #[.val (.long p1), .second, .val (.long p2), .second, iv p3, iv p4, .val (.long bA), .second, .val (.long bB), .second, iv sI, .val (.long pw), .second, .val (.double (FP.l2d pw)), .second, .val (.double (FP.l2d bA)), .second, .val (.double (FP.ddiv (FP.l2d bB) (FP.l2d pw))), .second, .val (.double (FP.dadd (FP.l2d bA) (FP.ddiv (FP.l2d bB) (FP.l2d pw)))), .second, .val (.double (OwnFP.sumErr (FP.l2d bA) (FP.ddiv (FP.l2d bB) (FP.l2d pw)) (FP.dadd (FP.l2d bA) (FP.ddiv (FP.l2d bB) (FP.l2d pw))))), .second, .val (.long ((bA * pw) + bB)), .second, .val (.double (FP.dmul (FP.dadd (FP.l2d bA) (FP.ddiv (FP.l2d bB) (FP.l2d pw))) (FP.l2d pw))), .second, .val (.double (FP.dmul (OwnFP.sumErr (FP.l2d bA) (FP.ddiv (FP.l2d bB) (FP.l2d pw)) (FP.dadd (FP.l2d bA) (FP.ddiv (FP.l2d bB) (FP.l2d pw)))) (FP.l2d pw))), .second, .val (.long (FP.d2l (FP.dmul (FP.dadd (FP.l2d bA) (FP.ddiv (FP.l2d bB) (FP.l2d pw))) (FP.l2d pw)))), .second, .val (.long (FP.d2l (FP.dmul (OwnFP.sumErr (FP.l2d bA) (FP.ddiv (FP.l2d bB) (FP.l2d pw)) (FP.dadd (FP.l2d bA) (FP.ddiv (FP.l2d bB) (FP.l2d pw)))) (FP.l2d pw)))), .second] [])
    refine own_st (fun _ kk_ => XS.lload X1.here hx rfl (hb hby at_125) rfl (XS.l2dS X1.here hx rfl (hb hby at_127) rfl (v := FP.l2d (FP.d2l (FP.dmul (FP.dadd (FP.l2d bA) (FP.ddiv (FP.l2d bB) (FP.l2d pw))) (FP.l2d pw)))) rfl (XS.dload X1.here hx rfl (hb hby at_128) rfl kk_))) ?_
    show own_Goes _ _ _ _ _ _ _ T1 (mkF m 130 #[.val (.long p1), .second, .val (.long p2), .second, iv p3, iv p4, .val (.long bA), .second, .val (.long bB), .second, iv sI, .val (.long pw), .second, .val (.double (FP.l2d pw)), .second, .val (.double (FP.l2d bA)), .second, .val (.double (FP.ddiv (FP.l2d bB) (FP.l2d pw))), .second, .val (.double (FP.dadd (FP.l2d bA) (FP.ddiv (FP.l2d bB) (FP.l2d pw)))), .second, .val (.double (OwnFP.sumErr (FP.l2d bA) (FP.ddiv (FP.l2d bB) (FP.l2d pw)) (FP.dadd (FP.l2d bA) (FP.ddiv (FP.l2d bB) (FP.l2d pw))))), .second, .val (.long ((bA * pw) + bB)), .second, .val (.double (FP.dmul (FP.dadd (FP.l2d bA) (FP.ddiv (FP.l2d bB) (FP.l2d pw))) (FP.l2d pw))), .second, .val (.double (FP.dmul (OwnFP.sumErr (FP.l2d bA) (FP.ddiv (FP.l2d bB) (FP.l2d pw)) (FP.dadd (FP.l2d bA) (FP.ddiv (FP.l2d bB) (FP.l2d pw)))) (FP.l2d pw))), .second, .val (.long (FP.d2l (FP.dmul (FP.dadd (FP.l2d bA) (FP.ddiv (FP.l2d bB) (FP.l2d pw))) (FP.l2d pw)))), .second, .val (.long (FP.d2l (FP.dmul (OwnFP.sumErr (FP.l2d bA) (FP.ddiv (FP.l2d bB) (FP.l2d pw)) (FP.dadd (FP.l2d bA) (FP.ddiv (FP.l2d bB) (FP.l2d pw)))) (FP.l2d pw)))), .second] [(.double (FP.dmul (FP.dadd (FP.l2d bA) (FP.ddiv (FP.l2d bB) (FP.l2d pw))) (FP.l2d pw))), (.double (FP.l2d (FP.d2l (FP.dmul (FP.dadd (FP.l2d bA) (FP.ddiv (FP.l2d bB) (FP.l2d pw))) (FP.l2d pw)))))])
    refine own_st (fun _ kk_ => XS.dcmpS X1.here hx rfl (hb hby at_130) rfl (v := (cmpValue (FP.dcmp (FP.l2d (FP.d2l (FP.dmul (FP.dadd (FP.l2d bA) (FP.ddiv (FP.l2d bB) (FP.l2d pw))) (FP.l2d pw)))) (FP.dmul (FP.dadd (FP.l2d bA) (FP.ddiv (FP.l2d bB) (FP.l2d pw))) (FP.l2d pw))) .l)) rfl (XS.ifNo X1.here hx rfl (hb hby at_131) rfl (XT.i0_ne_f u4) (XS.lload X1.here hx rfl (hb hby at_134) rfl kk_))) ?_
    show own_Goes _ _ _ _ _ _ _ T1 (mkF m 136 #[.val (.long p1), .second, .val (.long p2), .second, iv p3, iv p4, .val (.long bA), .second, .val (.long bB), .second, iv sI, .val (.long pw), .second, .val (.double (FP.l2d pw)), .second, .val (.double (FP.l2d bA)), .second, .val (.double (FP.ddiv (FP.l2d bB) (FP.l2d pw))), .second, .val (.double (FP.dadd (FP.l2d bA) (FP.ddiv (FP.l2d bB) (FP.l2d pw)))), .second, .val (.double (OwnFP.sumErr (FP.l2d bA) (FP.ddiv (FP.l2d bB) (FP.l2d pw)) (FP.dadd (FP.l2d bA) (FP.ddiv (FP.l2d bB) (FP.l2d pw))))), .second, .val (.long ((bA * pw) + bB)), .second, .val (.double (FP.dmul (FP.dadd (FP.l2d bA) (FP.ddiv (FP.l2d bB) (FP.l2d pw))) (FP.l2d pw))), .second, .val (.double (FP.dmul (OwnFP.sumErr (FP.l2d bA) (FP.ddiv (FP.l2d bB) (FP.l2d pw)) (FP.dadd (FP.l2d bA) (FP.ddiv (FP.l2d bB) (FP.l2d pw)))) (FP.l2d pw))), .second, .val (.long (FP.d2l (FP.dmul (FP.dadd (FP.l2d bA) (FP.ddiv (FP.l2d bB) (FP.l2d pw))) (FP.l2d pw)))), .second, .val (.long (FP.d2l (FP.dmul (OwnFP.sumErr (FP.l2d bA) (FP.ddiv (FP.l2d bB) (FP.l2d pw)) (FP.dadd (FP.l2d bA) (FP.ddiv (FP.l2d bB) (FP.l2d pw)))) (FP.l2d pw)))), .second] [(.long (FP.d2l (FP.dmul (OwnFP.sumErr (FP.l2d bA) (FP.ddiv (FP.l2d bB) (FP.l2d pw)) (FP.dadd (FP.l2d bA) (FP.ddiv (FP.l2d bB) (FP.l2d pw)))) (FP.l2d pw))))])
    refine own_st (fun _ kk_ => XS.l2dS X1.here hx rfl (hb hby at_136) rfl (v := FP.l2d (FP.d2l (FP.dmul (OwnFP.sumErr (FP.l2d bA) (FP.ddiv (FP.l2d bB) (FP.l2d pw)) (FP.dadd (FP.l2d bA) (FP.ddiv (FP.l2d bB) (FP.l2d pw)))) (FP.l2d pw)))) rfl (XS.dload X1.here hx rfl (hb hby at_137) rfl (XS.dcmpS X1.here hx rfl (hb hby at_139) rfl (v := (cmpValue (FP.dcmp (FP.l2d (FP.d2l (FP.dmul (OwnFP.sumErr (FP.l2d bA) (FP.ddiv (FP.l2d bB) (FP.l2d pw)) (FP.dadd (FP.l2d bA) (FP.ddiv (FP.l2d bB) (FP.l2d pw)))) (FP.l2d pw)))) (FP.dmul (OwnFP.sumErr (FP.l2d bA) (FP.ddiv (FP.l2d bB) (FP.l2d pw)) (FP.dadd (FP.l2d bA) (FP.ddiv (FP.l2d bB) (FP.l2d pw)))) (FP.l2d pw))) .l)) rfl kk_))) ?_
    show own_Goes _ _ _ _ _ _ _ T1 (mkF m 140 #[.val (.long p1), .second, .val (.long p2), .second, iv p3, iv p4, .val (.long bA), .second, .val (.long bB), .second, iv sI, .val (.long pw), .second, .val (.double (FP.l2d pw)), .second, .val (.double (FP.l2d bA)), .second, .val (.double (FP.ddiv (FP.l2d bB) (FP.l2d pw))), .second, .val (.double (FP.dadd (FP.l2d bA) (FP.ddiv (FP.l2d bB) (FP.l2d pw)))), .second, .val (.double (OwnFP.sumErr (FP.l2d bA) (FP.ddiv (FP.l2d bB) (FP.l2d pw)) (FP.dadd (FP.l2d bA) (FP.ddiv (FP.l2d bB) (FP.l2d pw))))), .second, .val (.long ((bA * pw) + bB)), .second, .val (.double (FP.dmul (FP.dadd (FP.l2d bA) (FP.ddiv (FP.l2d bB) (FP.l2d pw))) (FP.l2d pw))), .second, .val (.double (FP.dmul (OwnFP.sumErr (FP.l2d bA) (FP.ddiv (FP.l2d bB) (FP.l2d pw)) (FP.dadd (FP.l2d bA) (FP.ddiv (FP.l2d bB) (FP.l2d pw)))) (FP.l2d pw))), .second, .val (.long (FP.d2l (FP.dmul (FP.dadd (FP.l2d bA) (FP.ddiv (FP.l2d bB) (FP.l2d pw))) (FP.l2d pw)))), .second, .val (.long (FP.d2l (FP.dmul (OwnFP.sumErr (FP.l2d bA) (FP.ddiv (FP.l2d bB) (FP.l2d pw)) (FP.dadd (FP.l2d bA) (FP.ddiv (FP.l2d bB) (FP.l2d pw)))) (FP.l2d pw)))), .second] [(.int (cmpValue (FP.dcmp (FP.l2d (FP.d2l (FP.dmul (OwnFP.sumErr (FP.l2d bA) (FP.ddiv (FP.l2d bB) (FP.l2d pw)) (FP.dadd (FP.l2d bA) (FP.ddiv (FP.l2d bB) (FP.l2d pw)))) (FP.l2d pw)))) (FP.dmul (OwnFP.sumErr (FP.l2d bA) (FP.ddiv (FP.l2d bB) (FP.l2d pw)) (FP.dadd (FP.l2d bA) (FP.ddiv (FP.l2d bB) (FP.l2d pw)))) (FP.l2d pw))) .l))])
    refine own_st (fun _ kk_ => XS.ifNo X1.here hx rfl (hb hby at_140) rfl (XT.i0_ne_f u5) (XS.lload X1.here hx rfl (hb hby at_143) rfl (XS.lload X1.here hx rfl (hb hby at_145) rfl kk_))) ?_
    show own_Goes _ _ _ _ _ _ _ T1 (mkF m 147 #[.val (.long p1), .second, .val (.long p2), .second, iv p3, iv p4, .val (.long bA), .second, .val (.long bB), .second, iv sI, .val (.long pw), .second, .val (.double (FP.l2d pw)), .second, .val (.double (FP.l2d bA)), .second, .val (.double (FP.ddiv (FP.l2d bB) (FP.l2d pw))), .second, .val (.double (FP.dadd (FP.l2d bA) (FP.ddiv (FP.l2d bB) (FP.l2d pw)))), .second, .val (.double (OwnFP.sumErr (FP.l2d bA) (FP.ddiv (FP.l2d bB) (FP.l2d pw)) (FP.dadd (FP.l2d bA) (FP.ddiv (FP.l2d bB) (FP.l2d pw))))), .second, .val (.long ((bA * pw) + bB)), .second, .val (.double (FP.dmul (FP.dadd (FP.l2d bA) (FP.ddiv (FP.l2d bB) (FP.l2d pw))) (FP.l2d pw))), .second, .val (.double (FP.dmul (OwnFP.sumErr (FP.l2d bA) (FP.ddiv (FP.l2d bB) (FP.l2d pw)) (FP.dadd (FP.l2d bA) (FP.ddiv (FP.l2d bB) (FP.l2d pw)))) (FP.l2d pw))), .second, .val (.long (FP.d2l (FP.dmul (FP.dadd (FP.l2d bA) (FP.ddiv (FP.l2d bB) (FP.l2d pw))) (FP.l2d pw)))), .second, .val (.long (FP.d2l (FP.dmul (OwnFP.sumErr (FP.l2d bA) (FP.ddiv (FP.l2d bB) (FP.l2d pw)) (FP.dadd (FP.l2d bA) (FP.ddiv (FP.l2d bB) (FP.l2d pw)))) (FP.l2d pw)))), .second] [(.long (FP.d2l (FP.dmul (OwnFP.sumErr (FP.l2d bA) (FP.ddiv (FP.l2d bB) (FP.l2d pw)) (FP.dadd (FP.l2d bA) (FP.ddiv (FP.l2d bB) (FP.l2d pw)))) (FP.l2d pw)))), (.long (FP.d2l (FP.dmul (FP.dadd (FP.l2d bA) (FP.ddiv (FP.l2d bB) (FP.l2d pw))) (FP.l2d pw))))])
    refine own_st (fun _ kk_ => XS.ladd X1.here hx rfl (hb hby at_147) rfl (XS.lload X1.here hx rfl (hb hby at_148) rfl (XT.lcmp X1.here hx rfl (hb hby at_150) rfl kk_))) ?_
    show own_Goes _ _ _ _ _ _ _ T1 (mkF m 151 #[.val (.long p1), .second, .val (.long p2), .second, iv p3, iv p4, .val (.long bA), .second, .val (.long bB), .second, iv sI, .val (.long pw), .second, .val (.double (FP.l2d pw)), .second, .val (.double (FP.l2d bA)), .second, .val (.double (FP.ddiv (FP.l2d bB) (FP.l2d pw))), .second, .val (.double (FP.dadd (FP.l2d bA) (FP.ddiv (FP.l2d bB) (FP.l2d pw)))), .second, .val (.double (OwnFP.sumErr (FP.l2d bA) (FP.ddiv (FP.l2d bB) (FP.l2d pw)) (FP.dadd (FP.l2d bA) (FP.ddiv (FP.l2d bB) (FP.l2d pw))))), .second, .val (.long ((bA * pw) + bB)), .second, .val (.double (FP.dmul (FP.dadd (FP.l2d bA) (FP.ddiv (FP.l2d bB) (FP.l2d pw))) (FP.l2d pw))), .second, .val (.double (FP.dmul (OwnFP.sumErr (FP.l2d bA) (FP.ddiv (FP.l2d bB) (FP.l2d pw)) (FP.dadd (FP.l2d bA) (FP.ddiv (FP.l2d bB) (FP.l2d pw)))) (FP.l2d pw))), .second, .val (.long (FP.d2l (FP.dmul (FP.dadd (FP.l2d bA) (FP.ddiv (FP.l2d bB) (FP.l2d pw))) (FP.l2d pw)))), .second, .val (.long (FP.d2l (FP.dmul (OwnFP.sumErr (FP.l2d bA) (FP.ddiv (FP.l2d bB) (FP.l2d pw)) (FP.dadd (FP.l2d bA) (FP.ddiv (FP.l2d bB) (FP.l2d pw)))) (FP.l2d pw)))), .second] [(.int (XT.cmpL ((FP.d2l (FP.dmul (FP.dadd (FP.l2d bA) (FP.ddiv (FP.l2d bB) (FP.l2d pw))) (FP.l2d pw))) + (FP.d2l (FP.dmul (OwnFP.sumErr (FP.l2d bA) (FP.ddiv (FP.l2d bB) (FP.l2d pw)) (FP.dadd (FP.l2d bA) (FP.ddiv (FP.l2d bB) (FP.l2d pw)))) (FP.l2d pw)))) ((bA * pw) + bB)))])
    refine own_st (fun _ kk_ => XS.ifNo X1.here hx rfl (hb hby at_151) rfl (XT.ll_ne_f u6) (XS.iconst X1.here hx rfl (hb hby at_154) (XS.goto X1.here hx rfl (pc0 := 155) (pc' := 159) rfl (hb hby at_155) (by decide) (by decide) kk_))) ?_
    show own_Goes _ _ _ _ _ _ _ T1 (mkF m 159 #[.val (.long p1), .second, .val (.long p2), .second, iv p3, iv p4, .val (.long bA), .second, .val (.long bB), .second, iv sI, .val (.long pw), .second, .val (.double (FP.l2d pw)), .second, .val (.double (FP.l2d bA)), .second, .val (.double (FP.ddiv (FP.l2d bB) (FP.l2d pw))), .second, .val (.double (FP.dadd (FP.l2d bA) (FP.ddiv (FP.l2d bB) (FP.l2d pw)))), .second, .val (.double (OwnFP.sumErr (FP.l2d bA) (FP.ddiv (FP.l2d bB) (FP.l2d pw)) (FP.dadd (FP.l2d bA) (FP.ddiv (FP.l2d bB) (FP.l2d pw))))), .second, .val (.long ((bA * pw) + bB)), .second, .val (.double (FP.dmul (FP.dadd (FP.l2d bA) (FP.ddiv (FP.l2d bB) (FP.l2d pw))) (FP.l2d pw))), .second, .val (.double (FP.dmul (OwnFP.sumErr (FP.l2d bA) (FP.ddiv (FP.l2d bB) (FP.l2d pw)) (FP.dadd (FP.l2d bA) (FP.ddiv (FP.l2d bB) (FP.l2d pw)))) (FP.l2d pw))), .second, .val (.long (FP.d2l (FP.dmul (FP.dadd (FP.l2d bA) (FP.ddiv (FP.l2d bB) (FP.l2d pw))) (FP.l2d pw)))), .second, .val (.long (FP.d2l (FP.dmul (OwnFP.sumErr (FP.l2d bA) (FP.ddiv (FP.l2d bB) (FP.l2d pw)) (FP.dadd (FP.l2d bA) (FP.ddiv (FP.l2d bB) (FP.l2d pw)))) (FP.l2d pw)))), .second] [(.int (1 : Int32))])
    refine own_retN X1 hx hlk (t := .boolean) Bd.returns (by simp) (hb hby at_159) (by decide) (by decide) ?_
    show Q0 Z p1 p2 p3 p4 h0 n0 (some (.int (nar .boolean (1 : Int32)))) T1.heap _
    rw [eq1]
    exact ⟨rfl, N1⟩
  · refine own_st (fun _ kk_ => XS.ifNo X0.here hx rfl (hb hby at_63) rfl (XT.i0_eq_f q) (XS.dload X0.here hx rfl (hb hby at_66) rfl (XS.dload X0.here hx rfl (hb hby at_68) rfl kk_))) ?_
    show own_Goes _ _ _ _ _ _ _ s₁ (mkF m 70 #[.val (.long p1), .second, .val (.long p2), .second, iv p3, iv p4, .val (.long bA), .second, .val (.long bB), .second, iv sI, .val (.long pw), .second, .val (.double (FP.l2d pw)), .second, .val (.double (FP.l2d bA)), .second, .val (.double (FP.ddiv (FP.l2d bB) (FP.l2d pw))), .second, .val (.double (FP.dadd (FP.l2d bA) (FP.ddiv (FP.l2d bB) (FP.l2d pw)))), .second, .unset, .unset, .unset, .unset, .unset, .unset, .unset, .unset, .unset, .unset, .unset, .unset] [(.double (FP.l2d bA)), (.double (FP.ddiv (FP.l2d bB) (FP.l2d pw)))])
    refine own_st (fun _ kk_ => XS.dload X0.here hx rfl (hb hby at_70) rfl kk_) ?_
    show own_Goes _ _ _ _ _ _ _ s₁ (mkF m 72 #[.val (.long p1), .second, .val (.long p2), .second, iv p3, iv p4, .val (.long bA), .second, .val (.long bB), .second, iv sI, .val (.long pw), .second, .val (.double (FP.l2d pw)), .second, .val (.double (FP.l2d bA)), .second, .val (.double (FP.ddiv (FP.l2d bB) (FP.l2d pw))), .second, .val (.double (FP.dadd (FP.l2d bA) (FP.ddiv (FP.l2d bB) (FP.l2d pw)))), .second, .unset, .unset, .unset, .unset, .unset, .unset, .unset, .unset, .unset, .unset, .unset, .unset] [(.double (FP.dadd (FP.l2d bA) (FP.ddiv (FP.l2d bB) (FP.l2d pw)))), (.double (FP.l2d bA)), (.double (FP.ddiv (FP.l2d bB) (FP.l2d pw)))])
    obtain ⟨_, _, ⟨T2, L2, k2, n2⟩, -, X2, ⟨Lc2, hQ2, l2, y2, z2⟩, st2⟩ := Jvm.LawKit.callS X0 hx (y := yy0) hown (mvT hZ (own_w hw 1 rfl)) (mvT hZ (own_w hw 2 rfl)) (mvT hZ (own_w hw 3 rfl)) (mvT hZ (own_w hw 4 rfl)) (by decide) (backOf (W := 0) (rm1 l Z a0 hw [] ((FP.ddiv (FP.l2d bB) (FP.l2d pw))) ((FP.l2d bA)) ((FP.dadd (FP.l2d bA) (FP.ddiv (FP.l2d bB) (FP.l2d pw)))) h0 n0 Z0 v1) hZ (own_w hw 4 rfl) (own_w hw 3 rfl) (by decide) (by decide)) (g := (mkF m 72 #[.val (.long p1), .second, .val (.long p2), .second, iv p3, iv p4, .val (.long bA), .second, .val (.long bB), .second, iv sI, .val (.long pw), .second, .val (.double (FP.l2d pw)), .second, .val (.double (FP.l2d bA)), .second, .val (.double (FP.ddiv (FP.l2d bB) (FP.l2d pw))), .second, .val (.double (FP.dadd (FP.l2d bA) (FP.ddiv (FP.l2d bB) (FP.l2d pw)))), .second, .unset, .unset, .unset, .unset, .unset, .unset, .unset, .unset, .unset, .unset, .unset, .unset] [(.double (FP.dadd (FP.l2d bA) (FP.ddiv (FP.l2d bB) (FP.l2d pw)))), (.double (FP.l2d bA)), (.double (FP.ddiv (FP.l2d bB) (FP.l2d pw)))])) rfl (by rw [hml]; rfl) (argsL := [(.double (FP.ddiv (FP.l2d bB) (FP.l2d pw))), (.double (FP.l2d bA)), (.double (FP.dadd (FP.l2d bA) (FP.ddiv (FP.l2d bB) (FP.l2d pw))))]) (rest := []) (lenOf pd_0 rfl) rfl (by show 2 * 0 + _ ≤ _; exact Nat.le_of_eq rfl) (hb hby at_72) (fun _ _ => ⟨rfl, e0, (by decide : 0 + 0 ≤ _), (by decide : 0 + 0 ≤ _)⟩)
    dsimp only [Pt.U, Pt.locs, Pt.cells, Pt.slots] at X2 l2 y2 z2 st2 hQ2
    subst l2 y2 z2
    obtain ⟨rfl, Nq2, eq2⟩ := hQ2
    have N2 := Fr.app N0 Nq2
    refine own_st st2 ?_
    show own_Goes _ _ _ _ _ _ _ T2 (mkF m 75 #[.val (.long p1), .second, .val (.long p2), .second, iv p3, iv p4, .val (.long bA), .second, .val (.long bB), .second, iv sI, .val (.long pw), .second, .val (.double (FP.l2d pw)), .second, .val (.double (FP.l2d bA)), .second, .val (.double (FP.ddiv (FP.l2d bB) (FP.l2d pw))), .second, .val (.double (FP.dadd (FP.l2d bA) (FP.ddiv (FP.l2d bB) (FP.l2d pw)))), .second, .unset, .unset, .unset, .unset, .unset, .unset, .unset, .unset, .unset, .unset, .unset, .unset] [(.double (OwnFP.sumErr (FP.ddiv (FP.l2d bB) (FP.l2d pw)) (FP.l2d bA) (FP.dadd (FP.l2d bA) (FP.ddiv (FP.l2d bB) (FP.l2d pw)))))])
    refine own_st (fun _ kk_ => XS.dstore X2.here hx rfl (hb hby at_75) rfl (l' := #[.val (.long p1), .second, .val (.long p2), .second, iv p3, iv p4, .val (.long bA), .second, .val (.long bB), .second, iv sI, .val (.long pw), .second, .val (.double (FP.l2d pw)), .second, .val (.double (FP.l2d bA)), .second, .val (.double (FP.ddiv (FP.l2d bB) (FP.l2d pw))), .second, .val (.double (FP.dadd (FP.l2d bA) (FP.ddiv (FP.l2d bB) (FP.l2d pw)))), .second, .val (.double (OwnFP.sumErr (FP.ddiv (FP.l2d bB) (FP.l2d pw)) (FP.l2d bA) (FP.dadd (FP.l2d bA) (FP.ddiv (FP.l2d bB) (FP.l2d pw))))), .second, .unset, .unset, .unset, .unset, .unset, .unset, .unset, .unset, .unset, .unset]) rfl (XS.goto X2.here hx rfl (pc0 := 77) (pc' := 91) rfl (hb hby at_77) (by decide) (by decide) (XS.lload X2.here hx rfl (hb hby at_91) rfl kk_))) ?_
    show own_Goes _ _ _ _ _ _ _ T2 (mkF m 93 #[.val (.long p1), .second, .val (.long p2), .second, iv p3, iv p4, .val (.long bA), .second, .val (.long bB), .second, iv sI, .val (.long pw), .second, .val (.double (FP.l2d pw)), .second, .val (.double (FP.l2d bA)), .second, .val (.double (FP.ddiv (FP.l2d bB) (FP.l2d pw))), .second, .val (.double (FP.dadd (FP.l2d bA) (FP.ddiv (FP.l2d bB) (FP.l2d pw)))), .second, .val (.double (OwnFP.sumErr (FP.ddiv (FP.l2d bB) (FP.l2d pw)) (FP.l2d bA) (FP.dadd (FP.l2d bA) (FP.ddiv (FP.l2d bB) (FP.l2d pw))))), .second, .unset, .unset, .unset, .unset, .unset, .unset, .unset, .unset, .unset, .unset] [(.long bA)])
    refine own_st (fun _ kk_ => XS.lload X2.here hx rfl (hb hby at_93) rfl (XS.lmul X2.here hx rfl (hb hby at_95) rfl (XS.lload X2.here hx rfl (hb hby at_96) rfl kk_))) ?_
    show own_Goes _ _ _ _ _ _ _ T2 (mkF m 98 #[.val (.long p1), .second, .val (.long p2), .second, iv p3, iv p4, .val (.long bA), .second, .val (.long bB), .second, iv sI, .val (.long pw), .second, .val (.double (FP.l2d pw)), .second, .val (.double (FP.l2d bA)), .second, .val (.double (FP.ddiv (FP.l2d bB) (FP.l2d pw))), .second, .val (.double (FP.dadd (FP.l2d bA) (FP.ddiv (FP.l2d bB) (FP.l2d pw)))), .second, .val (.double (OwnFP.sumErr (FP.ddiv (FP.l2d bB) (FP.l2d pw)) (FP.l2d bA) (FP.dadd (FP.l2d bA) (FP.ddiv (FP.l2d bB) (FP.l2d pw))))), .second, .unset, .unset, .unset, .unset, .unset, .unset, .unset, .unset, .unset, .unset] [(.long bB), (.long (bA * pw))])
    refine own_st (fun _ kk_ => XS.ladd X2.here hx rfl (hb hby at_98) rfl (XS.lstore X2.here hx rfl (hb hby at_99) rfl (l' := #[.val (.long p1), .second, .val (.long p2), .second, iv p3, iv p4, .val (.long bA), .second, .val (.long bB), .second, iv sI, .val (.long pw), .second, .val (.double (FP.l2d pw)), .second, .val (.double (FP.l2d bA)), .second, .val (.double (FP.ddiv (FP.l2d bB) (FP.l2d pw))), .second, .val (.double (FP.dadd (FP.l2d bA) (FP.ddiv (FP.l2d bB) (FP.l2d pw)))), .second, .val (.double (OwnFP.sumErr (FP.ddiv (FP.l2d bB) (FP.l2d pw)) (FP.l2d bA) (FP.dadd (FP.l2d bA) (FP.ddiv (FP.l2d bB) (FP.l2d pw))))), .second, .val (.long ((bA * pw) + bB)), .second, .unset, .unset, .unset, .unset, .unset, .unset, .unset, .unset]) rfl (XS.dload X2.here hx rfl (hb hby at_101) rfl kk_))) ?_
    show own_Goes _ _ _ _ _ _ _ T2 (mkF m 103 #[.val (.long p1), .second, .val (.long p2), .second, iv p3, iv p4, .val (.long bA), .second, .val (.long bB), .second, iv sI, .val (.long pw), .second, .val (.double (FP.l2d pw)), .second, .val (.double (FP.l2d bA)), .second, .val (.double (FP.ddiv (FP.l2d bB) (FP.l2d pw))), .second, .val (.double (FP.dadd (FP.l2d bA) (FP.ddiv (FP.l2d bB) (FP.l2d pw)))), .second, .val (.double (OwnFP.sumErr (FP.ddiv (FP.l2d bB) (FP.l2d pw)) (FP.l2d bA) (FP.dadd (FP.l2d bA) (FP.ddiv (FP.l2d bB) (FP.l2d pw))))), .second, .val (.long ((bA * pw) + bB)), .second, .unset, .unset, .unset, .unset, .unset, .unset, .unset, .unset] [(.double (FP.dadd (FP.l2d bA) (FP.ddiv (FP.l2d bB) (FP.l2d pw))))])
    refine own_st (fun _ kk_ => XS.dload X2.here hx rfl (hb hby at_103) rfl (XS.dmulS X2.here hx rfl (hb hby at_105) rfl v2 (v := (FP.dmul (FP.dadd (FP.l2d bA) (FP.ddiv (FP.l2d bB) (FP.l2d pw))) (FP.l2d pw))) rfl (XS.dstore X2.here hx rfl (hb hby at_106) rfl (l' := #[.val (.long p1), .second, .val (.long p2), .second, iv p3, iv p4, .val (.long bA), .second, .val (.long bB), .second, iv sI, .val (.long pw), .second, .val (.double (FP.l2d pw)), .second, .val (.double (FP.l2d bA)), .second, .val (.double (FP.ddiv (FP.l2d bB) (FP.l2d pw))), .second, .val (.double (FP.dadd (FP.l2d bA) (FP.ddiv (FP.l2d bB) (FP.l2d pw)))), .second, .val (.double (OwnFP.sumErr (FP.ddiv (FP.l2d bB) (FP.l2d pw)) (FP.l2d bA) (FP.dadd (FP.l2d bA) (FP.ddiv (FP.l2d bB) (FP.l2d pw))))), .second, .val (.long ((bA * pw) + bB)), .second, .val (.double (FP.dmul (FP.dadd (FP.l2d bA) (FP.ddiv (FP.l2d bB) (FP.l2d pw))) (FP.l2d pw))), .second, .unset, .unset, .unset, .unset, .unset, .unset]) rfl kk_))) ?_
    show own_Goes _ _ _ _ _ _ _ T2 (mkF m 108 #[.val (.long p1), .second, .val (.long p2), .second, iv p3, iv p4, .val (.long bA), .second, .val (.long bB), .second, iv sI, .val (.long pw), .second, .val (.double (FP.l2d pw)), .second, .val (.double (FP.l2d bA)), .second, .val (.double (FP.ddiv (FP.l2d bB) (FP.l2d pw))), .second, .val (.double (FP.dadd (FP.l2d bA) (FP.ddiv (FP.l2d bB) (FP.l2d pw)))), .second, .val (.double (OwnFP.sumErr (FP.ddiv (FP.l2d bB) (FP.l2d pw)) (FP.l2d bA) (FP.dadd (FP.l2d bA) (FP.ddiv (FP.l2d bB) (FP.l2d pw))))), .second, .val (.long ((bA * pw) + bB)), .second, .val (.double (FP.dmul (FP.dadd (FP.l2d bA) (FP.ddiv (FP.l2d bB) (FP.l2d pw))) (FP.l2d pw))), .second, .unset, .unset, .unset, .unset, .unset, .unset] [])
    refine own_st (fun _ kk_ => XS.dload X2.here hx rfl (hb hby at_108) rfl (XS.dload X2.here hx rfl (hb hby at_110) rfl (XS.dmulS X2.here hx rfl (hb hby at_112) rfl v3 (v := (FP.dmul (OwnFP.sumErr (FP.ddiv (FP.l2d bB) (FP.l2d pw)) (FP.l2d bA) (FP.dadd (FP.l2d bA) (FP.ddiv (FP.l2d bB) (FP.l2d pw)))) (FP.l2d pw))) rfl kk_))) ?_
    show own_Goes _ _ _ _ _ _ _ T2 (mkF m 113 #[.val (.long p1), .second, .val (.long p2), .second, iv p3, iv p4, .val (.long bA), .second, .val (.long bB), .second, iv sI, .val (.long pw), .second, .val (.double (FP.l2d pw)), .second, .val (.double (FP.l2d bA)), .second, .val (.double (FP.ddiv (FP.l2d bB) (FP.l2d pw))), .second, .val (.double (FP.dadd (FP.l2d bA) (FP.ddiv (FP.l2d bB) (FP.l2d pw)))), .second, .val (.double (OwnFP.sumErr (FP.ddiv (FP.l2d bB) (FP.l2d pw)) (FP.l2d bA) (FP.dadd (FP.l2d bA) (FP.ddiv (FP.l2d bB) (FP.l2d pw))))), .second, .val (.long ((bA * pw) + bB)), .second, .val (.double (FP.dmul (FP.dadd (FP.l2d bA) (FP.ddiv (FP.l2d bB) (FP.l2d pw))) (FP.l2d pw))), .second, .unset, .unset, .unset, .unset, .unset, .unset] [(.double (FP.dmul (OwnFP.sumErr (FP.ddiv (FP.l2d bB) (FP.l2d pw)) (FP.l2d bA) (FP.dadd (FP.l2d bA) (FP.ddiv (FP.l2d bB) (FP.l2d pw)))) (FP.l2d pw)))])
    refine own_st (fun _ kk_ => XS.dstore X2.here hx rfl (hb hby at_113) rfl (l' := #[.val (.long p1), .second, .val (.long p2), .second, iv p3, iv p4, .val (.long bA), .second, .val (.long bB), .second, iv sI, .val (.long pw), .second, .val (.double (FP.l2d pw)), .second, .val (.double (FP.l2d bA)), .second, .val (.double (FP.ddiv (FP.l2d bB) (FP.l2d pw))), .second, .val (.double (FP.dadd (FP.l2d bA) (FP.ddiv (FP.l2d bB) (FP.l2d pw)))), .second, .val (.double (OwnFP.sumErr (FP.ddiv (FP.l2d bB) (FP.l2d pw)) (FP.l2d bA) (FP.dadd (FP.l2d bA) (FP.ddiv (FP.l2d bB) (FP.l2d pw))))), .second, .val (.long ((bA * pw) + bB)), .second, .val (.double (FP.dmul (FP.dadd (FP.l2d bA) (FP.ddiv (FP.l2d bB) (FP.l2d pw))) (FP.l2d pw))), .second, .val (.double (FP.dmul (OwnFP.sumErr (FP.ddiv (FP.l2d bB) (FP.l2d pw)) (FP.l2d bA) (FP.dadd (FP.l2d bA) (FP.ddiv (FP.l2d bB) (FP.l2d pw)))) (FP.l2d pw))), .second, .unset, .unset, .unset, .unset]) rfl (XS.dload X2.here hx rfl (hb hby at_115) rfl (XS.d2lS X2.here hx rfl (hb hby at_117) rfl (v := FP.d2l (FP.dmul (FP.dadd (FP.l2d bA) (FP.ddiv (FP.l2d bB) (FP.l2d pw))) (FP.l2d pw))) rfl kk_))) ?_
    show own_Goes _ _ _ _ _ _ _ T2 (mkF m 118 #[.val (.long p1), .second, .val (.long p2), .second, iv p3, iv p4, .val (.long bA), .second, .val (.long bB), .second, iv sI, .val (.long pw), .second, .val (.double (FP.l2d pw)), .second, .val (.double (FP.l2d bA)), .second, .val (.double (FP.ddiv (FP.l2d bB) (FP.l2d pw))), .second, .val (.double (FP.dadd (FP.l2d bA) (FP.ddiv (FP.l2d bB) (FP.l2d pw)))), .second, .val (.double (OwnFP.sumErr (FP.ddiv (FP.l2d bB) (FP.l2d pw)) (FP.l2d bA) (FP.dadd (FP.l2d bA) (FP.ddiv (FP.l2d bB) (FP.l2d pw))))), .second, .val (.long ((bA * pw) + bB)), .second, .val (.double (FP.dmul (FP.dadd (FP.l2d bA) (FP.ddiv (FP.l2d bB) (FP.l2d pw))) (FP.l2d pw))), .second, .val (.double (FP.dmul (OwnFP.sumErr (FP.ddiv (FP.l2d bB) (FP.l2d pw)) (FP.l2d bA) (FP.dadd (FP.l2d bA) (FP.ddiv (FP.l2d bB) (FP.l2d pw)))) (FP.l2d pw))), .second, .unset, .unset, .unset, .unset] [(.long (FP.d2l (FP.dmul (FP.dadd (FP.l2d bA) (FP.ddiv (FP.l2d bB) (FP.l2d pw))) (FP.l2d pw))))])
    refine own_st (fun _ kk_ => XS.lstore X2.here hx rfl (hb hby at_118) rfl (l' := #[.val (.long p1), .second, .val (.long p2), .second, iv p3, iv p4, .val (.long bA), .second, .val (.long bB), .second, iv sI, .val (.long pw), .second, .val (.double (FP.l2d pw)), .second, .val (.double (FP.l2d bA)), .second, .val (.double (FP.ddiv (FP.l2d bB) (FP.l2d pw))), .second, .val (.double (FP.dadd (FP.l2d bA) (FP.ddiv (FP.l2d bB) (FP.l2d pw)))), .second, .val (.double (OwnFP.sumErr (FP.ddiv (FP.l2d bB) (FP.l2d pw)) (FP.l2d bA) (FP.dadd (FP.l2d bA) (FP.ddiv (FP.l2d bB) (FP.l2d pw))))), .second, .val (.long ((bA * pw) + bB)), .second, .val (.double (FP.dmul (FP.dadd (FP.l2d bA) (FP.ddiv (FP.l2d bB) (FP.l2d pw))) (FP.l2d pw))), .second, .val (.double (FP.dmul (OwnFP.sumErr (FP.ddiv (FP.l2d bB) (FP.l2d pw)) (FP.l2d bA) (FP.dadd (FP.l2d bA) (FP.ddiv (FP.l2d bB) (FP.l2d pw)))) (FP.l2d pw))), .second, .val (.long (FP.d2l (FP.dmul (FP.dadd (FP.l2d bA) (FP.ddiv (FP.l2d bB) (FP.l2d pw))) (FP.l2d pw)))), .second, .unset, .unset]) rfl (XS.dload X2.here hx rfl (hb hby at_120) rfl (XS.d2lS X2.here hx rfl (hb hby at_122) rfl (v := FP.d2l (FP.dmul (OwnFP.sumErr (FP.ddiv (FP.l2d bB) (FP.l2d pw)) (FP.l2d bA) (FP.dadd (FP.l2d bA) (FP.ddiv (FP.l2d bB) (FP.l2d pw)))) (FP.l2d pw))) rfl kk_))) ?_
    show own_Goes _ _ _ _ _ _ _ T2 (mkF m 123 #[.val (.long p1), .second, .val (.long p2), .second, iv p3, iv p4, .val (.long bA), .second, .val (.long bB), .second, iv sI, .val (.long pw), .second, .val (.double (FP.l2d pw)), .second, .val (.double (FP.l2d bA)), .second, .val (.double (FP.ddiv (FP.l2d bB) (FP.l2d pw))), .second, .val (.double (FP.dadd (FP.l2d bA) (FP.ddiv (FP.l2d bB) (FP.l2d pw)))), .second, .val (.double (OwnFP.sumErr (FP.ddiv (FP.l2d bB) (FP.l2d pw)) (FP.l2d bA) (FP.dadd (FP.l2d bA) (FP.ddiv (FP.l2d bB) (FP.l2d pw))))), .second, .val (.long ((bA * pw) + bB)), .second, .val (.double (FP.dmul (FP.dadd (FP.l2d bA) (FP.ddiv (FP.l2d bB) (FP.l2d pw))) (FP.l2d pw))), .second, .val (.double (FP.dmul (OwnFP.sumErr (FP.ddiv (FP.l2d bB) (FP.l2d pw)) (FP.l2d bA) (FP.dadd (FP.l2d bA) (FP.ddiv (FP.l2d bB) (FP.l2d pw)))) (FP.l2d pw))), .second, .val (.long (FP.d2l (FP.dmul (FP.dadd (FP.l2d bA) (FP.ddiv (FP.l2d bB) (FP.l2d pw))) (FP.l2d pw)))), .second, .unset, .unset] [(.long (FP.d2l (FP.dmul (OwnFP.sumErr (FP.ddiv (FP.l2d bB) (FP.l2d pw)) (FP.l2d bA) (FP.dadd (FP.l2d bA) (FP.ddiv (FP.l2d bB) (FP.l2d pw)))) (FP.l2d pw))))])
    refine own_st (fun _ kk_ => XS.lstore X2.here hx rfl (hb hby at_123) rfl (l' := #[.val (.long p1), .second, .val (.long p2), .second, iv p3, iv p4, .val (.long bA), .second, .val (.long bB), .second, iv sI, .val (.long pw), .second, .val (.double (FP.l2d pw)), .second, .val (.double (FP.l2d bA)), .second, .val (.double (FP.ddiv (FP.l2d bB) (FP.l2d pw))), .second, .val (.double (FP.dadd (FP.l2d bA) (FP.ddiv (FP.l2d bB) (FP.l2d pw)))), .second, .val (.double (OwnFP.sumErr (FP.ddiv (FP.l2d bB) (FP.l2d pw)) (FP.l2d bA) (FP.dadd (FP.l2d bA) (FP.ddiv (FP.l2d bB) (FP.l2d pw))))), .second, .val (.long ((bA * pw) + bB)), .second, .val (.double (FP.dmul (FP.dadd (FP.l2d bA) (FP.ddiv (FP.l2d bB) (FP.l2d pw))) (FP.l2d pw))), .second, .val (.double (FP.dmul (OwnFP.sumErr (FP.ddiv (FP.l2d bB) (FP.l2d pw)) (FP.l2d bA) (FP.dadd (FP.l2d bA) (FP.ddiv (FP.l2d bB) (FP.l2d pw)))) (FP.l2d pw))), .second, .val (.long (FP.d2l (FP.dmul (FP.dadd (FP.l2d bA) (FP.ddiv (FP.l2d bB) (FP.l2d pw))) (FP.l2d pw)))), .second, .val (.long (FP.d2l (FP.dmul (OwnFP.sumErr (FP.ddiv (FP.l2d bB) (FP.l2d pw)) (FP.l2d bA) (FP.dadd (FP.l2d bA) (FP.ddiv (FP.l2d bB) (FP.l2d pw)))) (FP.l2d pw)))), .second]) rfl (XS.lload X2.here hx rfl (hb hby at_125) rfl (XS.l2dS X2.here hx rfl (hb hby at_127) rfl (v := FP.l2d (FP.d2l (FP.dmul (FP.dadd (FP.l2d bA) (FP.ddiv (FP.l2d bB) (FP.l2d pw))) (FP.l2d pw)))) rfl kk_))) ?_
    show own_Goes _ _ _ _ _ _ _ T2 (mkF m 128 #[.val (.long p1), .second, .val (.long p2), .second, iv p3, iv p4, .val (.long bA), .second, .val (.long bB), .second, iv sI, .val (.long pw), .second, .val (.double (FP.l2d pw)), .second, .val (.double (FP.l2d bA)), .second, .val (.double (FP.ddiv (FP.l2d bB) (FP.l2d pw))), .second, .val (.double (FP.dadd (FP.l2d bA) (FP.ddiv (FP.l2d bB) (FP.l2d pw)))), .second, .val (.double (OwnFP.sumErr (FP.ddiv (FP.l2d bB) (FP.l2d pw)) (FP.l2d bA) (FP.dadd (FP.l2d bA) (FP.ddiv (FP.l2d bB) (FP.l2d pw))))), .second, .val (.long ((bA * pw) + bB)), .second, .val (.double (FP.dmul (FP.dadd (FP.l2d bA) (FP.ddiv (FP.l2d bB) (FP.l2d pw))) (FP.l2d pw))), .second, .val (.double (FP.dmul (OwnFP.sumErr (FP.ddiv (FP.l2d bB) (FP.l2d pw)) (FP.l2d bA) (FP.dadd (FP.l2d bA) (FP.ddiv (FP.l2d bB) (FP.l2d pw)))) (FP.l2d pw))), .second, .val (.long (FP.d2l (FP.dmul (FP.dadd (FP.l2d bA) (FP.ddiv (FP.l2d bB) (FP.l2d pw))) (FP.l2d pw)))), .second, .val (.long (FP.d2l (FP.dmul (OwnFP.sumErr (FP.ddiv (FP.l2d bB) (FP.l2d pw)) (FP.l2d bA) (FP.dadd (FP.l2d bA) (FP.ddiv (FP.l2d bB) (FP.l2d pw)))) (FP.l2d pw)))), .second] [(.double (FP.l2d (FP.d2l (FP.dmul (FP.dadd (FP.l2d bA) (FP.ddiv (FP.l2d bB) (FP.l2d pw))) (FP.l2d pw)))))])
    refine own_st (fun _ kk_ => XS.dload X2.here hx rfl (hb hby at_128) rfl (XS.dcmpS X2.here hx rfl (hb hby at_130) rfl (v := (cmpValue (FP.dcmp (FP.l2d (FP.d2l (FP.dmul (FP.dadd (FP.l2d bA) (FP.ddiv (FP.l2d bB) (FP.l2d pw))) (FP.l2d pw)))) (FP.dmul (FP.dadd (FP.l2d bA) (FP.ddiv (FP.l2d bB) (FP.l2d pw))) (FP.l2d pw))) .l)) rfl (XS.ifNo X2.here hx rfl (hb hby at_131) rfl (XT.i0_ne_f v4) kk_))) ?_
    show own_Goes _ _ _ _ _ _ _ T2 (mkF m 134 #[.val (.long p1), .second, .val (.long p2), .second, iv p3, iv p4, .val (.long bA), .second, .val (.long bB), .second, iv sI, .val (.long pw), .second, .val (.double (FP.l2d pw)), .second, .val (.double (FP.l2d bA)), .second, .val (.double (FP.ddiv (FP.l2d bB) (FP.l2d pw))), .second, .val (.double (FP.dadd (FP.l2d bA) (FP.ddiv (FP.l2d bB) (FP.l2d pw)))), .second, .val (.double (OwnFP.sumErr (FP.ddiv (FP.l2d bB) (FP.l2d pw)) (FP.l2d bA) (FP.dadd (FP.l2d bA) (FP.ddiv (FP.l2d bB) (FP.l2d pw))))), .second, .val (.long ((bA * pw) + bB)), .second, .val (.double (FP.dmul (FP.dadd (FP.l2d bA) (FP.ddiv (FP.l2d bB) (FP.l2d pw))) (FP.l2d pw))), .second, .val (.double (FP.dmul (OwnFP.sumErr (FP.ddiv (FP.l2d bB) (FP.l2d pw)) (FP.l2d bA) (FP.dadd (FP.l2d bA) (FP.ddiv (FP.l2d bB) (FP.l2d pw)))) (FP.l2d pw))), .second, .val (.long (FP.d2l (FP.dmul (FP.dadd (FP.l2d bA) (FP.ddiv (FP.l2d bB) (FP.l2d pw))) (FP.l2d pw)))), .second, .val (.long (FP.d2l (FP.dmul (OwnFP.sumErr (FP.ddiv (FP.l2d bB) (FP.l2d pw)) (FP.l2d bA) (FP.dadd (FP.l2d bA) (FP.ddiv (FP.l2d bB) (FP.l2d pw)))) (FP.l2d pw)))), .second] [])
    refine own_st (fun _ kk_ => XS.lload X2.here hx rfl (hb hby at_134) rfl (XS.l2dS X2.here hx rfl (hb hby at_136) rfl (v := FP.l2d (FP.d2l (FP.dmul (OwnFP.sumErr (FP.ddiv (FP.l2d bB) (FP.l2d pw)) (FP.l2d bA) (FP.dadd (FP.l2d bA) (FP.ddiv (FP.l2d bB) (FP.l2d pw)))) (FP.l2d pw)))) rfl (XS.dload X2.here hx rfl (hb hby at_137) rfl kk_))) ?_
    show own_Goes _ _ _ _ _ _ _ T2 (mkF m 139 #[.val (.long p1), .second, .val (.long p2), .second, iv p3, iv p4, .val (.long bA), .second, .val (.long bB), .second, iv sI, .val (.long pw), .second, .val (.double (FP.l2d pw)), .second, .val (.double (FP.l2d bA)), .second, .val (.double (FP.ddiv (FP.l2d bB) (FP.l2d pw))), .second, .val (.double (FP.dadd (FP.l2d bA) (FP.ddiv (FP.l2d bB) (FP.l2d pw)))), .second, .val (.double (OwnFP.sumErr (FP.ddiv (FP.l2d bB) (FP.l2d pw)) (FP.l2d bA) (FP.dadd (FP.l2d bA) (FP.ddiv (FP.l2d bB) (FP.l2d pw))))), .second, .val (.long ((bA * pw) + bB)), .second, .val (.double (FP.dmul (FP.dadd (FP.l2d bA) (FP.ddiv (FP.l2d bB) (FP.l2d pw))) (FP.l2d pw))), .second, .val (.double (FP.dmul (OwnFP.sumErr (FP.ddiv (FP.l2d bB) (FP.l2d pw)) (FP.l2d bA) (FP.dadd (FP.l2d bA) (FP.ddiv (FP.l2d bB) (FP.l2d pw)))) (FP.l2d pw))), .second, .val (.long (FP.d2l (FP.dmul (FP.dadd (FP.l2d bA) (FP.ddiv (FP.l2d bB) (FP.l2d pw))) (FP.l2d pw)))), .second, .val (.long (FP.d2l (FP.dmul (OwnFP.sumErr (FP.ddiv (FP.l2d bB) (FP.l2d pw)) (FP.l2d bA) (FP.dadd (FP.l2d bA) (FP.ddiv (FP.l2d bB) (FP.l2d pw)))) (FP.l2d pw)))), .second] [(.double (FP.dmul (OwnFP.sumErr (FP.ddiv (FP.l2d bB) (FP.l2d pw)) (FP.l2d bA) (FP.dadd (FP.l2d bA) (FP.ddiv (FP.l2d bB) (FP.l2d pw)))) (FP.l2d pw))), (.double (FP.l2d (FP.d2l (FP.dmul (OwnFP.sumErr (FP.ddiv (FP.l2d bB) (FP.l2d pw)) (FP.l2d bA) (FP.dadd (FP.l2d bA) (FP.ddiv (FP.l2d bB) (FP.l2d pw)))) (FP.l2d pw)))))])
    refine own_st (fun _ kk_ => XS.dcmpS X2.here hx rfl (hb hby at_139) rfl (v := (cmpValue (FP.dcmp (FP.l2d (FP.d2l (FP.dmul (OwnFP.sumErr (FP.ddiv (FP.l2d bB) (FP.l2d pw)) (FP.l2d bA) (FP.dadd (FP.l2d bA) (FP.ddiv (FP.l2d bB) (FP.l2d pw)))) (FP.l2d pw)))) (FP.dmul (OwnFP.sumErr (FP.ddiv (FP.l2d bB) (FP.l2d pw)) (FP.l2d bA) (FP.dadd (FP.l2d bA) (FP.ddiv (FP.l2d bB) (FP.l2d pw)))) (FP.l2d pw))) .l)) rfl (XS.ifNo X2.here hx rfl (hb hby at_140) rfl (XT.i0_ne_f v5) (XS.lload X2.here hx rfl (hb hby at_143) rfl kk_))) ?_
    show own_Goes _ _ _ _ _ _ _ T2 (mkF m 145 #[.val (.long p1), .second, .val (.long p2), .second, iv p3, iv p4, .val (.long bA), .second, .val (.long bB), .second, iv sI, .val (.long pw), .second, .val (.double (FP.l2d pw)), .second, .val (.double (FP.l2d bA)), .second, .val (.double (FP.ddiv (FP.l2d bB) (FP.l2d pw))), .second, .val (.double (FP.dadd (FP.l2d bA) (FP.ddiv (FP.l2d bB) (FP.l2d pw)))), .second, .val (.double (OwnFP.sumErr (FP.ddiv (FP.l2d bB) (FP.l2d pw)) (FP.l2d bA) (FP.dadd (FP.l2d bA) (FP.ddiv (FP.l2d bB) (FP.l2d pw))))), .second, .val (.long ((bA * pw) + bB)), .second, .val (.double (FP.dmul (FP.dadd (FP.l2d bA) (FP.ddiv (FP.l2d bB) (FP.l2d pw))) (FP.l2d pw))), .second, .val (.double (FP.dmul (OwnFP.sumErr (FP.ddiv (FP.l2d bB) (FP.l2d pw)) (FP.l2d bA) (FP.dadd (FP.l2d bA) (FP.ddiv (FP.l2d bB) (FP.l2d pw)))) (FP.l2d pw))), .second, .val (.long (FP.d2l (FP.dmul (FP.dadd (FP.l2d bA) (FP.ddiv (FP.l2d bB) (FP.l2d pw))) (FP.l2d pw)))), .second, .val (.long (FP.d2l (FP.dmul (OwnFP.sumErr (FP.ddiv (FP.l2d bB) (FP.l2d pw)) (FP.l2d bA) (FP.dadd (FP.l2d bA) (FP.ddiv (FP.l2d bB) (FP.l2d pw)))) (FP.l2d pw)))), .second] [(.long (FP.d2l (FP.dmul (FP.dadd (FP.l2d bA) (FP.ddiv (FP.l2d bB) (FP.l2d pw))) (FP.l2d pw))))])
    refine own_st (fun _ kk_ => XS.lload X2.here hx rfl (hb hby at_145) rfl (XS.ladd X2.here hx rfl (hb hby at_147) rfl (XS.lload X2.here hx rfl (hb hby at_148) rfl kk_))) ?_
    show own_Goes _ _ _ _ _ _ _ T2 (mkF m 150 #[.val (.long p1), .second, .val (.long p2), .second, iv p3, iv p4, .val (.long bA), .second, .val (.long bB), .second, iv sI, .val (.long pw), .second, .val (.double (FP.l2d pw)), .second, .val (.double (FP.l2d bA)), .second, .val (.double (FP.ddiv (FP.l2d bB) (FP.l2d pw))), .second, .val (.double (FP.dadd (FP.l2d bA) (FP.ddiv (FP.l2d bB) (FP.l2d pw)))), .second, .val (.double (OwnFP.sumErr (FP.ddiv (FP.l2d bB) (FP.l2d pw)) (FP.l2d bA) (FP.dadd (FP.l2d bA) (FP.ddiv (FP.l2d bB) (FP.l2d pw))))), .second, .val (.long ((bA * pw) + bB)), .second, .val (.double (FP.dmul (FP.dadd (FP.l2d bA) (FP.ddiv (FP.l2d bB) (FP.l2d pw))) (FP.l2d pw))), .second, .val (.double (FP.dmul (OwnFP.sumErr (FP.ddiv (FP.l2d bB) (FP.l2d pw)) (FP.l2d bA) (FP.dadd (FP.l2d bA) (FP.ddiv (FP.l2d bB) (FP.l2d pw)))) (FP.l2d pw))), .second, .val (.long (FP.d2l (FP.dmul (FP.dadd (FP.l2d bA) (FP.ddiv (FP.l2d bB) (FP.l2d pw))) (FP.l2d pw)))), .second, .val (.long (FP.d2l (FP.dmul (OwnFP.sumErr (FP.ddiv (FP.l2d bB) (FP.l2d pw)) (FP.l2d bA) (FP.dadd (FP.l2d bA) (FP.ddiv (FP.l2d bB) (FP.l2d pw)))) (FP.l2d pw)))), .second] [(.long ((bA * pw) + bB)), (.long ((FP.d2l (FP.dmul (FP.dadd (FP.l2d bA) (FP.ddiv (FP.l2d bB) (FP.l2d pw))) (FP.l2d pw))) + (FP.d2l (FP.dmul (OwnFP.sumErr (FP.ddiv (FP.l2d bB) (FP.l2d pw)) (FP.l2d bA) (FP.dadd (FP.l2d bA) (FP.ddiv (FP.l2d bB) (FP.l2d pw)))) (FP.l2d pw)))))])
    refine own_st (fun _ kk_ => XT.lcmp X2.here hx rfl (hb hby at_150) rfl (XS.ifNo X2.here hx rfl (hb hby at_151) rfl (XT.ll_ne_f v6) (XS.iconst X2.here hx rfl (hb hby at_154) kk_))) ?_
    show own_Goes _ _ _ _ _ _ _ T2 (mkF m 155 #[.val (.long p1), .second, .val (.long p2), .second, iv p3, iv p4, .val (.long bA), .second, .val (.long bB), .second, iv sI, .val (.long pw), .second, .val (.double (FP.l2d pw)), .second, .val (.double (FP.l2d bA)), .second, .val (.double (FP.ddiv (FP.l2d bB) (FP.l2d pw))), .second, .val (.double (FP.dadd (FP.l2d bA) (FP.ddiv (FP.l2d bB) (FP.l2d pw)))), .second, .val (.double (OwnFP.sumErr (FP.ddiv (FP.l2d bB) (FP.l2d pw)) (FP.l2d bA) (FP.dadd (FP.l2d bA) (FP.ddiv (FP.l2d bB) (FP.l2d pw))))), .second, .val (.long ((bA * pw) + bB)), .second, .val (.double (FP.dmul (FP.dadd (FP.l2d bA) (FP.ddiv (FP.l2d bB) (FP.l2d pw))) (FP.l2d pw))), .second, .val (.double (FP.dmul (OwnFP.sumErr (FP.ddiv (FP.l2d bB) (FP.l2d pw)) (FP.l2d bA) (FP.dadd (FP.l2d bA) (FP.ddiv (FP.l2d bB) (FP.l2d pw)))) (FP.l2d pw))), .second, .val (.long (FP.d2l (FP.dmul (FP.dadd (FP.l2d bA) (FP.ddiv (FP.l2d bB) (FP.l2d pw))) (FP.l2d pw)))), .second, .val (.long (FP.d2l (FP.dmul (OwnFP.sumErr (FP.ddiv (FP.l2d bB) (FP.l2d pw)) (FP.l2d bA) (FP.dadd (FP.l2d bA) (FP.ddiv (FP.l2d bB) (FP.l2d pw)))) (FP.l2d pw)))), .second] [(.int (1 : Int32))])
    refine own_st (fun _ kk_ => XS.goto X2.here hx rfl (pc0 := 155) (pc' := 159) rfl (hb hby at_155) (by decide) (by decide) kk_) ?_
    show own_Goes _ _ _ _ _ _ _ T2 (mkF m 159 #[.val (.long p1), .second, .val (.long p2), .second, iv p3, iv p4, .val (.long bA), .second, .val (.long bB), .second, iv sI, .val (.long pw), .second, .val (.double (FP.l2d pw)), .second, .val (.double (FP.l2d bA)), .second, .val (.double (FP.ddiv (FP.l2d bB) (FP.l2d pw))), .second, .val (.double (FP.dadd (FP.l2d bA) (FP.ddiv (FP.l2d bB) (FP.l2d pw)))), .second, .val (.double (OwnFP.sumErr (FP.ddiv (FP.l2d bB) (FP.l2d pw)) (FP.l2d bA) (FP.dadd (FP.l2d bA) (FP.ddiv (FP.l2d bB) (FP.l2d pw))))), .second, .val (.long ((bA * pw) + bB)), .second, .val (.double (FP.dmul (FP.dadd (FP.l2d bA) (FP.ddiv (FP.l2d bB) (FP.l2d pw))) (FP.l2d pw))), .second, .val (.double (FP.dmul (OwnFP.sumErr (FP.ddiv (FP.l2d bB) (FP.l2d pw)) (FP.l2d bA) (FP.dadd (FP.l2d bA) (FP.ddiv (FP.l2d bB) (FP.l2d pw)))) (FP.l2d pw))), .second, .val (.long (FP.d2l (FP.dmul (FP.dadd (FP.l2d bA) (FP.ddiv (FP.l2d bB) (FP.l2d pw))) (FP.l2d pw)))), .second, .val (.long (FP.d2l (FP.dmul (OwnFP.sumErr (FP.ddiv (FP.l2d bB) (FP.l2d pw)) (FP.l2d bA) (FP.dadd (FP.l2d bA) (FP.ddiv (FP.l2d bB) (FP.l2d pw)))) (FP.l2d pw)))), .second] [(.int (1 : Int32))])
    refine own_retN X2 hx hlk (t := .boolean) Bd.returns (by simp) (hb hby at_159) (by decide) (by decide) ?_
    show Q0 Z p1 p2 p3 p4 h0 n0 (some (.int (nar .boolean (1 : Int32)))) T2.heap _
    rw [eq2]
    exact ⟨rfl, N2⟩
set_option maxRecDepth 65536 in
set_option maxHeartbeats 40000000 in
theorem comes_1 {Post : Tables → Env → Array Value → State → Outcome → State → Prop} (hpost : ∀ tb e args s v u, (limb_1_1.after args s (.returned v) u = true ∧ limb_1_2.after args s (.returned v) u = true ∧ True) → FrameEnd s (.returned v) u (Jvm.fieldLocs frame_1_writes args s ++ Jvm.arrayLocs frame_1_arrays args s ++ Jvm.staticLocs frame_1_statics s) 0 0 → Post tb e args s (.returned v) u) :
    ArmFor flags0 classFile x code maxLocals ret World_1 tables_1 room_1 Calls_1 rest_1 Pre_1 Post := by
  intro l hfl _ _ p e ha hc hk s m args below hf hA hF happ hP
  obtain ⟨hcalls, hrest, hpre⟩ := hP
  obtain ⟨-, -, -, hnamed, -, -, -, hat⟩ := (Spec.applies_iff hf).mp happ
  obtain ⟨hg, hn⟩ := and_e (Cond.before_iff.mp (show (Jvm.Cond.and given_1 narrow_1).before args s = true from hpre))
  obtain ⟨h1, g0⟩ := and_e hg
  obtain ⟨w0, w1, w2, w3, rfl⟩ : ∃ w0 w1 w2 w3 : Value, args = #[w0, w1, w2, w3] := by
    have hs : args.size = 4 := by simpa [Cond.value, given_1] using h1
    obtain ⟨L⟩ := args
    match L, hs with
    | [w0, w1, w2, w3], _ => exact ⟨w0, w1, w2, w3, rfl⟩
  have hw := fun d (hd : d ∈ tables_1) => atoms_spec (ws := Jvm.Cond.code x code maxLocals ret :: tables_1) hat d (List.mem_cons_of_mem _ hd)
  have hfit : Fit s := fun {y c} hc i hi => by
    obtain ⟨ha, rfl⟩ := Array.getElem?_eq_some_iff.mp hc
    have q := List.all_eq_true.mp ((Array.all_eq_true_iff_forall_mem.mp hF) _ (Array.getElem_mem ha)) i (List.mem_range.mpr hi)
    simpa [Array.getElem?_eq_getElem hi] using q
  obtain ⟨k0, g1⟩ := and_e g0
  obtain ⟨i0, e0⟩ := isL_v k0
  obtain rfl : w0 = (.long i0) := Option.some.inj e0
  obtain ⟨k1, g2⟩ := and_e g1
  obtain ⟨i1, e1⟩ := isL_v k1
  obtain rfl : w1 = (.long i1) := Option.some.inj e1
  obtain ⟨k2, g3⟩ := and_e g2
  obtain ⟨i2, e2⟩ := is_v k2
  obtain rfl : w2 = (.int i2) := Option.some.inj e2
  obtain ⟨i3, e3⟩ := is_v g3
  obtain rfl : w3 = (.int i3) := Option.some.inj e3
  obtain ⟨n, o, h1, h2, h3, _, L, rfl, ⟨rfl, N⟩, hq⟩ := rm0 l s _ hw tables_1 i0 i1 i2 i3  s.heap s.heap.size (Nat.le_refl _)  p e ha hc hk s m _ below hf ((Spec.applies_iff_loose hf).mp happ).1 ⟨rfl, State.Warmed39.refl s, rfl⟩ trivial
  refine ⟨n, _, h1, h2, h3, hpost _ _ _ _ _ _ ⟨Cond.after_iff.mpr rfl, Cond.after_iff.mpr (eq_i res_at (Term.int_eval (1)) rfl), trivial⟩ ⟨hq.1, hq.2.1, (hq.2.2.sift fun y hy => Or.inr (N y hy)).mono (by decide) (by decide)⟩⟩
theorem main_1_1 : Claimed_1_1 := comes_1 fun _ _ _ _ _ _ h hF => ⟨h.1, hF⟩
theorem main_1_2 : Claimed_1_2 := comes_1 fun _ _ _ _ _ _ h hF => ⟨h.2.1, hF⟩
end Jvm.Pilot.@@N@@
namespace Jvm.Pilot.@@N@@
open Jvm Jvm.ClassFile Sem Op Lib Jvm.Free Jvm.Stand Jvm.Pilot.@@N@@.Jvm.D
/-! MADE BY PROGRAM (witnessworld.py) out of the Statement's table words and the real class files: 9 classes; the members and pool entries that the words name. The judged class is class 1, her method 1. -/
namespace start1
open Jvm.ClassFile
def u (s : String) : CpInfo := .utf8 (stringToUtf16 s)
/-- a pool by its gaps: so many unusable entries, then the entry; so many at the end -/
def gap : Nat → List CpInfo → List CpInfo
  | 0, r => r
  | n + 1, r => .unusable :: gap n r
def poolList (es : List (Nat × CpInfo)) (last : Nat) : List CpInfo := es.foldr (fun e r => gap e.1 (e.2 :: r)) (gap last [])
def pool (es : List (Nat × CpInfo)) (last : Nat) : Array CpInfo := ⟨poolList es last⟩
def fileOf (pool : Array CpInfo) (this : Nat) (attrs : Array Attribute := #[]) (ms : Array MethodInfo := #[]) (fl : Nat := 33) (sup : Nat := 0) (ifs : Array Nat := #[]) (fds : Array FieldInfo := #[]) : ClassFile where
  minorVersion := 0
  majorVersion := 65
  constantPool := pool
  accessFlags := fl
  thisClass := this
  superClass := sup
  interfaces := ifs
  fields := fds
  methods := ms
  attributes := attrs
def plain (name : String) (sup : Option ClassId) : Class where
  name := name
  kind := .ordinary
  loader := none
  accessFlags := 33
  super := sup
  interfaces := #[]
  cf := none
  fields := #[]
  methods := #[]
  instanceTypes := #[]
  staticTypes := #[]
  resolved := #[]
  callSites := []
  init := .initialized
  statics := none
  mirror := none

def pool0 : Array CpInfo := pool [(5, u "<init>"), (0, u "()V"), (1, .class_ 10), (1, u "java/lang/Object")] 113

def k0m0 : Method := { name := "<init>", desc := "()V", sig := { parameters := [], returnType := none }, accessFlags := 1, code := none }
/-- java/lang/Object -/
def k0 : Class := { plain "java/lang/Object" none with
  accessFlags := 33
  interfaces := #[]
  cf := some (fileOf pool0 8 #[] #[{ accessFlags := 1, nameIndex := 5, descriptorIndex := 6, attributes := #[] }] 33 0 #[] #[])
  fields := #[]
  methods := #[k0m0]
  instanceTypes := #[]
  staticTypes := #[]
  resolved := Array.replicate 124 none
  statics := none }

def pool1 : Array CpInfo := pool [(2, .class_ 4), (1, u "java/lang/Object"), (0, u "<init>"), (0, u "()V"), (0, .integer 2147483647), (0, .methodref 9 10), (0, .class_ 11), (0, .nameAndType 12 13), (0, u "com/example/sojourn/sojourn/ExactSum"), (0, u "sumError"), (0, u "(DDD)D"), (0, .class_ 15), (0, u "com/example/sojourn/sojourn/ExactSumSumErrorPinLaw"), (2, u "law"), (0, u "(JJII)Z")] 3

def k1m0 : Method := { name := "<init>", desc := "()V", sig := { parameters := [], returnType := none }, accessFlags := 1, code := none }
def k1c1 : Code := { maxStack := 6, maxLocals := 33, code := code, exceptionTable := #[], attributes := #[] }
def k1m1 : Method := { name := "law", desc := "(JJII)Z", sig := { parameters := [.long, .long, .int, .int], returnType := some .boolean }, accessFlags := 9, code := some k1c1 }
/-- com/example/sojourn/sojourn/ExactSumSumErrorPinLaw -/
def k1 : Class := { plain "com/example/sojourn/sojourn/ExactSumSumErrorPinLaw" (some 0) with
  accessFlags := 49
  interfaces := #[]
  cf := some (fileOf pool1 14 #[] #[{ accessFlags := 1, nameIndex := 5, descriptorIndex := 6, attributes := #[] }, { accessFlags := 9, nameIndex := 18, descriptorIndex := 19, attributes := #[] }] 49 2 #[] #[])
  fields := #[]
  methods := #[k1m0, k1m1]
  instanceTypes := #[]
  staticTypes := #[]
  resolved := Array.replicate 23 none
  statics := none }

def pool2 : Array CpInfo := pool [(2, .class_ 4), (1, u "java/lang/Object"), (0, u "<init>"), (0, u "()V"), (1, .class_ 10), (1, u "com/example/sojourn/sojourn/ExactSum"), (0, u "high"), (0, u "D"), (2, u "low"), (2, u "rest"), (0, u "Ljava/math/BigDecimal;"), (2, u "sumError"), (0, u "(DDD)D")] 28

def k2m0 : Method := { name := "<init>", desc := "()V", sig := { parameters := [], returnType := none }, accessFlags := 0, code := none }
def k2c1 : Code := { maxStack := 6, maxLocals := 8, code := prog_8_method_8_code, exceptionTable := #[], attributes := #[] }
def k2m1 : Method := { name := "sumError", desc := "(DDD)D", sig := { parameters := [.double, .double, .double], returnType := some .double }, accessFlags := 8, code := some k2c1 }
/-- com/example/sojourn/sojourn/ExactSum -/
def k2 : Class := { plain "com/example/sojourn/sojourn/ExactSum" (some 0) with
  accessFlags := 48
  interfaces := #[]
  cf := some (fileOf pool2 8 #[] #[{ accessFlags := 0, nameIndex := 5, descriptorIndex := 6, attributes := #[] }, { accessFlags := 8, nameIndex := 22, descriptorIndex := 23, attributes := #[] }] 48 2 #[] #[{ accessFlags := 2, nameIndex := 11, descriptorIndex := 12, attributes := #[] }, { accessFlags := 2, nameIndex := 15, descriptorIndex := 12, attributes := #[] }, { accessFlags := 2, nameIndex := 18, descriptorIndex := 19, attributes := #[] }])
  fields := #[{ name := "high", type := .double, accessFlags := 2, slot := 0, constantValue := 0 }, { name := "low", type := .double, accessFlags := 2, slot := 1, constantValue := 0 }, { name := "rest", type := (.object "java/math/BigDecimal"), accessFlags := 2, slot := 2, constantValue := 0 }]
  methods := #[k2m0, k2m1]
  instanceTypes := #[.double, .double, (.object "java/math/BigDecimal")]
  staticTypes := #[]
  resolved := Array.replicate 52 none
  statics := none }

def pool3 : Array CpInfo := pool [(1, u "java/lang/Cloneable"), (0, .class_ 1), (0, u "java/lang/Object"), (0, .class_ 3)] 3

/-- java/lang/Cloneable -/
def k3 : Class := { plain "java/lang/Cloneable" (some 0) with
  accessFlags := 1537
  interfaces := #[]
  cf := some (fileOf pool3 2 #[] #[] 1537 4 #[] #[])
  fields := #[]
  methods := #[]
  instanceTypes := #[]
  staticTypes := #[]
  resolved := Array.replicate 8 none
  statics := none }

def pool4 : Array CpInfo := pool [(1, u "java/io/Serializable"), (0, .class_ 1), (0, u "java/lang/Object"), (0, .class_ 3)] 3

/-- java/io/Serializable -/
def k4 : Class := { plain "java/io/Serializable" (some 0) with
  accessFlags := 1537
  interfaces := #[]
  cf := some (fileOf pool4 2 #[] #[] 1537 4 #[] #[])
  fields := #[]
  methods := #[]
  instanceTypes := #[]
  staticTypes := #[]
  resolved := Array.replicate 8 none
  statics := none }

/-- the primitive byte -/
def k5 : Class := { plain "byte" none with kind := .primitive 'B', accessFlags := 0x411 }
/-- [B -/
def k6 : Class := { plain "[B" (some 0) with kind := .array 5 .byte, interfaces := #[3, 4], accessFlags := 1041 }

/-- the primitive int -/
def k7 : Class := { plain "int" none with kind := .primitive 'I', accessFlags := 0x411 }
/-- [I -/
def k8 : Class := { plain "[I" (some 0) with kind := .array 7 .int, interfaces := #[3, 4], accessFlags := 1041 }

def heap : Heap := #[]
def classes : Array Class := #[k0, k1, k2, k3, k4, k5, k6, k7, k8]
def interned : List (Array UInt16 × Addr) := []
def slotsUsed : Nat := 0
def theMethod : MethodId := ⟨1, 1⟩
def args0 : Array Value := #[.long 1, .long 2, .int 3, .int 4]
def aboutOver (below : List Frame) : State where
  vm := { classes := classes, interned := interned.toArray }
  heap := heap
  slotsUsed := slotsUsed
  threads := #[{ frames := .invoking theMethod args0 :: below }]
def below0 : List Frame := [.native { method := ⟨0, 0⟩, args := #[] }]
def about1 : State := aboutOver below0
def p0 : Program := .bare "" "" ""
def e0 : Env := launch0.env 0 0 0
theorem w_frames : about1.frames = Frame.invoking theMethod args0 :: below0 := rfl
set_option maxRecDepth 65536 in
theorem w_args : argsFit about1.vm theMethod args0 = true := by decide +kernel
set_option maxRecDepth 65536 in
theorem w_heap : heapFits about1 = true := by decide +kernel
set_option maxRecDepth 65536 in
theorem w_runnable : about1.curStatus? = some .runnable := by decide +kernel
set_option maxRecDepth 65536 in
theorem w_alone : about1.alone = true := by decide +kernel
set_option maxRecDepth 65536 in
theorem w_named : about1.methodNamed? x = some theMethod := by decide +kernel
set_option maxRecDepth 65536 in
theorem w_hears : about1.hears theMethod below0 = true := by decide +kernel
set_option maxRecDepth 65536 in
theorem w_ripe : about1.ripe theMethod args0 below0 = true := by decide +kernel
theorem w_running : about1.status = .running := rfl
set_option maxRecDepth 65536 in
theorem w_room : about1.hasRoom e0.platform room_1 = true :=
  launch0.hasRoom_least _ room_1 (by decide +kernel) (by decide +kernel) (by decide +kernel) (by decide +kernel) (by decide +kernel) (by decide +kernel)
theorem allAtoms_all (ts : List Jvm.Cond) (a : Array Jvm.Value) (st : Jvm.State) : (allAtoms ts).before a st = ts.all (fun c => c.before a st) := by
  induction ts with
  | nil => rfl
  | cons c t ih =>
    show (Jvm.Cond.and c (allAtoms t)).before a st = _
    rw [Jvm.Cond.before_and, ih, List.all_cons]
def words1 : List Jvm.Cond := Jvm.Cond.code x code maxLocals ret :: tables_1
/-- a 'code' word, met by the world's own term for the bytes: nothing is compared byte by byte -/
theorem code_word {y : MethodName} {bytes : ByteArray} {mx : Nat} {rt : Option FieldType} {a : Array Value} {s : State} {m : MethodId} {meth : Method} {c : Code} (h1 : s.methodNamed? y = some m) (h2 : s.vm.method? m = some meth) (h3 : meth.code = some c) (h4 : c.code = bytes)
    (h5 : (c.maxLocals == mx && c.exceptionTable.isEmpty && decide (c.maxStack ≤ mostOperands) && decide (meth.sig.returnType = rt) && !meth.locks && decide (parseMethodDescriptor y.desc = some meth.sig)) = true) : (Jvm.Cond.code y bytes mx rt).before a s = true := by
  simp only [Bool.and_eq_true, beq_iff_eq, Bool.not_eq_true', decide_eq_true_eq] at h5
  obtain ⟨⟨⟨⟨⟨g1, g2⟩, g3⟩, g4⟩, g5⟩, g6⟩ := h5
  simp [Cond.before, Cond.holds, Cond.value, h1, h2, h3, h4, g1, g2, g3, g4, g5, g6]
def isCode : Jvm.Cond → Bool
  | .code _ _ _ _ => true
  | _ => false
theorem all_split {L : List Jvm.Cond} {P : Jvm.Cond → Bool} (h1 : L.all (fun c => isCode c || P c) = true) (h2 : ∀ c ∈ L.filter isCode, P c = true) : L.all P = true := by
  refine List.all_eq_true.mpr fun c hc => ?_
  have h := List.all_eq_true.mp h1 c hc
  rcases Bool.eq_false_or_eq_true (isCode c) with hi | hi
  · exact h2 c (List.mem_filter.mpr ⟨hc, hi⟩)
  · simpa [hi] using h
set_option maxRecDepth 65536 in
theorem w_c0 : (Jvm.Cond.code x code maxLocals ret).before args0 about1 = true := code_word (m := ⟨1, 1⟩) (meth := k1m1) (c := k1c1) (by decide +kernel) rfl rfl rfl (by decide +kernel)
set_option maxRecDepth 65536 in
theorem w_c1 : (Jvm.Cond.code ({ cls := "com/example/sojourn/sojourn/ExactSum", name := "sumError", desc := "(DDD)D" } : Jvm.MethodName) prog_8_method_8_code (8 : Nat) (Option.some Jvm.ClassFile.FieldType.double)).before args0 about1 = true := code_word (m := ⟨2, 1⟩) (meth := k2m1) (c := k2c1) (by decide +kernel) rfl rfl rfl (by decide +kernel)
def codes1 : List Jvm.Cond := [Jvm.Cond.code x code maxLocals ret, Jvm.Cond.code ({ cls := "com/example/sojourn/sojourn/ExactSum", name := "sumError", desc := "(DDD)D" } : Jvm.MethodName) prog_8_method_8_code (8 : Nat) (Option.some Jvm.ClassFile.FieldType.double)]
set_option maxRecDepth 65536 in
theorem codes_eq : words1.filter isCode = codes1 := rfl
theorem w_codes : ∀ c ∈ words1.filter isCode, c.before args0 about1 = true := by
  rw [codes_eq]
  intro c hc
  simp only [codes1, List.mem_cons, List.not_mem_nil, or_false] at hc
  rcases hc with rfl | rfl
  · exact w_c0
  · exact w_c1
set_option maxRecDepth 65536 in
theorem w_t1 : words1.all (fun c => isCode c || c.before args0 about1) = true := by decide +kernel
theorem w_tables : (allAtoms (Jvm.Cond.code x code maxLocals ret :: tables_1)).before args0 about1 = true := by
  rw [allAtoms_all]
  show words1.all (fun c => c.before args0 about1) = true
  refine all_split ?_ w_codes
  rw [w_t1]
set_option maxRecDepth 65536 in
theorem w_case : (Jvm.Cond.and given_1 narrow_1).before args0 about1 = true := by decide +kernel
theorem w_applies : (headSpec (Jvm.Cond.code x code maxLocals ret :: tables_1) room_1).applies x e0.platform about1 = true :=
  (Spec.applies_iff w_frames).mpr ⟨w_running, w_runnable, w_alone, w_named, w_hears, w_ripe, w_room, w_tables⟩
theorem atStart : AtStart classFile x code maxLocals ret World_1 tables_1 room_1 Calls_1 rest_1 Pre_1 launch0 p0 e0 about1 theMethod args0 below0 :=
  ⟨lists_1, trivial, launch0.admits_env _ _ _, launch0.least_env, fairChoices_fair.cas, fairChoices_fair.clock, w_frames, w_args, w_heap, w_applies, trivial, trivial, w_case⟩
end start1
theorem witness_1 : WitnessClaimed_1 := ⟨start1.p0, start1.e0, start1.about1, start1.theMethod, start1.args0, start1.below0, start1.atStart⟩
end Jvm.Pilot.@@N@@
