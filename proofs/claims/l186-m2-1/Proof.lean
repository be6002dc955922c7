import JvmDerived
import JvmDerived.Pilot.@@N@@Statement
import JvmDerived.Pilot.@@N@@Code
set_option linter.unusedVariables false
set_option linter.unusedSimpArgs false
namespace Jvm.RoadKit
open Sem ClassFile Op Lib Jvm.Stand Jvm.Free Jvm.LawKit
section New
variable {p : Program} {l : Launch} {e : Env} {R : Room} {s : State} {m : MethodId} {args : Array Value} {below : List Frame} {meth : Method} {c : Code} {T : State} {locs : List Loc} {cells slots : Nat}
theorem retI (X : Stand p l e R s m args below meth c T locs cells slots) (hx : p.tables.exec = Jvm.exec) {pc : Nat} {Ls : Array Slot} {z : Int32} {rest : List Value} (hret : meth.sig.returnType = some .int) (hd : decode c.code pc = .ok (.ireturn, 1)) {fs : List Frame}
    (hl : ∀ (f : JFrame) (acts : List Action), f.method = m → f.locked = none → f.entered = [] → (doReturn e (T.setTop f) acts (some (.int z))).1 = T.setFrames fs) : Steps p.tables e below (T.setTop (mkF m pc Ls (.int z :: rest))) (T.setFrames fs) := by
  have hm' : T.vm.method? m = some meth := X.method'
  have hn : narrow .int (.int z) = .int z := rfl
  show Steps p.tables e below (T.setTop { method := m, pc := pc, locals := Ls, stack := _ :: rest, locked := none }) _
  jvm_step X.here [X.here.top, hx, hd, hm', hret, hn]
  first | (intro acts; rw [hl _ acts rfl rfl rfl]) | rw [hl _ _ rfl rfl rfl]
  exact Steps.refl _
end New
end Jvm.RoadKit
namespace Jvm.Pilot.@@N@@.Own
open Jvm Jvm.FP.Core

theorem own_le {A B : Nat} {e : Int} {V : Datum} (hB : 0 < B) (hV : Jvm.FP.Core.fits b64 V) (hn : V ≠ .nan) (he : b64.qmin ≤ e) (h : inUnits A e b64.qmin ≤ zmag b64 V * B) :
    zmag b64 (roundRatio b64 false A B e) ≤ zmag b64 V :=
  zmag_roundRatio_le good_b64 hB hV hn (Int.le_refl _) he (by rw [Int.sub_self]; show _ ≤ _ * 1 * _; rw [Nat.mul_one]; exact h)
theorem own_ge {A B : Nat} {e : Int} {V : Datum} (hB : 0 < B) (hV : Jvm.FP.Core.fits b64 V) (he : b64.qmin ≤ e) (h : zmag b64 V * B ≤ inUnits A e b64.qmin) :
    zmag b64 V ≤ zmag b64 (roundRatio b64 false A B e) :=
  zmag_roundRatio_ge good_b64 hB hV (Int.le_refl _) he (by rw [Int.sub_self]; show _ * 1 * _ ≤ _; rw [Nat.mul_one]; exact h)

theorem own_mono {A A' B : Nat} {e : Int} (hB : 0 < B) (he : b64.qmin ≤ e) (h : A ≤ A') (hi : roundRatio b64 false A B e ≠ .inf false) :
    zmag b64 (roundRatio b64 false A B e) ≤ zmag b64 (roundRatio b64 false A' B e) := by
  rcases Nat.lt_or_eq_of_le h with hlt | rfl
  rotate_left
  · exact Nat.le_refl _
  refine Nat.le_of_not_lt fun hx => ?_
  have f1 := roundRatio_fits good_b64 false A hB e
  have f2 := roundRatio_fits good_b64 false A' hB e
  have n1 := roundRatio_ne_nan b64 false A B e
  have n2 := roundRatio_ne_nan b64 false A' B e
  have c1 : ¬ (inUnits A e b64.qmin ≤ zmag b64 (roundRatio b64 false A' B e) * B) := fun q => absurd (own_le hB f2 n2 he q) (by omega)
  have c2 : ¬ (zmag b64 (roundRatio b64 false A B e) * B ≤ inUnits A' e b64.qmin) := fun q => absurd (own_ge hB f1 he q) (by omega)
  have a1 : inUnits A e b64.qmin < inUnits A' e b64.qmin := Nat.mul_lt_mul_of_pos_right hlt (Nat.two_pow_pos _)
  obtain ⟨c, q, hR⟩ := (roundRatio_cases b64 false A B e).resolve_right hi
  rcases roundRatio_cases b64 false A' B e with ⟨c', q', hR'⟩ | hR'
  · rw [hR] at f1 c2 hx
    rw [hR'] at f2 c1 hx
    have d1 := roundRatio_nearest good_b64 hB hR f2.1 f2.2.1 (Int.le_refl _) he
    have d2 := roundRatio_nearest good_b64 hB hR' f1.1 f1.2.1 (Int.le_refl _) he
    unfold distance at d1 d2
    rw [units_fin f1 (Int.le_refl _), units_fin f2 (Int.le_refl _), Int.sub_self, show (2 : Nat) ^ (0 : Int).toNat = 1 from rfl, Nat.mul_one, Nat.mul_one, ← Int.natCast_mul, ← Int.natCast_mul] at d1 d2
    generalize zmag b64 (.fin false c q) * B = x at *
    generalize zmag b64 (.fin false c' q') * B = x' at *
    generalize inUnits A e b64.qmin = a at *
    generalize inUnits A' e b64.qmin = a' at *
    omega
  · have := zmag_le_top good_b64 f1
    rw [hR', show zmag b64 (.inf false) = b64.tails * 2 ^ (b64.exps - 2) from rfl] at hx
    omega

theorem own_l2d {n : Int64} (h : 0 ≤ n.toInt) : val64 (l2d n) = roundRatio b64 false n.toInt.toNat 1 0 := by
  rw [val64_l2d]
  unfold ofInt
  rw [show decide (n.toInt < 0) = false from decide_eq_false (by omega), show n.toInt.natAbs = n.toInt.toNat by omega]
  rfl
def own_X (n : Int64) : Nat := zmag b64 (val64 (l2d n))
theorem own_shape {n : Int64} (h : 0 ≤ n.toInt) : ∃ c q, val64 (l2d n) = .fin false c q := by
  obtain ⟨c, q, h1⟩ := l2d_shape n
  rw [show decide (n.toInt < 0) = false from decide_eq_false (by omega)] at h1
  exact ⟨c, q, h1⟩
theorem own_q0 : b64.qmin ≤ 0 := by decide
theorem own_units0 (A : Nat) : inUnits A 0 b64.qmin = A * one64 := by
  unfold inUnits
  rw [Int.zero_sub, pow_qmin64]
theorem own_unitsq (A : Nat) : inUnits A b64.qmin b64.qmin = A := by
  unfold inUnits
  rw [Int.sub_self]; exact Nat.mul_one _
theorem own_X_mono {a b : Int64} (ha : 0 ≤ a.toInt) (h : a.toInt ≤ b.toInt) : own_X a ≤ own_X b := by
  unfold own_X
  have hs := own_shape ha
  rw [own_l2d ha] at hs ⊢
  rw [own_l2d (by omega)]
  refine own_mono (by decide) own_q0 (by omega) ?_
  obtain ⟨c, q, hs⟩ := hs
  rw [hs]; exact Datum.noConfusion
theorem own_one : zmag b64 (val64 dconst1) = one64 := by decide +kernel
theorem own_one_nn : val64 dconst1 ≠ .nan := by rw [val64_dconst1]; exact Datum.noConfusion
theorem own_X_pos {n : Int64} (h : 0 < n.toInt) : one64 ≤ own_X n := by
  unfold own_X
  rw [own_l2d (by omega), ← own_one]
  refine own_ge (by decide) (val64_fits _) own_q0 ?_
  rw [own_units0, own_one, Nat.mul_one]
  exact Nat.le_mul_of_pos_left _ (by omega)
theorem own_zval {x : UInt64} {c : Nat} {q : Int} (h : val64 x = .fin false c q) : zval b64 (val64 x) = (zmag b64 (val64 x) : Int) := by
  rw [h]; rfl
theorem own_X_exact {n : Int64} (h0 : 0 ≤ n.toInt) (h : n.toInt ≤ 2 ^ 53) : own_X n = n.toInt.toNat * one64 := by
  have h1 := DInt_zval (l2d_int (a := n) (by omega))
  obtain ⟨c, q, hs⟩ := own_shape h0
  rw [own_zval hs] at h1
  unfold own_X
  have h2 : ((n.toInt.toNat * one64 : Nat) : Int) = n.toInt * (one64 : Int) := by
    rw [Int.natCast_mul, Int.toNat_of_nonneg h0]
  omega
theorem own_X_zero : own_X 0 = 0 := by decide +kernel

theorem own_div {a b : Int64} (ha : 0 ≤ a.toInt) (hb : 0 < b.toInt) : val64 (ddiv (l2d a) (l2d b)) = roundRatio b64 false (own_X a) (own_X b) 0 := by
  obtain ⟨c, q, h1⟩ := own_shape ha
  obtain ⟨d, r, h2⟩ := own_shape (n := b) (by omega)
  have hXb := own_X_pos hb
  have hp := one64_pos
  have f1 := val64_fits (l2d a)
  have f2 := val64_fits (l2d b)
  have e1 : own_X a = c * 2 ^ (q - b64.qmin).toNat := by unfold own_X; rw [h1]; rfl
  have e2 : own_X b = d * 2 ^ (r - b64.qmin).toNat := by unfold own_X; rw [h2]; rfl
  rw [h1] at f1
  rw [h2] at f2
  have hd : d ≠ 0 := fun z => by rw [e2, z, Nat.zero_mul] at hXb; omega
  rw [val64_ddiv, h1, h2]
  show (if d = 0 then (if c = 0 then Datum.nan else .inf (false != false)) else roundRatio b64 (false != false) c d (q - r)) = _
  rw [if_neg hd]
  refine roundRatio_congr (by omega) (by omega) ?_
  rw [e1, e2]
  have hq := f1.2.1
  have hr := f2.2.1
  have k : 2 ^ (r - b64.qmin).toNat * 2 ^ (q - r - 0).toNat = 2 ^ (q - b64.qmin).toNat * 2 ^ (0 - (q - r)).toNat := by
    rw [← Nat.pow_add, ← Nat.pow_add]
    congr 1
    omega
  calc c * (d * 2 ^ (r - b64.qmin).toNat) * 2 ^ (q - r - 0).toNat = c * d * (2 ^ (r - b64.qmin).toNat * 2 ^ (q - r - 0).toNat) := by ac_rfl
    _ = c * d * (2 ^ (q - b64.qmin).toNat * 2 ^ (0 - (q - r)).toNat) := by rw [k]
    _ = c * 2 ^ (q - b64.qmin).toNat * d * 2 ^ (0 - (q - r)).toNat := by ac_rfl

theorem own_sub {x : UInt64} {c : Nat} {q : Int} (hx : val64 x = .fin false c q) (hle : zmag b64 (val64 x) ≤ one64) :
    val64 (dsub dconst1 x) = roundRatio b64 false (one64 - zmag b64 (val64 x)) 1 b64.qmin := by
  have f1 := val64_fits x
  rw [hx] at f1
  have hq := f1.2.1
  have hq2 : b64.qmin ≤ -52 := by decide
  have m1 : b64.qmin ≤ min (-52) q := by omega
  have m2 : min (-52) q ≤ -52 := by omega
  have m3 : min (-52) q ≤ q := by omega
  have u1 : one64 = inUnits (2 ^ 52) (-52) (min (-52) q) * 2 ^ (min (-52) q - b64.qmin).toNat := by
    rw [← inUnits_move (2 ^ 52) m1 m2]; decide +kernel
  have u2 : zmag b64 (val64 x) = inUnits c q (min (-52) q) * 2 ^ (min (-52) q - b64.qmin).toNat := by
    rw [← inUnits_move c m1 m3, hx]; rfl
  rw [val64_dsub, val64_dconst1, hx]
  show roundRatio b64 (sumSign false true (sumUnits false (2 ^ 52) (-52) true c q (min (-52) q))) (sumUnits false (2 ^ 52) (-52) true c q (min (-52) q)).natAbs 1 (min (-52) q) = _
  rw [← hx]
  have hv : sumUnits false (2 ^ 52) (-52) true c q (min (-52) q) = (inUnits (2 ^ 52) (-52) (min (-52) q) : Int) - (inUnits c q (min (-52) q) : Int) := by
    simp [sumUnits, signed, Int.sub_eq_add_neg]
  rw [hv]
  generalize inUnits (2 ^ 52) (-52) (min (-52) q) = A at *
  generalize inUnits c q (min (-52) q) = C at *
  have hP := Nat.two_pow_pos (min (-52) q - b64.qmin).toNat
  have hCA : C ≤ A := by
    refine Nat.le_of_mul_le_mul_right ?_ hP
    omega
  have hs : sumSign false true ((A : Int) - (C : Int)) = false := by
    unfold sumSign
    split
    · rfl
    · exact decide_eq_false (by omega)
  rw [hs, show ((A : Int) - (C : Int)).natAbs = A - C by omega]
  refine roundRatio_congr (by decide) (by decide) ?_
  rw [u1, u2, show (b64.qmin - min (-52) q).toNat = 0 by omega, ← Nat.sub_mul]
  simp only [Nat.mul_one, Nat.pow_zero]

/-! the quotient -/
theorem own_fin_of {D : Datum} {V : Nat} (hV : V < b64.tails * 2 ^ (b64.exps - 2)) {A B : Nat} {e : Int} (hD : D = roundRatio b64 false A B e) (h : zmag b64 D ≤ V) : ∃ c q, D = .fin false c q := by
  rcases roundRatio_cases b64 false A B e with h1 | h1
  · rw [hD]; exact h1
  · rw [hD, h1, show zmag b64 (.inf false) = b64.tails * 2 ^ (b64.exps - 2) from rfl] at h
    omega
theorem own_top : one64 < b64.tails * 2 ^ (b64.exps - 2) := by decide +kernel
def own_Q (a b : Int64) : UInt64 := ddiv (l2d a) (l2d b)
def own_Y (a b : Int64) : Nat := zmag b64 (val64 (own_Q a b))
def own_W (a b : Int64) : UInt64 := dsub dconst1 (own_Q a b)
def own_w (a b : Int64) : Nat := zmag b64 (val64 (own_W a b))
theorem own_Y_eq {a b : Int64} (ha : 0 ≤ a.toInt) (hb : 0 < b.toInt) : own_Y a b = zmag b64 (roundRatio b64 false (own_X a) (own_X b) 0) := by
  unfold own_Y own_Q; rw [own_div ha hb]
theorem own_Y_le {a b : Int64} (ha : 0 ≤ a.toInt) (hb : 0 < b.toInt) (h : a.toInt ≤ b.toInt) : own_Y a b ≤ one64 := by
  rw [own_Y_eq ha hb, ← own_one]
  refine own_le (by have := own_X_pos hb; have := one64_pos; omega) (val64_fits _) own_one_nn own_q0 ?_
  rw [own_units0, own_one, Nat.mul_comm one64]
  exact Nat.mul_le_mul_right _ (own_X_mono ha h)
theorem own_Q_fin {a b : Int64} (ha : 0 ≤ a.toInt) (hb : 0 < b.toInt) (h : a.toInt ≤ b.toInt) : ∃ c q, val64 (own_Q a b) = .fin false c q :=
  own_fin_of own_top (own_div ha hb) (own_Y_le ha hb h)
theorem own_Y_zero {b : Int64} (hb : 0 < b.toInt) : own_Y 0 b = 0 := by
  rw [own_Y_eq (by decide) hb, own_X_zero]
  unfold roundRatio
  rw [if_pos rfl]
  exact Nat.zero_mul _
theorem own_Y_one {b : Int64} (hb : 0 < b.toInt) : own_Y b b = one64 := by
  refine Nat.le_antisymm (own_Y_le (by omega) hb (Int.le_refl _)) ?_
  rw [own_Y_eq (by omega) hb, ← own_one]
  refine own_ge (by have := own_X_pos hb; have := one64_pos; omega) (val64_fits _) own_q0 ?_
  rw [own_units0, own_one, Nat.mul_comm one64]
  exact Nat.le_refl _
theorem own_Y_mono {a a' b : Int64} (ha : 0 ≤ a.toInt) (hb : 0 < b.toInt) (h : a.toInt ≤ a'.toInt) (h' : a'.toInt ≤ b.toInt) : own_Y a b ≤ own_Y a' b := by
  rw [own_Y_eq ha hb, own_Y_eq (by omega) hb]
  refine own_mono (by have := own_X_pos hb; have := one64_pos; omega) own_q0 (own_X_mono ha h) ?_
  obtain ⟨c, q, hs⟩ := own_Q_fin ha hb (by omega)
  rw [own_Q, own_div ha hb] at hs
  rw [hs]; exact Datum.noConfusion
/-- 2^-31 and 1 - 2^-31 -/
def own_t : UInt64 := 0x3E00000000000000
def own_s : UInt64 := 0x3FEFFFFFFFC00000
def own_T : Nat := 2 ^ 1043
theorem own_t_val : val64 own_t ≠ .nan ∧ zmag b64 (val64 own_t) = own_T := by decide +kernel
theorem own_s_val : val64 own_s ≠ .nan ∧ zmag b64 (val64 own_s) = one64 - own_T := by decide +kernel
theorem own_T_one : one64 = 2147483648 * own_T := by decide +kernel
theorem own_T_pos : 0 < own_T := by decide +kernel
theorem own_Y_ge {a b : Int64} (ha : 0 < a.toInt) (hb : 0 < b.toInt) (h : b.toInt ≤ 2147483648) : own_T ≤ own_Y a b := by
  rw [own_Y_eq (by omega) hb, ← own_t_val.2]
  refine own_ge (by have := own_X_pos hb; have := one64_pos; omega) (val64_fits _) own_q0 ?_
  rw [own_units0, own_t_val.2, own_X_exact (n := b) (by omega) (by omega)]
  have h1 := own_X_pos ha
  refine Nat.le_trans ?_ (Nat.mul_le_mul_right one64 h1)
  rw [← Nat.mul_assoc]
  refine Nat.mul_le_mul_right _ ?_
  rw [own_T_one, Nat.mul_comm]
  exact Nat.mul_le_mul_right _ (by omega)
theorem own_Y_lt {a b : Int64} (ha : 0 ≤ a.toInt) (hb : 0 < b.toInt) (h : b.toInt ≤ 2147483648) (hlt : a.toInt < b.toInt) : own_Y a b ≤ one64 - own_T := by
  rw [own_Y_eq (by omega) hb, ← own_s_val.2]
  refine own_le (by have := own_X_pos hb; have := one64_pos; omega) (val64_fits _) own_s_val.1 own_q0 ?_
  rw [own_units0, own_s_val.2, own_X_exact (n := b) (by omega) (by omega), own_X_exact (n := a) (by omega) (by omega), ← Nat.mul_assoc]
  refine Nat.mul_le_mul_right _ ?_
  rw [own_T_one]
  have e1 : 2147483648 * own_T - own_T = 2147483647 * own_T := by omega
  rw [e1]
  obtain ⟨n, hn⟩ : ∃ n : Nat, b.toInt.toNat = n := ⟨_, rfl⟩
  obtain ⟨k, hk⟩ : ∃ k : Nat, a.toInt.toNat = k := ⟨_, rfl⟩
  rw [hn, hk]
  have hkn : k * 2147483648 ≤ 2147483647 * n := by omega
  generalize own_T = T
  rw [← Nat.mul_assoc, Nat.mul_right_comm 2147483647 T n]
  exact Nat.mul_le_mul_right _ hkn

/-! the value -/
theorem own_w_eq {a b : Int64} (ha : 0 ≤ a.toInt) (hb : 0 < b.toInt) (h : a.toInt ≤ b.toInt) : val64 (own_W a b) = roundRatio b64 false (one64 - own_Y a b) 1 b64.qmin := by
  obtain ⟨c, q, hs⟩ := own_Q_fin ha hb h
  exact own_sub hs (own_Y_le ha hb h)
theorem own_w_le {a b : Int64} (ha : 0 ≤ a.toInt) (hb : 0 < b.toInt) (h : a.toInt ≤ b.toInt) : own_w a b ≤ one64 := by
  unfold own_w
  rw [own_w_eq ha hb h, ← own_one]
  refine own_le (by decide) (val64_fits _) own_one_nn (Int.le_refl _) ?_
  rw [own_unitsq, own_one, Nat.mul_one]
  exact Nat.sub_le _ _
theorem own_W_fin {a b : Int64} (ha : 0 ≤ a.toInt) (hb : 0 < b.toInt) (h : a.toInt ≤ b.toInt) : ∃ c q, val64 (own_W a b) = .fin false c q :=
  own_fin_of own_top (own_w_eq ha hb h) (own_w_le ha hb h)
theorem own_w_one {b : Int64} (hb : 0 < b.toInt) : own_w 0 b = one64 := by
  have h0 : (0 : Int64).toInt ≤ b.toInt := by
    have : (0 : Int64).toInt = 0 := by decide
    omega
  refine Nat.le_antisymm (own_w_le (by decide) hb h0) ?_
  unfold own_w
  rw [own_w_eq (by decide) hb h0, own_Y_zero hb, ← own_one]
  refine own_ge (by decide) (val64_fits _) (Int.le_refl _) ?_
  rw [own_unitsq, own_one]
  generalize one64 = T
  omega
theorem own_w_zero {b : Int64} (hb : 0 < b.toInt) : own_w b b = 0 := by
  unfold own_w
  rw [own_w_eq (by omega) hb (Int.le_refl _), own_Y_one hb, Nat.sub_self]
  decide +kernel
theorem own_w_mono {a a' b : Int64} (ha : 0 ≤ a.toInt) (hb : 0 < b.toInt) (h : a.toInt ≤ a'.toInt) (h' : a'.toInt ≤ b.toInt) : own_w a' b ≤ own_w a b := by
  have hy := own_Y_mono ha hb h h'
  unfold own_w
  have hs := own_W_fin (a := a') (by omega) hb h'
  rw [own_w_eq (by omega) hb h'] at hs ⊢
  rw [own_w_eq ha hb (by omega)]
  refine own_mono (by decide) (Int.le_refl _) (by omega) ?_
  obtain ⟨c, q, hs⟩ := hs
  rw [hs]; exact Datum.noConfusion
theorem own_w_lt {a b : Int64} (ha : 0 < a.toInt) (hb : 0 < b.toInt) (hab : a.toInt ≤ b.toInt) (h : b.toInt ≤ 2147483648) : own_w a b < one64 := by
  have hy := own_Y_ge ha hb h
  have hT := own_T_pos
  have hO := own_T_one
  refine Nat.lt_of_le_of_lt (m := one64 - own_T) ?_ (by omega)
  unfold own_w
  rw [own_w_eq (by omega) hb hab, ← own_s_val.2]
  refine own_le (by decide) (val64_fits _) own_s_val.1 (Int.le_refl _) ?_
  rw [own_unitsq, own_s_val.2, Nat.mul_one]
  omega
theorem own_w_pos {a b : Int64} (ha : 0 ≤ a.toInt) (hb : 0 < b.toInt) (hab : a.toInt < b.toInt) (h : b.toInt ≤ 2147483648) : 0 < own_w a b := by
  have hy := own_Y_lt ha hb h hab
  have hT := own_T_pos
  have hO := own_T_one
  refine Nat.lt_of_lt_of_le hT ?_
  unfold own_w
  rw [own_w_eq ha hb (by omega), ← own_t_val.2]
  refine own_ge (by decide) (val64_fits _) (Int.le_refl _) ?_
  rw [own_unitsq, own_t_val.2, Nat.mul_one]
  omega
theorem own_Q_inj {a b a' b' : Int64} (ha : 0 ≤ a.toInt) (hb : 0 < b.toInt) (h : a.toInt ≤ b.toInt) (ha' : 0 ≤ a'.toInt) (hb' : 0 < b'.toInt)
    (hx : own_X a * own_X b' = own_X a' * own_X b) : own_Q a b = own_Q a' b' := by
  obtain ⟨c, q, hs⟩ := own_Q_fin ha hb h
  refine val64_inj (by rw [hs]; exact Datum.noConfusion) ?_
  unfold own_Q
  rw [own_div ha hb, own_div ha' hb']
  have p1 := own_X_pos hb
  have p2 := own_X_pos hb'
  have p3 := one64_pos
  refine roundRatio_congr (by omega) (by omega) ?_
  rw [hx]
theorem own_W_factor {a b a' b' : Int64} {m : Nat} (ha : 0 ≤ a.toInt) (hb : 0 < b.toInt) (h : a.toInt ≤ b.toInt) (hm : 0 < m) (e1 : a'.toInt = a.toInt * (m : Int)) (e2 : b'.toInt = b.toInt * (m : Int)) (hb53 : b.toInt ≤ 2 ^ 53) (hb53' : b'.toInt ≤ 2 ^ 53) :
    own_W a' b' = own_W a b := by
  have z1 : 0 ≤ a'.toInt := by rw [e1]; exact Int.mul_nonneg ha (by omega)
  have z2 : 0 < b'.toInt := by rw [e2]; exact Int.mul_pos hb (by omega)
  have z3 : a'.toInt ≤ b'.toInt := by rw [e1, e2]; exact Int.mul_le_mul_of_nonneg_right h (by omega)
  unfold own_W
  rw [own_Q_inj z1 z2 z3 ha hb]
  rw [own_X_exact z1 (by omega), own_X_exact (n := b) (by omega) hb53, own_X_exact ha (by omega), own_X_exact (n := b') (by omega) hb53']
  have t1 : a'.toInt.toNat = a.toInt.toNat * m := by rw [e1, Int.toNat_mul ha (by omega)]; rfl
  have t2 : b'.toInt.toNat = b.toInt.toNat * m := by rw [e2, Int.toNat_mul (by omega) (by omega)]; rfl
  rw [t1, t2]
  generalize one64 = T
  generalize a.toInt.toNat = A
  generalize b.toInt.toNat = B
  ac_rfl
theorem own_W_half {x y : Int64} (hx : 0 < x.toInt) (h : x.toInt ≤ 2147483648) (e : y.toInt = 2 * x.toInt) : own_W x y = 4602678819172646912 := by
  have : own_W x y = own_W 1 2 := own_W_factor (m := x.toInt.toNat) (by decide) (by decide) (by decide) (by omega) (by rw [show (1 : Int64).toInt = 1 from by decide]; omega) (by rw [show (2 : Int64).toInt = 2 from by decide]; omega) (by decide) (by omega)
  rw [this]; decide +kernel
theorem own_W_quarter {x y : Int64} (hx : 0 < x.toInt) (h : x.toInt ≤ 2147483648) (e : y.toInt = 4 * x.toInt) : own_W x y = 4604930618986332160 := by
  have : own_W x y = own_W 1 4 := own_W_factor (m := x.toInt.toNat) (by decide) (by decide) (by decide) (by omega) (by rw [show (1 : Int64).toInt = 1 from by decide]; omega) (by rw [show (4 : Int64).toInt = 4 from by decide]; omega) (by decide) (by omega)
  rw [this]; decide +kernel
end Jvm.Pilot.@@N@@.Own

namespace Jvm.Pilot.@@N@@
open Jvm Jvm.ClassFile Sem Op Lib Jvm.Free Jvm.Stand Jvm.LawKit Jvm.RoadKit Bundle Jvm.Pilot.@@N@@.Jvm.D

def own_d0 : UInt64 := FP.dconst0
def own_d1 : UInt64 := FP.dconst1
theorem own_d1_fin : Jvm.Free.Fl.Fin64 own_d1 := by unfold Jvm.Free.Fl.Fin64; decide +kernel
theorem own_nn1 {x : UInt64} {a b : Int64} (hx : x = FP.l2d a) (h : ¬ b = (0 : Int64)) : Jvm.Free.Fl.NoNaN64 (FP.ddiv x (FP.l2d b)) := by
  subst hx
  exact Jvm.Free.Fl.ddiv_out (Jvm.Free.Fl.l2d_fin a).noNaN (Jvm.Free.Fl.l2d_fin b) (Jvm.Free.Fl.l2d_nz h)
theorem own_nn2 {x : UInt64} {a b : Int64} (hx : x = FP.l2d a) (h : ¬ b = (0 : Int64)) : Jvm.Free.Fl.NoNaN64 (FP.dsub own_d1 (FP.ddiv x (FP.l2d b))) := Jvm.Free.Fl.dsub_out' own_d1_fin (own_nn1 hx h)
theorem d1_0 : decode jdk_30_method_1_code 0 = .ok (.aload_n 0, 1) := by decide +kernel
theorem d1_1 : decode jdk_30_method_1_code 1 = .ok (.invokespecial 1, 3) := by decide +kernel
theorem d1_4 : decode jdk_30_method_1_code 4 = .ok (.return_, 1) := by decide +kernel
theorem pn1 : plainName "java/lang/Record" = true := by first | (simp [plainName, overriddenIn]; done) | decide +kernel
theorem ef1 (m : MethodId) (x0 : Addr) : entryFrame m #[(.ref x0)] 1 = mkF m 0 #[.val (.ref x0)] [] := by first | (simp [entryFrame, mkF, argsToLocals, Value.category]; done) | rfl
def Q1 (Z : State) (x0 : Addr) (h0 : Heap) (n0 : Nat) (v : Option Value) (h : Heap) (L : List Loc) : Prop := v = none ∧ Fr n0 L ∧ h = h0
set_option maxRecDepth 65536 in
set_option maxHeartbeats 40000000 in
theorem rm1 (l : Launch) (Z : State) (a0 : Array Value) (hw : ∀ d ∈ tables_1, d.before a0 Z = true) (ws : List Jvm.Cond) (x0 : Addr) (h0 : Heap) (n0 : Nat) (Z0 : n0 ≤ h0.size) :
    MetFree l (⟨"java/lang/Record", "<init>", "()V"⟩ : MethodName) (head1 (Jvm.Cond.code (⟨"java/lang/Record", "<init>", "()V"⟩ : MethodName) jdk_30_method_1_code 1 none :: ws) ({ frames := 1, cells := 0, slots := 0, locals := 12 } : Room)) (fun a U => a = #[(.ref x0)] ∧ Z.Warmed39 U.vm ∧ U.heap = h0) (fun _ _ _ _ _ => True) (fun _ U o U' => ∃ v L, o = .returned v ∧ Q1 Z x0 h0 n0 v U'.heap L ∧ FrameEnd U o U' L ({ frames := 1, cells := 0, slots := 0, locals := 12 } : Room).cells ({ frames := 1, cells := 0, slots := 0, locals := 12 } : Room).slots) := by
  refine MetFree.of_bodySF (plainFor_of_name pn1) hisR ?_
  intro p e s m args below meth c s₁ Bd hml0 hP hK
  obtain ⟨rfl, hZ, hh⟩ := hP
  have hx := Bd.exec
  have hby := Bd.bytes
  have hml : c.maxLocals = 1 := hml0
  have hown : s.vm.findClass "java/lang/Record" = some m.cls := findClass_of_methodNamed Bd.named
  have hnm := (name_of_methodNamed Bd.named Bd.method).1
  have X0 : Stand p l e ({ frames := 1, cells := 0, slots := 0, locals := 12 } : Room) s m #[(.ref x0)] below meth c s₁ [] 0 0 := Stand.of_body Bd
  have e0 : s₁.heap = h0 := by rw [← hh, Bd.state]; rfl
  have N0 := Fr.nil n0
  have pre0 : Steps p.tables e below (s₁.setTop (entryFrame m #[(.ref x0)] 1)) (s₁.setTop (mkF m 0 #[.val (.ref x0)] [])) := castTop (ef1 m x0) (Steps.refl _)
  have st1 : Steps p.tables e below (s₁.setTop (mkF m 0 #[.val (.ref x0)] [])) (s₁.setTop (mkF m 1 #[.val (.ref x0)] [(.ref x0)])) := by
    refine XS.aloadN X0.here hx rfl (hb hby d1_0) rfl rfl ?_
    show Steps p.tables e below (s₁.setTop (mkF m 1 #[.val (.ref x0)] [(.ref x0)])) _
    exact Steps.refl _
  have pre1 := pre0.trans st1
  obtain ⟨T2, X2, e2, st2⟩ := initO X0 hx hZ hown (hw _ (List.mem_of_getElem? (i := 11) rfl)) (hw _ (List.mem_of_getElem? (i := 12) rfl)) (hw _ (List.mem_of_getElem? (i := 13) rfl)) e0 (g := (mkF m 1 #[.val (.ref x0)] [(.ref x0)])) rfl (by rw [hml]; rfl) rfl (hb hby d1_1) (by decide) (W := 0) (by show 2 * 0 + _ ≤ _; exact Nat.le_of_eq rfl) (by decide)
  have pre2 : Steps p.tables e below (s₁.setTop (entryFrame m #[(.ref x0)] 1)) (T2.setTop (mkF m 4 #[.val (.ref x0)] [])) := pre1.trans (st2 _ (Steps.refl _))
  obtain ⟨fs, hr, hrun, hended, hW, hsame⟩ := X2.leave (v := none) (fun _ => rfl)
  refine ⟨_, _, pre2.trans ?_, hrun, hended, _, _, rfl, ?_, ⟨_, rfl⟩, hW, hsame.mono (by decide) (by decide)⟩
  · show Steps p.tables e below (T2.setTop (mkF m 4 #[.val (.ref x0)] [])) _
    exact X2.returnOut hx Bd.returns (hb hby d1_4) hr
  · show Q1 Z x0 h0 n0 _ T2.heap _
    rw [e2]
    exact ⟨rfl, N0, rfl⟩
theorem d2_0 : decode prog_20_method_1_code 0 = .ok (.aload_n 0, 1) := by decide +kernel
theorem d2_1 : decode prog_20_method_1_code 1 = .ok (.invokespecial 1, 3) := by decide +kernel
theorem d2_4 : decode prog_20_method_1_code 4 = .ok (.aload_n 0, 1) := by decide +kernel
theorem d2_5 : decode prog_20_method_1_code 5 = .ok (.lload_n 1, 1) := by decide +kernel
theorem d2_6 : decode prog_20_method_1_code 6 = .ok (.putfield 7, 3) := by decide +kernel
theorem d2_9 : decode prog_20_method_1_code 9 = .ok (.aload_n 0, 1) := by decide +kernel
theorem d2_10 : decode prog_20_method_1_code 10 = .ok (.lload_n 3, 1) := by decide +kernel
theorem d2_11 : decode prog_20_method_1_code 11 = .ok (.putfield 13, 3) := by decide +kernel
theorem d2_14 : decode prog_20_method_1_code 14 = .ok (.return_, 1) := by decide +kernel
theorem pn2 : plainName "com/example/nestmine/nestmine/Conformance$Score" = true := by first | (simp [plainName, overriddenIn]; done) | decide +kernel
theorem pd2_0 : parseMethodDescriptor "()V" = some ⟨[], none⟩ := by decide +kernel
theorem ef2 (m : MethodId) (x0 : Addr) (x1 : Int64) (x2 : Int64) : entryFrame m #[(.ref x0), (.long x1), (.long x2)] 5 = mkF m 0 #[.val (.ref x0), .val (.long x1), .second, .val (.long x2), .second] [] := by first | (simp [entryFrame, mkF, argsToLocals, Value.category]; done) | rfl
def Q2 (Z : State) (x0 : Addr) (x1 : Int64) (x2 : Int64) (u0 : Value) (u1 : Value) (h0 : Heap) (n0 : Nat) (v : Option Value) (h : Heap) (L : List Loc) : Prop := v = none ∧ Fr n0 L ∧ Keep h0 h [x0] ∧ Exa Z h x0 "com/example/nestmine/nestmine/Conformance$Score" ∧ Fld Z h x0 "com/example/nestmine/nestmine/Conformance$Score" "lost" "J" (.long x1) ∧ Fld Z h x0 "com/example/nestmine/nestmine/Conformance$Score" "possible" "J" (.long x2)
set_option maxRecDepth 65536 in
set_option maxHeartbeats 40000000 in
theorem rm2 (l : Launch) (Z : State) (a0 : Array Value) (hw : ∀ d ∈ tables_1, d.before a0 Z = true) (ws : List Jvm.Cond) (x0 : Addr) (x1 : Int64) (x2 : Int64) (u0 : Value) (u1 : Value) (h0 : Heap) (n0 : Nat) (Z0 : n0 ≤ h0.size) (B0 : Exa Z h0 x0 "com/example/nestmine/nestmine/Conformance$Score") (B1 : Fld Z h0 x0 "com/example/nestmine/nestmine/Conformance$Score" "lost" "J" u0) (B2 : Fld Z h0 x0 "com/example/nestmine/nestmine/Conformance$Score" "possible" "J" u1) (g_x0 : n0 ≤ x0) :
    MetFree l (⟨"com/example/nestmine/nestmine/Conformance$Score", "<init>", "(JJ)V"⟩ : MethodName) (head1 (Jvm.Cond.code (⟨"com/example/nestmine/nestmine/Conformance$Score", "<init>", "(JJ)V"⟩ : MethodName) prog_20_method_1_code 5 none :: ws) ({ frames := 2, cells := 0, slots := 0, locals := 24 } : Room)) (fun a U => a = #[(.ref x0), (.long x1), (.long x2)] ∧ Z.Warmed39 U.vm ∧ U.heap = h0) (fun _ _ _ _ _ => True) (fun _ U o U' => ∃ v L, o = .returned v ∧ Q2 Z x0 x1 x2 u0 u1 h0 n0 v U'.heap L ∧ FrameEnd U o U' L ({ frames := 2, cells := 0, slots := 0, locals := 24 } : Room).cells ({ frames := 2, cells := 0, slots := 0, locals := 24 } : Room).slots) := by
  refine MetFree.of_bodySF (plainFor_of_name pn2) hisR ?_
  intro p e s m args below meth c s₁ Bd hml0 hP hK
  obtain ⟨rfl, hZ, hh⟩ := hP
  have hx := Bd.exec
  have hby := Bd.bytes
  have hml : c.maxLocals = 5 := hml0
  have hown : s.vm.findClass "com/example/nestmine/nestmine/Conformance$Score" = some m.cls := findClass_of_methodNamed Bd.named
  have hnm := (name_of_methodNamed Bd.named Bd.method).1
  have X0 : Stand p l e ({ frames := 2, cells := 0, slots := 0, locals := 24 } : Room) s m #[(.ref x0), (.long x1), (.long x2)] below meth c s₁ [] 0 0 := Stand.of_body Bd
  have e0 : s₁.heap = h0 := by rw [← hh, Bd.state]; rfl
  have N0 := Fr.nil n0
  have pre0 : Steps p.tables e below (s₁.setTop (entryFrame m #[(.ref x0), (.long x1), (.long x2)] 5)) (s₁.setTop (mkF m 0 #[.val (.ref x0), .val (.long x1), .second, .val (.long x2), .second] [])) := castTop (ef2 m x0 x1 x2) (Steps.refl _)
  have K0 := Keep.refl h0 [x0]
  have st1 : Steps p.tables e below (s₁.setTop (mkF m 0 #[.val (.ref x0), .val (.long x1), .second, .val (.long x2), .second] [])) (s₁.setTop (mkF m 1 #[.val (.ref x0), .val (.long x1), .second, .val (.long x2), .second] [(.ref x0)])) := by
    refine XS.aloadN X0.here hx rfl (hb hby d2_0) rfl rfl ?_
    show Steps p.tables e below (s₁.setTop (mkF m 1 #[.val (.ref x0), .val (.long x1), .second, .val (.long x2), .second] [(.ref x0)])) _
    exact Steps.refl _
  have pre1 := pre0.trans st1
  obtain ⟨_, _, ⟨T2, L2, k2, n2⟩, -, X2, ⟨Lc2, hQ2, l2, y2, z2⟩, st2⟩ := X0.specialBack hx (y := (⟨"java/lang/Record", "<init>", "()V"⟩ : MethodName)) rfl hown (mvT hZ (hw _ (List.mem_of_getElem? (i := 6) rfl))) (mvT hZ (hw _ (List.mem_of_getElem? (i := 7) rfl))) (mvT hZ (hw _ (List.mem_of_getElem? (i := 10) rfl))) (by decide) (backOf (W := 0) (rm1 l Z a0 hw [] x0 h0 n0 Z0) hZ (hw _ (List.mem_of_getElem? (i := 10) rfl)) (hw _ (List.mem_of_getElem? (i := 9) rfl)) (by decide) (by decide)) (g := (mkF m 1 #[.val (.ref x0), .val (.long x1), .second, .val (.long x2), .second] [(.ref x0)])) rfl (by rw [hml]; rfl) (Steps.refl _) (a := x0) (argsL := []) (rest := []) (lenOf pd2_0 rfl) rfl (by show 2 * 0 + _ ≤ _; exact Nat.le_of_eq rfl) (hb hby d2_1) (fun _ _ => ⟨rfl, e0, (by decide : 0 + 0 ≤ _), (by decide : 0 + 0 ≤ _)⟩)
  dsimp only [Pt.U, Pt.locs, Pt.cells, Pt.slots] at X2 l2 y2 z2 st2 hQ2
  subst l2 y2 z2
  obtain ⟨rfl, Nq2, e2⟩ := hQ2
  have N2 := Fr.app N0 Nq2
  have pre2 : Steps p.tables e below (s₁.setTop (entryFrame m #[(.ref x0), (.long x1), (.long x2)] 5)) (T2.setTop (mkF m 4 #[.val (.ref x0), .val (.long x1), .second, .val (.long x2), .second] [])) := pre1.trans st2
  have st3 : Steps p.tables e below (T2.setTop (mkF m 4 #[.val (.ref x0), .val (.long x1), .second, .val (.long x2), .second] [])) (T2.setTop (mkF m 6 #[.val (.ref x0), .val (.long x1), .second, .val (.long x2), .second] [(.long x1), (.ref x0)])) := by
    refine XS.aloadN X2.here hx rfl (hb hby d2_4) rfl rfl ?_
    show Steps p.tables e below (T2.setTop (mkF m 5 #[.val (.ref x0), .val (.long x1), .second, .val (.long x2), .second] [(.ref x0)])) _
    refine XS.lloadN X2.here hx rfl (hb hby d2_5) rfl ?_
    show Steps p.tables e below (T2.setTop (mkF m 6 #[.val (.ref x0), .val (.long x1), .second, .val (.long x2), .second] [(.long x1), (.ref x0)])) _
    exact Steps.refl _
  have pre3 := pre2.trans st3
  obtain ⟨T4, h4, X4, e4, W4, st4⟩ := putF X2 hx hZ hown (host := "") (Or.inl (hw _ (List.mem_of_getElem? (i := 14) rfl))) Via.refl e2 B1 B0 (Or.inr ⟨(hw _ (List.mem_of_getElem? (i := 15) rfl)), rfl, hnm⟩) (hw _ (List.mem_of_getElem? (i := 1) rfl)) (ty := .long) (by decide) rfl rfl (g := (mkF m 6 #[.val (.ref x0), .val (.long x1), .second, .val (.long x2), .second] [(.long x1), (.ref x0)])) rfl rfl (hb hby d2_6)
  have pre4 : Steps p.tables e below (s₁.setTop (entryFrame m #[(.ref x0), (.long x1), (.long x2)] 5)) (T4.setTop (mkF m 9 #[.val (.ref x0), .val (.long x1), .second, .val (.long x2), .second] [])) := pre3.trans (st4 _ (Steps.refl _))
  have F5 : Exa Z h4 x0 "com/example/nestmine/nestmine/Conformance$Score" := B0.wr W4
  have F7 : Fld Z h4 x0 "com/example/nestmine/nestmine/Conformance$Score" "possible" "J" u1 := B2.other W4 (Or.inr (slot_ne (Or.inr (hw _ (List.mem_of_getElem? (i := 17) rfl))) (Or.inr (hw _ (List.mem_of_getElem? (i := 15) rfl))) (by decide) (t := .long) (t' := .long) (by decide) (by decide)))
  have K4 := K0.wr W4 (Or.inl (List.mem_of_getElem? (i := 0) rfl))
  have Z4 : n0 ≤ h4.size := Nat.le_trans Z0 (Keep.of_wr W4).1
  have Fw4 : Fld Z h4 x0 "com/example/nestmine/nestmine/Conformance$Score" "lost" "J" (.long x1) := B1.same W4
  have N4 := Fr.snoc X4 N2 g_x0
  have st8 : Steps p.tables e below (T4.setTop (mkF m 9 #[.val (.ref x0), .val (.long x1), .second, .val (.long x2), .second] [])) (T4.setTop (mkF m 11 #[.val (.ref x0), .val (.long x1), .second, .val (.long x2), .second] [(.long x2), (.ref x0)])) := by
    refine XS.aloadN X4.here hx rfl (hb hby d2_9) rfl rfl ?_
    show Steps p.tables e below (T4.setTop (mkF m 10 #[.val (.ref x0), .val (.long x1), .second, .val (.long x2), .second] [(.ref x0)])) _
    refine XS.lloadN X4.here hx rfl (hb hby d2_10) rfl ?_
    show Steps p.tables e below (T4.setTop (mkF m 11 #[.val (.ref x0), .val (.long x1), .second, .val (.long x2), .second] [(.long x2), (.ref x0)])) _
    exact Steps.refl _
  have pre8 := pre4.trans st8
  obtain ⟨T9, h9, X9, e9, W9, st9⟩ := putF X4 hx hZ hown (host := "") (Or.inl (hw _ (List.mem_of_getElem? (i := 16) rfl))) Via.refl e4 F7 F5 (Or.inr ⟨(hw _ (List.mem_of_getElem? (i := 17) rfl)), rfl, hnm⟩) (hw _ (List.mem_of_getElem? (i := 1) rfl)) (ty := .long) (by decide) rfl rfl (g := (mkF m 11 #[.val (.ref x0), .val (.long x1), .second, .val (.long x2), .second] [(.long x2), (.ref x0)])) rfl rfl (hb hby d2_11)
  have pre9 : Steps p.tables e below (s₁.setTop (entryFrame m #[(.ref x0), (.long x1), (.long x2)] 5)) (T9.setTop (mkF m 14 #[.val (.ref x0), .val (.long x1), .second, .val (.long x2), .second] [])) := pre8.trans (st9 _ (Steps.refl _))
  have F10 : Exa Z h9 x0 "com/example/nestmine/nestmine/Conformance$Score" := F5.wr W9
  have F12 : Fld Z h9 x0 "com/example/nestmine/nestmine/Conformance$Score" "lost" "J" (.long x1) := Fw4.other W9 (Or.inr (slot_ne (Or.inr (hw _ (List.mem_of_getElem? (i := 15) rfl))) (Or.inr (hw _ (List.mem_of_getElem? (i := 17) rfl))) (by decide) (t := .long) (t' := .long) (by decide) (by decide)))
  have K9 := K4.wr W9 (Or.inl (List.mem_of_getElem? (i := 0) rfl))
  have Z9 : n0 ≤ h9.size := Nat.le_trans Z4 (Keep.of_wr W9).1
  have Fw9 : Fld Z h9 x0 "com/example/nestmine/nestmine/Conformance$Score" "possible" "J" (.long x2) := F7.same W9
  have N9 := Fr.snoc X9 N4 g_x0
  obtain ⟨fs, hr, hrun, hended, hW, hsame⟩ := X9.leave (v := none) (fun _ => rfl)
  refine ⟨_, _, pre9.trans ?_, hrun, hended, _, _, rfl, ?_, ⟨_, rfl⟩, hW, hsame.mono (by decide) (by decide)⟩
  · show Steps p.tables e below (T9.setTop (mkF m 14 #[.val (.ref x0), .val (.long x1), .second, .val (.long x2), .second] [])) _
    exact X9.returnOut hx Bd.returns (hb hby d2_14) hr
  · show Q2 Z x0 x1 x2 u0 u1 h0 n0 _ T9.heap _
    rw [e9]
    exact ⟨rfl, N9, K9, F10, F12, Fw9⟩
theorem d3_0 : decode prog_20_method_2_code 0 = .ok (.aload_n 0, 1) := by decide +kernel
theorem d3_1 : decode prog_20_method_2_code 1 = .ok (.getfield 13, 3) := by decide +kernel
theorem d3_4 : decode prog_20_method_2_code 4 = .ok (.lconst 0, 1) := by decide +kernel
theorem d3_5 : decode prog_20_method_2_code 5 = .ok (.lcmp, 1) := by decide +kernel
theorem d3_6 : decode prog_20_method_2_code 6 = .ok (.ifCond .ne 7, 3) := by decide +kernel
theorem d3_9 : decode prog_20_method_2_code 9 = .ok (.dconst 1, 1) := by decide +kernel
theorem d3_10 : decode prog_20_method_2_code 10 = .ok (.goto 16, 3) := by decide +kernel
theorem d3_13 : decode prog_20_method_2_code 13 = .ok (.dconst 1, 1) := by decide +kernel
theorem d3_14 : decode prog_20_method_2_code 14 = .ok (.aload_n 0, 1) := by decide +kernel
theorem d3_15 : decode prog_20_method_2_code 15 = .ok (.getfield 7, 3) := by decide +kernel
theorem d3_18 : decode prog_20_method_2_code 18 = .ok (.l2d, 1) := by decide +kernel
theorem d3_19 : decode prog_20_method_2_code 19 = .ok (.aload_n 0, 1) := by decide +kernel
theorem d3_20 : decode prog_20_method_2_code 20 = .ok (.getfield 13, 3) := by decide +kernel
theorem d3_23 : decode prog_20_method_2_code 23 = .ok (.l2d, 1) := by decide +kernel
theorem d3_24 : decode prog_20_method_2_code 24 = .ok (.ddiv, 1) := by decide +kernel
theorem d3_25 : decode prog_20_method_2_code 25 = .ok (.dsub, 1) := by decide +kernel
theorem d3_26 : decode prog_20_method_2_code 26 = .ok (.dreturn, 1) := by decide +kernel
theorem pn3 : plainName "com/example/nestmine/nestmine/Conformance$Score" = true := by first | (simp [plainName, overriddenIn]; done) | decide +kernel
theorem ef3 (m : MethodId) (x0 : Addr) : entryFrame m #[(.ref x0)] 1 = mkF m 0 #[.val (.ref x0)] [] := by first | (simp [entryFrame, mkF, argsToLocals, Value.category]; done) | rfl
def own_F3 (x0 : Addr) (w0 : Int64) (w1 : Int64) : UInt64 := (if w1 = (0 : Int64) then own_d1 else (FP.dsub own_d1 (FP.ddiv (FP.l2d w0) (FP.l2d w1))))
def Q3 (Z : State) (x0 : Addr) (w0 : Int64) (w1 : Int64) (h0 : Heap) (n0 : Nat) (v : Option Value) (h : Heap) (L : List Loc) : Prop := v = some (.double (own_F3 x0 w0 w1)) ∧ Fr n0 L ∧ h = h0
set_option maxRecDepth 65536 in
set_option maxHeartbeats 40000000 in
theorem rm3 (l : Launch) (Z : State) (a0 : Array Value) (hw : ∀ d ∈ tables_1, d.before a0 Z = true) (ws : List Jvm.Cond) (x0 : Addr) (w0 : Int64) (w1 : Int64) (h0 : Heap) (n0 : Nat) (Z0 : n0 ≤ h0.size) (B0 : Fld Z h0 x0 "com/example/nestmine/nestmine/Conformance$Score" "lost" "J" (.long w0)) (B1 : Fld Z h0 x0 "com/example/nestmine/nestmine/Conformance$Score" "possible" "J" (.long w1)) :
    MetFree l (⟨"com/example/nestmine/nestmine/Conformance$Score", "value", "()D"⟩ : MethodName) (head1 (Jvm.Cond.code (⟨"com/example/nestmine/nestmine/Conformance$Score", "value", "()D"⟩ : MethodName) prog_20_method_2_code 1 (some .double) :: ws) ({ frames := 0, cells := 0, slots := 0, locals := 0 } : Room)) (fun a U => a = #[(.ref x0)] ∧ Z.Warmed39 U.vm ∧ U.heap = h0) (fun _ _ _ _ _ => True) (fun _ U o U' => ∃ v L, o = .returned v ∧ Q3 Z x0 w0 w1 h0 n0 v U'.heap L ∧ FrameEnd U o U' L ({ frames := 0, cells := 0, slots := 0, locals := 0 } : Room).cells ({ frames := 0, cells := 0, slots := 0, locals := 0 } : Room).slots) := by
  refine MetFree.of_bodySF (plainFor_of_name pn3) hisR ?_
  intro p e s m args below meth c s₁ Bd hml0 hP hK
  obtain ⟨rfl, hZ, hh⟩ := hP
  have hx := Bd.exec
  have hby := Bd.bytes
  have hml : c.maxLocals = 1 := hml0
  have hown : s.vm.findClass "com/example/nestmine/nestmine/Conformance$Score" = some m.cls := findClass_of_methodNamed Bd.named
  have hnm := (name_of_methodNamed Bd.named Bd.method).1
  have X0 : Stand p l e ({ frames := 0, cells := 0, slots := 0, locals := 0 } : Room) s m #[(.ref x0)] below meth c s₁ [] 0 0 := Stand.of_body Bd
  have e0 : s₁.heap = h0 := by rw [← hh, Bd.state]; rfl
  have N0 := Fr.nil n0
  have pre0 : Steps p.tables e below (s₁.setTop (entryFrame m #[(.ref x0)] 1)) (s₁.setTop (mkF m 0 #[.val (.ref x0)] [])) := castTop (ef3 m x0) (Steps.refl _)
  have st1 : Steps p.tables e below (s₁.setTop (mkF m 0 #[.val (.ref x0)] [])) (s₁.setTop (mkF m 1 #[.val (.ref x0)] [(.ref x0)])) := by
    refine XS.aloadN X0.here hx rfl (hb hby d3_0) rfl rfl ?_
    show Steps p.tables e below (s₁.setTop (mkF m 1 #[.val (.ref x0)] [(.ref x0)])) _
    exact Steps.refl _
  have pre1 := pre0.trans st1
  obtain ⟨T2, X2, e2, st2⟩ := getF X0 hx hZ hown (host := "") (Or.inl (hw _ (List.mem_of_getElem? (i := 16) rfl))) Via.refl e0 B1 (g := (mkF m 1 #[.val (.ref x0)] [(.ref x0)])) rfl rfl (hb hby d3_1)
  have pre2 : Steps p.tables e below (s₁.setTop (entryFrame m #[(.ref x0)] 1)) (T2.setTop (mkF m 4 #[.val (.ref x0)] [(.long w1)])) := pre1.trans (st2 _ (Steps.refl _))
  have st3 : Steps p.tables e below (T2.setTop (mkF m 4 #[.val (.ref x0)] [(.long w1)])) (T2.setTop (mkF m 6 #[.val (.ref x0)] [(.int (lcmpW w1 (0 : Int64)))])) := by
    refine XS.lconst X2.here hx rfl (hb hby d3_4) ?_
    show Steps p.tables e below (T2.setTop (mkF m 5 #[.val (.ref x0)] [(.long (0 : Int64)), (.long w1)])) _
    refine XS.lcmp X2.here hx rfl (hb hby d3_5) rfl ?_
    show Steps p.tables e below (T2.setTop (mkF m 6 #[.val (.ref x0)] [(.int (lcmpW w1 (0 : Int64)))])) _
    exact Steps.refl _
  have pre3 := pre2.trans st3
  by_cases hc6 : w1 = (0 : Int64)
  · have st4 : Steps p.tables e below (T2.setTop (mkF m 6 #[.val (.ref x0)] [(.int (lcmpW w1 (0 : Int64)))])) (T2.setTop (mkF m 9 #[.val (.ref x0)] [])) := by
      refine XS.ifNo X2.here hx rfl (hb hby d3_6) rfl ((if0 _ _).trans (teq ((lw_eq w1 (0 : Int64)).mpr hc6)).2) ?_
      exact Steps.refl _
    have pre4 := pre3.trans st4
    have st5 : Steps p.tables e below (T2.setTop (mkF m 9 #[.val (.ref x0)] [])) (T2.setTop (mkF m 26 #[.val (.ref x0)] [(.double own_d1)])) := by
      refine XS.dconst1 X2.here hx rfl (hb hby d3_9) (v := own_d1) rfl ?_
      show Steps p.tables e below (T2.setTop (mkF m 10 #[.val (.ref x0)] [(.double own_d1)])) _
      refine XS.goto X2.here hx rfl (pc0 := 10) (pc' := 26) rfl (hb hby d3_10) (by decide) (by decide) ?_
      show Steps p.tables e below (T2.setTop (mkF m 26 #[.val (.ref x0)] [(.double own_d1)])) _
      exact Steps.refl _
    have pre5 := pre4.trans st5
    obtain ⟨fs, hr, hrun, hended, hW, hsame⟩ := X2.leave (v := some (.double own_d1)) (fun h => by rw [Bd.returns] at h; cases h)
    refine ⟨_, _, pre5.trans ?_, hrun, hended, _, _, rfl, ?_, ⟨_, rfl⟩, hW, hsame.mono (by decide) (by decide)⟩
    · show Steps p.tables e below (T2.setTop (mkF m 26 #[.val (.ref x0)] [(.double own_d1)])) _
      jvm_step X2.here [X2.here.top, hx, (hb hby d3_26), X2.method', Bd.returns, narrow]
      first | (intro acts; rw [hr _ acts rfl rfl rfl]) | rw [hr _ _ rfl rfl rfl]
      exact Steps.refl _
    · show Q3 Z x0 w0 w1 h0 n0 _ T2.heap _
      rw [e2]
      have hF : own_F3 x0 w0 w1 = own_d1 := by
        simp only [own_F3, if_pos hc6]
      exact ⟨by rw [hF], N0, rfl⟩
  · have st6 : Steps p.tables e below (T2.setTop (mkF m 6 #[.val (.ref x0)] [(.int (lcmpW w1 (0 : Int64)))])) (T2.setTop (mkF m 13 #[.val (.ref x0)] [])) := by
      refine XS.ifYes X2.here hx rfl (pc0 := 6) (pc' := 13) rfl (hb hby d3_6) rfl ((if0 _ _).trans (feq (fun q => hc6 ((lw_eq w1 (0 : Int64)).mp q))).2) (by decide) (by decide) ?_
      exact Steps.refl _
    have pre6 := pre3.trans st6
    have st7 : Steps p.tables e below (T2.setTop (mkF m 13 #[.val (.ref x0)] [])) (T2.setTop (mkF m 15 #[.val (.ref x0)] [(.ref x0), (.double own_d1)])) := by
      refine XS.dconst1 X2.here hx rfl (hb hby d3_13) (v := own_d1) rfl ?_
      show Steps p.tables e below (T2.setTop (mkF m 14 #[.val (.ref x0)] [(.double own_d1)])) _
      refine XS.aloadN X2.here hx rfl (hb hby d3_14) rfl rfl ?_
      show Steps p.tables e below (T2.setTop (mkF m 15 #[.val (.ref x0)] [(.ref x0), (.double own_d1)])) _
      exact Steps.refl _
    have pre7 := pre6.trans st7
    obtain ⟨T8, X8, e8, st8⟩ := getF X2 hx hZ hown (host := "") (Or.inl (hw _ (List.mem_of_getElem? (i := 14) rfl))) Via.refl e2 B0 (g := (mkF m 15 #[.val (.ref x0)] [(.ref x0), (.double own_d1)])) rfl rfl (hb hby d3_15)
    have pre8 : Steps p.tables e below (s₁.setTop (entryFrame m #[(.ref x0)] 1)) (T8.setTop (mkF m 18 #[.val (.ref x0)] [(.long w0), (.double own_d1)])) := pre7.trans (st8 _ (Steps.refl _))
    obtain ⟨v9, hv9⟩ : ∃ z : UInt64, z = (FP.l2d w0) := ⟨_, rfl⟩
    have st10 : Steps p.tables e below (T8.setTop (mkF m 18 #[.val (.ref x0)] [(.long w0), (.double own_d1)])) (T8.setTop (mkF m 20 #[.val (.ref x0)] [(.ref x0), (.double v9), (.double own_d1)])) := by
      subst v9
      refine XS.l2dS X8.here hx rfl (hb hby d3_18) rfl rfl ?_
      show Steps p.tables e below (T8.setTop (mkF m 19 #[.val (.ref x0)] [(.double (FP.l2d w0)), (.double own_d1)])) _
      refine XS.aloadN X8.here hx rfl (hb hby d3_19) rfl rfl ?_
      show Steps p.tables e below (T8.setTop (mkF m 20 #[.val (.ref x0)] [(.ref x0), (.double (FP.l2d w0)), (.double own_d1)])) _
      exact Steps.refl _
    have pre10 := pre8.trans st10
    obtain ⟨T11, X11, e11, st11⟩ := getF X8 hx hZ hown (host := "") (Or.inl (hw _ (List.mem_of_getElem? (i := 16) rfl))) Via.refl e8 B1 (g := (mkF m 20 #[.val (.ref x0)] [(.ref x0), (.double v9), (.double own_d1)])) rfl rfl (hb hby d3_20)
    have pre11 : Steps p.tables e below (s₁.setTop (entryFrame m #[(.ref x0)] 1)) (T11.setTop (mkF m 23 #[.val (.ref x0)] [(.long w1), (.double v9), (.double own_d1)])) := pre10.trans (st11 _ (Steps.refl _))
    obtain ⟨v12, hv12⟩ : ∃ z : UInt64, z = (FP.dsub own_d1 (FP.ddiv v9 (FP.l2d w1))) := ⟨_, rfl⟩
    have st13 : Steps p.tables e below (T11.setTop (mkF m 23 #[.val (.ref x0)] [(.long w1), (.double v9), (.double own_d1)])) (T11.setTop (mkF m 26 #[.val (.ref x0)] [(.double v12)])) := by
      subst v12
      refine XS.l2dS X11.here hx rfl (hb hby d3_23) rfl rfl ?_
      show Steps p.tables e below (T11.setTop (mkF m 24 #[.val (.ref x0)] [(.double (FP.l2d w1)), (.double v9), (.double own_d1)])) _
      refine XS.ddivS X11.here hx rfl (hb hby d3_24) rfl (own_nn1 hv9 hc6) rfl ?_
      show Steps p.tables e below (T11.setTop (mkF m 25 #[.val (.ref x0)] [(.double (FP.ddiv v9 (FP.l2d w1))), (.double own_d1)])) _
      refine XS.dsubS X11.here hx rfl (hb hby d3_25) rfl (own_nn2 hv9 hc6) rfl ?_
      show Steps p.tables e below (T11.setTop (mkF m 26 #[.val (.ref x0)] [(.double (FP.dsub own_d1 (FP.ddiv v9 (FP.l2d w1))))])) _
      exact Steps.refl _
    have pre13 := pre11.trans st13
    obtain ⟨fs, hr, hrun, hended, hW, hsame⟩ := X11.leave (v := some (.double v12)) (fun h => by rw [Bd.returns] at h; cases h)
    refine ⟨_, _, pre13.trans ?_, hrun, hended, _, _, rfl, ?_, ⟨_, rfl⟩, hW, hsame.mono (by decide) (by decide)⟩
    · show Steps p.tables e below (T11.setTop (mkF m 26 #[.val (.ref x0)] [(.double v12)])) _
      jvm_step X11.here [X11.here.top, hx, (hb hby d3_26), X11.method', Bd.returns, narrow]
      first | (intro acts; rw [hr _ acts rfl rfl rfl]) | rw [hr _ _ rfl rfl rfl]
      exact Steps.refl _
    · show Q3 Z x0 w0 w1 h0 n0 _ T11.heap _
      rw [e11]
      have hF : own_F3 x0 w0 w1 = v12 := by
        subst v12 v9
        simp only [own_F3, if_neg hc6]
      exact ⟨by rw [hF], N0, rfl⟩
def own_P (l p : Int64) : Prop := 0 ≤ l.toInt ∧ l.toInt ≤ p.toInt ∧ 0 < p.toInt
theorem own_val {a : Addr} {l p : Int64} (h : own_P l p) : own_F3 a l p = Own.own_W l p := by
  have hp : ¬ p = (0 : Int64) := fun q => by
    have := h.2.2
    rw [q] at this
    exact absurd this (by decide)
  simp only [own_F3, if_neg hp]
  rfl
def own_z (x : UInt64) : Int := Jvm.FP.Core.zval Jvm.FP.Core.b64 (Jvm.FP.Core.val64 x)
theorem own_cmp {x y : UInt64} (hx : Jvm.FP.Core.val64 x ≠ .nan) (hy : Jvm.FP.Core.val64 y ≠ .nan) (o : CmpOp) :
    (own_z x < own_z y ∧ cmpValue (FP.dcmp x y) o = (-1 : Int32)) ∨ (own_z x = own_z y ∧ cmpValue (FP.dcmp x y) o = (0 : Int32)) ∨ (own_z y < own_z x ∧ cmpValue (FP.dcmp x y) o = (1 : Int32)) := by
  have e : FP.dcmp x y = some (compare (own_z x) (own_z y)) := Jvm.FP.Core.dcmp_zval hx hy
  rw [e]
  rcases Int.lt_trichotomy (own_z x) (own_z y) with h | h | h
  · exact Or.inl ⟨h, by rw [(Jvm.FP.Core.compare_lt_iff _ _).mpr h]; cases o <;> rfl⟩
  · exact Or.inr (Or.inl ⟨h, by rw [(Jvm.FP.Core.compare_eq_iff _ _).mpr h]; cases o <;> rfl⟩)
  · exact Or.inr (Or.inr ⟨h, by rw [(Jvm.FP.Core.compare_gt_iff _ _).mpr h]; cases o <;> rfl⟩)
theorem own_lt_of {x y : UInt64} (hx : Jvm.FP.Core.val64 x ≠ .nan) (hy : Jvm.FP.Core.val64 y ≠ .nan) (o : CmpOp) (h : own_z x < own_z y) : cmpValue (FP.dcmp x y) o = (-1 : Int32) := by
  rcases own_cmp hx hy o with ⟨q, e⟩ | ⟨q, e⟩ | ⟨q, e⟩
  · exact e
  · omega
  · omega
theorem own_eq_of {x y : UInt64} (hx : Jvm.FP.Core.val64 x ≠ .nan) (hy : Jvm.FP.Core.val64 y ≠ .nan) (o : CmpOp) (h : own_z x = own_z y) : cmpValue (FP.dcmp x y) o = (0 : Int32) := by
  rcases own_cmp hx hy o with ⟨q, e⟩ | ⟨q, e⟩ | ⟨q, e⟩
  · omega
  · exact e
  · omega
theorem own_gt_of {x y : UInt64} (hx : Jvm.FP.Core.val64 x ≠ .nan) (hy : Jvm.FP.Core.val64 y ≠ .nan) (o : CmpOp) (h : own_z y < own_z x) : cmpValue (FP.dcmp x y) o = (1 : Int32) := by
  rcases own_cmp hx hy o with ⟨q, e⟩ | ⟨q, e⟩ | ⟨q, e⟩
  · omega
  · omega
  · exact e
theorem own_ngt_of {x y : UInt64} (hx : Jvm.FP.Core.val64 x ≠ .nan) (hy : Jvm.FP.Core.val64 y ≠ .nan) (o : CmpOp) (h : own_z x ≤ own_z y) : ¬ ((0 : Int32) < cmpValue (FP.dcmp x y) o) := by
  rcases own_cmp hx hy o with ⟨q, e⟩ | ⟨q, e⟩ | ⟨q, e⟩
  · rw [e]; decide
  · rw [e]; decide
  · omega
theorem own_nlt_of {x y : UInt64} (hx : Jvm.FP.Core.val64 x ≠ .nan) (hy : Jvm.FP.Core.val64 y ≠ .nan) (o : CmpOp) (h : own_z y ≤ own_z x) : ¬ (cmpValue (FP.dcmp x y) o < (0 : Int32)) := by
  rcases own_cmp hx hy o with ⟨q, e⟩ | ⟨q, e⟩ | ⟨q, e⟩
  · omega
  · rw [e]; decide
  · rw [e]; decide
theorem own_zW {l p : Int64} (h : own_P l p) : own_z (Own.own_W l p) = (Own.own_w l p : Int) ∧ Jvm.FP.Core.val64 (Own.own_W l p) ≠ .nan := by
  obtain ⟨c, q, hs⟩ := Own.own_W_fin h.1 h.2.2 h.2.1
  exact ⟨Own.own_zval hs, by rw [hs]; exact Jvm.FP.Core.Datum.noConfusion⟩
theorem own_z1 : own_z own_d1 = (Jvm.FP.Core.one64 : Int) ∧ Jvm.FP.Core.val64 own_d1 ≠ .nan := by unfold own_z; decide +kernel
theorem own_z0 : own_z own_d0 = 0 ∧ Jvm.FP.Core.val64 own_d0 ≠ .nan := by unfold own_z; decide +kernel
theorem own_15 (a : Addr) (z : Int64) : cmpValue (FP.dcmp (own_F3 a z (0 : Int64)) own_d1) .l = (0 : Int32) := by
  simp only [own_F3, if_pos]
  exact own_eq_of own_z1.2 own_z1.2 .l rfl
theorem own_98 {a : Addr} {l p : Int64} (h : own_P l p) : ¬ ((0 : Int32) < cmpValue (FP.dcmp own_d0 (own_F3 a l p)) .g) := by
  rw [own_val h]
  refine own_ngt_of own_z0.2 (own_zW h).2 .g ?_
  rw [own_z0.1, (own_zW h).1]
  omega
theorem own_105 {a : Addr} {l p : Int64} (h : own_P l p) : ¬ ((0 : Int32) < cmpValue (FP.dcmp (own_F3 a l p) own_d1) .g) := by
  rw [own_val h]
  refine own_ngt_of (own_zW h).2 own_z1.2 .g ?_
  rw [own_z1.1, (own_zW h).1]
  have := Own.own_w_le h.1 h.2.2 h.2.1
  omega
theorem own_131 {a : Addr} {l p : Int64} (h : own_P l p) (hl : l = (0 : Int64)) : cmpValue (FP.dcmp (own_F3 a l p) own_d1) .l = (0 : Int32) := by
  rw [own_val h]
  refine own_eq_of (own_zW h).2 own_z1.2 .l ?_
  rw [own_z1.1, (own_zW h).1, hl, Own.own_w_one h.2.2]
theorem own_158 {a : Addr} {l p : Int64} (h : own_P l p) (hl : l = p) : cmpValue (FP.dcmp (own_F3 a l p) own_d0) .l = (0 : Int32) := by
  rw [own_val h]
  refine own_eq_of (own_zW h).2 own_z0.2 .l ?_
  rw [own_z0.1, (own_zW h).1, hl, Own.own_w_zero h.2.2]
  rfl
theorem own_186 {a b : Addr} {l k p : Int64} (h : own_P l p) (h' : own_P k p) (hl : ¬ k < l) : ¬ (cmpValue (FP.dcmp (own_F3 a l p) (own_F3 b k p)) .l < (0 : Int32)) := by
  rw [own_val h, own_val h']
  refine own_nlt_of (own_zW h).2 (own_zW h').2 .l ?_
  rw [(own_zW h).1, (own_zW h').1]
  rw [Int64.lt_iff_toInt_lt] at hl
  have := Own.own_w_mono h.1 h.2.2 (a' := k) (by omega) h'.2.1
  omega
theorem own_big {p : Int64} (h : ¬ (2147483648 : Int64) < p) : p.toInt ≤ 2147483648 := by
  rw [Int64.lt_iff_toInt_lt] at h
  have e : (2147483648 : Int64).toInt = 2147483648 := by decide
  omega
theorem own_249 {a : Addr} {l p : Int64} (h : own_P l p) (hp : ¬ (2147483648 : Int64) < p) (hl : (0 : Int64) < l) : cmpValue (FP.dcmp (own_F3 a l p) own_d1) .g < (0 : Int32) := by
  rw [own_val h, own_lt_of (own_zW h).2 own_z1.2 .g]
  · decide
  rw [Int64.lt_iff_toInt_lt] at hl
  have e : (0 : Int64).toInt = 0 := by decide
  rw [own_z1.1, (own_zW h).1]
  have := Own.own_w_lt (by omega) h.2.2 h.2.1 (own_big hp)
  omega
theorem own_276 {a : Addr} {l p : Int64} (h : own_P l p) (hp : ¬ (2147483648 : Int64) < p) (hl : l < p) : (0 : Int32) < cmpValue (FP.dcmp (own_F3 a l p) own_d0) .l := by
  rw [own_val h, own_gt_of (own_zW h).2 own_z0.2 .l]
  · decide
  rw [Int64.lt_iff_toInt_lt] at hl
  rw [own_z0.1, (own_zW h).1]
  have := Own.own_w_pos h.1 h.2.2 hl (own_big hp)
  omega
theorem own_mm {k : Int32} {m : Int64} (hm : m = (((k &&& (1048575 : Int32)).toInt64) + (1 : Int64))) : 0 < m.toInt ∧ m.toInt ≤ 1048576 := by
  have q := c_and k (1048575 : Int32) (by decide)
  have e : (1048575 : Int32).toInt = 1048575 := by decide
  have e1 : (1 : Int64).toInt = 1 := by decide
  have q1 := c_i2l (k &&& (1048575 : Int32))
  have q2 := c_ladd ((k &&& (1048575 : Int32)).toInt64) (1 : Int64)
  rw [← hm] at q2
  have r := rng64 m
  omega
theorem own_mul {a b : Int64} {A B : Int} (a0 : 0 ≤ a.toInt) (a1 : a.toInt ≤ A) (b0 : 0 ≤ b.toInt) (b1 : b.toInt ≤ B) (hAB : A * B ≤ 9007199254740992) : (a * b).toInt = a.toInt * b.toInt ∧ a.toInt * b.toInt ≤ A * B := by
  have h1 : a.toInt * b.toInt ≤ A * B := Int.mul_le_mul a1 b1 b0 (by omega)
  have h0 : 0 ≤ a.toInt * b.toInt := Int.mul_nonneg a0 b0
  exact ⟨Jvm.FP.Core.int64_mul (by omega) (by omega), h1⟩
theorem own_324 {a b : Addr} {l p m l' p' : Int64} {k : Int32} (h : own_P l p) (hp : ¬ (2147483648 : Int64) < p) (hm : m = (((k &&& (1048575 : Int32)).toInt64) + (1 : Int64))) (hl' : l' = (l * m)) (hp' : p' = (p * m)) :
    cmpValue (FP.dcmp (own_F3 a l' p') (own_F3 b l p)) .l = (0 : Int32) := by
  have M := own_mm hm
  have B := own_big hp
  have q1 := own_mul (a := l) (b := m) (A := 2147483648) (B := 1048576) h.1 (by have := h.2.1; omega) (by omega) M.2 (by decide)
  have q2 := own_mul (a := p) (b := m) (A := 2147483648) (B := 1048576) (by have := h.2.2; omega) B (by omega) M.2 (by decide)
  rw [← hl'] at q1
  rw [← hp'] at q2
  have em : ((m.toInt.toNat : Nat) : Int) = m.toInt := Int.toNat_of_nonneg (by omega)
  have h' : own_P l' p' := by
    refine ⟨?_, ?_, ?_⟩
    · rw [q1.1]; exact Int.mul_nonneg h.1 (by omega)
    · rw [q1.1, q2.1]; exact Int.mul_le_mul_of_nonneg_right h.2.1 (by omega)
    · rw [q2.1]; exact Int.mul_pos h.2.2 M.1
  rw [own_val h', own_val h, Own.own_W_factor (m := m.toInt.toNat) h.1 h.2.2 h.2.1 (by omega) (by rw [em]; exact q1.1) (by rw [em]; exact q2.1) (by omega) (by rw [q2.1]; omega)]
  exact own_eq_of (own_zW h).2 (own_zW h).2 .l rfl
theorem own_xx {l p x : Int64} (h : own_P l p) (hp : ¬ (2147483648 : Int64) < p) (hx : x = (if l = (0 : Int64) then (1 : Int64) else l)) : 0 < x.toInt ∧ x.toInt ≤ 2147483648 := by
  have B := own_big hp
  have e1 : (1 : Int64).toInt = 1 := by decide
  have e0 : (0 : Int64).toInt = 0 := by decide
  by_cases c : l = (0 : Int64)
  · rw [if_pos c] at hx
    rw [hx]
    omega
  · rw [if_neg c] at hx
    rw [hx]
    have h1 := h.1
    have h2 := h.2.1
    rw [← Int64.toInt_inj] at c
    omega
theorem own_376 {a : Addr} {l p x y : Int64} (h : own_P l p) (hp : ¬ (2147483648 : Int64) < p) (hx : x = (if l = (0 : Int64) then (1 : Int64) else l)) (hy : y = ((2 : Int64) * x)) : cmpValue (FP.dcmp (own_F3 a x y) (4602678819172646912 : UInt64)) .l = (0 : Int32) := by
  have X := own_xx h hp hx
  have e : (2 : Int64).toInt = 2 := by decide
  have q := own_mul (a := (2 : Int64)) (b := x) (A := 2) (B := 2147483648) (by omega) (by omega) (by omega) X.2 (by decide)
  rw [← hy, e] at q
  rw [own_val (l := x) (p := y) ⟨by omega, by omega, by omega⟩, Own.own_W_half X.1 X.2 q.1]
  decide +kernel
theorem own_413 {a : Addr} {l p x y : Int64} (h : own_P l p) (hp : ¬ (2147483648 : Int64) < p) (hx : x = (if l = (0 : Int64) then (1 : Int64) else l)) (hy : y = ((4 : Int64) * x)) : cmpValue (FP.dcmp (own_F3 a x y) (4604930618986332160 : UInt64)) .l = (0 : Int32) := by
  have X := own_xx h hp hx
  have e : (4 : Int64).toInt = 4 := by decide
  have q := own_mul (a := (4 : Int64)) (b := x) (A := 4) (B := 2147483648) (by omega) (by omega) (by omega) X.2 (by decide)
  rw [← hy, e] at q
  rw [own_val (l := x) (p := y) ⟨by omega, by omega, by omega⟩, Own.own_W_quarter X.1 X.2 q.1]
  decide +kernel
theorem own_p1 {a p : Int64} (h : p = (((a.toUInt64 >>> ((2 : Int32) &&& 0x3f).toInt64.toUInt64).toInt64) + (1 : Int64))) : 0 < p.toInt ∧ p.toInt ≤ 4611686018427387904 := by
  have q := c_lushr a (2 : Int32) 2 (by decide) (by decide)
  have e1 : (1 : Int64).toInt = 1 := by decide
  have q2 := c_ladd ((a.toUInt64 >>> ((2 : Int32) &&& 0x3f).toInt64.toUInt64).toInt64) (1 : Int64)
  rw [← h] at q2
  have r := rng64 p
  omega
theorem own_l1 {a b l p : Int64} (hp : p = (((a.toUInt64 >>> ((2 : Int32) &&& 0x3f).toInt64.toUInt64).toInt64) + (1 : Int64))) (h : l = ((b &&& (9223372036854775807 : Int64)) - ((b &&& (9223372036854775807 : Int64)) / (p + (1 : Int64))) * (p + (1 : Int64)))) : own_P l p := by
  have B := own_p1 hp
  have e1 : (1 : Int64).toInt = 1 := by decide
  have q2 := c_ladd p (1 : Int64)
  have r := rng64 (p + (1 : Int64))
  have m := c_maskL b (9223372036854775807 : Int64) 63 (by decide) (by decide)
  have m0 : 0 ≤ (b &&& (9223372036854775807 : Int64)).toInt := by rw [m]; exact Int.emod_nonneg _ (by decide)
  have q3 := (c_lrem (b &&& (9223372036854775807 : Int64)) (p + (1 : Int64)) _ rfl).1 m0
  rw [← h] at q3
  have p1 : (p + (1 : Int64)).toInt = p.toInt + 1 := by omega
  rw [p1] at q3
  have z1 := Int.emod_nonneg (b &&& (9223372036854775807 : Int64)).toInt (show p.toInt + 1 ≠ 0 by omega)
  have z2 := Int.emod_lt_of_pos (b &&& (9223372036854775807 : Int64)).toInt (show 0 < p.toInt + 1 by omega)
  unfold own_P
  omega
theorem own_nz (a : Int64) : (((a.toUInt64 >>> ((2 : Int32) &&& 0x3f).toInt64.toUInt64).toInt64) + (1 : Int64)) + (1 : Int64) ≠ 0 := fun h => by
  have B := own_p1 (a := a) rfl
  have q2 := c_ladd (((a.toUInt64 >>> ((2 : Int32) &&& 0x3f).toInt64.toUInt64).toInt64) + (1 : Int64)) (1 : Int64)
  rw [h] at q2
  have e1 : (1 : Int64).toInt = 1 := by decide
  have e0 : (0 : Int64).toInt = 0 := by decide
  omega
theorem pn0 : plainName "com/example/nestmine/nestmine/ScoreValuePinLaw" = true := by first | (simp [plainName, overriddenIn]; done) | decide +kernel
theorem pd0_0 : parseMethodDescriptor "(JJ)V" = some ⟨[.long, .long], none⟩ := by decide +kernel
theorem pd0_1 : parseMethodDescriptor "()D" = some ⟨[], some .double⟩ := by decide +kernel
theorem ef0 (m : MethodId) (x0 : Int64) (x1 : Int64) (x2 : Int64) (x3 : Int64) (x4 : Int32) : entryFrame m #[(.long x0), (.long x1), (.long x2), (.long x3), (.int x4)] maxLocals = mkF m 0 #[.val (.long x0), .second, .val (.long x1), .second, .val (.long x2), .second, .val (.long x3), .second, .val (.int x4), .unset, .unset, .unset, .unset, .unset, .unset, .unset, .unset, .unset, .unset, .unset, .unset, .unset, .unset, .unset] [] := by first | (simp [entryFrame, mkF, argsToLocals, Value.category, maxLocals]; done) | rfl
def Q0 (Z : State) (x0 : Int64) (x1 : Int64) (x2 : Int64) (x3 : Int64) (x4 : Int32) (h0 : Heap) (n0 : Nat) (v : Option Value) (h : Heap) (L : List Loc) : Prop := v = some (.int 1) ∧ Fr n0 L
set_option maxRecDepth 65536 in
set_option maxHeartbeats 40000000 in
theorem rm0 (l : Launch) (Z : State) (a0 : Array Value) (hw : ∀ d ∈ tables_1, d.before a0 Z = true) (ws : List Jvm.Cond) (x0 : Int64) (x1 : Int64) (x2 : Int64) (x3 : Int64) (x4 : Int32) (h0 : Heap) (n0 : Nat) (Z0 : n0 ≤ h0.size) :
    MetFree l x (head1 (Jvm.Cond.code x code maxLocals ret :: ws) room_1) (fun a U => a = #[(.long x0), (.long x1), (.long x2), (.long x3), (.int x4)] ∧ Z.Warmed39 U.vm ∧ U.heap = h0) (fun _ _ _ _ _ => True) (fun _ U o U' => ∃ v L, o = .returned v ∧ Q0 Z x0 x1 x2 x3 x4 h0 n0 v U'.heap L ∧ FrameEnd U o U' L room_1.cells room_1.slots) := by
  refine MetFree.of_bodySF (plainFor_of_name pn0) hisR ?_
  intro p e s m args below meth c s₁ Bd hml0 hP hK
  obtain ⟨rfl, hZ, hh⟩ := hP
  have hx := Bd.exec
  have hby := Bd.bytes
  have hml : c.maxLocals = 24 := hml0
  have hown : s.vm.findClass "com/example/nestmine/nestmine/ScoreValuePinLaw" = some m.cls := findClass_of_methodNamed Bd.named
  have hnm := (name_of_methodNamed Bd.named Bd.method).1
  have X0 : Stand p l e room_1 s m #[(.long x0), (.long x1), (.long x2), (.long x3), (.int x4)] below meth c s₁ [] 0 0 := Stand.of_body Bd
  have e0 : s₁.heap = h0 := by rw [← hh, Bd.state]; rfl
  have N0 := Fr.nil n0
  have pre0 : Steps p.tables e below (s₁.setTop (entryFrame m #[(.long x0), (.long x1), (.long x2), (.long x3), (.int x4)] maxLocals)) (s₁.setTop (mkF m 0 #[.val (.long x0), .second, .val (.long x1), .second, .val (.long x2), .second, .val (.long x3), .second, .val (.int x4), .unset, .unset, .unset, .unset, .unset, .unset, .unset, .unset, .unset, .unset, .unset, .unset, .unset, .unset, .unset] [])) := castTop (ef0 m x0 x1 x2 x3 x4) (Steps.refl _)
  have K0 := Keep.refl h0 []
  obtain ⟨T1, h1, X1, e1, E1, A1, D1, -, st1⟩ := newO X0 hx hZ hown (hw _ (List.mem_of_getElem? (i := 0) rfl)) (hw _ (List.mem_of_getElem? (i := 1) rfl)) (hw _ (List.mem_of_getElem? (i := 2) rfl)) e0 (g := (mkF m 0 #[.val (.long x0), .second, .val (.long x1), .second, .val (.long x2), .second, .val (.long x3), .second, .val (.int x4), .unset, .unset, .unset, .unset, .unset, .unset, .unset, .unset, .unset, .unset, .unset, .unset, .unset, .unset, .unset] [])) rfl (hb hby at_0) (by decide) (by decide)
  obtain ⟨b1, g1⟩ : ∃ z, z = h0.size := ⟨_, rfl⟩
  rw [← g1] at A1 D1 st1
  have pre1 : Steps p.tables e below (s₁.setTop (entryFrame m #[(.long x0), (.long x1), (.long x2), (.long x3), (.int x4)] maxLocals)) (T1.setTop (mkF m 3 #[.val (.long x0), .second, .val (.long x1), .second, .val (.long x2), .second, .val (.long x3), .second, .val (.int x4), .unset, .unset, .unset, .unset, .unset, .unset, .unset, .unset, .unset, .unset, .unset, .unset, .unset, .unset, .unset] [(.ref b1)])) := pre0.trans (st1 _ (Steps.refl _))
  have gn1 : n0 ≤ b1 := Nat.le_trans Z0 (Nat.le_of_eq g1.symm)
  have sz1 : h0.size ≤ b1 := Nat.le_trans K0.1 (Nat.le_of_eq g1.symm)
  have K1 := K0.ext E1
  have Z1 : n0 ≤ h1.size := Nat.le_trans Z0 E1.1
  have F2 : Fld Z h1 b1 "com/example/nestmine/nestmine/Conformance$Score" "lost" "J" (.long (0 : Int64)) := D1 (Or.inr (hw _ (List.mem_of_getElem? (i := 15) rfl))) (ty := .long) (by decide)
  have F3 : Fld Z h1 b1 "com/example/nestmine/nestmine/Conformance$Score" "possible" "J" (.long (0 : Int64)) := D1 (Or.inr (hw _ (List.mem_of_getElem? (i := 17) rfl))) (ty := .long) (by decide)
  have st4 : Steps p.tables e below (T1.setTop (mkF m 3 #[.val (.long x0), .second, .val (.long x1), .second, .val (.long x2), .second, .val (.long x3), .second, .val (.int x4), .unset, .unset, .unset, .unset, .unset, .unset, .unset, .unset, .unset, .unset, .unset, .unset, .unset, .unset, .unset] [(.ref b1)])) (T1.setTop (mkF m 7 #[.val (.long x0), .second, .val (.long x1), .second, .val (.long x2), .second, .val (.long x3), .second, .val (.int x4), .unset, .unset, .unset, .unset, .unset, .unset, .unset, .unset, .unset, .unset, .unset, .unset, .unset, .unset, .unset] [(.long (0 : Int64)), (.long x3), (.ref b1), (.ref b1)])) := by
    refine XS.dup X1.here hx rfl (hb hby at_3) rfl rfl ?_
    show Steps p.tables e below (T1.setTop (mkF m 4 #[.val (.long x0), .second, .val (.long x1), .second, .val (.long x2), .second, .val (.long x3), .second, .val (.int x4), .unset, .unset, .unset, .unset, .unset, .unset, .unset, .unset, .unset, .unset, .unset, .unset, .unset, .unset, .unset] [(.ref b1), (.ref b1)])) _
    refine XS.lload X1.here hx rfl (hb hby at_4) rfl ?_
    show Steps p.tables e below (T1.setTop (mkF m 6 #[.val (.long x0), .second, .val (.long x1), .second, .val (.long x2), .second, .val (.long x3), .second, .val (.int x4), .unset, .unset, .unset, .unset, .unset, .unset, .unset, .unset, .unset, .unset, .unset, .unset, .unset, .unset, .unset] [(.long x3), (.ref b1), (.ref b1)])) _
    refine XS.lconst X1.here hx rfl (hb hby at_6) ?_
    show Steps p.tables e below (T1.setTop (mkF m 7 #[.val (.long x0), .second, .val (.long x1), .second, .val (.long x2), .second, .val (.long x3), .second, .val (.int x4), .unset, .unset, .unset, .unset, .unset, .unset, .unset, .unset, .unset, .unset, .unset, .unset, .unset, .unset, .unset] [(.long (0 : Int64)), (.long x3), (.ref b1), (.ref b1)])) _
    exact Steps.refl _
  have pre4 := pre1.trans st4
  obtain ⟨_, _, ⟨T5, L5, k5, n5⟩, -, X5, ⟨Lc5, hQ5, l5, y5, z5⟩, st5⟩ := X1.specialBack hx (y := (⟨"com/example/nestmine/nestmine/Conformance$Score", "<init>", "(JJ)V"⟩ : MethodName)) rfl hown (mvT hZ (hw _ (List.mem_of_getElem? (i := 3) rfl))) (mvT hZ (hw _ (List.mem_of_getElem? (i := 4) rfl))) (mvT hZ (hw _ (List.mem_of_getElem? (i := 5) rfl))) (by decide) (backOf (W := 1) (rm2 l Z a0 hw [] b1 x3 (0 : Int64) (.long (0 : Int64)) (.long (0 : Int64)) h1 n0 Z1 A1 F2 F3 gn1) hZ (hw _ (List.mem_of_getElem? (i := 5) rfl)) (hw _ (List.mem_of_getElem? (i := 2) rfl)) (by decide) (by decide)) (g := (mkF m 7 #[.val (.long x0), .second, .val (.long x1), .second, .val (.long x2), .second, .val (.long x3), .second, .val (.int x4), .unset, .unset, .unset, .unset, .unset, .unset, .unset, .unset, .unset, .unset, .unset, .unset, .unset, .unset, .unset] [(.long (0 : Int64)), (.long x3), (.ref b1), (.ref b1)])) rfl (by rw [hml]; rfl) (Steps.refl _) (a := b1) (argsL := [(.long x3), (.long (0 : Int64))]) (rest := [(.ref b1)]) (lenOf pd0_0 rfl) rfl (by show 2 * 0 + _ ≤ _; exact Nat.le_of_eq rfl) (hb hby at_7) (fun _ _ => ⟨rfl, e1, (by decide : 1 + 0 ≤ _), (by decide : 2 + 0 ≤ _)⟩)
  dsimp only [Pt.U, Pt.locs, Pt.cells, Pt.slots] at X5 l5 y5 z5 st5 hQ5
  subst l5 y5 z5
  obtain ⟨rfl, Nq5, Kq5, P5_0, P5_1, P5_2⟩ := hQ5
  have F6 : Exa Z T5.heap b1 "com/example/nestmine/nestmine/Conformance$Score" := A1.keep Kq5
  have KK5 := K1.trans Kq5 (allS (Or.inr sz1) all0)
  have Z5 : n0 ≤ T5.heap.size := Nat.le_trans Z1 Kq5.1
  have N5 := Fr.app N0 Nq5
  have pre5 : Steps p.tables e below (s₁.setTop (entryFrame m #[(.long x0), (.long x1), (.long x2), (.long x3), (.int x4)] maxLocals)) (T5.setTop (mkF m 10 #[.val (.long x0), .second, .val (.long x1), .second, .val (.long x2), .second, .val (.long x3), .second, .val (.int x4), .unset, .unset, .unset, .unset, .unset, .unset, .unset, .unset, .unset, .unset, .unset, .unset, .unset, .unset, .unset] [(.ref b1)])) := pre4.trans st5
  obtain ⟨cq9, kq9, q9a, q9b, q9c⟩ := isOf hZ rfl F6
  obtain ⟨_, _, ⟨T9, L9, k9, n9⟩, -, X9, ⟨Lc9, hQ9, l9, y9, z9⟩, st9⟩ := X5.virtualBack hx (y := (⟨"com/example/nestmine/nestmine/Conformance$Score", "value", "()D"⟩ : MethodName)) (z := (⟨"com/example/nestmine/nestmine/Conformance$Score", "value", "()D"⟩ : MethodName)) hown (mvT hZ (hw _ (List.mem_of_getElem? (i := 18) rfl))) (mvT hZ (hw _ (List.mem_of_getElem? (i := 19) rfl))) (notFace_of_selects (args := #[]) (mvT hZ (hw _ (List.mem_of_getElem? (i := 21) rfl)))) (mvT hZ (hw _ (List.mem_of_getElem? (i := 21) rfl))) (mvT hZ (hw _ (List.mem_of_getElem? (i := 20) rfl))) (by decide) (backOf (W := 0) (rm3 l Z a0 hw [] b1 x3 (0 : Int64) T5.heap n0 Z5 P5_1 P5_2) hZ (hw _ (List.mem_of_getElem? (i := 22) rfl)) (hw _ (List.mem_of_getElem? (i := 2) rfl)) (by decide) (by decide)) q9a q9c (g := (mkF m 10 #[.val (.long x0), .second, .val (.long x1), .second, .val (.long x2), .second, .val (.long x3), .second, .val (.int x4), .unset, .unset, .unset, .unset, .unset, .unset, .unset, .unset, .unset, .unset, .unset, .unset, .unset, .unset, .unset] [(.ref b1)])) rfl (by rw [hml]; rfl) (Steps.refl _) (argsL := []) (rest := []) (lenOf pd0_1 rfl) rfl (by show 2 * 0 + _ ≤ _; exact Nat.le_of_eq rfl) (hb hby at_10) (fun _ _ => ⟨rfl, rfl, (by decide : 1 + 0 ≤ _), (by decide : 2 + 0 ≤ _)⟩)
  dsimp only [Pt.U, Pt.locs, Pt.cells, Pt.slots] at X9 l9 y9 z9 st9 hQ9
  subst l9 y9 z9
  obtain ⟨rfl, Nq9, e9⟩ := hQ9
  have N9 := Fr.app N5 Nq9
  have pre9 : Steps p.tables e below (s₁.setTop (entryFrame m #[(.long x0), (.long x1), (.long x2), (.long x3), (.int x4)] maxLocals)) (T9.setTop (mkF m 13 #[.val (.long x0), .second, .val (.long x1), .second, .val (.long x2), .second, .val (.long x3), .second, .val (.int x4), .unset, .unset, .unset, .unset, .unset, .unset, .unset, .unset, .unset, .unset, .unset, .unset, .unset, .unset, .unset] [(.double (own_F3 b1 x3 (0 : Int64)))])) := pre5.trans st9
  obtain ⟨v10, hv10⟩ : ∃ z : Int32, z = (cmpValue (FP.dcmp (own_F3 b1 x3 (0 : Int64)) own_d1) .l) := ⟨_, rfl⟩
  have st11 : Steps p.tables e below (T9.setTop (mkF m 13 #[.val (.long x0), .second, .val (.long x1), .second, .val (.long x2), .second, .val (.long x3), .second, .val (.int x4), .unset, .unset, .unset, .unset, .unset, .unset, .unset, .unset, .unset, .unset, .unset, .unset, .unset, .unset, .unset] [(.double (own_F3 b1 x3 (0 : Int64)))])) (T9.setTop (mkF m 15 #[.val (.long x0), .second, .val (.long x1), .second, .val (.long x2), .second, .val (.long x3), .second, .val (.int x4), .unset, .unset, .unset, .unset, .unset, .unset, .unset, .unset, .unset, .unset, .unset, .unset, .unset, .unset, .unset] [(.int v10)])) := by
    subst v10
    refine XS.dconst1 X9.here hx rfl (hb hby at_13) (v := own_d1) rfl ?_
    show Steps p.tables e below (T9.setTop (mkF m 14 #[.val (.long x0), .second, .val (.long x1), .second, .val (.long x2), .second, .val (.long x3), .second, .val (.int x4), .unset, .unset, .unset, .unset, .unset, .unset, .unset, .unset, .unset, .unset, .unset, .unset, .unset, .unset, .unset] [(.double own_d1), (.double (own_F3 b1 x3 (0 : Int64)))])) _
    refine XS.dcmpS X9.here hx rfl (hb hby at_14) rfl rfl ?_
    show Steps p.tables e below (T9.setTop (mkF m 15 #[.val (.long x0), .second, .val (.long x1), .second, .val (.long x2), .second, .val (.long x3), .second, .val (.int x4), .unset, .unset, .unset, .unset, .unset, .unset, .unset, .unset, .unset, .unset, .unset, .unset, .unset, .unset, .unset] [(.int (cmpValue (FP.dcmp (own_F3 b1 x3 (0 : Int64)) own_d1) .l))])) _
    exact Steps.refl _
  have pre11 := pre9.trans st11
  have hc15 : v10 = (0 : Int32) := by
    rw [hv10]
    exact own_15 _ _
  have st12 : Steps p.tables e below (T9.setTop (mkF m 15 #[.val (.long x0), .second, .val (.long x1), .second, .val (.long x2), .second, .val (.long x3), .second, .val (.int x4), .unset, .unset, .unset, .unset, .unset, .unset, .unset, .unset, .unset, .unset, .unset, .unset, .unset, .unset, .unset] [(.int v10)])) (T9.setTop (mkF m 18 #[.val (.long x0), .second, .val (.long x1), .second, .val (.long x2), .second, .val (.long x3), .second, .val (.int x4), .unset, .unset, .unset, .unset, .unset, .unset, .unset, .unset, .unset, .unset, .unset, .unset, .unset, .unset, .unset] [])) := by
    refine XS.ifNo X9.here hx rfl (hb hby at_15) rfl ((if0 _ _).trans (teq hc15).2) ?_
    exact Steps.refl _
  have pre12 := pre11.trans st12
  obtain ⟨v13, hv13⟩ : ∃ z : Int64, z = (((x0.toUInt64 >>> ((2 : Int32) &&& 0x3f).toInt64.toUInt64).toInt64) + (1 : Int64)) := ⟨_, rfl⟩
  obtain ⟨v14, hv14⟩ : ∃ z : Int64, z = ((x1 &&& (9223372036854775807 : Int64)) - ((x1 &&& (9223372036854775807 : Int64)) / (v13 + (1 : Int64))) * (v13 + (1 : Int64))) := ⟨_, rfl⟩
  obtain ⟨v15, hv15⟩ : ∃ z : Int64, z = ((x2 &&& (9223372036854775807 : Int64)) - ((x2 &&& (9223372036854775807 : Int64)) / (v13 + (1 : Int64))) * (v13 + (1 : Int64))) := ⟨_, rfl⟩
  have st16 : Steps p.tables e below (T9.setTop (mkF m 18 #[.val (.long x0), .second, .val (.long x1), .second, .val (.long x2), .second, .val (.long x3), .second, .val (.int x4), .unset, .unset, .unset, .unset, .unset, .unset, .unset, .unset, .unset, .unset, .unset, .unset, .unset, .unset, .unset] [])) (T9.setTop (mkF m 57 #[.val (.long x0), .second, .val (.long x1), .second, .val (.long x2), .second, .val (.long x3), .second, .val (.int x4), .val (.int (1 : Int32)), .val (.long v13), .second, .val (.long v14), .second, .val (.long v15), .second, .unset, .unset, .unset, .unset, .unset, .unset, .unset, .unset] [])) := by
    subst v15 v14 v13
    refine XS.iconst X9.here hx rfl (hb hby at_18) ?_
    show Steps p.tables e below (T9.setTop (mkF m 19 #[.val (.long x0), .second, .val (.long x1), .second, .val (.long x2), .second, .val (.long x3), .second, .val (.int x4), .unset, .unset, .unset, .unset, .unset, .unset, .unset, .unset, .unset, .unset, .unset, .unset, .unset, .unset, .unset] [(.int (1 : Int32))])) _
    refine XS.goto X9.here hx rfl (pc0 := 19) (pc' := 23) rfl (hb hby at_19) (by decide) (by decide) ?_
    show Steps p.tables e below (T9.setTop (mkF m 23 #[.val (.long x0), .second, .val (.long x1), .second, .val (.long x2), .second, .val (.long x3), .second, .val (.int x4), .unset, .unset, .unset, .unset, .unset, .unset, .unset, .unset, .unset, .unset, .unset, .unset, .unset, .unset, .unset] [(.int (1 : Int32))])) _
    refine XS.istore X9.here hx rfl (hb hby at_23) rfl (l' := #[.val (.long x0), .second, .val (.long x1), .second, .val (.long x2), .second, .val (.long x3), .second, .val (.int x4), .val (.int (1 : Int32)), .unset, .unset, .unset, .unset, .unset, .unset, .unset, .unset, .unset, .unset, .unset, .unset, .unset, .unset]) rfl ?_
    show Steps p.tables e below (T9.setTop (mkF m 25 #[.val (.long x0), .second, .val (.long x1), .second, .val (.long x2), .second, .val (.long x3), .second, .val (.int x4), .val (.int (1 : Int32)), .unset, .unset, .unset, .unset, .unset, .unset, .unset, .unset, .unset, .unset, .unset, .unset, .unset, .unset] [])) _
    refine XS.lloadN X9.here hx rfl (hb hby at_25) rfl ?_
    show Steps p.tables e below (T9.setTop (mkF m 26 #[.val (.long x0), .second, .val (.long x1), .second, .val (.long x2), .second, .val (.long x3), .second, .val (.int x4), .val (.int (1 : Int32)), .unset, .unset, .unset, .unset, .unset, .unset, .unset, .unset, .unset, .unset, .unset, .unset, .unset, .unset] [(.long x0)])) _
    refine XS.iconst X9.here hx rfl (hb hby at_26) ?_
    show Steps p.tables e below (T9.setTop (mkF m 27 #[.val (.long x0), .second, .val (.long x1), .second, .val (.long x2), .second, .val (.long x3), .second, .val (.int x4), .val (.int (1 : Int32)), .unset, .unset, .unset, .unset, .unset, .unset, .unset, .unset, .unset, .unset, .unset, .unset, .unset, .unset] [(.int (2 : Int32)), (.long x0)])) _
    refine XS.lushr X9.here hx rfl (hb hby at_27) rfl ?_
    show Steps p.tables e below (T9.setTop (mkF m 28 #[.val (.long x0), .second, .val (.long x1), .second, .val (.long x2), .second, .val (.long x3), .second, .val (.int x4), .val (.int (1 : Int32)), .unset, .unset, .unset, .unset, .unset, .unset, .unset, .unset, .unset, .unset, .unset, .unset, .unset, .unset] [(.long ((x0.toUInt64 >>> ((2 : Int32) &&& 0x3f).toInt64.toUInt64).toInt64))])) _
    refine XS.lconst X9.here hx rfl (hb hby at_28) ?_
    show Steps p.tables e below (T9.setTop (mkF m 29 #[.val (.long x0), .second, .val (.long x1), .second, .val (.long x2), .second, .val (.long x3), .second, .val (.int x4), .val (.int (1 : Int32)), .unset, .unset, .unset, .unset, .unset, .unset, .unset, .unset, .unset, .unset, .unset, .unset, .unset, .unset] [(.long (1 : Int64)), (.long ((x0.toUInt64 >>> ((2 : Int32) &&& 0x3f).toInt64.toUInt64).toInt64))])) _
    refine XS.ladd X9.here hx rfl (hb hby at_29) rfl ?_
    show Steps p.tables e below (T9.setTop (mkF m 30 #[.val (.long x0), .second, .val (.long x1), .second, .val (.long x2), .second, .val (.long x3), .second, .val (.int x4), .val (.int (1 : Int32)), .unset, .unset, .unset, .unset, .unset, .unset, .unset, .unset, .unset, .unset, .unset, .unset, .unset, .unset] [(.long (((x0.toUInt64 >>> ((2 : Int32) &&& 0x3f).toInt64.toUInt64).toInt64) + (1 : Int64)))])) _
    refine XS.lstore X9.here hx rfl (hb hby at_30) rfl (l' := #[.val (.long x0), .second, .val (.long x1), .second, .val (.long x2), .second, .val (.long x3), .second, .val (.int x4), .val (.int (1 : Int32)), .val (.long (((x0.toUInt64 >>> ((2 : Int32) &&& 0x3f).toInt64.toUInt64).toInt64) + (1 : Int64))), .second, .unset, .unset, .unset, .unset, .unset, .unset, .unset, .unset, .unset, .unset, .unset, .unset]) rfl ?_
    show Steps p.tables e below (T9.setTop (mkF m 32 #[.val (.long x0), .second, .val (.long x1), .second, .val (.long x2), .second, .val (.long x3), .second, .val (.int x4), .val (.int (1 : Int32)), .val (.long (((x0.toUInt64 >>> ((2 : Int32) &&& 0x3f).toInt64.toUInt64).toInt64) + (1 : Int64))), .second, .unset, .unset, .unset, .unset, .unset, .unset, .unset, .unset, .unset, .unset, .unset, .unset] [])) _
    refine XS.lloadN X9.here hx rfl (hb hby at_32) rfl ?_
    show Steps p.tables e below (T9.setTop (mkF m 33 #[.val (.long x0), .second, .val (.long x1), .second, .val (.long x2), .second, .val (.long x3), .second, .val (.int x4), .val (.int (1 : Int32)), .val (.long (((x0.toUInt64 >>> ((2 : Int32) &&& 0x3f).toInt64.toUInt64).toInt64) + (1 : Int64))), .second, .unset, .unset, .unset, .unset, .unset, .unset, .unset, .unset, .unset, .unset, .unset, .unset] [(.long x1)])) _
    refine X9.ldc2Long hx hown (mvT hZ (hw _ (List.mem_of_getElem? (i := 23) rfl))) (g := (mkF m 33 #[.val (.long x0), .second, .val (.long x1), .second, .val (.long x2), .second, .val (.long x3), .second, .val (.int x4), .val (.int (1 : Int32)), .val (.long (((x0.toUInt64 >>> ((2 : Int32) &&& 0x3f).toInt64.toUInt64).toInt64) + (1 : Int64))), .second, .unset, .unset, .unset, .unset, .unset, .unset, .unset, .unset, .unset, .unset, .unset, .unset] [(.long x1)])) rfl (hb hby at_33) _ ?_
    show Steps p.tables e below (T9.setTop (mkF m 36 #[.val (.long x0), .second, .val (.long x1), .second, .val (.long x2), .second, .val (.long x3), .second, .val (.int x4), .val (.int (1 : Int32)), .val (.long (((x0.toUInt64 >>> ((2 : Int32) &&& 0x3f).toInt64.toUInt64).toInt64) + (1 : Int64))), .second, .unset, .unset, .unset, .unset, .unset, .unset, .unset, .unset, .unset, .unset, .unset, .unset] [(.long (9223372036854775807 : Int64)), (.long x1)])) _
    refine XS.land X9.here hx rfl (hb hby at_36) rfl ?_
    show Steps p.tables e below (T9.setTop (mkF m 37 #[.val (.long x0), .second, .val (.long x1), .second, .val (.long x2), .second, .val (.long x3), .second, .val (.int x4), .val (.int (1 : Int32)), .val (.long (((x0.toUInt64 >>> ((2 : Int32) &&& 0x3f).toInt64.toUInt64).toInt64) + (1 : Int64))), .second, .unset, .unset, .unset, .unset, .unset, .unset, .unset, .unset, .unset, .unset, .unset, .unset] [(.long (x1 &&& (9223372036854775807 : Int64)))])) _
    refine XS.lload X9.here hx rfl (hb hby at_37) rfl ?_
    show Steps p.tables e below (T9.setTop (mkF m 39 #[.val (.long x0), .second, .val (.long x1), .second, .val (.long x2), .second, .val (.long x3), .second, .val (.int x4), .val (.int (1 : Int32)), .val (.long (((x0.toUInt64 >>> ((2 : Int32) &&& 0x3f).toInt64.toUInt64).toInt64) + (1 : Int64))), .second, .unset, .unset, .unset, .unset, .unset, .unset, .unset, .unset, .unset, .unset, .unset, .unset] [(.long (((x0.toUInt64 >>> ((2 : Int32) &&& 0x3f).toInt64.toUInt64).toInt64) + (1 : Int64))), (.long (x1 &&& (9223372036854775807 : Int64)))])) _
    refine XS.lconst X9.here hx rfl (hb hby at_39) ?_
    show Steps p.tables e below (T9.setTop (mkF m 40 #[.val (.long x0), .second, .val (.long x1), .second, .val (.long x2), .second, .val (.long x3), .second, .val (.int x4), .val (.int (1 : Int32)), .val (.long (((x0.toUInt64 >>> ((2 : Int32) &&& 0x3f).toInt64.toUInt64).toInt64) + (1 : Int64))), .second, .unset, .unset, .unset, .unset, .unset, .unset, .unset, .unset, .unset, .unset, .unset, .unset] [(.long (1 : Int64)), (.long (((x0.toUInt64 >>> ((2 : Int32) &&& 0x3f).toInt64.toUInt64).toInt64) + (1 : Int64))), (.long (x1 &&& (9223372036854775807 : Int64)))])) _
    refine XS.ladd X9.here hx rfl (hb hby at_40) rfl ?_
    show Steps p.tables e below (T9.setTop (mkF m 41 #[.val (.long x0), .second, .val (.long x1), .second, .val (.long x2), .second, .val (.long x3), .second, .val (.int x4), .val (.int (1 : Int32)), .val (.long (((x0.toUInt64 >>> ((2 : Int32) &&& 0x3f).toInt64.toUInt64).toInt64) + (1 : Int64))), .second, .unset, .unset, .unset, .unset, .unset, .unset, .unset, .unset, .unset, .unset, .unset, .unset] [(.long ((((x0.toUInt64 >>> ((2 : Int32) &&& 0x3f).toInt64.toUInt64).toInt64) + (1 : Int64)) + (1 : Int64))), (.long (x1 &&& (9223372036854775807 : Int64)))])) _
    refine XS.lrem X9.here hx rfl (hb hby at_41) rfl (own_nz _) ?_
    show Steps p.tables e below (T9.setTop (mkF m 42 #[.val (.long x0), .second, .val (.long x1), .second, .val (.long x2), .second, .val (.long x3), .second, .val (.int x4), .val (.int (1 : Int32)), .val (.long (((x0.toUInt64 >>> ((2 : Int32) &&& 0x3f).toInt64.toUInt64).toInt64) + (1 : Int64))), .second, .unset, .unset, .unset, .unset, .unset, .unset, .unset, .unset, .unset, .unset, .unset, .unset] [(.long ((x1 &&& (9223372036854775807 : Int64)) - ((x1 &&& (9223372036854775807 : Int64)) / ((((x0.toUInt64 >>> ((2 : Int32) &&& 0x3f).toInt64.toUInt64).toInt64) + (1 : Int64)) + (1 : Int64))) * ((((x0.toUInt64 >>> ((2 : Int32) &&& 0x3f).toInt64.toUInt64).toInt64) + (1 : Int64)) + (1 : Int64))))])) _
    refine XS.lstore X9.here hx rfl (hb hby at_42) rfl (l' := #[.val (.long x0), .second, .val (.long x1), .second, .val (.long x2), .second, .val (.long x3), .second, .val (.int x4), .val (.int (1 : Int32)), .val (.long (((x0.toUInt64 >>> ((2 : Int32) &&& 0x3f).toInt64.toUInt64).toInt64) + (1 : Int64))), .second, .val (.long ((x1 &&& (9223372036854775807 : Int64)) - ((x1 &&& (9223372036854775807 : Int64)) / ((((x0.toUInt64 >>> ((2 : Int32) &&& 0x3f).toInt64.toUInt64).toInt64) + (1 : Int64)) + (1 : Int64))) * ((((x0.toUInt64 >>> ((2 : Int32) &&& 0x3f).toInt64.toUInt64).toInt64) + (1 : Int64)) + (1 : Int64)))), .second, .unset, .unset, .unset, .unset, .unset, .unset, .unset, .unset, .unset, .unset]) rfl ?_
    show Steps p.tables e below (T9.setTop (mkF m 44 #[.val (.long x0), .second, .val (.long x1), .second, .val (.long x2), .second, .val (.long x3), .second, .val (.int x4), .val (.int (1 : Int32)), .val (.long (((x0.toUInt64 >>> ((2 : Int32) &&& 0x3f).toInt64.toUInt64).toInt64) + (1 : Int64))), .second, .val (.long ((x1 &&& (9223372036854775807 : Int64)) - ((x1 &&& (9223372036854775807 : Int64)) / ((((x0.toUInt64 >>> ((2 : Int32) &&& 0x3f).toInt64.toUInt64).toInt64) + (1 : Int64)) + (1 : Int64))) * ((((x0.toUInt64 >>> ((2 : Int32) &&& 0x3f).toInt64.toUInt64).toInt64) + (1 : Int64)) + (1 : Int64)))), .second, .unset, .unset, .unset, .unset, .unset, .unset, .unset, .unset, .unset, .unset] [])) _
    refine XS.lload X9.here hx rfl (hb hby at_44) rfl ?_
    show Steps p.tables e below (T9.setTop (mkF m 46 #[.val (.long x0), .second, .val (.long x1), .second, .val (.long x2), .second, .val (.long x3), .second, .val (.int x4), .val (.int (1 : Int32)), .val (.long (((x0.toUInt64 >>> ((2 : Int32) &&& 0x3f).toInt64.toUInt64).toInt64) + (1 : Int64))), .second, .val (.long ((x1 &&& (9223372036854775807 : Int64)) - ((x1 &&& (9223372036854775807 : Int64)) / ((((x0.toUInt64 >>> ((2 : Int32) &&& 0x3f).toInt64.toUInt64).toInt64) + (1 : Int64)) + (1 : Int64))) * ((((x0.toUInt64 >>> ((2 : Int32) &&& 0x3f).toInt64.toUInt64).toInt64) + (1 : Int64)) + (1 : Int64)))), .second, .unset, .unset, .unset, .unset, .unset, .unset, .unset, .unset, .unset, .unset] [(.long x2)])) _
    refine X9.ldc2Long hx hown (mvT hZ (hw _ (List.mem_of_getElem? (i := 23) rfl))) (g := (mkF m 46 #[.val (.long x0), .second, .val (.long x1), .second, .val (.long x2), .second, .val (.long x3), .second, .val (.int x4), .val (.int (1 : Int32)), .val (.long (((x0.toUInt64 >>> ((2 : Int32) &&& 0x3f).toInt64.toUInt64).toInt64) + (1 : Int64))), .second, .val (.long ((x1 &&& (9223372036854775807 : Int64)) - ((x1 &&& (9223372036854775807 : Int64)) / ((((x0.toUInt64 >>> ((2 : Int32) &&& 0x3f).toInt64.toUInt64).toInt64) + (1 : Int64)) + (1 : Int64))) * ((((x0.toUInt64 >>> ((2 : Int32) &&& 0x3f).toInt64.toUInt64).toInt64) + (1 : Int64)) + (1 : Int64)))), .second, .unset, .unset, .unset, .unset, .unset, .unset, .unset, .unset, .unset, .unset] [(.long x2)])) rfl (hb hby at_46) _ ?_
    show Steps p.tables e below (T9.setTop (mkF m 49 #[.val (.long x0), .second, .val (.long x1), .second, .val (.long x2), .second, .val (.long x3), .second, .val (.int x4), .val (.int (1 : Int32)), .val (.long (((x0.toUInt64 >>> ((2 : Int32) &&& 0x3f).toInt64.toUInt64).toInt64) + (1 : Int64))), .second, .val (.long ((x1 &&& (9223372036854775807 : Int64)) - ((x1 &&& (9223372036854775807 : Int64)) / ((((x0.toUInt64 >>> ((2 : Int32) &&& 0x3f).toInt64.toUInt64).toInt64) + (1 : Int64)) + (1 : Int64))) * ((((x0.toUInt64 >>> ((2 : Int32) &&& 0x3f).toInt64.toUInt64).toInt64) + (1 : Int64)) + (1 : Int64)))), .second, .unset, .unset, .unset, .unset, .unset, .unset, .unset, .unset, .unset, .unset] [(.long (9223372036854775807 : Int64)), (.long x2)])) _
    refine XS.land X9.here hx rfl (hb hby at_49) rfl ?_
    show Steps p.tables e below (T9.setTop (mkF m 50 #[.val (.long x0), .second, .val (.long x1), .second, .val (.long x2), .second, .val (.long x3), .second, .val (.int x4), .val (.int (1 : Int32)), .val (.long (((x0.toUInt64 >>> ((2 : Int32) &&& 0x3f).toInt64.toUInt64).toInt64) + (1 : Int64))), .second, .val (.long ((x1 &&& (9223372036854775807 : Int64)) - ((x1 &&& (9223372036854775807 : Int64)) / ((((x0.toUInt64 >>> ((2 : Int32) &&& 0x3f).toInt64.toUInt64).toInt64) + (1 : Int64)) + (1 : Int64))) * ((((x0.toUInt64 >>> ((2 : Int32) &&& 0x3f).toInt64.toUInt64).toInt64) + (1 : Int64)) + (1 : Int64)))), .second, .unset, .unset, .unset, .unset, .unset, .unset, .unset, .unset, .unset, .unset] [(.long (x2 &&& (9223372036854775807 : Int64)))])) _
    refine XS.lload X9.here hx rfl (hb hby at_50) rfl ?_
    show Steps p.tables e below (T9.setTop (mkF m 52 #[.val (.long x0), .second, .val (.long x1), .second, .val (.long x2), .second, .val (.long x3), .second, .val (.int x4), .val (.int (1 : Int32)), .val (.long (((x0.toUInt64 >>> ((2 : Int32) &&& 0x3f).toInt64.toUInt64).toInt64) + (1 : Int64))), .second, .val (.long ((x1 &&& (9223372036854775807 : Int64)) - ((x1 &&& (9223372036854775807 : Int64)) / ((((x0.toUInt64 >>> ((2 : Int32) &&& 0x3f).toInt64.toUInt64).toInt64) + (1 : Int64)) + (1 : Int64))) * ((((x0.toUInt64 >>> ((2 : Int32) &&& 0x3f).toInt64.toUInt64).toInt64) + (1 : Int64)) + (1 : Int64)))), .second, .unset, .unset, .unset, .unset, .unset, .unset, .unset, .unset, .unset, .unset] [(.long (((x0.toUInt64 >>> ((2 : Int32) &&& 0x3f).toInt64.toUInt64).toInt64) + (1 : Int64))), (.long (x2 &&& (9223372036854775807 : Int64)))])) _
    refine XS.lconst X9.here hx rfl (hb hby at_52) ?_
    show Steps p.tables e below (T9.setTop (mkF m 53 #[.val (.long x0), .second, .val (.long x1), .second, .val (.long x2), .second, .val (.long x3), .second, .val (.int x4), .val (.int (1 : Int32)), .val (.long (((x0.toUInt64 >>> ((2 : Int32) &&& 0x3f).toInt64.toUInt64).toInt64) + (1 : Int64))), .second, .val (.long ((x1 &&& (9223372036854775807 : Int64)) - ((x1 &&& (9223372036854775807 : Int64)) / ((((x0.toUInt64 >>> ((2 : Int32) &&& 0x3f).toInt64.toUInt64).toInt64) + (1 : Int64)) + (1 : Int64))) * ((((x0.toUInt64 >>> ((2 : Int32) &&& 0x3f).toInt64.toUInt64).toInt64) + (1 : Int64)) + (1 : Int64)))), .second, .unset, .unset, .unset, .unset, .unset, .unset, .unset, .unset, .unset, .unset] [(.long (1 : Int64)), (.long (((x0.toUInt64 >>> ((2 : Int32) &&& 0x3f).toInt64.toUInt64).toInt64) + (1 : Int64))), (.long (x2 &&& (9223372036854775807 : Int64)))])) _
    refine XS.ladd X9.here hx rfl (hb hby at_53) rfl ?_
    show Steps p.tables e below (T9.setTop (mkF m 54 #[.val (.long x0), .second, .val (.long x1), .second, .val (.long x2), .second, .val (.long x3), .second, .val (.int x4), .val (.int (1 : Int32)), .val (.long (((x0.toUInt64 >>> ((2 : Int32) &&& 0x3f).toInt64.toUInt64).toInt64) + (1 : Int64))), .second, .val (.long ((x1 &&& (9223372036854775807 : Int64)) - ((x1 &&& (9223372036854775807 : Int64)) / ((((x0.toUInt64 >>> ((2 : Int32) &&& 0x3f).toInt64.toUInt64).toInt64) + (1 : Int64)) + (1 : Int64))) * ((((x0.toUInt64 >>> ((2 : Int32) &&& 0x3f).toInt64.toUInt64).toInt64) + (1 : Int64)) + (1 : Int64)))), .second, .unset, .unset, .unset, .unset, .unset, .unset, .unset, .unset, .unset, .unset] [(.long ((((x0.toUInt64 >>> ((2 : Int32) &&& 0x3f).toInt64.toUInt64).toInt64) + (1 : Int64)) + (1 : Int64))), (.long (x2 &&& (9223372036854775807 : Int64)))])) _
    refine XS.lrem X9.here hx rfl (hb hby at_54) rfl (own_nz _) ?_
    show Steps p.tables e below (T9.setTop (mkF m 55 #[.val (.long x0), .second, .val (.long x1), .second, .val (.long x2), .second, .val (.long x3), .second, .val (.int x4), .val (.int (1 : Int32)), .val (.long (((x0.toUInt64 >>> ((2 : Int32) &&& 0x3f).toInt64.toUInt64).toInt64) + (1 : Int64))), .second, .val (.long ((x1 &&& (9223372036854775807 : Int64)) - ((x1 &&& (9223372036854775807 : Int64)) / ((((x0.toUInt64 >>> ((2 : Int32) &&& 0x3f).toInt64.toUInt64).toInt64) + (1 : Int64)) + (1 : Int64))) * ((((x0.toUInt64 >>> ((2 : Int32) &&& 0x3f).toInt64.toUInt64).toInt64) + (1 : Int64)) + (1 : Int64)))), .second, .unset, .unset, .unset, .unset, .unset, .unset, .unset, .unset, .unset, .unset] [(.long ((x2 &&& (9223372036854775807 : Int64)) - ((x2 &&& (9223372036854775807 : Int64)) / ((((x0.toUInt64 >>> ((2 : Int32) &&& 0x3f).toInt64.toUInt64).toInt64) + (1 : Int64)) + (1 : Int64))) * ((((x0.toUInt64 >>> ((2 : Int32) &&& 0x3f).toInt64.toUInt64).toInt64) + (1 : Int64)) + (1 : Int64))))])) _
    refine XS.lstore X9.here hx rfl (hb hby at_55) rfl (l' := #[.val (.long x0), .second, .val (.long x1), .second, .val (.long x2), .second, .val (.long x3), .second, .val (.int x4), .val (.int (1 : Int32)), .val (.long (((x0.toUInt64 >>> ((2 : Int32) &&& 0x3f).toInt64.toUInt64).toInt64) + (1 : Int64))), .second, .val (.long ((x1 &&& (9223372036854775807 : Int64)) - ((x1 &&& (9223372036854775807 : Int64)) / ((((x0.toUInt64 >>> ((2 : Int32) &&& 0x3f).toInt64.toUInt64).toInt64) + (1 : Int64)) + (1 : Int64))) * ((((x0.toUInt64 >>> ((2 : Int32) &&& 0x3f).toInt64.toUInt64).toInt64) + (1 : Int64)) + (1 : Int64)))), .second, .val (.long ((x2 &&& (9223372036854775807 : Int64)) - ((x2 &&& (9223372036854775807 : Int64)) / ((((x0.toUInt64 >>> ((2 : Int32) &&& 0x3f).toInt64.toUInt64).toInt64) + (1 : Int64)) + (1 : Int64))) * ((((x0.toUInt64 >>> ((2 : Int32) &&& 0x3f).toInt64.toUInt64).toInt64) + (1 : Int64)) + (1 : Int64)))), .second, .unset, .unset, .unset, .unset, .unset, .unset, .unset, .unset]) rfl ?_
    show Steps p.tables e below (T9.setTop (mkF m 57 #[.val (.long x0), .second, .val (.long x1), .second, .val (.long x2), .second, .val (.long x3), .second, .val (.int x4), .val (.int (1 : Int32)), .val (.long (((x0.toUInt64 >>> ((2 : Int32) &&& 0x3f).toInt64.toUInt64).toInt64) + (1 : Int64))), .second, .val (.long ((x1 &&& (9223372036854775807 : Int64)) - ((x1 &&& (9223372036854775807 : Int64)) / ((((x0.toUInt64 >>> ((2 : Int32) &&& 0x3f).toInt64.toUInt64).toInt64) + (1 : Int64)) + (1 : Int64))) * ((((x0.toUInt64 >>> ((2 : Int32) &&& 0x3f).toInt64.toUInt64).toInt64) + (1 : Int64)) + (1 : Int64)))), .second, .val (.long ((x2 &&& (9223372036854775807 : Int64)) - ((x2 &&& (9223372036854775807 : Int64)) / ((((x0.toUInt64 >>> ((2 : Int32) &&& 0x3f).toInt64.toUInt64).toInt64) + (1 : Int64)) + (1 : Int64))) * ((((x0.toUInt64 >>> ((2 : Int32) &&& 0x3f).toInt64.toUInt64).toInt64) + (1 : Int64)) + (1 : Int64)))), .second, .unset, .unset, .unset, .unset, .unset, .unset, .unset, .unset] [])) _
    exact Steps.refl _
  have pre16 := pre12.trans st16
  have hP1 : own_P v14 v13 := own_l1 hv13 hv14
  have hP2 : own_P v15 v13 := own_l1 hv13 hv15
  obtain ⟨T17, h17, X17, e17, E17, A17, D17, -, st17⟩ := newO X9 hx hZ hown (hw _ (List.mem_of_getElem? (i := 0) rfl)) (hw _ (List.mem_of_getElem? (i := 1) rfl)) (hw _ (List.mem_of_getElem? (i := 2) rfl)) e9 (g := (mkF m 57 #[.val (.long x0), .second, .val (.long x1), .second, .val (.long x2), .second, .val (.long x3), .second, .val (.int x4), .val (.int (1 : Int32)), .val (.long v13), .second, .val (.long v14), .second, .val (.long v15), .second, .unset, .unset, .unset, .unset, .unset, .unset, .unset, .unset] [])) rfl (hb hby at_57) (by decide) (by decide)
  obtain ⟨b17, g17⟩ : ∃ z, z = T5.heap.size := ⟨_, rfl⟩
  rw [← g17] at A17 D17 st17
  have pre17 : Steps p.tables e below (s₁.setTop (entryFrame m #[(.long x0), (.long x1), (.long x2), (.long x3), (.int x4)] maxLocals)) (T17.setTop (mkF m 60 #[.val (.long x0), .second, .val (.long x1), .second, .val (.long x2), .second, .val (.long x3), .second, .val (.int x4), .val (.int (1 : Int32)), .val (.long v13), .second, .val (.long v14), .second, .val (.long v15), .second, .unset, .unset, .unset, .unset, .unset, .unset, .unset, .unset] [(.ref b17)])) := pre16.trans (st17 _ (Steps.refl _))
  have gn17 : n0 ≤ b17 := Nat.le_trans Z5 (Nat.le_of_eq g17.symm)
  have sz17 : h0.size ≤ b17 := Nat.le_trans KK5.1 (Nat.le_of_eq g17.symm)
  have neb1_b17 : b1 ≠ b17 := Nat.ne_of_lt (Nat.lt_of_lt_of_le F6.lt (Nat.le_of_eq g17.symm))
  have F18 : Exa Z h17 b1 "com/example/nestmine/nestmine/Conformance$Score" := F6.ext E17
  have F19 : Exa Z h17 b1 "com/example/nestmine/nestmine/Conformance$Score" := P5_0.ext E17
  have F20 : Fld Z h17 b1 "com/example/nestmine/nestmine/Conformance$Score" "lost" "J" (.long x3) := P5_1.ext E17
  have F21 : Fld Z h17 b1 "com/example/nestmine/nestmine/Conformance$Score" "possible" "J" (.long (0 : Int64)) := P5_2.ext E17
  have K17 := KK5.ext E17
  have Z17 : n0 ≤ h17.size := Nat.le_trans Z5 E17.1
  have F22 : Fld Z h17 b17 "com/example/nestmine/nestmine/Conformance$Score" "lost" "J" (.long (0 : Int64)) := D17 (Or.inr (hw _ (List.mem_of_getElem? (i := 15) rfl))) (ty := .long) (by decide)
  have F23 : Fld Z h17 b17 "com/example/nestmine/nestmine/Conformance$Score" "possible" "J" (.long (0 : Int64)) := D17 (Or.inr (hw _ (List.mem_of_getElem? (i := 17) rfl))) (ty := .long) (by decide)
  have st24 : Steps p.tables e below (T17.setTop (mkF m 60 #[.val (.long x0), .second, .val (.long x1), .second, .val (.long x2), .second, .val (.long x3), .second, .val (.int x4), .val (.int (1 : Int32)), .val (.long v13), .second, .val (.long v14), .second, .val (.long v15), .second, .unset, .unset, .unset, .unset, .unset, .unset, .unset, .unset] [(.ref b17)])) (T17.setTop (mkF m 65 #[.val (.long x0), .second, .val (.long x1), .second, .val (.long x2), .second, .val (.long x3), .second, .val (.int x4), .val (.int (1 : Int32)), .val (.long v13), .second, .val (.long v14), .second, .val (.long v15), .second, .unset, .unset, .unset, .unset, .unset, .unset, .unset, .unset] [(.long v13), (.long v14), (.ref b17), (.ref b17)])) := by
    refine XS.dup X17.here hx rfl (hb hby at_60) rfl rfl ?_
    show Steps p.tables e below (T17.setTop (mkF m 61 #[.val (.long x0), .second, .val (.long x1), .second, .val (.long x2), .second, .val (.long x3), .second, .val (.int x4), .val (.int (1 : Int32)), .val (.long v13), .second, .val (.long v14), .second, .val (.long v15), .second, .unset, .unset, .unset, .unset, .unset, .unset, .unset, .unset] [(.ref b17), (.ref b17)])) _
    refine XS.lload X17.here hx rfl (hb hby at_61) rfl ?_
    show Steps p.tables e below (T17.setTop (mkF m 63 #[.val (.long x0), .second, .val (.long x1), .second, .val (.long x2), .second, .val (.long x3), .second, .val (.int x4), .val (.int (1 : Int32)), .val (.long v13), .second, .val (.long v14), .second, .val (.long v15), .second, .unset, .unset, .unset, .unset, .unset, .unset, .unset, .unset] [(.long v14), (.ref b17), (.ref b17)])) _
    refine XS.lload X17.here hx rfl (hb hby at_63) rfl ?_
    show Steps p.tables e below (T17.setTop (mkF m 65 #[.val (.long x0), .second, .val (.long x1), .second, .val (.long x2), .second, .val (.long x3), .second, .val (.int x4), .val (.int (1 : Int32)), .val (.long v13), .second, .val (.long v14), .second, .val (.long v15), .second, .unset, .unset, .unset, .unset, .unset, .unset, .unset, .unset] [(.long v13), (.long v14), (.ref b17), (.ref b17)])) _
    exact Steps.refl _
  have pre24 := pre17.trans st24
  obtain ⟨_, _, ⟨T25, L25, k25, n25⟩, -, X25, ⟨Lc25, hQ25, l25, y25, z25⟩, st25⟩ := X17.specialBack hx (y := (⟨"com/example/nestmine/nestmine/Conformance$Score", "<init>", "(JJ)V"⟩ : MethodName)) rfl hown (mvT hZ (hw _ (List.mem_of_getElem? (i := 3) rfl))) (mvT hZ (hw _ (List.mem_of_getElem? (i := 4) rfl))) (mvT hZ (hw _ (List.mem_of_getElem? (i := 5) rfl))) (by decide) (backOf (W := 1) (rm2 l Z a0 hw [] b17 v14 v13 (.long (0 : Int64)) (.long (0 : Int64)) h17 n0 Z17 A17 F22 F23 gn17) hZ (hw _ (List.mem_of_getElem? (i := 5) rfl)) (hw _ (List.mem_of_getElem? (i := 2) rfl)) (by decide) (by decide)) (g := (mkF m 65 #[.val (.long x0), .second, .val (.long x1), .second, .val (.long x2), .second, .val (.long x3), .second, .val (.int x4), .val (.int (1 : Int32)), .val (.long v13), .second, .val (.long v14), .second, .val (.long v15), .second, .unset, .unset, .unset, .unset, .unset, .unset, .unset, .unset] [(.long v13), (.long v14), (.ref b17), (.ref b17)])) rfl (by rw [hml]; rfl) (Steps.refl _) (a := b17) (argsL := [(.long v14), (.long v13)]) (rest := [(.ref b17)]) (lenOf pd0_0 rfl) rfl (by show 2 * 0 + _ ≤ _; exact Nat.le_of_eq rfl) (hb hby at_65) (fun _ _ => ⟨rfl, e17, (by decide : 2 + 0 ≤ _), (by decide : 4 + 0 ≤ _)⟩)
  dsimp only [Pt.U, Pt.locs, Pt.cells, Pt.slots] at X25 l25 y25 z25 st25 hQ25
  subst l25 y25 z25
  obtain ⟨rfl, Nq25, Kq25, P25_0, P25_1, P25_2⟩ := hQ25
  have F26 : Exa Z T25.heap b1 "com/example/nestmine/nestmine/Conformance$Score" := F18.keep Kq25
  have F27 : Exa Z T25.heap b1 "com/example/nestmine/nestmine/Conformance$Score" := F19.keep Kq25
  have F28 : Fld Z T25.heap b1 "com/example/nestmine/nestmine/Conformance$Score" "lost" "J" (.long x3) := F20.keep Kq25 (ninS neb1_b17 nin0)
  have F29 : Fld Z T25.heap b1 "com/example/nestmine/nestmine/Conformance$Score" "possible" "J" (.long (0 : Int64)) := F21.keep Kq25 (ninS neb1_b17 nin0)
  have F30 : Exa Z T25.heap b17 "com/example/nestmine/nestmine/Conformance$Score" := A17.keep Kq25
  have KK25 := K17.trans Kq25 (allS (Or.inr sz17) all0)
  have Z25 : n0 ≤ T25.heap.size := Nat.le_trans Z17 Kq25.1
  have N25 := Fr.app N9 Nq25
  have pre25 : Steps p.tables e below (s₁.setTop (entryFrame m #[(.long x0), (.long x1), (.long x2), (.long x3), (.int x4)] maxLocals)) (T25.setTop (mkF m 68 #[.val (.long x0), .second, .val (.long x1), .second, .val (.long x2), .second, .val (.long x3), .second, .val (.int x4), .val (.int (1 : Int32)), .val (.long v13), .second, .val (.long v14), .second, .val (.long v15), .second, .unset, .unset, .unset, .unset, .unset, .unset, .unset, .unset] [(.ref b17)])) := pre24.trans st25
  obtain ⟨cq33, kq33, q33a, q33b, q33c⟩ := isOf hZ rfl F30
  obtain ⟨_, _, ⟨T33, L33, k33, n33⟩, -, X33, ⟨Lc33, hQ33, l33, y33, z33⟩, st33⟩ := X25.virtualBack hx (y := (⟨"com/example/nestmine/nestmine/Conformance$Score", "value", "()D"⟩ : MethodName)) (z := (⟨"com/example/nestmine/nestmine/Conformance$Score", "value", "()D"⟩ : MethodName)) hown (mvT hZ (hw _ (List.mem_of_getElem? (i := 18) rfl))) (mvT hZ (hw _ (List.mem_of_getElem? (i := 19) rfl))) (notFace_of_selects (args := #[]) (mvT hZ (hw _ (List.mem_of_getElem? (i := 21) rfl)))) (mvT hZ (hw _ (List.mem_of_getElem? (i := 21) rfl))) (mvT hZ (hw _ (List.mem_of_getElem? (i := 20) rfl))) (by decide) (backOf (W := 0) (rm3 l Z a0 hw [] b17 v14 v13 T25.heap n0 Z25 P25_1 P25_2) hZ (hw _ (List.mem_of_getElem? (i := 22) rfl)) (hw _ (List.mem_of_getElem? (i := 2) rfl)) (by decide) (by decide)) q33a q33c (g := (mkF m 68 #[.val (.long x0), .second, .val (.long x1), .second, .val (.long x2), .second, .val (.long x3), .second, .val (.int x4), .val (.int (1 : Int32)), .val (.long v13), .second, .val (.long v14), .second, .val (.long v15), .second, .unset, .unset, .unset, .unset, .unset, .unset, .unset, .unset] [(.ref b17)])) rfl (by rw [hml]; rfl) (Steps.refl _) (argsL := []) (rest := []) (lenOf pd0_1 rfl) rfl (by show 2 * 0 + _ ≤ _; exact Nat.le_of_eq rfl) (hb hby at_68) (fun _ _ => ⟨rfl, rfl, (by decide : 2 + 0 ≤ _), (by decide : 4 + 0 ≤ _)⟩)
  dsimp only [Pt.U, Pt.locs, Pt.cells, Pt.slots] at X33 l33 y33 z33 st33 hQ33
  subst l33 y33 z33
  obtain ⟨rfl, Nq33, e33⟩ := hQ33
  have N33 := Fr.app N25 Nq33
  have pre33 : Steps p.tables e below (s₁.setTop (entryFrame m #[(.long x0), (.long x1), (.long x2), (.long x3), (.int x4)] maxLocals)) (T33.setTop (mkF m 71 #[.val (.long x0), .second, .val (.long x1), .second, .val (.long x2), .second, .val (.long x3), .second, .val (.int x4), .val (.int (1 : Int32)), .val (.long v13), .second, .val (.long v14), .second, .val (.long v15), .second, .unset, .unset, .unset, .unset, .unset, .unset, .unset, .unset] [(.double (own_F3 b17 v14 v13))])) := pre25.trans st33
  obtain ⟨v34, hv34⟩ : ∃ z : UInt64, z = (own_F3 b17 v14 v13) := ⟨_, rfl⟩
  have st35 : Steps p.tables e below (T33.setTop (mkF m 71 #[.val (.long x0), .second, .val (.long x1), .second, .val (.long x2), .second, .val (.long x3), .second, .val (.int x4), .val (.int (1 : Int32)), .val (.long v13), .second, .val (.long v14), .second, .val (.long v15), .second, .unset, .unset, .unset, .unset, .unset, .unset, .unset, .unset] [(.double (own_F3 b17 v14 v13))])) (T33.setTop (mkF m 73 #[.val (.long x0), .second, .val (.long x1), .second, .val (.long x2), .second, .val (.long x3), .second, .val (.int x4), .val (.int (1 : Int32)), .val (.long v13), .second, .val (.long v14), .second, .val (.long v15), .second, .val (.double v34), .second, .unset, .unset, .unset, .unset, .unset, .unset] [])) := by
    subst v34
    refine XS.dstore X33.here hx rfl (hb hby at_71) rfl (l' := #[.val (.long x0), .second, .val (.long x1), .second, .val (.long x2), .second, .val (.long x3), .second, .val (.int x4), .val (.int (1 : Int32)), .val (.long v13), .second, .val (.long v14), .second, .val (.long v15), .second, .val (.double (own_F3 b17 v14 v13)), .second, .unset, .unset, .unset, .unset, .unset, .unset]) rfl ?_
    show Steps p.tables e below (T33.setTop (mkF m 73 #[.val (.long x0), .second, .val (.long x1), .second, .val (.long x2), .second, .val (.long x3), .second, .val (.int x4), .val (.int (1 : Int32)), .val (.long v13), .second, .val (.long v14), .second, .val (.long v15), .second, .val (.double (own_F3 b17 v14 v13)), .second, .unset, .unset, .unset, .unset, .unset, .unset] [])) _
    exact Steps.refl _
  have pre35 := pre33.trans st35
  obtain ⟨T36, h36, X36, e36, E36, A36, D36, -, st36⟩ := newO X33 hx hZ hown (hw _ (List.mem_of_getElem? (i := 0) rfl)) (hw _ (List.mem_of_getElem? (i := 1) rfl)) (hw _ (List.mem_of_getElem? (i := 2) rfl)) e33 (g := (mkF m 73 #[.val (.long x0), .second, .val (.long x1), .second, .val (.long x2), .second, .val (.long x3), .second, .val (.int x4), .val (.int (1 : Int32)), .val (.long v13), .second, .val (.long v14), .second, .val (.long v15), .second, .val (.double v34), .second, .unset, .unset, .unset, .unset, .unset, .unset] [])) rfl (hb hby at_73) (by decide) (by decide)
  obtain ⟨b36, g36⟩ : ∃ z, z = T25.heap.size := ⟨_, rfl⟩
  rw [← g36] at A36 D36 st36
  have pre36 : Steps p.tables e below (s₁.setTop (entryFrame m #[(.long x0), (.long x1), (.long x2), (.long x3), (.int x4)] maxLocals)) (T36.setTop (mkF m 76 #[.val (.long x0), .second, .val (.long x1), .second, .val (.long x2), .second, .val (.long x3), .second, .val (.int x4), .val (.int (1 : Int32)), .val (.long v13), .second, .val (.long v14), .second, .val (.long v15), .second, .val (.double v34), .second, .unset, .unset, .unset, .unset, .unset, .unset] [(.ref b36)])) := pre35.trans (st36 _ (Steps.refl _))
  have gn36 : n0 ≤ b36 := Nat.le_trans Z25 (Nat.le_of_eq g36.symm)
  have sz36 : h0.size ≤ b36 := Nat.le_trans KK25.1 (Nat.le_of_eq g36.symm)
  have neb1_b36 : b1 ≠ b36 := Nat.ne_of_lt (Nat.lt_of_lt_of_le F26.lt (Nat.le_of_eq g36.symm))
  have neb17_b36 : b17 ≠ b36 := Nat.ne_of_lt (Nat.lt_of_lt_of_le F30.lt (Nat.le_of_eq g36.symm))
  have F37 : Exa Z h36 b1 "com/example/nestmine/nestmine/Conformance$Score" := F26.ext E36
  have F38 : Exa Z h36 b1 "com/example/nestmine/nestmine/Conformance$Score" := F27.ext E36
  have F39 : Fld Z h36 b1 "com/example/nestmine/nestmine/Conformance$Score" "lost" "J" (.long x3) := F28.ext E36
  have F40 : Fld Z h36 b1 "com/example/nestmine/nestmine/Conformance$Score" "possible" "J" (.long (0 : Int64)) := F29.ext E36
  have F41 : Exa Z h36 b17 "com/example/nestmine/nestmine/Conformance$Score" := F30.ext E36
  have F42 : Exa Z h36 b17 "com/example/nestmine/nestmine/Conformance$Score" := P25_0.ext E36
  have F43 : Fld Z h36 b17 "com/example/nestmine/nestmine/Conformance$Score" "lost" "J" (.long v14) := P25_1.ext E36
  have F44 : Fld Z h36 b17 "com/example/nestmine/nestmine/Conformance$Score" "possible" "J" (.long v13) := P25_2.ext E36
  have K36 := KK25.ext E36
  have Z36 : n0 ≤ h36.size := Nat.le_trans Z25 E36.1
  have F45 : Fld Z h36 b36 "com/example/nestmine/nestmine/Conformance$Score" "lost" "J" (.long (0 : Int64)) := D36 (Or.inr (hw _ (List.mem_of_getElem? (i := 15) rfl))) (ty := .long) (by decide)
  have F46 : Fld Z h36 b36 "com/example/nestmine/nestmine/Conformance$Score" "possible" "J" (.long (0 : Int64)) := D36 (Or.inr (hw _ (List.mem_of_getElem? (i := 17) rfl))) (ty := .long) (by decide)
  have st47 : Steps p.tables e below (T36.setTop (mkF m 76 #[.val (.long x0), .second, .val (.long x1), .second, .val (.long x2), .second, .val (.long x3), .second, .val (.int x4), .val (.int (1 : Int32)), .val (.long v13), .second, .val (.long v14), .second, .val (.long v15), .second, .val (.double v34), .second, .unset, .unset, .unset, .unset, .unset, .unset] [(.ref b36)])) (T36.setTop (mkF m 81 #[.val (.long x0), .second, .val (.long x1), .second, .val (.long x2), .second, .val (.long x3), .second, .val (.int x4), .val (.int (1 : Int32)), .val (.long v13), .second, .val (.long v14), .second, .val (.long v15), .second, .val (.double v34), .second, .unset, .unset, .unset, .unset, .unset, .unset] [(.long v13), (.long v15), (.ref b36), (.ref b36)])) := by
    refine XS.dup X36.here hx rfl (hb hby at_76) rfl rfl ?_
    show Steps p.tables e below (T36.setTop (mkF m 77 #[.val (.long x0), .second, .val (.long x1), .second, .val (.long x2), .second, .val (.long x3), .second, .val (.int x4), .val (.int (1 : Int32)), .val (.long v13), .second, .val (.long v14), .second, .val (.long v15), .second, .val (.double v34), .second, .unset, .unset, .unset, .unset, .unset, .unset] [(.ref b36), (.ref b36)])) _
    refine XS.lload X36.here hx rfl (hb hby at_77) rfl ?_
    show Steps p.tables e below (T36.setTop (mkF m 79 #[.val (.long x0), .second, .val (.long x1), .second, .val (.long x2), .second, .val (.long x3), .second, .val (.int x4), .val (.int (1 : Int32)), .val (.long v13), .second, .val (.long v14), .second, .val (.long v15), .second, .val (.double v34), .second, .unset, .unset, .unset, .unset, .unset, .unset] [(.long v15), (.ref b36), (.ref b36)])) _
    refine XS.lload X36.here hx rfl (hb hby at_79) rfl ?_
    show Steps p.tables e below (T36.setTop (mkF m 81 #[.val (.long x0), .second, .val (.long x1), .second, .val (.long x2), .second, .val (.long x3), .second, .val (.int x4), .val (.int (1 : Int32)), .val (.long v13), .second, .val (.long v14), .second, .val (.long v15), .second, .val (.double v34), .second, .unset, .unset, .unset, .unset, .unset, .unset] [(.long v13), (.long v15), (.ref b36), (.ref b36)])) _
    exact Steps.refl _
  have pre47 := pre36.trans st47
  obtain ⟨_, _, ⟨T48, L48, k48, n48⟩, -, X48, ⟨Lc48, hQ48, l48, y48, z48⟩, st48⟩ := X36.specialBack hx (y := (⟨"com/example/nestmine/nestmine/Conformance$Score", "<init>", "(JJ)V"⟩ : MethodName)) rfl hown (mvT hZ (hw _ (List.mem_of_getElem? (i := 3) rfl))) (mvT hZ (hw _ (List.mem_of_getElem? (i := 4) rfl))) (mvT hZ (hw _ (List.mem_of_getElem? (i := 5) rfl))) (by decide) (backOf (W := 1) (rm2 l Z a0 hw [] b36 v15 v13 (.long (0 : Int64)) (.long (0 : Int64)) h36 n0 Z36 A36 F45 F46 gn36) hZ (hw _ (List.mem_of_getElem? (i := 5) rfl)) (hw _ (List.mem_of_getElem? (i := 2) rfl)) (by decide) (by decide)) (g := (mkF m 81 #[.val (.long x0), .second, .val (.long x1), .second, .val (.long x2), .second, .val (.long x3), .second, .val (.int x4), .val (.int (1 : Int32)), .val (.long v13), .second, .val (.long v14), .second, .val (.long v15), .second, .val (.double v34), .second, .unset, .unset, .unset, .unset, .unset, .unset] [(.long v13), (.long v15), (.ref b36), (.ref b36)])) rfl (by rw [hml]; rfl) (Steps.refl _) (a := b36) (argsL := [(.long v15), (.long v13)]) (rest := [(.ref b36)]) (lenOf pd0_0 rfl) rfl (by show 2 * 0 + _ ≤ _; exact Nat.le_of_eq rfl) (hb hby at_81) (fun _ _ => ⟨rfl, e36, (by decide : 3 + 0 ≤ _), (by decide : 6 + 0 ≤ _)⟩)
  dsimp only [Pt.U, Pt.locs, Pt.cells, Pt.slots] at X48 l48 y48 z48 st48 hQ48
  subst l48 y48 z48
  obtain ⟨rfl, Nq48, Kq48, P48_0, P48_1, P48_2⟩ := hQ48
  have F49 : Exa Z T48.heap b1 "com/example/nestmine/nestmine/Conformance$Score" := F37.keep Kq48
  have F50 : Exa Z T48.heap b1 "com/example/nestmine/nestmine/Conformance$Score" := F38.keep Kq48
  have F51 : Fld Z T48.heap b1 "com/example/nestmine/nestmine/Conformance$Score" "lost" "J" (.long x3) := F39.keep Kq48 (ninS neb1_b36 nin0)
  have F52 : Fld Z T48.heap b1 "com/example/nestmine/nestmine/Conformance$Score" "possible" "J" (.long (0 : Int64)) := F40.keep Kq48 (ninS neb1_b36 nin0)
  have F53 : Exa Z T48.heap b17 "com/example/nestmine/nestmine/Conformance$Score" := F41.keep Kq48
  have F54 : Exa Z T48.heap b17 "com/example/nestmine/nestmine/Conformance$Score" := F42.keep Kq48
  have F55 : Fld Z T48.heap b17 "com/example/nestmine/nestmine/Conformance$Score" "lost" "J" (.long v14) := F43.keep Kq48 (ninS neb17_b36 nin0)
  have F56 : Fld Z T48.heap b17 "com/example/nestmine/nestmine/Conformance$Score" "possible" "J" (.long v13) := F44.keep Kq48 (ninS neb17_b36 nin0)
  have F57 : Exa Z T48.heap b36 "com/example/nestmine/nestmine/Conformance$Score" := A36.keep Kq48
  have KK48 := K36.trans Kq48 (allS (Or.inr sz36) all0)
  have Z48 : n0 ≤ T48.heap.size := Nat.le_trans Z36 Kq48.1
  have N48 := Fr.app N33 Nq48
  have pre48 : Steps p.tables e below (s₁.setTop (entryFrame m #[(.long x0), (.long x1), (.long x2), (.long x3), (.int x4)] maxLocals)) (T48.setTop (mkF m 84 #[.val (.long x0), .second, .val (.long x1), .second, .val (.long x2), .second, .val (.long x3), .second, .val (.int x4), .val (.int (1 : Int32)), .val (.long v13), .second, .val (.long v14), .second, .val (.long v15), .second, .val (.double v34), .second, .unset, .unset, .unset, .unset, .unset, .unset] [(.ref b36)])) := pre47.trans st48
  obtain ⟨cq60, kq60, q60a, q60b, q60c⟩ := isOf hZ rfl F57
  obtain ⟨_, _, ⟨T60, L60, k60, n60⟩, -, X60, ⟨Lc60, hQ60, l60, y60, z60⟩, st60⟩ := X48.virtualBack hx (y := (⟨"com/example/nestmine/nestmine/Conformance$Score", "value", "()D"⟩ : MethodName)) (z := (⟨"com/example/nestmine/nestmine/Conformance$Score", "value", "()D"⟩ : MethodName)) hown (mvT hZ (hw _ (List.mem_of_getElem? (i := 18) rfl))) (mvT hZ (hw _ (List.mem_of_getElem? (i := 19) rfl))) (notFace_of_selects (args := #[]) (mvT hZ (hw _ (List.mem_of_getElem? (i := 21) rfl)))) (mvT hZ (hw _ (List.mem_of_getElem? (i := 21) rfl))) (mvT hZ (hw _ (List.mem_of_getElem? (i := 20) rfl))) (by decide) (backOf (W := 0) (rm3 l Z a0 hw [] b36 v15 v13 T48.heap n0 Z48 P48_1 P48_2) hZ (hw _ (List.mem_of_getElem? (i := 22) rfl)) (hw _ (List.mem_of_getElem? (i := 2) rfl)) (by decide) (by decide)) q60a q60c (g := (mkF m 84 #[.val (.long x0), .second, .val (.long x1), .second, .val (.long x2), .second, .val (.long x3), .second, .val (.int x4), .val (.int (1 : Int32)), .val (.long v13), .second, .val (.long v14), .second, .val (.long v15), .second, .val (.double v34), .second, .unset, .unset, .unset, .unset, .unset, .unset] [(.ref b36)])) rfl (by rw [hml]; rfl) (Steps.refl _) (argsL := []) (rest := []) (lenOf pd0_1 rfl) rfl (by show 2 * 0 + _ ≤ _; exact Nat.le_of_eq rfl) (hb hby at_84) (fun _ _ => ⟨rfl, rfl, (by decide : 3 + 0 ≤ _), (by decide : 6 + 0 ≤ _)⟩)
  dsimp only [Pt.U, Pt.locs, Pt.cells, Pt.slots] at X60 l60 y60 z60 st60 hQ60
  subst l60 y60 z60
  obtain ⟨rfl, Nq60, e60⟩ := hQ60
  have N60 := Fr.app N48 Nq60
  have pre60 : Steps p.tables e below (s₁.setTop (entryFrame m #[(.long x0), (.long x1), (.long x2), (.long x3), (.int x4)] maxLocals)) (T60.setTop (mkF m 87 #[.val (.long x0), .second, .val (.long x1), .second, .val (.long x2), .second, .val (.long x3), .second, .val (.int x4), .val (.int (1 : Int32)), .val (.long v13), .second, .val (.long v14), .second, .val (.long v15), .second, .val (.double v34), .second, .unset, .unset, .unset, .unset, .unset, .unset] [(.double (own_F3 b36 v15 v13))])) := pre48.trans st60
  obtain ⟨v61, hv61⟩ : ∃ z : UInt64, z = (own_F3 b36 v15 v13) := ⟨_, rfl⟩
  obtain ⟨v62, hv62⟩ : ∃ z : Int32, z = (cmpValue (FP.dcmp own_d0 v34) .g) := ⟨_, rfl⟩
  have st63 : Steps p.tables e below (T60.setTop (mkF m 87 #[.val (.long x0), .second, .val (.long x1), .second, .val (.long x2), .second, .val (.long x3), .second, .val (.int x4), .val (.int (1 : Int32)), .val (.long v13), .second, .val (.long v14), .second, .val (.long v15), .second, .val (.double v34), .second, .unset, .unset, .unset, .unset, .unset, .unset] [(.double (own_F3 b36 v15 v13))])) (T60.setTop (mkF m 98 #[.val (.long x0), .second, .val (.long x1), .second, .val (.long x2), .second, .val (.long x3), .second, .val (.int x4), .val (.int (1 : Int32)), .val (.long v13), .second, .val (.long v14), .second, .val (.long v15), .second, .val (.double v34), .second, .val (.double v61), .second, .unset, .unset, .unset, .unset] [(.int v62)])) := by
    subst v62 v61
    refine XS.dstore X60.here hx rfl (hb hby at_87) rfl (l' := #[.val (.long x0), .second, .val (.long x1), .second, .val (.long x2), .second, .val (.long x3), .second, .val (.int x4), .val (.int (1 : Int32)), .val (.long v13), .second, .val (.long v14), .second, .val (.long v15), .second, .val (.double v34), .second, .val (.double (own_F3 b36 v15 v13)), .second, .unset, .unset, .unset, .unset]) rfl ?_
    show Steps p.tables e below (T60.setTop (mkF m 89 #[.val (.long x0), .second, .val (.long x1), .second, .val (.long x2), .second, .val (.long x3), .second, .val (.int x4), .val (.int (1 : Int32)), .val (.long v13), .second, .val (.long v14), .second, .val (.long v15), .second, .val (.double v34), .second, .val (.double (own_F3 b36 v15 v13)), .second, .unset, .unset, .unset, .unset] [])) _
    refine XS.iload X60.here hx rfl (hb hby at_89) rfl ?_
    show Steps p.tables e below (T60.setTop (mkF m 91 #[.val (.long x0), .second, .val (.long x1), .second, .val (.long x2), .second, .val (.long x3), .second, .val (.int x4), .val (.int (1 : Int32)), .val (.long v13), .second, .val (.long v14), .second, .val (.long v15), .second, .val (.double v34), .second, .val (.double (own_F3 b36 v15 v13)), .second, .unset, .unset, .unset, .unset] [(.int (1 : Int32))])) _
    refine XS.ifNo X60.here hx rfl (hb hby at_91) rfl ((if0 _ _).trans (feq (by decide : ¬ ((1 : Int32) = (0 : Int32)))).1) ?_
    show Steps p.tables e below (T60.setTop (mkF m 94 #[.val (.long x0), .second, .val (.long x1), .second, .val (.long x2), .second, .val (.long x3), .second, .val (.int x4), .val (.int (1 : Int32)), .val (.long v13), .second, .val (.long v14), .second, .val (.long v15), .second, .val (.double v34), .second, .val (.double (own_F3 b36 v15 v13)), .second, .unset, .unset, .unset, .unset] [])) _
    refine XS.dconst0 X60.here hx rfl (hb hby at_94) (v := own_d0) rfl ?_
    show Steps p.tables e below (T60.setTop (mkF m 95 #[.val (.long x0), .second, .val (.long x1), .second, .val (.long x2), .second, .val (.long x3), .second, .val (.int x4), .val (.int (1 : Int32)), .val (.long v13), .second, .val (.long v14), .second, .val (.long v15), .second, .val (.double v34), .second, .val (.double (own_F3 b36 v15 v13)), .second, .unset, .unset, .unset, .unset] [(.double own_d0)])) _
    refine XS.dload X60.here hx rfl (hb hby at_95) rfl ?_
    show Steps p.tables e below (T60.setTop (mkF m 97 #[.val (.long x0), .second, .val (.long x1), .second, .val (.long x2), .second, .val (.long x3), .second, .val (.int x4), .val (.int (1 : Int32)), .val (.long v13), .second, .val (.long v14), .second, .val (.long v15), .second, .val (.double v34), .second, .val (.double (own_F3 b36 v15 v13)), .second, .unset, .unset, .unset, .unset] [(.double v34), (.double own_d0)])) _
    refine XS.dcmpS X60.here hx rfl (hb hby at_97) rfl rfl ?_
    show Steps p.tables e below (T60.setTop (mkF m 98 #[.val (.long x0), .second, .val (.long x1), .second, .val (.long x2), .second, .val (.long x3), .second, .val (.int x4), .val (.int (1 : Int32)), .val (.long v13), .second, .val (.long v14), .second, .val (.long v15), .second, .val (.double v34), .second, .val (.double (own_F3 b36 v15 v13)), .second, .unset, .unset, .unset, .unset] [(.int (cmpValue (FP.dcmp own_d0 v34) .g))])) _
    exact Steps.refl _
  have pre63 := pre60.trans st63
  have hc98 : ¬ ((0 : Int32) < v62) := by
    rw [hv62, hv34]
    exact own_98 hP1
  have st64 : Steps p.tables e below (T60.setTop (mkF m 98 #[.val (.long x0), .second, .val (.long x1), .second, .val (.long x2), .second, .val (.long x3), .second, .val (.int x4), .val (.int (1 : Int32)), .val (.long v13), .second, .val (.long v14), .second, .val (.long v15), .second, .val (.double v34), .second, .val (.double v61), .second, .unset, .unset, .unset, .unset] [(.int v62)])) (T60.setTop (mkF m 101 #[.val (.long x0), .second, .val (.long x1), .second, .val (.long x2), .second, .val (.long x3), .second, .val (.int x4), .val (.int (1 : Int32)), .val (.long v13), .second, .val (.long v14), .second, .val (.long v15), .second, .val (.double v34), .second, .val (.double v61), .second, .unset, .unset, .unset, .unset] [])) := by
    refine XS.ifNo X60.here hx rfl (hb hby at_98) rfl ((if0 _ _).trans (flt hc98).2.2.1) ?_
    exact Steps.refl _
  have pre64 := pre63.trans st64
  obtain ⟨v65, hv65⟩ : ∃ z : Int32, z = (cmpValue (FP.dcmp v34 own_d1) .g) := ⟨_, rfl⟩
  have st66 : Steps p.tables e below (T60.setTop (mkF m 101 #[.val (.long x0), .second, .val (.long x1), .second, .val (.long x2), .second, .val (.long x3), .second, .val (.int x4), .val (.int (1 : Int32)), .val (.long v13), .second, .val (.long v14), .second, .val (.long v15), .second, .val (.double v34), .second, .val (.double v61), .second, .unset, .unset, .unset, .unset] [])) (T60.setTop (mkF m 105 #[.val (.long x0), .second, .val (.long x1), .second, .val (.long x2), .second, .val (.long x3), .second, .val (.int x4), .val (.int (1 : Int32)), .val (.long v13), .second, .val (.long v14), .second, .val (.long v15), .second, .val (.double v34), .second, .val (.double v61), .second, .unset, .unset, .unset, .unset] [(.int v65)])) := by
    subst v65
    refine XS.dload X60.here hx rfl (hb hby at_101) rfl ?_
    show Steps p.tables e below (T60.setTop (mkF m 103 #[.val (.long x0), .second, .val (.long x1), .second, .val (.long x2), .second, .val (.long x3), .second, .val (.int x4), .val (.int (1 : Int32)), .val (.long v13), .second, .val (.long v14), .second, .val (.long v15), .second, .val (.double v34), .second, .val (.double v61), .second, .unset, .unset, .unset, .unset] [(.double v34)])) _
    refine XS.dconst1 X60.here hx rfl (hb hby at_103) (v := own_d1) rfl ?_
    show Steps p.tables e below (T60.setTop (mkF m 104 #[.val (.long x0), .second, .val (.long x1), .second, .val (.long x2), .second, .val (.long x3), .second, .val (.int x4), .val (.int (1 : Int32)), .val (.long v13), .second, .val (.long v14), .second, .val (.long v15), .second, .val (.double v34), .second, .val (.double v61), .second, .unset, .unset, .unset, .unset] [(.double own_d1), (.double v34)])) _
    refine XS.dcmpS X60.here hx rfl (hb hby at_104) rfl rfl ?_
    show Steps p.tables e below (T60.setTop (mkF m 105 #[.val (.long x0), .second, .val (.long x1), .second, .val (.long x2), .second, .val (.long x3), .second, .val (.int x4), .val (.int (1 : Int32)), .val (.long v13), .second, .val (.long v14), .second, .val (.long v15), .second, .val (.double v34), .second, .val (.double v61), .second, .unset, .unset, .unset, .unset] [(.int (cmpValue (FP.dcmp v34 own_d1) .g))])) _
    exact Steps.refl _
  have pre66 := pre64.trans st66
  have hc105 : ¬ ((0 : Int32) < v65) := by
    rw [hv65, hv34]
    exact own_105 hP1
  have st67 : Steps p.tables e below (T60.setTop (mkF m 105 #[.val (.long x0), .second, .val (.long x1), .second, .val (.long x2), .second, .val (.long x3), .second, .val (.int x4), .val (.int (1 : Int32)), .val (.long v13), .second, .val (.long v14), .second, .val (.long v15), .second, .val (.double v34), .second, .val (.double v61), .second, .unset, .unset, .unset, .unset] [(.int v65)])) (T60.setTop (mkF m 108 #[.val (.long x0), .second, .val (.long x1), .second, .val (.long x2), .second, .val (.long x3), .second, .val (.int x4), .val (.int (1 : Int32)), .val (.long v13), .second, .val (.long v14), .second, .val (.long v15), .second, .val (.double v34), .second, .val (.double v61), .second, .unset, .unset, .unset, .unset] [])) := by
    refine XS.ifNo X60.here hx rfl (hb hby at_105) rfl ((if0 _ _).trans (flt hc105).2.2.1) ?_
    exact Steps.refl _
  have pre67 := pre66.trans st67
  have st68 : Steps p.tables e below (T60.setTop (mkF m 108 #[.val (.long x0), .second, .val (.long x1), .second, .val (.long x2), .second, .val (.long x3), .second, .val (.int x4), .val (.int (1 : Int32)), .val (.long v13), .second, .val (.long v14), .second, .val (.long v15), .second, .val (.double v34), .second, .val (.double v61), .second, .unset, .unset, .unset, .unset] [])) (T60.setTop (mkF m 119 #[.val (.long x0), .second, .val (.long x1), .second, .val (.long x2), .second, .val (.long x3), .second, .val (.int x4), .val (.int (1 : Int32)), .val (.long v13), .second, .val (.long v14), .second, .val (.long v15), .second, .val (.double v34), .second, .val (.double v61), .second, .unset, .unset, .unset, .unset] [(.int (lcmpW v14 (0 : Int64)))])) := by
    refine XS.iconst X60.here hx rfl (hb hby at_108) ?_
    show Steps p.tables e below (T60.setTop (mkF m 109 #[.val (.long x0), .second, .val (.long x1), .second, .val (.long x2), .second, .val (.long x3), .second, .val (.int x4), .val (.int (1 : Int32)), .val (.long v13), .second, .val (.long v14), .second, .val (.long v15), .second, .val (.double v34), .second, .val (.double v61), .second, .unset, .unset, .unset, .unset] [(.int (1 : Int32))])) _
    refine XS.goto X60.here hx rfl (pc0 := 109) (pc' := 113) rfl (hb hby at_109) (by decide) (by decide) ?_
    show Steps p.tables e below (T60.setTop (mkF m 113 #[.val (.long x0), .second, .val (.long x1), .second, .val (.long x2), .second, .val (.long x3), .second, .val (.int x4), .val (.int (1 : Int32)), .val (.long v13), .second, .val (.long v14), .second, .val (.long v15), .second, .val (.double v34), .second, .val (.double v61), .second, .unset, .unset, .unset, .unset] [(.int (1 : Int32))])) _
    refine XS.istore X60.here hx rfl (hb hby at_113) rfl (l' := #[.val (.long x0), .second, .val (.long x1), .second, .val (.long x2), .second, .val (.long x3), .second, .val (.int x4), .val (.int (1 : Int32)), .val (.long v13), .second, .val (.long v14), .second, .val (.long v15), .second, .val (.double v34), .second, .val (.double v61), .second, .unset, .unset, .unset, .unset]) rfl ?_
    show Steps p.tables e below (T60.setTop (mkF m 115 #[.val (.long x0), .second, .val (.long x1), .second, .val (.long x2), .second, .val (.long x3), .second, .val (.int x4), .val (.int (1 : Int32)), .val (.long v13), .second, .val (.long v14), .second, .val (.long v15), .second, .val (.double v34), .second, .val (.double v61), .second, .unset, .unset, .unset, .unset] [])) _
    refine XS.lload X60.here hx rfl (hb hby at_115) rfl ?_
    show Steps p.tables e below (T60.setTop (mkF m 117 #[.val (.long x0), .second, .val (.long x1), .second, .val (.long x2), .second, .val (.long x3), .second, .val (.int x4), .val (.int (1 : Int32)), .val (.long v13), .second, .val (.long v14), .second, .val (.long v15), .second, .val (.double v34), .second, .val (.double v61), .second, .unset, .unset, .unset, .unset] [(.long v14)])) _
    refine XS.lconst X60.here hx rfl (hb hby at_117) ?_
    show Steps p.tables e below (T60.setTop (mkF m 118 #[.val (.long x0), .second, .val (.long x1), .second, .val (.long x2), .second, .val (.long x3), .second, .val (.int x4), .val (.int (1 : Int32)), .val (.long v13), .second, .val (.long v14), .second, .val (.long v15), .second, .val (.double v34), .second, .val (.double v61), .second, .unset, .unset, .unset, .unset] [(.long (0 : Int64)), (.long v14)])) _
    refine XS.lcmp X60.here hx rfl (hb hby at_118) rfl ?_
    show Steps p.tables e below (T60.setTop (mkF m 119 #[.val (.long x0), .second, .val (.long x1), .second, .val (.long x2), .second, .val (.long x3), .second, .val (.int x4), .val (.int (1 : Int32)), .val (.long v13), .second, .val (.long v14), .second, .val (.long v15), .second, .val (.double v34), .second, .val (.double v61), .second, .unset, .unset, .unset, .unset] [(.int (lcmpW v14 (0 : Int64)))])) _
    exact Steps.refl _
  have pre68 := pre67.trans st68
  obtain ⟨T75, h75, lc75, X75, e75, N75, Z75, K75, pre75, J75_0, J75_1, J75_2, J75_3, J75_4, J75_5, J75_6, J75_7, J75_8, J75_9, J75_10, J75_11⟩ : ∃ (T' : State) (h' : Heap) (lc : List Loc), Stand p l e room_1 s m #[(.long x0), (.long x1), (.long x2), (.long x3), (.int x4)] below meth c T' lc 3 6 ∧ T'.heap = h' ∧ Fr n0 lc ∧ n0 ≤ h'.size ∧ Keep h0 h' [] ∧ Steps p.tables e below (s₁.setTop (entryFrame m #[(.long x0), (.long x1), (.long x2), (.long x3), (.int x4)] maxLocals)) (T'.setTop (mkF m 141 #[.val (.long x0), .second, .val (.long x1), .second, .val (.long x2), .second, .val (.long x3), .second, .val (.int x4), .val (.int (1 : Int32)), .val (.long v13), .second, .val (.long v14), .second, .val (.long v15), .second, .val (.double v34), .second, .val (.double v61), .second, .unset, .unset, .unset, .unset] [])) ∧ Exa Z h' b1 "com/example/nestmine/nestmine/Conformance$Score" ∧ Exa Z h' b1 "com/example/nestmine/nestmine/Conformance$Score" ∧ Fld Z h' b1 "com/example/nestmine/nestmine/Conformance$Score" "lost" "J" (.long x3) ∧ Fld Z h' b1 "com/example/nestmine/nestmine/Conformance$Score" "possible" "J" (.long (0 : Int64)) ∧ Exa Z h' b17 "com/example/nestmine/nestmine/Conformance$Score" ∧ Exa Z h' b17 "com/example/nestmine/nestmine/Conformance$Score" ∧ Fld Z h' b17 "com/example/nestmine/nestmine/Conformance$Score" "lost" "J" (.long v14) ∧ Fld Z h' b17 "com/example/nestmine/nestmine/Conformance$Score" "possible" "J" (.long v13) ∧ Exa Z h' b36 "com/example/nestmine/nestmine/Conformance$Score" ∧ Exa Z h' b36 "com/example/nestmine/nestmine/Conformance$Score" ∧ Fld Z h' b36 "com/example/nestmine/nestmine/Conformance$Score" "lost" "J" (.long v15) ∧ Fld Z h' b36 "com/example/nestmine/nestmine/Conformance$Score" "possible" "J" (.long v13) := by
    by_cases hc119 : v14 = (0 : Int64)
    · skip
      have st69 : Steps p.tables e below (T60.setTop (mkF m 119 #[.val (.long x0), .second, .val (.long x1), .second, .val (.long x2), .second, .val (.long x3), .second, .val (.int x4), .val (.int (1 : Int32)), .val (.long v13), .second, .val (.long v14), .second, .val (.long v15), .second, .val (.double v34), .second, .val (.double v61), .second, .unset, .unset, .unset, .unset] [(.int (lcmpW v14 (0 : Int64)))])) (T60.setTop (mkF m 122 #[.val (.long x0), .second, .val (.long x1), .second, .val (.long x2), .second, .val (.long x3), .second, .val (.int x4), .val (.int (1 : Int32)), .val (.long v13), .second, .val (.long v14), .second, .val (.long v15), .second, .val (.double v34), .second, .val (.double v61), .second, .unset, .unset, .unset, .unset] [])) := by
        refine XS.ifNo X60.here hx rfl (hb hby at_119) rfl ((if0 _ _).trans (teq ((lw_eq v14 (0 : Int64)).mpr hc119)).2) ?_
        exact Steps.refl _
      have pre69 := pre68.trans st69
      obtain ⟨v70, hv70⟩ : ∃ z : Int32, z = (cmpValue (FP.dcmp v34 own_d1) .l) := ⟨_, rfl⟩
      have st71 : Steps p.tables e below (T60.setTop (mkF m 122 #[.val (.long x0), .second, .val (.long x1), .second, .val (.long x2), .second, .val (.long x3), .second, .val (.int x4), .val (.int (1 : Int32)), .val (.long v13), .second, .val (.long v14), .second, .val (.long v15), .second, .val (.double v34), .second, .val (.double v61), .second, .unset, .unset, .unset, .unset] [])) (T60.setTop (mkF m 131 #[.val (.long x0), .second, .val (.long x1), .second, .val (.long x2), .second, .val (.long x3), .second, .val (.int x4), .val (.int (1 : Int32)), .val (.long v13), .second, .val (.long v14), .second, .val (.long v15), .second, .val (.double v34), .second, .val (.double v61), .second, .unset, .unset, .unset, .unset] [(.int v70)])) := by
        subst v70
        refine XS.iload X60.here hx rfl (hb hby at_122) rfl ?_
        show Steps p.tables e below (T60.setTop (mkF m 124 #[.val (.long x0), .second, .val (.long x1), .second, .val (.long x2), .second, .val (.long x3), .second, .val (.int x4), .val (.int (1 : Int32)), .val (.long v13), .second, .val (.long v14), .second, .val (.long v15), .second, .val (.double v34), .second, .val (.double v61), .second, .unset, .unset, .unset, .unset] [(.int (1 : Int32))])) _
        refine XS.ifNo X60.here hx rfl (hb hby at_124) rfl ((if0 _ _).trans (feq (by decide : ¬ ((1 : Int32) = (0 : Int32)))).1) ?_
        show Steps p.tables e below (T60.setTop (mkF m 127 #[.val (.long x0), .second, .val (.long x1), .second, .val (.long x2), .second, .val (.long x3), .second, .val (.int x4), .val (.int (1 : Int32)), .val (.long v13), .second, .val (.long v14), .second, .val (.long v15), .second, .val (.double v34), .second, .val (.double v61), .second, .unset, .unset, .unset, .unset] [])) _
        refine XS.dload X60.here hx rfl (hb hby at_127) rfl ?_
        show Steps p.tables e below (T60.setTop (mkF m 129 #[.val (.long x0), .second, .val (.long x1), .second, .val (.long x2), .second, .val (.long x3), .second, .val (.int x4), .val (.int (1 : Int32)), .val (.long v13), .second, .val (.long v14), .second, .val (.long v15), .second, .val (.double v34), .second, .val (.double v61), .second, .unset, .unset, .unset, .unset] [(.double v34)])) _
        refine XS.dconst1 X60.here hx rfl (hb hby at_129) (v := own_d1) rfl ?_
        show Steps p.tables e below (T60.setTop (mkF m 130 #[.val (.long x0), .second, .val (.long x1), .second, .val (.long x2), .second, .val (.long x3), .second, .val (.int x4), .val (.int (1 : Int32)), .val (.long v13), .second, .val (.long v14), .second, .val (.long v15), .second, .val (.double v34), .second, .val (.double v61), .second, .unset, .unset, .unset, .unset] [(.double own_d1), (.double v34)])) _
        refine XS.dcmpS X60.here hx rfl (hb hby at_130) rfl rfl ?_
        show Steps p.tables e below (T60.setTop (mkF m 131 #[.val (.long x0), .second, .val (.long x1), .second, .val (.long x2), .second, .val (.long x3), .second, .val (.int x4), .val (.int (1 : Int32)), .val (.long v13), .second, .val (.long v14), .second, .val (.long v15), .second, .val (.double v34), .second, .val (.double v61), .second, .unset, .unset, .unset, .unset] [(.int (cmpValue (FP.dcmp v34 own_d1) .l))])) _
        exact Steps.refl _
      have pre71 := pre69.trans st71
      have hc131 : v70 = (0 : Int32) := by
        rw [hv70, hv34]
        exact own_131 hP1 hc119
      have st72 : Steps p.tables e below (T60.setTop (mkF m 131 #[.val (.long x0), .second, .val (.long x1), .second, .val (.long x2), .second, .val (.long x3), .second, .val (.int x4), .val (.int (1 : Int32)), .val (.long v13), .second, .val (.long v14), .second, .val (.long v15), .second, .val (.double v34), .second, .val (.double v61), .second, .unset, .unset, .unset, .unset] [(.int v70)])) (T60.setTop (mkF m 134 #[.val (.long x0), .second, .val (.long x1), .second, .val (.long x2), .second, .val (.long x3), .second, .val (.int x4), .val (.int (1 : Int32)), .val (.long v13), .second, .val (.long v14), .second, .val (.long v15), .second, .val (.double v34), .second, .val (.double v61), .second, .unset, .unset, .unset, .unset] [])) := by
        refine XS.ifNo X60.here hx rfl (hb hby at_131) rfl ((if0 _ _).trans (teq hc131).2) ?_
        exact Steps.refl _
      have pre72 := pre71.trans st72
      have st73 : Steps p.tables e below (T60.setTop (mkF m 134 #[.val (.long x0), .second, .val (.long x1), .second, .val (.long x2), .second, .val (.long x3), .second, .val (.int x4), .val (.int (1 : Int32)), .val (.long v13), .second, .val (.long v14), .second, .val (.long v15), .second, .val (.double v34), .second, .val (.double v61), .second, .unset, .unset, .unset, .unset] [])) (T60.setTop (mkF m 141 #[.val (.long x0), .second, .val (.long x1), .second, .val (.long x2), .second, .val (.long x3), .second, .val (.int x4), .val (.int (1 : Int32)), .val (.long v13), .second, .val (.long v14), .second, .val (.long v15), .second, .val (.double v34), .second, .val (.double v61), .second, .unset, .unset, .unset, .unset] [])) := by
        refine XS.iconst X60.here hx rfl (hb hby at_134) ?_
        show Steps p.tables e below (T60.setTop (mkF m 135 #[.val (.long x0), .second, .val (.long x1), .second, .val (.long x2), .second, .val (.long x3), .second, .val (.int x4), .val (.int (1 : Int32)), .val (.long v13), .second, .val (.long v14), .second, .val (.long v15), .second, .val (.double v34), .second, .val (.double v61), .second, .unset, .unset, .unset, .unset] [(.int (1 : Int32))])) _
        refine XS.goto X60.here hx rfl (pc0 := 135) (pc' := 139) rfl (hb hby at_135) (by decide) (by decide) ?_
        show Steps p.tables e below (T60.setTop (mkF m 139 #[.val (.long x0), .second, .val (.long x1), .second, .val (.long x2), .second, .val (.long x3), .second, .val (.int x4), .val (.int (1 : Int32)), .val (.long v13), .second, .val (.long v14), .second, .val (.long v15), .second, .val (.double v34), .second, .val (.double v61), .second, .unset, .unset, .unset, .unset] [(.int (1 : Int32))])) _
        refine XS.istore X60.here hx rfl (hb hby at_139) rfl (l' := #[.val (.long x0), .second, .val (.long x1), .second, .val (.long x2), .second, .val (.long x3), .second, .val (.int x4), .val (.int (1 : Int32)), .val (.long v13), .second, .val (.long v14), .second, .val (.long v15), .second, .val (.double v34), .second, .val (.double v61), .second, .unset, .unset, .unset, .unset]) rfl ?_
        show Steps p.tables e below (T60.setTop (mkF m 141 #[.val (.long x0), .second, .val (.long x1), .second, .val (.long x2), .second, .val (.long x3), .second, .val (.int x4), .val (.int (1 : Int32)), .val (.long v13), .second, .val (.long v14), .second, .val (.long v15), .second, .val (.double v34), .second, .val (.double v61), .second, .unset, .unset, .unset, .unset] [])) _
        exact Steps.refl _
      have pre73 := pre72.trans st73
      subst v70
      exact ⟨T60, _, _, X60, e60, N60, Z48, KK48, pre73, F49, F50, F51, F52, F53, F54, F55, F56, F57, P48_0, P48_1, P48_2⟩
    · skip
      have st74 : Steps p.tables e below (T60.setTop (mkF m 119 #[.val (.long x0), .second, .val (.long x1), .second, .val (.long x2), .second, .val (.long x3), .second, .val (.int x4), .val (.int (1 : Int32)), .val (.long v13), .second, .val (.long v14), .second, .val (.long v15), .second, .val (.double v34), .second, .val (.double v61), .second, .unset, .unset, .unset, .unset] [(.int (lcmpW v14 (0 : Int64)))])) (T60.setTop (mkF m 141 #[.val (.long x0), .second, .val (.long x1), .second, .val (.long x2), .second, .val (.long x3), .second, .val (.int x4), .val (.int (1 : Int32)), .val (.long v13), .second, .val (.long v14), .second, .val (.long v15), .second, .val (.double v34), .second, .val (.double v61), .second, .unset, .unset, .unset, .unset] [])) := by
        refine XS.ifYes X60.here hx rfl (pc0 := 119) (pc' := 141) rfl (hb hby at_119) rfl ((if0 _ _).trans (feq (fun q => hc119 ((lw_eq v14 (0 : Int64)).mp q))).2) (by decide) (by decide) ?_
        exact Steps.refl _
      have pre74 := pre68.trans st74
      exact ⟨T60, _, _, X60, e60, N60, Z48, KK48, pre74, F49, F49, F51, F52, F53, F53, F55, F56, F57, F57, P48_1, P48_2⟩
  have st76 : Steps p.tables e below (T75.setTop (mkF m 141 #[.val (.long x0), .second, .val (.long x1), .second, .val (.long x2), .second, .val (.long x3), .second, .val (.int x4), .val (.int (1 : Int32)), .val (.long v13), .second, .val (.long v14), .second, .val (.long v15), .second, .val (.double v34), .second, .val (.double v61), .second, .unset, .unset, .unset, .unset] [])) (T75.setTop (mkF m 146 #[.val (.long x0), .second, .val (.long x1), .second, .val (.long x2), .second, .val (.long x3), .second, .val (.int x4), .val (.int (1 : Int32)), .val (.long v13), .second, .val (.long v14), .second, .val (.long v15), .second, .val (.double v34), .second, .val (.double v61), .second, .unset, .unset, .unset, .unset] [(.int (lcmpW v14 v13))])) := by
    refine XS.lload X75.here hx rfl (hb hby at_141) rfl ?_
    show Steps p.tables e below (T75.setTop (mkF m 143 #[.val (.long x0), .second, .val (.long x1), .second, .val (.long x2), .second, .val (.long x3), .second, .val (.int x4), .val (.int (1 : Int32)), .val (.long v13), .second, .val (.long v14), .second, .val (.long v15), .second, .val (.double v34), .second, .val (.double v61), .second, .unset, .unset, .unset, .unset] [(.long v14)])) _
    refine XS.lload X75.here hx rfl (hb hby at_143) rfl ?_
    show Steps p.tables e below (T75.setTop (mkF m 145 #[.val (.long x0), .second, .val (.long x1), .second, .val (.long x2), .second, .val (.long x3), .second, .val (.int x4), .val (.int (1 : Int32)), .val (.long v13), .second, .val (.long v14), .second, .val (.long v15), .second, .val (.double v34), .second, .val (.double v61), .second, .unset, .unset, .unset, .unset] [(.long v13), (.long v14)])) _
    refine XS.lcmp X75.here hx rfl (hb hby at_145) rfl ?_
    show Steps p.tables e below (T75.setTop (mkF m 146 #[.val (.long x0), .second, .val (.long x1), .second, .val (.long x2), .second, .val (.long x3), .second, .val (.int x4), .val (.int (1 : Int32)), .val (.long v13), .second, .val (.long v14), .second, .val (.long v15), .second, .val (.double v34), .second, .val (.double v61), .second, .unset, .unset, .unset, .unset] [(.int (lcmpW v14 v13))])) _
    exact Steps.refl _
  have pre76 := pre75.trans st76
  obtain ⟨T83, h83, lc83, X83, e83, N83, Z83, K83, pre83, J83_0, J83_1, J83_2, J83_3, J83_4, J83_5, J83_6, J83_7, J83_8, J83_9, J83_10, J83_11⟩ : ∃ (T' : State) (h' : Heap) (lc : List Loc), Stand p l e room_1 s m #[(.long x0), (.long x1), (.long x2), (.long x3), (.int x4)] below meth c T' lc 3 6 ∧ T'.heap = h' ∧ Fr n0 lc ∧ n0 ≤ h'.size ∧ Keep h0 h' [] ∧ Steps p.tables e below (s₁.setTop (entryFrame m #[(.long x0), (.long x1), (.long x2), (.long x3), (.int x4)] maxLocals)) (T'.setTop (mkF m 168 #[.val (.long x0), .second, .val (.long x1), .second, .val (.long x2), .second, .val (.long x3), .second, .val (.int x4), .val (.int (1 : Int32)), .val (.long v13), .second, .val (.long v14), .second, .val (.long v15), .second, .val (.double v34), .second, .val (.double v61), .second, .unset, .unset, .unset, .unset] [])) ∧ Exa Z h' b1 "com/example/nestmine/nestmine/Conformance$Score" ∧ Exa Z h' b1 "com/example/nestmine/nestmine/Conformance$Score" ∧ Fld Z h' b1 "com/example/nestmine/nestmine/Conformance$Score" "lost" "J" (.long x3) ∧ Fld Z h' b1 "com/example/nestmine/nestmine/Conformance$Score" "possible" "J" (.long (0 : Int64)) ∧ Exa Z h' b17 "com/example/nestmine/nestmine/Conformance$Score" ∧ Exa Z h' b17 "com/example/nestmine/nestmine/Conformance$Score" ∧ Fld Z h' b17 "com/example/nestmine/nestmine/Conformance$Score" "lost" "J" (.long v14) ∧ Fld Z h' b17 "com/example/nestmine/nestmine/Conformance$Score" "possible" "J" (.long v13) ∧ Exa Z h' b36 "com/example/nestmine/nestmine/Conformance$Score" ∧ Exa Z h' b36 "com/example/nestmine/nestmine/Conformance$Score" ∧ Fld Z h' b36 "com/example/nestmine/nestmine/Conformance$Score" "lost" "J" (.long v15) ∧ Fld Z h' b36 "com/example/nestmine/nestmine/Conformance$Score" "possible" "J" (.long v13) := by
    by_cases hc146 : v14 = v13
    · skip
      have st77 : Steps p.tables e below (T75.setTop (mkF m 146 #[.val (.long x0), .second, .val (.long x1), .second, .val (.long x2), .second, .val (.long x3), .second, .val (.int x4), .val (.int (1 : Int32)), .val (.long v13), .second, .val (.long v14), .second, .val (.long v15), .second, .val (.double v34), .second, .val (.double v61), .second, .unset, .unset, .unset, .unset] [(.int (lcmpW v14 v13))])) (T75.setTop (mkF m 149 #[.val (.long x0), .second, .val (.long x1), .second, .val (.long x2), .second, .val (.long x3), .second, .val (.int x4), .val (.int (1 : Int32)), .val (.long v13), .second, .val (.long v14), .second, .val (.long v15), .second, .val (.double v34), .second, .val (.double v61), .second, .unset, .unset, .unset, .unset] [])) := by
        refine XS.ifNo X75.here hx rfl (hb hby at_146) rfl ((if0 _ _).trans (teq ((lw_eq v14 v13).mpr hc146)).2) ?_
        exact Steps.refl _
      have pre77 := pre76.trans st77
      obtain ⟨v78, hv78⟩ : ∃ z : Int32, z = (cmpValue (FP.dcmp v34 own_d0) .l) := ⟨_, rfl⟩
      have st79 : Steps p.tables e below (T75.setTop (mkF m 149 #[.val (.long x0), .second, .val (.long x1), .second, .val (.long x2), .second, .val (.long x3), .second, .val (.int x4), .val (.int (1 : Int32)), .val (.long v13), .second, .val (.long v14), .second, .val (.long v15), .second, .val (.double v34), .second, .val (.double v61), .second, .unset, .unset, .unset, .unset] [])) (T75.setTop (mkF m 158 #[.val (.long x0), .second, .val (.long x1), .second, .val (.long x2), .second, .val (.long x3), .second, .val (.int x4), .val (.int (1 : Int32)), .val (.long v13), .second, .val (.long v14), .second, .val (.long v15), .second, .val (.double v34), .second, .val (.double v61), .second, .unset, .unset, .unset, .unset] [(.int v78)])) := by
        subst v78
        refine XS.iload X75.here hx rfl (hb hby at_149) rfl ?_
        show Steps p.tables e below (T75.setTop (mkF m 151 #[.val (.long x0), .second, .val (.long x1), .second, .val (.long x2), .second, .val (.long x3), .second, .val (.int x4), .val (.int (1 : Int32)), .val (.long v13), .second, .val (.long v14), .second, .val (.long v15), .second, .val (.double v34), .second, .val (.double v61), .second, .unset, .unset, .unset, .unset] [(.int (1 : Int32))])) _
        refine XS.ifNo X75.here hx rfl (hb hby at_151) rfl ((if0 _ _).trans (feq (by decide : ¬ ((1 : Int32) = (0 : Int32)))).1) ?_
        show Steps p.tables e below (T75.setTop (mkF m 154 #[.val (.long x0), .second, .val (.long x1), .second, .val (.long x2), .second, .val (.long x3), .second, .val (.int x4), .val (.int (1 : Int32)), .val (.long v13), .second, .val (.long v14), .second, .val (.long v15), .second, .val (.double v34), .second, .val (.double v61), .second, .unset, .unset, .unset, .unset] [])) _
        refine XS.dload X75.here hx rfl (hb hby at_154) rfl ?_
        show Steps p.tables e below (T75.setTop (mkF m 156 #[.val (.long x0), .second, .val (.long x1), .second, .val (.long x2), .second, .val (.long x3), .second, .val (.int x4), .val (.int (1 : Int32)), .val (.long v13), .second, .val (.long v14), .second, .val (.long v15), .second, .val (.double v34), .second, .val (.double v61), .second, .unset, .unset, .unset, .unset] [(.double v34)])) _
        refine XS.dconst0 X75.here hx rfl (hb hby at_156) (v := own_d0) rfl ?_
        show Steps p.tables e below (T75.setTop (mkF m 157 #[.val (.long x0), .second, .val (.long x1), .second, .val (.long x2), .second, .val (.long x3), .second, .val (.int x4), .val (.int (1 : Int32)), .val (.long v13), .second, .val (.long v14), .second, .val (.long v15), .second, .val (.double v34), .second, .val (.double v61), .second, .unset, .unset, .unset, .unset] [(.double own_d0), (.double v34)])) _
        refine XS.dcmpS X75.here hx rfl (hb hby at_157) rfl rfl ?_
        show Steps p.tables e below (T75.setTop (mkF m 158 #[.val (.long x0), .second, .val (.long x1), .second, .val (.long x2), .second, .val (.long x3), .second, .val (.int x4), .val (.int (1 : Int32)), .val (.long v13), .second, .val (.long v14), .second, .val (.long v15), .second, .val (.double v34), .second, .val (.double v61), .second, .unset, .unset, .unset, .unset] [(.int (cmpValue (FP.dcmp v34 own_d0) .l))])) _
        exact Steps.refl _
      have pre79 := pre77.trans st79
      have hc158 : v78 = (0 : Int32) := by
        rw [hv78, hv34]
        exact own_158 hP1 hc146
      have st80 : Steps p.tables e below (T75.setTop (mkF m 158 #[.val (.long x0), .second, .val (.long x1), .second, .val (.long x2), .second, .val (.long x3), .second, .val (.int x4), .val (.int (1 : Int32)), .val (.long v13), .second, .val (.long v14), .second, .val (.long v15), .second, .val (.double v34), .second, .val (.double v61), .second, .unset, .unset, .unset, .unset] [(.int v78)])) (T75.setTop (mkF m 161 #[.val (.long x0), .second, .val (.long x1), .second, .val (.long x2), .second, .val (.long x3), .second, .val (.int x4), .val (.int (1 : Int32)), .val (.long v13), .second, .val (.long v14), .second, .val (.long v15), .second, .val (.double v34), .second, .val (.double v61), .second, .unset, .unset, .unset, .unset] [])) := by
        refine XS.ifNo X75.here hx rfl (hb hby at_158) rfl ((if0 _ _).trans (teq hc158).2) ?_
        exact Steps.refl _
      have pre80 := pre79.trans st80
      have st81 : Steps p.tables e below (T75.setTop (mkF m 161 #[.val (.long x0), .second, .val (.long x1), .second, .val (.long x2), .second, .val (.long x3), .second, .val (.int x4), .val (.int (1 : Int32)), .val (.long v13), .second, .val (.long v14), .second, .val (.long v15), .second, .val (.double v34), .second, .val (.double v61), .second, .unset, .unset, .unset, .unset] [])) (T75.setTop (mkF m 168 #[.val (.long x0), .second, .val (.long x1), .second, .val (.long x2), .second, .val (.long x3), .second, .val (.int x4), .val (.int (1 : Int32)), .val (.long v13), .second, .val (.long v14), .second, .val (.long v15), .second, .val (.double v34), .second, .val (.double v61), .second, .unset, .unset, .unset, .unset] [])) := by
        refine XS.iconst X75.here hx rfl (hb hby at_161) ?_
        show Steps p.tables e below (T75.setTop (mkF m 162 #[.val (.long x0), .second, .val (.long x1), .second, .val (.long x2), .second, .val (.long x3), .second, .val (.int x4), .val (.int (1 : Int32)), .val (.long v13), .second, .val (.long v14), .second, .val (.long v15), .second, .val (.double v34), .second, .val (.double v61), .second, .unset, .unset, .unset, .unset] [(.int (1 : Int32))])) _
        refine XS.goto X75.here hx rfl (pc0 := 162) (pc' := 166) rfl (hb hby at_162) (by decide) (by decide) ?_
        show Steps p.tables e below (T75.setTop (mkF m 166 #[.val (.long x0), .second, .val (.long x1), .second, .val (.long x2), .second, .val (.long x3), .second, .val (.int x4), .val (.int (1 : Int32)), .val (.long v13), .second, .val (.long v14), .second, .val (.long v15), .second, .val (.double v34), .second, .val (.double v61), .second, .unset, .unset, .unset, .unset] [(.int (1 : Int32))])) _
        refine XS.istore X75.here hx rfl (hb hby at_166) rfl (l' := #[.val (.long x0), .second, .val (.long x1), .second, .val (.long x2), .second, .val (.long x3), .second, .val (.int x4), .val (.int (1 : Int32)), .val (.long v13), .second, .val (.long v14), .second, .val (.long v15), .second, .val (.double v34), .second, .val (.double v61), .second, .unset, .unset, .unset, .unset]) rfl ?_
        show Steps p.tables e below (T75.setTop (mkF m 168 #[.val (.long x0), .second, .val (.long x1), .second, .val (.long x2), .second, .val (.long x3), .second, .val (.int x4), .val (.int (1 : Int32)), .val (.long v13), .second, .val (.long v14), .second, .val (.long v15), .second, .val (.double v34), .second, .val (.double v61), .second, .unset, .unset, .unset, .unset] [])) _
        exact Steps.refl _
      have pre81 := pre80.trans st81
      subst v78
      exact ⟨T75, _, _, X75, e75, N75, Z75, K75, pre81, J75_0, J75_1, J75_2, J75_3, J75_4, J75_5, J75_6, J75_7, J75_8, J75_9, J75_10, J75_11⟩
    · skip
      have st82 : Steps p.tables e below (T75.setTop (mkF m 146 #[.val (.long x0), .second, .val (.long x1), .second, .val (.long x2), .second, .val (.long x3), .second, .val (.int x4), .val (.int (1 : Int32)), .val (.long v13), .second, .val (.long v14), .second, .val (.long v15), .second, .val (.double v34), .second, .val (.double v61), .second, .unset, .unset, .unset, .unset] [(.int (lcmpW v14 v13))])) (T75.setTop (mkF m 168 #[.val (.long x0), .second, .val (.long x1), .second, .val (.long x2), .second, .val (.long x3), .second, .val (.int x4), .val (.int (1 : Int32)), .val (.long v13), .second, .val (.long v14), .second, .val (.long v15), .second, .val (.double v34), .second, .val (.double v61), .second, .unset, .unset, .unset, .unset] [])) := by
        refine XS.ifYes X75.here hx rfl (pc0 := 146) (pc' := 168) rfl (hb hby at_146) rfl ((if0 _ _).trans (feq (fun q => hc146 ((lw_eq v14 v13).mp q))).2) (by decide) (by decide) ?_
        exact Steps.refl _
      have pre82 := pre76.trans st82
      exact ⟨T75, _, _, X75, e75, N75, Z75, K75, pre82, J75_0, J75_0, J75_2, J75_3, J75_4, J75_4, J75_6, J75_7, J75_8, J75_8, J75_10, J75_11⟩
  have st84 : Steps p.tables e below (T83.setTop (mkF m 168 #[.val (.long x0), .second, .val (.long x1), .second, .val (.long x2), .second, .val (.long x3), .second, .val (.int x4), .val (.int (1 : Int32)), .val (.long v13), .second, .val (.long v14), .second, .val (.long v15), .second, .val (.double v34), .second, .val (.double v61), .second, .unset, .unset, .unset, .unset] [])) (T83.setTop (mkF m 173 #[.val (.long x0), .second, .val (.long x1), .second, .val (.long x2), .second, .val (.long x3), .second, .val (.int x4), .val (.int (1 : Int32)), .val (.long v13), .second, .val (.long v14), .second, .val (.long v15), .second, .val (.double v34), .second, .val (.double v61), .second, .unset, .unset, .unset, .unset] [(.int (lcmpW v14 v15))])) := by
    refine XS.lload X83.here hx rfl (hb hby at_168) rfl ?_
    show Steps p.tables e below (T83.setTop (mkF m 170 #[.val (.long x0), .second, .val (.long x1), .second, .val (.long x2), .second, .val (.long x3), .second, .val (.int x4), .val (.int (1 : Int32)), .val (.long v13), .second, .val (.long v14), .second, .val (.long v15), .second, .val (.double v34), .second, .val (.double v61), .second, .unset, .unset, .unset, .unset] [(.long v14)])) _
    refine XS.lload X83.here hx rfl (hb hby at_170) rfl ?_
    show Steps p.tables e below (T83.setTop (mkF m 172 #[.val (.long x0), .second, .val (.long x1), .second, .val (.long x2), .second, .val (.long x3), .second, .val (.int x4), .val (.int (1 : Int32)), .val (.long v13), .second, .val (.long v14), .second, .val (.long v15), .second, .val (.double v34), .second, .val (.double v61), .second, .unset, .unset, .unset, .unset] [(.long v15), (.long v14)])) _
    refine XS.lcmp X83.here hx rfl (hb hby at_172) rfl ?_
    show Steps p.tables e below (T83.setTop (mkF m 173 #[.val (.long x0), .second, .val (.long x1), .second, .val (.long x2), .second, .val (.long x3), .second, .val (.int x4), .val (.int (1 : Int32)), .val (.long v13), .second, .val (.long v14), .second, .val (.long v15), .second, .val (.double v34), .second, .val (.double v61), .second, .unset, .unset, .unset, .unset] [(.int (lcmpW v14 v15))])) _
    exact Steps.refl _
  have pre84 := pre83.trans st84
  obtain ⟨T91, h91, lc91, X91, e91, N91, Z91, K91, pre91, J91_0, J91_1, J91_2, J91_3, J91_4, J91_5, J91_6, J91_7, J91_8, J91_9, J91_10, J91_11⟩ : ∃ (T' : State) (h' : Heap) (lc : List Loc), Stand p l e room_1 s m #[(.long x0), (.long x1), (.long x2), (.long x3), (.int x4)] below meth c T' lc 3 6 ∧ T'.heap = h' ∧ Fr n0 lc ∧ n0 ≤ h'.size ∧ Keep h0 h' [] ∧ Steps p.tables e below (s₁.setTop (entryFrame m #[(.long x0), (.long x1), (.long x2), (.long x3), (.int x4)] maxLocals)) (T'.setTop (mkF m 196 #[.val (.long x0), .second, .val (.long x1), .second, .val (.long x2), .second, .val (.long x3), .second, .val (.int x4), .val (.int (1 : Int32)), .val (.long v13), .second, .val (.long v14), .second, .val (.long v15), .second, .val (.double v34), .second, .val (.double v61), .second, .unset, .unset, .unset, .unset] [])) ∧ Exa Z h' b1 "com/example/nestmine/nestmine/Conformance$Score" ∧ Exa Z h' b1 "com/example/nestmine/nestmine/Conformance$Score" ∧ Fld Z h' b1 "com/example/nestmine/nestmine/Conformance$Score" "lost" "J" (.long x3) ∧ Fld Z h' b1 "com/example/nestmine/nestmine/Conformance$Score" "possible" "J" (.long (0 : Int64)) ∧ Exa Z h' b17 "com/example/nestmine/nestmine/Conformance$Score" ∧ Exa Z h' b17 "com/example/nestmine/nestmine/Conformance$Score" ∧ Fld Z h' b17 "com/example/nestmine/nestmine/Conformance$Score" "lost" "J" (.long v14) ∧ Fld Z h' b17 "com/example/nestmine/nestmine/Conformance$Score" "possible" "J" (.long v13) ∧ Exa Z h' b36 "com/example/nestmine/nestmine/Conformance$Score" ∧ Exa Z h' b36 "com/example/nestmine/nestmine/Conformance$Score" ∧ Fld Z h' b36 "com/example/nestmine/nestmine/Conformance$Score" "lost" "J" (.long v15) ∧ Fld Z h' b36 "com/example/nestmine/nestmine/Conformance$Score" "possible" "J" (.long v13) := by
    by_cases hc173 : v15 < v14
    · skip
      have st85 : Steps p.tables e below (T83.setTop (mkF m 173 #[.val (.long x0), .second, .val (.long x1), .second, .val (.long x2), .second, .val (.long x3), .second, .val (.int x4), .val (.int (1 : Int32)), .val (.long v13), .second, .val (.long v14), .second, .val (.long v15), .second, .val (.double v34), .second, .val (.double v61), .second, .unset, .unset, .unset, .unset] [(.int (lcmpW v14 v15))])) (T83.setTop (mkF m 196 #[.val (.long x0), .second, .val (.long x1), .second, .val (.long x2), .second, .val (.long x3), .second, .val (.int x4), .val (.int (1 : Int32)), .val (.long v13), .second, .val (.long v14), .second, .val (.long v15), .second, .val (.double v34), .second, .val (.double v61), .second, .unset, .unset, .unset, .unset] [])) := by
        refine XS.ifYes X83.here hx rfl (pc0 := 173) (pc' := 196) rfl (hb hby at_173) rfl ((if0 _ _).trans (tlt ((lw_gt v14 v15).mpr hc173)).2.2.1) (by decide) (by decide) ?_
        exact Steps.refl _
      have pre85 := pre84.trans st85
      exact ⟨T83, _, _, X83, e83, N83, Z83, K83, pre85, J83_0, J83_1, J83_2, J83_3, J83_4, J83_5, J83_6, J83_7, J83_8, J83_9, J83_10, J83_11⟩
    · skip
      have st86 : Steps p.tables e below (T83.setTop (mkF m 173 #[.val (.long x0), .second, .val (.long x1), .second, .val (.long x2), .second, .val (.long x3), .second, .val (.int x4), .val (.int (1 : Int32)), .val (.long v13), .second, .val (.long v14), .second, .val (.long v15), .second, .val (.double v34), .second, .val (.double v61), .second, .unset, .unset, .unset, .unset] [(.int (lcmpW v14 v15))])) (T83.setTop (mkF m 176 #[.val (.long x0), .second, .val (.long x1), .second, .val (.long x2), .second, .val (.long x3), .second, .val (.int x4), .val (.int (1 : Int32)), .val (.long v13), .second, .val (.long v14), .second, .val (.long v15), .second, .val (.double v34), .second, .val (.double v61), .second, .unset, .unset, .unset, .unset] [])) := by
        refine XS.ifNo X83.here hx rfl (hb hby at_173) rfl ((if0 _ _).trans (flt (fun q => hc173 ((lw_gt v14 v15).mp q))).2.2.1) ?_
        exact Steps.refl _
      have pre86 := pre84.trans st86
      obtain ⟨v87, hv87⟩ : ∃ z : Int32, z = (cmpValue (FP.dcmp v34 v61) .l) := ⟨_, rfl⟩
      have st88 : Steps p.tables e below (T83.setTop (mkF m 176 #[.val (.long x0), .second, .val (.long x1), .second, .val (.long x2), .second, .val (.long x3), .second, .val (.int x4), .val (.int (1 : Int32)), .val (.long v13), .second, .val (.long v14), .second, .val (.long v15), .second, .val (.double v34), .second, .val (.double v61), .second, .unset, .unset, .unset, .unset] [])) (T83.setTop (mkF m 186 #[.val (.long x0), .second, .val (.long x1), .second, .val (.long x2), .second, .val (.long x3), .second, .val (.int x4), .val (.int (1 : Int32)), .val (.long v13), .second, .val (.long v14), .second, .val (.long v15), .second, .val (.double v34), .second, .val (.double v61), .second, .unset, .unset, .unset, .unset] [(.int v87)])) := by
        subst v87
        refine XS.iload X83.here hx rfl (hb hby at_176) rfl ?_
        show Steps p.tables e below (T83.setTop (mkF m 178 #[.val (.long x0), .second, .val (.long x1), .second, .val (.long x2), .second, .val (.long x3), .second, .val (.int x4), .val (.int (1 : Int32)), .val (.long v13), .second, .val (.long v14), .second, .val (.long v15), .second, .val (.double v34), .second, .val (.double v61), .second, .unset, .unset, .unset, .unset] [(.int (1 : Int32))])) _
        refine XS.ifNo X83.here hx rfl (hb hby at_178) rfl ((if0 _ _).trans (feq (by decide : ¬ ((1 : Int32) = (0 : Int32)))).1) ?_
        show Steps p.tables e below (T83.setTop (mkF m 181 #[.val (.long x0), .second, .val (.long x1), .second, .val (.long x2), .second, .val (.long x3), .second, .val (.int x4), .val (.int (1 : Int32)), .val (.long v13), .second, .val (.long v14), .second, .val (.long v15), .second, .val (.double v34), .second, .val (.double v61), .second, .unset, .unset, .unset, .unset] [])) _
        refine XS.dload X83.here hx rfl (hb hby at_181) rfl ?_
        show Steps p.tables e below (T83.setTop (mkF m 183 #[.val (.long x0), .second, .val (.long x1), .second, .val (.long x2), .second, .val (.long x3), .second, .val (.int x4), .val (.int (1 : Int32)), .val (.long v13), .second, .val (.long v14), .second, .val (.long v15), .second, .val (.double v34), .second, .val (.double v61), .second, .unset, .unset, .unset, .unset] [(.double v34)])) _
        refine XS.dload X83.here hx rfl (hb hby at_183) rfl ?_
        show Steps p.tables e below (T83.setTop (mkF m 185 #[.val (.long x0), .second, .val (.long x1), .second, .val (.long x2), .second, .val (.long x3), .second, .val (.int x4), .val (.int (1 : Int32)), .val (.long v13), .second, .val (.long v14), .second, .val (.long v15), .second, .val (.double v34), .second, .val (.double v61), .second, .unset, .unset, .unset, .unset] [(.double v61), (.double v34)])) _
        refine XS.dcmpS X83.here hx rfl (hb hby at_185) rfl rfl ?_
        show Steps p.tables e below (T83.setTop (mkF m 186 #[.val (.long x0), .second, .val (.long x1), .second, .val (.long x2), .second, .val (.long x3), .second, .val (.int x4), .val (.int (1 : Int32)), .val (.long v13), .second, .val (.long v14), .second, .val (.long v15), .second, .val (.double v34), .second, .val (.double v61), .second, .unset, .unset, .unset, .unset] [(.int (cmpValue (FP.dcmp v34 v61) .l))])) _
        exact Steps.refl _
      have pre88 := pre86.trans st88
      have hc186 : ¬ (v87 < (0 : Int32)) := by
        rw [hv87, hv34, hv61]
        exact own_186 hP1 hP2 hc173
      have st89 : Steps p.tables e below (T83.setTop (mkF m 186 #[.val (.long x0), .second, .val (.long x1), .second, .val (.long x2), .second, .val (.long x3), .second, .val (.int x4), .val (.int (1 : Int32)), .val (.long v13), .second, .val (.long v14), .second, .val (.long v15), .second, .val (.double v34), .second, .val (.double v61), .second, .unset, .unset, .unset, .unset] [(.int v87)])) (T83.setTop (mkF m 189 #[.val (.long x0), .second, .val (.long x1), .second, .val (.long x2), .second, .val (.long x3), .second, .val (.int x4), .val (.int (1 : Int32)), .val (.long v13), .second, .val (.long v14), .second, .val (.long v15), .second, .val (.double v34), .second, .val (.double v61), .second, .unset, .unset, .unset, .unset] [])) := by
        refine XS.ifNo X83.here hx rfl (hb hby at_186) rfl ((if0 _ _).trans (flt hc186).1) ?_
        exact Steps.refl _
      have pre89 := pre88.trans st89
      have st90 : Steps p.tables e below (T83.setTop (mkF m 189 #[.val (.long x0), .second, .val (.long x1), .second, .val (.long x2), .second, .val (.long x3), .second, .val (.int x4), .val (.int (1 : Int32)), .val (.long v13), .second, .val (.long v14), .second, .val (.long v15), .second, .val (.double v34), .second, .val (.double v61), .second, .unset, .unset, .unset, .unset] [])) (T83.setTop (mkF m 196 #[.val (.long x0), .second, .val (.long x1), .second, .val (.long x2), .second, .val (.long x3), .second, .val (.int x4), .val (.int (1 : Int32)), .val (.long v13), .second, .val (.long v14), .second, .val (.long v15), .second, .val (.double v34), .second, .val (.double v61), .second, .unset, .unset, .unset, .unset] [])) := by
        refine XS.iconst X83.here hx rfl (hb hby at_189) ?_
        show Steps p.tables e below (T83.setTop (mkF m 190 #[.val (.long x0), .second, .val (.long x1), .second, .val (.long x2), .second, .val (.long x3), .second, .val (.int x4), .val (.int (1 : Int32)), .val (.long v13), .second, .val (.long v14), .second, .val (.long v15), .second, .val (.double v34), .second, .val (.double v61), .second, .unset, .unset, .unset, .unset] [(.int (1 : Int32))])) _
        refine XS.goto X83.here hx rfl (pc0 := 190) (pc' := 194) rfl (hb hby at_190) (by decide) (by decide) ?_
        show Steps p.tables e below (T83.setTop (mkF m 194 #[.val (.long x0), .second, .val (.long x1), .second, .val (.long x2), .second, .val (.long x3), .second, .val (.int x4), .val (.int (1 : Int32)), .val (.long v13), .second, .val (.long v14), .second, .val (.long v15), .second, .val (.double v34), .second, .val (.double v61), .second, .unset, .unset, .unset, .unset] [(.int (1 : Int32))])) _
        refine XS.istore X83.here hx rfl (hb hby at_194) rfl (l' := #[.val (.long x0), .second, .val (.long x1), .second, .val (.long x2), .second, .val (.long x3), .second, .val (.int x4), .val (.int (1 : Int32)), .val (.long v13), .second, .val (.long v14), .second, .val (.long v15), .second, .val (.double v34), .second, .val (.double v61), .second, .unset, .unset, .unset, .unset]) rfl ?_
        show Steps p.tables e below (T83.setTop (mkF m 196 #[.val (.long x0), .second, .val (.long x1), .second, .val (.long x2), .second, .val (.long x3), .second, .val (.int x4), .val (.int (1 : Int32)), .val (.long v13), .second, .val (.long v14), .second, .val (.long v15), .second, .val (.double v34), .second, .val (.double v61), .second, .unset, .unset, .unset, .unset] [])) _
        exact Steps.refl _
      have pre90 := pre89.trans st90
      subst v87
      exact ⟨T83, _, _, X83, e83, N83, Z83, K83, pre90, J83_0, J83_0, J83_2, J83_3, J83_4, J83_4, J83_6, J83_7, J83_8, J83_8, J83_10, J83_11⟩
  have st92 : Steps p.tables e below (T91.setTop (mkF m 196 #[.val (.long x0), .second, .val (.long x1), .second, .val (.long x2), .second, .val (.long x3), .second, .val (.int x4), .val (.int (1 : Int32)), .val (.long v13), .second, .val (.long v14), .second, .val (.long v15), .second, .val (.double v34), .second, .val (.double v61), .second, .unset, .unset, .unset, .unset] [])) (T91.setTop (mkF m 201 #[.val (.long x0), .second, .val (.long x1), .second, .val (.long x2), .second, .val (.long x3), .second, .val (.int x4), .val (.int (1 : Int32)), .val (.long v13), .second, .val (.long v14), .second, .val (.long v15), .second, .val (.double v34), .second, .val (.double v61), .second, .unset, .unset, .unset, .unset] [(.int (lcmpW v15 v14))])) := by
    refine XS.lload X91.here hx rfl (hb hby at_196) rfl ?_
    show Steps p.tables e below (T91.setTop (mkF m 198 #[.val (.long x0), .second, .val (.long x1), .second, .val (.long x2), .second, .val (.long x3), .second, .val (.int x4), .val (.int (1 : Int32)), .val (.long v13), .second, .val (.long v14), .second, .val (.long v15), .second, .val (.double v34), .second, .val (.double v61), .second, .unset, .unset, .unset, .unset] [(.long v15)])) _
    refine XS.lload X91.here hx rfl (hb hby at_198) rfl ?_
    show Steps p.tables e below (T91.setTop (mkF m 200 #[.val (.long x0), .second, .val (.long x1), .second, .val (.long x2), .second, .val (.long x3), .second, .val (.int x4), .val (.int (1 : Int32)), .val (.long v13), .second, .val (.long v14), .second, .val (.long v15), .second, .val (.double v34), .second, .val (.double v61), .second, .unset, .unset, .unset, .unset] [(.long v14), (.long v15)])) _
    refine XS.lcmp X91.here hx rfl (hb hby at_200) rfl ?_
    show Steps p.tables e below (T91.setTop (mkF m 201 #[.val (.long x0), .second, .val (.long x1), .second, .val (.long x2), .second, .val (.long x3), .second, .val (.int x4), .val (.int (1 : Int32)), .val (.long v13), .second, .val (.long v14), .second, .val (.long v15), .second, .val (.double v34), .second, .val (.double v61), .second, .unset, .unset, .unset, .unset] [(.int (lcmpW v15 v14))])) _
    exact Steps.refl _
  have pre92 := pre91.trans st92
  obtain ⟨T99, h99, lc99, X99, e99, N99, Z99, K99, pre99, J99_0, J99_1, J99_2, J99_3, J99_4, J99_5, J99_6, J99_7, J99_8, J99_9, J99_10, J99_11⟩ : ∃ (T' : State) (h' : Heap) (lc : List Loc), Stand p l e room_1 s m #[(.long x0), (.long x1), (.long x2), (.long x3), (.int x4)] below meth c T' lc 3 6 ∧ T'.heap = h' ∧ Fr n0 lc ∧ n0 ≤ h'.size ∧ Keep h0 h' [] ∧ Steps p.tables e below (s₁.setTop (entryFrame m #[(.long x0), (.long x1), (.long x2), (.long x3), (.int x4)] maxLocals)) (T'.setTop (mkF m 224 #[.val (.long x0), .second, .val (.long x1), .second, .val (.long x2), .second, .val (.long x3), .second, .val (.int x4), .val (.int (1 : Int32)), .val (.long v13), .second, .val (.long v14), .second, .val (.long v15), .second, .val (.double v34), .second, .val (.double v61), .second, .unset, .unset, .unset, .unset] [])) ∧ Exa Z h' b1 "com/example/nestmine/nestmine/Conformance$Score" ∧ Exa Z h' b1 "com/example/nestmine/nestmine/Conformance$Score" ∧ Fld Z h' b1 "com/example/nestmine/nestmine/Conformance$Score" "lost" "J" (.long x3) ∧ Fld Z h' b1 "com/example/nestmine/nestmine/Conformance$Score" "possible" "J" (.long (0 : Int64)) ∧ Exa Z h' b17 "com/example/nestmine/nestmine/Conformance$Score" ∧ Exa Z h' b17 "com/example/nestmine/nestmine/Conformance$Score" ∧ Fld Z h' b17 "com/example/nestmine/nestmine/Conformance$Score" "lost" "J" (.long v14) ∧ Fld Z h' b17 "com/example/nestmine/nestmine/Conformance$Score" "possible" "J" (.long v13) ∧ Exa Z h' b36 "com/example/nestmine/nestmine/Conformance$Score" ∧ Exa Z h' b36 "com/example/nestmine/nestmine/Conformance$Score" ∧ Fld Z h' b36 "com/example/nestmine/nestmine/Conformance$Score" "lost" "J" (.long v15) ∧ Fld Z h' b36 "com/example/nestmine/nestmine/Conformance$Score" "possible" "J" (.long v13) := by
    by_cases hc201 : v14 < v15
    · skip
      have st93 : Steps p.tables e below (T91.setTop (mkF m 201 #[.val (.long x0), .second, .val (.long x1), .second, .val (.long x2), .second, .val (.long x3), .second, .val (.int x4), .val (.int (1 : Int32)), .val (.long v13), .second, .val (.long v14), .second, .val (.long v15), .second, .val (.double v34), .second, .val (.double v61), .second, .unset, .unset, .unset, .unset] [(.int (lcmpW v15 v14))])) (T91.setTop (mkF m 224 #[.val (.long x0), .second, .val (.long x1), .second, .val (.long x2), .second, .val (.long x3), .second, .val (.int x4), .val (.int (1 : Int32)), .val (.long v13), .second, .val (.long v14), .second, .val (.long v15), .second, .val (.double v34), .second, .val (.double v61), .second, .unset, .unset, .unset, .unset] [])) := by
        refine XS.ifYes X91.here hx rfl (pc0 := 201) (pc' := 224) rfl (hb hby at_201) rfl ((if0 _ _).trans (tlt ((lw_gt v15 v14).mpr hc201)).2.2.1) (by decide) (by decide) ?_
        exact Steps.refl _
      have pre93 := pre92.trans st93
      exact ⟨T91, _, _, X91, e91, N91, Z91, K91, pre93, J91_0, J91_1, J91_2, J91_3, J91_4, J91_5, J91_6, J91_7, J91_8, J91_9, J91_10, J91_11⟩
    · skip
      have st94 : Steps p.tables e below (T91.setTop (mkF m 201 #[.val (.long x0), .second, .val (.long x1), .second, .val (.long x2), .second, .val (.long x3), .second, .val (.int x4), .val (.int (1 : Int32)), .val (.long v13), .second, .val (.long v14), .second, .val (.long v15), .second, .val (.double v34), .second, .val (.double v61), .second, .unset, .unset, .unset, .unset] [(.int (lcmpW v15 v14))])) (T91.setTop (mkF m 204 #[.val (.long x0), .second, .val (.long x1), .second, .val (.long x2), .second, .val (.long x3), .second, .val (.int x4), .val (.int (1 : Int32)), .val (.long v13), .second, .val (.long v14), .second, .val (.long v15), .second, .val (.double v34), .second, .val (.double v61), .second, .unset, .unset, .unset, .unset] [])) := by
        refine XS.ifNo X91.here hx rfl (hb hby at_201) rfl ((if0 _ _).trans (flt (fun q => hc201 ((lw_gt v15 v14).mp q))).2.2.1) ?_
        exact Steps.refl _
      have pre94 := pre92.trans st94
      obtain ⟨v95, hv95⟩ : ∃ z : Int32, z = (cmpValue (FP.dcmp v61 v34) .l) := ⟨_, rfl⟩
      have st96 : Steps p.tables e below (T91.setTop (mkF m 204 #[.val (.long x0), .second, .val (.long x1), .second, .val (.long x2), .second, .val (.long x3), .second, .val (.int x4), .val (.int (1 : Int32)), .val (.long v13), .second, .val (.long v14), .second, .val (.long v15), .second, .val (.double v34), .second, .val (.double v61), .second, .unset, .unset, .unset, .unset] [])) (T91.setTop (mkF m 214 #[.val (.long x0), .second, .val (.long x1), .second, .val (.long x2), .second, .val (.long x3), .second, .val (.int x4), .val (.int (1 : Int32)), .val (.long v13), .second, .val (.long v14), .second, .val (.long v15), .second, .val (.double v34), .second, .val (.double v61), .second, .unset, .unset, .unset, .unset] [(.int v95)])) := by
        subst v95
        refine XS.iload X91.here hx rfl (hb hby at_204) rfl ?_
        show Steps p.tables e below (T91.setTop (mkF m 206 #[.val (.long x0), .second, .val (.long x1), .second, .val (.long x2), .second, .val (.long x3), .second, .val (.int x4), .val (.int (1 : Int32)), .val (.long v13), .second, .val (.long v14), .second, .val (.long v15), .second, .val (.double v34), .second, .val (.double v61), .second, .unset, .unset, .unset, .unset] [(.int (1 : Int32))])) _
        refine XS.ifNo X91.here hx rfl (hb hby at_206) rfl ((if0 _ _).trans (feq (by decide : ¬ ((1 : Int32) = (0 : Int32)))).1) ?_
        show Steps p.tables e below (T91.setTop (mkF m 209 #[.val (.long x0), .second, .val (.long x1), .second, .val (.long x2), .second, .val (.long x3), .second, .val (.int x4), .val (.int (1 : Int32)), .val (.long v13), .second, .val (.long v14), .second, .val (.long v15), .second, .val (.double v34), .second, .val (.double v61), .second, .unset, .unset, .unset, .unset] [])) _
        refine XS.dload X91.here hx rfl (hb hby at_209) rfl ?_
        show Steps p.tables e below (T91.setTop (mkF m 211 #[.val (.long x0), .second, .val (.long x1), .second, .val (.long x2), .second, .val (.long x3), .second, .val (.int x4), .val (.int (1 : Int32)), .val (.long v13), .second, .val (.long v14), .second, .val (.long v15), .second, .val (.double v34), .second, .val (.double v61), .second, .unset, .unset, .unset, .unset] [(.double v61)])) _
        refine XS.dload X91.here hx rfl (hb hby at_211) rfl ?_
        show Steps p.tables e below (T91.setTop (mkF m 213 #[.val (.long x0), .second, .val (.long x1), .second, .val (.long x2), .second, .val (.long x3), .second, .val (.int x4), .val (.int (1 : Int32)), .val (.long v13), .second, .val (.long v14), .second, .val (.long v15), .second, .val (.double v34), .second, .val (.double v61), .second, .unset, .unset, .unset, .unset] [(.double v34), (.double v61)])) _
        refine XS.dcmpS X91.here hx rfl (hb hby at_213) rfl rfl ?_
        show Steps p.tables e below (T91.setTop (mkF m 214 #[.val (.long x0), .second, .val (.long x1), .second, .val (.long x2), .second, .val (.long x3), .second, .val (.int x4), .val (.int (1 : Int32)), .val (.long v13), .second, .val (.long v14), .second, .val (.long v15), .second, .val (.double v34), .second, .val (.double v61), .second, .unset, .unset, .unset, .unset] [(.int (cmpValue (FP.dcmp v61 v34) .l))])) _
        exact Steps.refl _
      have pre96 := pre94.trans st96
      have hc214 : ¬ (v95 < (0 : Int32)) := by
        rw [hv95, hv61, hv34]
        exact own_186 hP2 hP1 hc201
      have st97 : Steps p.tables e below (T91.setTop (mkF m 214 #[.val (.long x0), .second, .val (.long x1), .second, .val (.long x2), .second, .val (.long x3), .second, .val (.int x4), .val (.int (1 : Int32)), .val (.long v13), .second, .val (.long v14), .second, .val (.long v15), .second, .val (.double v34), .second, .val (.double v61), .second, .unset, .unset, .unset, .unset] [(.int v95)])) (T91.setTop (mkF m 217 #[.val (.long x0), .second, .val (.long x1), .second, .val (.long x2), .second, .val (.long x3), .second, .val (.int x4), .val (.int (1 : Int32)), .val (.long v13), .second, .val (.long v14), .second, .val (.long v15), .second, .val (.double v34), .second, .val (.double v61), .second, .unset, .unset, .unset, .unset] [])) := by
        refine XS.ifNo X91.here hx rfl (hb hby at_214) rfl ((if0 _ _).trans (flt hc214).1) ?_
        exact Steps.refl _
      have pre97 := pre96.trans st97
      have st98 : Steps p.tables e below (T91.setTop (mkF m 217 #[.val (.long x0), .second, .val (.long x1), .second, .val (.long x2), .second, .val (.long x3), .second, .val (.int x4), .val (.int (1 : Int32)), .val (.long v13), .second, .val (.long v14), .second, .val (.long v15), .second, .val (.double v34), .second, .val (.double v61), .second, .unset, .unset, .unset, .unset] [])) (T91.setTop (mkF m 224 #[.val (.long x0), .second, .val (.long x1), .second, .val (.long x2), .second, .val (.long x3), .second, .val (.int x4), .val (.int (1 : Int32)), .val (.long v13), .second, .val (.long v14), .second, .val (.long v15), .second, .val (.double v34), .second, .val (.double v61), .second, .unset, .unset, .unset, .unset] [])) := by
        refine XS.iconst X91.here hx rfl (hb hby at_217) ?_
        show Steps p.tables e below (T91.setTop (mkF m 218 #[.val (.long x0), .second, .val (.long x1), .second, .val (.long x2), .second, .val (.long x3), .second, .val (.int x4), .val (.int (1 : Int32)), .val (.long v13), .second, .val (.long v14), .second, .val (.long v15), .second, .val (.double v34), .second, .val (.double v61), .second, .unset, .unset, .unset, .unset] [(.int (1 : Int32))])) _
        refine XS.goto X91.here hx rfl (pc0 := 218) (pc' := 222) rfl (hb hby at_218) (by decide) (by decide) ?_
        show Steps p.tables e below (T91.setTop (mkF m 222 #[.val (.long x0), .second, .val (.long x1), .second, .val (.long x2), .second, .val (.long x3), .second, .val (.int x4), .val (.int (1 : Int32)), .val (.long v13), .second, .val (.long v14), .second, .val (.long v15), .second, .val (.double v34), .second, .val (.double v61), .second, .unset, .unset, .unset, .unset] [(.int (1 : Int32))])) _
        refine XS.istore X91.here hx rfl (hb hby at_222) rfl (l' := #[.val (.long x0), .second, .val (.long x1), .second, .val (.long x2), .second, .val (.long x3), .second, .val (.int x4), .val (.int (1 : Int32)), .val (.long v13), .second, .val (.long v14), .second, .val (.long v15), .second, .val (.double v34), .second, .val (.double v61), .second, .unset, .unset, .unset, .unset]) rfl ?_
        show Steps p.tables e below (T91.setTop (mkF m 224 #[.val (.long x0), .second, .val (.long x1), .second, .val (.long x2), .second, .val (.long x3), .second, .val (.int x4), .val (.int (1 : Int32)), .val (.long v13), .second, .val (.long v14), .second, .val (.long v15), .second, .val (.double v34), .second, .val (.double v61), .second, .unset, .unset, .unset, .unset] [])) _
        exact Steps.refl _
      have pre98 := pre97.trans st98
      subst v95
      exact ⟨T91, _, _, X91, e91, N91, Z91, K91, pre98, J91_0, J91_0, J91_2, J91_3, J91_4, J91_4, J91_6, J91_7, J91_8, J91_8, J91_10, J91_11⟩
  have st100 : Steps p.tables e below (T99.setTop (mkF m 224 #[.val (.long x0), .second, .val (.long x1), .second, .val (.long x2), .second, .val (.long x3), .second, .val (.int x4), .val (.int (1 : Int32)), .val (.long v13), .second, .val (.long v14), .second, .val (.long v15), .second, .val (.double v34), .second, .val (.double v61), .second, .unset, .unset, .unset, .unset] [])) (T99.setTop (mkF m 230 #[.val (.long x0), .second, .val (.long x1), .second, .val (.long x2), .second, .val (.long x3), .second, .val (.int x4), .val (.int (1 : Int32)), .val (.long v13), .second, .val (.long v14), .second, .val (.long v15), .second, .val (.double v34), .second, .val (.double v61), .second, .unset, .unset, .unset, .unset] [(.int (lcmpW v13 (2147483648 : Int64)))])) := by
    refine XS.lload X99.here hx rfl (hb hby at_224) rfl ?_
    show Steps p.tables e below (T99.setTop (mkF m 226 #[.val (.long x0), .second, .val (.long x1), .second, .val (.long x2), .second, .val (.long x3), .second, .val (.int x4), .val (.int (1 : Int32)), .val (.long v13), .second, .val (.long v14), .second, .val (.long v15), .second, .val (.double v34), .second, .val (.double v61), .second, .unset, .unset, .unset, .unset] [(.long v13)])) _
    refine X99.ldc2Long hx hown (mvT hZ (hw _ (List.mem_of_getElem? (i := 24) rfl))) (g := (mkF m 226 #[.val (.long x0), .second, .val (.long x1), .second, .val (.long x2), .second, .val (.long x3), .second, .val (.int x4), .val (.int (1 : Int32)), .val (.long v13), .second, .val (.long v14), .second, .val (.long v15), .second, .val (.double v34), .second, .val (.double v61), .second, .unset, .unset, .unset, .unset] [(.long v13)])) rfl (hb hby at_226) _ ?_
    show Steps p.tables e below (T99.setTop (mkF m 229 #[.val (.long x0), .second, .val (.long x1), .second, .val (.long x2), .second, .val (.long x3), .second, .val (.int x4), .val (.int (1 : Int32)), .val (.long v13), .second, .val (.long v14), .second, .val (.long v15), .second, .val (.double v34), .second, .val (.double v61), .second, .unset, .unset, .unset, .unset] [(.long (2147483648 : Int64)), (.long v13)])) _
    refine XS.lcmp X99.here hx rfl (hb hby at_229) rfl ?_
    show Steps p.tables e below (T99.setTop (mkF m 230 #[.val (.long x0), .second, .val (.long x1), .second, .val (.long x2), .second, .val (.long x3), .second, .val (.int x4), .val (.int (1 : Int32)), .val (.long v13), .second, .val (.long v14), .second, .val (.long v15), .second, .val (.double v34), .second, .val (.double v61), .second, .unset, .unset, .unset, .unset] [(.int (lcmpW v13 (2147483648 : Int64)))])) _
    exact Steps.refl _
  have pre100 := pre99.trans st100
  by_cases hc230 : (2147483648 : Int64) < v13
  · have st101 : Steps p.tables e below (T99.setTop (mkF m 230 #[.val (.long x0), .second, .val (.long x1), .second, .val (.long x2), .second, .val (.long x3), .second, .val (.int x4), .val (.int (1 : Int32)), .val (.long v13), .second, .val (.long v14), .second, .val (.long v15), .second, .val (.double v34), .second, .val (.double v61), .second, .unset, .unset, .unset, .unset] [(.int (lcmpW v13 (2147483648 : Int64)))])) (T99.setTop (mkF m 423 #[.val (.long x0), .second, .val (.long x1), .second, .val (.long x2), .second, .val (.long x3), .second, .val (.int x4), .val (.int (1 : Int32)), .val (.long v13), .second, .val (.long v14), .second, .val (.long v15), .second, .val (.double v34), .second, .val (.double v61), .second, .unset, .unset, .unset, .unset] [])) := by
      refine XS.ifYes X99.here hx rfl (pc0 := 230) (pc' := 423) rfl (hb hby at_230) rfl ((if0 _ _).trans (tlt ((lw_gt v13 (2147483648 : Int64)).mpr hc230)).2.2.1) (by decide) (by decide) ?_
      exact Steps.refl _
    have pre101 := pre100.trans st101
    have st102 : Steps p.tables e below (T99.setTop (mkF m 423 #[.val (.long x0), .second, .val (.long x1), .second, .val (.long x2), .second, .val (.long x3), .second, .val (.int x4), .val (.int (1 : Int32)), .val (.long v13), .second, .val (.long v14), .second, .val (.long v15), .second, .val (.double v34), .second, .val (.double v61), .second, .unset, .unset, .unset, .unset] [])) (T99.setTop (mkF m 425 #[.val (.long x0), .second, .val (.long x1), .second, .val (.long x2), .second, .val (.long x3), .second, .val (.int x4), .val (.int (1 : Int32)), .val (.long v13), .second, .val (.long v14), .second, .val (.long v15), .second, .val (.double v34), .second, .val (.double v61), .second, .unset, .unset, .unset, .unset] [(.int (1 : Int32))])) := by
      refine XS.iload X99.here hx rfl (hb hby at_423) rfl ?_
      show Steps p.tables e below (T99.setTop (mkF m 425 #[.val (.long x0), .second, .val (.long x1), .second, .val (.long x2), .second, .val (.long x3), .second, .val (.int x4), .val (.int (1 : Int32)), .val (.long v13), .second, .val (.long v14), .second, .val (.long v15), .second, .val (.double v34), .second, .val (.double v61), .second, .unset, .unset, .unset, .unset] [(.int (1 : Int32))])) _
      exact Steps.refl _
    have pre102 := pre101.trans st102
    obtain ⟨fs, hr, hrun, hended, hW, hsame⟩ := X99.leave (v := some (.int (1 : Int32))) (fun h => by rw [Bd.returns] at h; cases h)
    refine ⟨_, _, pre102.trans ?_, hrun, hended, _, _, rfl, ?_, ⟨_, rfl⟩, hW, hsame.mono (by decide) (by decide)⟩
    · show Steps p.tables e below (T99.setTop (mkF m 425 #[.val (.long x0), .second, .val (.long x1), .second, .val (.long x2), .second, .val (.long x3), .second, .val (.int x4), .val (.int (1 : Int32)), .val (.long v13), .second, .val (.long v14), .second, .val (.long v15), .second, .val (.double v34), .second, .val (.double v61), .second, .unset, .unset, .unset, .unset] [(.int (1 : Int32))])) _
      exact retN X99 hx (t := .boolean) Bd.returns (by simp) (hb hby at_425) hr
    · show Q0 Z x0 x1 x2 x3 x4 h0 n0 _ T99.heap _
      rw [e99]
      exact ⟨rfl, N99⟩
  · have st103 : Steps p.tables e below (T99.setTop (mkF m 230 #[.val (.long x0), .second, .val (.long x1), .second, .val (.long x2), .second, .val (.long x3), .second, .val (.int x4), .val (.int (1 : Int32)), .val (.long v13), .second, .val (.long v14), .second, .val (.long v15), .second, .val (.double v34), .second, .val (.double v61), .second, .unset, .unset, .unset, .unset] [(.int (lcmpW v13 (2147483648 : Int64)))])) (T99.setTop (mkF m 233 #[.val (.long x0), .second, .val (.long x1), .second, .val (.long x2), .second, .val (.long x3), .second, .val (.int x4), .val (.int (1 : Int32)), .val (.long v13), .second, .val (.long v14), .second, .val (.long v15), .second, .val (.double v34), .second, .val (.double v61), .second, .unset, .unset, .unset, .unset] [])) := by
      refine XS.ifNo X99.here hx rfl (hb hby at_230) rfl ((if0 _ _).trans (flt (fun q => hc230 ((lw_gt v13 (2147483648 : Int64)).mp q))).2.2.1) ?_
      exact Steps.refl _
    have pre103 := pre100.trans st103
    have st104 : Steps p.tables e below (T99.setTop (mkF m 233 #[.val (.long x0), .second, .val (.long x1), .second, .val (.long x2), .second, .val (.long x3), .second, .val (.int x4), .val (.int (1 : Int32)), .val (.long v13), .second, .val (.long v14), .second, .val (.long v15), .second, .val (.double v34), .second, .val (.double v61), .second, .unset, .unset, .unset, .unset] [])) (T99.setTop (mkF m 237 #[.val (.long x0), .second, .val (.long x1), .second, .val (.long x2), .second, .val (.long x3), .second, .val (.int x4), .val (.int (1 : Int32)), .val (.long v13), .second, .val (.long v14), .second, .val (.long v15), .second, .val (.double v34), .second, .val (.double v61), .second, .unset, .unset, .unset, .unset] [(.int (lcmpW v14 (0 : Int64)))])) := by
      refine XS.lload X99.here hx rfl (hb hby at_233) rfl ?_
      show Steps p.tables e below (T99.setTop (mkF m 235 #[.val (.long x0), .second, .val (.long x1), .second, .val (.long x2), .second, .val (.long x3), .second, .val (.int x4), .val (.int (1 : Int32)), .val (.long v13), .second, .val (.long v14), .second, .val (.long v15), .second, .val (.double v34), .second, .val (.double v61), .second, .unset, .unset, .unset, .unset] [(.long v14)])) _
      refine XS.lconst X99.here hx rfl (hb hby at_235) ?_
      show Steps p.tables e below (T99.setTop (mkF m 236 #[.val (.long x0), .second, .val (.long x1), .second, .val (.long x2), .second, .val (.long x3), .second, .val (.int x4), .val (.int (1 : Int32)), .val (.long v13), .second, .val (.long v14), .second, .val (.long v15), .second, .val (.double v34), .second, .val (.double v61), .second, .unset, .unset, .unset, .unset] [(.long (0 : Int64)), (.long v14)])) _
      refine XS.lcmp X99.here hx rfl (hb hby at_236) rfl ?_
      show Steps p.tables e below (T99.setTop (mkF m 237 #[.val (.long x0), .second, .val (.long x1), .second, .val (.long x2), .second, .val (.long x3), .second, .val (.int x4), .val (.int (1 : Int32)), .val (.long v13), .second, .val (.long v14), .second, .val (.long v15), .second, .val (.double v34), .second, .val (.double v61), .second, .unset, .unset, .unset, .unset] [(.int (lcmpW v14 (0 : Int64)))])) _
      exact Steps.refl _
    have pre104 := pre103.trans st104
    obtain ⟨T111, h111, lc111, X111, e111, N111, Z111, K111, pre111, J111_0, J111_1, J111_2, J111_3, J111_4, J111_5, J111_6, J111_7, J111_8, J111_9, J111_10, J111_11⟩ : ∃ (T' : State) (h' : Heap) (lc : List Loc), Stand p l e room_1 s m #[(.long x0), (.long x1), (.long x2), (.long x3), (.int x4)] below meth c T' lc 3 6 ∧ T'.heap = h' ∧ Fr n0 lc ∧ n0 ≤ h'.size ∧ Keep h0 h' [] ∧ Steps p.tables e below (s₁.setTop (entryFrame m #[(.long x0), (.long x1), (.long x2), (.long x3), (.int x4)] maxLocals)) (T'.setTop (mkF m 259 #[.val (.long x0), .second, .val (.long x1), .second, .val (.long x2), .second, .val (.long x3), .second, .val (.int x4), .val (.int (1 : Int32)), .val (.long v13), .second, .val (.long v14), .second, .val (.long v15), .second, .val (.double v34), .second, .val (.double v61), .second, .unset, .unset, .unset, .unset] [])) ∧ Exa Z h' b1 "com/example/nestmine/nestmine/Conformance$Score" ∧ Exa Z h' b1 "com/example/nestmine/nestmine/Conformance$Score" ∧ Fld Z h' b1 "com/example/nestmine/nestmine/Conformance$Score" "lost" "J" (.long x3) ∧ Fld Z h' b1 "com/example/nestmine/nestmine/Conformance$Score" "possible" "J" (.long (0 : Int64)) ∧ Exa Z h' b17 "com/example/nestmine/nestmine/Conformance$Score" ∧ Exa Z h' b17 "com/example/nestmine/nestmine/Conformance$Score" ∧ Fld Z h' b17 "com/example/nestmine/nestmine/Conformance$Score" "lost" "J" (.long v14) ∧ Fld Z h' b17 "com/example/nestmine/nestmine/Conformance$Score" "possible" "J" (.long v13) ∧ Exa Z h' b36 "com/example/nestmine/nestmine/Conformance$Score" ∧ Exa Z h' b36 "com/example/nestmine/nestmine/Conformance$Score" ∧ Fld Z h' b36 "com/example/nestmine/nestmine/Conformance$Score" "lost" "J" (.long v15) ∧ Fld Z h' b36 "com/example/nestmine/nestmine/Conformance$Score" "possible" "J" (.long v13) := by
      by_cases hc237 : (0 : Int64) < v14
      · skip
        have st105 : Steps p.tables e below (T99.setTop (mkF m 237 #[.val (.long x0), .second, .val (.long x1), .second, .val (.long x2), .second, .val (.long x3), .second, .val (.int x4), .val (.int (1 : Int32)), .val (.long v13), .second, .val (.long v14), .second, .val (.long v15), .second, .val (.double v34), .second, .val (.double v61), .second, .unset, .unset, .unset, .unset] [(.int (lcmpW v14 (0 : Int64)))])) (T99.setTop (mkF m 240 #[.val (.long x0), .second, .val (.long x1), .second, .val (.long x2), .second, .val (.long x3), .second, .val (.int x4), .val (.int (1 : Int32)), .val (.long v13), .second, .val (.long v14), .second, .val (.long v15), .second, .val (.double v34), .second, .val (.double v61), .second, .unset, .unset, .unset, .unset] [])) := by
          refine XS.ifNo X99.here hx rfl (hb hby at_237) rfl ((if0 _ _).trans (tlt ((lw_gt v14 (0 : Int64)).mpr hc237)).2.2.2) ?_
          exact Steps.refl _
        have pre105 := pre104.trans st105
        obtain ⟨v106, hv106⟩ : ∃ z : Int32, z = (cmpValue (FP.dcmp v34 own_d1) .g) := ⟨_, rfl⟩
        have st107 : Steps p.tables e below (T99.setTop (mkF m 240 #[.val (.long x0), .second, .val (.long x1), .second, .val (.long x2), .second, .val (.long x3), .second, .val (.int x4), .val (.int (1 : Int32)), .val (.long v13), .second, .val (.long v14), .second, .val (.long v15), .second, .val (.double v34), .second, .val (.double v61), .second, .unset, .unset, .unset, .unset] [])) (T99.setTop (mkF m 249 #[.val (.long x0), .second, .val (.long x1), .second, .val (.long x2), .second, .val (.long x3), .second, .val (.int x4), .val (.int (1 : Int32)), .val (.long v13), .second, .val (.long v14), .second, .val (.long v15), .second, .val (.double v34), .second, .val (.double v61), .second, .unset, .unset, .unset, .unset] [(.int v106)])) := by
          subst v106
          refine XS.iload X99.here hx rfl (hb hby at_240) rfl ?_
          show Steps p.tables e below (T99.setTop (mkF m 242 #[.val (.long x0), .second, .val (.long x1), .second, .val (.long x2), .second, .val (.long x3), .second, .val (.int x4), .val (.int (1 : Int32)), .val (.long v13), .second, .val (.long v14), .second, .val (.long v15), .second, .val (.double v34), .second, .val (.double v61), .second, .unset, .unset, .unset, .unset] [(.int (1 : Int32))])) _
          refine XS.ifNo X99.here hx rfl (hb hby at_242) rfl ((if0 _ _).trans (feq (by decide : ¬ ((1 : Int32) = (0 : Int32)))).1) ?_
          show Steps p.tables e below (T99.setTop (mkF m 245 #[.val (.long x0), .second, .val (.long x1), .second, .val (.long x2), .second, .val (.long x3), .second, .val (.int x4), .val (.int (1 : Int32)), .val (.long v13), .second, .val (.long v14), .second, .val (.long v15), .second, .val (.double v34), .second, .val (.double v61), .second, .unset, .unset, .unset, .unset] [])) _
          refine XS.dload X99.here hx rfl (hb hby at_245) rfl ?_
          show Steps p.tables e below (T99.setTop (mkF m 247 #[.val (.long x0), .second, .val (.long x1), .second, .val (.long x2), .second, .val (.long x3), .second, .val (.int x4), .val (.int (1 : Int32)), .val (.long v13), .second, .val (.long v14), .second, .val (.long v15), .second, .val (.double v34), .second, .val (.double v61), .second, .unset, .unset, .unset, .unset] [(.double v34)])) _
          refine XS.dconst1 X99.here hx rfl (hb hby at_247) (v := own_d1) rfl ?_
          show Steps p.tables e below (T99.setTop (mkF m 248 #[.val (.long x0), .second, .val (.long x1), .second, .val (.long x2), .second, .val (.long x3), .second, .val (.int x4), .val (.int (1 : Int32)), .val (.long v13), .second, .val (.long v14), .second, .val (.long v15), .second, .val (.double v34), .second, .val (.double v61), .second, .unset, .unset, .unset, .unset] [(.double own_d1), (.double v34)])) _
          refine XS.dcmpS X99.here hx rfl (hb hby at_248) rfl rfl ?_
          show Steps p.tables e below (T99.setTop (mkF m 249 #[.val (.long x0), .second, .val (.long x1), .second, .val (.long x2), .second, .val (.long x3), .second, .val (.int x4), .val (.int (1 : Int32)), .val (.long v13), .second, .val (.long v14), .second, .val (.long v15), .second, .val (.double v34), .second, .val (.double v61), .second, .unset, .unset, .unset, .unset] [(.int (cmpValue (FP.dcmp v34 own_d1) .g))])) _
          exact Steps.refl _
        have pre107 := pre105.trans st107
        have hc249 : v106 < (0 : Int32) := by
          rw [hv106, hv34]
          exact own_249 hP1 hc230 hc237
        have st108 : Steps p.tables e below (T99.setTop (mkF m 249 #[.val (.long x0), .second, .val (.long x1), .second, .val (.long x2), .second, .val (.long x3), .second, .val (.int x4), .val (.int (1 : Int32)), .val (.long v13), .second, .val (.long v14), .second, .val (.long v15), .second, .val (.double v34), .second, .val (.double v61), .second, .unset, .unset, .unset, .unset] [(.int v106)])) (T99.setTop (mkF m 252 #[.val (.long x0), .second, .val (.long x1), .second, .val (.long x2), .second, .val (.long x3), .second, .val (.int x4), .val (.int (1 : Int32)), .val (.long v13), .second, .val (.long v14), .second, .val (.long v15), .second, .val (.double v34), .second, .val (.double v61), .second, .unset, .unset, .unset, .unset] [])) := by
          refine XS.ifNo X99.here hx rfl (hb hby at_249) rfl ((if0 _ _).trans (tlt hc249).2.1) ?_
          exact Steps.refl _
        have pre108 := pre107.trans st108
        have st109 : Steps p.tables e below (T99.setTop (mkF m 252 #[.val (.long x0), .second, .val (.long x1), .second, .val (.long x2), .second, .val (.long x3), .second, .val (.int x4), .val (.int (1 : Int32)), .val (.long v13), .second, .val (.long v14), .second, .val (.long v15), .second, .val (.double v34), .second, .val (.double v61), .second, .unset, .unset, .unset, .unset] [])) (T99.setTop (mkF m 259 #[.val (.long x0), .second, .val (.long x1), .second, .val (.long x2), .second, .val (.long x3), .second, .val (.int x4), .val (.int (1 : Int32)), .val (.long v13), .second, .val (.long v14), .second, .val (.long v15), .second, .val (.double v34), .second, .val (.double v61), .second, .unset, .unset, .unset, .unset] [])) := by
          refine XS.iconst X99.here hx rfl (hb hby at_252) ?_
          show Steps p.tables e below (T99.setTop (mkF m 253 #[.val (.long x0), .second, .val (.long x1), .second, .val (.long x2), .second, .val (.long x3), .second, .val (.int x4), .val (.int (1 : Int32)), .val (.long v13), .second, .val (.long v14), .second, .val (.long v15), .second, .val (.double v34), .second, .val (.double v61), .second, .unset, .unset, .unset, .unset] [(.int (1 : Int32))])) _
          refine XS.goto X99.here hx rfl (pc0 := 253) (pc' := 257) rfl (hb hby at_253) (by decide) (by decide) ?_
          show Steps p.tables e below (T99.setTop (mkF m 257 #[.val (.long x0), .second, .val (.long x1), .second, .val (.long x2), .second, .val (.long x3), .second, .val (.int x4), .val (.int (1 : Int32)), .val (.long v13), .second, .val (.long v14), .second, .val (.long v15), .second, .val (.double v34), .second, .val (.double v61), .second, .unset, .unset, .unset, .unset] [(.int (1 : Int32))])) _
          refine XS.istore X99.here hx rfl (hb hby at_257) rfl (l' := #[.val (.long x0), .second, .val (.long x1), .second, .val (.long x2), .second, .val (.long x3), .second, .val (.int x4), .val (.int (1 : Int32)), .val (.long v13), .second, .val (.long v14), .second, .val (.long v15), .second, .val (.double v34), .second, .val (.double v61), .second, .unset, .unset, .unset, .unset]) rfl ?_
          show Steps p.tables e below (T99.setTop (mkF m 259 #[.val (.long x0), .second, .val (.long x1), .second, .val (.long x2), .second, .val (.long x3), .second, .val (.int x4), .val (.int (1 : Int32)), .val (.long v13), .second, .val (.long v14), .second, .val (.long v15), .second, .val (.double v34), .second, .val (.double v61), .second, .unset, .unset, .unset, .unset] [])) _
          exact Steps.refl _
        have pre109 := pre108.trans st109
        subst v106
        exact ⟨T99, _, _, X99, e99, N99, Z99, K99, pre109, J99_0, J99_1, J99_2, J99_3, J99_4, J99_5, J99_6, J99_7, J99_8, J99_9, J99_10, J99_11⟩
      · skip
        have st110 : Steps p.tables e below (T99.setTop (mkF m 237 #[.val (.long x0), .second, .val (.long x1), .second, .val (.long x2), .second, .val (.long x3), .second, .val (.int x4), .val (.int (1 : Int32)), .val (.long v13), .second, .val (.long v14), .second, .val (.long v15), .second, .val (.double v34), .second, .val (.double v61), .second, .unset, .unset, .unset, .unset] [(.int (lcmpW v14 (0 : Int64)))])) (T99.setTop (mkF m 259 #[.val (.long x0), .second, .val (.long x1), .second, .val (.long x2), .second, .val (.long x3), .second, .val (.int x4), .val (.int (1 : Int32)), .val (.long v13), .second, .val (.long v14), .second, .val (.long v15), .second, .val (.double v34), .second, .val (.double v61), .second, .unset, .unset, .unset, .unset] [])) := by
          refine XS.ifYes X99.here hx rfl (pc0 := 237) (pc' := 259) rfl (hb hby at_237) rfl ((if0 _ _).trans (flt (fun q => hc237 ((lw_gt v14 (0 : Int64)).mp q))).2.2.2) (by decide) (by decide) ?_
          exact Steps.refl _
        have pre110 := pre104.trans st110
        exact ⟨T99, _, _, X99, e99, N99, Z99, K99, pre110, J99_0, J99_0, J99_2, J99_3, J99_4, J99_4, J99_6, J99_7, J99_8, J99_8, J99_10, J99_11⟩
    have st112 : Steps p.tables e below (T111.setTop (mkF m 259 #[.val (.long x0), .second, .val (.long x1), .second, .val (.long x2), .second, .val (.long x3), .second, .val (.int x4), .val (.int (1 : Int32)), .val (.long v13), .second, .val (.long v14), .second, .val (.long v15), .second, .val (.double v34), .second, .val (.double v61), .second, .unset, .unset, .unset, .unset] [])) (T111.setTop (mkF m 264 #[.val (.long x0), .second, .val (.long x1), .second, .val (.long x2), .second, .val (.long x3), .second, .val (.int x4), .val (.int (1 : Int32)), .val (.long v13), .second, .val (.long v14), .second, .val (.long v15), .second, .val (.double v34), .second, .val (.double v61), .second, .unset, .unset, .unset, .unset] [(.int (lcmpW v14 v13))])) := by
      refine XS.lload X111.here hx rfl (hb hby at_259) rfl ?_
      show Steps p.tables e below (T111.setTop (mkF m 261 #[.val (.long x0), .second, .val (.long x1), .second, .val (.long x2), .second, .val (.long x3), .second, .val (.int x4), .val (.int (1 : Int32)), .val (.long v13), .second, .val (.long v14), .second, .val (.long v15), .second, .val (.double v34), .second, .val (.double v61), .second, .unset, .unset, .unset, .unset] [(.long v14)])) _
      refine XS.lload X111.here hx rfl (hb hby at_261) rfl ?_
      show Steps p.tables e below (T111.setTop (mkF m 263 #[.val (.long x0), .second, .val (.long x1), .second, .val (.long x2), .second, .val (.long x3), .second, .val (.int x4), .val (.int (1 : Int32)), .val (.long v13), .second, .val (.long v14), .second, .val (.long v15), .second, .val (.double v34), .second, .val (.double v61), .second, .unset, .unset, .unset, .unset] [(.long v13), (.long v14)])) _
      refine XS.lcmp X111.here hx rfl (hb hby at_263) rfl ?_
      show Steps p.tables e below (T111.setTop (mkF m 264 #[.val (.long x0), .second, .val (.long x1), .second, .val (.long x2), .second, .val (.long x3), .second, .val (.int x4), .val (.int (1 : Int32)), .val (.long v13), .second, .val (.long v14), .second, .val (.long v15), .second, .val (.double v34), .second, .val (.double v61), .second, .unset, .unset, .unset, .unset] [(.int (lcmpW v14 v13))])) _
      exact Steps.refl _
    have pre112 := pre111.trans st112
    obtain ⟨T119, h119, lc119, X119, e119, N119, Z119, K119, pre119, J119_0, J119_1, J119_2, J119_3, J119_4, J119_5, J119_6, J119_7, J119_8, J119_9, J119_10, J119_11⟩ : ∃ (T' : State) (h' : Heap) (lc : List Loc), Stand p l e room_1 s m #[(.long x0), (.long x1), (.long x2), (.long x3), (.int x4)] below meth c T' lc 3 6 ∧ T'.heap = h' ∧ Fr n0 lc ∧ n0 ≤ h'.size ∧ Keep h0 h' [] ∧ Steps p.tables e below (s₁.setTop (entryFrame m #[(.long x0), (.long x1), (.long x2), (.long x3), (.int x4)] maxLocals)) (T'.setTop (mkF m 286 #[.val (.long x0), .second, .val (.long x1), .second, .val (.long x2), .second, .val (.long x3), .second, .val (.int x4), .val (.int (1 : Int32)), .val (.long v13), .second, .val (.long v14), .second, .val (.long v15), .second, .val (.double v34), .second, .val (.double v61), .second, .unset, .unset, .unset, .unset] [])) ∧ Exa Z h' b1 "com/example/nestmine/nestmine/Conformance$Score" ∧ Exa Z h' b1 "com/example/nestmine/nestmine/Conformance$Score" ∧ Fld Z h' b1 "com/example/nestmine/nestmine/Conformance$Score" "lost" "J" (.long x3) ∧ Fld Z h' b1 "com/example/nestmine/nestmine/Conformance$Score" "possible" "J" (.long (0 : Int64)) ∧ Exa Z h' b17 "com/example/nestmine/nestmine/Conformance$Score" ∧ Exa Z h' b17 "com/example/nestmine/nestmine/Conformance$Score" ∧ Fld Z h' b17 "com/example/nestmine/nestmine/Conformance$Score" "lost" "J" (.long v14) ∧ Fld Z h' b17 "com/example/nestmine/nestmine/Conformance$Score" "possible" "J" (.long v13) ∧ Exa Z h' b36 "com/example/nestmine/nestmine/Conformance$Score" ∧ Exa Z h' b36 "com/example/nestmine/nestmine/Conformance$Score" ∧ Fld Z h' b36 "com/example/nestmine/nestmine/Conformance$Score" "lost" "J" (.long v15) ∧ Fld Z h' b36 "com/example/nestmine/nestmine/Conformance$Score" "possible" "J" (.long v13) := by
      by_cases hc264 : v14 < v13
      · skip
        have st113 : Steps p.tables e below (T111.setTop (mkF m 264 #[.val (.long x0), .second, .val (.long x1), .second, .val (.long x2), .second, .val (.long x3), .second, .val (.int x4), .val (.int (1 : Int32)), .val (.long v13), .second, .val (.long v14), .second, .val (.long v15), .second, .val (.double v34), .second, .val (.double v61), .second, .unset, .unset, .unset, .unset] [(.int (lcmpW v14 v13))])) (T111.setTop (mkF m 267 #[.val (.long x0), .second, .val (.long x1), .second, .val (.long x2), .second, .val (.long x3), .second, .val (.int x4), .val (.int (1 : Int32)), .val (.long v13), .second, .val (.long v14), .second, .val (.long v15), .second, .val (.double v34), .second, .val (.double v61), .second, .unset, .unset, .unset, .unset] [])) := by
          refine XS.ifNo X111.here hx rfl (hb hby at_264) rfl ((if0 _ _).trans (tlt ((lw_lt v14 v13).mpr hc264)).2.1) ?_
          exact Steps.refl _
        have pre113 := pre112.trans st113
        obtain ⟨v114, hv114⟩ : ∃ z : Int32, z = (cmpValue (FP.dcmp v34 own_d0) .l) := ⟨_, rfl⟩
        have st115 : Steps p.tables e below (T111.setTop (mkF m 267 #[.val (.long x0), .second, .val (.long x1), .second, .val (.long x2), .second, .val (.long x3), .second, .val (.int x4), .val (.int (1 : Int32)), .val (.long v13), .second, .val (.long v14), .second, .val (.long v15), .second, .val (.double v34), .second, .val (.double v61), .second, .unset, .unset, .unset, .unset] [])) (T111.setTop (mkF m 276 #[.val (.long x0), .second, .val (.long x1), .second, .val (.long x2), .second, .val (.long x3), .second, .val (.int x4), .val (.int (1 : Int32)), .val (.long v13), .second, .val (.long v14), .second, .val (.long v15), .second, .val (.double v34), .second, .val (.double v61), .second, .unset, .unset, .unset, .unset] [(.int v114)])) := by
          subst v114
          refine XS.iload X111.here hx rfl (hb hby at_267) rfl ?_
          show Steps p.tables e below (T111.setTop (mkF m 269 #[.val (.long x0), .second, .val (.long x1), .second, .val (.long x2), .second, .val (.long x3), .second, .val (.int x4), .val (.int (1 : Int32)), .val (.long v13), .second, .val (.long v14), .second, .val (.long v15), .second, .val (.double v34), .second, .val (.double v61), .second, .unset, .unset, .unset, .unset] [(.int (1 : Int32))])) _
          refine XS.ifNo X111.here hx rfl (hb hby at_269) rfl ((if0 _ _).trans (feq (by decide : ¬ ((1 : Int32) = (0 : Int32)))).1) ?_
          show Steps p.tables e below (T111.setTop (mkF m 272 #[.val (.long x0), .second, .val (.long x1), .second, .val (.long x2), .second, .val (.long x3), .second, .val (.int x4), .val (.int (1 : Int32)), .val (.long v13), .second, .val (.long v14), .second, .val (.long v15), .second, .val (.double v34), .second, .val (.double v61), .second, .unset, .unset, .unset, .unset] [])) _
          refine XS.dload X111.here hx rfl (hb hby at_272) rfl ?_
          show Steps p.tables e below (T111.setTop (mkF m 274 #[.val (.long x0), .second, .val (.long x1), .second, .val (.long x2), .second, .val (.long x3), .second, .val (.int x4), .val (.int (1 : Int32)), .val (.long v13), .second, .val (.long v14), .second, .val (.long v15), .second, .val (.double v34), .second, .val (.double v61), .second, .unset, .unset, .unset, .unset] [(.double v34)])) _
          refine XS.dconst0 X111.here hx rfl (hb hby at_274) (v := own_d0) rfl ?_
          show Steps p.tables e below (T111.setTop (mkF m 275 #[.val (.long x0), .second, .val (.long x1), .second, .val (.long x2), .second, .val (.long x3), .second, .val (.int x4), .val (.int (1 : Int32)), .val (.long v13), .second, .val (.long v14), .second, .val (.long v15), .second, .val (.double v34), .second, .val (.double v61), .second, .unset, .unset, .unset, .unset] [(.double own_d0), (.double v34)])) _
          refine XS.dcmpS X111.here hx rfl (hb hby at_275) rfl rfl ?_
          show Steps p.tables e below (T111.setTop (mkF m 276 #[.val (.long x0), .second, .val (.long x1), .second, .val (.long x2), .second, .val (.long x3), .second, .val (.int x4), .val (.int (1 : Int32)), .val (.long v13), .second, .val (.long v14), .second, .val (.long v15), .second, .val (.double v34), .second, .val (.double v61), .second, .unset, .unset, .unset, .unset] [(.int (cmpValue (FP.dcmp v34 own_d0) .l))])) _
          exact Steps.refl _
        have pre115 := pre113.trans st115
        have hc276 : (0 : Int32) < v114 := by
          rw [hv114, hv34]
          exact own_276 hP1 hc230 hc264
        have st116 : Steps p.tables e below (T111.setTop (mkF m 276 #[.val (.long x0), .second, .val (.long x1), .second, .val (.long x2), .second, .val (.long x3), .second, .val (.int x4), .val (.int (1 : Int32)), .val (.long v13), .second, .val (.long v14), .second, .val (.long v15), .second, .val (.double v34), .second, .val (.double v61), .second, .unset, .unset, .unset, .unset] [(.int v114)])) (T111.setTop (mkF m 279 #[.val (.long x0), .second, .val (.long x1), .second, .val (.long x2), .second, .val (.long x3), .second, .val (.int x4), .val (.int (1 : Int32)), .val (.long v13), .second, .val (.long v14), .second, .val (.long v15), .second, .val (.double v34), .second, .val (.double v61), .second, .unset, .unset, .unset, .unset] [])) := by
          refine XS.ifNo X111.here hx rfl (hb hby at_276) rfl ((if0 _ _).trans (tlt hc276).2.2.2) ?_
          exact Steps.refl _
        have pre116 := pre115.trans st116
        have st117 : Steps p.tables e below (T111.setTop (mkF m 279 #[.val (.long x0), .second, .val (.long x1), .second, .val (.long x2), .second, .val (.long x3), .second, .val (.int x4), .val (.int (1 : Int32)), .val (.long v13), .second, .val (.long v14), .second, .val (.long v15), .second, .val (.double v34), .second, .val (.double v61), .second, .unset, .unset, .unset, .unset] [])) (T111.setTop (mkF m 286 #[.val (.long x0), .second, .val (.long x1), .second, .val (.long x2), .second, .val (.long x3), .second, .val (.int x4), .val (.int (1 : Int32)), .val (.long v13), .second, .val (.long v14), .second, .val (.long v15), .second, .val (.double v34), .second, .val (.double v61), .second, .unset, .unset, .unset, .unset] [])) := by
          refine XS.iconst X111.here hx rfl (hb hby at_279) ?_
          show Steps p.tables e below (T111.setTop (mkF m 280 #[.val (.long x0), .second, .val (.long x1), .second, .val (.long x2), .second, .val (.long x3), .second, .val (.int x4), .val (.int (1 : Int32)), .val (.long v13), .second, .val (.long v14), .second, .val (.long v15), .second, .val (.double v34), .second, .val (.double v61), .second, .unset, .unset, .unset, .unset] [(.int (1 : Int32))])) _
          refine XS.goto X111.here hx rfl (pc0 := 280) (pc' := 284) rfl (hb hby at_280) (by decide) (by decide) ?_
          show Steps p.tables e below (T111.setTop (mkF m 284 #[.val (.long x0), .second, .val (.long x1), .second, .val (.long x2), .second, .val (.long x3), .second, .val (.int x4), .val (.int (1 : Int32)), .val (.long v13), .second, .val (.long v14), .second, .val (.long v15), .second, .val (.double v34), .second, .val (.double v61), .second, .unset, .unset, .unset, .unset] [(.int (1 : Int32))])) _
          refine XS.istore X111.here hx rfl (hb hby at_284) rfl (l' := #[.val (.long x0), .second, .val (.long x1), .second, .val (.long x2), .second, .val (.long x3), .second, .val (.int x4), .val (.int (1 : Int32)), .val (.long v13), .second, .val (.long v14), .second, .val (.long v15), .second, .val (.double v34), .second, .val (.double v61), .second, .unset, .unset, .unset, .unset]) rfl ?_
          show Steps p.tables e below (T111.setTop (mkF m 286 #[.val (.long x0), .second, .val (.long x1), .second, .val (.long x2), .second, .val (.long x3), .second, .val (.int x4), .val (.int (1 : Int32)), .val (.long v13), .second, .val (.long v14), .second, .val (.long v15), .second, .val (.double v34), .second, .val (.double v61), .second, .unset, .unset, .unset, .unset] [])) _
          exact Steps.refl _
        have pre117 := pre116.trans st117
        subst v114
        exact ⟨T111, _, _, X111, e111, N111, Z111, K111, pre117, J111_0, J111_1, J111_2, J111_3, J111_4, J111_5, J111_6, J111_7, J111_8, J111_9, J111_10, J111_11⟩
      · skip
        have st118 : Steps p.tables e below (T111.setTop (mkF m 264 #[.val (.long x0), .second, .val (.long x1), .second, .val (.long x2), .second, .val (.long x3), .second, .val (.int x4), .val (.int (1 : Int32)), .val (.long v13), .second, .val (.long v14), .second, .val (.long v15), .second, .val (.double v34), .second, .val (.double v61), .second, .unset, .unset, .unset, .unset] [(.int (lcmpW v14 v13))])) (T111.setTop (mkF m 286 #[.val (.long x0), .second, .val (.long x1), .second, .val (.long x2), .second, .val (.long x3), .second, .val (.int x4), .val (.int (1 : Int32)), .val (.long v13), .second, .val (.long v14), .second, .val (.long v15), .second, .val (.double v34), .second, .val (.double v61), .second, .unset, .unset, .unset, .unset] [])) := by
          refine XS.ifYes X111.here hx rfl (pc0 := 264) (pc' := 286) rfl (hb hby at_264) rfl ((if0 _ _).trans (flt (fun q => hc264 ((lw_lt v14 v13).mp q))).2.1) (by decide) (by decide) ?_
          exact Steps.refl _
        have pre118 := pre112.trans st118
        exact ⟨T111, _, _, X111, e111, N111, Z111, K111, pre118, J111_0, J111_0, J111_2, J111_3, J111_4, J111_4, J111_6, J111_7, J111_8, J111_8, J111_10, J111_11⟩
    obtain ⟨v120, hv120⟩ : ∃ z : Int64, z = (((x4 &&& (1048575 : Int32)).toInt64) + (1 : Int64)) := ⟨_, rfl⟩
    have st121 : Steps p.tables e below (T119.setTop (mkF m 286 #[.val (.long x0), .second, .val (.long x1), .second, .val (.long x2), .second, .val (.long x3), .second, .val (.int x4), .val (.int (1 : Int32)), .val (.long v13), .second, .val (.long v14), .second, .val (.long v15), .second, .val (.double v34), .second, .val (.double v61), .second, .unset, .unset, .unset, .unset] [])) (T119.setTop (mkF m 301 #[.val (.long x0), .second, .val (.long x1), .second, .val (.long x2), .second, .val (.long x3), .second, .val (.int x4), .val (.int (1 : Int32)), .val (.long v13), .second, .val (.long v14), .second, .val (.long v15), .second, .val (.double v34), .second, .val (.double v61), .second, .val (.long v120), .second, .unset, .unset] [])) := by
      subst v120
      refine XS.iload X119.here hx rfl (hb hby at_286) rfl ?_
      show Steps p.tables e below (T119.setTop (mkF m 288 #[.val (.long x0), .second, .val (.long x1), .second, .val (.long x2), .second, .val (.long x3), .second, .val (.int x4), .val (.int (1 : Int32)), .val (.long v13), .second, .val (.long v14), .second, .val (.long v15), .second, .val (.double v34), .second, .val (.double v61), .second, .unset, .unset, .unset, .unset] [(.int x4)])) _
      refine X119.ldcInt hx hown (mvT hZ (hw _ (List.mem_of_getElem? (i := 25) rfl))) (g := (mkF m 288 #[.val (.long x0), .second, .val (.long x1), .second, .val (.long x2), .second, .val (.long x3), .second, .val (.int x4), .val (.int (1 : Int32)), .val (.long v13), .second, .val (.long v14), .second, .val (.long v15), .second, .val (.double v34), .second, .val (.double v61), .second, .unset, .unset, .unset, .unset] [(.int x4)])) rfl (hb hby at_288) _ ?_
      show Steps p.tables e below (T119.setTop (mkF m 290 #[.val (.long x0), .second, .val (.long x1), .second, .val (.long x2), .second, .val (.long x3), .second, .val (.int x4), .val (.int (1 : Int32)), .val (.long v13), .second, .val (.long v14), .second, .val (.long v15), .second, .val (.double v34), .second, .val (.double v61), .second, .unset, .unset, .unset, .unset] [(.int (1048575 : Int32)), (.int x4)])) _
      refine XS.iand X119.here hx rfl (hb hby at_290) rfl ?_
      show Steps p.tables e below (T119.setTop (mkF m 291 #[.val (.long x0), .second, .val (.long x1), .second, .val (.long x2), .second, .val (.long x3), .second, .val (.int x4), .val (.int (1 : Int32)), .val (.long v13), .second, .val (.long v14), .second, .val (.long v15), .second, .val (.double v34), .second, .val (.double v61), .second, .unset, .unset, .unset, .unset] [(.int (x4 &&& (1048575 : Int32)))])) _
      refine XS.i2l X119.here hx rfl (hb hby at_291) rfl ?_
      show Steps p.tables e below (T119.setTop (mkF m 292 #[.val (.long x0), .second, .val (.long x1), .second, .val (.long x2), .second, .val (.long x3), .second, .val (.int x4), .val (.int (1 : Int32)), .val (.long v13), .second, .val (.long v14), .second, .val (.long v15), .second, .val (.double v34), .second, .val (.double v61), .second, .unset, .unset, .unset, .unset] [(.long ((x4 &&& (1048575 : Int32)).toInt64))])) _
      refine XS.lconst X119.here hx rfl (hb hby at_292) ?_
      show Steps p.tables e below (T119.setTop (mkF m 293 #[.val (.long x0), .second, .val (.long x1), .second, .val (.long x2), .second, .val (.long x3), .second, .val (.int x4), .val (.int (1 : Int32)), .val (.long v13), .second, .val (.long v14), .second, .val (.long v15), .second, .val (.double v34), .second, .val (.double v61), .second, .unset, .unset, .unset, .unset] [(.long (1 : Int64)), (.long ((x4 &&& (1048575 : Int32)).toInt64))])) _
      refine XS.ladd X119.here hx rfl (hb hby at_293) rfl ?_
      show Steps p.tables e below (T119.setTop (mkF m 294 #[.val (.long x0), .second, .val (.long x1), .second, .val (.long x2), .second, .val (.long x3), .second, .val (.int x4), .val (.int (1 : Int32)), .val (.long v13), .second, .val (.long v14), .second, .val (.long v15), .second, .val (.double v34), .second, .val (.double v61), .second, .unset, .unset, .unset, .unset] [(.long (((x4 &&& (1048575 : Int32)).toInt64) + (1 : Int64)))])) _
      refine XS.lstore X119.here hx rfl (hb hby at_294) rfl (l' := #[.val (.long x0), .second, .val (.long x1), .second, .val (.long x2), .second, .val (.long x3), .second, .val (.int x4), .val (.int (1 : Int32)), .val (.long v13), .second, .val (.long v14), .second, .val (.long v15), .second, .val (.double v34), .second, .val (.double v61), .second, .val (.long (((x4 &&& (1048575 : Int32)).toInt64) + (1 : Int64))), .second, .unset, .unset]) rfl ?_
      show Steps p.tables e below (T119.setTop (mkF m 296 #[.val (.long x0), .second, .val (.long x1), .second, .val (.long x2), .second, .val (.long x3), .second, .val (.int x4), .val (.int (1 : Int32)), .val (.long v13), .second, .val (.long v14), .second, .val (.long v15), .second, .val (.double v34), .second, .val (.double v61), .second, .val (.long (((x4 &&& (1048575 : Int32)).toInt64) + (1 : Int64))), .second, .unset, .unset] [])) _
      refine XS.iload X119.here hx rfl (hb hby at_296) rfl ?_
      show Steps p.tables e below (T119.setTop (mkF m 298 #[.val (.long x0), .second, .val (.long x1), .second, .val (.long x2), .second, .val (.long x3), .second, .val (.int x4), .val (.int (1 : Int32)), .val (.long v13), .second, .val (.long v14), .second, .val (.long v15), .second, .val (.double v34), .second, .val (.double v61), .second, .val (.long (((x4 &&& (1048575 : Int32)).toInt64) + (1 : Int64))), .second, .unset, .unset] [(.int (1 : Int32))])) _
      refine XS.ifNo X119.here hx rfl (hb hby at_298) rfl ((if0 _ _).trans (feq (by decide : ¬ ((1 : Int32) = (0 : Int32)))).1) ?_
      show Steps p.tables e below (T119.setTop (mkF m 301 #[.val (.long x0), .second, .val (.long x1), .second, .val (.long x2), .second, .val (.long x3), .second, .val (.int x4), .val (.int (1 : Int32)), .val (.long v13), .second, .val (.long v14), .second, .val (.long v15), .second, .val (.double v34), .second, .val (.double v61), .second, .val (.long (((x4 &&& (1048575 : Int32)).toInt64) + (1 : Int64))), .second, .unset, .unset] [])) _
      exact Steps.refl _
    have pre121 := pre119.trans st121
    obtain ⟨T122, h122, X122, e122, E122, A122, D122, -, st122⟩ := newO X119 hx hZ hown (hw _ (List.mem_of_getElem? (i := 0) rfl)) (hw _ (List.mem_of_getElem? (i := 1) rfl)) (hw _ (List.mem_of_getElem? (i := 2) rfl)) e119 (g := (mkF m 301 #[.val (.long x0), .second, .val (.long x1), .second, .val (.long x2), .second, .val (.long x3), .second, .val (.int x4), .val (.int (1 : Int32)), .val (.long v13), .second, .val (.long v14), .second, .val (.long v15), .second, .val (.double v34), .second, .val (.double v61), .second, .val (.long v120), .second, .unset, .unset] [])) rfl (hb hby at_301) (by decide) (by decide)
    obtain ⟨b122, g122⟩ : ∃ z, z = h119.size := ⟨_, rfl⟩
    rw [← g122] at A122 D122 st122
    have pre122 : Steps p.tables e below (s₁.setTop (entryFrame m #[(.long x0), (.long x1), (.long x2), (.long x3), (.int x4)] maxLocals)) (T122.setTop (mkF m 304 #[.val (.long x0), .second, .val (.long x1), .second, .val (.long x2), .second, .val (.long x3), .second, .val (.int x4), .val (.int (1 : Int32)), .val (.long v13), .second, .val (.long v14), .second, .val (.long v15), .second, .val (.double v34), .second, .val (.double v61), .second, .val (.long v120), .second, .unset, .unset] [(.ref b122)])) := pre121.trans (st122 _ (Steps.refl _))
    have gn122 : n0 ≤ b122 := Nat.le_trans Z119 (Nat.le_of_eq g122.symm)
    have sz122 : h0.size ≤ b122 := Nat.le_trans K119.1 (Nat.le_of_eq g122.symm)
    have neb1_b122 : b1 ≠ b122 := Nat.ne_of_lt (Nat.lt_of_lt_of_le J119_0.lt (Nat.le_of_eq g122.symm))
    have neb17_b122 : b17 ≠ b122 := Nat.ne_of_lt (Nat.lt_of_lt_of_le J119_4.lt (Nat.le_of_eq g122.symm))
    have neb36_b122 : b36 ≠ b122 := Nat.ne_of_lt (Nat.lt_of_lt_of_le J119_8.lt (Nat.le_of_eq g122.symm))
    have F123 : Exa Z h122 b1 "com/example/nestmine/nestmine/Conformance$Score" := J119_0.ext E122
    have F124 : Exa Z h122 b1 "com/example/nestmine/nestmine/Conformance$Score" := J119_1.ext E122
    have F125 : Fld Z h122 b1 "com/example/nestmine/nestmine/Conformance$Score" "lost" "J" (.long x3) := J119_2.ext E122
    have F126 : Fld Z h122 b1 "com/example/nestmine/nestmine/Conformance$Score" "possible" "J" (.long (0 : Int64)) := J119_3.ext E122
    have F127 : Exa Z h122 b17 "com/example/nestmine/nestmine/Conformance$Score" := J119_4.ext E122
    have F128 : Exa Z h122 b17 "com/example/nestmine/nestmine/Conformance$Score" := J119_5.ext E122
    have F129 : Fld Z h122 b17 "com/example/nestmine/nestmine/Conformance$Score" "lost" "J" (.long v14) := J119_6.ext E122
    have F130 : Fld Z h122 b17 "com/example/nestmine/nestmine/Conformance$Score" "possible" "J" (.long v13) := J119_7.ext E122
    have F131 : Exa Z h122 b36 "com/example/nestmine/nestmine/Conformance$Score" := J119_8.ext E122
    have F132 : Exa Z h122 b36 "com/example/nestmine/nestmine/Conformance$Score" := J119_9.ext E122
    have F133 : Fld Z h122 b36 "com/example/nestmine/nestmine/Conformance$Score" "lost" "J" (.long v15) := J119_10.ext E122
    have F134 : Fld Z h122 b36 "com/example/nestmine/nestmine/Conformance$Score" "possible" "J" (.long v13) := J119_11.ext E122
    have K122 := K119.ext E122
    have Z122 : n0 ≤ h122.size := Nat.le_trans Z119 E122.1
    have F135 : Fld Z h122 b122 "com/example/nestmine/nestmine/Conformance$Score" "lost" "J" (.long (0 : Int64)) := D122 (Or.inr (hw _ (List.mem_of_getElem? (i := 15) rfl))) (ty := .long) (by decide)
    have F136 : Fld Z h122 b122 "com/example/nestmine/nestmine/Conformance$Score" "possible" "J" (.long (0 : Int64)) := D122 (Or.inr (hw _ (List.mem_of_getElem? (i := 17) rfl))) (ty := .long) (by decide)
    obtain ⟨v137, hv137⟩ : ∃ z : Int64, z = (v13 * v120) := ⟨_, rfl⟩
    obtain ⟨v138, hv138⟩ : ∃ z : Int64, z = (v14 * v120) := ⟨_, rfl⟩
    have st139 : Steps p.tables e below (T122.setTop (mkF m 304 #[.val (.long x0), .second, .val (.long x1), .second, .val (.long x2), .second, .val (.long x3), .second, .val (.int x4), .val (.int (1 : Int32)), .val (.long v13), .second, .val (.long v14), .second, .val (.long v15), .second, .val (.double v34), .second, .val (.double v61), .second, .val (.long v120), .second, .unset, .unset] [(.ref b122)])) (T122.setTop (mkF m 315 #[.val (.long x0), .second, .val (.long x1), .second, .val (.long x2), .second, .val (.long x3), .second, .val (.int x4), .val (.int (1 : Int32)), .val (.long v13), .second, .val (.long v14), .second, .val (.long v15), .second, .val (.double v34), .second, .val (.double v61), .second, .val (.long v120), .second, .unset, .unset] [(.long v137), (.long v138), (.ref b122), (.ref b122)])) := by
      subst v138 v137
      refine XS.dup X122.here hx rfl (hb hby at_304) rfl rfl ?_
      show Steps p.tables e below (T122.setTop (mkF m 305 #[.val (.long x0), .second, .val (.long x1), .second, .val (.long x2), .second, .val (.long x3), .second, .val (.int x4), .val (.int (1 : Int32)), .val (.long v13), .second, .val (.long v14), .second, .val (.long v15), .second, .val (.double v34), .second, .val (.double v61), .second, .val (.long v120), .second, .unset, .unset] [(.ref b122), (.ref b122)])) _
      refine XS.lload X122.here hx rfl (hb hby at_305) rfl ?_
      show Steps p.tables e below (T122.setTop (mkF m 307 #[.val (.long x0), .second, .val (.long x1), .second, .val (.long x2), .second, .val (.long x3), .second, .val (.int x4), .val (.int (1 : Int32)), .val (.long v13), .second, .val (.long v14), .second, .val (.long v15), .second, .val (.double v34), .second, .val (.double v61), .second, .val (.long v120), .second, .unset, .unset] [(.long v14), (.ref b122), (.ref b122)])) _
      refine XS.lload X122.here hx rfl (hb hby at_307) rfl ?_
      show Steps p.tables e below (T122.setTop (mkF m 309 #[.val (.long x0), .second, .val (.long x1), .second, .val (.long x2), .second, .val (.long x3), .second, .val (.int x4), .val (.int (1 : Int32)), .val (.long v13), .second, .val (.long v14), .second, .val (.long v15), .second, .val (.double v34), .second, .val (.double v61), .second, .val (.long v120), .second, .unset, .unset] [(.long v120), (.long v14), (.ref b122), (.ref b122)])) _
      refine XS.lmul X122.here hx rfl (hb hby at_309) rfl ?_
      show Steps p.tables e below (T122.setTop (mkF m 310 #[.val (.long x0), .second, .val (.long x1), .second, .val (.long x2), .second, .val (.long x3), .second, .val (.int x4), .val (.int (1 : Int32)), .val (.long v13), .second, .val (.long v14), .second, .val (.long v15), .second, .val (.double v34), .second, .val (.double v61), .second, .val (.long v120), .second, .unset, .unset] [(.long (v14 * v120)), (.ref b122), (.ref b122)])) _
      refine XS.lload X122.here hx rfl (hb hby at_310) rfl ?_
      show Steps p.tables e below (T122.setTop (mkF m 312 #[.val (.long x0), .second, .val (.long x1), .second, .val (.long x2), .second, .val (.long x3), .second, .val (.int x4), .val (.int (1 : Int32)), .val (.long v13), .second, .val (.long v14), .second, .val (.long v15), .second, .val (.double v34), .second, .val (.double v61), .second, .val (.long v120), .second, .unset, .unset] [(.long v13), (.long (v14 * v120)), (.ref b122), (.ref b122)])) _
      refine XS.lload X122.here hx rfl (hb hby at_312) rfl ?_
      show Steps p.tables e below (T122.setTop (mkF m 314 #[.val (.long x0), .second, .val (.long x1), .second, .val (.long x2), .second, .val (.long x3), .second, .val (.int x4), .val (.int (1 : Int32)), .val (.long v13), .second, .val (.long v14), .second, .val (.long v15), .second, .val (.double v34), .second, .val (.double v61), .second, .val (.long v120), .second, .unset, .unset] [(.long v120), (.long v13), (.long (v14 * v120)), (.ref b122), (.ref b122)])) _
      refine XS.lmul X122.here hx rfl (hb hby at_314) rfl ?_
      show Steps p.tables e below (T122.setTop (mkF m 315 #[.val (.long x0), .second, .val (.long x1), .second, .val (.long x2), .second, .val (.long x3), .second, .val (.int x4), .val (.int (1 : Int32)), .val (.long v13), .second, .val (.long v14), .second, .val (.long v15), .second, .val (.double v34), .second, .val (.double v61), .second, .val (.long v120), .second, .unset, .unset] [(.long (v13 * v120)), (.long (v14 * v120)), (.ref b122), (.ref b122)])) _
      exact Steps.refl _
    have pre139 := pre122.trans st139
    obtain ⟨_, _, ⟨T140, L140, k140, n140⟩, -, X140, ⟨Lc140, hQ140, l140, y140, z140⟩, st140⟩ := X122.specialBack hx (y := (⟨"com/example/nestmine/nestmine/Conformance$Score", "<init>", "(JJ)V"⟩ : MethodName)) rfl hown (mvT hZ (hw _ (List.mem_of_getElem? (i := 3) rfl))) (mvT hZ (hw _ (List.mem_of_getElem? (i := 4) rfl))) (mvT hZ (hw _ (List.mem_of_getElem? (i := 5) rfl))) (by decide) (backOf (W := 1) (rm2 l Z a0 hw [] b122 v138 v137 (.long (0 : Int64)) (.long (0 : Int64)) h122 n0 Z122 A122 F135 F136 gn122) hZ (hw _ (List.mem_of_getElem? (i := 5) rfl)) (hw _ (List.mem_of_getElem? (i := 2) rfl)) (by decide) (by decide)) (g := (mkF m 315 #[.val (.long x0), .second, .val (.long x1), .second, .val (.long x2), .second, .val (.long x3), .second, .val (.int x4), .val (.int (1 : Int32)), .val (.long v13), .second, .val (.long v14), .second, .val (.long v15), .second, .val (.double v34), .second, .val (.double v61), .second, .val (.long v120), .second, .unset, .unset] [(.long v137), (.long v138), (.ref b122), (.ref b122)])) rfl (by rw [hml]; rfl) (Steps.refl _) (a := b122) (argsL := [(.long v138), (.long v137)]) (rest := [(.ref b122)]) (lenOf pd0_0 rfl) rfl (by show 2 * 0 + _ ≤ _; exact Nat.le_of_eq rfl) (hb hby at_315) (fun _ _ => ⟨rfl, e122, (by decide : 4 + 0 ≤ _), (by decide : 8 + 0 ≤ _)⟩)
    dsimp only [Pt.U, Pt.locs, Pt.cells, Pt.slots] at X140 l140 y140 z140 st140 hQ140
    subst l140 y140 z140
    obtain ⟨rfl, Nq140, Kq140, P140_0, P140_1, P140_2⟩ := hQ140
    have F141 : Exa Z T140.heap b1 "com/example/nestmine/nestmine/Conformance$Score" := F123.keep Kq140
    have F142 : Exa Z T140.heap b1 "com/example/nestmine/nestmine/Conformance$Score" := F124.keep Kq140
    have F143 : Fld Z T140.heap b1 "com/example/nestmine/nestmine/Conformance$Score" "lost" "J" (.long x3) := F125.keep Kq140 (ninS neb1_b122 nin0)
    have F144 : Fld Z T140.heap b1 "com/example/nestmine/nestmine/Conformance$Score" "possible" "J" (.long (0 : Int64)) := F126.keep Kq140 (ninS neb1_b122 nin0)
    have F145 : Exa Z T140.heap b17 "com/example/nestmine/nestmine/Conformance$Score" := F127.keep Kq140
    have F146 : Exa Z T140.heap b17 "com/example/nestmine/nestmine/Conformance$Score" := F128.keep Kq140
    have F147 : Fld Z T140.heap b17 "com/example/nestmine/nestmine/Conformance$Score" "lost" "J" (.long v14) := F129.keep Kq140 (ninS neb17_b122 nin0)
    have F148 : Fld Z T140.heap b17 "com/example/nestmine/nestmine/Conformance$Score" "possible" "J" (.long v13) := F130.keep Kq140 (ninS neb17_b122 nin0)
    have F149 : Exa Z T140.heap b36 "com/example/nestmine/nestmine/Conformance$Score" := F131.keep Kq140
    have F150 : Exa Z T140.heap b36 "com/example/nestmine/nestmine/Conformance$Score" := F132.keep Kq140
    have F151 : Fld Z T140.heap b36 "com/example/nestmine/nestmine/Conformance$Score" "lost" "J" (.long v15) := F133.keep Kq140 (ninS neb36_b122 nin0)
    have F152 : Fld Z T140.heap b36 "com/example/nestmine/nestmine/Conformance$Score" "possible" "J" (.long v13) := F134.keep Kq140 (ninS neb36_b122 nin0)
    have F153 : Exa Z T140.heap b122 "com/example/nestmine/nestmine/Conformance$Score" := A122.keep Kq140
    have KK140 := K122.trans Kq140 (allS (Or.inr sz122) all0)
    have Z140 : n0 ≤ T140.heap.size := Nat.le_trans Z122 Kq140.1
    have N140 := Fr.app N119 Nq140
    have pre140 : Steps p.tables e below (s₁.setTop (entryFrame m #[(.long x0), (.long x1), (.long x2), (.long x3), (.int x4)] maxLocals)) (T140.setTop (mkF m 318 #[.val (.long x0), .second, .val (.long x1), .second, .val (.long x2), .second, .val (.long x3), .second, .val (.int x4), .val (.int (1 : Int32)), .val (.long v13), .second, .val (.long v14), .second, .val (.long v15), .second, .val (.double v34), .second, .val (.double v61), .second, .val (.long v120), .second, .unset, .unset] [(.ref b122)])) := pre139.trans st140
    obtain ⟨cq156, kq156, q156a, q156b, q156c⟩ := isOf hZ rfl F153
    obtain ⟨_, _, ⟨T156, L156, k156, n156⟩, -, X156, ⟨Lc156, hQ156, l156, y156, z156⟩, st156⟩ := X140.virtualBack hx (y := (⟨"com/example/nestmine/nestmine/Conformance$Score", "value", "()D"⟩ : MethodName)) (z := (⟨"com/example/nestmine/nestmine/Conformance$Score", "value", "()D"⟩ : MethodName)) hown (mvT hZ (hw _ (List.mem_of_getElem? (i := 18) rfl))) (mvT hZ (hw _ (List.mem_of_getElem? (i := 19) rfl))) (notFace_of_selects (args := #[]) (mvT hZ (hw _ (List.mem_of_getElem? (i := 21) rfl)))) (mvT hZ (hw _ (List.mem_of_getElem? (i := 21) rfl))) (mvT hZ (hw _ (List.mem_of_getElem? (i := 20) rfl))) (by decide) (backOf (W := 0) (rm3 l Z a0 hw [] b122 v138 v137 T140.heap n0 Z140 P140_1 P140_2) hZ (hw _ (List.mem_of_getElem? (i := 22) rfl)) (hw _ (List.mem_of_getElem? (i := 2) rfl)) (by decide) (by decide)) q156a q156c (g := (mkF m 318 #[.val (.long x0), .second, .val (.long x1), .second, .val (.long x2), .second, .val (.long x3), .second, .val (.int x4), .val (.int (1 : Int32)), .val (.long v13), .second, .val (.long v14), .second, .val (.long v15), .second, .val (.double v34), .second, .val (.double v61), .second, .val (.long v120), .second, .unset, .unset] [(.ref b122)])) rfl (by rw [hml]; rfl) (Steps.refl _) (argsL := []) (rest := []) (lenOf pd0_1 rfl) rfl (by show 2 * 0 + _ ≤ _; exact Nat.le_of_eq rfl) (hb hby at_318) (fun _ _ => ⟨rfl, rfl, (by decide : 4 + 0 ≤ _), (by decide : 8 + 0 ≤ _)⟩)
    dsimp only [Pt.U, Pt.locs, Pt.cells, Pt.slots] at X156 l156 y156 z156 st156 hQ156
    subst l156 y156 z156
    obtain ⟨rfl, Nq156, e156⟩ := hQ156
    have N156 := Fr.app N140 Nq156
    have pre156 : Steps p.tables e below (s₁.setTop (entryFrame m #[(.long x0), (.long x1), (.long x2), (.long x3), (.int x4)] maxLocals)) (T156.setTop (mkF m 321 #[.val (.long x0), .second, .val (.long x1), .second, .val (.long x2), .second, .val (.long x3), .second, .val (.int x4), .val (.int (1 : Int32)), .val (.long v13), .second, .val (.long v14), .second, .val (.long v15), .second, .val (.double v34), .second, .val (.double v61), .second, .val (.long v120), .second, .unset, .unset] [(.double (own_F3 b122 v138 v137))])) := pre140.trans st156
    obtain ⟨v157, hv157⟩ : ∃ z : Int32, z = (cmpValue (FP.dcmp (own_F3 b122 v138 v137) v34) .l) := ⟨_, rfl⟩
    have st158 : Steps p.tables e below (T156.setTop (mkF m 321 #[.val (.long x0), .second, .val (.long x1), .second, .val (.long x2), .second, .val (.long x3), .second, .val (.int x4), .val (.int (1 : Int32)), .val (.long v13), .second, .val (.long v14), .second, .val (.long v15), .second, .val (.double v34), .second, .val (.double v61), .second, .val (.long v120), .second, .unset, .unset] [(.double (own_F3 b122 v138 v137))])) (T156.setTop (mkF m 324 #[.val (.long x0), .second, .val (.long x1), .second, .val (.long x2), .second, .val (.long x3), .second, .val (.int x4), .val (.int (1 : Int32)), .val (.long v13), .second, .val (.long v14), .second, .val (.long v15), .second, .val (.double v34), .second, .val (.double v61), .second, .val (.long v120), .second, .unset, .unset] [(.int v157)])) := by
      subst v157
      refine XS.dload X156.here hx rfl (hb hby at_321) rfl ?_
      show Steps p.tables e below (T156.setTop (mkF m 323 #[.val (.long x0), .second, .val (.long x1), .second, .val (.long x2), .second, .val (.long x3), .second, .val (.int x4), .val (.int (1 : Int32)), .val (.long v13), .second, .val (.long v14), .second, .val (.long v15), .second, .val (.double v34), .second, .val (.double v61), .second, .val (.long v120), .second, .unset, .unset] [(.double v34), (.double (own_F3 b122 v138 v137))])) _
      refine XS.dcmpS X156.here hx rfl (hb hby at_323) rfl rfl ?_
      show Steps p.tables e below (T156.setTop (mkF m 324 #[.val (.long x0), .second, .val (.long x1), .second, .val (.long x2), .second, .val (.long x3), .second, .val (.int x4), .val (.int (1 : Int32)), .val (.long v13), .second, .val (.long v14), .second, .val (.long v15), .second, .val (.double v34), .second, .val (.double v61), .second, .val (.long v120), .second, .unset, .unset] [(.int (cmpValue (FP.dcmp (own_F3 b122 v138 v137) v34) .l))])) _
      exact Steps.refl _
    have pre158 := pre156.trans st158
    have hc324 : v157 = (0 : Int32) := by
      rw [hv157, hv34]
      exact own_324 hP1 hc230 hv120 hv138 hv137
    have st159 : Steps p.tables e below (T156.setTop (mkF m 324 #[.val (.long x0), .second, .val (.long x1), .second, .val (.long x2), .second, .val (.long x3), .second, .val (.int x4), .val (.int (1 : Int32)), .val (.long v13), .second, .val (.long v14), .second, .val (.long v15), .second, .val (.double v34), .second, .val (.double v61), .second, .val (.long v120), .second, .unset, .unset] [(.int v157)])) (T156.setTop (mkF m 327 #[.val (.long x0), .second, .val (.long x1), .second, .val (.long x2), .second, .val (.long x3), .second, .val (.int x4), .val (.int (1 : Int32)), .val (.long v13), .second, .val (.long v14), .second, .val (.long v15), .second, .val (.double v34), .second, .val (.double v61), .second, .val (.long v120), .second, .unset, .unset] [])) := by
      refine XS.ifNo X156.here hx rfl (hb hby at_324) rfl ((if0 _ _).trans (teq hc324).2) ?_
      exact Steps.refl _
    have pre159 := pre158.trans st159
    obtain ⟨v160, hv160⟩ : ∃ z : Int64, z = (if v14 = (0 : Int64) then (1 : Int64) else v14) := ⟨_, rfl⟩
    have st161 : Steps p.tables e below (T156.setTop (mkF m 327 #[.val (.long x0), .second, .val (.long x1), .second, .val (.long x2), .second, .val (.long x3), .second, .val (.int x4), .val (.int (1 : Int32)), .val (.long v13), .second, .val (.long v14), .second, .val (.long v15), .second, .val (.double v34), .second, .val (.double v61), .second, .val (.long v120), .second, .unset, .unset] [])) (T156.setTop (mkF m 354 #[.val (.long x0), .second, .val (.long x1), .second, .val (.long x2), .second, .val (.long x3), .second, .val (.int x4), .val (.int (1 : Int32)), .val (.long v13), .second, .val (.long v14), .second, .val (.long v15), .second, .val (.double v34), .second, .val (.double v61), .second, .val (.long v120), .second, .val (.long v160), .second] [])) := by
      subst v160
      refine XS.iconst X156.here hx rfl (hb hby at_327) ?_
      show Steps p.tables e below (T156.setTop (mkF m 328 #[.val (.long x0), .second, .val (.long x1), .second, .val (.long x2), .second, .val (.long x3), .second, .val (.int x4), .val (.int (1 : Int32)), .val (.long v13), .second, .val (.long v14), .second, .val (.long v15), .second, .val (.double v34), .second, .val (.double v61), .second, .val (.long v120), .second, .unset, .unset] [(.int (1 : Int32))])) _
      refine XS.goto X156.here hx rfl (pc0 := 328) (pc' := 332) rfl (hb hby at_328) (by decide) (by decide) ?_
      show Steps p.tables e below (T156.setTop (mkF m 332 #[.val (.long x0), .second, .val (.long x1), .second, .val (.long x2), .second, .val (.long x3), .second, .val (.int x4), .val (.int (1 : Int32)), .val (.long v13), .second, .val (.long v14), .second, .val (.long v15), .second, .val (.double v34), .second, .val (.double v61), .second, .val (.long v120), .second, .unset, .unset] [(.int (1 : Int32))])) _
      refine XS.istore X156.here hx rfl (hb hby at_332) rfl (l' := #[.val (.long x0), .second, .val (.long x1), .second, .val (.long x2), .second, .val (.long x3), .second, .val (.int x4), .val (.int (1 : Int32)), .val (.long v13), .second, .val (.long v14), .second, .val (.long v15), .second, .val (.double v34), .second, .val (.double v61), .second, .val (.long v120), .second, .unset, .unset]) rfl ?_
      show Steps p.tables e below (T156.setTop (mkF m 334 #[.val (.long x0), .second, .val (.long x1), .second, .val (.long x2), .second, .val (.long x3), .second, .val (.int x4), .val (.int (1 : Int32)), .val (.long v13), .second, .val (.long v14), .second, .val (.long v15), .second, .val (.double v34), .second, .val (.double v61), .second, .val (.long v120), .second, .unset, .unset] [])) _
      refine XS.lload X156.here hx rfl (hb hby at_334) rfl ?_
      show Steps p.tables e below (T156.setTop (mkF m 336 #[.val (.long x0), .second, .val (.long x1), .second, .val (.long x2), .second, .val (.long x3), .second, .val (.int x4), .val (.int (1 : Int32)), .val (.long v13), .second, .val (.long v14), .second, .val (.long v15), .second, .val (.double v34), .second, .val (.double v61), .second, .val (.long v120), .second, .unset, .unset] [(.long v14)])) _
      refine XS.lconst X156.here hx rfl (hb hby at_336) ?_
      show Steps p.tables e below (T156.setTop (mkF m 337 #[.val (.long x0), .second, .val (.long x1), .second, .val (.long x2), .second, .val (.long x3), .second, .val (.int x4), .val (.int (1 : Int32)), .val (.long v13), .second, .val (.long v14), .second, .val (.long v15), .second, .val (.double v34), .second, .val (.double v61), .second, .val (.long v120), .second, .unset, .unset] [(.long (0 : Int64)), (.long v14)])) _
      refine XS.lcmp X156.here hx rfl (hb hby at_337) rfl ?_
      show Steps p.tables e below (T156.setTop (mkF m 338 #[.val (.long x0), .second, .val (.long x1), .second, .val (.long x2), .second, .val (.long x3), .second, .val (.int x4), .val (.int (1 : Int32)), .val (.long v13), .second, .val (.long v14), .second, .val (.long v15), .second, .val (.double v34), .second, .val (.double v61), .second, .val (.long v120), .second, .unset, .unset] [(.int (lcmpW v14 (0 : Int64)))])) _
      refine Steps.trans (s₂ := T156.setTop (mkF m 347 #[.val (.long x0), .second, .val (.long x1), .second, .val (.long x2), .second, .val (.long x3), .second, .val (.int x4), .val (.int (1 : Int32)), .val (.long v13), .second, .val (.long v14), .second, .val (.long v15), .second, .val (.double v34), .second, .val (.double v61), .second, .val (.long v120), .second, .unset, .unset] [(.long (if v14 = (0 : Int64) then (1 : Int64) else v14))])) ?_ ?_
      · by_cases hc338 : v14 = (0 : Int64)
        · refine XS.ifNo X156.here hx rfl (hb hby at_338) rfl ((if0 _ _).trans (teq ((lw_eq v14 (0 : Int64)).mpr hc338)).2) ?_
          show Steps p.tables e below (T156.setTop (mkF m 341 #[.val (.long x0), .second, .val (.long x1), .second, .val (.long x2), .second, .val (.long x3), .second, .val (.int x4), .val (.int (1 : Int32)), .val (.long v13), .second, .val (.long v14), .second, .val (.long v15), .second, .val (.double v34), .second, .val (.double v61), .second, .val (.long v120), .second, .unset, .unset] [])) _
          refine XS.lconst X156.here hx rfl (hb hby at_341) ?_
          show Steps p.tables e below (T156.setTop (mkF m 342 #[.val (.long x0), .second, .val (.long x1), .second, .val (.long x2), .second, .val (.long x3), .second, .val (.int x4), .val (.int (1 : Int32)), .val (.long v13), .second, .val (.long v14), .second, .val (.long v15), .second, .val (.double v34), .second, .val (.double v61), .second, .val (.long v120), .second, .unset, .unset] [(.long (1 : Int64))])) _
          refine XS.goto X156.here hx rfl (pc0 := 342) (pc' := 347) rfl (hb hby at_342) (by decide) (by decide) ?_
          show Steps p.tables e below (T156.setTop (mkF m 347 #[.val (.long x0), .second, .val (.long x1), .second, .val (.long x2), .second, .val (.long x3), .second, .val (.int x4), .val (.int (1 : Int32)), .val (.long v13), .second, .val (.long v14), .second, .val (.long v15), .second, .val (.double v34), .second, .val (.double v61), .second, .val (.long v120), .second, .unset, .unset] [(.long (1 : Int64))])) _
          try simp only [if_pos hc338]
          exact Steps.refl _
        · refine XS.ifYes X156.here hx rfl (pc0 := 338) (pc' := 345) rfl (hb hby at_338) rfl ((if0 _ _).trans (feq (fun q => hc338 ((lw_eq v14 (0 : Int64)).mp q))).2) (by decide) (by decide) ?_
          show Steps p.tables e below (T156.setTop (mkF m 345 #[.val (.long x0), .second, .val (.long x1), .second, .val (.long x2), .second, .val (.long x3), .second, .val (.int x4), .val (.int (1 : Int32)), .val (.long v13), .second, .val (.long v14), .second, .val (.long v15), .second, .val (.double v34), .second, .val (.double v61), .second, .val (.long v120), .second, .unset, .unset] [])) _
          refine XS.lload X156.here hx rfl (hb hby at_345) rfl ?_
          show Steps p.tables e below (T156.setTop (mkF m 347 #[.val (.long x0), .second, .val (.long x1), .second, .val (.long x2), .second, .val (.long x3), .second, .val (.int x4), .val (.int (1 : Int32)), .val (.long v13), .second, .val (.long v14), .second, .val (.long v15), .second, .val (.double v34), .second, .val (.double v61), .second, .val (.long v120), .second, .unset, .unset] [(.long v14)])) _
          try simp only [if_neg hc338]
          exact Steps.refl _
      show Steps p.tables e below (T156.setTop (mkF m 347 #[.val (.long x0), .second, .val (.long x1), .second, .val (.long x2), .second, .val (.long x3), .second, .val (.int x4), .val (.int (1 : Int32)), .val (.long v13), .second, .val (.long v14), .second, .val (.long v15), .second, .val (.double v34), .second, .val (.double v61), .second, .val (.long v120), .second, .unset, .unset] [(.long (if v14 = (0 : Int64) then (1 : Int64) else v14))])) _
      refine XS.lstore X156.here hx rfl (hb hby at_347) rfl (l' := #[.val (.long x0), .second, .val (.long x1), .second, .val (.long x2), .second, .val (.long x3), .second, .val (.int x4), .val (.int (1 : Int32)), .val (.long v13), .second, .val (.long v14), .second, .val (.long v15), .second, .val (.double v34), .second, .val (.double v61), .second, .val (.long v120), .second, .val (.long (if v14 = (0 : Int64) then (1 : Int64) else v14)), .second]) rfl ?_
      show Steps p.tables e below (T156.setTop (mkF m 349 #[.val (.long x0), .second, .val (.long x1), .second, .val (.long x2), .second, .val (.long x3), .second, .val (.int x4), .val (.int (1 : Int32)), .val (.long v13), .second, .val (.long v14), .second, .val (.long v15), .second, .val (.double v34), .second, .val (.double v61), .second, .val (.long v120), .second, .val (.long (if v14 = (0 : Int64) then (1 : Int64) else v14)), .second] [])) _
      refine XS.iload X156.here hx rfl (hb hby at_349) rfl ?_
      show Steps p.tables e below (T156.setTop (mkF m 351 #[.val (.long x0), .second, .val (.long x1), .second, .val (.long x2), .second, .val (.long x3), .second, .val (.int x4), .val (.int (1 : Int32)), .val (.long v13), .second, .val (.long v14), .second, .val (.long v15), .second, .val (.double v34), .second, .val (.double v61), .second, .val (.long v120), .second, .val (.long (if v14 = (0 : Int64) then (1 : Int64) else v14)), .second] [(.int (1 : Int32))])) _
      refine XS.ifNo X156.here hx rfl (hb hby at_351) rfl ((if0 _ _).trans (feq (by decide : ¬ ((1 : Int32) = (0 : Int32)))).1) ?_
      show Steps p.tables e below (T156.setTop (mkF m 354 #[.val (.long x0), .second, .val (.long x1), .second, .val (.long x2), .second, .val (.long x3), .second, .val (.int x4), .val (.int (1 : Int32)), .val (.long v13), .second, .val (.long v14), .second, .val (.long v15), .second, .val (.double v34), .second, .val (.double v61), .second, .val (.long v120), .second, .val (.long (if v14 = (0 : Int64) then (1 : Int64) else v14)), .second] [])) _
      exact Steps.refl _
    have pre161 := pre159.trans st161
    obtain ⟨T162, h162, X162, e162, E162, A162, D162, -, st162⟩ := newO X156 hx hZ hown (hw _ (List.mem_of_getElem? (i := 0) rfl)) (hw _ (List.mem_of_getElem? (i := 1) rfl)) (hw _ (List.mem_of_getElem? (i := 2) rfl)) e156 (g := (mkF m 354 #[.val (.long x0), .second, .val (.long x1), .second, .val (.long x2), .second, .val (.long x3), .second, .val (.int x4), .val (.int (1 : Int32)), .val (.long v13), .second, .val (.long v14), .second, .val (.long v15), .second, .val (.double v34), .second, .val (.double v61), .second, .val (.long v120), .second, .val (.long v160), .second] [])) rfl (hb hby at_354) (by decide) (by decide)
    obtain ⟨b162, g162⟩ : ∃ z, z = T140.heap.size := ⟨_, rfl⟩
    rw [← g162] at A162 D162 st162
    have pre162 : Steps p.tables e below (s₁.setTop (entryFrame m #[(.long x0), (.long x1), (.long x2), (.long x3), (.int x4)] maxLocals)) (T162.setTop (mkF m 357 #[.val (.long x0), .second, .val (.long x1), .second, .val (.long x2), .second, .val (.long x3), .second, .val (.int x4), .val (.int (1 : Int32)), .val (.long v13), .second, .val (.long v14), .second, .val (.long v15), .second, .val (.double v34), .second, .val (.double v61), .second, .val (.long v120), .second, .val (.long v160), .second] [(.ref b162)])) := pre161.trans (st162 _ (Steps.refl _))
    have gn162 : n0 ≤ b162 := Nat.le_trans Z140 (Nat.le_of_eq g162.symm)
    have sz162 : h0.size ≤ b162 := Nat.le_trans KK140.1 (Nat.le_of_eq g162.symm)
    have neb1_b162 : b1 ≠ b162 := Nat.ne_of_lt (Nat.lt_of_lt_of_le F141.lt (Nat.le_of_eq g162.symm))
    have neb17_b162 : b17 ≠ b162 := Nat.ne_of_lt (Nat.lt_of_lt_of_le F145.lt (Nat.le_of_eq g162.symm))
    have neb36_b162 : b36 ≠ b162 := Nat.ne_of_lt (Nat.lt_of_lt_of_le F149.lt (Nat.le_of_eq g162.symm))
    have neb122_b162 : b122 ≠ b162 := Nat.ne_of_lt (Nat.lt_of_lt_of_le F153.lt (Nat.le_of_eq g162.symm))
    have F163 : Exa Z h162 b1 "com/example/nestmine/nestmine/Conformance$Score" := F141.ext E162
    have F164 : Exa Z h162 b1 "com/example/nestmine/nestmine/Conformance$Score" := F142.ext E162
    have F165 : Fld Z h162 b1 "com/example/nestmine/nestmine/Conformance$Score" "lost" "J" (.long x3) := F143.ext E162
    have F166 : Fld Z h162 b1 "com/example/nestmine/nestmine/Conformance$Score" "possible" "J" (.long (0 : Int64)) := F144.ext E162
    have F167 : Exa Z h162 b17 "com/example/nestmine/nestmine/Conformance$Score" := F145.ext E162
    have F168 : Exa Z h162 b17 "com/example/nestmine/nestmine/Conformance$Score" := F146.ext E162
    have F169 : Fld Z h162 b17 "com/example/nestmine/nestmine/Conformance$Score" "lost" "J" (.long v14) := F147.ext E162
    have F170 : Fld Z h162 b17 "com/example/nestmine/nestmine/Conformance$Score" "possible" "J" (.long v13) := F148.ext E162
    have F171 : Exa Z h162 b36 "com/example/nestmine/nestmine/Conformance$Score" := F149.ext E162
    have F172 : Exa Z h162 b36 "com/example/nestmine/nestmine/Conformance$Score" := F150.ext E162
    have F173 : Fld Z h162 b36 "com/example/nestmine/nestmine/Conformance$Score" "lost" "J" (.long v15) := F151.ext E162
    have F174 : Fld Z h162 b36 "com/example/nestmine/nestmine/Conformance$Score" "possible" "J" (.long v13) := F152.ext E162
    have F175 : Exa Z h162 b122 "com/example/nestmine/nestmine/Conformance$Score" := F153.ext E162
    have F176 : Exa Z h162 b122 "com/example/nestmine/nestmine/Conformance$Score" := P140_0.ext E162
    have F177 : Fld Z h162 b122 "com/example/nestmine/nestmine/Conformance$Score" "lost" "J" (.long v138) := P140_1.ext E162
    have F178 : Fld Z h162 b122 "com/example/nestmine/nestmine/Conformance$Score" "possible" "J" (.long v137) := P140_2.ext E162
    have K162 := KK140.ext E162
    have Z162 : n0 ≤ h162.size := Nat.le_trans Z140 E162.1
    have F179 : Fld Z h162 b162 "com/example/nestmine/nestmine/Conformance$Score" "lost" "J" (.long (0 : Int64)) := D162 (Or.inr (hw _ (List.mem_of_getElem? (i := 15) rfl))) (ty := .long) (by decide)
    have F180 : Fld Z h162 b162 "com/example/nestmine/nestmine/Conformance$Score" "possible" "J" (.long (0 : Int64)) := D162 (Or.inr (hw _ (List.mem_of_getElem? (i := 17) rfl))) (ty := .long) (by decide)
    obtain ⟨v181, hv181⟩ : ∃ z : Int64, z = ((2 : Int64) * v160) := ⟨_, rfl⟩
    have st182 : Steps p.tables e below (T162.setTop (mkF m 357 #[.val (.long x0), .second, .val (.long x1), .second, .val (.long x2), .second, .val (.long x3), .second, .val (.int x4), .val (.int (1 : Int32)), .val (.long v13), .second, .val (.long v14), .second, .val (.long v15), .second, .val (.double v34), .second, .val (.double v61), .second, .val (.long v120), .second, .val (.long v160), .second] [(.ref b162)])) (T162.setTop (mkF m 366 #[.val (.long x0), .second, .val (.long x1), .second, .val (.long x2), .second, .val (.long x3), .second, .val (.int x4), .val (.int (1 : Int32)), .val (.long v13), .second, .val (.long v14), .second, .val (.long v15), .second, .val (.double v34), .second, .val (.double v61), .second, .val (.long v120), .second, .val (.long v160), .second] [(.long v181), (.long v160), (.ref b162), (.ref b162)])) := by
      subst v181
      refine XS.dup X162.here hx rfl (hb hby at_357) rfl rfl ?_
      show Steps p.tables e below (T162.setTop (mkF m 358 #[.val (.long x0), .second, .val (.long x1), .second, .val (.long x2), .second, .val (.long x3), .second, .val (.int x4), .val (.int (1 : Int32)), .val (.long v13), .second, .val (.long v14), .second, .val (.long v15), .second, .val (.double v34), .second, .val (.double v61), .second, .val (.long v120), .second, .val (.long v160), .second] [(.ref b162), (.ref b162)])) _
      refine XS.lload X162.here hx rfl (hb hby at_358) rfl ?_
      show Steps p.tables e below (T162.setTop (mkF m 360 #[.val (.long x0), .second, .val (.long x1), .second, .val (.long x2), .second, .val (.long x3), .second, .val (.int x4), .val (.int (1 : Int32)), .val (.long v13), .second, .val (.long v14), .second, .val (.long v15), .second, .val (.double v34), .second, .val (.double v61), .second, .val (.long v120), .second, .val (.long v160), .second] [(.long v160), (.ref b162), (.ref b162)])) _
      refine X162.ldc2Long hx hown (mvT hZ (hw _ (List.mem_of_getElem? (i := 26) rfl))) (g := (mkF m 360 #[.val (.long x0), .second, .val (.long x1), .second, .val (.long x2), .second, .val (.long x3), .second, .val (.int x4), .val (.int (1 : Int32)), .val (.long v13), .second, .val (.long v14), .second, .val (.long v15), .second, .val (.double v34), .second, .val (.double v61), .second, .val (.long v120), .second, .val (.long v160), .second] [(.long v160), (.ref b162), (.ref b162)])) rfl (hb hby at_360) _ ?_
      show Steps p.tables e below (T162.setTop (mkF m 363 #[.val (.long x0), .second, .val (.long x1), .second, .val (.long x2), .second, .val (.long x3), .second, .val (.int x4), .val (.int (1 : Int32)), .val (.long v13), .second, .val (.long v14), .second, .val (.long v15), .second, .val (.double v34), .second, .val (.double v61), .second, .val (.long v120), .second, .val (.long v160), .second] [(.long (2 : Int64)), (.long v160), (.ref b162), (.ref b162)])) _
      refine XS.lload X162.here hx rfl (hb hby at_363) rfl ?_
      show Steps p.tables e below (T162.setTop (mkF m 365 #[.val (.long x0), .second, .val (.long x1), .second, .val (.long x2), .second, .val (.long x3), .second, .val (.int x4), .val (.int (1 : Int32)), .val (.long v13), .second, .val (.long v14), .second, .val (.long v15), .second, .val (.double v34), .second, .val (.double v61), .second, .val (.long v120), .second, .val (.long v160), .second] [(.long v160), (.long (2 : Int64)), (.long v160), (.ref b162), (.ref b162)])) _
      refine XS.lmul X162.here hx rfl (hb hby at_365) rfl ?_
      show Steps p.tables e below (T162.setTop (mkF m 366 #[.val (.long x0), .second, .val (.long x1), .second, .val (.long x2), .second, .val (.long x3), .second, .val (.int x4), .val (.int (1 : Int32)), .val (.long v13), .second, .val (.long v14), .second, .val (.long v15), .second, .val (.double v34), .second, .val (.double v61), .second, .val (.long v120), .second, .val (.long v160), .second] [(.long ((2 : Int64) * v160)), (.long v160), (.ref b162), (.ref b162)])) _
      exact Steps.refl _
    have pre182 := pre162.trans st182
    obtain ⟨_, _, ⟨T183, L183, k183, n183⟩, -, X183, ⟨Lc183, hQ183, l183, y183, z183⟩, st183⟩ := X162.specialBack hx (y := (⟨"com/example/nestmine/nestmine/Conformance$Score", "<init>", "(JJ)V"⟩ : MethodName)) rfl hown (mvT hZ (hw _ (List.mem_of_getElem? (i := 3) rfl))) (mvT hZ (hw _ (List.mem_of_getElem? (i := 4) rfl))) (mvT hZ (hw _ (List.mem_of_getElem? (i := 5) rfl))) (by decide) (backOf (W := 1) (rm2 l Z a0 hw [] b162 v160 v181 (.long (0 : Int64)) (.long (0 : Int64)) h162 n0 Z162 A162 F179 F180 gn162) hZ (hw _ (List.mem_of_getElem? (i := 5) rfl)) (hw _ (List.mem_of_getElem? (i := 2) rfl)) (by decide) (by decide)) (g := (mkF m 366 #[.val (.long x0), .second, .val (.long x1), .second, .val (.long x2), .second, .val (.long x3), .second, .val (.int x4), .val (.int (1 : Int32)), .val (.long v13), .second, .val (.long v14), .second, .val (.long v15), .second, .val (.double v34), .second, .val (.double v61), .second, .val (.long v120), .second, .val (.long v160), .second] [(.long v181), (.long v160), (.ref b162), (.ref b162)])) rfl (by rw [hml]; rfl) (Steps.refl _) (a := b162) (argsL := [(.long v160), (.long v181)]) (rest := [(.ref b162)]) (lenOf pd0_0 rfl) rfl (by show 2 * 0 + _ ≤ _; exact Nat.le_of_eq rfl) (hb hby at_366) (fun _ _ => ⟨rfl, e162, (by decide : 5 + 0 ≤ _), (by decide : 10 + 0 ≤ _)⟩)
    dsimp only [Pt.U, Pt.locs, Pt.cells, Pt.slots] at X183 l183 y183 z183 st183 hQ183
    subst l183 y183 z183
    obtain ⟨rfl, Nq183, Kq183, P183_0, P183_1, P183_2⟩ := hQ183
    have F184 : Exa Z T183.heap b1 "com/example/nestmine/nestmine/Conformance$Score" := F163.keep Kq183
    have F185 : Exa Z T183.heap b1 "com/example/nestmine/nestmine/Conformance$Score" := F164.keep Kq183
    have F186 : Fld Z T183.heap b1 "com/example/nestmine/nestmine/Conformance$Score" "lost" "J" (.long x3) := F165.keep Kq183 (ninS neb1_b162 nin0)
    have F187 : Fld Z T183.heap b1 "com/example/nestmine/nestmine/Conformance$Score" "possible" "J" (.long (0 : Int64)) := F166.keep Kq183 (ninS neb1_b162 nin0)
    have F188 : Exa Z T183.heap b17 "com/example/nestmine/nestmine/Conformance$Score" := F167.keep Kq183
    have F189 : Exa Z T183.heap b17 "com/example/nestmine/nestmine/Conformance$Score" := F168.keep Kq183
    have F190 : Fld Z T183.heap b17 "com/example/nestmine/nestmine/Conformance$Score" "lost" "J" (.long v14) := F169.keep Kq183 (ninS neb17_b162 nin0)
    have F191 : Fld Z T183.heap b17 "com/example/nestmine/nestmine/Conformance$Score" "possible" "J" (.long v13) := F170.keep Kq183 (ninS neb17_b162 nin0)
    have F192 : Exa Z T183.heap b36 "com/example/nestmine/nestmine/Conformance$Score" := F171.keep Kq183
    have F193 : Exa Z T183.heap b36 "com/example/nestmine/nestmine/Conformance$Score" := F172.keep Kq183
    have F194 : Fld Z T183.heap b36 "com/example/nestmine/nestmine/Conformance$Score" "lost" "J" (.long v15) := F173.keep Kq183 (ninS neb36_b162 nin0)
    have F195 : Fld Z T183.heap b36 "com/example/nestmine/nestmine/Conformance$Score" "possible" "J" (.long v13) := F174.keep Kq183 (ninS neb36_b162 nin0)
    have F196 : Exa Z T183.heap b122 "com/example/nestmine/nestmine/Conformance$Score" := F175.keep Kq183
    have F197 : Exa Z T183.heap b122 "com/example/nestmine/nestmine/Conformance$Score" := F176.keep Kq183
    have F198 : Fld Z T183.heap b122 "com/example/nestmine/nestmine/Conformance$Score" "lost" "J" (.long v138) := F177.keep Kq183 (ninS neb122_b162 nin0)
    have F199 : Fld Z T183.heap b122 "com/example/nestmine/nestmine/Conformance$Score" "possible" "J" (.long v137) := F178.keep Kq183 (ninS neb122_b162 nin0)
    have F200 : Exa Z T183.heap b162 "com/example/nestmine/nestmine/Conformance$Score" := A162.keep Kq183
    have KK183 := K162.trans Kq183 (allS (Or.inr sz162) all0)
    have Z183 : n0 ≤ T183.heap.size := Nat.le_trans Z162 Kq183.1
    have N183 := Fr.app N156 Nq183
    have pre183 : Steps p.tables e below (s₁.setTop (entryFrame m #[(.long x0), (.long x1), (.long x2), (.long x3), (.int x4)] maxLocals)) (T183.setTop (mkF m 369 #[.val (.long x0), .second, .val (.long x1), .second, .val (.long x2), .second, .val (.long x3), .second, .val (.int x4), .val (.int (1 : Int32)), .val (.long v13), .second, .val (.long v14), .second, .val (.long v15), .second, .val (.double v34), .second, .val (.double v61), .second, .val (.long v120), .second, .val (.long v160), .second] [(.ref b162)])) := pre182.trans st183
    obtain ⟨cq203, kq203, q203a, q203b, q203c⟩ := isOf hZ rfl F200
    obtain ⟨_, _, ⟨T203, L203, k203, n203⟩, -, X203, ⟨Lc203, hQ203, l203, y203, z203⟩, st203⟩ := X183.virtualBack hx (y := (⟨"com/example/nestmine/nestmine/Conformance$Score", "value", "()D"⟩ : MethodName)) (z := (⟨"com/example/nestmine/nestmine/Conformance$Score", "value", "()D"⟩ : MethodName)) hown (mvT hZ (hw _ (List.mem_of_getElem? (i := 18) rfl))) (mvT hZ (hw _ (List.mem_of_getElem? (i := 19) rfl))) (notFace_of_selects (args := #[]) (mvT hZ (hw _ (List.mem_of_getElem? (i := 21) rfl)))) (mvT hZ (hw _ (List.mem_of_getElem? (i := 21) rfl))) (mvT hZ (hw _ (List.mem_of_getElem? (i := 20) rfl))) (by decide) (backOf (W := 0) (rm3 l Z a0 hw [] b162 v160 v181 T183.heap n0 Z183 P183_1 P183_2) hZ (hw _ (List.mem_of_getElem? (i := 22) rfl)) (hw _ (List.mem_of_getElem? (i := 2) rfl)) (by decide) (by decide)) q203a q203c (g := (mkF m 369 #[.val (.long x0), .second, .val (.long x1), .second, .val (.long x2), .second, .val (.long x3), .second, .val (.int x4), .val (.int (1 : Int32)), .val (.long v13), .second, .val (.long v14), .second, .val (.long v15), .second, .val (.double v34), .second, .val (.double v61), .second, .val (.long v120), .second, .val (.long v160), .second] [(.ref b162)])) rfl (by rw [hml]; rfl) (Steps.refl _) (argsL := []) (rest := []) (lenOf pd0_1 rfl) rfl (by show 2 * 0 + _ ≤ _; exact Nat.le_of_eq rfl) (hb hby at_369) (fun _ _ => ⟨rfl, rfl, (by decide : 5 + 0 ≤ _), (by decide : 10 + 0 ≤ _)⟩)
    dsimp only [Pt.U, Pt.locs, Pt.cells, Pt.slots] at X203 l203 y203 z203 st203 hQ203
    subst l203 y203 z203
    obtain ⟨rfl, Nq203, e203⟩ := hQ203
    have N203 := Fr.app N183 Nq203
    have pre203 : Steps p.tables e below (s₁.setTop (entryFrame m #[(.long x0), (.long x1), (.long x2), (.long x3), (.int x4)] maxLocals)) (T203.setTop (mkF m 372 #[.val (.long x0), .second, .val (.long x1), .second, .val (.long x2), .second, .val (.long x3), .second, .val (.int x4), .val (.int (1 : Int32)), .val (.long v13), .second, .val (.long v14), .second, .val (.long v15), .second, .val (.double v34), .second, .val (.double v61), .second, .val (.long v120), .second, .val (.long v160), .second] [(.double (own_F3 b162 v160 v181))])) := pre183.trans st203
    obtain ⟨v204, hv204⟩ : ∃ z : Int32, z = (cmpValue (FP.dcmp (own_F3 b162 v160 v181) (4602678819172646912 : UInt64)) .l) := ⟨_, rfl⟩
    have st205 : Steps p.tables e below (T203.setTop (mkF m 372 #[.val (.long x0), .second, .val (.long x1), .second, .val (.long x2), .second, .val (.long x3), .second, .val (.int x4), .val (.int (1 : Int32)), .val (.long v13), .second, .val (.long v14), .second, .val (.long v15), .second, .val (.double v34), .second, .val (.double v61), .second, .val (.long v120), .second, .val (.long v160), .second] [(.double (own_F3 b162 v160 v181))])) (T203.setTop (mkF m 376 #[.val (.long x0), .second, .val (.long x1), .second, .val (.long x2), .second, .val (.long x3), .second, .val (.int x4), .val (.int (1 : Int32)), .val (.long v13), .second, .val (.long v14), .second, .val (.long v15), .second, .val (.double v34), .second, .val (.double v61), .second, .val (.long v120), .second, .val (.long v160), .second] [(.int v204)])) := by
      subst v204
      refine X203.ldc2DoubleC hx hown (mvT hZ (hw _ (List.mem_of_getElem? (i := 27) rfl))) (g := (mkF m 372 #[.val (.long x0), .second, .val (.long x1), .second, .val (.long x2), .second, .val (.long x3), .second, .val (.int x4), .val (.int (1 : Int32)), .val (.long v13), .second, .val (.long v14), .second, .val (.long v15), .second, .val (.double v34), .second, .val (.double v61), .second, .val (.long v120), .second, .val (.long v160), .second] [(.double (own_F3 b162 v160 v181))])) rfl (hb hby at_372) _ ?_
      show Steps p.tables e below (T203.setTop (mkF m 375 #[.val (.long x0), .second, .val (.long x1), .second, .val (.long x2), .second, .val (.long x3), .second, .val (.int x4), .val (.int (1 : Int32)), .val (.long v13), .second, .val (.long v14), .second, .val (.long v15), .second, .val (.double v34), .second, .val (.double v61), .second, .val (.long v120), .second, .val (.long v160), .second] [(.double (4602678819172646912 : UInt64)), (.double (own_F3 b162 v160 v181))])) _
      refine XS.dcmpS X203.here hx rfl (hb hby at_375) rfl rfl ?_
      show Steps p.tables e below (T203.setTop (mkF m 376 #[.val (.long x0), .second, .val (.long x1), .second, .val (.long x2), .second, .val (.long x3), .second, .val (.int x4), .val (.int (1 : Int32)), .val (.long v13), .second, .val (.long v14), .second, .val (.long v15), .second, .val (.double v34), .second, .val (.double v61), .second, .val (.long v120), .second, .val (.long v160), .second] [(.int (cmpValue (FP.dcmp (own_F3 b162 v160 v181) (4602678819172646912 : UInt64)) .l))])) _
      exact Steps.refl _
    have pre205 := pre203.trans st205
    have hc376 : v204 = (0 : Int32) := by
      rw [hv204]
      exact own_376 hP1 hc230 hv160 hv181
    have st206 : Steps p.tables e below (T203.setTop (mkF m 376 #[.val (.long x0), .second, .val (.long x1), .second, .val (.long x2), .second, .val (.long x3), .second, .val (.int x4), .val (.int (1 : Int32)), .val (.long v13), .second, .val (.long v14), .second, .val (.long v15), .second, .val (.double v34), .second, .val (.double v61), .second, .val (.long v120), .second, .val (.long v160), .second] [(.int v204)])) (T203.setTop (mkF m 379 #[.val (.long x0), .second, .val (.long x1), .second, .val (.long x2), .second, .val (.long x3), .second, .val (.int x4), .val (.int (1 : Int32)), .val (.long v13), .second, .val (.long v14), .second, .val (.long v15), .second, .val (.double v34), .second, .val (.double v61), .second, .val (.long v120), .second, .val (.long v160), .second] [])) := by
      refine XS.ifNo X203.here hx rfl (hb hby at_376) rfl ((if0 _ _).trans (teq hc376).2) ?_
      exact Steps.refl _
    have pre206 := pre205.trans st206
    have st207 : Steps p.tables e below (T203.setTop (mkF m 379 #[.val (.long x0), .second, .val (.long x1), .second, .val (.long x2), .second, .val (.long x3), .second, .val (.int x4), .val (.int (1 : Int32)), .val (.long v13), .second, .val (.long v14), .second, .val (.long v15), .second, .val (.double v34), .second, .val (.double v61), .second, .val (.long v120), .second, .val (.long v160), .second] [])) (T203.setTop (mkF m 391 #[.val (.long x0), .second, .val (.long x1), .second, .val (.long x2), .second, .val (.long x3), .second, .val (.int x4), .val (.int (1 : Int32)), .val (.long v13), .second, .val (.long v14), .second, .val (.long v15), .second, .val (.double v34), .second, .val (.double v61), .second, .val (.long v120), .second, .val (.long v160), .second] [])) := by
      refine XS.iconst X203.here hx rfl (hb hby at_379) ?_
      show Steps p.tables e below (T203.setTop (mkF m 380 #[.val (.long x0), .second, .val (.long x1), .second, .val (.long x2), .second, .val (.long x3), .second, .val (.int x4), .val (.int (1 : Int32)), .val (.long v13), .second, .val (.long v14), .second, .val (.long v15), .second, .val (.double v34), .second, .val (.double v61), .second, .val (.long v120), .second, .val (.long v160), .second] [(.int (1 : Int32))])) _
      refine XS.goto X203.here hx rfl (pc0 := 380) (pc' := 384) rfl (hb hby at_380) (by decide) (by decide) ?_
      show Steps p.tables e below (T203.setTop (mkF m 384 #[.val (.long x0), .second, .val (.long x1), .second, .val (.long x2), .second, .val (.long x3), .second, .val (.int x4), .val (.int (1 : Int32)), .val (.long v13), .second, .val (.long v14), .second, .val (.long v15), .second, .val (.double v34), .second, .val (.double v61), .second, .val (.long v120), .second, .val (.long v160), .second] [(.int (1 : Int32))])) _
      refine XS.istore X203.here hx rfl (hb hby at_384) rfl (l' := #[.val (.long x0), .second, .val (.long x1), .second, .val (.long x2), .second, .val (.long x3), .second, .val (.int x4), .val (.int (1 : Int32)), .val (.long v13), .second, .val (.long v14), .second, .val (.long v15), .second, .val (.double v34), .second, .val (.double v61), .second, .val (.long v120), .second, .val (.long v160), .second]) rfl ?_
      show Steps p.tables e below (T203.setTop (mkF m 386 #[.val (.long x0), .second, .val (.long x1), .second, .val (.long x2), .second, .val (.long x3), .second, .val (.int x4), .val (.int (1 : Int32)), .val (.long v13), .second, .val (.long v14), .second, .val (.long v15), .second, .val (.double v34), .second, .val (.double v61), .second, .val (.long v120), .second, .val (.long v160), .second] [])) _
      refine XS.iload X203.here hx rfl (hb hby at_386) rfl ?_
      show Steps p.tables e below (T203.setTop (mkF m 388 #[.val (.long x0), .second, .val (.long x1), .second, .val (.long x2), .second, .val (.long x3), .second, .val (.int x4), .val (.int (1 : Int32)), .val (.long v13), .second, .val (.long v14), .second, .val (.long v15), .second, .val (.double v34), .second, .val (.double v61), .second, .val (.long v120), .second, .val (.long v160), .second] [(.int (1 : Int32))])) _
      refine XS.ifNo X203.here hx rfl (hb hby at_388) rfl ((if0 _ _).trans (feq (by decide : ¬ ((1 : Int32) = (0 : Int32)))).1) ?_
      show Steps p.tables e below (T203.setTop (mkF m 391 #[.val (.long x0), .second, .val (.long x1), .second, .val (.long x2), .second, .val (.long x3), .second, .val (.int x4), .val (.int (1 : Int32)), .val (.long v13), .second, .val (.long v14), .second, .val (.long v15), .second, .val (.double v34), .second, .val (.double v61), .second, .val (.long v120), .second, .val (.long v160), .second] [])) _
      exact Steps.refl _
    have pre207 := pre206.trans st207
    obtain ⟨T208, h208, X208, e208, E208, A208, D208, -, st208⟩ := newO X203 hx hZ hown (hw _ (List.mem_of_getElem? (i := 0) rfl)) (hw _ (List.mem_of_getElem? (i := 1) rfl)) (hw _ (List.mem_of_getElem? (i := 2) rfl)) e203 (g := (mkF m 391 #[.val (.long x0), .second, .val (.long x1), .second, .val (.long x2), .second, .val (.long x3), .second, .val (.int x4), .val (.int (1 : Int32)), .val (.long v13), .second, .val (.long v14), .second, .val (.long v15), .second, .val (.double v34), .second, .val (.double v61), .second, .val (.long v120), .second, .val (.long v160), .second] [])) rfl (hb hby at_391) (by decide) (by decide)
    obtain ⟨b208, g208⟩ : ∃ z, z = T183.heap.size := ⟨_, rfl⟩
    rw [← g208] at A208 D208 st208
    have pre208 : Steps p.tables e below (s₁.setTop (entryFrame m #[(.long x0), (.long x1), (.long x2), (.long x3), (.int x4)] maxLocals)) (T208.setTop (mkF m 394 #[.val (.long x0), .second, .val (.long x1), .second, .val (.long x2), .second, .val (.long x3), .second, .val (.int x4), .val (.int (1 : Int32)), .val (.long v13), .second, .val (.long v14), .second, .val (.long v15), .second, .val (.double v34), .second, .val (.double v61), .second, .val (.long v120), .second, .val (.long v160), .second] [(.ref b208)])) := pre207.trans (st208 _ (Steps.refl _))
    have gn208 : n0 ≤ b208 := Nat.le_trans Z183 (Nat.le_of_eq g208.symm)
    have sz208 : h0.size ≤ b208 := Nat.le_trans KK183.1 (Nat.le_of_eq g208.symm)
    have neb1_b208 : b1 ≠ b208 := Nat.ne_of_lt (Nat.lt_of_lt_of_le F184.lt (Nat.le_of_eq g208.symm))
    have neb17_b208 : b17 ≠ b208 := Nat.ne_of_lt (Nat.lt_of_lt_of_le F188.lt (Nat.le_of_eq g208.symm))
    have neb36_b208 : b36 ≠ b208 := Nat.ne_of_lt (Nat.lt_of_lt_of_le F192.lt (Nat.le_of_eq g208.symm))
    have neb122_b208 : b122 ≠ b208 := Nat.ne_of_lt (Nat.lt_of_lt_of_le F196.lt (Nat.le_of_eq g208.symm))
    have neb162_b208 : b162 ≠ b208 := Nat.ne_of_lt (Nat.lt_of_lt_of_le F200.lt (Nat.le_of_eq g208.symm))
    have F209 : Exa Z h208 b1 "com/example/nestmine/nestmine/Conformance$Score" := F184.ext E208
    have F210 : Exa Z h208 b1 "com/example/nestmine/nestmine/Conformance$Score" := F185.ext E208
    have F211 : Fld Z h208 b1 "com/example/nestmine/nestmine/Conformance$Score" "lost" "J" (.long x3) := F186.ext E208
    have F212 : Fld Z h208 b1 "com/example/nestmine/nestmine/Conformance$Score" "possible" "J" (.long (0 : Int64)) := F187.ext E208
    have F213 : Exa Z h208 b17 "com/example/nestmine/nestmine/Conformance$Score" := F188.ext E208
    have F214 : Exa Z h208 b17 "com/example/nestmine/nestmine/Conformance$Score" := F189.ext E208
    have F215 : Fld Z h208 b17 "com/example/nestmine/nestmine/Conformance$Score" "lost" "J" (.long v14) := F190.ext E208
    have F216 : Fld Z h208 b17 "com/example/nestmine/nestmine/Conformance$Score" "possible" "J" (.long v13) := F191.ext E208
    have F217 : Exa Z h208 b36 "com/example/nestmine/nestmine/Conformance$Score" := F192.ext E208
    have F218 : Exa Z h208 b36 "com/example/nestmine/nestmine/Conformance$Score" := F193.ext E208
    have F219 : Fld Z h208 b36 "com/example/nestmine/nestmine/Conformance$Score" "lost" "J" (.long v15) := F194.ext E208
    have F220 : Fld Z h208 b36 "com/example/nestmine/nestmine/Conformance$Score" "possible" "J" (.long v13) := F195.ext E208
    have F221 : Exa Z h208 b122 "com/example/nestmine/nestmine/Conformance$Score" := F196.ext E208
    have F222 : Exa Z h208 b122 "com/example/nestmine/nestmine/Conformance$Score" := F197.ext E208
    have F223 : Fld Z h208 b122 "com/example/nestmine/nestmine/Conformance$Score" "lost" "J" (.long v138) := F198.ext E208
    have F224 : Fld Z h208 b122 "com/example/nestmine/nestmine/Conformance$Score" "possible" "J" (.long v137) := F199.ext E208
    have F225 : Exa Z h208 b162 "com/example/nestmine/nestmine/Conformance$Score" := F200.ext E208
    have F226 : Exa Z h208 b162 "com/example/nestmine/nestmine/Conformance$Score" := P183_0.ext E208
    have F227 : Fld Z h208 b162 "com/example/nestmine/nestmine/Conformance$Score" "lost" "J" (.long v160) := P183_1.ext E208
    have F228 : Fld Z h208 b162 "com/example/nestmine/nestmine/Conformance$Score" "possible" "J" (.long v181) := P183_2.ext E208
    have K208 := KK183.ext E208
    have Z208 : n0 ≤ h208.size := Nat.le_trans Z183 E208.1
    have F229 : Fld Z h208 b208 "com/example/nestmine/nestmine/Conformance$Score" "lost" "J" (.long (0 : Int64)) := D208 (Or.inr (hw _ (List.mem_of_getElem? (i := 15) rfl))) (ty := .long) (by decide)
    have F230 : Fld Z h208 b208 "com/example/nestmine/nestmine/Conformance$Score" "possible" "J" (.long (0 : Int64)) := D208 (Or.inr (hw _ (List.mem_of_getElem? (i := 17) rfl))) (ty := .long) (by decide)
    obtain ⟨v231, hv231⟩ : ∃ z : Int64, z = ((4 : Int64) * v160) := ⟨_, rfl⟩
    have st232 : Steps p.tables e below (T208.setTop (mkF m 394 #[.val (.long x0), .second, .val (.long x1), .second, .val (.long x2), .second, .val (.long x3), .second, .val (.int x4), .val (.int (1 : Int32)), .val (.long v13), .second, .val (.long v14), .second, .val (.long v15), .second, .val (.double v34), .second, .val (.double v61), .second, .val (.long v120), .second, .val (.long v160), .second] [(.ref b208)])) (T208.setTop (mkF m 403 #[.val (.long x0), .second, .val (.long x1), .second, .val (.long x2), .second, .val (.long x3), .second, .val (.int x4), .val (.int (1 : Int32)), .val (.long v13), .second, .val (.long v14), .second, .val (.long v15), .second, .val (.double v34), .second, .val (.double v61), .second, .val (.long v120), .second, .val (.long v160), .second] [(.long v231), (.long v160), (.ref b208), (.ref b208)])) := by
      subst v231
      refine XS.dup X208.here hx rfl (hb hby at_394) rfl rfl ?_
      show Steps p.tables e below (T208.setTop (mkF m 395 #[.val (.long x0), .second, .val (.long x1), .second, .val (.long x2), .second, .val (.long x3), .second, .val (.int x4), .val (.int (1 : Int32)), .val (.long v13), .second, .val (.long v14), .second, .val (.long v15), .second, .val (.double v34), .second, .val (.double v61), .second, .val (.long v120), .second, .val (.long v160), .second] [(.ref b208), (.ref b208)])) _
      refine XS.lload X208.here hx rfl (hb hby at_395) rfl ?_
      show Steps p.tables e below (T208.setTop (mkF m 397 #[.val (.long x0), .second, .val (.long x1), .second, .val (.long x2), .second, .val (.long x3), .second, .val (.int x4), .val (.int (1 : Int32)), .val (.long v13), .second, .val (.long v14), .second, .val (.long v15), .second, .val (.double v34), .second, .val (.double v61), .second, .val (.long v120), .second, .val (.long v160), .second] [(.long v160), (.ref b208), (.ref b208)])) _
      refine X208.ldc2Long hx hown (mvT hZ (hw _ (List.mem_of_getElem? (i := 28) rfl))) (g := (mkF m 397 #[.val (.long x0), .second, .val (.long x1), .second, .val (.long x2), .second, .val (.long x3), .second, .val (.int x4), .val (.int (1 : Int32)), .val (.long v13), .second, .val (.long v14), .second, .val (.long v15), .second, .val (.double v34), .second, .val (.double v61), .second, .val (.long v120), .second, .val (.long v160), .second] [(.long v160), (.ref b208), (.ref b208)])) rfl (hb hby at_397) _ ?_
      show Steps p.tables e below (T208.setTop (mkF m 400 #[.val (.long x0), .second, .val (.long x1), .second, .val (.long x2), .second, .val (.long x3), .second, .val (.int x4), .val (.int (1 : Int32)), .val (.long v13), .second, .val (.long v14), .second, .val (.long v15), .second, .val (.double v34), .second, .val (.double v61), .second, .val (.long v120), .second, .val (.long v160), .second] [(.long (4 : Int64)), (.long v160), (.ref b208), (.ref b208)])) _
      refine XS.lload X208.here hx rfl (hb hby at_400) rfl ?_
      show Steps p.tables e below (T208.setTop (mkF m 402 #[.val (.long x0), .second, .val (.long x1), .second, .val (.long x2), .second, .val (.long x3), .second, .val (.int x4), .val (.int (1 : Int32)), .val (.long v13), .second, .val (.long v14), .second, .val (.long v15), .second, .val (.double v34), .second, .val (.double v61), .second, .val (.long v120), .second, .val (.long v160), .second] [(.long v160), (.long (4 : Int64)), (.long v160), (.ref b208), (.ref b208)])) _
      refine XS.lmul X208.here hx rfl (hb hby at_402) rfl ?_
      show Steps p.tables e below (T208.setTop (mkF m 403 #[.val (.long x0), .second, .val (.long x1), .second, .val (.long x2), .second, .val (.long x3), .second, .val (.int x4), .val (.int (1 : Int32)), .val (.long v13), .second, .val (.long v14), .second, .val (.long v15), .second, .val (.double v34), .second, .val (.double v61), .second, .val (.long v120), .second, .val (.long v160), .second] [(.long ((4 : Int64) * v160)), (.long v160), (.ref b208), (.ref b208)])) _
      exact Steps.refl _
    have pre232 := pre208.trans st232
    obtain ⟨_, _, ⟨T233, L233, k233, n233⟩, -, X233, ⟨Lc233, hQ233, l233, y233, z233⟩, st233⟩ := X208.specialBack hx (y := (⟨"com/example/nestmine/nestmine/Conformance$Score", "<init>", "(JJ)V"⟩ : MethodName)) rfl hown (mvT hZ (hw _ (List.mem_of_getElem? (i := 3) rfl))) (mvT hZ (hw _ (List.mem_of_getElem? (i := 4) rfl))) (mvT hZ (hw _ (List.mem_of_getElem? (i := 5) rfl))) (by decide) (backOf (W := 1) (rm2 l Z a0 hw [] b208 v160 v231 (.long (0 : Int64)) (.long (0 : Int64)) h208 n0 Z208 A208 F229 F230 gn208) hZ (hw _ (List.mem_of_getElem? (i := 5) rfl)) (hw _ (List.mem_of_getElem? (i := 2) rfl)) (by decide) (by decide)) (g := (mkF m 403 #[.val (.long x0), .second, .val (.long x1), .second, .val (.long x2), .second, .val (.long x3), .second, .val (.int x4), .val (.int (1 : Int32)), .val (.long v13), .second, .val (.long v14), .second, .val (.long v15), .second, .val (.double v34), .second, .val (.double v61), .second, .val (.long v120), .second, .val (.long v160), .second] [(.long v231), (.long v160), (.ref b208), (.ref b208)])) rfl (by rw [hml]; rfl) (Steps.refl _) (a := b208) (argsL := [(.long v160), (.long v231)]) (rest := [(.ref b208)]) (lenOf pd0_0 rfl) rfl (by show 2 * 0 + _ ≤ _; exact Nat.le_of_eq rfl) (hb hby at_403) (fun _ _ => ⟨rfl, e208, (by decide : 6 + 0 ≤ _), (by decide : 12 + 0 ≤ _)⟩)
    dsimp only [Pt.U, Pt.locs, Pt.cells, Pt.slots] at X233 l233 y233 z233 st233 hQ233
    subst l233 y233 z233
    obtain ⟨rfl, Nq233, Kq233, P233_0, P233_1, P233_2⟩ := hQ233
    have F234 : Exa Z T233.heap b1 "com/example/nestmine/nestmine/Conformance$Score" := F209.keep Kq233
    have F235 : Exa Z T233.heap b1 "com/example/nestmine/nestmine/Conformance$Score" := F210.keep Kq233
    have F236 : Fld Z T233.heap b1 "com/example/nestmine/nestmine/Conformance$Score" "lost" "J" (.long x3) := F211.keep Kq233 (ninS neb1_b208 nin0)
    have F237 : Fld Z T233.heap b1 "com/example/nestmine/nestmine/Conformance$Score" "possible" "J" (.long (0 : Int64)) := F212.keep Kq233 (ninS neb1_b208 nin0)
    have F238 : Exa Z T233.heap b17 "com/example/nestmine/nestmine/Conformance$Score" := F213.keep Kq233
    have F239 : Exa Z T233.heap b17 "com/example/nestmine/nestmine/Conformance$Score" := F214.keep Kq233
    have F240 : Fld Z T233.heap b17 "com/example/nestmine/nestmine/Conformance$Score" "lost" "J" (.long v14) := F215.keep Kq233 (ninS neb17_b208 nin0)
    have F241 : Fld Z T233.heap b17 "com/example/nestmine/nestmine/Conformance$Score" "possible" "J" (.long v13) := F216.keep Kq233 (ninS neb17_b208 nin0)
    have F242 : Exa Z T233.heap b36 "com/example/nestmine/nestmine/Conformance$Score" := F217.keep Kq233
    have F243 : Exa Z T233.heap b36 "com/example/nestmine/nestmine/Conformance$Score" := F218.keep Kq233
    have F244 : Fld Z T233.heap b36 "com/example/nestmine/nestmine/Conformance$Score" "lost" "J" (.long v15) := F219.keep Kq233 (ninS neb36_b208 nin0)
    have F245 : Fld Z T233.heap b36 "com/example/nestmine/nestmine/Conformance$Score" "possible" "J" (.long v13) := F220.keep Kq233 (ninS neb36_b208 nin0)
    have F246 : Exa Z T233.heap b122 "com/example/nestmine/nestmine/Conformance$Score" := F221.keep Kq233
    have F247 : Exa Z T233.heap b122 "com/example/nestmine/nestmine/Conformance$Score" := F222.keep Kq233
    have F248 : Fld Z T233.heap b122 "com/example/nestmine/nestmine/Conformance$Score" "lost" "J" (.long v138) := F223.keep Kq233 (ninS neb122_b208 nin0)
    have F249 : Fld Z T233.heap b122 "com/example/nestmine/nestmine/Conformance$Score" "possible" "J" (.long v137) := F224.keep Kq233 (ninS neb122_b208 nin0)
    have F250 : Exa Z T233.heap b162 "com/example/nestmine/nestmine/Conformance$Score" := F225.keep Kq233
    have F251 : Exa Z T233.heap b162 "com/example/nestmine/nestmine/Conformance$Score" := F226.keep Kq233
    have F252 : Fld Z T233.heap b162 "com/example/nestmine/nestmine/Conformance$Score" "lost" "J" (.long v160) := F227.keep Kq233 (ninS neb162_b208 nin0)
    have F253 : Fld Z T233.heap b162 "com/example/nestmine/nestmine/Conformance$Score" "possible" "J" (.long v181) := F228.keep Kq233 (ninS neb162_b208 nin0)
    have F254 : Exa Z T233.heap b208 "com/example/nestmine/nestmine/Conformance$Score" := A208.keep Kq233
    have KK233 := K208.trans Kq233 (allS (Or.inr sz208) all0)
    have Z233 : n0 ≤ T233.heap.size := Nat.le_trans Z208 Kq233.1
    have N233 := Fr.app N203 Nq233
    have pre233 : Steps p.tables e below (s₁.setTop (entryFrame m #[(.long x0), (.long x1), (.long x2), (.long x3), (.int x4)] maxLocals)) (T233.setTop (mkF m 406 #[.val (.long x0), .second, .val (.long x1), .second, .val (.long x2), .second, .val (.long x3), .second, .val (.int x4), .val (.int (1 : Int32)), .val (.long v13), .second, .val (.long v14), .second, .val (.long v15), .second, .val (.double v34), .second, .val (.double v61), .second, .val (.long v120), .second, .val (.long v160), .second] [(.ref b208)])) := pre232.trans st233
    obtain ⟨cq257, kq257, q257a, q257b, q257c⟩ := isOf hZ rfl F254
    obtain ⟨_, _, ⟨T257, L257, k257, n257⟩, -, X257, ⟨Lc257, hQ257, l257, y257, z257⟩, st257⟩ := X233.virtualBack hx (y := (⟨"com/example/nestmine/nestmine/Conformance$Score", "value", "()D"⟩ : MethodName)) (z := (⟨"com/example/nestmine/nestmine/Conformance$Score", "value", "()D"⟩ : MethodName)) hown (mvT hZ (hw _ (List.mem_of_getElem? (i := 18) rfl))) (mvT hZ (hw _ (List.mem_of_getElem? (i := 19) rfl))) (notFace_of_selects (args := #[]) (mvT hZ (hw _ (List.mem_of_getElem? (i := 21) rfl)))) (mvT hZ (hw _ (List.mem_of_getElem? (i := 21) rfl))) (mvT hZ (hw _ (List.mem_of_getElem? (i := 20) rfl))) (by decide) (backOf (W := 0) (rm3 l Z a0 hw [] b208 v160 v231 T233.heap n0 Z233 P233_1 P233_2) hZ (hw _ (List.mem_of_getElem? (i := 22) rfl)) (hw _ (List.mem_of_getElem? (i := 2) rfl)) (by decide) (by decide)) q257a q257c (g := (mkF m 406 #[.val (.long x0), .second, .val (.long x1), .second, .val (.long x2), .second, .val (.long x3), .second, .val (.int x4), .val (.int (1 : Int32)), .val (.long v13), .second, .val (.long v14), .second, .val (.long v15), .second, .val (.double v34), .second, .val (.double v61), .second, .val (.long v120), .second, .val (.long v160), .second] [(.ref b208)])) rfl (by rw [hml]; rfl) (Steps.refl _) (argsL := []) (rest := []) (lenOf pd0_1 rfl) rfl (by show 2 * 0 + _ ≤ _; exact Nat.le_of_eq rfl) (hb hby at_406) (fun _ _ => ⟨rfl, rfl, (by decide : 6 + 0 ≤ _), (by decide : 12 + 0 ≤ _)⟩)
    dsimp only [Pt.U, Pt.locs, Pt.cells, Pt.slots] at X257 l257 y257 z257 st257 hQ257
    subst l257 y257 z257
    obtain ⟨rfl, Nq257, e257⟩ := hQ257
    have N257 := Fr.app N233 Nq257
    have pre257 : Steps p.tables e below (s₁.setTop (entryFrame m #[(.long x0), (.long x1), (.long x2), (.long x3), (.int x4)] maxLocals)) (T257.setTop (mkF m 409 #[.val (.long x0), .second, .val (.long x1), .second, .val (.long x2), .second, .val (.long x3), .second, .val (.int x4), .val (.int (1 : Int32)), .val (.long v13), .second, .val (.long v14), .second, .val (.long v15), .second, .val (.double v34), .second, .val (.double v61), .second, .val (.long v120), .second, .val (.long v160), .second] [(.double (own_F3 b208 v160 v231))])) := pre233.trans st257
    obtain ⟨v258, hv258⟩ : ∃ z : Int32, z = (cmpValue (FP.dcmp (own_F3 b208 v160 v231) (4604930618986332160 : UInt64)) .l) := ⟨_, rfl⟩
    have st259 : Steps p.tables e below (T257.setTop (mkF m 409 #[.val (.long x0), .second, .val (.long x1), .second, .val (.long x2), .second, .val (.long x3), .second, .val (.int x4), .val (.int (1 : Int32)), .val (.long v13), .second, .val (.long v14), .second, .val (.long v15), .second, .val (.double v34), .second, .val (.double v61), .second, .val (.long v120), .second, .val (.long v160), .second] [(.double (own_F3 b208 v160 v231))])) (T257.setTop (mkF m 413 #[.val (.long x0), .second, .val (.long x1), .second, .val (.long x2), .second, .val (.long x3), .second, .val (.int x4), .val (.int (1 : Int32)), .val (.long v13), .second, .val (.long v14), .second, .val (.long v15), .second, .val (.double v34), .second, .val (.double v61), .second, .val (.long v120), .second, .val (.long v160), .second] [(.int v258)])) := by
      subst v258
      refine X257.ldc2DoubleC hx hown (mvT hZ (hw _ (List.mem_of_getElem? (i := 29) rfl))) (g := (mkF m 409 #[.val (.long x0), .second, .val (.long x1), .second, .val (.long x2), .second, .val (.long x3), .second, .val (.int x4), .val (.int (1 : Int32)), .val (.long v13), .second, .val (.long v14), .second, .val (.long v15), .second, .val (.double v34), .second, .val (.double v61), .second, .val (.long v120), .second, .val (.long v160), .second] [(.double (own_F3 b208 v160 v231))])) rfl (hb hby at_409) _ ?_
      show Steps p.tables e below (T257.setTop (mkF m 412 #[.val (.long x0), .second, .val (.long x1), .second, .val (.long x2), .second, .val (.long x3), .second, .val (.int x4), .val (.int (1 : Int32)), .val (.long v13), .second, .val (.long v14), .second, .val (.long v15), .second, .val (.double v34), .second, .val (.double v61), .second, .val (.long v120), .second, .val (.long v160), .second] [(.double (4604930618986332160 : UInt64)), (.double (own_F3 b208 v160 v231))])) _
      refine XS.dcmpS X257.here hx rfl (hb hby at_412) rfl rfl ?_
      show Steps p.tables e below (T257.setTop (mkF m 413 #[.val (.long x0), .second, .val (.long x1), .second, .val (.long x2), .second, .val (.long x3), .second, .val (.int x4), .val (.int (1 : Int32)), .val (.long v13), .second, .val (.long v14), .second, .val (.long v15), .second, .val (.double v34), .second, .val (.double v61), .second, .val (.long v120), .second, .val (.long v160), .second] [(.int (cmpValue (FP.dcmp (own_F3 b208 v160 v231) (4604930618986332160 : UInt64)) .l))])) _
      exact Steps.refl _
    have pre259 := pre257.trans st259
    have hc413 : v258 = (0 : Int32) := by
      rw [hv258]
      exact own_413 hP1 hc230 hv160 hv231
    have st260 : Steps p.tables e below (T257.setTop (mkF m 413 #[.val (.long x0), .second, .val (.long x1), .second, .val (.long x2), .second, .val (.long x3), .second, .val (.int x4), .val (.int (1 : Int32)), .val (.long v13), .second, .val (.long v14), .second, .val (.long v15), .second, .val (.double v34), .second, .val (.double v61), .second, .val (.long v120), .second, .val (.long v160), .second] [(.int v258)])) (T257.setTop (mkF m 416 #[.val (.long x0), .second, .val (.long x1), .second, .val (.long x2), .second, .val (.long x3), .second, .val (.int x4), .val (.int (1 : Int32)), .val (.long v13), .second, .val (.long v14), .second, .val (.long v15), .second, .val (.double v34), .second, .val (.double v61), .second, .val (.long v120), .second, .val (.long v160), .second] [])) := by
      refine XS.ifNo X257.here hx rfl (hb hby at_413) rfl ((if0 _ _).trans (teq hc413).2) ?_
      exact Steps.refl _
    have pre260 := pre259.trans st260
    have st261 : Steps p.tables e below (T257.setTop (mkF m 416 #[.val (.long x0), .second, .val (.long x1), .second, .val (.long x2), .second, .val (.long x3), .second, .val (.int x4), .val (.int (1 : Int32)), .val (.long v13), .second, .val (.long v14), .second, .val (.long v15), .second, .val (.double v34), .second, .val (.double v61), .second, .val (.long v120), .second, .val (.long v160), .second] [])) (T257.setTop (mkF m 425 #[.val (.long x0), .second, .val (.long x1), .second, .val (.long x2), .second, .val (.long x3), .second, .val (.int x4), .val (.int (1 : Int32)), .val (.long v13), .second, .val (.long v14), .second, .val (.long v15), .second, .val (.double v34), .second, .val (.double v61), .second, .val (.long v120), .second, .val (.long v160), .second] [(.int (1 : Int32))])) := by
      refine XS.iconst X257.here hx rfl (hb hby at_416) ?_
      show Steps p.tables e below (T257.setTop (mkF m 417 #[.val (.long x0), .second, .val (.long x1), .second, .val (.long x2), .second, .val (.long x3), .second, .val (.int x4), .val (.int (1 : Int32)), .val (.long v13), .second, .val (.long v14), .second, .val (.long v15), .second, .val (.double v34), .second, .val (.double v61), .second, .val (.long v120), .second, .val (.long v160), .second] [(.int (1 : Int32))])) _
      refine XS.goto X257.here hx rfl (pc0 := 417) (pc' := 421) rfl (hb hby at_417) (by decide) (by decide) ?_
      show Steps p.tables e below (T257.setTop (mkF m 421 #[.val (.long x0), .second, .val (.long x1), .second, .val (.long x2), .second, .val (.long x3), .second, .val (.int x4), .val (.int (1 : Int32)), .val (.long v13), .second, .val (.long v14), .second, .val (.long v15), .second, .val (.double v34), .second, .val (.double v61), .second, .val (.long v120), .second, .val (.long v160), .second] [(.int (1 : Int32))])) _
      refine XS.istore X257.here hx rfl (hb hby at_421) rfl (l' := #[.val (.long x0), .second, .val (.long x1), .second, .val (.long x2), .second, .val (.long x3), .second, .val (.int x4), .val (.int (1 : Int32)), .val (.long v13), .second, .val (.long v14), .second, .val (.long v15), .second, .val (.double v34), .second, .val (.double v61), .second, .val (.long v120), .second, .val (.long v160), .second]) rfl ?_
      show Steps p.tables e below (T257.setTop (mkF m 423 #[.val (.long x0), .second, .val (.long x1), .second, .val (.long x2), .second, .val (.long x3), .second, .val (.int x4), .val (.int (1 : Int32)), .val (.long v13), .second, .val (.long v14), .second, .val (.long v15), .second, .val (.double v34), .second, .val (.double v61), .second, .val (.long v120), .second, .val (.long v160), .second] [])) _
      refine XS.iload X257.here hx rfl (hb hby at_423) rfl ?_
      show Steps p.tables e below (T257.setTop (mkF m 425 #[.val (.long x0), .second, .val (.long x1), .second, .val (.long x2), .second, .val (.long x3), .second, .val (.int x4), .val (.int (1 : Int32)), .val (.long v13), .second, .val (.long v14), .second, .val (.long v15), .second, .val (.double v34), .second, .val (.double v61), .second, .val (.long v120), .second, .val (.long v160), .second] [(.int (1 : Int32))])) _
      exact Steps.refl _
    have pre261 := pre260.trans st261
    obtain ⟨fs, hr, hrun, hended, hW, hsame⟩ := X257.leave (v := some (.int (1 : Int32))) (fun h => by rw [Bd.returns] at h; cases h)
    refine ⟨_, _, pre261.trans ?_, hrun, hended, _, _, rfl, ?_, ⟨_, rfl⟩, hW, hsame.mono (by decide) (by decide)⟩
    · show Steps p.tables e below (T257.setTop (mkF m 425 #[.val (.long x0), .second, .val (.long x1), .second, .val (.long x2), .second, .val (.long x3), .second, .val (.int x4), .val (.int (1 : Int32)), .val (.long v13), .second, .val (.long v14), .second, .val (.long v15), .second, .val (.double v34), .second, .val (.double v61), .second, .val (.long v120), .second, .val (.long v160), .second] [(.int (1 : Int32))])) _
      exact retN X257 hx (t := .boolean) Bd.returns (by simp) (hb hby at_425) hr
    · show Q0 Z x0 x1 x2 x3 x4 h0 n0 _ T257.heap _
      rw [e257]
      exact ⟨rfl, N257⟩
set_option maxRecDepth 65536 in
set_option maxHeartbeats 40000000 in
theorem comes_1 {Post : Tables → Env → Array Value → State → Outcome → State → Prop} (hpost : ∀ tb e args s v u, (limb_1_1.after args s (.returned v) u = true ∧ limb_1_2.after args s (.returned v) u = true ∧ True) → FrameEnd s (.returned v) u (Jvm.fieldLocs frame_1_writes args s ++ Jvm.arrayLocs frame_1_arrays args s ++ Jvm.staticLocs frame_1_statics s) 24 128 → Post tb e args s (.returned v) u) :
    ArmFor flags0 classFile x code maxLocals ret World_1 tables_1 room_1 Calls_1 rest_1 Pre_1 Post := by
  intro l hfl _ _ p e ha hc hk s m args below hf hA hF happ hP
  obtain ⟨hcalls, hrest, hpre⟩ := hP
  obtain ⟨-, -, -, hnamed, -, -, -, hat⟩ := (Spec.applies_iff hf).mp happ
  obtain ⟨hg, hn⟩ := and_e (Cond.before_iff.mp (show (Jvm.Cond.and given_1 narrow_1).before args s = true from hpre))
  obtain ⟨g1, g2⟩ := and_e hg
  obtain ⟨g3, g4⟩ := and_e g2
  obtain ⟨g5, g6⟩ := and_e g4
  obtain ⟨g7, g8⟩ := and_e g6
  obtain ⟨g9, g10⟩ := and_e g8
  obtain ⟨w0, w1, w2, w3, w4, rfl⟩ : ∃ w0 w1 w2 w3 w4 : Value, args = #[w0, w1, w2, w3, w4] := by
    have hs : args.size = 5 := by simpa [Cond.value, given_1] using g1
    obtain ⟨L⟩ := args
    match L, hs with
    | [w0, w1, w2, w3, w4], _ => exact ⟨w0, w1, w2, w3, w4, rfl⟩
  have hw := fun d (hd : d ∈ tables_1) => atoms_spec (ws := Jvm.Cond.code x code maxLocals ret :: tables_1) hat d (List.mem_cons_of_mem _ hd)
  obtain ⟨i0, ei0⟩ := isL_v g3
  obtain rfl : w0 = (.long i0) := Option.some.inj ei0
  obtain ⟨i1, ei1⟩ := isL_v g5
  obtain rfl : w1 = (.long i1) := Option.some.inj ei1
  obtain ⟨i2, ei2⟩ := isL_v g7
  obtain rfl : w2 = (.long i2) := Option.some.inj ei2
  obtain ⟨i3, ei3⟩ := isL_v g9
  obtain rfl : w3 = (.long i3) := Option.some.inj ei3
  obtain ⟨i4, ei4⟩ := is_v g10
  obtain rfl : w4 = (.int i4) := Option.some.inj ei4
  obtain ⟨n, o, h1, h2, h3, _, L, rfl, ⟨rfl, N⟩, hq⟩ := rm0 l s _ hw tables_1 i0 i1 i2 i3 i4 s.heap s.heap.size (Nat.le_refl _) p e ha hc hk s m _ below hf ((Spec.applies_iff_loose hf).mp happ).1 ⟨rfl, State.Warmed39.refl s, rfl⟩ trivial
  refine ⟨n, _, h1, h2, h3, hpost _ _ _ _ _ _ ⟨Cond.after_iff.mpr rfl, Cond.after_iff.mpr (eq_i res_at (Term.int_eval (1)) rfl), trivial⟩ ⟨hq.1, hq.2.1, (hq.2.2.sift fun y hy => Or.inr (N y hy)).mono (by decide) (by decide)⟩⟩
theorem main_1_1 : Claimed_1_1 := comes_1 fun _ _ _ _ _ _ h hF => ⟨h.1, hF⟩
theorem main_1_2 : Claimed_1_2 := comes_1 fun _ _ _ _ _ _ h hF => ⟨h.2.1, hF⟩
end Jvm.Pilot.@@N@@
namespace Jvm.Pilot.@@N@@
open Jvm Jvm.ClassFile Sem Op Lib Jvm.Free Jvm.Stand Jvm.Pilot.@@N@@.Jvm.D
/-! MADE BY PROGRAM (witnessworld.py) out of the Statement's table words and the real class files: 10 classes; the members and pool entries that the words name. The judged class is class 1, her method 1. -/
namespace start1
open Jvm.ClassFile
def u (s : String) : CpInfo := .utf8 (stringToUtf16 s)
/-- a pool by its gaps: so many unusable entries, then the entry; so many at the end -/
def gap : Nat → List CpInfo → List CpInfo
  | 0, r => r
  | n + 1, r => .unusable :: gap n r
def poolList (es : List (Nat × CpInfo)) (last : Nat) : List CpInfo := es.foldr (fun e r => gap e.1 (e.2 :: r)) (gap last [])
def pool (es : List (Nat × CpInfo)) (last : Nat) : Array CpInfo := ⟨poolList es last⟩
def fileOf (pool : Array CpInfo) (this : Nat) (attrs : Array Attribute := #[]) (ms : Array MethodInfo := #[]) (fl : Nat := 33) (sup : Nat := 0) (ifs : Array Nat := #[]) (fds : Array FieldInfo := #[]) : ClassFile where
  minorVersion := 0
  majorVersion := 65
  constantPool := pool
  accessFlags := fl
  thisClass := this
  superClass := sup
  interfaces := ifs
  fields := fds
  methods := ms
  attributes := attrs
def plain (name : String) (sup : Option ClassId) : Class where
  name := name
  kind := .ordinary
  loader := none
  accessFlags := 33
  super := sup
  interfaces := #[]
  cf := none
  fields := #[]
  methods := #[]
  instanceTypes := #[]
  staticTypes := #[]
  resolved := #[]
  callSites := []
  init := .initialized
  statics := none
  mirror := none

def pool0 : Array CpInfo := pool [(5, u "<init>"), (0, u "()V"), (1, .class_ 10), (1, u "java/lang/Object")] 113

def k0c0 : Code := { maxStack := 0, maxLocals := 1, code := object_method_1_code, exceptionTable := #[], attributes := #[] }
def k0m0 : Method := { name := "<init>", desc := "()V", sig := { parameters := [], returnType := none }, accessFlags := 1, code := some k0c0 }
/-- java/lang/Object -/
def k0 : Class := { plain "java/lang/Object" none with
  accessFlags := 33
  interfaces := #[]
  cf := some (fileOf pool0 8 #[] #[{ accessFlags := 1, nameIndex := 5, descriptorIndex := 6, attributes := #[] }] 33 0 #[] #[])
  fields := #[]
  methods := #[k0m0]
  instanceTypes := #[]
  staticTypes := #[]
  resolved := Array.replicate 124 none
  statics := none }

def pool1 : Array CpInfo := pool [(2, .class_ 4), (1, u "java/lang/Object"), (0, u "<init>"), (0, u "()V"), (0, .class_ 8), (0, u "com/example/nestmine/nestmine/Conformance$Score"), (0, .methodref 7 10), (0, .nameAndType 5 11), (0, u "(JJ)V"), (0, .methodref 7 13), (0, .nameAndType 14 15), (0, u "value"), (0, u "()D"), (2, .long 9223372036854775807), (1, .long 2147483648), (1, .integer 1048575), (0, .long 2), (1, .double 4602678819172646912), (1, .long 4), (1, .double 4604930618986332160), (1, .class_ 32), (0, u "com/example/nestmine/nestmine/ScoreValuePinLaw"), (2, u "law"), (0, u "(JJJJI)Z")] 7

def k1m0 : Method := { name := "<init>", desc := "()V", sig := { parameters := [], returnType := none }, accessFlags := 2, code := none }
def k1c1 : Code := { maxStack := 8, maxLocals := 24, code := code, exceptionTable := #[], attributes := #[] }
def k1m1 : Method := { name := "law", desc := "(JJJJI)Z", sig := { parameters := [.long, .long, .long, .long, .int], returnType := some .boolean }, accessFlags := 9, code := some k1c1 }
/-- com/example/nestmine/nestmine/ScoreValuePinLaw -/
def k1 : Class := { plain "com/example/nestmine/nestmine/ScoreValuePinLaw" (some 0) with
  accessFlags := 49
  interfaces := #[]
  cf := some (fileOf pool1 31 #[] #[{ accessFlags := 2, nameIndex := 5, descriptorIndex := 6, attributes := #[] }, { accessFlags := 9, nameIndex := 35, descriptorIndex := 36, attributes := #[] }] 49 2 #[] #[])
  fields := #[]
  methods := #[k1m0, k1m1]
  instanceTypes := #[]
  staticTypes := #[]
  resolved := Array.replicate 44 none
  statics := none }

def pool2 : Array CpInfo := pool [(1, .methodref 2 3), (0, .class_ 4), (0, .nameAndType 5 6), (0, u "java/lang/Object"), (0, u "<init>"), (0, u "()V"), (0, .class_ 8), (0, u "java/lang/Record")] 13

def k2c0 : Code := { maxStack := 1, maxLocals := 1, code := jdk_30_method_1_code, exceptionTable := #[], attributes := #[] }
def k2m0 : Method := { name := "<init>", desc := "()V", sig := { parameters := [], returnType := none }, accessFlags := 4, code := some k2c0 }
/-- java/lang/Record -/
def k2 : Class := { plain "java/lang/Record" (some 0) with
  accessFlags := 1057
  interfaces := #[]
  cf := some (fileOf pool2 7 #[] #[{ accessFlags := 4, nameIndex := 5, descriptorIndex := 6, attributes := #[] }] 1057 2 #[] #[])
  fields := #[]
  methods := #[k2m0]
  instanceTypes := #[]
  staticTypes := #[]
  resolved := Array.replicate 22 none
  statics := none }

def pool3 : Array CpInfo := pool [(1, .methodref 2 3), (0, .class_ 4), (0, .nameAndType 5 6), (0, u "java/lang/Record"), (0, u "<init>"), (0, u "()V"), (0, .fieldref 8 9), (0, .class_ 10), (0, .nameAndType 11 12), (0, u "com/example/nestmine/nestmine/Conformance$Score"), (0, u "lost"), (0, u "J"), (0, .fieldref 8 14), (0, .nameAndType 15 12), (0, u "possible"), (34, u "(JJ)V"), (3, u "value"), (0, u "()D"), (8, .class_ 65), (0, u "com/example/nestmine/nestmine/Conformance")] 20

def k3c0 : Code := { maxStack := 3, maxLocals := 5, code := prog_20_method_1_code, exceptionTable := #[], attributes := #[] }
def k3m0 : Method := { name := "<init>", desc := "(JJ)V", sig := { parameters := [.long, .long], returnType := none }, accessFlags := 1, code := some k3c0 }
def k3c1 : Code := { maxStack := 6, maxLocals := 1, code := prog_20_method_2_code, exceptionTable := #[], attributes := #[] }
def k3m1 : Method := { name := "value", desc := "()D", sig := { parameters := [], returnType := some .double }, accessFlags := 1, code := some k3c1 }
/-- com/example/nestmine/nestmine/Conformance$Score -/
def k3 : Class := { plain "com/example/nestmine/nestmine/Conformance$Score" (some 2) with
  accessFlags := 49
  interfaces := #[]
  cf := some (fileOf pool3 8 #[.nestHost 64] #[{ accessFlags := 1, nameIndex := 5, descriptorIndex := 50, attributes := #[] }, { accessFlags := 1, nameIndex := 54, descriptorIndex := 55, attributes := #[] }] 49 2 #[] #[{ accessFlags := 18, nameIndex := 11, descriptorIndex := 12, attributes := #[] }, { accessFlags := 18, nameIndex := 15, descriptorIndex := 12, attributes := #[] }])
  fields := #[{ name := "lost", type := .long, accessFlags := 18, slot := 0, constantValue := 0 }, { name := "possible", type := .long, accessFlags := 18, slot := 1, constantValue := 0 }]
  methods := #[k3m0, k3m1]
  instanceTypes := #[.long, .long]
  staticTypes := #[]
  resolved := Array.replicate 86 none
  statics := none }

def pool4 : Array CpInfo := pool [(1, u "java/lang/Cloneable"), (0, .class_ 1), (0, u "java/lang/Object"), (0, .class_ 3)] 3

/-- java/lang/Cloneable -/
def k4 : Class := { plain "java/lang/Cloneable" (some 0) with
  accessFlags := 1537
  interfaces := #[]
  cf := some (fileOf pool4 2 #[] #[] 1537 4 #[] #[])
  fields := #[]
  methods := #[]
  instanceTypes := #[]
  staticTypes := #[]
  resolved := Array.replicate 8 none
  statics := none }

def pool5 : Array CpInfo := pool [(1, u "java/io/Serializable"), (0, .class_ 1), (0, u "java/lang/Object"), (0, .class_ 3)] 3

/-- java/io/Serializable -/
def k5 : Class := { plain "java/io/Serializable" (some 0) with
  accessFlags := 1537
  interfaces := #[]
  cf := some (fileOf pool5 2 #[] #[] 1537 4 #[] #[])
  fields := #[]
  methods := #[]
  instanceTypes := #[]
  staticTypes := #[]
  resolved := Array.replicate 8 none
  statics := none }

/-- the primitive byte -/
def k6 : Class := { plain "byte" none with kind := .primitive 'B', accessFlags := 0x411 }
/-- [B -/
def k7 : Class := { plain "[B" (some 0) with kind := .array 6 .byte, interfaces := #[4, 5], accessFlags := 1041 }

/-- the primitive int -/
def k8 : Class := { plain "int" none with kind := .primitive 'I', accessFlags := 0x411 }
/-- [I -/
def k9 : Class := { plain "[I" (some 0) with kind := .array 8 .int, interfaces := #[4, 5], accessFlags := 1041 }

def heap : Heap := #[]
def classes : Array Class := #[k0, k1, k2, k3, k4, k5, k6, k7, k8, k9]
def interned : List (Array UInt16 × Addr) := []
def slotsUsed : Nat := 0
def theMethod : MethodId := ⟨1, 1⟩
def args0 : Array Value := #[.long 5, .long 7, .long 9, .long 11, .int 1]
def aboutOver (below : List Frame) : State where
  vm := { classes := classes, interned := interned.toArray }
  heap := heap
  slotsUsed := slotsUsed
  threads := #[{ frames := .invoking theMethod args0 :: below }]
def below0 : List Frame := [.native { method := ⟨0, 0⟩, args := #[] }]
def about1 : State := aboutOver below0
def p0 : Program := .bare "" "" ""
def e0 : Env := launch0.env 0 0 0
theorem w_frames : about1.frames = Frame.invoking theMethod args0 :: below0 := rfl
set_option maxRecDepth 65536 in
theorem w_args : argsFit about1.vm theMethod args0 = true := by decide +kernel
set_option maxRecDepth 65536 in
theorem w_heap : heapFits about1 = true := by decide +kernel
set_option maxRecDepth 65536 in
theorem w_runnable : about1.curStatus? = some .runnable := by decide +kernel
set_option maxRecDepth 65536 in
theorem w_alone : about1.alone = true := by decide +kernel
set_option maxRecDepth 65536 in
theorem w_named : about1.methodNamed? x = some theMethod := by decide +kernel
set_option maxRecDepth 65536 in
theorem w_hears : about1.hears theMethod below0 = true := by decide +kernel
set_option maxRecDepth 65536 in
theorem w_ripe : about1.ripe theMethod args0 below0 = true := by decide +kernel
theorem w_running : about1.status = .running := rfl
set_option maxRecDepth 65536 in
theorem w_room : about1.hasRoom e0.platform room_1 = true :=
  launch0.hasRoom_least _ room_1 (by decide +kernel) (by decide +kernel) (by decide +kernel) (by decide +kernel) (by decide +kernel) (by decide +kernel)
theorem allAtoms_all (ts : List Jvm.Cond) (a : Array Jvm.Value) (st : Jvm.State) : (allAtoms ts).before a st = ts.all (fun c => c.before a st) := by
  induction ts with
  | nil => rfl
  | cons c t ih =>
    show (Jvm.Cond.and c (allAtoms t)).before a st = _
    rw [Jvm.Cond.before_and, ih, List.all_cons]
def words1 : List Jvm.Cond := Jvm.Cond.code x code maxLocals ret :: tables_1
/-- a 'code' word, met by the world's own term for the bytes: nothing is compared byte by byte -/
theorem code_word {y : MethodName} {bytes : ByteArray} {mx : Nat} {rt : Option FieldType} {a : Array Value} {s : State} {m : MethodId} {meth : Method} {c : Code} (h1 : s.methodNamed? y = some m) (h2 : s.vm.method? m = some meth) (h3 : meth.code = some c) (h4 : c.code = bytes)
    (h5 : (c.maxLocals == mx && c.exceptionTable.isEmpty && decide (c.maxStack ≤ mostOperands) && decide (meth.sig.returnType = rt) && !meth.locks && decide (parseMethodDescriptor y.desc = some meth.sig)) = true) : (Jvm.Cond.code y bytes mx rt).before a s = true := by
  simp only [Bool.and_eq_true, beq_iff_eq, Bool.not_eq_true', decide_eq_true_eq] at h5
  obtain ⟨⟨⟨⟨⟨g1, g2⟩, g3⟩, g4⟩, g5⟩, g6⟩ := h5
  simp [Cond.before, Cond.holds, Cond.value, h1, h2, h3, h4, g1, g2, g3, g4, g5, g6]
def isCode : Jvm.Cond → Bool
  | .code _ _ _ _ => true
  | _ => false
theorem all_split {L : List Jvm.Cond} {P : Jvm.Cond → Bool} (h1 : L.all (fun c => isCode c || P c) = true) (h2 : ∀ c ∈ L.filter isCode, P c = true) : L.all P = true := by
  refine List.all_eq_true.mpr fun c hc => ?_
  have h := List.all_eq_true.mp h1 c hc
  rcases Bool.eq_false_or_eq_true (isCode c) with hi | hi
  · exact h2 c (List.mem_filter.mpr ⟨hc, hi⟩)
  · simpa [hi] using h
set_option maxRecDepth 65536 in
theorem w_c0 : (Jvm.Cond.code x code maxLocals ret).before args0 about1 = true := code_word (m := ⟨1, 1⟩) (meth := k1m1) (c := k1c1) (by decide +kernel) rfl rfl rfl (by decide +kernel)
set_option maxRecDepth 65536 in
theorem w_c1 : (Jvm.Cond.code ({ cls := "com/example/nestmine/nestmine/Conformance$Score", name := "<init>", desc := "(JJ)V" } : Jvm.MethodName) prog_20_method_1_code (5 : Nat) (Option.none : Option Jvm.ClassFile.FieldType)).before args0 about1 = true := code_word (m := ⟨3, 0⟩) (meth := k3m0) (c := k3c0) (by decide +kernel) rfl rfl rfl (by decide +kernel)
set_option maxRecDepth 65536 in
theorem w_c2 : (Jvm.Cond.code ({ cls := "java/lang/Record", name := "<init>", desc := "()V" } : Jvm.MethodName) jdk_30_method_1_code (1 : Nat) (Option.none : Option Jvm.ClassFile.FieldType)).before args0 about1 = true := code_word (m := ⟨2, 0⟩) (meth := k2m0) (c := k2c0) (by decide +kernel) rfl rfl rfl (by decide +kernel)
set_option maxRecDepth 65536 in
theorem w_c3 : (Jvm.Cond.code ({ cls := "java/lang/Object", name := "<init>", desc := "()V" } : Jvm.MethodName) object_method_1_code (1 : Nat) (Option.none : Option Jvm.ClassFile.FieldType)).before args0 about1 = true := code_word (m := ⟨0, 0⟩) (meth := k0m0) (c := k0c0) (by decide +kernel) rfl rfl rfl (by decide +kernel)
set_option maxRecDepth 65536 in
theorem w_c4 : (Jvm.Cond.code ({ cls := "com/example/nestmine/nestmine/Conformance$Score", name := "value", desc := "()D" } : Jvm.MethodName) prog_20_method_2_code (1 : Nat) (Option.some Jvm.ClassFile.FieldType.double)).before args0 about1 = true := code_word (m := ⟨3, 1⟩) (meth := k3m1) (c := k3c1) (by decide +kernel) rfl rfl rfl (by decide +kernel)
def codes1 : List Jvm.Cond := [Jvm.Cond.code x code maxLocals ret, Jvm.Cond.code ({ cls := "com/example/nestmine/nestmine/Conformance$Score", name := "<init>", desc := "(JJ)V" } : Jvm.MethodName) prog_20_method_1_code (5 : Nat) (Option.none : Option Jvm.ClassFile.FieldType), Jvm.Cond.code ({ cls := "java/lang/Record", name := "<init>", desc := "()V" } : Jvm.MethodName) jdk_30_method_1_code (1 : Nat) (Option.none : Option Jvm.ClassFile.FieldType), Jvm.Cond.code ({ cls := "java/lang/Object", name := "<init>", desc := "()V" } : Jvm.MethodName) object_method_1_code (1 : Nat) (Option.none : Option Jvm.ClassFile.FieldType), Jvm.Cond.code ({ cls := "com/example/nestmine/nestmine/Conformance$Score", name := "value", desc := "()D" } : Jvm.MethodName) prog_20_method_2_code (1 : Nat) (Option.some Jvm.ClassFile.FieldType.double)]
set_option maxRecDepth 65536 in
theorem codes_eq : words1.filter isCode = codes1 := rfl
theorem w_codes : ∀ c ∈ words1.filter isCode, c.before args0 about1 = true := by
  rw [codes_eq]
  intro c hc
  simp only [codes1, List.mem_cons, List.not_mem_nil, or_false] at hc
  rcases hc with rfl | rfl | rfl | rfl | rfl
  · exact w_c0
  · exact w_c1
  · exact w_c2
  · exact w_c3
  · exact w_c4
set_option maxRecDepth 65536 in
theorem w_t1 : (words1.take 24).all (fun c => isCode c || c.before args0 about1) = true := by decide +kernel
set_option maxRecDepth 65536 in
theorem w_t2 : (words1.drop 24).all (fun c => isCode c || c.before args0 about1) = true := by decide +kernel
theorem w_tables : (allAtoms (Jvm.Cond.code x code maxLocals ret :: tables_1)).before args0 about1 = true := by
  rw [allAtoms_all]
  show words1.all (fun c => c.before args0 about1) = true
  refine all_split ?_ w_codes
  rw [← List.take_append_drop 24 words1, List.all_append, w_t1, w_t2]
  rfl
set_option maxRecDepth 65536 in
theorem w_case : (Jvm.Cond.and given_1 narrow_1).before args0 about1 = true := by decide +kernel
theorem w_applies : (headSpec (Jvm.Cond.code x code maxLocals ret :: tables_1) room_1).applies x e0.platform about1 = true :=
  (Spec.applies_iff w_frames).mpr ⟨w_running, w_runnable, w_alone, w_named, w_hears, w_ripe, w_room, w_tables⟩
theorem atStart : AtStart classFile x code maxLocals ret World_1 tables_1 room_1 Calls_1 rest_1 Pre_1 launch0 p0 e0 about1 theMethod args0 below0 :=
  ⟨lists_1, trivial, launch0.admits_env _ _ _, launch0.least_env, fairChoices_fair.cas, fairChoices_fair.clock, w_frames, w_args, w_heap, w_applies, trivial, trivial, w_case⟩
end start1
theorem witness_1 : WitnessClaimed_1 := ⟨start1.p0, start1.e0, start1.about1, start1.theMethod, start1.args0, start1.below0, start1.atStart⟩
end Jvm.Pilot.@@N@@
